import PyProof.Rows.All
import PyProof.AttrMiss
import PyProof.Conv_int
import PyProof.GenComp
import PyProof.TwoTypesSub
import Wide.All
import Wide.FinOn
import OpenK.AllK
import PySem.Challenge.RW_fq0019_01
set_option Elab.async false
section
open PySem PySem.W PySem.Calls PyProof.Rows
set_option maxRecDepth 100000
set_option linter.unusedVariables false
namespace Mine
noncomputable def isFin : Code → Bool
  | .builtin id _ => id == "lifetime.gc.finalise"
  | _ => false
noncomputable def calmStack (st : List (Code × Pos)) : Bool := st.all fun x => !isFin x.1
noncomputable def NF (Γ : Ctx) : Prop := isFin Γ.code = false ∧ calmStack Γ.below = true
theorem nf_iff {Γ : Ctx} {p : Pos} : calmStack ((Γ.code, p) :: Γ.below) = true ↔ NF Γ := by
  unfold calmStack NF
  rw [List.all_cons, Bool.and_eq_true, Bool.not_eq_true']
  exact Iff.rfl
noncomputable def guarded (f : Value) (vs : List Value) : Sem Value := .stack fun st => if calmStack st = true then call f vs else pure (.bool true)
noncomputable def gTree (name : Str) (vs : List Value) : Sem Fin := .stack fun st => if calmStack st = true then (do match ← nsGet mainNs name with
      | some f => do ret (← PySem.call f vs)
      | none => unsupported "claim.caller:no-such-global") else pure (.done (.ret (.bool true)))
theorem sched_stack {den : Code → Sem Fin} {prog : Program} {w : World} {s : Shared} {k : List (Code × Pos) → Sem Fin} {c : Code} {p : Pos} (hc : Thread.calm ⟨.stack k, c, p, []⟩ = true) (hs : s.asleep) {n : Nat} {o : Outcome} {s' : Shared}
    (h : schedN den prog w n (.single s ⟨.stack k, c, p, []⟩) = .halted o s') : ∃ m, schedN den prog w m (.single s ⟨k [(c, p)], c, p, []⟩) = .halted o s' := by
  cases n with
  | zero => cases h
  | succ n =>
    obtain ⟨heap, gens, drawn, toks, os⟩ := s
    have st : step den prog w ⟨heap, gens, drawn, toks, os⟩ ⟨.stack k, c, p, []⟩ = .go ⟨heap, gens, drawn, toks, os⟩ ⟨k [(c, p)], c, p, []⟩ := rfl
    rcases sstep_single den prog w _ _ hc hs with e | e
    · rw [st] at e
      refine ⟨n, ?_⟩
      simp only [schedN, e, Step.lift] at h
      exact h
    · rw [st] at e; cases e
theorem callFrom_unguard {c : ClaimW} {name : Str} {w : World} {free : Addr → Prop} {gens : Prop} {kept : Heap → Prop} {s : Shared} (hz : s.asleep)
    (h : c.CallFrom (fun vs => ⟨gTree name vs, .builtin "claim.caller" {}, default, []⟩) w free gens kept s) : c.CallFrom (callStub name) w free gens kept s := by
  intro args hpre hlay ord hord
  obtain ⟨vs, s₁, hlaid, n, o, s', hs, rest⟩ := h args hpre hlay ord hord
  have hal := layAllW_rest _ _ _ hlaid
  obtain ⟨m, hm⟩ := sched_stack (c := .builtin "claim.caller" {}) (p := default) rfl (Shared.asleep_of_life hal.2.2.2 hz) hs
  exact ⟨vs, s₁, hlaid, m, o, s', hm, rest⟩
theorem holds_unguard {c : ClaimW} {name : Str} {defs keeps : List Str} {writes : Bool} (h : c.HoldsOpenBy (fun vs => ⟨gTree name vs, .builtin "claim.caller" {}, default, []⟩) defs keeps writes) : c.HoldsOpenBy (callStub name) defs keeps writes := by
  obtain ⟨h1, h2, h3⟩ := h
  refine ⟨h1, h2, fun w => ⟨(h3 w).1, fun s hs => ?_⟩⟩
  obtain ⟨s₀, a1, a2, s₁, a3, a4, a5, a6, a7⟩ := (h3 w).2 s hs
  have hs' : AfterImport (opening c.prog) w s := hs
  have z1 : s₁.asleep := Shared.asleep_of_life (a3.2.1.trans (fence_lifeW a1)) hs'.life
  exact ⟨s₀, a1, a2, s₁, a3, a4, a5, a6, callFrom_unguard z1 a7⟩
theorem PySem.W.holds_open {r : OpenRow} {q : Program} {loose : List Str} {Xt : Shared → Bool} {XP : (Str → Option Value) → Heap → Prop} {α : Type} {Yf : Shared → α} {Ya : World → α} {YP : World → Heap → Prop} {d : DefRec} {kwd : List (Str × Expr)} {N : Nat}
    (left : LeftO r.prog q loose Xt Yf Ya N) (hY : ∀ w s, Yf s = Ya w → YP w s.heap) (hYk : ∀ w h h', YP w h → (∀ b o, h.get? b = some o → h'.get? b = some o) → YP w h')
    (hX : ∀ s, Xt s = true → XP (s.heap.nsMap mainGlobals) s.heap) (hXk : ∀ mg h h', XP mg h → (∀ b o, h.get? b = some o → h'.get? b = some o) → XP mg h')
    (hdef : defOf q r.name = some (d, kwd)) (hp : r.prog.theDef r.name = some (d.params, d.body, d.scope)) (hk : kwWritten? d.params.kwonlyargs d.params.kw_defaults = some kwd) (hRf : ∀ s, Xt s = true → RecFacts r.records s.heap) (hwr : (!r.writes || r.records.isEmpty) = true)
    (k1 : r.wellSaid = true) (ok : (chainsOk q && opensWell r.prog && (frees r.toRowW && r.within.isEmpty)) = true) (hb : r.prog.bare) (hw : r.toRowW.promised)
    (call : WalkO q loose XP YP r.toRowW d kwd guarded) : r.Holds := by
  refine ⟨k1, hw, holds_unguard (open_anyG (r := r.toRowW) (run := guarded) (tree := gTree r.name) left hY hYk hX hXk hRf hwr ok hb hw ?_ ?_ ?_)⟩
  · intro vs w s mg f Q E hg hf h Γ p hΓ
    have h' := h Γ p hΓ
    show Sem.wp _ Γ (if calmStack ((Γ.code, p) :: Γ.below) = true then _ else _) _ _ p s
    have h2 : Sem.wp (model r.prog w) Γ (if calmStack ((Γ.code, p) :: Γ.below) = true then PySem.call f vs else pure (.bool true)) (fun v _ s' => Q (.done (.ret v)) s') (fun e _ s' => E e s') p s := h'
    cases hc : calmStack ((Γ.code, p) :: Γ.below) with
    | false =>
      rw [hc] at h2
      rw [if_neg Bool.false_ne_true] at h2 ⊢
      exact h2
    | true =>
      rw [hc] at h2
      rw [if_pos rfl] at h2 ⊢
      rw [Sem.wp_bind']
      show Sem.wp _ Γ (nsGet mainGlobals r.name) _ _ p s
      rw [Sem.wp_nsGet _ Γ _ p s hg, hf]
      show Sem.wp _ Γ (PySem.call f vs >>= fun v => ret v) _ _ p s
      rw [Sem.wp_bind']
      exact h2
  · intro w s hg G n hn
    obtain rfl : n = r.name := by split at hn <;> simp_all
    exact pinned_of_view hg G hdef hp hk
  · intro w s₀ s₁ mg mb G Y args vs as hpre hlay L low
    obtain ⟨a, o, pm, cd, doc, dV, kV, h1, h2, h3, h4, h5⟩ := G.fn hdef
    exact ⟨.ref a, h1, call w s₀ s₁ mg mb G Y a o pm cd doc dV kV h2 h3 h4 h5 (defOf_name hdef ▸ h1) L.gens args vs as hpre hlay L.reads L.well (L.low low)⟩
end Mine
end
section
open PySem PySem.W PyProof.Rows
namespace Mine
local macro_rules | `(tactic| k_head) => `(tactic| x_head)
set_option maxRecDepth 100000 in
set_option maxHeartbeats 8000000 in
open_top hd for PySem.Challenge.rw_fq0019_01
end Mine
end
section
open PySem PySem.W PySem.Calls PyProof.Rows
set_option maxRecDepth 100000
namespace Mine
inductive AV where
  | none
  | bool (b : Bool)
  | int (i : Int)
  | str (s : Str)
  | ref (a : Addr)
  | oth (v : Value)
noncomputable def er : Value → AV
  | .none => .none
  | .bool b => .bool b
  | .int i _ => .int i
  | .str s _ => .str s
  | .ref a => .ref a
  | v => .oth v
theorem er_none {v : Value} (h : er v = .none) : v = .none := by cases v <;> first | rfl | cases h
theorem er_bool {v : Value} {b : Bool} (h : er v = .bool b) : v = .bool b := by cases v <;> first | (cases h; rfl) | cases h
theorem er_int {v : Value} {i : Int} (h : er v = .int i) : ∃ t, v = .int i t := by cases v <;> first | (cases h; exact ⟨_, rfl⟩) | cases h
theorem er_str {v : Value} {i : Str} (h : er v = .str i) : ∃ t, v = .str i t := by cases v <;> first | (cases h; exact ⟨_, rfl⟩) | cases h
theorem er_ref {v : Value} {a : Addr} (h : er v = .ref a) : v = .ref a := by cases v <;> first | (cases h; rfl) | cases h
theorem er_type {v : Value} {n : String} (h : er v = .oth (.type n)) : v = .type n := by cases v <;> first | (cases h; rfl) | cases h
theorem er_builtin {v : Value} {n : String} (h : er v = .oth (.builtin n)) : v = .builtin n := by cases v <;> first | (cases h; rfl) | cases h
inductive AO where
  | list (vs : List AV)
  | tup (vs : List AV)
  | idict (kvs : List (Int × AV)) (ep : Nat)
  | ns (m : List (Str × AV))
  | set (S : Int → Bool) (n : Nat)
  | cell (v : Option AV)
  | inst (C d : Addr)
  | rng (a b : Int)
  | kit (d : Addr) (i N ep : Nat)
  | raw (o : Obj)
  | tab
abbrev prog : Program := PySem.Challenge.rw_fq0019_01.row.prog
noncomputable def ern (p : Int × Value) : Int × AV := (p.1, er p.2)
noncomputable def lk (l : List (Str × AV)) (x : Str) : Option AV := match l with
  | [] => none
  | (k, v) :: r => if k = x then some v else lk r x
noncomputable def lset (x : Str) (v : AV) (l : List (Str × AV)) : List (Str × AV) := match l with
  | [] => [(x, v)]
  | (k, u) :: r => if k = x then (k, v) :: r else (k, u) :: lset x v r
theorem lk_lset (x : Str) (v : AV) (y : Str) : ∀ l, lk (lset x v l) y = if x = y then some v else lk l y
  | [] => by simp [lset, lk]
  | (k, u) :: r => by
    unfold lset
    by_cases h : k = x
    · rw [if_pos h]; subst h; unfold lk; by_cases q : k = y <;> simp [q]
    · rw [if_neg h]
      show (if k = y then some u else lk (lset x v r) y) = _
      rw [lk_lset x v y r]
      show _ = if x = y then some v else if k = y then some u else lk r y
      by_cases q : k = y
      · rw [if_pos q, if_pos q, if_neg (fun z => h (q.trans z.symm))]
      · rw [if_neg q, if_neg q]
noncomputable def NsO (w : World) (m : List (Str × AV)) (o : Obj) : Prop :=
  ∃ es ep sl, o = ⟨.type "dict", none, .dict es ep, sl⟩ ∧ KeysOf (PySem.strKind prog w) es ∧ es.size = m.length ∧ (∀ x, (nsFind es x).map er = lk m x)
noncomputable def RepO (w : World) : AO → Obj → Prop
  | .list vs, o => ∃ items n, o = { cls := .type "list", data := .seq items n } ∧ items.toList.map er = vs
  | .tup vs, o => ∃ items n, o = { cls := .type "tuple", data := .seq items n } ∧ items.toList.map er = vs
  | .idict kvs ep, o => ∃ es kvs', o.ExactDict ∧ o.data = .dict es ep ∧ KeysOf (intKind prog w) es ∧ Pairs (intKind prog w) es.toList kvs' ∧ (kvs'.map (·.1)).Nodup ∧ kvs'.map ern = kvs
  | .ns m, o => NsO w m o
  | .set S n, o => o.SetObjOf (intKind prog w) S n ∧ o.isFreed = false
  | .cell v, o => ∃ c, o = { cls := .type "cell", data := .cell c } ∧ c.map er = v
  | .inst C d, o => o = instObj C d
  | .rng a b, o => ∃ t u v, o = { cls := .type "range", data := .fields #[.int a t, .int b u, .int 1 v] }
  | .kit d i N ep, o => o.cls = .type "dict_keyiterator" ∧ o.data = .fields #[.ref d, .int i 0, .int N 0, .int ep 0]
  | .raw ob, o => o = ob ∧ ob.isFreed = false
  | .tab, o => ∃ ps, o = { cls := .none, data := .fields ps } ∧ TriplesOk ps.toList
structure AS where
  f : Addr → Option AO
  hi : Nat
noncomputable def AS.ins (σ : AS) (a : Addr) (o : AO) : AS := ⟨fun x => if x = a then some o else σ.f x, a + 1⟩
noncomputable def AS.upd (σ : AS) (a : Addr) (o : AO) : AS := ⟨fun x => if x = a then some o else σ.f x, σ.hi⟩
theorem AS.ins_f (σ : AS) (a : Addr) (o : AO) (x : Addr) : (σ.ins a o).f x = if x = a then some o else σ.f x := rfl
theorem AS.ins_hi (σ : AS) (a : Addr) (o : AO) : (σ.ins a o).hi = a + 1 := rfl
theorem AS.upd_f (σ : AS) (a : Addr) (o : AO) (x : Addr) : (σ.upd a o).f x = if x = a then some o else σ.f x := rfl
theorem AS.upd_hi (σ : AS) (a : Addr) (o : AO) : (σ.upd a o).hi = σ.hi := rfl
structure Bs where
  o : Addr → Option Obj
  g : Nat → Option GenState
  os : OsState
noncomputable def Bs.add (B : Bs) (a : Addr) (ob : Obj) : Bs := { B with o := fun x => if x = a then some ob else B.o x }
structure RepB (w : World) (B : Bs) (σ : AS) (s : Shared) : Prop where
  keep : ∀ b o, B.o b = some o → s.heap.get? b = some o
  apart : ∀ a o, σ.f a = some o → B.o a = none
  objs : ∀ a o, σ.f a = some o → ∃ ob, s.heap.get? a = some ob ∧ RepO w o ob
  dom : ∀ a o, σ.f a = some o → a < σ.hi
  hi : σ.hi ≤ s.heap.objs.size
  os : s.os = B.os
  gens : (∀ i x, B.g i = some x → s.gens[i]? = some x) ∧ ∀ x ∈ s.gens, x.bare = true
structure Base (K : Frag) (B : Bs) : Prop where
  kin : ∀ a o, K.lookup a = some o → B.o a = some o
  blt : ∃ ob es ep, B.o builtinsNs = some ob ∧ ob.data = .dict es ep ∧ StrKeys es ∧ ∀ x : Str, x ≠ "__name__" → nsFind es x = bootBuiltins x
  nolim : nsOkIn K cStatics = true ∧ nsIn K cStatics "sys.recursionlimit" = some none
  glob : nsOkIn K mainGlobals = true
  sysm : ∃ ob, B.o sysModules = some ob
noncomputable def Room (n : Nat) (A : Around) : Prop := A.handled = none ∧ A.depth + 4 * n < 900 ∧ A.units + 40 * n < 9000
theorem cps_inj : ∀ {a b : List Char}, a.map Char.toNat = b.map Char.toNat → a = b
  | [], [], _ => rfl
  | [], _ :: _, h => by cases h
  | _ :: _, [], h => by cases h
  | x :: a, y :: b, h => by
    simp only [List.map_cons, List.cons.injEq] at h
    have : x = y := Char.ext (UInt32.toNat_inj.mp h.1)
    rw [this, cps_inj h.2]
theorem ofString_inj (a b : String) : (Str.ofString a = Str.ofString b) = (a = b) := by
  refine propext ⟨fun h => ?_, fun h => by rw [h]⟩
  rw [Str.ofString_eq_toList, Str.ofString_eq_toList] at h
  injection h with h
  exact String.toList_inj.mp (cps_inj (by simpa using congrArg Array.toList h))
structure EnvOK (env : Env) : Prop where
  kind : env.scope.kind = .function
  glob : env.globals = mainGlobals
  blt : env.builtins = builtinsNs
structure RepF (w : World) (B : Bs) (env : Env) (l : List (Str × AV)) (σ : AS) (s : Shared) : Prop where
  rep : RepB w B σ s
  ns : ∃ m, s.heap.Ns env.locals m ∧ ∀ x, (m x).map er = lk l x
  lo : σ.f env.locals = none
  lb : B.o env.locals = none
section
variable {w : World} {B : Bs} {σ : AS} {s : Shared} {K : Frag}
theorem RepO.notFreed {w : World} {o : AO} {ob : Obj} (h : RepO w o ob) : ob.isFreed = false := by
  cases o with
  | list vs => obtain ⟨_, _, rfl, _⟩ := h; rfl
  | tup vs => obtain ⟨_, _, rfl, _⟩ := h; rfl
  | idict kvs ep => obtain ⟨es, _, _, hd, _⟩ := h; exact Obj.isFreed_of_dict hd
  | ns m => obtain ⟨_, _, _, rfl, _⟩ := h; rfl
  | set S n => exact h.2
  | cell v => obtain ⟨_, rfl, _⟩ := h; rfl
  | inst C d => rw [show ob = instObj C d from h]; rfl
  | rng a b => obtain ⟨_, _, _, rfl⟩ := h; rfl
  | kit d i N ep => exact Obj.isFreed_of_fields h.2
  | raw o => rw [h.1]; exact h.2
  | tab => obtain ⟨ps, rfl, _⟩ := h; rfl
theorem RepB.ext (R : RepB w B σ s) {h' : Heap} {tk : Nat} (hk : ∀ b o, s.heap.get? b = some o → h'.get? b = some o) (hz : s.heap.objs.size ≤ h'.objs.size) :
    RepB w B σ { s with heap := h', toks := tk } :=
  ⟨fun b o e => hk b o (R.keep b o e), R.apart, fun a o e => let ⟨ob, a1, a2⟩ := R.objs a o e; ⟨ob, hk _ _ a1, a2⟩, R.dom, Nat.le_trans R.hi hz, R.os, R.gens⟩
theorem RepB.toks (R : RepB w B σ s) {tk : Nat} : RepB w B σ { s with toks := tk } := R.ext (fun _ _ e => e) (Nat.le_refl _)
theorem RepB.lt (R : RepB w B σ s) {a : Addr} {o : AO} (e : σ.f a = some o) : a < s.heap.objs.size := Nat.lt_of_lt_of_le (R.dom a o e) R.hi
theorem RepB.blt (R : RepB w B σ s) {a : Addr} {o : Obj} (e : B.o a = some o) : a < s.heap.objs.size := Heap.lt_size (R.keep a o e)
theorem RepB.aside (R : RepB w B σ s) {L : Addr} {h' : Heap} {tk : Nat} (ho : σ.f L = none) (hb : B.o L = none) (hx : ∀ b o, b ≠ L → s.heap.get? b = some o → h'.get? b = some o) (hz : s.heap.objs.size ≤ h'.objs.size) :
    RepB w B σ { s with heap := h', toks := tk } :=
  ⟨fun b o e => hx b o (fun q => by rw [q, hb] at e; cases e) (R.keep b o e), R.apart,
   fun a o e => let ⟨ob, a1, a2⟩ := R.objs a o e; ⟨ob, hx _ _ (fun q => by rw [q, ho] at e; cases e) a1, a2⟩, R.dom, Nat.le_trans R.hi hz, R.os, R.gens⟩
theorem RepB.upd (R : RepB w B σ s) {a : Addr} {o o' : AO} {ob' : Obj} {h' : Heap} {tk : Nat} (e : σ.f a = some o) (hx : Heap.SameBut a s.heap h') (hg : h'.get? a = some ob') (hr : RepO w o' ob') :
    RepB w B (σ.upd a o') { s with heap := h', toks := tk } := by
  have hb := R.apart a o e
  refine ⟨fun b o1 e1 => (hx.2 b fun q => by rw [q, hb] at e1; cases e1).trans (R.keep b o1 e1), fun b o1 e1 => ?_, fun b o1 e1 => ?_, fun b o1 e1 => ?_, by show σ.hi ≤ _; rw [hx.1]; exact R.hi, R.os, R.gens⟩
  · rw [AS.upd_f] at e1
    split at e1
    · rename_i q; rw [q]; exact hb
    · exact R.apart b o1 e1
  · rw [AS.upd_f] at e1
    split at e1
    · rename_i q; cases e1; exact ⟨ob', q ▸ hg, hr⟩
    · rename_i q
      obtain ⟨ob, a1, a2⟩ := R.objs b o1 e1
      exact ⟨ob, (hx.2 b q).trans a1, a2⟩
  · rw [AS.upd_f] at e1
    split at e1
    · rename_i q; rw [q]; exact R.dom a o e
    · exact R.dom b o1 e1
theorem RepB.ins (R : RepB w B σ s) {a : Addr} {o' : AO} {ob' : Obj} {h' : Heap} {tk : Nat} (ha : s.heap.objs.size ≤ a) (hk : ∀ b o, s.heap.get? b = some o → h'.get? b = some o) (hz : s.heap.objs.size ≤ h'.objs.size)
    (hg : h'.get? a = some ob') (hr : RepO w o' ob') : RepB w B (σ.ins a o') { s with heap := h', toks := tk } := by
  refine ⟨fun b o1 e1 => hk _ _ (R.keep b o1 e1), fun b o1 e1 => ?_, fun b o1 e1 => ?_, fun b o1 e1 => ?_, Heap.lt_size hg, R.os, R.gens⟩
  · rw [AS.ins_f] at e1
    split at e1
    · rename_i q
      cases hb : B.o b with
      | none => rfl
      | some x => exact absurd (R.blt hb) (by rw [q]; exact Nat.not_lt.mpr ha)
    · exact R.apart b o1 e1
  · rw [AS.ins_f] at e1
    split at e1
    · rename_i q; cases e1; exact ⟨ob', q ▸ hg, hr⟩
    · obtain ⟨ob, a1, a2⟩ := R.objs b o1 e1
      exact ⟨ob, hk _ _ a1, a2⟩
  · rw [AS.ins_f] at e1
    show b < a + 1
    split at e1
    · rename_i q; rw [q]; exact Nat.lt_succ_self _
    · exact Nat.lt_succ_of_lt (Nat.lt_of_lt_of_le (R.lt e1) ha)
theorem RepB.hide (R : RepB w B σ s) {a : Addr} {ob : Obj} (e : s.heap.get? a = some ob) (ho : σ.f a = none) : RepB w (B.add a ob) σ s := by
  refine ⟨fun b o e1 => ?_, fun b o e1 => ?_, R.objs, R.dom, R.hi, R.os, R.gens⟩
  · simp only [Bs.add] at e1
    split at e1
    · rename_i q; cases e1; rw [q]; exact e
    · exact R.keep b o e1
  · simp only [Bs.add]
    rw [if_neg (fun q => by rw [q, ho] at e1; cases e1)]
    exact R.apart b o e1
theorem RepB.show (R : RepB w (B.add a ob) σ s) (hb : B.o a = none) : RepB w B σ s ∧ s.heap.get? a = some ob ∧ σ.f a = none := by
  have hn : σ.f a = none := by
    cases q : σ.f a with
    | none => rfl
    | some x => have := R.apart a x q; simp [Bs.add] at this
  refine ⟨⟨fun b o e1 => R.keep b o ?_, fun b o e1 => ?_, R.objs, R.dom, R.hi, R.os, R.gens⟩, R.keep a ob (by simp [Bs.add]), hn⟩
  · simp only [Bs.add]
    rw [if_neg (fun q => by rw [q, hb] at e1; cases e1)]
    exact e1
  · have := R.apart b o e1
    simp only [Bs.add] at this
    split at this
    · cases this
    · exact this
theorem Base.add (X : Base K B) {a : Addr} {ob : Obj} (hb : B.o a = none) : Base K (B.add a ob) := by
  have h : ∀ b o, B.o b = some o → (B.add a ob).o b = some o := fun b o e => by
    simp only [Bs.add]
    rw [if_neg (fun q => by rw [q, hb] at e; cases e)]
    exact e
  exact ⟨fun b o e => h _ _ (X.kin b o e), let ⟨ob', es, ep, e, r⟩ := X.blt; ⟨ob', es, ep, h _ _ e, r⟩, X.nolim, X.glob, let ⟨o, e⟩ := X.sysm; ⟨o, h _ _ e⟩⟩
theorem Base.In (X : Base K B) (R : RepB w B σ s) : K.In s.heap := fun a o e => R.keep a o (X.kin a o e)
theorem ns_of_ok {h : Heap} {N : Addr} (X : K.In h) (e : nsOkIn K N = true) : h.Ns N (h.nsMap N) := .of_isNs (isNs_of_in X e)
theorem ns_some_of {h : Heap} {N : Addr} {mg : Str → Option Value} {n : Str} {v : Value} (X : K.In h) (G : h.Ns N mg) (e : nsIn K N n = some (some v)) : mg n = some v := by
  obtain ⟨o, es, ep, ho, hd, _, hf⟩ := G
  unfold nsIn at e
  split at e
  · rename_i c d es' n' sl q
    have := X _ _ q
    rw [ho] at this
    cases this
    cases hd
    split at e
    · rename_i en he
      cases e
      rw [← hf]
      unfold nsFind findBy
      rw [← Array.find?_toList, he]
      rfl
    · split at e <;> cases e
  · cases e
theorem Base.noLimit (X : Base K B) (R : RepB w B σ s) : s.heap.NoLimit :=
  ⟨_, ns_of_ok (X.In R) X.nolim.1, ns_none_of (X.In R) (ns_of_ok (X.In R) X.nolim.1) X.nolim.2⟩
theorem Room.less {n m : Nat} {A : Around} (r : Room n A) (h : m ≤ n) : Room m A := ⟨r.1, by have := r.2.1; omega, by have := r.2.2; omega⟩
theorem Room.depth {n : Nat} {A : Around} (r : Room n A) : A.depth < recursionLimit := by have := r.2.1; show _ < 1000; omega
theorem Room.units {n : Nat} {A : Around} (r : Room n A) : A.units < cLine := by have := r.2.2; show _ < 9900; omega
theorem Room.deeper {n : Nat} {A : Around} {env : Env} (r : Room (n + 1) A) : Room n (A.deeper env) := ⟨r.1, by have := r.2.1; show A.depth + 1 + _ < _; omega, by have := r.2.2; show A.units + 3 + _ < _; omega⟩
theorem Room.in1 {n : Nat} {A : Around} (r : Room (n + 1) A) : Room n A.in1 := ⟨r.1, by have := r.2.1; show A.depth + _ < _; omega, by have := r.2.2; show A.units + 1 + _ < _; omega⟩
theorem mark_none (A : Around) : A.mark none = A := by obtain ⟨h, d, f, g, u⟩ := A; rfl
end
end Mine
end
section
open PySem PySem.W PySem.Calls PyProof.Rows
set_option maxRecDepth 100000
set_option linter.unusedVariables false
namespace Mine
inductive AF where
  | next | brk | cont
  | ret (v : AV)
noncomputable def ef : Flow → AF
  | .next => .next
  | .brk => .brk
  | .cont => .cont
  | .ret v => .ret (er v)
abbrev Loc := List (Str × AV)
noncomputable def VX (K : Frag) (w : World) (n : Nat) (env : Env) (l : Loc) {α β : Type} (ab : α → β) (t : Sem α) (Q : β → AS → Prop) (σ : AS) : Prop :=
  ∀ (A : Around) (B : Bs) (s : Shared), Room n A → Base K B → EnvOK env → RepF w B env l σ s → ∀ (k : α → Shared → Prop) (E : Value → Shared → Prop),
    (∀ v σ' s', Q (ab v) σ' → RepF w B env l σ' s' → k v s') → wpAny (model prog w) A t k E s
abbrev VE (K : Frag) (w : World) (n : Nat) (env : Env) (l : Loc) (e : Expr) (Q : AV → AS → Prop) (σ : AS) : Prop := VX K w n env l er (eval e env) Q σ
abbrev VL (K : Frag) (w : World) (n : Nat) (env : Env) (l : Loc) (pos : Pos) (es : List Expr) (Q : List AV → AS → Prop) (σ : AS) : Prop := VX K w n env l (List.map er) (spliced (backTo pos (starEach es env))) Q σ
abbrev VT (K : Frag) (w : World) (n : Nat) (env : Env) (l : Loc) (e : Expr) (Q : Bool → AS → Prop) (σ : AS) : Prop := VX K w n env l (id : Bool → Bool) (isTrue e env (eval e env)) Q σ
noncomputable def VY (K : Frag) (w : World) (n : Nat) (env : Env) {α β : Type} (ab : α → β) (t : Sem α) (Q : β → Loc → AS → Prop) (l : Loc) (σ : AS) : Prop :=
  ∀ (A : Around) (B : Bs) (s : Shared), Room n A → Base K B → EnvOK env → RepF w B env l σ s → ∀ (k : α → Shared → Prop) (E : Value → Shared → Prop),
    (∀ v l' σ' s', Q (ab v) l' σ' → RepF w B env l' σ' s' → k v s') → wpAny (model prog w) A t k E s
abbrev VS (K : Frag) (w : World) (n : Nat) (env : Env) (st : Stmt) (Q : AF → Loc → AS → Prop) (l : Loc) (σ : AS) : Prop := VY K w n env ef (exec st env) Q l σ
abbrev VB (K : Frag) (w : World) (n : Nat) (env : Env) (st : List Stmt) (Q : AF → Loc → AS → Prop) (l : Loc) (σ : AS) : Prop := VY K w n env ef (execs st env) Q l σ
abbrev VA (K : Frag) (w : World) (n : Nat) (env : Env) (tgt : Expr) (v : AV) (Q : Loc → AS → Prop) (l : Loc) (σ : AS) : Prop :=
  ∀ v₀, er v₀ = v → VY K w n env (id : Unit → Unit) (assign tgt env v₀) (fun _ l' σ' => Q l' σ') l σ
noncomputable def VC (K : Frag) (w : World) (n : Nat) (f : Value) (args : List AV) (Q : AV → AS → Prop) (σ : AS) : Prop :=
  ∀ (A : Around) (B : Bs) (s : Shared) (vs : List Value), Room n A → Base K B → RepB w B σ s → vs.map er = args → ∀ (k : Value → Shared → Prop) (E : Value → Shared → Prop),
    (∀ v σ' s', Q (er v) σ' → RepB w B σ' s' → k v s') → wpAny (model prog w) A (call f vs) k E s
noncomputable def VH (K : Frag) (w : World) (n : Nat) {α β : Type} (ab : α → β) (t : Sem α) (Q : β → AS → Prop) (σ : AS) : Prop :=
  ∀ (A : Around) (B : Bs) (s : Shared), Room n A → Base K B → RepB w B σ s → ∀ (k : α → Shared → Prop) (E : Value → Shared → Prop),
    (∀ v σ' s', Q (ab v) σ' → RepB w B σ' s' → k v s') → wpAny (model prog w) A t k E s
section
variable {w : World} {B : Bs} {σ : AS} {s : Shared} {K : Frag} {n : Nat} {env : Env} {l : Loc}
theorem RepF.ext (R : RepF w B env l σ s) {h' : Heap} {tk : Nat} (hk : ∀ b o, s.heap.get? b = some o → h'.get? b = some o) (hz : s.heap.objs.size ≤ h'.objs.size) :
    RepF w B env l σ { s with heap := h', toks := tk } :=
  ⟨R.rep.ext hk hz, let ⟨m, a, b⟩ := R.ns; ⟨m, a.keeps hk, b⟩, R.lo, R.lb⟩
theorem RepF.toks (R : RepF w B env l σ s) {tk : Nat} : RepF w B env l σ { s with toks := tk } := R.ext (fun _ _ e => e) (Nat.le_refl _)
theorem RepF.ne (R : RepF w B env l σ s) {a : Addr} {o : AO} (e : σ.f a = some o) : env.locals ≠ a := fun q => by have := R.lo; rw [q, e] at this; cases this
theorem RepF.upd (R : RepF w B env l σ s) {a : Addr} {o o' : AO} {ob' : Obj} {h' : Heap} {tk : Nat} (e : σ.f a = some o) (hx : Heap.SameBut a s.heap h') (hg : h'.get? a = some ob') (hr : RepO w o' ob') :
    RepF w B env l (σ.upd a o') { s with heap := h', toks := tk } :=
  ⟨R.rep.upd e hx hg hr, let ⟨m, x, y⟩ := R.ns; ⟨m, x.sameBut hx (R.ne e), y⟩, by rw [AS.upd_f, if_neg (R.ne e)]; exact R.lo, R.lb⟩
theorem RepF.ins (R : RepF w B env l σ s) {a : Addr} {o' : AO} {ob' : Obj} {h' : Heap} {tk : Nat} (ha : s.heap.objs.size ≤ a) (hk : ∀ b o, s.heap.get? b = some o → h'.get? b = some o) (hz : s.heap.objs.size ≤ h'.objs.size)
    (hg : h'.get? a = some ob') (hr : RepO w o' ob') : RepF w B env l (σ.ins a o') { s with heap := h', toks := tk } :=
  ⟨R.rep.ins ha hk hz hg hr, let ⟨m, x, y⟩ := R.ns; ⟨m, x.keeps hk, y⟩, by
    rw [AS.ins_f, if_neg]; exact R.lo
    obtain ⟨m, x, _⟩ := R.ns
    exact Nat.ne_of_lt (Nat.lt_of_lt_of_le x.lt ha), R.lb⟩
theorem RepF.hide (R : RepF w B env l σ s) (X : Base K B) : ∃ ob, RepB w (B.add env.locals ob) σ s ∧ Base K (B.add env.locals ob) ∧
    ∀ σ' s', RepB w (B.add env.locals ob) σ' s' → RepF w B env l σ' s' := by
  obtain ⟨m, x, y⟩ := R.ns
  obtain ⟨o, es, ep, ho, r⟩ := id x
  refine ⟨o, R.rep.hide ho R.lo, X.add R.lb, fun σ' s' R' => ?_⟩
  obtain ⟨a, b, c⟩ := R'.show R.lb
  exact ⟨a, ⟨m, ⟨o, es, ep, b, r⟩, y⟩, c, R.lb⟩
theorem vx_pure {α β : Type} {ab : α → β} {a : α} {Q : β → AS → Prop} (h : Q (ab a) σ) : VX K w n env l ab (pure a) Q σ :=
  fun A B s hr X he R k E hk => wpAny_pure (hk _ _ _ h R)
theorem vx_mono {α β : Type} {ab : α → β} {t : Sem α} {Q Q' : β → AS → Prop} (h : VX K w n env l ab t Q σ) (hq : ∀ v σ', Q v σ' → Q' v σ') : VX K w n env l ab t Q' σ :=
  fun A B s hr X he R k E hk => h A B s hr X he R k E fun v σ' s' q r => hk v σ' s' (hq _ _ q) r
theorem vy_mono {α β : Type} {ab : α → β} {t : Sem α} {Q Q' : β → Loc → AS → Prop} (h : VY K w n env ab t Q l σ) (hq : ∀ v l' σ', Q v l' σ' → Q' v l' σ') : VY K w n env ab t Q' l σ :=
  fun A B s hr X he R k E hk => h A B s hr X he R k E fun v l' σ' s' q r => hk v l' σ' s' (hq _ _ _ q) r
theorem vc_mono {f : Value} {args : List AV} {Q Q' : AV → AS → Prop} (h : VC K w n f args Q σ) (hq : ∀ v σ', Q v σ' → Q' v σ') : VC K w n f args Q' σ :=
  fun A B s vs hr X R ha k E hk => h A B s vs hr X R ha k E fun v σ' s' q r => hk v σ' s' (hq _ _ q) r
theorem vc_less {m : Nat} {f : Value} {args : List AV} {Q : AV → AS → Prop} (h : VC K w m f args Q σ) (hm : m ≤ n) : VC K w n f args Q σ :=
  fun A B s vs hr X R ha k E hk => h A B s vs (hr.less hm) X R ha k E hk
theorem vx_of_vh {α β : Type} {ab : α → β} {t : Sem α} {Q : β → AS → Prop} (h : VH K w n ab t Q σ) : VX K w n env l ab t Q σ := fun A B s hr X he R k E hk => by
  obtain ⟨ob, a, b, c⟩ := R.hide X
  exact h A _ s hr b a k E fun v σ' s' q r => hk v σ' s' q (c _ _ r)
theorem vh_of_vc {f : Value} {vs : List Value} {args : List AV} {Q : AV → AS → Prop} (h : VC K w n f args Q σ) (ha : vs.map er = args) : VH K w n er (call f vs) Q σ :=
  fun A B s hr X R k E hk => h A B s vs hr X R ha k E hk
theorem vx_of_vc {f : Value} {vs : List Value} {args : List AV} {Q : AV → AS → Prop} (h : VC K w n f args Q σ) (ha : vs.map er = args) : VX K w n env l er (call f vs) Q σ := vx_of_vh (vh_of_vc h ha)
theorem ve_const_int {i : Int} {k : Nat} {pos : Pos} {Q : AV → AS → Prop} (h : Q (.int i) σ) : VE K w n env l (.Constant (.int i) k pos) Q σ :=
  fun A B s hr X he R kk E hk => wpAny_Constant_int (hk _ _ _ h R.toks)
theorem ve_const_str {i : Str} {k : Nat} {pos : Pos} {Q : AV → AS → Prop} (h : Q (.str i) σ) : VE K w n env l (.Constant (.str i) k pos) Q σ :=
  fun A B s hr X he R kk E hk => wpAny_Constant_str (hk _ _ _ h R.toks)
theorem ve_const_bool {i : Bool} {k : Nat} {pos : Pos} {Q : AV → AS → Prop} (h : Q (.bool i) σ) : VE K w n env l (.Constant (.bool i) k pos) Q σ :=
  fun A B s hr X he R kk E hk => wpAny_Constant_bool (hk _ _ _ h R)
theorem ve_const_none {k : Nat} {pos : Pos} {Q : AV → AS → Prop} (h : Q .none σ) : VE K w n env l (.Constant .none k pos) Q σ :=
  fun A B s hr X he R kk E hk => wpAny_Constant_none (hk _ _ _ h R)
theorem RepF.loc (R : RepF w B env l σ s) {x : Str} {v : AV} (h : lk l x = some v) : ∃ m v', s.heap.Ns env.locals m ∧ m x = some v' ∧ er v' = v := by
  obtain ⟨m, a, b⟩ := R.ns
  have := b x
  rw [h] at this
  obtain ⟨v', c, d⟩ := Option.map_eq_some_iff.mp this
  exact ⟨m, v', a, c, d⟩
theorem ve_local {x : Str} {pos : Pos} {v : AV} {Q : AV → AS → Prop} (hv : lk l x = some v) (h : Q v σ) (hl : env.kindOf x = some .local := by first | assumption | rfl) (hd : (x == ("__debug__" : Str)) = false := by decide) :
    VE K w n env l (.Name x pos) Q σ := fun A B s hr X he R kk E hk => by
  obtain ⟨m, v', a, b, rfl⟩ := R.loc hv
  exact wpAny_Name (wpAny_loadName_local he.kind hl a b (hk _ _ _ h R)) hd
theorem RepB.cell (R : RepB w B σ s) {c : Addr} {v : AV} (h : σ.f c = some (.cell (some v))) : ∃ v', s.heap.IsCell c (some v') ∧ er v' = v := by
  obtain ⟨ob, a, c', rfl, d⟩ := R.objs c _ h
  obtain ⟨v', rfl, e⟩ := Option.map_eq_some_iff.mp d
  exact ⟨v', ⟨_, a, rfl⟩, e⟩
theorem ve_cell {x : Str} {pos : Pos} {c : Addr} {v : AV} {Q : AV → AS → Prop} (hc : env.cells.lookup x = some c) (hv : σ.f c = some (.cell (some v))) (h : Q v σ) (hl : env.kindOf x = some .cell := by first | assumption | rfl) (hd : (x == ("__debug__" : Str)) = false := by decide) :
    VE K w n env l (.Name x pos) Q σ := fun A B s hr X he R kk E hk => by
  obtain ⟨v', a, rfl⟩ := R.rep.cell hv
  exact wpAny_Name (wpAny_loadName_cell he.kind hl hc a (hk _ _ _ h R)) hd
theorem ve_free {x : Str} {pos : Pos} {c : Addr} {v : AV} {Q : AV → AS → Prop} (hc : env.cells.lookup x = some c) (hv : σ.f c = some (.cell (some v))) (h : Q v σ) (hl : env.kindOf x = some .free := by first | assumption | rfl) (hd : (x == ("__debug__" : Str)) = false := by decide)
    (hd' : (x == ("__classdict__" : Str)) = false := by decide) : VE K w n env l (.Name x pos) Q σ := fun A B s hr X he R kk E hk => by
  obtain ⟨v', a, rfl⟩ := R.rep.cell hv
  exact wpAny_Name (wpAny_loadName_free he.kind hl hc a (hk _ _ _ h R) hd') hd
theorem ve_global {x : Str} {pos : Pos} {v : Value} {Q : AV → AS → Prop} (hv : nsIn K mainGlobals x = some (some v)) (h : Q (er v) σ) (hl : env.kindOf x = some .globalImplicit := by first | assumption | rfl) (hd : (x == ("__debug__" : Str)) = false := by decide) :
    VE K w n env l (.Name x pos) Q σ := fun A B s hr X he R kk E hk => by
  have Kn := X.In R.rep
  have G : s.heap.Ns env.globals (s.heap.nsMap mainGlobals) := by rw [he.glob]; exact ns_of_ok Kn X.glob
  refine wpAny_Name ?_ hd
  rw [loadName_read he.kind hl]
  exact Calls.loadGlobal_global G (ns_some_of Kn (he.glob ▸ G) hv) (hk _ _ _ h R)
theorem ve_builtin {x : Str} {pos : Pos} {v : Value} {Q : AV → AS → Prop} (hm : nsIn K mainGlobals x = some none) (hv : bootBuiltins x = some v) (h : Q (er v) σ) (hl : env.kindOf x = some .globalImplicit := by first | assumption | rfl)
    (hn : x ≠ "__name__" := by decide) (hd : (x == ("__debug__" : Str)) = false := by decide) :
    VE K w n env l (.Name x pos) Q σ := fun A B s hr X he R kk E hk => by
  have Kn := X.In R.rep
  have G : s.heap.Ns env.globals (s.heap.nsMap mainGlobals) := by rw [he.glob]; exact ns_of_ok Kn X.glob
  obtain ⟨ob, es, ep, h1, h2, h3, h4⟩ := X.blt
  refine wpAny_Name ?_ hd
  rw [loadName_read he.kind hl]
  refine Calls.loadGlobal_builtin (mb := nsFind es) G (ns_none_of Kn (he.glob ▸ G) hm) ?_ ((h4 x hn).trans hv) (hk _ _ _ h R)
  rw [he.blt]
  exact ⟨ob, es, ep, R.rep.keep _ _ h1, h2, h3, fun _ => rfl⟩
theorem ve_binop {lhs rhs : Expr} {op : Operator} {pos : Pos} {Q : AV → AS → Prop}
    (h : VE K w n env l lhs (fun a σ1 => VE K w n env l rhs (fun b σ2 => ∀ a' b', er a' = a → er b' = b → VX K w n env l er (binaryOp op a' b') Q σ2) σ1) σ) : VE K w n env l (.BinOp lhs op rhs pos) Q σ :=
  fun A B s hr X he R kk E hk => wpAny_BinOp (h A B s hr X he R _ _ fun a σ1 s1 h1 R1 => h1 A B s1 hr X he R1 _ _ fun b σ2 s2 h2 R2 => h2 a b rfl rfl A B s2 hr X he R2 kk E hk)
structure IntOp (op : Operator) (f : Int → Int → Int) (ok : Int → Int → Prop) : Prop where
  run : ∀ (w : World) (A : Around) (E : Value → Shared → Prop) (s : Shared) (a b : Int) (t u : Tok) (Q : Value → Shared → Prop), ok a b → Q (.int (f a b) s.toks) { s with toks := s.toks + 1 } →
  wpAny (model prog w) A (binaryOp op (.int a t) (.int b u)) Q E s
theorem op_add : IntOp .Add (· + ·) (fun _ _ => True) := ⟨fun w A E s a b t u Q _ h => add_int h⟩
theorem op_sub : IntOp .Sub (· - ·) (fun _ _ => True) := ⟨fun w A E s a b t u Q _ h => PyProof.Rows.sub_int h⟩
theorem op_mul : IntOp .Mult (· * ·) (fun a b => IntMulOk a b) := ⟨fun w A E s a b t u Q h0 h => mul_int h h0⟩
theorem op_mod : IntOp .Mod Int.fmod (fun _ b => b ≠ 0) := ⟨fun w A E s a b t u Q h0 h => mod_int h0 h⟩
theorem op_div : IntOp .FloorDiv Int.fdiv (fun a b => b ≠ 0 ∧ Builtin.divisionGoesByPylong a b = false) := ⟨fun w A E s a b t u Q h0 h => floordiv_int h0.1 h (Or.inl h0.2)⟩
theorem ve_int {op : Operator} {f : Int → Int → Int} {ok : Int → Int → Prop} (F : IntOp op f ok) {lhs rhs : Expr} {pos : Pos} {Q : AV → AS → Prop}
    (h : VE K w n env l lhs (fun a σ1 => VE K w n env l rhs (fun b σ2 => ∃ x y, a = .int x ∧ b = .int y ∧ ok x y ∧ Q (.int (f x y)) σ2) σ1) σ) : VE K w n env l (.BinOp lhs op rhs pos) Q σ := by
  refine ve_binop (vx_mono h fun a σ1 h1 => vx_mono h1 fun b σ2 h2 a' b' ha hb => ?_)
  obtain ⟨x, y, rfl, rfl, ho, hq⟩ := h2
  obtain ⟨t, rfl⟩ := er_int ha
  obtain ⟨u, rfl⟩ := er_int hb
  exact fun A B s hr X he R kk E hk => F.run w A E s x y t u kk ho (hk _ _ _ hq R.toks)
theorem vl_nil {pos : Pos} {Q : List AV → AS → Prop} (h : Q [] σ) : VL K w n env l pos [] Q σ := fun A B s hr X he R kk E hk => spliced_nil (hk [] _ _ h R)
theorem vl_cons {pos : Pos} {e : Expr} {es : List Expr} {Q : List AV → AS → Prop} (h : VE K w n env l e (fun v σ1 => VL K w n env l pos es (fun vs σ2 => Q (v :: vs) σ2) σ1) σ)
    (he' : starEach (e :: es) env = (false, eval e env) :: starEach es env := by rfl) : VL K w n env l pos (e :: es) Q σ := fun A B s hr X he R kk E hk => by
  rw [he']
  show wpAny _ A (spliced ((false, eval e env) :: backTo pos (starEach es env))) kk E s
  unfold spliced
  refine wpAny_bind (h A B s hr X he R _ _ fun v σ1 s1 h1 R1 => ?_)
  refine wpAny_bind (wpAny_pure (wpAny_bind (wpAny_holding (h1 A B s1 hr X he R1 _ _ fun vs σ2 s2 h2 R2 => wpAny_pure ?_))))
  exact hk _ _ _ h2 R2
noncomputable def noStar : List Expr → Bool
  | [] => true
  | .Starred .. :: _ => false
  | _ :: r => noStar r
theorem noStar_any {env : Env} {pos : Pos} : ∀ {es : List Expr}, noStar es = true → (backTo pos (starEach es env)).any (·.1) = false
  | [], _ => rfl
  | e :: r, h => by
    cases e <;> first | cases h | (show (false || (backTo pos (starEach r env)).any (·.1)) = false; rw [noStar_any (es := r) h]; rfl)
theorem evalArgs_pos {M : Model} {A : Around} {E : Value → Shared → Prop} {s : Shared} {f : Value} {Q : Args → Shared → Prop} : ∀ {as : List (Bool × Sem Value)}, as.any (·.1) = false →
    wpAny M A (spliced as) (fun vs s' => Q ⟨vs, []⟩ s') E s → wpAny M A (evalArgs f true as []) Q E s
  | [], _, h => by
    unfold evalArgs
    show wpAny M A (spliced [] >>= _) Q E s
    refine wpAny_bind (wpAny_mono h (fun vs s' h' => ?_) fun _ _ x => x)
    exact wpAny_bind (wpAny_pure (wpAny_holding (wpAny_bind (wpAny_pure (wpAny_bind (wpAny_pure (wpAny_pure h')))))))
  | (false, x) :: r, _, h => evalArgs_plain h
  | (true, x) :: r, hs, _ => by cases hs
end
end Mine
end
section
open PySem PySem.W PySem.Calls PyProof.Rows
set_option maxRecDepth 100000
set_option linter.unusedVariables false
namespace Mine
section
variable {w : World} {B : Bs} {σ : AS} {s : Shared} {K : Frag} {n : Nat} {env : Env} {l : Loc}
noncomputable def KeepOK (K : Frag) (f : Value) : Prop := ∀ (M : Model) (h : Heap), K.In h → ∃ k, (k = Keeper.frame ∨ k = Keeper.machine ∨ k = Keeper.boundFrame) ∧ Looks M h (keeperOf f) k
theorem keep_ref {f : Value} (h : keepIn K f = true) : KeepOK K f := fun M hh X => keeps_K h hh X
theorem keep_builtin {id : String} : KeepOK K (.builtin id) := fun M hh X => ⟨.machine, .inr (.inl rfl), .now⟩
theorem keep_type {id : String} : KeepOK K (.type id) := fun M hh X => ⟨.machine, .inr (.inl rfl), .now⟩
theorem vx_callWith {f : Value} {first : List Value} {pos : Pos} {es : List Expr} {Q : AV → AS → Prop} (hf : KeepOK K f) (h : VL K w n env l pos es (fun vs σ1 => VC K w n f (first.map er ++ vs) Q σ1) σ) (hs : noStar es = true := by rfl) :
    VX K w n env l er (callWith pos f first (backTo pos (starEach es env)) []) Q σ := fun A B s hr X he R k E hk => by
  refine callWith_of (P := fun h => K.In h) (by rw [noStar_any hs]; rfl) (fun h X' => hf _ h X') (evalArgs_pos (noStar_any hs) (h A B s hr X he R _ _ fun vs σ1 s1 h1 R1 => ⟨X.In R1.rep, ?_⟩))
  refine vx_of_vc (vs := first ++ vs) h1 (by rw [List.map_append]) A B s1 hr X he R1 k E hk
theorem ve_call {func : Expr} {args : List Expr} {pos : Pos} {f : Value} {Q : AV → AS → Prop} (hf : KeepOK K f) (h : VX K w n env l id (eval func env) (fun g σ1 => g = f ∧ VL K w n env l pos args (fun vs σ2 => VC K w n f vs Q σ2) σ1) σ)
    (he' : eval (.Call func args [] pos) env = (do callWith pos (← eval func env) [] (backTo pos (starEach args env)) (backToKw pos (keywordEach [] env))) := by rfl) (hs : noStar args = true := by rfl) :
    VE K w n env l (.Call func args [] pos) Q σ := fun A B s hr X he R k E hk => by
  show wpAny _ A (eval _ env) k E s
  rw [he']
  refine wpAny_bind (h A B s hr X he R _ _ fun v σ1 s1 h1 R1 => ?_)
  obtain ⟨rfl, h1⟩ := h1
  exact vx_callWith (first := []) hf h1 hs A B s1 hr X he R1 k E hk
theorem vx_global {x : Str} {pos : Pos} {v : Value} {Q : Value → AS → Prop} (hv : nsIn K mainGlobals x = some (some v)) (h : Q v σ) (hl : env.kindOf x = some .globalImplicit := by first | assumption | rfl) (hd : (x == ("__debug__" : Str)) = false := by decide) :
    VX K w n env l id (eval (.Name x pos) env) Q σ := fun A B s hr X he R kk E hk => by
  have Kn := X.In R.rep
  have G : s.heap.Ns env.globals (s.heap.nsMap mainGlobals) := by rw [he.glob]; exact ns_of_ok Kn X.glob
  refine wpAny_Name ?_ hd
  rw [loadName_read he.kind hl]
  exact Calls.loadGlobal_global G (ns_some_of Kn (he.glob ▸ G) hv) (hk _ _ _ h R)
theorem vx_builtin {x : Str} {pos : Pos} {v : Value} {Q : Value → AS → Prop} (hm : nsIn K mainGlobals x = some none) (hv : bootBuiltins x = some v) (h : Q v σ) (hl : env.kindOf x = some .globalImplicit := by first | assumption | rfl)
    (hn : x ≠ "__name__" := by decide) (hd : (x == ("__debug__" : Str)) = false := by decide) :
    VX K w n env l id (eval (.Name x pos) env) Q σ := fun A B s hr X he R kk E hk => by
  have Kn := X.In R.rep
  have G : s.heap.Ns env.globals (s.heap.nsMap mainGlobals) := by rw [he.glob]; exact ns_of_ok Kn X.glob
  obtain ⟨ob, es, ep, h1, h2, h3, h4⟩ := X.blt
  refine wpAny_Name ?_ hd
  rw [loadName_read he.kind hl]
  refine Calls.loadGlobal_builtin (mb := nsFind es) G (ns_none_of Kn (he.glob ▸ G) hm) ?_ ((h4 x hn).trans hv) (hk _ _ _ h R)
  rw [he.blt]
  exact ⟨ob, es, ep, R.rep.keep _ _ h1, h2, h3, fun _ => rfl⟩
theorem ve_call_g {x : Str} {np pos : Pos} {args : List Expr} {a : Addr} {Q : AV → AS → Prop} (hv : nsIn K mainGlobals x = some (some (.ref a))) (hk : keepIn K (.ref a) = true)
    (h : VL K w n env l pos args (fun vs σ2 => VC K w n (.ref a) vs Q σ2) σ) (hl : env.kindOf x = some .globalImplicit := by first | assumption | rfl) (hd : (x == ("__debug__" : Str)) = false := by decide) (hs : noStar args = true := by rfl) :
    VE K w n env l (.Call (.Name x np) args [] pos) Q σ := ve_call (keep_ref hk) (vx_global hv ⟨rfl, h⟩ hl hd) rfl hs
theorem ve_call_b {x : Str} {np pos : Pos} {args : List Expr} {f : Value} {Q : AV → AS → Prop} (hm : nsIn K mainGlobals x = some none) (hv : bootBuiltins x = some f) (hk : KeepOK K f)
    (h : VL K w n env l pos args (fun vs σ2 => VC K w n f vs Q σ2) σ) (hl : env.kindOf x = some .globalImplicit := by first | assumption | rfl) (hn : x ≠ "__name__" := by decide) (hd : (x == ("__debug__" : Str)) = false := by decide) (hs : noStar args = true := by rfl) :
    VE K w n env l (.Call (.Name x np) args [] pos) Q σ := ve_call hk (vx_builtin hm hv ⟨rfl, h⟩ hl hn hd) rfl hs
noncomputable def VM (K : Frag) (w : World) (n : Nat) (v : AV) (name : Str) (Q : Value × List Value → AS → Prop) (σ : AS) : Prop := ∀ v' pl, er v' = v → VH K w n id (getMethod v' name pl) Q σ
theorem ve_mcall {o : Expr} {name : Str} {apos pos : Pos} {args : List Expr} {pl : Sem Bool} {Q : AV → AS → Prop}
    (h : VE K w n env l o (fun ov σ1 => VM K w n ov name (fun fx σ2 => KeepOK K fx.1 ∧ VL K w n env l pos args (fun vs σ3 => VC K w n fx.1 (fx.2.map er ++ vs) Q σ3) σ2) σ1) σ)
    (he' : eval (.Call (.Attribute o name apos) args [] pos) env = (do
      let ov ← eval o env
      standAt apos.atName
      let (f, first) ← holding [ov] (getMethod ov name pl)
      callWith pos f first (backTo pos (starEach args env)) []) := by rfl) (hs : noStar args = true := by rfl) : VE K w n env l (.Call (.Attribute o name apos) args [] pos) Q σ := fun A B s hr X he R k E hk => by
  refine MethodCall_ (pl := pl) (h A B s hr X he R _ _ fun ov σ1 s1 h1 R1 => ?_) he'
  refine vx_of_vh (h1 ov pl rfl) A B s1 hr X he R1 _ _ fun fx σ2 s2 h2 R2 => ?_
  exact vx_callWith h2.1 h2.2 hs A B s2 hr X he R2 k E hk
noncomputable def VG (K : Frag) (w : World) (n : Nat) (v : AV) (name : Str) (Q : AV → AS → Prop) (σ : AS) : Prop := ∀ v', er v' = v → VH K w n er (getAttr v' name true) Q σ
theorem ve_attr {o : Expr} {name : Str} {pos : Pos} {Q : AV → AS → Prop} (h : VE K w n env l o (fun ov σ1 => VG K w n ov name Q σ1) σ)
    (he' : eval (.Attribute o name pos) env = (do
      let v ← eval o env
      standAt pos.atName
      let r ← holding [v] (getAttr v name true)
      letTemporaryGo o v r
      pure r) := by with_unfolding_all rfl)
    (ht : ∀ v r, letTemporaryGo o v r = pure () := by intro _ _; rfl) : VE K w n env l (.Attribute o name pos) Q σ := fun A B s hr X he R k E hk => by
  show wpAny _ A (eval _ env) k E s
  rw [he']
  refine wpAny_bind (h A B s hr X he R _ _ fun ov σ1 s1 h1 R1 => wpAny_bind (wpAny_standAt (wpAny_bind (wpAny_holding ?_))))
  refine vx_of_vh (h1 ov rfl) A B s1 hr X he R1 _ _ fun r σ2 s2 h2 R2 => ?_
  rw [ht]
  exact wpAny_bind (wpAny_pure (wpAny_pure (hk _ _ _ h2 R2)))
noncomputable def VI (K : Frag) (w : World) (n : Nat) (value slice : Expr) (a b : AV) (Q : AV → AS → Prop) (σ : AS) : Prop := ∀ a' b', er a' = a → er b' = b → VH K w n er (subscriptTail value slice a' b') Q σ
theorem ve_sub {value slice : Expr} {pos : Pos} {Q : AV → AS → Prop} (h : VE K w n env l value (fun a σ1 => VE K w n env l slice (fun b σ2 => VI K w n value slice a b Q σ2) σ1) σ) : VE K w n env l (.Subscript value slice pos) Q σ :=
  fun A B s hr X he R k E hk => Subscript_ (h A B s hr X he R _ _ fun a σ1 s1 h1 R1 => h1 A B s1 hr X he R1 _ _ fun b σ2 s2 h2 R2 => vx_of_vh (h2 a b rfl rfl) A B s2 hr X he R2 k E hk)
noncomputable def VO (K : Frag) (w : World) (n : Nat) (op : CmpOp) (a b : AV) (Q : AV → AS → Prop) (σ : AS) : Prop := ∀ a' b', er a' = a → er b' = b → VH K w n er (compareOp op a' b') Q σ
theorem ve_cmp {lhs rhs : Expr} {op : CmpOp} {pos : Pos} {Q : AV → AS → Prop} (h : VE K w n env l lhs (fun a σ1 => VE K w n env l rhs (fun b σ2 => VO K w n op a b Q σ2) σ1) σ)
    (hm : behindInMarks op rhs = false := by rfl) : VE K w n env l (.Compare lhs [op] [rhs] pos) Q σ :=
  fun A B s hr X he R k E hk => wpAny_Compare1 (h A B s hr X he R _ _ fun a σ1 s1 h1 R1 => h1 A B s1 hr X he R1 _ _ fun b σ2 s2 h2 R2 => vx_of_vh (h2 a b rfl rfl) A B s2 hr X he R2 k E hk) hm
noncomputable def VTr (K : Frag) (w : World) (n : Nat) (v : AV) (Q : Bool → AS → Prop) (σ : AS) : Prop := ∀ v', er v' = v → VH K w n (id : Bool → Bool) (truthy v') Q σ
theorem vtr_bool {b : Bool} {Q : Bool → AS → Prop} (h : Q b σ) : VTr K w n (.bool b) Q σ := fun v' hv A B s hr X R k E hk => by
  rw [er_bool hv]; exact wpAny_truthy_bool (hk _ _ _ h R)
theorem vt_cmp {lhs rhs : Expr} {op : CmpOp} {pos : Pos} {Q : Bool → AS → Prop} (h : VE K w n env l lhs (fun a σ1 => VE K w n env l rhs (fun b σ2 => VO K w n op a b (fun c σ3 => VTr K w n c Q σ3) σ2) σ1) σ)
    (hm : behindInMarks op rhs = false := by rfl) : VT K w n env l (.Compare lhs [op] [rhs] pos) Q σ :=
  fun A B s hr X he R k E hk => wpAny_isTrue_Compare1 (h A B s hr X he R _ _ fun a σ1 s1 h1 R1 => h1 A B s1 hr X he R1 _ _ fun b σ2 s2 h2 R2 => vx_of_vh (h2 a b rfl rfl) A B s2 hr X he R2 _ E fun c σ3 s3 h3 R3 =>
    vx_of_vh (h3 c rfl) A B s3 hr X he R3 k E hk) hm
theorem vt_not {e : Expr} {pos : Pos} {Q : Bool → AS → Prop} (h : VT K w n env l e (fun b σ1 => Q (!b) σ1) σ) : VT K w n env l (.UnaryOp .Not e pos) Q σ :=
  fun A B s hr X he R k E hk => wpAny_isTrue_Not (h A B s hr X he R _ _ fun b σ1 s1 h1 R1 => hk _ _ _ h1 R1)
noncomputable def VAll (K : Frag) (w : World) (n : Nat) (env : Env) (l : Loc) (op : BoolOp) (es : List Expr) (Q : Bool → AS → Prop) (σ : AS) : Prop := VX K w n env l (id : Bool → Bool) (allTrue op es env) Q σ
theorem vt_bool {op : BoolOp} {es : List Expr} {pos : Pos} {Q : Bool → AS → Prop} (h : VAll K w n env l op es Q σ) : VT K w n env l (.BoolOp op es pos) Q σ :=
  fun A B s hr X he R k E hk => wpAny_isTrue_BoolOp (h A B s hr X he R k E hk)
theorem vand_nil {Q : Bool → AS → Prop} (h : Q true σ) : VAll K w n env l .And [] Q σ := fun A B s hr X he R k E hk => wpAny_allTrue_And_nil (hk _ _ _ h R)
theorem vor_nil {Q : Bool → AS → Prop} (h : Q false σ) : VAll K w n env l .Or [] Q σ := fun A B s hr X he R k E hk => wpAny_allTrue_Or_nil (hk _ _ _ h R)
theorem vand_cons {e : Expr} {es : List Expr} {Q : Bool → AS → Prop} (h : VT K w n env l e (fun b σ1 => if b = true then VAll K w n env l .And es Q σ1 else Q false σ1) σ) : VAll K w n env l .And (e :: es) Q σ :=
  fun A B s hr X he R k E hk => wpAny_allTrue_And_cons (h A B s hr X he R _ _ fun b σ1 s1 h1 R1 => by
    cases b with
    | true => exact (by simp only [id_eq, if_true] at h1; exact h1 A B s1 hr X he R1 k E hk)
    | false => exact (by simp only [id_eq, Bool.false_eq_true, if_false] at h1; exact hk _ _ _ h1 R1))
theorem vor_cons {e : Expr} {es : List Expr} {Q : Bool → AS → Prop} (h : VT K w n env l e (fun b σ1 => if b = true then Q true σ1 else VAll K w n env l .Or es Q σ1) σ) : VAll K w n env l .Or (e :: es) Q σ :=
  fun A B s hr X he R k E hk => wpAny_allTrue_Or_cons (h A B s hr X he R _ _ fun b σ1 s1 h1 R1 => by
    cases b with
    | true => exact (by simp only [id_eq, if_true] at h1; exact hk _ _ _ h1 R1)
    | false => exact (by simp only [id_eq, Bool.false_eq_true, if_false] at h1; exact h1 A B s1 hr X he R1 k E hk))
theorem vt_value {e : Expr} {Q : Bool → AS → Prop} (h : VE K w n env l e (fun v σ1 => VTr K w n v Q σ1) σ)
    (ht : isTrue e env (eval e env) = (do let v ← eval e env; standAt e.pos; holding [v] (truthy v)) := by rfl) : VT K w n env l e Q σ := fun A B s hr X he R k E hk => by
  show wpAny _ A (isTrue _ _ _) k E s
  rw [ht]
  exact wpAny_bind (h A B s hr X he R _ _ fun v σ1 s1 h1 R1 => wpAny_bind (wpAny_standAt (wpAny_holding (vx_of_vh (h1 v rfl) A B s1 hr X he R1 k E hk))))
theorem ve_ifexp {test body orelse : Expr} {pos : Pos} {Q : AV → AS → Prop} (h : VT K w n env l test (fun b σ1 => if b = true then VE K w n env l body Q σ1 else VE K w n env l orelse Q σ1) σ) : VE K w n env l (.IfExp test body orelse pos) Q σ :=
  fun A B s hr X he R k E hk => wpAny_IfExp (h A B s hr X he R _ _ fun b σ1 s1 h1 R1 => by
    cases b with
    | true => exact (by simp only [id_eq, if_true] at h1; exact h1 A B s1 hr X he R1 k E hk)
    | false => exact (by simp only [id_eq, Bool.false_eq_true, if_false] at h1; exact h1 A B s1 hr X he R1 k E hk))
theorem vo_int_lt {x y : Int} {Q : AV → AS → Prop} (h : Q (.bool (decide (x < y))) σ) : VO K w n .Lt (.int x) (.int y) Q σ := fun a b ha hb A B s hr X R k E hk => by
  obtain ⟨t, rfl⟩ := er_int ha; obtain ⟨u, rfl⟩ := er_int hb; exact lt_int (hk _ _ _ h R)
theorem vo_int_gt {x y : Int} {Q : AV → AS → Prop} (h : Q (.bool (decide (y < x))) σ) : VO K w n .Gt (.int x) (.int y) Q σ := fun a b ha hb A B s hr X R k E hk => by
  obtain ⟨t, rfl⟩ := er_int ha; obtain ⟨u, rfl⟩ := er_int hb; exact gt_int (hk _ _ _ h R)
theorem vo_int_eq {x y : Int} {Q : AV → AS → Prop} (h : Q (.bool (x == y)) σ) : VO K w n .Eq (.int x) (.int y) Q σ := fun a b ha hb A B s hr X R k E hk => by
  obtain ⟨t, rfl⟩ := er_int ha; obtain ⟨u, rfl⟩ := er_int hb; exact eq_int (hk _ _ _ h R)
theorem vo_int_ne {x y : Int} {Q : AV → AS → Prop} (h : Q (.bool (x != y)) σ) : VO K w n .NotEq (.int x) (.int y) Q σ := fun a b ha hb A B s hr X R k E hk => by
  obtain ⟨t, rfl⟩ := er_int ha; obtain ⟨u, rfl⟩ := er_int hb; exact ne_int (hk _ _ _ h R)
theorem vb_nil {Q : AF → Loc → AS → Prop} (h : Q .next l σ) : VB K w n env [] Q l σ := fun A B s hr X he R k E hk => wpAny_execs_nil (hk _ _ _ _ h R)
theorem vb_cons {st : Stmt} {rest : List Stmt} {Q : AF → Loc → AS → Prop} (h : VS K w n env st (fun f l1 σ1 => match f with | .next => VB K w n env rest Q l1 σ1 | f => Q f l1 σ1) l σ) : VB K w n env (st :: rest) Q l σ :=
  fun A B s hr X he R k E hk => wpAny_execs_cons (h A B s hr X he R _ _ fun f l1 σ1 s1 h1 R1 => by
    cases f with
    | next => exact h1 A B s1 hr X he R1 k E hk
    | brk => exact hk _ _ _ _ h1 R1
    | cont => exact hk _ _ _ _ h1 R1
    | ret v => exact hk _ _ _ _ h1 R1)
theorem vs_return {e : Expr} {pos : Pos} {Q : AF → Loc → AS → Prop} (h : VE K w n env l e (fun v σ1 => Q (.ret v) l σ1) σ) : VS K w n env (.Return (some e) pos) Q l σ :=
  fun A B s hr X he R k E hk => wpAny_Return_some (h A B s hr X he R _ _ fun v σ1 s1 h1 R1 => hk _ _ _ _ h1 R1)
theorem vs_if {test : Expr} {body orelse : List Stmt} {pos : Pos} {Q : AF → Loc → AS → Prop} (h : VT K w n env l test (fun b σ1 => if b = true then VB K w n env body Q l σ1 else VB K w n env orelse Q l σ1) σ) :
    VS K w n env (.If test body orelse pos) Q l σ :=
  fun A B s hr X he R k E hk => wpAny_If (h A B s hr X he R _ _ fun b σ1 s1 h1 R1 => by
    cases b with
    | true => exact (by simp only [id_eq, if_true] at h1 ⊢; exact h1 A B s1 hr X he R1 k E hk)
    | false => exact (by simp only [id_eq, Bool.false_eq_true, if_false] at h1 ⊢; exact h1 A B s1 hr X he R1 k E hk))
theorem vs_pass {pos : Pos} {Q : AF → Loc → AS → Prop} (h : Q .next l σ) : VS K w n env (.Pass pos) Q l σ := fun A B s hr X he R k E hk => wpAny_Pass (hk _ _ _ _ h R)
theorem vs_expr {e : Expr} {pos : Pos} {Q : AF → Loc → AS → Prop} (h : VE K w n env l e (fun v σ1 => (∀ a, v ≠ .ref a) ∧ Q .next l σ1) σ) (hi : interactive env = false := by rfl) (hs : swapsWith e none pos.line env = pure false := by rfl) :
    VS K w n env (.Expr e pos) Q l σ := fun A B s hr X he R k E hk => wpAny_Expr (h A B s hr X he R _ _ fun v σ1 s1 h1 R1 => by
      have q := hk .next l σ1 s1 h1.2 R1
      cases v <;> first | exact q | exact (h1.1 _ rfl).elim) hi hs
theorem RepF.setLoc (R : RepF w B env l σ s) {x : Str} {v : Value} {h' : Heap} {m : Str → Option Value} {tk : Nat} (hm : ∀ y, (m y).map er = lk l y) (hn : h'.Ns env.locals (fun y => if y = x then some v else m y)) (hs : Heap.SameBut env.locals s.heap h') :
    RepF w B env (lset x (er v) l) σ { s with heap := h', toks := tk } :=
  ⟨R.rep.aside R.lo R.lb hs.extBut (by rw [hs.1]; exact Nat.le_refl _), ⟨_, hn, fun y => by
    rw [lk_lset]
    by_cases q : y = x
    · subst q; simp
    · rw [if_neg q, if_neg (fun z => q z.symm)]; exact hm y⟩, R.lo, R.lb⟩
theorem vy_store_local {x : Str} {v : Value} {Q : Unit → Loc → AS → Prop} (h : Q () (lset x (er v) l) σ) (hl : env.kindOf x = some .local) : VY K w n env id (storeName env x v) Q l σ := fun A B s hr X he R k E hk => by
  obtain ⟨m, a, b⟩ := R.ns
  exact wpAny_storeName_local hl a (fun h' hn hs => hk _ _ _ _ h (R.setLoc b hn hs)) (by rw [he.kind]; rfl)
theorem vy_store_cell {x : Str} {c : Addr} {v : Value} {o : Option AV} {Q : Unit → Loc → AS → Prop} (hc : env.cells.lookup x = some c) (hv : σ.f c = some (.cell o)) (h : Q () l (σ.upd c (.cell (some (er v))))) (hl : env.kindOf x = some .cell) :
    VY K w n env id (storeName env x v) Q l σ := fun A B s hr X he R k E hk => by
  obtain ⟨ob, a, c', rfl, d⟩ := R.rep.objs c _ hv
  unfold storeName
  simp only [hl, he.kind]
  refine wpAny_bind (wpAny_cellOf hc ?_)
  unfold cellSet
  refine wpAny_bind (wpAny_load a ?_)
  refine wpAny_update a (hk _ _ _ _ h ?_)
  exact R.upd hv (Heap.SameBut.update ..) (Heap.get?_update_self _ a rfl) ⟨_, rfl, rfl⟩
theorem va_local {x : Str} {pos : Pos} {v : AV} {Q : Loc → AS → Prop} (h : Q (lset x v l) σ) (hl : env.kindOf x = some .local := by first | assumption | rfl) : VA K w n env (.Name x pos) v Q l σ := fun v₀ hv A B s hr X he R k E hk => by
  subst hv
  show wpAny _ A (standAt pos >>= fun _ => bindName env x v₀) k E s
  exact wpAny_bind (wpAny_standAt (wpAny_bindName (vy_store_local (Q := fun _ l σ => Q l σ) h hl A B s hr X he R k E hk)))
theorem va_cell {x : Str} {pos : Pos} {c : Addr} {o : Option AV} {v : AV} {Q : Loc → AS → Prop} (hc : env.cells.lookup x = some c) (hv : σ.f c = some (.cell o)) (h : Q l (σ.upd c (.cell (some v)))) (hl : env.kindOf x = some .cell := by first | assumption | rfl) : VA K w n env (.Name x pos) v Q l σ :=
  fun v₀ hv' A B s hr X he R k E hk => by
  subst hv'
  show wpAny _ A (standAt pos >>= fun _ => bindName env x v₀) k E s
  exact wpAny_bind (wpAny_standAt (wpAny_bindName (vy_store_cell (Q := fun _ l σ => Q l σ) hc hv h hl A B s hr X he R k E hk)))
theorem vs_assign {t value : Expr} {pos : Pos} {Q : AF → Loc → AS → Prop} (h : VE K w n env l value (fun v σ1 => VA K w n env t v (fun l2 σ2 => Q .next l2 σ2) l σ1) σ)
    (he' : exec (.Assign [t] value pos) env = (do standAt pos; let v ← eval value env; assign t env v; pure .next) := by rfl) : VS K w n env (.Assign [t] value pos) Q l σ := fun A B s hr X he R k E hk => by
  show wpAny _ A (exec _ env) k E s
  rw [he']
  refine wpAny_bind (wpAny_standAt (wpAny_bind (h A B s hr X he R _ _ fun v σ1 s1 h1 R1 => wpAny_bind (h1 v rfl A B s1 hr X he R1 _ _ fun _ l2 σ2 s2 h2 R2 => ?_))))
  exact wpAny_pure (hk _ _ _ _ h2 R2)
end
end Mine
end
section
open PySem PySem.W PySem.Calls PyProof.Rows
set_option maxRecDepth 100000
set_option linter.unusedVariables false
namespace Mine
section
variable {w : World} {B : Bs} {σ : AS} {s : Shared} {K : Frag} {n : Nat} {env : Env} {l : Loc}
noncomputable def VBi (K : Frag) (w : World) (n : Nat) (fd : FuncData) (args : List AV) (kw : List (Str × AV)) (Q : Loc → AS → Prop) (σ : AS) : Prop :=
  ∀ (A : Around) (B : Bs) (s : Shared) (vs : List Value) (kvs : List (Str × Value)), Room n A → Base K B → RepB w B σ s → vs.map er = args → kvs.map (fun p => (p.1, er p.2)) = kw → ∀ (k : List (Str × Value) → Shared → Prop) (E : Value → Shared → Prop),
    (∀ bs σ' s', Q (bs.map fun p => (p.1, er p.2)) σ' → RepB w B σ' s' → k bs s') → wpAny (model prog w) A (bindArgs fd ⟨vs, kvs⟩) k E s
noncomputable def okNames (sc : Scope) (ns : List Str) : Bool := ns.all (fun x => sc.names.lookup x == some .local) && decide ns.Nodup
theorem lk_none {x : Str} : ∀ {l : Loc}, x ∉ l.map (·.1) → lk l x = none
  | [], _ => rfl
  | (k, v) :: r, h => by
    unfold lk
    rw [if_neg (fun q => h (by rw [q]; exact .head _))]
    exact lk_none fun q => h (.tail _ q)
theorem lk_binds (x : Str) : ∀ bs : List (Str × Value), (bs.map (·.1)).Nodup → lk (bs.map fun p => (p.1, er p.2)) x = (bs.reverse.lookup x).map er
  | [], _ => rfl
  | (k, v) :: r, h => by
    have h' := List.nodup_cons.mp h
    simp only [List.map_cons, lk, List.reverse_cons, List.lookup_append, List.lookup_cons, List.lookup_nil]
    by_cases q : k = x
    · subst q
      have hn : List.lookup k r.reverse = none := by
        rw [List.lookup_eq_none_iff]
        intro p hp
        have hm := List.mem_reverse.mp hp
        have : p.1 ≠ k := fun e => h'.1 (e ▸ List.mem_map_of_mem (f := (·.1)) hm)
        simpa using fun e => this e.symm
      rw [if_pos rfl, hn]; simp
    · rw [if_neg q, lk_binds x r h'.2]
      have : (x == k) = false := beq_eq_false_iff_ne.mpr fun e => q e.symm
      simp [this]
theorem code_def_rule {f : Addr} {fd : FuncData} {oc : Value} {od : Option Addr} {osl : Array (Option Value)} {body : List Stmt} {args : List AV} {kw : List (Str × AV)} {Q : AV → AS → Prop}
    (ho : K.lookup f = some ⟨oc, od, .func fd, osl⟩) (hbody : fd.body = .stmts body) (hcd : codeIn K fd.code fd.qualname = true)
    (hb : VBi K w n fd args kw (fun l1 σ1 => okNames fd.scope (l1.map (·.1)) = true ∧ ∀ L env, σ1.hi ≤ L → env = callEnv fd L f → VB K w n env body (fun fl l' σ' => Q (match fl with | .ret v => v | _ => .none) σ') l1 σ1) σ)
    (hcell : ∀ x ∈ fd.scope.names, x.2 ≠ .cell := by decide) (hco : fd.scope.isCoroutine = false := by rfl) (hgen : fd.scope.isGenerator = false := by rfl) (hk : fd.scope.kind = .function := by rfl)
    (hg : fd.globals = mainGlobals := by rfl) (hbl : fd.builtins = builtinsNs := by rfl)
    {A : Around} {vs : List Value} {kvs : List (Str × Value)} (hr : Room (n + 1) A) (X : Base K B) (R : RepB w B σ s) (ha : vs.map er = args) (hkw : kvs.map (fun p => (p.1, er p.2)) = kw) {k : Value → Shared → Prop} {E : Value → Shared → Prop}
    (hq : ∀ v σ' s', Q (er v) σ' → RepB w B σ' s' → k v s') : codeAny (model prog w) A (.call (.ref f) ⟨vs, kvs⟩) (fun r s' => match r with | .ok (.ret v) => k v s' | .ok _ => False | .error e => E e s') s := by
  refine codeAny_call_function hr.depth (X.In R _ _ ho) rfl hco hgen hbody (codeRec_of (X.In R) hcd) ?_
  refine hb A.in1 B s vs kvs hr.in1 X R ha hkw _ _ fun bs σ1 s1 h1 R1 => ?_
  obtain ⟨hn, h1⟩ := h1
  simp only [okNames, Bool.and_eq_true, decide_eq_true_eq, List.map_map] at hn
  have hnames : (List.map ((·.1) ∘ fun p : Str × Value => (p.1, er p.2)) bs) = bs.map (·.1) := by congr 1
  rw [hnames] at hn
  have hloc : ∀ x ∈ bs, fd.scope.names.lookup x.1 = some .local := fun x hx => by
    have := List.all_eq_true.mp hn.1 x.1 (List.mem_map_of_mem hx)
    simpa using this
  refine wpAny_newFunctionEnv hcell hloc (fun h' hns hsb => ?_) hk
  have R2 : RepB w B σ1 { s1 with heap := h', toks := s1.toks + bs.length } := R1.ext (fun b o e => hsb.extBut b o (Nat.ne_of_lt (Heap.lt_size e)) (Heap.get?_push_of_some _ e)) (by rw [hsb.1, Heap.size_push]; exact Nat.le_succ _)
  refine ⟨X.noLimit R2, codeAny_func ?_⟩
  have hfL : σ1.f s1.heap.objs.size = none := by
    cases q : σ1.f s1.heap.objs.size with
    | none => rfl
    | some o => exact absurd (R1.lt q) (Nat.lt_irrefl _)
  have hbL : B.o s1.heap.objs.size = none := by
    cases q : B.o s1.heap.objs.size with
    | none => rfl
    | some o => exact absurd (R1.blt q) (Nat.lt_irrefl _)
  refine h1 s1.heap.objs.size _ R1.hi rfl (A.deeper (callEnv fd s1.heap.objs.size f)) B _ hr.deeper X ⟨hk, hg, hbl⟩ ⟨R2, ⟨_, hns, fun x => (lk_binds x bs hn.2).symm⟩, hfL, hbL⟩ _ _ fun fl l' σ' s' h3 R3 => ?_
  cases fl <;> exact hq _ _ _ h3 R3.rep
theorem vc_def {f : Addr} {fd : FuncData} {oc : Value} {od : Option Addr} {osl : Array (Option Value)} {body : List Stmt} {args : List AV} {Q : AV → AS → Prop}
    (ho : K.lookup f = some ⟨oc, od, .func fd, osl⟩) (hbody : fd.body = .stmts body) (hcd : codeIn K fd.code fd.qualname = true)
    (hb : VBi K w n fd args [] (fun l1 σ1 => okNames fd.scope (l1.map (·.1)) = true ∧ ∀ L env, σ1.hi ≤ L → env = callEnv fd L f → VB K w n env body (fun fl l' σ' => Q (match fl with | .ret v => v | _ => .none) σ') l1 σ1) σ)
    (hcell : ∀ x ∈ fd.scope.names, x.2 ≠ .cell := by decide) (hco : fd.scope.isCoroutine = false := by rfl) (hgen : fd.scope.isGenerator = false := by rfl) (hk : fd.scope.kind = .function := by rfl)
    (hg : fd.globals = mainGlobals := by rfl) (hbl : fd.builtins = builtinsNs := by rfl) : VC K w (n + 1) (.ref f) args Q σ :=
  fun A B s vs hr X R ha k E hq => wpAny_call (code_def_rule ho hbody hcd hb hcell hco hgen hk hg hbl hr X R ha rfl hq)
theorem kd_of {fd : FuncData} {L f : Addr} {x : Str} {k : NameKind} (h : env = callEnv fd L f) (e : fd.scope.names.lookup x = some k) : env.kindOf x = some k := by rw [h]; exact e
theorem vbi_1 {fd : FuncData} {a : AV} {x : Str} {Q : Loc → AS → Prop} (h : Q [(x, a)] σ) (hb : ∀ v, bindArgs fd ⟨[v], []⟩ = pure [(x, v)] := by intro _; rfl) : VBi K w n fd [a] [] Q σ := fun A B s vs kvs hr X R ha hkw k E hk => by
  obtain ⟨v, rfl, rfl⟩ : ∃ v, vs = [v] ∧ er v = a := by
    match vs, ha with
    | [v], ha => exact ⟨v, rfl, by simpa using ha⟩
  obtain rfl : kvs = [] := by simpa using hkw
  rw [hb]
  exact wpAny_pure (hk [(x, v)] _ _ h R)
theorem vbi_2 {fd : FuncData} {a b : AV} {x y : Str} {Q : Loc → AS → Prop} (h : Q [(x, a), (y, b)] σ) (hb : ∀ v u, bindArgs fd ⟨[v, u], []⟩ = pure [(x, v), (y, u)] := by intro _ _; rfl) : VBi K w n fd [a, b] [] Q σ := fun A B s vs kvs hr X R ha hkw k E hk => by
  obtain ⟨v, u, rfl, rfl, rfl⟩ : ∃ v u, vs = [v, u] ∧ er v = a ∧ er u = b := by
    match vs, ha with
    | [v, u], ha => simp only [List.map_cons, List.map_nil, List.cons.injEq, and_true] at ha; exact ⟨v, u, rfl, ha.1, ha.2⟩
  obtain rfl : kvs = [] := by simpa using hkw
  rw [hb]
  exact wpAny_pure (hk [(x, v), (y, u)] _ _ h R)
theorem vbi_3 {fd : FuncData} {a b c : AV} {x y z : Str} {Q : Loc → AS → Prop} (h : Q [(x, a), (y, b), (z, c)] σ) (hb : ∀ v u t, bindArgs fd ⟨[v, u, t], []⟩ = pure [(x, v), (y, u), (z, t)] := by intro _ _ _; rfl) : VBi K w n fd [a, b, c] [] Q σ := fun A B s vs kvs hr X R ha hkw k E hk => by
  obtain ⟨v, u, t, rfl, rfl, rfl, rfl⟩ : ∃ v u t, vs = [v, u, t] ∧ er v = a ∧ er u = b ∧ er t = c := by
    match vs, ha with
    | [v, u, t], ha => simp only [List.map_cons, List.map_nil, List.cons.injEq, and_true] at ha; exact ⟨v, u, t, rfl, ha.1, ha.2.1, ha.2.2⟩
  obtain rfl : kvs = [] := by simpa using hkw
  rw [hb]
  exact wpAny_pure (hk [(x, v), (y, u), (z, t)] _ _ h R)
theorem RepB.list (R : RepB w B σ s) {a : Addr} {vs : List AV} (h : σ.f a = some (.list vs)) : ∃ items m, IsL s.heap a items m ∧ items.toList.map er = vs := by
  obtain ⟨ob, h1, items, m, rfl, h2⟩ := R.objs a _ h
  exact ⟨items, m, h1, h2⟩
theorem RepB.tup (R : RepB w B σ s) {a : Addr} {vs : List AV} (h : σ.f a = some (.tup vs)) : ∃ items m, IsT s.heap a items m ∧ items.toList.map er = vs := by
  obtain ⟨ob, h1, items, m, rfl, h2⟩ := R.objs a _ h
  exact ⟨items, m, h1, h2⟩
theorem er_at {items : Array Value} {vs : List AV} (h : items.toList.map er = vs) {i : Nat} {v : AV} (hv : vs[i]? = some v) : ∃ x, items[i]? = some x ∧ er x = v := by
  subst h
  rw [List.getElem?_map] at hv
  obtain ⟨x, h1, h2⟩ := Option.map_eq_some_iff.mp hv
  exact ⟨x, by rw [← Array.getElem?_toList]; exact h1, h2⟩
theorem er_size {items : Array Value} {vs : List AV} (h : items.toList.map er = vs) : items.size = vs.length := by subst h; simp
theorem vi_list_int {value slice : Expr} {a : Addr} {vs : List AV} {i : Int} {v : AV} {Q : AV → AS → Prop} (hl : σ.f a = some (.list vs)) (h0 : 0 ≤ i) (hi : i < 2 ^ 62) (hv : vs[i.toNat]? = some v) (h : Q v σ)
    (hs : ∀ t, subscripted slice false (.ref a) (.int i t) = operate [.ref a, .int i t] (getItem (.ref a) (.int i t)) := by intro _; rfl) (ht : ∀ o r, letTemporaryGo value o r = pure () := by intro _ _; rfl) :
    VI K w n value slice (.ref a) (.int i) Q σ := fun a' b' ha hb A B s hr X R k E hk => by
  rw [er_ref ha]
  obtain ⟨t, rfl⟩ := er_int hb
  obtain ⟨items, m, h1, h2⟩ := R.list hl
  obtain ⟨x, h3, rfl⟩ := er_at h2 hv
  exact subscriptTail_builtin h1.isList.typeIs slot_list_getitem.lookup (wpAny_getItem_list h1.isList h0 (by omega) h3 (hk _ _ _ h R)) (hs t) (ht _)
theorem setItem_isL {A : Around} {E : Value → Shared → Prop} {l : Addr} {items : Array Value} {m : Nat} {k : Int} {t : Tok} {v : Value} {Q : Unit → Shared → Prop} (hl : IsL s.heap l items m)
    (h0 : 0 ≤ k) (hfit : k < 2 ^ 63) (hn : k < items.size)
    (hQ : ∀ h', IsL h' l (items.setIfInBounds k.toNat v) m → Heap.SameBut l s.heap h' → Q () { s with heap := h' }) :
    wpAny (model prog w) A (setItem (.ref l) (.int k t) v) Q E s := by
  have ho : s.heap.get? l = some { cls := .type "list", data := .seq items m } := hl
  have hT := hl.isList.typeIs
  unfold setItem
  try with_reducible refine wpAny_holding ?_
  first | refine wpAny_bind (wpAny_pure ?_) | skip
  refine wpAny_bind (wpAny_sequenceKey hT (by decide) ?_)
  refine wpAny_bind (wpAny_callSpecial?_slot (name := Str.ofString "__setitem__") hT slot_list_setitem
    (wpAny_call_entry slot_list_setitem hT entry_list_setitem ?_ (args_list_setitem _ _ _)))
  show wpAny _ _ (Builtin.List.listSubscript? (.int k t) >>= _) _ _ s
  refine wpAny_bind (wpAny_listSubscript_int (fitsIndex_of h0 hfit) ?_)
  clear hfit
  obtain ⟨j, rfl⟩ := Int.eq_ofNat_of_zero_le h0
  have hj : j < items.size := by omega
  have hx' : items[j]? = some items[j] := Array.getElem?_eq_getElem hj
  show wpAny _ _ ((seqItemAt l j >>= fun r => pure (r.map (j, ·))) >>= _) _ _ s
  refine wpAny_bind (wpAny_bind (wpAny_seqItemAt ho rfl (wpAny_pure ?_)))
  rw [hx']
  show wpAny _ _ (setSeqItemAt l j v >>= _) _ _ s
  have hmap : Obj.mapSeq (·.setIfInBounds j v) { cls := .type "list", data := .seq items m } = { cls := .type "list", data := .seq (items.setIfInBounds j v) m } := by
    simp [Obj.mapSeq]
  have hfin : IsL (s.heap.update l (Obj.mapSeq (·.setIfInBounds j v))) l (items.setIfInBounds j v) m := by
    show Heap.get? _ _ = _
    rw [Heap.get?_update_self _ ho (by rw [hmap]; rfl), hmap]
  refine wpAny_bind (wpAny_setSeqItemAt ho rfl ?_)
  first
    | exact wpAny_bind (wpAny_pure (wpAny_pure ⟨.none, rfl, wpAny_pure (hQ _ hfin (Heap.SameBut.update ..))⟩))
    | exact wpAny_pure ⟨.none, rfl, wpAny_pure (hQ _ hfin (Heap.SameBut.update ..))⟩
theorem va_sub_list {o i : Expr} {pos : Pos} {v : AV} {Q : Loc → AS → Prop}
    (h : VE K w n env l o (fun a σ1 => VE K w n env l i (fun b σ2 => ∃ ad ix vs, a = .ref ad ∧ b = .int ix ∧ σ2.f ad = some (.list vs) ∧ 0 ≤ ix ∧ ix < vs.length ∧ ix < 2 ^ 62 ∧ Q l (σ2.upd ad (.list (vs.set ix.toNat v)))) σ1) σ)
    (he' : ∀ v₀, assign (.Subscript o i pos) env v₀ = (do
      let ov ← holding [v₀] (eval o env)
      let iv ← holding [v₀, ov] (eval i env)
      standAt pos
      holding [v₀, ov, iv] (setItem ov iv v₀)
      release [v₀, ov, iv] []) := by intro _; rfl) : VA K w n env (.Subscript o i pos) v Q l σ := fun v₀ hv A B s hr X he R k E hk => by
  subst hv
  rw [he']
  refine wpAny_bind (wpAny_holding (h A B s hr X he R _ _ fun a σ1 s1 h1 R1 => wpAny_bind (wpAny_holding (h1 A B s1 hr X he R1 _ _ fun b σ2 s2 h2 R2 => wpAny_bind (wpAny_standAt (wpAny_bind (wpAny_holding ?_)))))))
  obtain ⟨ad, ix, vs, ha, hb, hl, h0, hx, hf, hq⟩ := h2
  rw [er_ref ha]
  obtain ⟨t, rfl⟩ := er_int hb
  obtain ⟨items, m, h3, h4⟩ := R2.rep.list hl
  have hz := er_size h4
  refine setItem_isL h3 h0 (by omega) (by omega) fun h' h5 h6 => wpAny_release ?_
  refine hk _ _ _ _ hq (R2.upd hl h6 h5 ⟨_, _, rfl, ?_⟩)
  subst h4
  simp [Array.toList_setIfInBounds, List.map_set]
end
end Mine
end
section
open PySem PySem.W PySem.Calls PyProof.Rows
set_option maxRecDepth 100000
set_option linter.unusedVariables false
namespace Mine
theorem runs_size {M : Model} {Γ : Ctx} {p : Pos} {t : Sem Fin} {fs : List Frame} {s s' : Shared} {e : End} (h : Runs M Γ p t fs s e s') : s.heap.objs.size ≤ s'.heap.objs.size := by
  induction h <;> (try simp only [Shared.setGen, Heap.size_push, Heap.size_after_update] at *) <;> omega
theorem wakes_size {M : Model} {Γ : Ctx} {p : Pos} {g : Nat} {r : Resume} {s s' : Shared} {res : GenResult} (h : Wakes M Γ p g r s res s') : s.heap.objs.size ≤ s'.heap.objs.size := by
  unfold Wakes at h
  split at h
  · exact h.elim
  · split at h
    · obtain ⟨e₁, s₁, hr, _, _, rfl⟩ := h; exact (runs_size hr : (s.setGen g .running).heap.objs.size ≤ s₁.heap.objs.size)
    · rw [h.2]; exact Nat.le_refl _
    · rw [h.2]; exact Nat.le_refl _
  · obtain ⟨e₁, s₁, hr, _, _, rfl⟩ := h; exact (runs_size hr : (s.setGen g .running).heap.objs.size ≤ s₁.heap.objs.size)
  · rw [h.2]; exact Nat.le_refl _
  · rw [h.2]; exact Nat.le_refl _
open Sem (wp) in
theorem wp_size {α : Type} (M : Model) (Γ : Ctx) (n : Nat) (t : Sem α) : ∀ (Q : α → Pos → Shared → Prop) (E : Value → Pos → Shared → Prop) (p : Pos) (s : Shared), n ≤ s.heap.objs.size → wp M Γ t Q E p s →
    wp M Γ t (fun a p' s' => n ≤ s'.heap.objs.size ∧ Q a p' s') (fun e p' s' => n ≤ s'.heap.objs.size ∧ E e p' s') p s := by
  induction t with
  | pure a => intro Q E p s hn h; exact ⟨hn, h⟩
  | raise e => intro Q E p s hn h; exact ⟨hn, h⟩
  | unsupported _ => intro Q E p s _ h; exact h
  | finish _ => intro Q E p s _ h; exact h
  | rule _ k ih => intro Q E p s hn h; exact ih () Q E p s hn h
  | «at» p' k ih => intro Q E p s hn h; exact ih () Q E p' s hn h
  | load a _ k ih => intro Q E p s hn h; obtain ⟨o, ho, h⟩ := h; exact ⟨o, ho, ih o Q E p s hn h⟩
  | update a _ f k ih => intro Q E p s hn h; exact ⟨h.1, ih () Q E p _ (by rw [Heap.size_after_update]; exact hn) h.2⟩
  | loadIfAlive a k ih => intro Q E p s hn h; exact ih _ Q E p s hn h
  | point _ k ih => intro Q E p s hn h; exact ih () Q E p s hn h
  | register _ _ => intro Q E p s _ h; exact h
  | alloc o k ih => intro Q E p s hn h; exact ih _ Q E p _ (by rw [Heap.size_push]; exact Nat.le_succ_of_le hn) h
  | fresh k ih => intro Q E p s hn h; exact ih _ Q E p _ hn h
  | ask k ih => intro Q E p s hn h; exact ih _ Q E p s hn h
  | choose src m k ih => intro Q E p s hn h; exact ⟨h.1, ih _ Q E p _ hn h.2⟩
  | os q _ k ih => intro Q E p s hn h; exact ih _ Q E p _ hn h
  | call c hd _ _ k ih => intro Q E p s hn h; obtain ⟨r, s', hr, h⟩ := h; exact ⟨r, s', hr, ih r Q E p s' (Nat.le_trans hn (runs_size hr)) h⟩
  | handled own k ih => intro Q E p s hn h; exact ih _ Q E p s hn h
  | genState g k ih => intro Q E p s hn h; obtain ⟨st, hs, h⟩ := h; exact ⟨st, hs, ih _ Q E p s hn h⟩
  | newGen c k ih => intro Q E p s hn h; exact ih _ Q E p _ hn h
  | resume g r _ k ih => intro Q E p s hn h; obtain ⟨res, s', hw, h⟩ := h; exact ⟨res, s', hw, ih res Q E p s' (Nat.le_trans hn (wakes_size hw)) h⟩
  | yield _ _ _ _ => intro Q E p s _ h; exact h
  | stack k ih => intro Q E p s hn h; exact ih _ Q E p s hn h
  | fork _ _ => intro Q E p s _ h; exact h
  | thread k ih => intro Q E p s hn h; exact ih _ Q E p s hn h
  | await _ _ _ _ _ => intro Q E p s _ h; exact h
theorem with_size {α : Type} {M : Model} {A : Around} {s : Shared} {t : Sem α} {Q : α → Shared → Prop} {E : Value → Shared → Prop}
    (h : wpAny M A t (fun a s' => s.heap.objs.size ≤ s'.heap.objs.size → Q a s') E s) : wpAny M A t Q E s :=
  fun Γ p hΓ => Sem.wp_mono M Γ t (fun _ _ _ x => x.2 x.1) (fun _ _ _ x => x.2) p s (wp_size M Γ _ t _ _ p s (Nat.le_refl _) (h Γ p hΓ))
section
variable {w : World} {B : Bs} {σ : AS} {s : Shared} {K : Frag} {n : Nat} {env : Env} {l : Loc}
noncomputable def ownedNames : List String := ["enumerate", "zip", "dict_itemiterator", "dict_reverseitemiterator", "odict_iterator", "itertools.zip_longest", "itertools.pairwise"]
structure ItOK (K : Frag) (w : World) (It : Addr) (St : Nat → Obj → Prop) (nxt : Nat → AS → Option AV) (ok : AS → Prop) : Prop where
  item : ∀ (i : Nat) (A : Around) (B : Bs) (s : Shared) (σ : AS) (o : Obj) (v : AV) (k : Option Value → Shared → Prop) (E : Value → Shared → Prop), A.handled = none → Base K B → B.o It = none → RepB w (B.add It o) σ s → St i o → ok σ → nxt i σ = some v →
    (∀ v' o' s', er v' = v → St (i + 1) o' → RepB w (B.add It o') σ s' → k (some v') s') → wpAny (model prog w) A (pyNext (.ref It)) k E s
  done : ∀ (i : Nat) (A : Around) (B : Bs) (s : Shared) (σ : AS) (o : Obj) (k : Option Value → Shared → Prop) (E : Value → Shared → Prop), A.handled = none → Base K B → B.o It = none → RepB w (B.add It o) σ s → St i o → ok σ → nxt i σ = none →
    (∀ s', RepB w B σ s' → k none s') → wpAny (model prog w) A (pyNext (.ref It)) k E s
  self : ∀ (i : Nat) (A : Around) (B : Bs) (s : Shared) (σ : AS) (o : Obj) (k : Value → Shared → Prop) (E : Value → Shared → Prop), B.o It = none → RepB w (B.add It o) σ s → St i o → k (.ref It) s → wpAny (model prog w) A (pyIter (.ref It)) k E s
  plain : ∀ i o, St i o → ∃ T vs, o.cls = .type T ∧ o.data = .fields vs ∧ ownedNames.contains T = false
theorem RepB.swap {It : Addr} {o : Obj} (R : RepB w (B.add It o) σ s) (hb : B.o It = none) {o' : Obj} {h' : Heap} {tk : Nat} (hg : h'.get? It = some o') (hx : Heap.SameBut It s.heap h') : RepB w (B.add It o') σ { s with heap := h', toks := tk } := by
  obtain ⟨R1, _, hn⟩ := R.show hb
  have R2 : RepB w B σ { s with heap := h', toks := tk } := R1.aside hn hb hx.extBut (by rw [hx.1]; exact Nat.le_refl _)
  exact R2.hide hg hn
noncomputable def VIt (K : Frag) (w : World) (n : Nat) (x : AV) (Q : (Nat → AS → Option AV) → (AS → Prop) → AS → Prop) (σ : AS) : Prop :=
  ∀ (x' : Value) (A : Around) (B : Bs) (s : Shared), er x' = x → Room n A → Base K B → RepB w B σ s → ∀ (k : Value → Shared → Prop) (E : Value → Shared → Prop),
    (∀ It St nxt ok o σ' s', ItOK K w It St nxt ok → St 0 o → B.o It = none → RepB w (B.add It o) σ' s' → Q nxt ok σ' → k (.ref It) s') → wpAny (model prog w) A (pyIter x') k E s
noncomputable def listNxt (a : Addr) : Nat → AS → Option AV := fun i σ => match σ.f a with | some (.list vs) => vs[i]? | _ => none
theorem RepB.gone {It : Addr} {o : Obj} (R : RepB w (B.add It o) σ s) (hb : B.o It = none) {h' : Heap} {tk : Nat} (hx : Heap.ExtBut It s.heap h') (hz : s.heap.objs.size ≤ h'.objs.size) : RepB w B σ { s with heap := h', toks := tk } := by
  obtain ⟨R1, _, hn⟩ := R.show hb
  exact R1.aside hn hb hx hz
theorem RepB.it {It : Addr} {o : Obj} (R : RepB w (B.add It o) σ s) : s.heap.get? It = some o := R.keep It _ (by simp [Bs.add])
theorem it_list {It a : Addr} : ItOK K w It (fun i o => o.cls = .type "list_iterator" ∧ o.data = .fields #[.ref a, .int i 0]) (listNxt a) (fun σ => ∃ vs, σ.f a = some (.list vs)) where
  item := fun i A B s σ o v k E hh X hb R st hok hv hk => by
    obtain ⟨vs, hl⟩ := hok
    simp only [listNxt, hl] at hv
    obtain ⟨items, m, h1, h2⟩ := R.list hl
    obtain ⟨x, h3, rfl⟩ := er_at h2 hv
    refine wpAny_pyNext_list_item ⟨_, R.it, st⟩ h1.isList h3 fun h' hit hs => ?_
    obtain ⟨o', ho', hc'⟩ := hit
    exact hk _ _ _ rfl hc' (R.swap hb ho' hs)
  done := fun i A B s σ o k E hh X hb R st hok hv hk => by
    obtain ⟨vs, hl⟩ := hok
    simp only [listNxt, hl] at hv
    obtain ⟨items, m, h1, h2⟩ := R.list hl
    have h3 : items[i]? = none := by
      subst h2
      rw [List.getElem?_map, Option.map_eq_none_iff, Array.getElem?_toList] at hv
      exact hv
    exact with_size (wpAny_pyNext_list_end hh ⟨_, R.it, st⟩ h1.isList h3 fun h' hx hz => hk _ (R.gone hb hx hz))
  self := fun i A B s σ o k E hb R st hq => wpAny_pyIter_listiter ⟨_, R.it, st⟩ hq
  plain := fun i o st => ⟨_, _, st.1, st.2, by decide⟩
theorem RepB.fresh (R : RepB w B σ s) : σ.f s.heap.objs.size = none ∧ B.o s.heap.objs.size = none := by
  constructor
  · cases q : σ.f s.heap.objs.size with
    | none => rfl
    | some o => exact absurd (R.lt q) (Nat.lt_irrefl _)
  · cases q : B.o s.heap.objs.size with
    | none => rfl
    | some o => exact absurd (R.blt q) (Nat.lt_irrefl _)
theorem RepB.push (R : RepB w B σ s) (o : Obj) {tk : Nat} : RepB w B σ { s with heap := s.heap.push o, toks := tk } :=
  R.ext (fun _ _ e => Heap.get?_push_of_some _ e) (by rw [Heap.size_push]; exact Nat.le_succ _)
theorem RepB.pushIt (R : RepB w B σ s) {o : Obj} (hf : o.isFreed = false) {tk : Nat} : RepB w (B.add s.heap.objs.size o) σ { s with heap := s.heap.push o, toks := tk } :=
  (R.push o).hide (Heap.get?_push_size _ hf) R.fresh.1
theorem vit_list {a : Addr} {vs : List AV} {Q : (Nat → AS → Option AV) → (AS → Prop) → AS → Prop} (hl : σ.f a = some (.list vs)) (h : Q (listNxt a) (fun σ => ∃ vs, σ.f a = some (.list vs)) σ) : VIt K w n (.ref a) Q σ := fun x' A B s hx hh X R k E hk => by
  rw [er_ref hx]
  obtain ⟨items, m, h1, h2⟩ := R.list hl
  exact wpAny_pyIter_list h1.isList (hk _ _ _ _ _ _ _ it_list ⟨rfl, rfl⟩ R.fresh.2 (R.pushIt rfl) h)
noncomputable def rngNxt (a b : Int) : Nat → AS → Option AV := fun i _ => if a + i < b then some (.int (a + i)) else none
theorem it_range {It : Addr} {a b : Int} : ItOK K w It (fun i o => o = { cls := .type "range_iterator", data := .fields #[rawInt (a + i), rawInt (b - a - i), rawInt 1] }) (rngNxt a b) (fun _ => True) where
  item := fun i A B s σ o v k E hh X hb R st hok hv hk => by
    subst st
    simp only [rngNxt] at hv
    split at hv
    · rename_i hlt
      cases hv
      refine wpAny_pyNext_range_item (x := a + i) (left := b - a - i) (step := 1) R.it (by omega) fun h' hit hs => ?_
      refine hk _ _ _ rfl ?_ (R.swap hb hit hs)
      simp only [Int.natCast_add, Int.natCast_one]
      rw [show a + (i : Int) + 1 = a + ((i : Int) + 1) from by omega, show b - a - (i : Int) - 1 = b - a - ((i : Int) + 1) from by omega]
    · cases hv
  done := fun i A B s σ o k E hh X hb R st hok hv hk => by
    subst st
    simp only [rngNxt] at hv
    split at hv
    · cases hv
    · exact with_size (wpAny_pyNext_range_end (x := a + i) (left := b - a - i) (step := 1) hh R.it (by omega) fun h' hx hz => hk _ (R.gone hb hx hz))
  self := fun i A B s σ o k E hb R st hq => by
    subst st
    exact wpAny_pyIter_rangeiter (x := a + i) (left := b - a - i) (step := 1) R.it hq
  plain := fun i o st => by subst st; exact ⟨_, _, rfl, rfl, by decide⟩
theorem letOwned {M : Model} {A : Around} {E : Value → Shared → Prop} {It : Addr} {o : Obj} {target : Expr} {v : Value} {Q : Unit → Shared → Prop} {T : String} {vs : Array Value} (ho : s.heap.get? It = some o) (hc : o.cls = .type T) (hd : o.data = .fields vs)
    (hT : ownedNames.contains T = false) (h : Q () s) : wpAny M A (letOwnedTupleGo target (.ref It) v) Q E s := by
  unfold letOwnedTupleGo
  have hT' : (["enumerate", "zip", "dict_itemiterator", "dict_reverseitemiterator", "odict_iterator", "itertools.zip_longest", "itertools.pairwise"] : List String).contains T = false := hT
  split
  · split
    · rename_i r a hra
      cases hra
      refine wpAny_bind (wpAny_load ho ?_)
      simp only [hc, hd, hT', Bool.false_and, Bool.false_eq_true, if_false]
      exact wpAny_pure h
    · exact wpAny_pure h
  · split
    · rename_i r a hra
      cases hra
      refine wpAny_bind (wpAny_load ho ?_)
      simp only [hc, hd, hT', Bool.false_and, Bool.false_eq_true, if_false]
      exact wpAny_pure h
    · exact wpAny_pure h
  · exact wpAny_pure h
theorem forLoop_any {prog : Program} {A : Around} {R : Result → Shared → Prop} {target : Expr} {it : Value} {body orelse : List Stmt} (I : Nat → Shared → Prop)
    (turn : ∀ n s, I n s → ∀ E : Value → Shared → Prop, wpAny (model prog w) A (pyNext it) (fun r s₁ => match r with
      | none => ∀ E : Value → Shared → Prop, wpAny (model prog w) A (execs orelse env) (fun f s₃ => R (.ok f) s₃) E s₁
      | some v => ∀ E : Value → Shared → Prop, wpAny (model prog w) A (letOwnedTupleGo target it v) (fun _ s₁' => wpAny (model prog w) A (assign target env v) (fun _ s₂ => wpAny (model prog w) A (execs body env) (fun f s₃ => match f with
          | .next | .cont => ∃ m, m < n ∧ I m s₃
          | .brk => R (.ok .next) s₃
          | .ret v => R (.ok (.ret v)) s₃) E s₂) E s₁') E s₁) E s)
    (n : Nat) (h : I n s) : codeAny (model prog w) A (.forLoop target it body orelse env) R s := by
  refine codeAny_loop' rfl I (fun n s hI => ?_) n h
  show wpAny _ _ ((forTurn target it body orelse env).onRaise (fun x => do noteFrame x env; theTreesLotGoes x)) _ _ s
  refine wpAny_noted ?_
  simp only [forTurn]
  refine wpAny_bind (wpAny_standAt (wpAny_bind (wpAny_onRaise (wpAny_mono (turn n s hI _) (fun r s₁ h₁ => ?_) fun _ _ h' => wpAny_standAt h'))))
  cases r with
  | none => exact wpAny_pure (.inr ⟨rfl, codeAny_block (h₁ _)⟩)
  | some v =>
    refine wpAny_bind (wpAny_mono (h₁ _) (fun _ s₁' h₁' => ?_) fun _ _ h' => h')
    refine wpAny_bind (wpAny_mono h₁' (fun _ s₂ h₂ => wpAny_bind (wpAny_mono h₂ (fun f s₃ h₃ => ?_) fun _ _ h' => h')) fun _ _ h' => h')
    cases f with
    | next => exact wpAny_pure (.inl ⟨rfl, h₃⟩)
    | cont => exact wpAny_pure (.inl ⟨rfl, h₃⟩)
    | brk => exact wpAny_pure h₃
    | ret v => exact wpAny_pure h₃
theorem vs_for {target iter : Expr} {body : List Stmt} {pos : Pos} {Q : AF → Loc → AS → Prop} (I : Nat → Loc → AS → Prop) (N : Nat)
    (h : VE K w n env l iter (fun x σ1 => VIt K w n x (fun nxt ok σ2 => I 0 l σ2 ∧ ∀ i l' σ', I i l' σ' → ok σ' ∧ (∀ v, nxt i σ' = some v → i < N ∧ VA K w n env target v (fun l2 σ2 => VB K w n env body (fun f l3 σ3 => match f with
        | .next => I (i + 1) l3 σ3
        | .cont => I (i + 1) l3 σ3
        | .brk => Q .next l3 σ3
        | .ret v => Q (.ret v) l3 σ3) l2 σ2) l' σ') ∧ (nxt i σ' = none → Q .next l' σ')) σ1) σ)
    (hs : ∀ x, foldedSetIterable iter env x = pure x := by intro _; rfl) : VS K w n env (.For target iter body [] pos) Q l σ := fun A B s hr X he R k E hk => by
  refine wpAny_For (h A B s hr X he R _ _ fun x σ1 s1 h1 R1 => ?_) hs
  obtain ⟨ob, Rh, Xh, back⟩ := R1.hide X
  refine h1 x A _ s1 rfl hr Xh Rh _ _ fun It St nxt ok o σ9 s2 IT st hb R2 hq => ?_
  obtain ⟨hI0, step⟩ := hq
  have hItL : It ≠ env.locals := fun q => by rw [q] at hb; simp [Bs.add] at hb
  have hbB : B.o It = none := by simpa [Bs.add, hItL] using hb
  have swapB : ∀ ob' o' σ' s', RepB w ((B.add env.locals ob').add It o') σ' s' → B.o env.locals = none → ((s'.heap.get? env.locals) = some ob') → σ'.f env.locals = none → RepB w (B.add It o') σ' s' := fun ob' o' σ' s' R' hL _ _ => by
    refine ⟨fun b o e => R'.keep b o ?_, fun a o e => ?_, R'.objs, R'.dom, R'.hi, R'.os, R'.gens⟩
    · simp only [Bs.add] at e ⊢
      split at e
      · rename_i q; rw [if_pos q]; exact e
      · rename_i q; rw [if_neg q, if_neg (fun z => by rw [z, hL] at e; cases e)]; exact e
    · have := R'.apart a o e
      simp only [Bs.add] at this ⊢
      split at this
      · cases this
      · rename_i q
        rw [if_neg q]
        split at this
        · cases this
        · exact this
  refine forLoop_any (fun m s' => ∃ i l' σ' o' , m = N - i ∧ i ≤ N ∧ I i l' σ' ∧ St i o' ∧ RepF w (B.add It o') env l' σ' s') (fun m s' hI E' => ?_) N ?_
  · obtain ⟨i, l', σ', o', rfl, hiN, hI, st', R'⟩ := hI
    obtain ⟨hok, hsome, hnone⟩ := step i l' σ' hI
    have XI : Base K (B.add It o') := X.add hbB
    obtain ⟨ob', Rh', Xh', back'⟩ := R'.hide XI
    have hbI : (B.add env.locals ob').o It = none := by simp only [Bs.add]; rw [if_neg hItL]; exact hbB
    have comm : ∀ o'' σ'' s'', RepB w ((B.add It o'').add env.locals ob') σ'' s'' ↔ RepB w ((B.add env.locals ob').add It o'') σ'' s'' := fun o'' σ'' s'' => by
      have e : (B.add It o'').add env.locals ob' = (B.add env.locals ob').add It o'' := by
        simp only [Bs.add]
        congr 1
        funext x
        by_cases q : x = env.locals
        · rw [if_pos q, if_neg (fun z => hItL (z.symm.trans q)), if_pos q]
        · rw [if_neg q]
          by_cases q' : x = It
          · rw [if_pos q', if_pos q']
          · rw [if_neg q', if_neg q', if_neg q]
      rw [e]
    have nsL : ∀ o'' σ'' s'', RepB w ((B.add env.locals ob').add It o'') σ'' s'' → RepF w (B.add It o'') env l' σ'' s'' := fun o'' σ'' s'' Rx => by
      have Ry := (comm o'' σ'' s'').mpr Rx
      obtain ⟨m', x', y'⟩ := R'.ns
      obtain ⟨o3, es, ep, ho3, r3⟩ := id x'
      have hob : ob' = o3 := Option.some.inj ((Rh'.keep env.locals ob' (by simp [Bs.add])).symm.trans ho3)
      subst hob
      have hLI : (B.add It o'').o env.locals = none := by simp only [Bs.add]; rw [if_neg hItL.symm]; exact R.lb
      obtain ⟨a1, b1, c1⟩ := Ry.show hLI
      exact ⟨a1, ⟨m', ⟨ob', es, ep, b1, r3⟩, y'⟩, c1, hLI⟩
    have Rq := (comm o' σ' s').mp Rh'
    cases hv : nxt i σ' with
    | none =>
      refine IT.done i A (B.add env.locals ob') s' σ' o' _ _ hr.1 (X.add R.lb) hbI Rq st' hok hv fun s'' R'' E'' => wpAny_execs_nil ?_
      obtain ⟨m', x', y'⟩ := R'.ns
      obtain ⟨o3, es, ep, ho3, r3⟩ := id x'
      have hob : ob' = o3 := Option.some.inj ((Rh'.keep env.locals ob' (by simp [Bs.add])).symm.trans ho3)
      subst hob
      obtain ⟨a1, b1, c1⟩ := R''.show R.lb
      exact hk .next _ _ _ (hnone hv) ⟨a1, ⟨m', ⟨ob', es, ep, b1, r3⟩, y'⟩, c1, R.lb⟩
    | some v =>
      obtain ⟨hlt, hbody⟩ := hsome v hv
      refine IT.item i A (B.add env.locals ob') s' σ' o' v _ _ hr.1 (X.add R.lb) hbI Rq st' hok hv fun v' o'' s'' hv' st'' R'' E'' => ?_
      have RF := nsL o'' σ' s'' R''
      obtain ⟨T, vs, hc, hd, hT⟩ := IT.plain _ _ st''
      refine letOwned R''.it hc hd hT ?_
      refine hbody v' hv' A (B.add It o'') s'' hr (X.add hbB) he RF _ _ fun _ l2 σ2 s3 h3 R3 => ?_
      refine h3 A (B.add It o'') s3 hr (X.add hbB) he R3 _ _ fun f l3 σ3 s4 h4 R4 => ?_
      have drop : RepF w B env l3 σ3 s4 := by
        obtain ⟨a1, b1, c1⟩ := R4.rep.show hbB
        exact ⟨a1, R4.ns, R4.lo, R.lb⟩
      cases f with
      | next => exact ⟨N - (i + 1), by omega, i + 1, l3, σ3, o'', rfl, hlt, h4, st'', R4⟩
      | cont => exact ⟨N - (i + 1), by omega, i + 1, l3, σ3, o'', rfl, hlt, h4, st'', R4⟩
      | brk => exact hk .next _ _ _ h4 drop
      | ret v => exact hk (.ret v) _ _ _ h4 drop
  · refine ⟨0, l, σ9, o, rfl, Nat.zero_le _, hI0, st, ?_⟩
    have hL2 := R2.keep env.locals ob (by simp only [Bs.add]; rw [if_neg hItL.symm]; simp)
    have hf2 : σ9.f env.locals = none := by
      cases q : σ9.f env.locals with
      | none => rfl
      | some z => have := R2.apart _ z q; simp only [Bs.add] at this; rw [if_neg hItL.symm] at this; simp at this
    have a1 := swapB ob o σ9 s2 R2 R.lb hL2 hf2
    obtain ⟨m', x', y'⟩ := R1.ns
    obtain ⟨o3, es, ep, ho3, r3⟩ := id x'
    have hob : ob = o3 := Option.some.inj ((Rh.keep env.locals ob (by simp [Bs.add])).symm.trans ho3)
    subst hob
    exact ⟨a1, ⟨m', ⟨ob, es, ep, hL2, r3⟩, y'⟩, hf2, by simp only [Bs.add]; rw [if_neg hItL.symm]; exact R.lb⟩
end
end Mine
end
section
open PySem PySem.W PySem.Calls PyProof.Rows
set_option maxRecDepth 100000
set_option linter.unusedVariables false
namespace Mine
section
variable {w : World} {B : Bs} {σ : AS} {s : Shared} {K : Frag} {n : Nat} {env : Env} {l : Loc}
noncomputable def Fresh (σ : AS) (a : Addr) : Prop := (∀ b, a ≤ b → σ.f b = none) ∧ σ.hi ≤ a
theorem Fresh.none {σ : AS} {a : Addr} (h : Fresh σ a) : σ.f a = none := h.1 a (Nat.le_refl _)
theorem RepB.sys (R : RepB w B σ s) (X : Base K B) {d : Addr} {o : AO} (e : σ.f d = some o) : (d == sysModules) = false := by
  obtain ⟨ob, h⟩ := X.sysm
  refine beq_eq_false_iff_ne.mpr fun q => ?_
  have := R.apart d o e
  rw [q, h] at this
  cases this
theorem RepB.isFresh (R : RepB w B σ s) {a : Addr} (ha : s.heap.objs.size ≤ a) : Fresh σ a := by
  refine ⟨fun b hb => ?_, Nat.le_trans R.hi ha⟩
  cases q : σ.f b with
  | none => rfl
  | some o => exact absurd (R.lt q) (Nat.not_lt.mpr (Nat.le_trans ha hb))
theorem RepB.new (R : RepB w B σ s) {ob : Obj} {o' : AO} (hr : RepO w o' ob) {tk : Nat} : RepB w B (σ.ins s.heap.objs.size o') { s with heap := s.heap.push ob, toks := tk } :=
  R.ins (Nat.le_refl _) (fun b o e => Heap.get?_push_of_some _ e) (by rw [Heap.size_push]; exact Nat.le_succ _) (Heap.get?_push_size _ hr.notFreed) hr
theorem RepF.new (R : RepF w B env l σ s) {ob : Obj} {o' : AO} (hr : RepO w o' ob) {tk : Nat} : RepF w B env l (σ.ins s.heap.objs.size o') { s with heap := s.heap.push ob, toks := tk } :=
  R.ins (Nat.le_refl _) (fun b o e => Heap.get?_push_of_some _ e) (by rw [Heap.size_push]; exact Nat.le_succ _) (Heap.get?_push_size _ hr.notFreed) hr
theorem repList (w : World) (vs : List Value) (m : Nat) : RepO w (.list (vs.map er)) { cls := .type "list", data := .seq vs.toArray m } := ⟨_, _, rfl, by simp⟩
theorem repTup (w : World) (vs : List Value) (m : Nat) : RepO w (.tup (vs.map er)) { cls := .type "tuple", data := .seq vs.toArray m } := ⟨_, _, rfl, by simp⟩
theorem ve_tuple {elts : List Expr} {k : Nat} {pos : Pos} {Q : AV → AS → Prop} (h : VL K w n env l pos elts (fun vs σ1 => vs.length ≤ 1000 ∧ ∀ a, Fresh σ1 a → Q (.ref a) (σ1.ins a (.tup vs))) σ) : VE K w n env l (.Tuple elts k pos) Q σ :=
  fun A B s hr X he R kk E hk => wpAny_Tuple (h A B s hr X he R _ _ fun vs σ1 s1 h1 R1 => ⟨by have := h1.1; rw [List.length_map] at this; unfold sizeLine; omega, hk _ _ _ (h1.2 _ (R1.rep.isFresh (Nat.le_refl _))) (R1.new (tk := s1.toks) (repTup w vs 0))⟩)
theorem ve_list {elts : List Expr} {pos : Pos} {Q : AV → AS → Prop} (h : VL K w n env l pos elts (fun vs σ1 => vs.length ≤ 1000 ∧ ∀ a, Fresh σ1 a → Q (.ref a) (σ1.ins a (.list vs))) σ) : VE K w n env l (.List elts pos) Q σ :=
  fun A B s hr X he R kk E hk => wpAny_List (h A B s hr X he R _ _ fun vs σ1 s1 h1 R1 => ⟨by have := h1.1; rw [List.length_map] at this; unfold sizeLine; omega, hk _ _ _ (h1.2 _ (R1.rep.isFresh (Nat.le_refl _))) (R1.new (tk := s1.toks) (repList w vs 0))⟩)
theorem ve_dict0 {pos : Pos} {Q : AV → AS → Prop} (h : ∀ a, Fresh σ a → Q (.ref a) (σ.ins a (.idict [] 0))) : VE K w n env l (.Dict [] [] pos) Q σ :=
  fun A B s hr X he R kk E hk => wpAny_Dict_empty (hk _ _ _ (h _ (R.rep.isFresh (Nat.le_refl _))) (R.new (tk := s.toks) (o' := .idict [] 0) ⟨#[], [], ⟨rfl, rfl, rfl⟩, rfl, (by intro e he; simp at he), .nil, List.nodup_nil, rfl⟩))
theorem one_of {vs : List Value} {a : AV} (h : vs.map er = [a]) : ∃ v, vs = [v] ∧ er v = a := by
  match vs, h with
  | [v], h => exact ⟨v, rfl, by simpa using h⟩
theorem two_of {vs : List Value} {a b : AV} (h : vs.map er = [a, b]) : ∃ v u, vs = [v, u] ∧ er v = a ∧ er u = b := by
  match vs, h with
  | [v, u], h => simp only [List.map_cons, List.map_nil, List.cons.injEq, and_true] at h; exact ⟨v, u, rfl, h.1, h.2⟩
theorem three_of {vs : List Value} {a b c : AV} (h : vs.map er = [a, b, c]) : ∃ v u t, vs = [v, u, t] ∧ er v = a ∧ er u = b ∧ er t = c := by
  match vs, h with
  | [v, u, t], h => simp only [List.map_cons, List.map_nil, List.cons.injEq, and_true] at h; exact ⟨v, u, t, rfl, h.1, h.2.1, h.2.2⟩
theorem vc_range1 {x : Int} {Q : AV → AS → Prop} (h : ∀ a, Fresh σ a → Q (.ref a) (σ.ins a (.rng 0 x))) : VC K w n (.type "range") [.int x] Q σ := fun A B s vs hr X R ha k E hk => by
  obtain ⟨v, rfl, hv⟩ := one_of ha
  obtain ⟨t, rfl⟩ := er_int hv
  exact call_range_1 (hk _ _ _ (h _ (R.isFresh (Nat.le_refl _))) (R.new (o' := .rng 0 x) ⟨_, _, _, rfl⟩))
theorem vc_range2 {x y : Int} {Q : AV → AS → Prop} (h : ∀ a, Fresh σ a → Q (.ref a) (σ.ins a (.rng x y))) : VC K w n (.type "range") [.int x, .int y] Q σ := fun A B s vs hr X R ha k E hk => by
  obtain ⟨v, u, rfl, hv, hu⟩ := two_of ha
  obtain ⟨t, rfl⟩ := er_int hv
  obtain ⟨t', rfl⟩ := er_int hu
  exact call_range_2 (hk _ _ _ (h _ (R.isFresh (Nat.le_refl _))) (R.new (o' := .rng x y) ⟨_, _, _, rfl⟩))
theorem RepB.rng (R : RepB w B σ s) {a : Addr} {x y : Int} (h : σ.f a = some (.rng x y)) : ∃ t u v, IsRange s.heap a x y 1 t u v := by
  obtain ⟨ob, h1, t, u, v, rfl⟩ := R.objs a _ h
  exact ⟨t, u, v, h1⟩
theorem vit_range {a : Addr} {x y : Int} {Q : (Nat → AS → Option AV) → (AS → Prop) → AS → Prop} (hl : σ.f a = some (.rng x y)) (hx : 0 ≤ x) (hx' : x < 1000) (hy : -1000 < y) (hy' : y < 1000) (h : Q (rngNxt x y) (fun _ => True) σ) : VIt K w n (.ref a) Q σ := fun x' A B s hxx hh X R k E hk => by
  rw [er_ref hxx]
  obtain ⟨t, u, v, h1⟩ := R.rng hl
  refine wpAny_pyIter_range h1 (small_one (by omega) (by omega) (by omega) (by omega)) ?_
  by_cases hlt : x < y
  · refine hk _ _ _ _ _ _ _ (it_range (a := x) (b := y)) ?_ R.fresh.2 (R.pushIt rfl) h
    rw [rangeSize_one, if_pos hlt]
    simp
  · have e : Builtin.Range.rangeSize x y 1 = 0 := by rw [rangeSize_one, if_neg hlt]
    refine hk _ _ _ _ _ _ _ (it_range (a := x) (b := x)) ?_ R.fresh.2 (R.pushIt rfl) ?_
    · rw [e]; simp
    · have : rngNxt x x = rngNxt x y := by
        funext i σ
        simp only [rngNxt]
        rw [if_neg (by omega), if_neg (by omega)]
      rw [this]; exact h
noncomputable def rngInts (a b : Int) : List Int := (List.range (b - a).toNat).map fun (i : Nat) => a + (i : Int)
theorem items_rng {a b : Int} {acc : Array Value} {m : Nat} (hm : (m : Int) = if a < b then b - a else 0) (h : ItemsOf (fun i v => ∃ t, v = .int (a + i * 1) t) acc m) : acc.toList.map er = (rngInts a b).map .int := by
  have e : (b - a).toNat = m := by split at hm <;> omega
  apply List.ext_getElem?
  intro i
  rw [rngInts, e, List.getElem?_map, List.getElem?_map, List.getElem?_map, Array.getElem?_toList]
  by_cases hi : i < m
  · have hs : i < acc.size := by rw [h.1]; exact hi
    obtain ⟨t, ht⟩ := h.2 i acc[i] (by simp [hs])
    rw [List.getElem?_range hi, Array.getElem?_eq_getElem hs, ht]
    simp [er]
  · have hs : ¬ i < acc.size := by rw [h.1]; exact hi
    rw [Array.getElem?_eq_none (by omega), List.getElem?_eq_none (by simp; omega)]
    rfl
theorem vc_list_range {a : Addr} {x y : Int} {Q : AV → AS → Prop} (hl : σ.f a = some (.rng x y)) (hx : 0 ≤ x) (hx' : x < 1000) (hy : -1000 < y) (hy' : y < 1000) (h : ∀ a, Fresh σ a → Q (.ref a) (σ.ins a (.list ((rngInts x y).map .int)))) : VC K w n (.type "list") [.ref a] Q σ := fun A B s vs hr X R ha k E hk => by
  obtain ⟨v, rfl, hv⟩ := one_of ha
  rw [er_ref hv]
  obtain ⟨t, u, v', h1⟩ := R.rng hl
  have hm : Builtin.Range.rangeSize x y 1 = ((if x < y then y - x else 0).toNat : Nat) := by rw [rangeSize_one]; split <;> omega
  refine with_size (call_list_range hr.1 h1 (small_one (by omega) (by omega) (by omega) (by omega)) hm (by split <;> omega) fun h' tk acc c' hkp hD hacc hz => ?_)
  exact hk _ _ _ (h _ (R.isFresh (Nat.le_refl _))) (R.ins (Nat.le_refl _) hkp hz hD ⟨_, _, rfl, items_rng (by split <;> omega) hacc⟩)
theorem vc_list_list {a : Addr} {xs : List AV} {Q : AV → AS → Prop} (hl : σ.f a = some (.list xs)) (hz : xs.length ≤ 1000) (h : ∀ a, Fresh σ a → Q (.ref a) (σ.ins a (.list xs))) : VC K w n (.type "list") [.ref a] Q σ := fun A B s vs hr X R ha k E hk => by
  obtain ⟨v, rfl, hv⟩ := one_of ha
  rw [er_ref hv]
  obtain ⟨items, m, h1, h2⟩ := R.list hl
  have hsz := er_size h2
  refine with_size (call_list_seq a (.inl rfl) h1 rfl rfl (fun h' c' hkp hD hz' => ?_) (by unfold sizeLine; omega))
  exact hk _ _ _ (h _ (R.isFresh (Nat.le_refl _))) (R.ins (Nat.le_refl _) hkp hz' hD ⟨_, _, rfl, h2⟩)
theorem vc_len_list {a : Addr} {xs : List AV} {Q : AV → AS → Prop} (hl : σ.f a = some (.list xs)) (hz : xs.length ≤ 1000) (h : Q (.int xs.length) σ) : VC K w n (.builtin "len") [.ref a] Q σ := fun A B s vs hr X R ha k E hk => by
  obtain ⟨v, rfl, hv⟩ := one_of ha
  rw [er_ref hv]
  obtain ⟨items, m, h1, h2⟩ := R.list hl
  have hsz := er_size h2
  refine call_len_list h1.isList (by omega) ?_
  rw [hsz]
  exact hk _ _ _ h R.toks
theorem vc_len_tuple {a : Addr} {xs : List AV} {Q : AV → AS → Prop} (hl : σ.f a = some (.tup xs)) (hz : xs.length ≤ 1000) (h : Q (.int xs.length) σ) : VC K w n (.builtin "len") [.ref a] Q σ := fun A B s vs hr X R ha k E hk => by
  obtain ⟨v, rfl, hv⟩ := one_of ha
  rw [er_ref hv]
  obtain ⟨items, m, h1, h2⟩ := R.tup hl
  have hsz := er_size h2
  refine len_tuple ⟨_, h1, rfl, _, rfl⟩ (by omega) ?_
  rw [hsz]
  exact hk _ _ _ h R.toks
theorem ve_add_list {lhs rhs : Expr} {pos : Pos} {Q : AV → AS → Prop}
    (h : VE K w n env l lhs (fun a σ1 => VE K w n env l rhs (fun b σ2 => ∃ x y xs ys, a = .ref x ∧ b = .ref y ∧ σ2.f x = some (.list xs) ∧ σ2.f y = some (.list ys) ∧ xs.length ≤ 1000 ∧ ys.length ≤ 1000 ∧ ∀ c, Fresh σ2 c → Q (.ref c) (σ2.ins c (.list (xs ++ ys)))) σ1) σ) :
    VE K w n env l (.BinOp lhs .Add rhs pos) Q σ := by
  refine ve_binop (vx_mono h fun a σ1 h1 => vx_mono h1 fun b σ2 h2 a' b' ha hb => ?_)
  obtain ⟨x, y, xs, ys, rfl, rfl, hx, hy, lx, ly, hq⟩ := h2
  intro A B s hr X he R k E hk
  rw [er_ref ha, er_ref hb]
  obtain ⟨items, m, h1, h2⟩ := R.rep.list hx
  obtain ⟨items2, m2, h3, h4⟩ := R.rep.list hy
  have e1 := er_size h2
  have e2 := er_size h4
  refine P.add_list h1 h3 ?_ (by unfold sizeLine; omega)
  exact hk _ _ _ (hq _ (R.rep.isFresh (Nat.le_refl _))) (R.new (tk := s.toks) (o' := .list (xs ++ ys)) ⟨_, 0, rfl, by rw [Array.toList_append, List.map_append, h2, h4]⟩)
theorem map_eraseIdx {α β : Type} (f : α → β) : ∀ (l : List α) (i : Nat), (l.eraseIdx i).map f = (l.map f).eraseIdx i
  | [], _ => rfl
  | _ :: _, 0 => rfl
  | a :: l, i + 1 => by simp only [List.eraseIdx_cons_succ, List.map_cons, map_eraseIdx f l i]
theorem vm_list {a : Addr} {xs : List AV} {name : Str} {id : String} {Q : Value × List Value → AS → Prop} (hl : σ.f a = some (.list xs)) (slot : Slot "list" name id) (hty : typeOf (.builtin id) = pure (.type "method_descriptor")) (h : Q (.builtin id, [.ref a]) σ) :
    VM K w n (.ref a) name Q σ := fun v' pl hv A B s hr X R k E hk => by
  rw [er_ref hv]
  obtain ⟨items, m, h1, h2⟩ := R.list hl
  exact getMethod_builtin ⟨_, h1, rfl⟩ PySem.F.plainAttrs_list slot hty (fun a e => by cases e; exact ⟨_, h1, rfl⟩) (hk _ _ _ h R)
theorem vc_append {a : Addr} {xs : List AV} {v : AV} {Q : AV → AS → Prop} (hl : σ.f a = some (.list xs)) (hz : xs.length ≤ 1000) (h : Q .none (σ.upd a (.list (xs ++ [v])))) : VC K w n (.builtin "list.append") [.ref a, v] Q σ := fun A B s vs hr X R ha k E hk => by
  obtain ⟨p, u, rfl, hv, rfl⟩ := two_of ha
  rw [er_ref hv]
  obtain ⟨items, m, h1, h2⟩ := R.list hl
  have e1 := er_size h2
  refine wpAny_list_append_plain ⟨m, h1⟩ (fun h' hp hs => ?_) (by unfold sizeLine; omega)
  obtain ⟨m', hp⟩ := hp
  exact hk _ _ _ h (R.upd hl hs hp ⟨_, _, rfl, by rw [Array.toList_push, List.map_append, h2]; rfl⟩)
theorem vc_pop {a : Addr} {xs : List AV} {i : Int} {v : AV} {Q : AV → AS → Prop} (hl : σ.f a = some (.list xs)) (hz : xs.length ≤ 1000) (h0 : 0 ≤ i) (hv : xs[i.toNat]? = some v) (h : Q v (σ.upd a (.list (xs.eraseIdx i.toNat)))) : VC K w n (.builtin "list.pop") [.ref a, .int i] Q σ := fun A B s vs hr X R ha k E hk => by
  obtain ⟨p, u, rfl, hp, hu⟩ := two_of ha
  obtain ⟨t, rfl⟩ := er_int hu
  rw [er_ref hp]
  obtain ⟨items, m, h1, h2⟩ := R.list hl
  have e1 := er_size h2
  obtain ⟨x, h3, rfl⟩ := er_at h2 hv
  have hlt : i.toNat < items.size := by
    rcases Nat.lt_or_ge i.toNat items.size with q | q
    · exact q
    · rw [Array.getElem?_eq_none q] at h3; cases h3
  refine call_meets F.slot_list_pop ⟨_, h1, rfl⟩ F.entry_list_pop (F.args_list_pop_2 _ _) (MeetsSeq.list_pop_at a items m i t i.toNat x (fitsIndex_of h0 (by omega)) ?_ h3 (by unfold sizeLine; omega)) ⟨h1, ?_⟩
  · unfold seqIndex?; simp; omega
  refine hk _ _ _ h (R.upd hl (Heap.SameBut.update ..) (h1.update _) ⟨_, _, rfl, ?_⟩)
  subst h2
  rw [Array.toList_eraseIdxIfInBounds]
  exact map_eraseIdx er _ _
theorem vtr_list {a : Addr} {xs : List AV} {Q : Bool → AS → Prop} (hl : σ.f a = some (.list xs)) (hz : xs.length ≤ 1000) (h : Q (!xs.isEmpty) σ) : VTr K w n (.ref a) Q σ := fun v' hv A B s hr X R k E hk => by
  rw [er_ref hv]
  obtain ⟨items, m, h1, h2⟩ := R.list hl
  have e1 := er_size h2
  refine wpAny_truthy_list h1.isList (by omega) (hk _ _ _ ?_ R.toks)
  have : (!items.isEmpty) = !xs.isEmpty := by subst h2; cases items with | mk l => cases l <;> rfl
  rw [id_eq, this]; exact h
end
end Mine
end
section
open PySem PySem.W PySem.Calls PyProof.Rows PySem.SeqAt PySem.MeetsSeq
set_option maxRecDepth 100000
set_option linter.unusedVariables false
namespace Mine
section
variable {w : World} {B : Bs} {σ : AS} {s : Shared} {K : Frag} {n : Nat} {env : Env} {l : Loc}
noncomputable def iv : Value → Option Int
  | .int i _ => some i
  | _ => none
theorem mem_int {items : Array Value} {ns : List Int} (h : items.toList.map er = ns.map .int) {y : Value} (hy : y ∈ items) : ∃ i t, y = .int i t ∧ i ∈ ns := by
  have : er y ∈ ns.map .int := h ▸ List.mem_map_of_mem (Array.mem_toList_iff.mpr hy)
  obtain ⟨i, hi, e⟩ := List.mem_map.mp this
  obtain ⟨t, rfl⟩ := er_int e.symm
  exact ⟨i, t, rfl, hi⟩
theorem any_ints {items : Array Value} {ns : List Int} (h : items.toList.map er = ns.map .int) (x : Int) : items.any (fun y => iv y == some x) = ns.contains x := by
  rw [← Array.any_toList]
  generalize items.toList = l at h
  induction l generalizing ns with
  | nil => cases ns with
    | nil => rfl
    | cons => cases h
  | cons v l ih =>
    cases ns with
    | nil => cases h
    | cons m ns =>
      simp only [List.map_cons, List.cons.injEq] at h
      obtain ⟨t, rfl⟩ := er_int h.1
      rw [List.any_cons, ih h.2, List.contains_cons]
      have : (iv (Value.int m t) == some x) = (x == m) := by
        show (some m == some x) = _
        rw [Bool.eq_iff_iff]; simp; exact eq_comm
      rw [this]
theorem eqAt_int {A : Around} {y : Value} {i : Int} {t : Tok} {x : Int} {u : Tok} : EqAt A s (.int i t) (.int x u) (iv (.int i t) == some x) := by
  have := EqAt.int_int (A := A) (s := s) i t x u
  have e : (iv (.int i t) == some x) = (i == x) := by show (some i == some x) = _; rw [Bool.eq_iff_iff]; simp
  rw [e]; exact this
theorem vo_in_ints {x : Int} {a : Addr} {ns : List Int} {Q : AV → AS → Prop} (hl : σ.f a = some (.list (ns.map .int))) (h : Q (.bool (ns.contains x)) σ) : VO K w n .In (.int x) (.ref a) Q σ := fun a' b' ha hb A B s hr X R k E hk => by
  obtain ⟨t, rfl⟩ := er_int ha
  rw [er_ref hb]
  obtain ⟨items, m, h1, h2⟩ := R.list hl
  refine in_listAt (fun y => iv y == some x) h1.isList (fun y hy => ?_) ?_
  · obtain ⟨i, t', rfl, _⟩ := mem_int h2 hy; exact eqAt_int (y := .none)
  · rw [any_ints h2]; exact hk _ _ _ h R
theorem vo_notin_ints {x : Int} {a : Addr} {ns : List Int} {Q : AV → AS → Prop} (hl : σ.f a = some (.list (ns.map .int))) (h : Q (.bool (!ns.contains x)) σ) : VO K w n .NotIn (.int x) (.ref a) Q σ := fun a' b' ha hb A B s hr X R k E hk => by
  obtain ⟨t, rfl⟩ := er_int ha
  rw [er_ref hb]
  obtain ⟨items, m, h1, h2⟩ := R.list hl
  refine notIn_listAt (fun y => iv y == some x) h1.isList (fun y hy => ?_) ?_
  · obtain ⟨i, t', rfl, _⟩ := mem_int h2 hy; exact eqAt_int (y := .none)
  · rw [any_ints h2]; exact hk _ _ _ h R
theorem vo_in_tup {x : Int} {a : Addr} {ns : List Int} {Q : AV → AS → Prop} (hl : σ.f a = some (.tup (ns.map .int))) (h : Q (.bool (ns.contains x)) σ) : VO K w n .In (.int x) (.ref a) Q σ := fun a' b' ha hb A B s hr X R k E hk => by
  obtain ⟨t, rfl⟩ := er_int ha
  rw [er_ref hb]
  obtain ⟨items, m, h1, h2⟩ := R.tup hl
  refine in_tupleAt (fun y => iv y == some x) ⟨_, h1, rfl, _, rfl⟩ (fun y hy => ?_) ?_
  · obtain ⟨i, t', rfl, _⟩ := mem_int h2 hy; exact eqAt_int (y := .none)
  · rw [any_ints h2]; exact hk _ _ _ h R
noncomputable def prO : Option AO → Option (Int × Int)
  | some (.tup [.int x, .int y]) => some (x, y)
  | _ => none
theorem prO_some {o : Option AO} {p : Int × Int} (h : prO o = some p) : o = some (.tup [.int p.1, .int p.2]) := by
  unfold prO at h
  split at h
  · cases h; rfl
  · cases h
noncomputable def prAV (σ : AS) : AV → Option (Int × Int)
  | .ref a => prO (σ.f a)
  | _ => none
theorem prAV_some {v : AV} {p : Int × Int} (h : prAV σ v = some p) : ∃ a, v = .ref a ∧ σ.f a = some (.tup [.int p.1, .int p.2]) := by
  unfold prAV at h
  split at h
  · exact ⟨_, rfl, prO_some h⟩
  · cases h
noncomputable def Prs (σ : AS) (vs : List AV) (E : List (Int × Int)) : Prop := vs.map (prAV σ) = E.map some
theorem prs_nil : Prs σ [] [] := rfl
theorem Prs.length {vs : List AV} {E : List (Int × Int)} (h : Prs σ vs E) : vs.length = E.length := by have := congrArg List.length h; simpa using this
theorem Prs.append {vs us : List AV} {E F : List (Int × Int)} (h : Prs σ vs E) (g : Prs σ us F) : Prs σ (vs ++ us) (E ++ F) := by
  unfold Prs at *
  rw [List.map_append, h, g, List.map_append]
theorem Prs.one {a : Addr} {x y : Int} (h : σ.f a = some (.tup [.int x, .int y])) : Prs σ [.ref a] [(x, y)] := by
  unfold Prs; simp [prAV, h, prO]
noncomputable def Ext (σ σ' : AS) : Prop := ∀ a o, σ.f a = some o → σ'.f a = some o
theorem Ext.refl : Ext σ σ := fun _ _ e => e
theorem Ext.trans {σ' σ'' : AS} (h : Ext σ σ') (g : Ext σ' σ'') : Ext σ σ'' := fun a o e => g a o (h a o e)
theorem Ext.ins {a : Addr} {o : AO} (h : Fresh σ a) : Ext σ (σ.ins a o) := fun b ob e => by
  rw [AS.ins_f, if_neg]
  · exact e
  · intro q; rw [q, h.none] at e; cases e
noncomputable def ExtB (P : Addr → Prop) (σ σ' : AS) : Prop := ∀ a o, ¬ P a → σ.f a = some o → σ'.f a = some o
theorem Prs.get {vs : List AV} {E : List (Int × Int)} (h : Prs σ vs E) {i : Nat} {v : AV} (hv : vs[i]? = some v) : ∃ a p, E[i]? = some p ∧ v = .ref a ∧ σ.f a = some (.tup [.int p.1, .int p.2]) := by
  have e : (vs.map (prAV σ))[i]? = some (prAV σ v) := by rw [List.getElem?_map, hv]; rfl
  rw [h, List.getElem?_map] at e
  obtain ⟨p, h1, h2⟩ := Option.map_eq_some_iff.mp e
  obtain ⟨a, h3, h4⟩ := prAV_some h2.symm
  exact ⟨a, p, h1, h3, h4⟩
theorem Prs.mem {vs : List AV} {E : List (Int × Int)} (h : Prs σ vs E) {v : AV} (hv : v ∈ vs) : ∃ a p, p ∈ E ∧ v = .ref a ∧ σ.f a = some (.tup [.int p.1, .int p.2]) := by
  obtain ⟨i, hi⟩ := List.getElem?_of_mem hv
  obtain ⟨a, p, h1, h2, h3⟩ := h.get hi
  exact ⟨a, p, List.mem_of_getElem? h1, h2, h3⟩
theorem Prs.ext {σ' : AS} {vs : List AV} {E : List (Int × Int)} (h : Prs σ vs E) (x : ∀ a (p : Int × Int), σ.f a = some (.tup [.int p.1, .int p.2]) → .ref a ∈ vs → σ'.f a = some (.tup [.int p.1, .int p.2])) : Prs σ' vs E := by
  unfold Prs at *
  rw [← h]
  refine List.map_congr_left fun v hv => ?_
  obtain ⟨a, p, _, rfl, h3⟩ := Prs.mem (σ := σ) h hv
  simp only [prAV]
  rw [h3, x a p h3 hv]
theorem Prs.of_ext {σ' : AS} {vs : List AV} {E : List (Int × Int)} (h : Prs σ vs E) (x : Ext σ σ') : Prs σ' vs E := h.ext fun a p e _ => x _ _ e
theorem Prs.upd {vs : List AV} {E : List (Int × Int)} (h : Prs σ vs E) {a : Addr} {o o' : AO} (ho : σ.f a = some o) (hn : ∀ xs, o ≠ .tup xs) : Prs (σ.upd a o') vs E := h.ext fun b p e _ => by
  rw [AS.upd_f, if_neg]
  · exact e
  · intro q; rw [q, ho] at e; cases e; exact hn _ rfl
noncomputable def prV (σ : AS) (v : Value) : Option (Int × Int) := prAV σ (er v)
theorem any_prs {items : Array Value} {vs : List AV} {E : List (Int × Int)} (h : items.toList.map er = vs) (hp : Prs σ vs E) (x : Int × Int) : items.any (fun y => prV σ y == some x) = E.contains x := by
  rw [← Array.any_toList]
  subst h
  unfold Prs at hp
  generalize items.toList = l at hp
  induction l generalizing E with
  | nil => cases E with
    | nil => rfl
    | cons => cases hp
  | cons v l ih =>
    cases E with
    | nil => cases hp
    | cons m E =>
      simp only [List.map_cons, List.cons.injEq] at hp
      rw [List.any_cons, ih hp.2, List.contains_cons]
      have : (prV σ v == some x) = (x == m) := by
        unfold prV; rw [hp.1, Bool.eq_iff_iff]; simp; exact eq_comm
      rw [this]
theorem eqAt_prs (R : RepB w B σ s) {A : Around} (hu : A.in1.units < cLine) {a t : Addr} {p q : Int × Int} (ha : σ.f a = some (.tup [.int p.1, .int p.2])) (ht : σ.f t = some (.tup [.int q.1, .int q.2])) : EqAt A s (.ref a) (.ref t) (some p == some q) := by
  by_cases hat : a = t
  · subst hat
    rw [ha] at ht
    obtain rfl : p = q := by
      injection ht with ht; injection ht with ht; injection ht with h1 h2; injection h1 with h1; injection h2 with h2 _; injection h2 with h2
      exact Prod.ext h1 h2
    have : (some p == some p) = true := by simp
    rw [this]
    exact EqAt.same _
  · obtain ⟨i1, m1, h1, h2⟩ := R.tup ha
    obtain ⟨i2, m2, h3, h4⟩ := R.tup ht
    obtain ⟨v1, v2, e1, e2, e3⟩ := two_of h2
    obtain ⟨u1, u2, f1, f2, f3⟩ := two_of h4
    obtain ⟨t1, rfl⟩ := er_int e2
    obtain ⟨t2, rfl⟩ := er_int e3
    obtain ⟨t3, rfl⟩ := er_int f2
    obtain ⟨t4, rfl⟩ := er_int f3
    obtain rfl : i1 = #[.int p.1 t1, .int p.2 t2] := by cases i1; simp at e1; rw [e1]
    obtain rfl : i2 = #[.int q.1 t3, .int q.2 t4] := by cases i2; simp at f1; rw [f1]
    refine EqAt.of_refs hat ?_
    have := RcAt.tuples (A := A) (s := s) (l := a) (b := t) (e := fun j => if j = 0 then p.1 == q.1 else p.2 == q.2) ⟨_, h1, rfl, _, rfl⟩ ⟨_, h3, rfl, _, rfl⟩ (by have : A.in1.units = A.units + 1 := rfl; omega) (fun j j1 j2 => by
      match j, j1, j2 with
      | 0, _, _ => exact EqAt.int_int _ _ _ _
      | 1, _, _ => exact EqAt.int_int _ _ _ _
      | j + 2, j1, j2 => exact absurd j1 (by simp))
    have e : ((List.range (min (#[Value.int p.1 t1, Value.int p.2 t2] : Array Value).size (#[Value.int q.1 t3, Value.int q.2 t4] : Array Value).size)).all (fun j => if j = 0 then p.1 == q.1 else p.2 == q.2) && (#[Value.int p.1 t1, Value.int p.2 t2] : Array Value).size == (#[Value.int q.1 t3, Value.int q.2 t4] : Array Value).size) = (some p == some q) := by
      rw [Bool.eq_iff_iff]
      obtain ⟨p1, p2⟩ := p
      obtain ⟨q1, q2⟩ := q
      simp [List.range_succ]
    rw [← e]
    exact this
theorem vo_in_prs {t a : Addr} {x y : Int} {vs : List AV} {E : List (Int × Int)} {Q : AV → AS → Prop} (hl : σ.f a = some (.list vs)) (hp : Prs σ vs E) (ht : σ.f t = some (.tup [.int x, .int y])) (h : Q (.bool (E.contains (x, y))) σ) : VO K w n .In (.ref t) (.ref a) Q σ := fun a' b' ha hb A B s hr X R k E' hk => by
  rw [er_ref ha, er_ref hb]
  obtain ⟨items, m, h1, h2⟩ := R.list hl
  refine in_listAt (fun v => prV σ v == some (x, y)) h1.isList (fun v hv => ?_) ?_
  · obtain ⟨b, p, _, e, e2⟩ := hp.mem (h2 ▸ List.mem_map_of_mem (Array.mem_toList_iff.mpr hv))
    rw [er_ref e]
    have : prV σ (.ref b) = some p := by simp [prV, er, prAV, e2, prO]
    rw [this]
    exact eqAt_prs R (by have := hr.2.2; show A.units + 1 + 1 < 9900; omega) e2 ht
  · rw [any_prs h2 hp]; exact hk _ _ _ h R
theorem vo_notin_prs {t a : Addr} {x y : Int} {vs : List AV} {E : List (Int × Int)} {Q : AV → AS → Prop} (hl : σ.f a = some (.list vs)) (hp : Prs σ vs E) (ht : σ.f t = some (.tup [.int x, .int y])) (h : Q (.bool (!E.contains (x, y))) σ) : VO K w n .NotIn (.ref t) (.ref a) Q σ := fun a' b' ha hb A B s hr X R k E' hk => by
  rw [er_ref ha, er_ref hb]
  obtain ⟨items, m, h1, h2⟩ := R.list hl
  refine notIn_listAt (fun v => prV σ v == some (x, y)) h1.isList (fun v hv => ?_) ?_
  · obtain ⟨b, p, _, e, e2⟩ := hp.mem (h2 ▸ List.mem_map_of_mem (Array.mem_toList_iff.mpr hv))
    rw [er_ref e]
    have : prV σ (.ref b) = some p := by simp [prV, er, prAV, e2, prO]
    rw [this]
    exact eqAt_prs R (by have := hr.2.2; show A.units + 1 + 1 < 9900; omega) e2 ht
  · rw [any_prs h2 hp]; exact hk _ _ _ h R
noncomputable def beqL (x y : List Int) : Bool := decide (x = y)
theorem eqAt_ints {A : Around} {items items2 : Array Value} {xs ys : List Int} (h1 : items.toList.map er = xs.map .int) (h2 : items2.toList.map er = ys.map .int) :
    ∀ j (h1 : j < items.size) (h2 : j < items2.size), EqAt A s items[j] items2[j] (xs[j]? == ys[j]?) := fun j j1 j2 => by
  have a1 : (items.toList.map er)[j]? = some (er items[j]) := by rw [List.getElem?_map, Array.getElem?_toList, Array.getElem?_eq_getElem j1]; rfl
  have a2 : (items2.toList.map er)[j]? = some (er items2[j]) := by rw [List.getElem?_map, Array.getElem?_toList, Array.getElem?_eq_getElem j2]; rfl
  rw [h1, List.getElem?_map] at a1
  rw [h2, List.getElem?_map] at a2
  obtain ⟨x, e1, e2⟩ := Option.map_eq_some_iff.mp a1
  obtain ⟨y, f1, f2⟩ := Option.map_eq_some_iff.mp a2
  obtain ⟨t, e3⟩ := er_int e2.symm
  obtain ⟨u, f3⟩ := er_int f2.symm
  rw [e3, f3, e1, f1]
  have : (some x == some y) = (x == y) := by rw [Bool.eq_iff_iff]; simp
  rw [this]
  exact EqAt.int_int _ _ _ _
theorem all_eq {xs ys : List Int} (h : xs.length = ys.length) : ((List.range xs.length).all fun j => xs[j]? == ys[j]?) = beqL xs ys := by
  rw [beqL, Bool.eq_iff_iff, List.all_eq_true, decide_eq_true_eq]
  constructor
  · intro g
    apply List.ext_getElem?
    intro i
    by_cases hi : i < xs.length
    · simpa using g i (List.mem_range.mpr hi)
    · rw [List.getElem?_eq_none (by omega), List.getElem?_eq_none (by omega)]
  · rintro rfl i _; simp
theorem vo_ne_ints {a b : Addr} {xs ys : List Int} {Q : AV → AS → Prop} (ha' : σ.f a = some (.list (xs.map .int))) (hb' : σ.f b = some (.list (ys.map .int))) (h : Q (.bool (!beqL xs ys)) σ) : VO K w n .NotEq (.ref a) (.ref b) Q σ := fun a' b'' ha hb A B s hr X R k E hk => by
  rw [er_ref ha, er_ref hb]
  obtain ⟨items, m, h1, h2⟩ := R.list ha'
  obtain ⟨items2, m2, h3, h4⟩ := R.list hb'
  have e1 : items.size = xs.length := by rw [er_size h2, List.length_map]
  have e2 : items2.size = ys.length := by rw [er_size h4, List.length_map]
  by_cases hl : xs.length = ys.length
  · refine RcNeAt.lists (e := fun j => xs[j]? == ys[j]?) h1.isList h3.isList (by omega) hr.units (eqAt_ints h2 h4) prog w E k ?_
    rw [e1, all_eq hl]
    exact hk _ _ _ h R
  · refine RcNeAt.lists_lengths h1.isList h3.isList (by rw [e1, e2]; simpa using hl) hr.units prog w E k ?_
    have : beqL xs ys = false := decide_eq_false fun q => hl (by rw [q])
    rw [this] at h
    exact hk _ _ _ h R
theorem vo_is_bool {a b : Bool} {Q : AV → AS → Prop} (h : Q (.bool (!(a == b))) σ) : VO K w n .IsNot (.bool a) (.bool b) Q σ := fun a' b' ha hb A B s hr X R k E hk => by
  rw [er_bool ha, er_bool hb]
  refine wpAny_isNot_plain (by cases a <;> cases b <;> rfl) ?_
  have : (Value.bool a == Value.bool b) = (a == b) := by cases a <;> cases b <;> rfl
  rw [this]
  exact hk _ _ _ h R
noncomputable def AV.isNone : AV → Bool
  | .none => true
  | _ => false
theorem er_isNone (v : Value) : (er v).isNone = (v == .none) := by cases v <;> rfl
theorem vo_is_none {a : AV} {Q : AV → AS → Prop} (h : Q (.bool a.isNone) σ) : VO K w n .Is a .none Q σ := fun a' b' ha hb A B s hr X R k E hk => by
  rw [er_none hb]
  subst ha
  rw [er_isNone] at h
  by_cases q : a' = .none
  · subst q; exact wpAny_is_self (by rfl) (hk _ _ _ h R)
  · refine is_none_ne q (hk _ _ _ ?_ R)
    rw [show (a' == Value.none) = false from beq_eq_false_iff_ne.mpr q] at h; exact h
theorem vo_none_eq_none {Q : AV → AS → Prop} (h : Q (.bool true) σ) : VO K w n .Eq .none .none Q σ := fun a' b' ha hb A B s hr X R k E hk => by
  rw [er_none ha, er_none hb]
  exact EqNone.eq_none_none (hk _ _ _ h R)
theorem vc_abs {x : Int} {Q : AV → AS → Prop} (h : Q (.int (if x < 0 then -x else x)) σ) : VC K w n (.builtin "abs") [.int x] Q σ := fun A B s vs hr X R ha k E hk => by
  obtain ⟨v, rfl, hv⟩ := one_of ha
  obtain ⟨t, rfl⟩ := er_int hv
  exact call_abs_int fun u tk => hk _ _ _ h R.toks
end
end Mine
end
section
open PySem PySem.W PySem.Calls PyProof.Rows PySem.SeqAt PySem.MeetsSeq
set_option maxRecDepth 100000
set_option linter.unusedVariables false
namespace Mine
section
variable {w : World} {B : Bs} {σ : AS} {s : Shared} {K : Frag} {n : Nat} {env : Env} {l : Loc}
theorem vi_tup_int {value slice : Expr} {a : Addr} {vs : List AV} {i : Int} {v : AV} {Q : AV → AS → Prop} (hl : σ.f a = some (.tup vs)) (h0 : 0 ≤ i) (hi : i < 2 ^ 62) (hv : vs[i.toNat]? = some v) (h : Q v σ)
    (hs : ∀ t, subscripted slice false (.ref a) (.int i t) = operate [.ref a, .int i t] (getItem (.ref a) (.int i t)) := by intro _; rfl) :
    VI K w n value slice (.ref a) (.int i) Q σ := fun a' b' ha hb A B s hr X R k E hk => by
  rw [er_ref ha]
  obtain ⟨t, rfl⟩ := er_int hb
  obtain ⟨items, m, h1, h2⟩ := R.tup hl
  obtain ⟨x, h3, rfl⟩ := er_at h2 hv
  have hlt : i.toNat < items.size := by
    rcases Nat.lt_or_ge i.toNat items.size with q | q
    · exact q
    · rw [Array.getElem?_eq_none q] at h3; cases h3
  exact tail_any (T := "tuple") ⟨_, h1, rfl⟩ slot_tuple_getitem.lookup (getItem_tuple ⟨_, h1, rfl, _, rfl⟩ (by omega) (by omega) (j := i.toNat) (by unfold seqIndex?; simp; omega) h3 (hk _ _ _ h R)) (hs t)
theorem ints_are {l : List Value} {ns : List Int} (h : l.map er = ns.map .int) : IntsAre l ns := by
  induction l generalizing ns with
  | nil => cases ns with
    | nil => exact .nil
    | cons => cases h
  | cons v l ih =>
    cases ns with
    | nil => cases h
    | cons m ns =>
      simp only [List.map_cons, List.cons.injEq] at h
      obtain ⟨t, rfl⟩ := er_int h.1
      exact .cons m t (ih h.2)
theorem of_ints_are {l : List Value} {ns : List Int} (h : IntsAre l ns) : l.map er = ns.map .int := by
  induction h with
  | nil => rfl
  | cons n t _ ih => simp only [List.map_cons, ih]; rfl
theorem vc_sorted {a : Addr} {ns : List Int} {Q : AV → AS → Prop} (hl : σ.f a = some (.list (ns.map .int))) (hz : ns.length < 64) (h : ∀ a (ns' : List Int), Fresh σ a → ns'.Perm ns → ns'.Pairwise (· ≤ ·) → Q (.ref a) (σ.ins a (.list (ns'.map .int)))) : VC K w n (.builtin "sorted") [.ref a] Q σ := fun A B s vs hr X R ha k E hk => by
  obtain ⟨v, rfl, hv⟩ := one_of ha
  rw [er_ref hv]
  obtain ⟨items, m, h1, h2⟩ := R.list hl
  refine with_size (sorted_ints (vs := items.toList) (ns := ns) (by rw [Array.toArray_toList]; exact h1.isList) (ints_are h2) (by rw [← List.length_map (f := er), h2, List.length_map]; exact hz) fun out ns' g1 g2 g3 hz => ?_)
  obtain ⟨e, he⟩ := sortedAll_at s.heap items.toList out
  exact hk _ _ _ (h _ ns' (R.isFresh (Nat.le_succ _)) g2 g3) (R.ins (tk := s.toks) (Nat.le_succ _) (fun _ _ => sortedAll_old) hz he ⟨_, _, rfl, of_ints_are g1⟩)
theorem argBest_le (bt : Nat → Nat → Bool) : ∀ k, argBest bt k ≤ k
  | 0 => Nat.le_refl _
  | k + 1 => by unfold argBest; split; exact Nat.le_refl _; exact Nat.le_succ_of_le (argBest_le bt k)
theorem argBest_gt (val : Nat → Int) : ∀ k j, j ≤ k → val j ≤ val (argBest (fun i j => decide (val i > val j)) k)
  | 0, j, h => by obtain rfl : j = 0 := by omega
                  exact Int.le_refl _
  | k + 1, j, h => by
    have ih := argBest_gt val k
    unfold argBest
    split
    · rename_i q
      rcases Nat.lt_or_ge j (k + 1) with g | g
      · have := ih j (by omega); simp only [decide_eq_true_eq] at q; omega
      · obtain rfl : j = k + 1 := by omega
        exact Int.le_refl _
    · rename_i q
      rcases Nat.lt_or_ge j (k + 1) with g | g
      · exact ih j (by omega)
      · obtain rfl : j = k + 1 := by omega
        simp only [decide_eq_true_eq] at q; omega
theorem argBest_lt (val : Nat → Int) : ∀ k j, j ≤ k → val (argBest (fun i j => decide (val i < val j)) k) ≤ val j
  | 0, j, h => by obtain rfl : j = 0 := by omega
                  exact Int.le_refl _
  | k + 1, j, h => by
    have ih := argBest_lt val k
    unfold argBest
    split
    · rename_i q
      rcases Nat.lt_or_ge j (k + 1) with g | g
      · have := ih j (by omega); simp only [decide_eq_true_eq] at q; omega
      · obtain rfl : j = k + 1 := by omega
        exact Int.le_refl _
    · rename_i q
      rcases Nat.lt_or_ge j (k + 1) with g | g
      · exact ih j (by omega)
      · obtain rfl : j = k + 1 := by omega
        simp only [decide_eq_true_eq] at q; omega
theorem RepB.made (R : RepB w B σ s) {o : Obj} {tk tk' : Nat} {h' : Heap} (hk : ∀ b o', b ∉ [s.heap.objs.size] → (s.heap.push o).get? b = some o' → h'.get? b = some o') (hz : s.heap.objs.size ≤ h'.objs.size) : RepB w B σ { s with heap := h', toks := tk } :=
  R.ext (fun b ob e => hk b ob (by simpa using Nat.ne_of_lt (Heap.lt_size e)) (Heap.get?_push_of_some _ e)) hz
theorem list_at {items : Array Value} {ns : List Int} (h : items.toList.map er = ns.map .int) : ∀ i v, items[i]? = some v → ∃ t, v = Value.int (ns.getD i 0) t := fun i v hv => by
  have : (items.toList.map er)[i]? = some (er v) := by rw [List.getElem?_map, Array.getElem?_toList, hv]; rfl
  rw [h, List.getElem?_map] at this
  obtain ⟨x, e1, e2⟩ := Option.map_eq_some_iff.mp this
  obtain ⟨t, e3⟩ := er_int e2.symm
  exact ⟨t, by rw [e3, List.getD_eq_getElem?_getD, e1]; rfl⟩
theorem getD_mem {ns : List Int} {i : Nat} (h : i < ns.length) : ns.getD i 0 ∈ ns := by
  rw [List.getD_eq_getElem?_getD, List.getElem?_eq_getElem h]; exact List.getElem_mem h
theorem getD_of_mem {ns : List Int} {x : Int} (h : x ∈ ns) : ∃ i, i < ns.length ∧ ns.getD i 0 = x := by
  obtain ⟨i, hi, rfl⟩ := List.mem_iff_getElem.mp h
  exact ⟨i, hi, by rw [List.getD_eq_getElem?_getD, List.getElem?_eq_getElem hi]; rfl⟩
theorem vc_min_list {a : Addr} {ns : List Int} {Q : AV → AS → Prop} (hl : σ.f a = some (.list (ns.map .int))) (h0 : ns ≠ []) (h : ∀ m, m ∈ ns → (∀ x ∈ ns, m ≤ x) → Q (.int m) σ) : VC K w n (.builtin "min") [.ref a] Q σ := fun A B s vs hr X R ha k E hk => by
  obtain ⟨v, rfl, hv⟩ := one_of ha
  rw [er_ref hv]
  obtain ⟨items, m, h1, h2⟩ := R.list hl
  have e1 : items.size = ns.length := by rw [er_size h2, List.length_map]
  have hp : 0 < items.size := by rw [e1]; exact List.length_pos_iff.mpr h0
  refine with_size (call_min_walk (wpAny_pyIter_list h1.isList ⟨s.heap.objs.size, _, _, _, _, _, (fun i j => decide (ns.getD i 0 < ns.getD j 0)), rfl, Walks.list (A := A.in1) hr.1 _ a (Nat.ne_of_lt (Heap.lt_size h1)) items, ⟨⟨_, Heap.get?_push_size _ rfl, rfl, rfl⟩, h1.isList.push _⟩, ?_, hp, CmpOf.ints_lt _ (list_at h2), ?_⟩))
  · intro b hb
    simp at hb
    simp only [Heap.size_push]
    rcases hb with rfl | rfl
    · exact Nat.lt_succ_self _
    · exact Nat.lt_succ_of_lt (Heap.lt_size h1)
  · intro v h' tk hv' hk' hz
    obtain ⟨t, rfl⟩ := list_at h2 _ _ hv'
    refine hk _ _ _ (h _ (getD_mem ?_) fun x hx => ?_) (R.made (tk' := tk) hk' hz)
    · have := argBest_le (fun i j => decide (ns.getD i 0 < ns.getD j 0)) (items.size - 1); omega
    · obtain ⟨i, hi, rfl⟩ := getD_of_mem hx
      exact argBest_lt (fun i => ns.getD i 0) _ _ (by omega)
theorem vc_max_list {a : Addr} {ns : List Int} {Q : AV → AS → Prop} (hl : σ.f a = some (.list (ns.map .int))) (h0 : ns ≠ []) (h : ∀ m, m ∈ ns → (∀ x ∈ ns, x ≤ m) → Q (.int m) σ) : VC K w n (.builtin "max") [.ref a] Q σ := fun A B s vs hr X R ha k E hk => by
  obtain ⟨v, rfl, hv⟩ := one_of ha
  rw [er_ref hv]
  obtain ⟨items, m, h1, h2⟩ := R.list hl
  have e1 : items.size = ns.length := by rw [er_size h2, List.length_map]
  have hp : 0 < items.size := by rw [e1]; exact List.length_pos_iff.mpr h0
  refine with_size (call_max_walk (wpAny_pyIter_list h1.isList ⟨s.heap.objs.size, _, _, _, _, _, (fun i j => decide (ns.getD i 0 > ns.getD j 0)), rfl, Walks.list (A := A.in1) hr.1 _ a (Nat.ne_of_lt (Heap.lt_size h1)) items, ⟨⟨_, Heap.get?_push_size _ rfl, rfl, rfl⟩, h1.isList.push _⟩, ?_, hp, CmpOf.ints_gt _ (list_at h2), ?_⟩))
  · intro b hb
    simp at hb
    simp only [Heap.size_push]
    rcases hb with rfl | rfl
    · exact Nat.lt_succ_self _
    · exact Nat.lt_succ_of_lt (Heap.lt_size h1)
  · intro v h' tk hv' hk' hz
    obtain ⟨t, rfl⟩ := list_at h2 _ _ hv'
    refine hk _ _ _ (h _ (getD_mem ?_) fun x hx => ?_) (R.made (tk' := tk) hk' hz)
    · have := argBest_le (fun i j => decide (ns.getD i 0 > ns.getD j 0)) (items.size - 1); omega
    · obtain ⟨i, hi, rfl⟩ := getD_of_mem hx
      exact argBest_gt (fun i => ns.getD i 0) _ _ (by omega)
noncomputable def ivl (kvs : List (Int × AV)) (k : Int) : Option AV := (kvs.find? fun kv => kv.1 = k).map (·.2)
noncomputable def ist (kvs : List (Int × AV)) (k : Int) (v : AV) : List (Int × AV) :=
  if kvs.any (fun kv => kv.1 = k) then kvs.map (fun kv => if kv.1 = k then (kv.1, v) else kv) else kvs ++ [(k, v)]
theorem ivl_er (kvs : List (Int × Value)) (k : Int) : ivl (kvs.map ern) k = (valueAt kvs k).map er := by
  unfold ivl valueAt
  induction kvs with
  | nil => rfl
  | cons p r ih =>
    rw [List.map_cons, List.find?_cons, List.find?_cons]
    by_cases q : p.1 = k
    · simp [ern, q]
    · simp only [ern, q, decide_false]; exact ih
theorem ist_er (kvs : List (Int × Value)) (k : Int) (v : Value) : (stored kvs k v).map ern = ist (kvs.map ern) k (er v) := by
  unfold stored ist
  have e : (kvs.map ern).any (fun kv => decide (kv.1 = k)) = kvs.any (fun kv => decide (kv.1 = k)) := by rw [List.any_map]; rfl
  rw [e]
  split
  · rw [List.map_map, List.map_map]
    refine List.map_congr_left fun p _ => ?_
    simp only [Function.comp, ern]
    split <;> simp_all
  · rw [List.map_append]; rfl
theorem RepB.dict (R : RepB w B σ s) {a : Addr} {kvs : List (Int × AV)} {ep : Nat} (h : σ.f a = some (.idict kvs ep)) : ∃ kvs', s.heap.DictAt (intKind prog w) a kvs' ep ∧ kvs'.map ern = kvs := by
  obtain ⟨ob, h1, es, kvs', h2, h3, h4, h5, h6, h7⟩ := R.objs a _ h
  exact ⟨kvs', ⟨ob, es, h1, h2, h3, h4, h5, h6⟩, h7⟩
theorem rep_dict {h : Heap} {a : Addr} {kvs' : List (Int × Value)} (x : h.DictOf (intKind prog w) a kvs') : ∃ ob ep, h.get? a = some ob ∧ RepO w (.idict (kvs'.map ern) ep) ob := by
  obtain ⟨o, es, ep, h1, h2, h3, h4, h5, h6⟩ := x
  exact ⟨o, ep, h1, es, kvs', h2, h3, h4, h5, h6, rfl⟩
theorem RepB.updD (R : RepB w B σ s) {a : Addr} {o : AO} (e : σ.f a = some o) {h' : Heap} {tk : Nat} (hs : Heap.SameBut a s.heap h') {kvs' : List (Int × Value)} (x : h'.DictOf (intKind prog w) a kvs') :
    ∃ ep, RepB w B (σ.upd a (.idict (kvs'.map ern) ep)) { s with heap := h', toks := tk } := by
  obtain ⟨ob, ep, h1, h2⟩ := rep_dict x
  exact ⟨ep, R.upd e hs h1 h2⟩
theorem intK {k : Int} {t : Tok} : (intKind prog w).is k (.int k t) = true := by simp [intKind, Value.isInt]
theorem vo_in_dict {x : Int} {a : Addr} {kvs : List (Int × AV)} {ep : Nat} {Q : AV → AS → Prop} (hl : σ.f a = some (.idict kvs ep)) (h : Q (.bool (ivl kvs x).isSome) σ) : VO K w n .In (.int x) (.ref a) Q σ := fun a' b' ha hb A B s hr X R k E hk => by
  obtain ⟨t, rfl⟩ := er_int ha
  rw [er_ref hb]
  obtain ⟨kvs', h1, rfl⟩ := R.dict hl
  rw [ivl_er, Option.isSome_map] at h
  exact wpAny_in_of intK (R.sys X hl) h1.dictOf.mapOf (hk _ _ _ h R.toks)
theorem vo_notin_dict {x : Int} {a : Addr} {kvs : List (Int × AV)} {ep : Nat} {Q : AV → AS → Prop} (hl : σ.f a = some (.idict kvs ep)) (h : Q (.bool (!(ivl kvs x).isSome)) σ) : VO K w n .NotIn (.int x) (.ref a) Q σ := fun a' b' ha hb A B s hr X R k E hk => by
  obtain ⟨t, rfl⟩ := er_int ha
  rw [er_ref hb]
  obtain ⟨kvs', h1, rfl⟩ := R.dict hl
  rw [ivl_er, Option.isSome_map] at h
  exact wpAny_notIn_of intK (R.sys X hl) h1.dictOf.mapOf (hk _ _ _ h R.toks)
theorem vi_dict {value slice : Expr} {a : Addr} {kvs : List (Int × AV)} {ep : Nat} {x : Int} {v : AV} {Q : AV → AS → Prop} (hl : σ.f a = some (.idict kvs ep)) (hv : ivl kvs x = some v) (h : Q v σ)
    (hs : ∀ t, subscripted slice false (.ref a) (.int x t) = operate [.ref a, .int x t] (getItem (.ref a) (.int x t)) := by intro _; rfl) :
    VI K w n value slice (.ref a) (.int x) Q σ := fun a' b' ha hb A B s hr X R k E hk => by
  rw [er_ref ha]
  obtain ⟨t, rfl⟩ := er_int hb
  obtain ⟨kvs', h1, rfl⟩ := R.dict hl
  rw [ivl_er] at hv
  obtain ⟨y, h2, rfl⟩ := Option.map_eq_some_iff.mp hv
  exact tail_any h1.dictOf.typeIs slot_dict_getitem.lookup (wpAny_getItem_of intK h1.dictOf.mapOf h2 (hk _ _ _ h R.toks)) (hs t)
theorem va_sub_dict {o i : Expr} {pos : Pos} {v : AV} {Q : Loc → AS → Prop}
    (h : VE K w n env l o (fun a σ1 => VE K w n env l i (fun b σ2 => ∃ ad ix kvs ep, a = .ref ad ∧ b = .int ix ∧ σ2.f ad = some (.idict kvs ep) ∧ kvs.length ≤ 1000 ∧ ∀ ep', Q l (σ2.upd ad (.idict (ist kvs ix v) ep'))) σ1) σ)
    (he' : ∀ v₀, assign (.Subscript o i pos) env v₀ = (do
      let ov ← holding [v₀] (eval o env)
      let iv ← holding [v₀, ov] (eval i env)
      standAt pos
      holding [v₀, ov, iv] (setItem ov iv v₀)
      release [v₀, ov, iv] []) := by intro _; rfl) : VA K w n env (.Subscript o i pos) v Q l σ := fun v₀ hv A B s hr X he R k E hk => by
  subst hv
  rw [he']
  refine wpAny_bind (wpAny_holding (h A B s hr X he R _ _ fun a σ1 s1 h1 R1 => wpAny_bind (wpAny_holding (h1 A B s1 hr X he R1 _ _ fun b σ2 s2 h2 R2 => wpAny_bind (wpAny_standAt (wpAny_bind (wpAny_holding ?_)))))))
  obtain ⟨ad, ix, kvs, ep, ha, hb, hl, hz, hq⟩ := h2
  rw [er_ref ha]
  obtain ⟨t, rfl⟩ := er_int hb
  obtain ⟨kvs', h3, rfl⟩ := R2.rep.dict hl
  refine wpAny_setItem_pairs intK h3.dictOf (fun h' h5 h6 => wpAny_release ?_) (by rw [List.length_map] at hz; unfold sizeLine; omega)
  obtain ⟨ob, ep', g1, g2⟩ := rep_dict h5
  rw [ist_er] at g2
  exact hk _ _ _ _ (hq ep') (R2.upd hl h6 g1 g2)
theorem vc_len_dict {a : Addr} {kvs : List (Int × AV)} {ep : Nat} {Q : AV → AS → Prop} (hl : σ.f a = some (.idict kvs ep)) (hz : kvs.length ≤ 1000) (h : Q (.int kvs.length) σ) : VC K w n (.builtin "len") [.ref a] Q σ := fun A B s vs hr X R ha k E hk => by
  obtain ⟨v, rfl, hv⟩ := one_of ha
  rw [er_ref hv]
  obtain ⟨kvs', h1, rfl⟩ := R.dict hl
  rw [List.length_map] at h hz
  exact call_len_dict (R.sys X hl) h1.dictOf (by omega) (hk _ _ _ h R.toks)
theorem vm_dict {a : Addr} {kvs : List (Int × AV)} {ep : Nat} {name : Str} {id : String} {Q : Value × List Value → AS → Prop} (hl : σ.f a = some (.idict kvs ep)) (slot : Slot "dict" name id) (hty : typeOf (.builtin id) = pure (.type "method_descriptor")) (h : Q (.builtin id, [.ref a]) σ) :
    VM K w n (.ref a) name Q σ := fun v' pl hv A B s hr X R k E hk => by
  rw [er_ref hv]
  obtain ⟨kvs', h1, h2⟩ := R.dict hl
  exact getMethod_builtin h1.dictOf.typeIs PySem.F.plainAttrs_dict slot hty h1.dictOf.mapOf.noDict (hk _ _ _ h R)
theorem vc_dget {a : Addr} {kvs : List (Int × AV)} {ep : Nat} {x : Int} {d : AV} {Q : AV → AS → Prop} (hl : σ.f a = some (.idict kvs ep)) (h : Q ((ivl kvs x).getD d) σ) : VC K w n (.builtin "dict.get") [.ref a, .int x, d] Q σ := fun A B s vs hr X R ha k E hk => by
  obtain ⟨p, u, q, rfl, hp, hu, rfl⟩ := three_of ha
  obtain ⟨t, rfl⟩ := er_int hu
  rw [er_ref hp]
  obtain ⟨kvs', h1, rfl⟩ := R.dict hl
  refine call_meetsIn PySem.F.slot_dict_get h1.dictOf.typeIs PySem.F.entry_dict_get (PySem.F.args_dict_get_3 _ _ _) (meets_dict_get_default (intKind prog w) a intK (R.sys X hl) q) ⟨_, h1.dictOf.mapOf, ?_⟩
  refine hk _ _ _ ?_ R.toks
  rw [ivl_er] at h
  cases g : valueAt kvs' x <;> (rw [g] at h; exact h)
theorem vc_dupdate {a b : Addr} {ka : List (Int × AV)} {ea eb : Nat} {Q : AV → AS → Prop} (hl : σ.f a = some (.idict ka ea)) (hl' : σ.f b = some (.idict [] eb)) (hab : a ≠ b) (hz : ka.length ≤ 1000) (h : ∀ ep', Q .none (σ.upd a (.idict ka ep'))) : VC K w n (.builtin "dict.update") [.ref a, .ref b] Q σ := fun A B s vs hr X R ha k E hk => by
  obtain ⟨p, u, rfl, hp, hu⟩ := two_of ha
  rw [er_ref hp, er_ref hu]
  obtain ⟨kvs', h1, rfl⟩ := R.dict hl
  obtain ⟨kvs2, h2, e2⟩ := R.dict hl'
  obtain rfl : kvs2 = [] := by simpa using e2
  rw [List.length_map] at hz
  refine call_meetsIn PySem.F.slot_dict_update h1.dictOf.typeIs PySem.F.entry_dict_update (PySem.F.args_dict_update_2 _ _) (meets_dict_update (intKind prog w) a b hab (R.sys X hl')) ⟨kvs', [], h1.dictOf, h2.dictOf, by simp; unfold sizeLine; omega, fun h' h3 _ h5 => ?_⟩
  obtain ⟨ob, ep', g1, g2⟩ := rep_dict h3
  exact hk _ _ _ (h ep') (R.upd hl h5 g1 g2)
theorem vc_dpop0 {a : Addr} {ep : Nat} {x : Str} {d : AV} {Q : AV → AS → Prop} (hl : σ.f a = some (.idict [] ep)) (h : Q d σ) : VC K w n (.builtin "dict.pop") [.ref a, .str x, d] Q σ := fun A B s vs hr X R ha k E hk => by
  obtain ⟨p, u, q, rfl, hp, hu, rfl⟩ := three_of ha
  obtain ⟨t, rfl⟩ := er_str hu
  rw [er_ref hp]
  obtain ⟨kvs', h1, e1⟩ := R.dict hl
  obtain rfl : kvs' = [] := by simpa using e1
  obtain ⟨o, es, g1, g2, g3, g4, g5, g6⟩ := h1
  have g5' : es = #[] := by cases es with | mk l => cases l with
    | nil => rfl
    | cons => nomatch g5
  subst g5'
  have hD : s.heap.DictOf (PySem.strKind prog w) a [] := ⟨o, #[], ep, g1, g2, g3, by intro e he; simp at he, .nil, List.nodup_nil⟩
  exact call_meetsIn PySem.F.slot_dict_pop hD.typeIs PySem.F.entry_dict_pop (PySem.F.args_dict_pop_3 _ _ _) (meets_dict_pop_default (PySem.strKind prog w) (k := x) a (by simp [PySem.strKind, Value.isStrOf]) (R.sys X hl) rfl q) ⟨[], hD, rfl, hk _ _ _ h R.toks⟩
noncomputable def valObj (a : Addr) : Obj := { cls := .type "dict_values", data := .fields #[.ref a] }
theorem vc_dvalues {a : Addr} {kvs : List (Int × AV)} {ep : Nat} {Q : AV → AS → Prop} (hl : σ.f a = some (.idict kvs ep)) (h : ∀ b, Fresh σ b → Q (.ref b) (σ.ins b (.raw (valObj a)))) : VC K w n (.builtin "dict.values") [.ref a] Q σ := fun A B s vs hr X R ha k E hk => by
  obtain ⟨p, rfl, hp⟩ := one_of ha
  rw [er_ref hp]
  obtain ⟨kvs', h1, rfl⟩ := R.dict hl
  exact call_meetsIn PySem.F.slot_dict_values h1.dictOf.typeIs PySem.F.entry_dict_values (PySem.F.args_dict_values_1 _) (meets_dict_values (intKind prog w) a (R.sys X hl)) ⟨⟨_, h1.dictOf⟩, hk _ _ _ (h _ (R.isFresh (Nat.le_refl _))) (R.new (tk := s.toks) (o' := .raw (valObj a)) ⟨rfl, rfl⟩)⟩
theorem vals_at {kvs' : List (Int × Value)} {ns : List Int} (h : (kvs'.map ern).map (·.2) = ns.map .int) : ∀ i v, (∃ k, kvs'[i]? = some (k, v)) → ∃ t, v = Value.int (ns.getD i 0) t := fun i v hv => by
  obtain ⟨k, hv⟩ := hv
  have : ((kvs'.map ern).map (·.2))[i]? = some (er v) := by rw [List.getElem?_map, List.getElem?_map, hv]; rfl
  rw [h, List.getElem?_map] at this
  obtain ⟨x, e1, e2⟩ := Option.map_eq_some_iff.mp this
  obtain ⟨t, e3⟩ := er_int e2.symm
  exact ⟨t, by rw [e3, List.getD_eq_getElem?_getD, e1]; rfl⟩
theorem vc_max_vals {a b : Addr} {kvs : List (Int × AV)} {ep : Nat} {ns : List Int} {Q : AV → AS → Prop} (hv : σ.f b = some (.raw (valObj a))) (hl : σ.f a = some (.idict kvs ep)) (hns : kvs.map (·.2) = ns.map .int) (h0 : ns ≠ []) (h : ∀ m, m ∈ ns → (∀ x ∈ ns, x ≤ m) → Q (.int m) σ) : VC K w n (.builtin "max") [.ref b] Q σ := fun A B s vs hr X R ha k E hk => by
  obtain ⟨v, rfl, hv'⟩ := one_of ha
  rw [er_ref hv']
  obtain ⟨kvs', h1, rfl⟩ := R.dict hl
  obtain ⟨ob, g1, rfl, _⟩ := R.objs b _ hv
  have e1 : kvs'.length = ns.length := by have := congrArg List.length hns; simpa using this
  have hp : 0 < kvs'.length := by rw [e1]; exact List.length_pos_iff.mpr h0
  refine with_size (call_max_walk (wpAny_pyIter_values ⟨_, g1, rfl, rfl⟩ h1 ⟨s.heap.objs.size, _, _, _, _, _, (fun i j => decide (ns.getD i 0 > ns.getD j 0)), rfl, Walks.dictValues (A := A.in1) hr.1 _ a (Nat.ne_of_lt h1.lt_size) kvs' ep, ⟨⟨_, Heap.get?_push_size _ rfl, rfl, rfl⟩, h1.push _⟩, ?_, hp, CmpOf.ints_gt _ (vals_at hns), ?_⟩))
  · intro b hb
    simp at hb
    simp only [Heap.size_push]
    rcases hb with rfl | rfl
    · exact Nat.lt_succ_self _
    · exact Nat.lt_succ_of_lt h1.lt_size
  · intro v h' tk hv' hk' hz
    obtain ⟨t, rfl⟩ := vals_at hns _ _ hv'
    refine hk _ _ _ (h _ (getD_mem ?_) fun x hx => ?_) (R.made (tk' := tk) hk' hz)
    · have := argBest_le (fun i j => decide (ns.getD i 0 > ns.getD j 0)) (kvs'.length - 1); omega
    · obtain ⟨i, hi, rfl⟩ := getD_of_mem hx
      exact argBest_gt (fun i => ns.getD i 0) _ _ (by omega)
theorem vc_min_vals {a b : Addr} {kvs : List (Int × AV)} {ep : Nat} {ns : List Int} {Q : AV → AS → Prop} (hv : σ.f b = some (.raw (valObj a))) (hl : σ.f a = some (.idict kvs ep)) (hns : kvs.map (·.2) = ns.map .int) (h0 : ns ≠ []) (h : ∀ m, m ∈ ns → (∀ x ∈ ns, m ≤ x) → Q (.int m) σ) : VC K w n (.builtin "min") [.ref b] Q σ := fun A B s vs hr X R ha k E hk => by
  obtain ⟨v, rfl, hv'⟩ := one_of ha
  rw [er_ref hv']
  obtain ⟨kvs', h1, rfl⟩ := R.dict hl
  obtain ⟨ob, g1, rfl, _⟩ := R.objs b _ hv
  have e1 : kvs'.length = ns.length := by have := congrArg List.length hns; simpa using this
  have hp : 0 < kvs'.length := by rw [e1]; exact List.length_pos_iff.mpr h0
  refine with_size (call_min_walk (wpAny_pyIter_values ⟨_, g1, rfl, rfl⟩ h1 ⟨s.heap.objs.size, _, _, _, _, _, (fun i j => decide (ns.getD i 0 < ns.getD j 0)), rfl, Walks.dictValues (A := A.in1) hr.1 _ a (Nat.ne_of_lt h1.lt_size) kvs' ep, ⟨⟨_, Heap.get?_push_size _ rfl, rfl, rfl⟩, h1.push _⟩, ?_, hp, CmpOf.ints_lt _ (vals_at hns), ?_⟩))
  · intro b hb
    simp at hb
    simp only [Heap.size_push]
    rcases hb with rfl | rfl
    · exact Nat.lt_succ_self _
    · exact Nat.lt_succ_of_lt h1.lt_size
  · intro v h' tk hv' hk' hz
    obtain ⟨t, rfl⟩ := vals_at hns _ _ hv'
    refine hk _ _ _ (h _ (getD_mem ?_) fun x hx => ?_) (R.made (tk' := tk) hk' hz)
    · have := argBest_le (fun i j => decide (ns.getD i 0 < ns.getD j 0)) (kvs'.length - 1); omega
    · obtain ⟨i, hi, rfl⟩ := getD_of_mem hx
      exact argBest_lt (fun i => ns.getD i 0) _ _ (by omega)
end
end Mine
end
section
open PySem PySem.W PySem.Calls PyProof.Rows
set_option maxRecDepth 100000
set_option linter.unusedVariables false
namespace Mine
section
variable {w : World} {B : Bs} {σ : AS} {s : Shared} {K : Frag} {n : Nat} {env : Env} {l : Loc}
noncomputable def pushA (σ : AS) (a : Addr) : List (Str × NameKind) → AS
  | [] => σ
  | (_, k) :: r => if k == .cell then pushA (σ.ins a (.cell none)) (a + 1) r else pushA σ a r
theorem pushA_below : ∀ (names : List (Str × NameKind)) (σ : AS) (a b : Addr), b < a → (pushA σ a names).f b = σ.f b
  | [], _, _, _, _ => rfl
  | (_, k) :: r, σ, a, b, h => by
    unfold pushA
    split
    · rw [pushA_below r _ _ _ (Nat.lt_succ_of_lt h), AS.ins_f, if_neg (Nat.ne_of_lt h)]
    · exact pushA_below r _ _ _ h
theorem RepB.pushCells : ∀ (names : List (Str × NameKind)) {σ : AS} {s : Shared}, RepB w B σ s → RepB w B (pushA σ s.heap.objs.size names) { s with heap := PySem.pushCells s.heap names }
  | [], σ, s, R => R
  | (_, k) :: r, σ, s, R => by
    unfold pushA PySem.pushCells
    split
    · have := RepB.pushCells r (R.new (tk := s.toks) (ob := { cls := .type "cell", data := .cell none }) (o' := .cell none) ⟨none, rfl, rfl⟩)
      rw [Heap.size_push] at this
      exact this
    · exact RepB.pushCells r R
theorem pushCells_size : ∀ (names : List (Str × NameKind)) (h : Heap), h.objs.size ≤ (PySem.pushCells h names).objs.size
  | [], h => Nat.le_refl _
  | (_, k) :: r, h => by
    unfold PySem.pushCells
    split
    · exact Nat.le_trans (by rw [Heap.size_push]; exact Nat.le_succ _) (pushCells_size r _)
    · exact pushCells_size r h
noncomputable def bindA (env : Env) : List (Str × AV) → (Loc → AS → Prop) → Loc → AS → Prop
  | [], Q, l, σ => Q l σ
  | (x, v) :: r, Q, l, σ => (env.kindOf x = some .local ∧ bindA env r Q (lset x v l) σ) ∨ (∃ c o, env.kindOf x = some .cell ∧ env.cells.lookup x = some c ∧ σ.f c = some (.cell o) ∧ bindA env r Q l (σ.upd c (.cell (some v))))
theorem vy_binds (f : Str × Value → PUnit → Sem (ForInStep PUnit)) (hf : ∀ n v u, f (n, v) u = (do storeName env n v; pure (.yield ⟨⟩))) : ∀ (bs : List (Str × Value)) {l : Loc} {σ : AS} {Q : Loc → AS → Prop},
    bindA env (bs.map fun p => (p.1, er p.2)) Q l σ → VY K w n env (fun (_ : PUnit) => ()) (forIn bs ⟨⟩ f) (fun _ l' σ' => Q l' σ') l σ
  | [], l, σ, Q, h => fun A B s hr X he R k E hk => by rw [List.forIn_nil]; exact wpAny_pure (hk _ _ _ _ h R)
  | (x, v) :: r, l, σ, Q, h => fun A B s hr X he R k E hk => by
    rw [List.forIn_cons, hf]
    rcases h with ⟨h1, h2⟩ | ⟨c, o, h1, h2, h3, h4⟩
    · refine wpAny_bind (wpAny_bind (vy_store_local (Q := fun _ l' σ' => l' = lset x (er v) l ∧ σ' = σ) ⟨rfl, rfl⟩ h1 A B s hr X he R _ _ fun _ l' σ' s' q R' => ?_))
      obtain ⟨rfl, rfl⟩ := q
      exact wpAny_pure (vy_binds f hf r h2 A B s' hr X he R' k E hk)
    · refine wpAny_bind (wpAny_bind (vy_store_cell (Q := fun _ l' σ' => l' = l ∧ σ' = σ.upd c (.cell (some (er v)))) h2 h3 ⟨rfl, rfl⟩ h1 A B s hr X he R _ _ fun _ l' σ' s' q R' => ?_))
      obtain ⟨rfl, rfl⟩ := q
      exact wpAny_pure (vy_binds f hf r h4 A B s' hr X he R' k E hk)
theorem newEnv_ok {scope : Scope} {L globals : Addr} {cells : List (Str × Addr)} {qual : Str} {func : Option Addr} {code : Value} {around : Option Env} {builtins : Addr} (hk : scope.kind = .function) (hg : globals = mainGlobals) (hb : (match around with | some o => o.builtins | none => builtins) = builtinsNs) :
    EnvOK (newEnv scope L globals cells qual func code around builtins) := by cases around <;> exact ⟨hk, hg, hb⟩
theorem newEnv_locals {scope : Scope} {L globals : Addr} {cells : List (Str × Addr)} {qual : Str} {func : Option Addr} {code : Value} {around : Option Env} {builtins : Addr} : (newEnv scope L globals cells qual func code around builtins).locals = L := by cases around <;> rfl
theorem wp_newEnv {scope : Scope} {globals : Addr} {closure : List (Str × Addr)} {binds : List (Str × Value)} {qual : Str} {func : Option Addr} {code : Value} {around : Option Env} {builtins : Addr} {A : Around} {Q : Env → Shared → Prop} {E : Value → Shared → Prop} {P : Env → Loc → AS → Prop}
    (hr : Room n A) (X : Base K B) (R : RepB w B σ s) (hk : scope.kind = .function) (hg : globals = mainGlobals) (hbl : (match around with | some o => o.builtins | none => builtins) = builtinsNs)
    (h : ∀ L env, Fresh σ L → env = newEnv scope L globals (cellsFrom (L + 1) scope.names closure) qual func code around builtins → bindA env (binds.map fun p => (p.1, er p.2)) (P env) [] (pushA σ (L + 1) scope.names))
    (hQ : ∀ L env l' σ' s', Fresh σ L → env = newEnv scope L globals (cellsFrom (L + 1) scope.names closure) qual func code around builtins → EnvOK env → P env l' σ' → RepF w B env l' σ' s' → Q env s') :
    wpAny (model prog w) A (newFunctionEnv scope globals closure binds qual func code around builtins) Q E s := by
  have key : ∀ (T : Value) (fin : List (Str × Addr) → Sem Env), (∀ cells, fin cells = (do
      forIn binds PUnit.unit (fun x u => do storeName (newEnv scope s.heap.objs.size globals cells qual func code around builtins) x.1 x.2; pure (.yield PUnit.unit))
      pure (newEnv scope s.heap.objs.size globals cells qual func code around builtins))) →
      wpAny (model prog w) A (fin (cellsFrom (s.heap.objs.size + 1) scope.names closure)) Q E { s with heap := PySem.pushCells (s.heap.push { cls := T, data := .dict #[] }) scope.names } := by
    intro T fin hfin
    rw [hfin]
    have R1 : RepB w B σ { s with heap := s.heap.push { cls := T, data := .dict #[] } } := R.push _
    have R2 := R1.pushCells scope.names
    rw [show (({ s with heap := s.heap.push { cls := T, data := .dict #[] } } : Shared).heap.objs.size) = s.heap.objs.size + 1 from Heap.size_push ..] at R2
    have he : EnvOK (newEnv scope s.heap.objs.size globals (cellsFrom (s.heap.objs.size + 1) scope.names closure) qual func code around builtins) := newEnv_ok hk hg hbl
    have RF : RepF w B (newEnv scope s.heap.objs.size globals (cellsFrom (s.heap.objs.size + 1) scope.names closure) qual func code around builtins) [] (pushA σ (s.heap.objs.size + 1) scope.names) { s with heap := PySem.pushCells (s.heap.push { cls := T, data := .dict #[] }) scope.names } := by
      refine ⟨R2, ⟨fun _ => none, ?_, fun x => rfl⟩, ?_, ?_⟩
      · rw [newEnv_locals]
        exact (Heap.Ns.new s.heap T).keeps (pushCells_keeps _ _)
      · rw [newEnv_locals, pushA_below _ _ _ _ (Nat.lt_succ_self _)]
        exact R.fresh.1
      · rw [newEnv_locals]; exact R.fresh.2
    refine wpAny_bind ?_
    refine vy_binds (K := K) _ (fun _ _ _ => rfl) binds (h _ _ (R.isFresh (Nat.le_refl _)) rfl) A B _ hr X he RF _ _ fun _ l' σ' s' hp R' => ?_
    exact wpAny_pure (hQ _ _ _ _ _ (R.isFresh (Nat.le_refl _)) rfl he hp R')
  cases around with
  | none =>
    simp only [newFunctionEnv, Option.isSome_none, Bool.false_eq_true, if_false]
    refine wpAny_bind (wpAny_alloc ?_)
    refine wpAny_bind (wpAny_layCells _ (fun name kind cells => by cases hkc : kind == NameKind.cell <;> simp [hkc]) _ _ _ _ ?_)
    rw [show ({ s with heap := s.heap.push { cls := .type "frame", data := .dict #[] } } : Shared).heap.objs.size = s.heap.objs.size + 1 from Heap.size_push ..]
    exact key _ (fun cells => do
      forIn binds PUnit.unit (fun x u => do storeName (newEnv scope s.heap.objs.size globals cells qual func code none builtins) x.1 x.2; pure (.yield PUnit.unit))
      pure (newEnv scope s.heap.objs.size globals cells qual func code none builtins)) (fun _ => rfl)
  | some outer =>
    simp only [newFunctionEnv, Option.isSome_some, if_true]
    refine wpAny_bind (wpAny_alloc ?_)
    refine wpAny_bind (wpAny_layCells _ (fun name kind cells => by cases hkc : kind == NameKind.cell <;> simp [hkc]) _ _ _ _ ?_)
    rw [show ({ s with heap := s.heap.push { cls := .type "dict", data := .dict #[] } } : Shared).heap.objs.size = s.heap.objs.size + 1 from Heap.size_push ..]
    exact key _ (fun cells => do
      forIn binds PUnit.unit (fun x u => do storeName (newEnv scope s.heap.objs.size globals cells qual func code (some outer) builtins) x.1 x.2; pure (.yield PUnit.unit))
      pure (newEnv scope s.heap.objs.size globals cells qual func code (some outer) builtins)) (fun _ => rfl)
theorem code_def_ruleC {f : Addr} {fd : FuncData} {oc : Value} {od : Option Addr} {osl : Array (Option Value)} {body : List Stmt} {args : List AV} {kw : List (Str × AV)} {Q : AV → AS → Prop}
    (ho : K.lookup f = some ⟨oc, od, .func fd, osl⟩) (hbody : fd.body = .stmts body) (hcd : codeIn K fd.code fd.qualname = true)
    (hb : VBi K w n fd args kw (fun bs σ1 => ∀ L env, Fresh σ1 L → env = newEnv fd.scope L fd.globals (cellsFrom (L + 1) fd.scope.names fd.closure) (fd.qualname ++ ".<locals>.") (some f) fd.code none fd.builtins →
      bindA env bs (fun l1 σ2 => VB K w n env body (fun fl l' σ' => Q (match fl with | .ret v => v | _ => .none) σ') l1 σ2) [] (pushA σ1 (L + 1) fd.scope.names)) σ)
    (hco : fd.scope.isCoroutine = false := by rfl) (hgen : fd.scope.isGenerator = false := by rfl) (hk : fd.scope.kind = .function := by rfl)
    (hg : fd.globals = mainGlobals := by rfl) (hbl : fd.builtins = builtinsNs := by rfl)
    {A : Around} {vs : List Value} {kvs : List (Str × Value)} (hr : Room (n + 1) A) (X : Base K B) (R : RepB w B σ s) (ha : vs.map er = args) (hkw : kvs.map (fun p => (p.1, er p.2)) = kw) {k : Value → Shared → Prop} {E : Value → Shared → Prop}
    (hq : ∀ v σ' s', Q (er v) σ' → RepB w B σ' s' → k v s') : codeAny (model prog w) A (.call (.ref f) ⟨vs, kvs⟩) (fun r s' => match r with | .ok (.ret v) => k v s' | .ok _ => False | .error e => E e s') s := by
  refine codeAny_call_function hr.depth (X.In R _ _ ho) rfl hco hgen hbody (codeRec_of (X.In R) hcd) ?_
  refine hb A.in1 B s vs kvs hr.in1 X R ha hkw _ _ fun bs σ1 s1 h1 R1 => ?_
  refine wp_newEnv (K := K) (n := n) hr.in1 X R1 hk hg hbl (fun L env hF he => h1 L env hF he) (fun L env l' σ' s' hF he hE hP R' => ?_)
  refine ⟨X.noLimit R'.rep, codeAny_func ?_⟩
  refine hP (A.deeper env) B _ hr.deeper X hE R' _ _ fun fl l'' σ'' s'' h3 R3 => ?_
  cases fl <;> exact hq _ _ _ h3 R3.rep
theorem vc_defC {f : Addr} {fd : FuncData} {oc : Value} {od : Option Addr} {osl : Array (Option Value)} {body : List Stmt} {args : List AV} {Q : AV → AS → Prop}
    (ho : K.lookup f = some ⟨oc, od, .func fd, osl⟩) (hbody : fd.body = .stmts body) (hcd : codeIn K fd.code fd.qualname = true)
    (hb : VBi K w n fd args [] (fun bs σ1 => ∀ L env, Fresh σ1 L → env = newEnv fd.scope L fd.globals (cellsFrom (L + 1) fd.scope.names fd.closure) (fd.qualname ++ ".<locals>.") (some f) fd.code none fd.builtins →
      bindA env bs (fun l1 σ2 => VB K w n env body (fun fl l' σ' => Q (match fl with | .ret v => v | _ => .none) σ') l1 σ2) [] (pushA σ1 (L + 1) fd.scope.names)) σ)
    (hco : fd.scope.isCoroutine = false := by rfl) (hgen : fd.scope.isGenerator = false := by rfl) (hk : fd.scope.kind = .function := by rfl)
    (hg : fd.globals = mainGlobals := by rfl) (hbl : fd.builtins = builtinsNs := by rfl) : VC K w (n + 1) (.ref f) args Q σ :=
  fun A B s vs hr X R ha k E hq => wpAny_call (code_def_ruleC ho hbody hcd hb hco hgen hk hg hbl hr X R ha rfl hq)
noncomputable def LoopP (w : World) (A : Around) (env : Env) (C : Code) (target : Expr) (it : Value) (T : Sem Flow) (R : Result → Shared → Prop) : Prop :=
  ∀ (I : Nat → Shared → Prop), (∀ n s, I n s → ∀ E : Value → Shared → Prop, wpAny (model prog w) A (pyNext it) (fun r s₁ => match r with
      | none => R (.ok .next) s₁
      | some v => ∀ E : Value → Shared → Prop, wpAny (model prog w) A (letOwnedTupleGo target it v) (fun _ s₁' => wpAny (model prog w) A (assign target env v) (fun _ s₂ => wpAny (model prog w) A T (fun f s₃ => match f with
          | .next | .cont => ∃ m, m < n ∧ I m s₃
          | .brk => R (.ok .next) s₃
          | .ret v => R (.ok (.ret v)) s₃) E s₂) E s₁') E s₁) E s) → ∀ n s, I n s → codeAny (model prog w) A C R s
theorem loopP_for {A : Around} {target : Expr} {it : Value} {body : List Stmt} {R : Result → Shared → Prop} : LoopP w A env (.forLoop target it body [] env) target it (execs body env) R := fun I turn n s h =>
  forLoop_any I (fun n s hI E => wpAny_mono (turn n s hI E) (fun r s₁ h₁ => by
    cases r with
    | none => exact fun E => wpAny_execs_nil h₁
    | some v => exact h₁) fun _ _ e => e) n h
theorem repB_comm {It L : Addr} {o ob : Obj} (h : It ≠ L) : RepB w ((B.add It o).add L ob) σ s ↔ RepB w ((B.add L ob).add It o) σ s := by
  have e : (B.add It o).add L ob = (B.add L ob).add It o := by
    simp only [Bs.add]
    congr 1
    funext x
    by_cases q : x = L
    · rw [if_pos q, if_neg (fun z => h (z.symm.trans q)), if_pos q]
    · rw [if_neg q]
      by_cases q' : x = It
      · rw [if_pos q', if_pos q']
      · rw [if_neg q', if_neg q', if_neg q]
  rw [e]
theorem abs_loop {A : Around} {C : Code} {target : Expr} {It : Addr} {T : Sem Flow} {R : Result → Shared → Prop} {St : Nat → Obj → Prop} {nxt : Nat → AS → Option AV} {ok : AS → Prop} {o : Obj} {Q : AF → Loc → AS → Prop}
    (LP : LoopP w A env C target (.ref It) T R) (I : Nat → Loc → AS → Prop) (N : Nat) (hr : Room n A) (X : Base K B) (he : EnvOK env) (IT : ItOK K w It St nxt ok) (st : St 0 o) (hb : B.o It = none) (hIL : It ≠ env.locals) (hLb : B.o env.locals = none)
    (RF : RepF w (B.add It o) env l σ s) (h0 : I 0 l σ)
    (step : ∀ i l' σ', I i l' σ' → ok σ' ∧ (∀ v, nxt i σ' = some v → i < N ∧ VA K w n env target v (fun l2 σ2 => VY K w n env ef T (fun f l3 σ3 => match f with
        | .next => I (i + 1) l3 σ3
        | .cont => I (i + 1) l3 σ3
        | .brk => Q .next l3 σ3
        | .ret v => Q (.ret v) l3 σ3) l2 σ2) l' σ') ∧ (nxt i σ' = none → Q .next l' σ'))
    (hk : ∀ f l' σ' s', Q (ef f) l' σ' → RepF w B env l' σ' s' → R (.ok f) s') : codeAny (model prog w) A C R s := by
  refine LP (fun m s' => ∃ i l' σ' o' , m = N - i ∧ i ≤ N ∧ I i l' σ' ∧ St i o' ∧ RepF w (B.add It o') env l' σ' s') (fun m s' hI E' => ?_) N s ⟨0, l, σ, o, rfl, Nat.zero_le _, h0, st, RF⟩
  obtain ⟨i, l', σ', o', rfl, hiN, hI, st', R'⟩ := hI
  obtain ⟨hok, hsome, hnone⟩ := step i l' σ' hI
  have XI : Base K (B.add It o') := X.add hb
  obtain ⟨ob', Rh', Xh', back'⟩ := R'.hide XI
  have hbI : (B.add env.locals ob').o It = none := by simp only [Bs.add]; rw [if_neg hIL]; exact hb
  have nsL : ∀ o'' σ'' s'', RepB w ((B.add env.locals ob').add It o'') σ'' s'' → RepF w (B.add It o'') env l' σ'' s'' := fun o'' σ'' s'' Rx => by
    have Ry := (repB_comm hIL).mpr Rx
    obtain ⟨m', x', y'⟩ := R'.ns
    obtain ⟨o3, es, ep, ho3, r3⟩ := id x'
    have hob : ob' = o3 := Option.some.inj ((Rh'.keep env.locals ob' (by simp [Bs.add])).symm.trans ho3)
    subst hob
    have hLI : (B.add It o'').o env.locals = none := by simp only [Bs.add]; rw [if_neg hIL.symm]; exact hLb
    obtain ⟨a1, b1, c1⟩ := Ry.show hLI
    exact ⟨a1, ⟨m', ⟨ob', es, ep, b1, r3⟩, y'⟩, c1, hLI⟩
  have Rq := (repB_comm hIL).mp Rh'
  cases hv : nxt i σ' with
  | none =>
    refine IT.done i A (B.add env.locals ob') s' σ' o' _ _ hr.1 (X.add hLb) hbI Rq st' hok hv fun s'' R'' => ?_
    obtain ⟨m', x', y'⟩ := R'.ns
    obtain ⟨o3, es, ep, ho3, r3⟩ := id x'
    have hob : ob' = o3 := Option.some.inj ((Rh'.keep env.locals ob' (by simp [Bs.add])).symm.trans ho3)
    subst hob
    obtain ⟨a1, b1, c1⟩ := R''.show hLb
    exact hk .next _ _ _ (hnone hv) ⟨a1, ⟨m', ⟨ob', es, ep, b1, r3⟩, y'⟩, c1, hLb⟩
  | some v =>
    obtain ⟨hlt, hbody⟩ := hsome v hv
    refine IT.item i A (B.add env.locals ob') s' σ' o' v _ _ hr.1 (X.add hLb) hbI Rq st' hok hv fun v' o'' s'' hv' st'' R'' E'' => ?_
    have RF := nsL o'' σ' s'' R''
    obtain ⟨Ty, vs, hc, hd, hT⟩ := IT.plain _ _ st''
    refine letOwned R''.it hc hd hT ?_
    refine hbody v' hv' A (B.add It o'') s'' hr (X.add hb) he RF _ _ fun _ l2 σ2 s3 h3 R3 => ?_
    refine h3 A (B.add It o'') s3 hr (X.add hb) he R3 _ _ fun f l3 σ3 s4 h4 R4 => ?_
    have drop : RepF w B env l3 σ3 s4 := by
      obtain ⟨a1, b1, c1⟩ := R4.rep.show hb
      exact ⟨a1, R4.ns, R4.lo, hLb⟩
    cases f with
    | next => exact ⟨N - (i + 1), by omega, i + 1, l3, σ3, o'', rfl, hlt, h4, st'', R4⟩
    | cont => exact ⟨N - (i + 1), by omega, i + 1, l3, σ3, o'', rfl, hlt, h4, st'', R4⟩
    | brk => exact hk .next _ _ _ h4 drop
    | ret v => exact hk (.ret v) _ _ _ h4 drop
noncomputable def VItF (K : Frag) (w : World) (n : Nat) (env : Env) (l : Loc) (x : Value) (Q : (Nat → AS → Option AV) → (AS → Prop) → AS → Prop) (σ : AS) : Prop :=
  ∀ (A : Around) (B : Bs) (s : Shared), Room n A → Base K B → RepF w B env l σ s → ∀ (k : Value → Shared → Prop) (E : Value → Shared → Prop),
    (∀ It St nxt ok o σ' s', ItOK K w It St nxt ok → St 0 o → B.o It = none → It ≠ env.locals → RepF w (B.add It o) env l σ' s' → Q nxt ok σ' → k (.ref It) s') → wpAny (model prog w) A (pyIter x) k E s
theorem vitF {x : Value} {Q : (Nat → AS → Option AV) → (AS → Prop) → AS → Prop} (h : VIt K w n (er x) Q σ) : VItF K w n env l x Q σ := fun A B s hr X R k E hk => by
  obtain ⟨ob, Rh, Xh, back⟩ := R.hide X
  refine h x A _ s rfl hr Xh Rh _ _ fun It St nxt ok o σ9 s2 IT st hb R2 hq => ?_
  have hItL : It ≠ env.locals := fun q => by rw [q] at hb; simp [Bs.add] at hb
  have hbB : B.o It = none := by simpa [Bs.add, hItL] using hb
  have Ry := (repB_comm hItL).mpr R2
  obtain ⟨m', x', y'⟩ := R.ns
  obtain ⟨o3, es, ep, ho3, r3⟩ := id x'
  have hob : ob = o3 := Option.some.inj ((Rh.keep env.locals ob (by simp [Bs.add])).symm.trans ho3)
  subst hob
  have hLI : (B.add It o).o env.locals = none := by simp only [Bs.add]; rw [if_neg hItL.symm]; exact R.lb
  obtain ⟨a1, b1, c1⟩ := Ry.show hLI
  exact hk It St nxt ok o σ9 s2 IT st hbB hItL ⟨a1, ⟨m', ⟨ob, es, ep, b1, r3⟩, y'⟩, c1, hLI⟩ hq
theorem vs_while {test : Expr} {body : List Stmt} {pos : Pos} {Q : AF → Loc → AS → Prop} (I : Nat → Loc → AS → Prop) (N : Nat) (h0 : I N l σ)
    (step : ∀ i l' σ', I i l' σ' → VT K w n env l' test (fun b σ1 => if b = true then VB K w n env body (fun f l3 σ3 => match f with
        | .next => ∃ j, j < i ∧ I j l3 σ3
        | .cont => ∃ j, j < i ∧ I j l3 σ3
        | .brk => Q .next l3 σ3
        | .ret v => Q (.ret v) l3 σ3) l' σ1 else Q .next l' σ1) σ') : VS K w n env (.While test body [] pos) Q l σ := fun A B s hr X he R k E hk => by
  refine wpAny_While ?_
  refine codeAny_whileLoop (fun m s' => ∃ l' σ', I m l' σ' ∧ RepF w B env l' σ' s') (fun m s' hI => ?_) N ⟨l, σ, h0, R⟩
  obtain ⟨l', σ', hI, R'⟩ := hI
  refine step m l' σ' hI A B s' hr X he R' _ _ fun b σ1 s1 h1 R1 => ?_
  cases b with
  | true =>
    simp only [id_eq, if_true] at h1 ⊢
    refine h1 A B s1 hr X he R1 _ _ fun f l3 σ3 s3 h3 R3 => ?_
    cases f with
    | next => obtain ⟨j, hj, hI⟩ := h3; exact ⟨j, hj, l3, σ3, hI, R3⟩
    | cont => obtain ⟨j, hj, hI⟩ := h3; exact ⟨j, hj, l3, σ3, hI, R3⟩
    | brk => exact hk .next _ _ _ h3 R3
    | ret v => exact hk (.ret v) _ _ _ h3 R3
  | false =>
    simp only [id_eq, Bool.false_eq_true, if_false] at h1 ⊢
    exact wpAny_execs_nil (hk .next _ _ _ h1 R1)
end
end Mine
end
section
open PySem PySem.W PySem.Calls PyProof.Rows
set_option maxRecDepth 100000
set_option linter.unusedVariables false
set_option linter.unusedSimpArgs false
namespace Mine
section
variable {w : World} {B : Bs} {σ : AS} {s : Shared} {K : Frag} {n : Nat} {env : Env} {l : Loc}
noncomputable def tests (ifs : List Expr) (env : Env) : Sem Bool := forIn ifs true fun c r => if r = true then do let ok ← isTrue c env (eval c env); pure (ForInStep.yield ok) else pure (ForInStep.yield r)
noncomputable def VTs (K : Frag) (w : World) (n : Nat) (env : Env) (l : Loc) : List Expr → (Bool → AS → Prop) → AS → Prop
  | [], Q, σ => Q true σ
  | c :: r, Q, σ => VT K w n env l c (fun b σ1 => if b = true then VTs K w n env l r Q σ1 else Q false σ1) σ
theorem tests_false {A : Around} {E : Value → Shared → Prop} {Q : Bool → Shared → Prop} : ∀ (ifs : List Expr), Q false s → wpAny (model prog w) A (forIn ifs false fun c r => if r = true then do let ok ← isTrue c env (eval c env); pure (ForInStep.yield ok) else pure (ForInStep.yield r)) Q E s
  | [], h => by rw [List.forIn_nil]; exact wpAny_pure h
  | c :: r, h => by
    rw [List.forIn_cons]
    simp only [Bool.false_eq_true, if_false]
    exact wpAny_bind (wpAny_pure (tests_false r h))
theorem vx_tests : ∀ (ifs : List Expr) {σ : AS} {Q : Bool → AS → Prop}, VTs K w n env l ifs Q σ → VX K w n env l (id : Bool → Bool) (tests ifs env) Q σ
  | [], σ, Q, h => fun A B s hr X he R k E hk => by
    unfold tests
    rw [List.forIn_nil]
    exact wpAny_pure (hk _ _ _ h R)
  | c :: r, σ, Q, h => fun A B s hr X he R k E hk => by
    unfold tests
    rw [List.forIn_cons]
    simp only [if_true]
    refine wpAny_bind (wpAny_bind (h A B s hr X he R _ _ fun b σ1 s1 h1 R1 => wpAny_pure ?_))
    cases b with
    | true =>
      simp only [id_eq, if_true] at h1
      exact vx_tests r h1 A B s1 hr X he R1 k E hk
    | false =>
      simp only [id_eq, Bool.false_eq_true, if_false] at h1
      exact tests_false r (hk false _ _ h1 R1)
noncomputable def bodyL (elt : Expr) (ifs : List Expr) (acc : Value) (env : Env) : Sem Flow := do
  let ok ← tests ifs env
  if ok = true then (do let _ ← call (.builtin "list.append") [acc, ← eval elt env])
  pure .next
noncomputable def bodyD (kx vx : Expr) (ifs : List Expr) (D : Addr) (env : Env) : Sem Flow := do
  let ok ← tests ifs env
  if ok = true then (do
    let kv ← eval kx env
    let vv ← holding [kv] (eval vx env)
    standAt { kx.pos with endLine := vx.pos.endLine, endCol := vx.pos.endCol }
    holding [kv, vv] (dictSet D kv vv))
  pure .next
noncomputable def bodyO (e : Expr) (ifs : List Expr) (iter2 : Expr) (acc : Value) (env : Env) : Sem Flow := do
  let ok ← tests ifs env
  if ok = true then (do
    let x ← eval iter2 env
    standAt iter2.pos
    let x ← foldedSetIterable iter2 env x
    let _ ← runOwn (.compStart e 1 (← holding [x] (pyIter x)) acc env) env)
  pure .next
theorem vy_bodyL {elt : Expr} {ifs : List Expr} {D : Addr} {Q : AF → Loc → AS → Prop}
    (h : VTs K w n env l ifs (fun b σ1 => if b = true then VE K w n env l elt (fun v σ2 => ∃ vs, σ2.f D = some (.list vs) ∧ vs.length ≤ 1000 ∧ Q .next l (σ2.upd D (.list (vs ++ [v])))) σ1 else Q .next l σ1) σ) :
    VY K w n env ef (bodyL elt ifs (.ref D) env) Q l σ := fun A B s hr X he R k E hk => by
  unfold bodyL
  refine wpAny_bind (vx_tests ifs h A B s hr X he R _ _ fun b σ1 s1 h1 R1 => ?_)
  cases b with
  | false =>
    simp only [id_eq, Bool.false_eq_true, if_false] at h1 ⊢
    exact wpAny_pure (hk .next _ _ _ h1 R1)
  | true =>
    simp only [id_eq, if_true] at h1 ⊢
    refine wpAny_bind (wpAny_bind (h1 A B s1 hr X he R1 _ _ fun v σ2 s2 h2 R2 => ?_))
    obtain ⟨vs, e1, e2, e3⟩ := h2
    refine wpAny_bind (vx_of_vc (K := K) (n := n) (vc_append (Q := fun _ σ' => σ' = σ2.upd D (.list (vs ++ [er v]))) e1 e2 rfl) (by rfl) A B s2 hr X he R2 _ _ fun _ σ3 s3 h3 R3 => ?_)
    subst h3
    exact wpAny_pure (wpAny_pure (hk .next _ _ _ e3 R3))
theorem vy_bodyD {kx vx : Expr} {ifs : List Expr} {D : Addr} {Q : AF → Loc → AS → Prop}
    (h : VTs K w n env l ifs (fun b σ1 => if b = true then VE K w n env l kx (fun kv σ2 => VE K w n env l vx (fun v σ3 => ∃ x kvs ep, kv = .int x ∧ σ3.f D = some (.idict kvs ep) ∧ kvs.length ≤ 1000 ∧ ∀ ep', Q .next l (σ3.upd D (.idict (ist kvs x v) ep'))) σ2) σ1 else Q .next l σ1) σ) :
    VY K w n env ef (bodyD kx vx ifs D env) Q l σ := fun A B s hr X he R k E hk => by
  unfold bodyD
  refine wpAny_bind (vx_tests ifs h A B s hr X he R _ _ fun b σ1 s1 h1 R1 => ?_)
  cases b with
  | false =>
    simp only [id_eq, Bool.false_eq_true, if_false] at h1 ⊢
    exact wpAny_pure (hk .next _ _ _ h1 R1)
  | true =>
    simp only [id_eq, if_true] at h1 ⊢
    refine wpAny_bind (wpAny_bind (h1 A B s1 hr X he R1 _ _ fun kv σ2 s2 h2 R2 => wpAny_bind (wpAny_holding (h2 A B s2 hr X he R2 _ _ fun v σ3 s3 h3 R3 => wpAny_bind (wpAny_standAt (wpAny_holding ?_))))))
    obtain ⟨x, kvs, ep, ex, e1, e2, e3⟩ := h3
    obtain ⟨t, rfl⟩ := er_int ex
    obtain ⟨kvs', g1, rfl⟩ := R3.rep.dict e1
    refine wpAny_dictSet_pairs intK g1.dictOf (fun h' h5 h6 => ?_) (by rw [List.length_map] at e2; unfold sizeLine; omega)
    obtain ⟨ob, ep', j1, j2⟩ := rep_dict h5
    rw [ist_er] at j2
    exact wpAny_pure (hk .next _ _ _ (e3 ep') (R3.upd e1 h6 j1 j2))
theorem loop_list {A : Around} {elt : Expr} {ifs : List Expr} {acc : Value} {c : Code} :
    (do
      let ok ← tests ifs env
      if ok = true then
        (do let _ ← call (.builtin "list.append") [acc, ← eval elt env])
      again c) = (bodyL elt ifs acc env >>= fun _ => again c) := by
  unfold bodyL
  rw [bind_assoc]
  congr 1
  funext ok
  cases ok <;> simp
theorem loop_dict {kx vx : Expr} {ifs : List Expr} {D : Addr} {c : Code} :
    (do
      let ok ← tests ifs env
      if ok = true then (do
        let kv ← eval kx env
        let vv ← holding [kv] (eval vx env)
        standAt { kx.pos with endLine := vx.pos.endLine, endCol := vx.pos.endCol }
        holding [kv, vv] (dictSet D kv vv))
      again c) = (bodyD kx vx ifs D env >>= fun _ => again c) := by
  unfold bodyD
  rw [bind_assoc]
  congr 1
  funext ok
  cases ok <;> simp
theorem loop_outer {e : Expr} {ifs : List Expr} {iter2 : Expr} {acc : Value} {c : Code} :
    (do
      let ok ← tests ifs env
      if ok = true then
        let x ← eval iter2 env
        standAt iter2.pos
        let x ← foldedSetIterable iter2 env x
        let _ ← runOwn (.compStart e 1 (← holding [x] (pyIter x)) acc env) env
      again c) = (bodyO e ifs iter2 acc env >>= fun _ => again c) := by
  unfold bodyO
  rw [bind_assoc]
  congr 1
  funext ok
  cases ok <;> simp
theorem loopP_of {A : Around} {e : Expr} {d : Nat} {target : Expr} {it acc : Value} {T : Sem Flow} {R : Result → Shared → Prop} {p : Pos} (hT : ∀ (A : Around) (s : Shared) (Q : Flow → Shared → Prop) (E : Value → Shared → Prop), wpAny (model prog w) A T Q E s → wpAny (model prog w) A T (fun f s' => f = .next ∧ Q f s') E s)
    (hq : (Code.compLoop e d it acc env).quiet = true) (hA : ∀ A : Around, A.under (.compLoop e d it acc env) = A)
    (hden : (model prog w).den (.compLoop e d it acc env) = (compTurn e d it acc env).onRaise (fun x => do noteFrame x env; theTreesLotGoes x))
    (he : compTurn e d it acc env = (do
      standAt p
      match ← pyNext it with
      | none => pure (.done .next)
      | some v =>
        letOwnedTupleGo target it v
        assign target env v
        T >>= fun _ => again (.compLoop e d it acc env))) :
    LoopP w A env (.compLoop e d it acc env) target it T R := fun I turn n s h => by
  refine codeAny_loop hq I (fun n s hI => ?_) n h
  rw [hA, hden]
  refine wpAny_noted ?_
  rw [he]
  refine wpAny_bind (wpAny_standAt (wpAny_bind (wpAny_mono (turn n s hI _) (fun r s₁ h₁ => ?_) fun _ _ h' => h')))
  cases r with
  | none => exact wpAny_pure h₁
  | some v =>
    refine wpAny_bind (wpAny_mono (h₁ _) (fun _ s₂ h₂ => wpAny_bind (wpAny_mono h₂ (fun _ s₃ h₃ => wpAny_bind (wpAny_mono (hT _ _ _ _ h₃) (fun f s₄ h₄ => ?_) fun _ _ h' => h')) fun _ _ h' => h')) fun _ _ h' => h')
    obtain ⟨rfl, h₄⟩ := h₄
    exact wpAny_pure ⟨rfl, h₄⟩
theorem wpAny_next {A : Around} {m : Sem PUnit} {E : Value → Shared → Prop} {Q : Flow → Shared → Prop} (h : wpAny (model prog w) A (m >>= fun _ => pure Flow.next) Q E s) : wpAny (model prog w) A (m >>= fun _ => pure Flow.next) (fun f s' => f = .next ∧ Q f s') E s := fun Γ p hΓ => by
  have := h Γ p hΓ
  rw [Sem.wp_bind'] at this ⊢
  exact Sem.wp_mono _ Γ m (fun a p' s' h' => ⟨rfl, h'⟩) (fun _ _ _ h' => h') p s this
theorem loopP_list {A : Around} {elt target iter : Expr} {ifs : List Expr} {scope : Scope} {pos : Pos} {it acc : Value} {R : Result → Shared → Prop} :
    LoopP w A env (.compLoop (.ListComp elt [⟨target, iter, ifs, 0⟩] scope pos) 0 it acc env) target it (bodyL elt ifs acc env) R :=
  loopP_of (p := iter.pos) (fun A s Q E h => by
    have e : bodyL elt ifs acc env = ((do
        let ok ← tests ifs env
        if ok = true then
          (do let _ ← call (.builtin "list.append") [acc, ← eval elt env])) >>= fun _ => pure Flow.next) := by
      unfold bodyL
      rw [bind_assoc]
      congr 1
      funext ok
      cases ok <;> simp
    rw [e] at h ⊢
    exact wpAny_next h) rfl (fun _ => rfl) rfl (by rw [← loop_list (A := A)]; rfl)
theorem loopP_dict {A : Around} {kx vx target iter : Expr} {ifs : List Expr} {scope : Scope} {pos : Pos} {it : Value} {D : Addr} {R : Result → Shared → Prop} :
    LoopP w A env (.compLoop (.DictComp kx vx [⟨target, iter, ifs, 0⟩] scope pos) 0 it (.ref D) env) target it (bodyD kx vx ifs D env) R :=
  loopP_of (p := iter.pos) (fun A s Q E h => by
    have e : bodyD kx vx ifs D env = ((do
        let ok ← tests ifs env
        if ok = true then (do
          let kv ← eval kx env
          let vv ← holding [kv] (eval vx env)
          standAt { kx.pos with endLine := vx.pos.endLine, endCol := vx.pos.endCol }
          holding [kv, vv] (dictSet D kv vv))) >>= fun _ => pure Flow.next) := by
      unfold bodyD
      rw [bind_assoc]
      congr 1
      funext ok
      cases ok <;> simp
    rw [e] at h ⊢
    exact wpAny_next h) rfl (fun _ => rfl) rfl (by rw [← loop_dict]; rfl)
theorem loopP_outer {A : Around} {elt target iter target2 iter2 : Expr} {ifs ifs2 : List Expr} {scope : Scope} {pos : Pos} {it acc : Value} {R : Result → Shared → Prop} :
    LoopP w A env (.compLoop (.ListComp elt [⟨target, iter, ifs, 0⟩, ⟨target2, iter2, ifs2, 0⟩] scope pos) 0 it acc env) target it (bodyO (.ListComp elt [⟨target, iter, ifs, 0⟩, ⟨target2, iter2, ifs2, 0⟩] scope pos) ifs iter2 acc env) R :=
  loopP_of (p := iter.pos) (fun A s Q E h => by
    have e : bodyO (.ListComp elt [⟨target, iter, ifs, 0⟩, ⟨target2, iter2, ifs2, 0⟩] scope pos) ifs iter2 acc env = ((do
        let ok ← tests ifs env
        if ok = true then (do
          let x ← eval iter2 env
          standAt iter2.pos
          let x ← foldedSetIterable iter2 env x
          let _ ← runOwn (.compStart (.ListComp elt [⟨target, iter, ifs, 0⟩, ⟨target2, iter2, ifs2, 0⟩] scope pos) 1 (← holding [x] (pyIter x)) acc env) env)) >>= fun _ => pure Flow.next) := by
      unfold bodyO
      rw [bind_assoc]
      congr 1
      funext ok
      cases ok <;> simp
    rw [e] at h ⊢
    exact wpAny_next h) rfl (fun _ => rfl) rfl (by rw [← loop_outer]; rfl)
theorem loopP_inner {A : Around} {elt target iter target2 iter2 : Expr} {ifs ifs2 : List Expr} {scope : Scope} {pos : Pos} {it acc : Value} {R : Result → Shared → Prop} :
    LoopP w A env (.compLoop (.ListComp elt [⟨target, iter, ifs, 0⟩, ⟨target2, iter2, ifs2, 0⟩] scope pos) 1 it acc env) target2 it (bodyL elt ifs2 acc env) R :=
  loopP_of (p := iter2.pos) (fun A s Q E h => by
    have e : bodyL elt ifs2 acc env = ((do
        let ok ← tests ifs2 env
        if ok = true then
          (do let _ ← call (.builtin "list.append") [acc, ← eval elt env])) >>= fun _ => pure Flow.next) := by
      unfold bodyL
      rw [bind_assoc]
      congr 1
      funext ok
      cases ok <;> simp
    rw [e] at h ⊢
    exact wpAny_next h) rfl (fun _ => rfl) rfl (by rw [← loop_list (A := A)]; rfl)
theorem start_of {A : Around} {e : Expr} {d : Nat} {It : Addr} {acc : Value} {R : Result → Shared → Prop} (hden : (model prog w).den (.compStart e d (.ref It) acc env) = (compStart e d (.ref It) acc env).onRaise (fun x => do noteFrame x env; standAt theWindowsPlace))
    (hA : A.under (.compStart e d (.ref It) acc env) = A) (hasync : ((clausesOf e)[d]?).elim false (fun c => c.is_async != 0) = false) (hq : (Code.compLoop e d (.ref It) acc env).quiet = true)
    (h : codeAny (model prog w) A (.compLoop e d (.ref It) acc env) R s) (hself : ∀ (Q : Value → Shared → Prop) (E : Value → Shared → Prop), Q (.ref It) s → wpAny (model prog w) A (pyIter (.ref It)) Q E s) :
    codeAny (model prog w) A (.compStart e d (.ref It) acc env) R s := by
  refine codeAny_of_tree ?_
  rw [hA, hden]
  refine wpAny_notedAt ?_
  unfold compStart
  rw [hasync]
  simp only [Bool.false_eq_true, if_false, bind_assoc]
  refine wpAny_bind (wpAny_askSetting (wpAny_ite ?_))
  split
  · first
      | exact wpAny_bind (wpAny_pure (wpAny_pure (And.intro hq h)))
      | exact wpAny_pure (And.intro hq h)
  · refine wpAny_bind (wpAny_rule ?_)
    cases hc : (clausesOf e)[d]? with
    | none => exact wpAny_bind (hself _ _ (wpAny_pure (And.intro hq h)))
    | some g => exact wpAny_bind (wpAny_standAt (wpAny_bind (hself _ _ (wpAny_pure (And.intro hq h)))))
noncomputable def LoopSpec (K : Frag) (w : World) (n : Nat) (env : Env) (target : Expr) (T : Sem Flow) (nxt : Nat → AS → Option AV) (ok : AS → Prop) (Q : AF → Loc → AS → Prop) (l : Loc) (σ : AS) : Prop :=
  ∃ (I : Nat → Loc → AS → Prop) (N : Nat), I 0 l σ ∧ ∀ i l' σ', I i l' σ' → ok σ' ∧ (∀ v, nxt i σ' = some v → i < N ∧ VA K w n env target v (fun l2 σ2 => VY K w n env ef T (fun f l3 σ3 => match f with
        | .next => I (i + 1) l3 σ3
        | .cont => I (i + 1) l3 σ3
        | .brk => Q .next l3 σ3
        | .ret v => Q (.ret v) l3 σ3) l2 σ2) l' σ') ∧ (nxt i σ' = none → Q .next l' σ')
theorem vs_loop {target iter : Expr} {body : List Stmt} {pos : Pos} {Q : AF → Loc → AS → Prop}
    (h : VE K w n env l iter (fun x σ1 => VIt K w n x (fun nxt ok σ2 => LoopSpec K w n env target (execs body env) nxt ok Q l σ2) σ1) σ)
    (hs : ∀ x, foldedSetIterable iter env x = pure x := by intro _; rfl) : VS K w n env (.For target iter body [] pos) Q l σ := fun A B s hr X he R k E hk => by
  refine wpAny_For (h A B s hr X he R _ _ fun x σ1 s1 h1 R1 => ?_) hs
  refine vitF h1 A B s1 hr X R1 _ _ fun It St nxt ok o σ2 s2 IT st hb hIL R2 hq => ?_
  obtain ⟨I, N, h0, step⟩ := hq
  exact abs_loop loopP_for I N hr X he IT st hb hIL R.lb R2 h0 step fun f l' σ' s' q r => hk f _ _ _ q r
theorem vy_bodyO {elt target iter target2 iter2 : Expr} {ifs ifs2 : List Expr} {scope : Scope} {pos : Pos} {D : Addr} {Q : AF → Loc → AS → Prop}
    (h : VTs K w n env l ifs (fun b σ1 => if b = true then VE K w n env l iter2 (fun x σ2 => VIt K w n x (fun nxt ok σ3 => LoopSpec K w n env target2 (bodyL elt ifs2 (.ref D) env) nxt ok (fun _ l' σ' => Q .next l' σ') l σ3) σ2) σ1 else Q .next l σ1) σ)
    (hs : ∀ x, foldedSetIterable iter2 env x = pure x := by intro _; rfl) :
    VY K w n env ef (bodyO (.ListComp elt [⟨target, iter, ifs, 0⟩, ⟨target2, iter2, ifs2, 0⟩] scope pos) ifs iter2 (.ref D) env) Q l σ := fun A B s hr X he R k E hk => by
  unfold bodyO
  refine wpAny_bind (vx_tests ifs h A B s hr X he R _ _ fun b σ1 s1 h1 R1 => ?_)
  cases b with
  | false =>
    simp only [id_eq, Bool.false_eq_true, if_false] at h1 ⊢
    exact wpAny_pure (hk .next _ _ _ h1 R1)
  | true =>
    simp only [id_eq, if_true] at h1 ⊢
    refine wpAny_bind (wpAny_bind (h1 A B s1 hr X he R1 _ _ fun x σ2 s2 h2 R2 => wpAny_bind (wpAny_standAt (wpAny_bind (wpAny_of_eq (hs x) (wpAny_bind (wpAny_holding ?_)))))))
    refine vitF h2 A B s2 hr X R2 _ _ fun It St nxt ok o σ3 s3 IT st hb hIL R3 hq => ?_
    refine wpAny_bind (wpAny_runOwn ?_)
    obtain ⟨I, N, h0, step⟩ := hq
    refine start_of (d := 1) rfl rfl rfl rfl ?_ (fun Q E hQ => IT.self 0 A B s3 σ3 o _ _ hb R3.rep st hQ)
    exact abs_loop (Q := fun _ l' σ' => Q .next l' σ') loopP_inner I N hr X he IT st hb hIL R.lb R3 h0 step fun f l' σ' s' q r => wpAny_pure (wpAny_pure (hk .next _ _ _ q r))
noncomputable def closA (env : Env) : List (Str × NameKind) → List (Str × Addr) → Option (List (Str × Addr))
  | [], cs => some cs
  | (x, k) :: r, cs => if k == .free then (match env.cells.lookup x with | some c => closA env r ((x, c) :: cs) | none => none) else closA env r cs
theorem wp_closure {A : Around} {E : Value → Shared → Prop} {Q : List (Str × Addr) → Shared → Prop} (f : Str × NameKind → List (Str × Addr) → Sem (ForInStep (List (Str × Addr))))
    (hf : ∀ x k cs, f (x, k) cs = if k == .free then (do let c ← cellOf env x; pure (.yield ((x, c) :: cs))) else pure (.yield cs)) : ∀ (names : List (Str × NameKind)) (cs cs' : List (Str × Addr)), closA env names cs = some cs' → Q cs' s → wpAny (model prog w) A (forIn names cs f) Q E s
  | [], cs, cs', h, hq => by rw [List.forIn_nil]; cases h; exact wpAny_pure hq
  | (x, k) :: r, cs, cs', h, hq => by
    rw [List.forIn_cons, hf]
    unfold closA at h
    split at h
    · rename_i hk
      rw [if_pos hk]
      split at h
      · rename_i c hc
        exact wpAny_bind (wpAny_bind (wpAny_cellOf hc (wpAny_pure (wp_closure f hf r _ cs' h hq))))
      · cases h
    · rename_i hk
      rw [if_neg hk]
      exact wpAny_bind (wpAny_pure (wp_closure f hf r _ cs' h hq))
noncomputable def ownN (env : Env) (p : Str × NameKind) : Str × NameKind := if (p.2 == .free && env.scope.kind == .function && env.kindOf p.1 == some .cell) = true then (p.1, .cell) else p
noncomputable def compE (scope : Scope) (env : Env) (C : Addr) (cs : List (Str × Addr)) : Env := newEnv { scope with names := scope.names.map (ownN env) } C env.globals (cellsFrom (C + 1) scope.names cs) env.qual none .none (some env) builtinsNs
theorem ownN_eq (env : Env) (y : Str) (k : NameKind) : ownN env (y, k) = (y, if (k == .free && env.scope.kind == .function && env.kindOf y == some .cell) = true then .cell else k) := by
  unfold ownN
  dsimp only
  split <;> rfl
theorem lookup_own (env : Env) (x : Str) : ∀ names : List (Str × NameKind), (names.map (ownN env)).lookup x = (names.lookup x).map fun k => if (k == .free && env.scope.kind == .function && env.kindOf x == some .cell) = true then .cell else k
  | [] => rfl
  | (y, k) :: r => by
    rw [List.map_cons, ownN_eq, List.lookup_cons, List.lookup_cons]
    by_cases h : x = y
    · subst h
      rw [beq_self_eq_true]
      rfl
    · have h' : (x == y) = false := beq_eq_false_iff_ne.mpr h
      rw [h', lookup_own env x r]
theorem kc_same {scope : Scope} {cenv : Env} {C : Addr} {cs : List (Str × Addr)} {x : Str} {k : NameKind} (he : cenv = compE scope env C cs) (h : scope.names.lookup x = some k) (hk : k ≠ .free) : cenv.kindOf x = some k := by
  subst he
  show (scope.names.map (ownN env)).lookup x = some k
  rw [lookup_own, h]
  have : (k == NameKind.free) = false := beq_eq_false_iff_ne.mpr hk
  rw [Option.map_some, this]
  rfl
theorem kc_own {scope : Scope} {cenv : Env} {C : Addr} {cs : List (Str × Addr)} {x : Str} (he : cenv = compE scope env C cs) (hE : EnvOK env) (h : scope.names.lookup x = some .free) (hc : env.kindOf x = some .cell) : cenv.kindOf x = some .cell := by
  subst he
  show (scope.names.map (ownN env)).lookup x = some .cell
  rw [lookup_own, h]
  simp [hE.kind, hc]
theorem compE_ok {scope : Scope} {C : Addr} {cs : List (Str × Addr)} (hE : EnvOK env) (hk : scope.kind = .function) : EnvOK (compE scope env C cs) := ⟨hk, hE.glob, hE.blt⟩
theorem comp_run {A : Around} {e : Expr} {target : Expr} {T : Addr → Env → Sem Flow} {scope : Scope} {newAcc : Sem Value} {acc0 : AO} {ob0 : Obj} {x : Value} {cs : List (Str × Addr)} {Q : Addr → AS → Prop} {E : Value → Shared → Prop} {QQ : Value → Env → Shared → Prop}
    (hr : Room n A) (X : Base K B) (he : EnvOK env) (R : RepF w B env l σ s)
    (hnew : ∀ (s : Shared) (Q : Value → Shared → Prop), Q (.ref s.heap.objs.size) { s with heap := s.heap.push ob0 } → wpAny (model prog w) A newAcc Q E s) (hob : RepO w acc0 ob0)
    (hkind : scope.kind = .function)
    (hden : ∀ It D cenv, (model prog w).den (.compStart e 0 (.ref It) (.ref D) cenv) = (compStart e 0 (.ref It) (.ref D) cenv).onRaise (fun x => do noteFrame x cenv; standAt theWindowsPlace))
    (hA : ∀ It D cenv, A.under (.compStart e 0 (.ref It) (.ref D) cenv) = A) (hasync : ((clausesOf e)[0]?).elim false (fun c => c.is_async != 0) = false) (hq : ∀ It D cenv, (Code.compLoop e 0 (.ref It) (.ref D) cenv).quiet = true)
    (hLP : ∀ It D cenv R, LoopP w A cenv (.compLoop e 0 (.ref It) (.ref D) cenv) target (.ref It) (T D cenv) R)
    (h : VIt K w n (er x) (fun nxt ok σ2 => ∀ D C cenv, Fresh σ2 D → Fresh (σ2.ins D acc0) C → cenv = compE scope env C cs → EnvOK cenv → LoopSpec K w n cenv target (T D cenv) nxt ok (fun _ _ σ' => Q D σ') [] (pushA (σ2.ins D acc0) (C + 1) scope.names)) σ)
    (hQQ : ∀ D C cenv l' σ' s' ob, cenv.locals = C → cenv.scope.kind = .function → (∀ y, scope.names.lookup y = some .local → cenv.kindOf y = some .local) → Base K (B.add env.locals ob) → RepF w (B.add env.locals ob) cenv l' σ' s' → Q D σ' → (∀ σ'' s'' ob2, RepB w ((B.add env.locals ob).add C ob2) σ'' s'' → C ≠ env.locals ∧ B.o C = none ∧ RepF w (B.add C ob2) env l σ'' s'') → QQ (.ref D) cenv s') :
    wpAny (model prog w) A (pyIter x) (fun it s₂ => wpAny (model prog w) A newAcc (fun acc s₃ =>
      wpAny (model prog w) A (newFunctionEnv scope env.globals cs [] env.qual none .none (some env)) (fun cenv s₄ =>
        codeAny (model prog w) A (.compStart e 0 it acc { cenv with scope := { scope with names := scope.names.map (ownN env) } }) (fun r s' => match r with | .ok _ => QQ acc { cenv with scope := { scope with names := scope.names.map (ownN env) } } s' | .error _ => False) s₄) E s₃) E s₂) E s := by
  obtain ⟨ob, Rh, Xh, back⟩ := R.hide X
  refine h x A _ s rfl hr Xh Rh _ _ fun It St nxt ok o σ9 s2 IT st hb R2 hspec => ?_
  refine hnew s2 _ ?_
  have R3 := R2.new (tk := s2.toks) hob
  have F3 : Fresh σ9 s2.heap.objs.size := R2.isFresh (Nat.le_refl _)
  refine wp_newEnv (K := K) (n := n) (P := fun env' l' σ' => l' = [] ∧ σ' = pushA (σ9.ins s2.heap.objs.size acc0) (env'.locals + 1) scope.names) hr (Xh.add hb) R3 hkind he.glob he.blt (fun L env' hF he' => ?_) fun L env' l' σ' s' hF he' hE hP R' => ?_
  · subst he'; exact ⟨rfl, by rw [newEnv_locals]⟩
  obtain ⟨rfl, rfl⟩ := hP
  have hL : env'.locals = L := by rw [he', newEnv_locals]
  have hcE : ({ env' with scope := { scope with names := scope.names.map (ownN env) } } : Env) = compE scope env L cs := by rw [he']; rfl
  rw [hcE]
  have hCl : (compE scope env L cs).locals = L := rfl
  obtain ⟨I, N, h0, step⟩ := hspec s2.heap.objs.size L _ F3 hF rfl (compE_ok he hkind)
  have R4 : RepF w ((B.add env.locals ob).add It o) (compE scope env L cs) [] (pushA (σ9.ins s2.heap.objs.size acc0) (L + 1) scope.names) s' := by
    obtain ⟨a1, a2, a3, a4⟩ := R'
    rw [hL] at a1 a2 a3 a4
    exact ⟨a1, a2, a3, a4⟩
  have hIL : It ≠ L := fun q => by have := R4.lb; rw [hCl, ← q] at this; simp [Bs.add] at this
  have hLb : (B.add env.locals ob).o L = none := by have := R4.lb; rw [hCl] at this; simpa only [Bs.add, if_neg hIL.symm] using this
  have hLe : L ≠ env.locals := fun q => by rw [q] at hLb; simp [Bs.add] at hLb
  have hLB : B.o L = none := by simpa only [Bs.add, if_neg hLe] using hLb
  refine start_of (hden _ _ _) (hA _ _ _) hasync (hq _ _ _) ?_ (fun Q E hQ => IT.self 0 A _ s' _ o _ _ hb R4.rep st hQ)
  refine abs_loop (Q := fun _ _ σ' => Q s2.heap.objs.size σ') (hLP _ _ _ _) I N hr Xh (compE_ok he hkind) IT st hb hIL hLb R4 h0 step fun f l' σ' s'' q r => ?_
  refine hQQ _ L _ l' σ' s'' ob hCl hkind (fun y hy => kc_same rfl hy (by decide)) Xh r q fun σ'' s'' ob2 Rx => ⟨hLe, hLB, ?_⟩
  have Ry := (repB_comm (It := L) (L := env.locals) hLe).mpr Rx
  obtain ⟨m', x', y'⟩ := R.ns
  obtain ⟨o3, es, ep, ho3, r3⟩ := id x'
  have hob : ob = o3 := Option.some.inj ((Rh.keep env.locals ob (by simp [Bs.add])).symm.trans ho3)
  subst hob
  have hLI : (B.add L ob2).o env.locals = none := by simp only [Bs.add]; rw [if_neg hLe.symm]; exact R.lb
  obtain ⟨a1, b1, c1⟩ := Ry.show hLI
  exact ⟨a1, ⟨m', ⟨ob, es, ep, b1, r3⟩, y'⟩, c1, hLI⟩
theorem wp_letGo {A : Around} {cenv : Env} {cellsOf : List (Str × NameKind) → List Value} {vs : List (Str × NameKind)} {E : Value → Shared → Prop} {Q : Unit → Shared → Prop} {m : Str → Option Value} (hkind : cenv.scope.kind = .function) (hv : ∀ x ∈ vs, x.2 = .local → cenv.kindOf x.1 = some .local) (hn : s.heap.Ns cenv.locals m)
    (h : ∀ h', Heap.SameBut cenv.locals s.heap h' → Q () { s with heap := h' }) : wpAny (model prog w) A (comprehension.letGo cenv cellsOf vs) Q E s :=
  wpAny_comp_letGo hkind vs s m hv hn fun h' _ _ hs => h h' hs
theorem closureFor_ok {A : Around} {E : Value → Shared → Prop} {Q : List (Str × Addr) → Shared → Prop} {scope : Scope} {cs : List (Str × Addr)} (hcs : closA env scope.names [] = some cs) (hq : Q cs s) : wpAny (model prog w) A (closureFor scope env) Q E s := by
  unfold closureFor
  simp only [bind_pure]
  exact wp_closure _ (fun x k cs => by cases k <;> simp) _ _ _ hcs hq
noncomputable def namesOK (names : List (Str × NameKind)) : Bool := names.all fun p => p.2 != .local || names.lookup p.1 == some .local
theorem vars_local {scope : Scope} {cenv : Env} (hn : namesOK scope.names = true) (hk : ∀ y, scope.names.lookup y = some .local → cenv.kindOf y = some .local) : ∀ x ∈ (scope.names.filter fun x => (x.2 == .local || x.2 == .cell) && x.1 != (".0" : Str)), x.2 = .local → cenv.kindOf x.1 = some .local := fun x hx hl => by
  have := List.all_eq_true.mp hn x (List.mem_filter.mp hx).1
  rw [hl] at this
  exact hk _ (by simpa using this)
theorem ve_comp {e : Expr} {pos : Pos} {target : Expr} {iter : Expr} {ifs : List Expr} {gs : List Comprehension} {T : Addr → Env → Sem Flow} {scope : Scope} {newAcc : Sem Value} {acc0 : AO} {ob0 : Obj} {cs : List (Str × Addr)} {Q : AV → AS → Prop}
    (hcl : clausesOf e = ⟨target, iter, ifs, 0⟩ :: gs) (hs : ∀ x, foldedSetIterable iter env x = pure x)
    (hnew : ∀ (A : Around) (s : Shared) (Q : Value → Shared → Prop) (E : Value → Shared → Prop), Q (.ref s.heap.objs.size) { s with heap := s.heap.push ob0 } → wpAny (model prog w) A newAcc Q E s) (hob : RepO w acc0 ob0)
    (hkind : scope.kind = .function) (hn : namesOK scope.names = true)
    (hden : ∀ It D cenv, (model prog w).den (.compStart e 0 (.ref It) (.ref D) cenv) = (compStart e 0 (.ref It) (.ref D) cenv).onRaise (fun x => do noteFrame x cenv; standAt theWindowsPlace))
    (hA : ∀ (A : Around) It D cenv, A.under (.compStart e 0 (.ref It) (.ref D) cenv) = A) (hq : ∀ It D cenv, (Code.compLoop e 0 (.ref It) (.ref D) cenv).quiet = true)
    (hLP : ∀ A It D cenv R, LoopP w A cenv (.compLoop e 0 (.ref It) (.ref D) cenv) target (.ref It) (T D cenv) R)
    (hcs : closA env scope.names [] = some cs)
    (h : VE K w n env l iter (fun x σ1 => VIt K w n x (fun nxt ok σ2 => ∀ D C cenv, Fresh σ2 D → Fresh (σ2.ins D acc0) C → cenv = compE scope env C cs → EnvOK cenv → LoopSpec K w n cenv target (T D cenv) nxt ok (fun _ _ σ' => Q (.ref D) σ') [] (pushA (σ2.ins D acc0) (C + 1) scope.names)) σ1) σ) :
    VX K w n env l er (comprehension e scope env pos newAcc false (eval iter env)) Q σ := fun A B s hr X he R k E hk => by
  unfold comprehension
  rw [hcl]
  refine wpAny_bind (h A B s hr X he R _ _ fun x σ1 s1 h1 R1 => wpAny_bind (wpAny_standAt (wpAny_bind (wpAny_of_eq (hs x) (wpAny_bind (wpAny_holding ?_))))))
  refine wpAny_mono (comp_run (Q := fun D σ' => Q (.ref D) σ') (E := E) (QQ := fun acc cenv s' => ∃ D σ' m, acc = .ref D ∧ Q (.ref D) σ' ∧ cenv.scope.kind = .function ∧ (∀ y, scope.names.lookup y = some .local → cenv.kindOf y = some .local) ∧ s'.heap.Ns cenv.locals m ∧ ∀ h', Heap.SameBut cenv.locals s'.heap h' → RepF w B env l σ' { s' with heap := h' }) hr X he R1 (fun s Q => hnew A s Q E) hob hkind hden (hA A) (by rw [hcl]; rfl) hq (hLP A) h1 ?_) (fun it s2 h2 => wpAny_standIf (wpAny_bind (wpAny_mono h2 (fun acc s3 h3 => wpAny_bind (closureFor_ok hcs (wpAny_bind (wpAny_mono h3 (fun cenv s4 h4 => ?_) fun _ _ h' => h')))) fun _ _ h' => h'))) fun _ _ h' => h'
  · intro D C cenv l' σ' s' ob hC hk' hv' XB R' hQ back
    obtain ⟨m, hm, _⟩ := R'.ns
    refine ⟨D, σ', m, rfl, hQ, hk', hv', hm, fun h' hs' => ?_⟩
    have Rb : RepB w (B.add env.locals ob) σ' { s' with heap := h', toks := s'.toks } := R'.rep.aside R'.lo R'.lb hs'.extBut (by rw [hs'.1]; exact Nat.le_refl _)
    obtain ⟨o2, es, ep, ho2, r2⟩ := hm
    have hCn : s'.heap.get? C = some o2 := by rw [← hC]; exact ho2
    obtain ⟨e1, e2, e3⟩ := back σ' s' o2 (R'.rep.hide hCn (by rw [← hC]; exact R'.lo))
    have hbL : B.o env.locals = none := R.lb
    obtain ⟨f1, f2, f3⟩ := Rb.show hbL
    obtain ⟨f4, ⟨m2, g1, g2⟩, f5, f6⟩ := e3
    exact ⟨f1, ⟨m2, g1.sameBut hs' (by rw [hC]; exact e1.symm), g2⟩, f3, hbL⟩
  · dsimp only
    refine wpAny_holding (wpAny_bind (wpAny_attempt (wpAny_holding (wpAny_run (codeAny_mono h4 fun r s' hr' => ?_)))))
    cases r with
    | error x => exact hr'.elim
    | ok f =>
      obtain ⟨D, σ', m, rfl, hQ, hk', hv', hm, hfin⟩ := hr'
      refine wpAny_bind (wpAny_holding (wp_letGo hk' (fun x hx hl => vars_local hn hv' x (List.mem_reverse.mp hx) hl) hm fun h' hs' => wpAny_pure ?_))
      exact hk _ _ _ hQ (hfin h' hs')
theorem vy_comp_use {e : Expr} {pos : Pos} {target : Expr} {iter : Expr} {ifs : List Expr} {gs : List Comprehension} {T : Addr → Env → Sem Flow} {scope : Scope} {newAcc : Sem Value} {acc0 : AO} {ob0 : Obj} {cs : List (Str × Addr)} {u : Expr} {Q : Loc → AS → Prop}
    (hcl : clausesOf e = ⟨target, iter, ifs, 0⟩ :: gs) (hs : ∀ x, foldedSetIterable iter env x = pure x)
    (hnew : ∀ (A : Around) (s : Shared) (Q : Value → Shared → Prop) (E : Value → Shared → Prop), Q (.ref s.heap.objs.size) { s with heap := s.heap.push ob0 } → wpAny (model prog w) A newAcc Q E s) (hob : RepO w acc0 ob0)
    (hkind : scope.kind = .function) (hn : namesOK scope.names = true)
    (hden : ∀ It D cenv, (model prog w).den (.compStart e 0 (.ref It) (.ref D) cenv) = (compStart e 0 (.ref It) (.ref D) cenv).onRaise (fun x => do noteFrame x cenv; standAt theWindowsPlace))
    (hA : ∀ (A : Around) It D cenv, A.under (.compStart e 0 (.ref It) (.ref D) cenv) = A) (hq : ∀ It D cenv, (Code.compLoop e 0 (.ref It) (.ref D) cenv).quiet = true)
    (hLP : ∀ A It D cenv R, LoopP w A cenv (.compLoop e 0 (.ref It) (.ref D) cenv) target (.ref It) (T D cenv) R)
    (hcs : closA env scope.names [] = some cs)
    (h : VE K w n env l iter (fun x σ1 => VIt K w n x (fun nxt ok σ2 => ∀ D C cenv, Fresh σ2 D → Fresh (σ2.ins D acc0) C → cenv = compE scope env C cs → EnvOK cenv → LoopSpec K w n cenv target (T D cenv) nxt ok (fun _ _ σ' => VA K w n env u (.ref D) Q l σ') [] (pushA (σ2.ins D acc0) (C + 1) scope.names)) σ1) σ) :
    VY K w n env (fun (_ : Value) => ()) (comprehension e scope env pos newAcc false (eval iter env) (some (assign u env))) (fun _ l' σ' => Q l' σ') l σ := fun A B s hr X he R k E hk => by
  unfold comprehension
  rw [hcl]
  refine wpAny_bind (h A B s hr X he R _ _ fun x σ1 s1 h1 R1 => wpAny_bind (wpAny_standAt (wpAny_bind (wpAny_of_eq (hs x) (wpAny_bind (wpAny_holding ?_))))))
  refine wpAny_mono (comp_run (Q := fun D σ' => VA K w n env u (.ref D) Q l σ') (E := E) (QQ := fun acc cenv s' => cenv.scope.kind = .function ∧ (∀ y, scope.names.lookup y = some .local → cenv.kindOf y = some .local) ∧
      wpAny (model prog w) A (assign u env acc) (fun _ s'' => ∃ l2 σ2 m, Q l2 σ2 ∧ s''.heap.Ns cenv.locals m ∧ ∀ h', Heap.SameBut cenv.locals s''.heap h' → RepF w B env l2 σ2 { s'' with heap := h' }) E s') hr X he R1 (fun s Q => hnew A s Q E) hob hkind hden (hA A) (by rw [hcl]; rfl) hq (hLP A) h1 ?_) (fun it s2 h2 => wpAny_standIf (wpAny_bind (wpAny_mono h2 (fun acc s3 h3 => wpAny_bind (closureFor_ok hcs (wpAny_bind (wpAny_mono h3 (fun cenv s4 h4 => ?_) fun _ _ h' => h')))) fun _ _ h' => h'))) fun _ _ h' => h'
  · intro D C cenv l' σ' s' ob hC hk' hv' XB R' hQ back
    refine ⟨hk', hv', ?_⟩
    obtain ⟨m, hm, _⟩ := R'.ns
    obtain ⟨o2, es, ep, ho2, r2⟩ := hm
    have hCn : s'.heap.get? C = some o2 := by rw [← hC]; exact ho2
    obtain ⟨e1, e2, e3⟩ := back σ' s' o2 (R'.rep.hide hCn (by rw [← hC]; exact R'.lo))
    refine hQ (.ref D) rfl A (B.add C o2) s' hr (X.add e2) he e3 _ _ fun _ l2 σ2 s2 hq R2 => ?_
    have hCs : s2.heap.get? C = some o2 := R2.rep.keep C o2 (by simp [Bs.add])
    refine ⟨l2, σ2, m, hq, by rw [hC]; exact ⟨o2, es, ep, hCs, r2⟩, fun h' hs' => ?_⟩
    rw [hC] at hs'
    obtain ⟨f1, f2, f3⟩ := R2.rep.show e2
    have Rb : RepB w B σ2 { s2 with heap := h', toks := s2.toks } := f1.aside f3 e2 hs'.extBut (by rw [hs'.1]; exact Nat.le_refl _)
    obtain ⟨m2, g1, g2⟩ := R2.ns
    exact ⟨Rb, ⟨m2, g1.sameBut hs' e1.symm, g2⟩, R2.lo, R.lb⟩
  · dsimp only
    refine wpAny_holding (wpAny_bind (wpAny_attempt (wpAny_holding (wpAny_run (codeAny_mono h4 fun r s' hr' => ?_)))))
    cases r with
    | error x => exact hr'.elim
    | ok f =>
      obtain ⟨hk', hv', hw⟩ := hr'
      have hv2 : ∀ x ∈ (scope.names.filter fun x => (x.2 == .local || x.2 == .cell) && x.1 != (".0" : Str)).reverse.drop 1 ++ (scope.names.filter fun x => (x.2 == .local || x.2 == .cell) && x.1 != (".0" : Str)).reverse.take 1, x.2 = .local → cenv.scope.kind = .function → True := fun _ _ _ _ => trivial
      refine wpAny_bind (wpAny_rule (wpAny_bind (wpAny_holding (wpAny_mono hw (fun _ s2 h2 => ?_) fun _ _ h' => h'))))
      obtain ⟨l2, σ2, m, hq, hm, hfin⟩ := h2
      refine wpAny_bind (wp_letGo hk' (fun x hx hl => ?_) hm fun h' hs' => wpAny_pure (hk _ _ _ _ hq (hfin h' hs')))
      rcases List.mem_append.mp hx with hx | hx
      · exact vars_local hn hv' x (List.mem_reverse.mp (List.mem_of_mem_drop hx)) hl
      · exact vars_local hn hv' x (List.mem_reverse.mp (List.mem_of_mem_take hx)) hl
theorem new_list {A : Around} {Q : Value → Shared → Prop} {E : Value → Shared → Prop} (h : Q (.ref s.heap.objs.size) { s with heap := s.heap.push { cls := .type "list", data := .seq #[] } }) : wpAny (model prog w) A (newList []) Q E s := wpAny_newList h
theorem new_dict {A : Around} {Q : Value → Shared → Prop} {E : Value → Shared → Prop} (h : Q (.ref s.heap.objs.size) { s with heap := s.heap.push { cls := .type "dict", data := .dict #[] } }) : wpAny (model prog w) A newDict Q E s := by
  simp only [newDict, newObj]
  exact wpAny_bind (wpAny_alloc (wpAny_pure h))
theorem rep_list0 (w : World) : RepO w (.list []) { cls := .type "list", data := .seq #[] } := ⟨#[], 0, rfl, rfl⟩
theorem rep_dict0 (w : World) : RepO w (.idict [] 0) { cls := .type "dict", data := .dict #[] } := ⟨#[], [], ⟨rfl, rfl, rfl⟩, rfl, (by intro e he; simp at he), .nil, List.nodup_nil, rfl⟩
theorem ve_listcomp {elt target iter : Expr} {ifs : List Expr} {scope : Scope} {pos : Pos} (cs : List (Str × Addr)) {Q : AV → AS → Prop} (hcs : closA env scope.names [] = some cs)
    (h : VE K w n env l iter (fun x σ1 => VIt K w n x (fun nxt ok σ2 => ∀ D C cenv, Fresh σ2 D → Fresh (σ2.ins D (.list [])) C → cenv = compE scope env C cs → EnvOK cenv → LoopSpec K w n cenv target (bodyL elt ifs (.ref D) cenv) nxt ok (fun _ _ σ' => Q (.ref D) σ') [] (pushA (σ2.ins D (.list [])) (C + 1) scope.names)) σ1) σ)
    (hs : ∀ x, foldedSetIterable iter env x = pure x := by intro _; rfl) (hkind : scope.kind = .function := by rfl) (hn : namesOK scope.names = true := by decide) :
    VE K w n env l (.ListComp elt [⟨target, iter, ifs, 0⟩] scope pos) Q σ :=
  ve_comp (T := fun D cenv => bodyL elt ifs (.ref D) cenv) (newAcc := newList []) rfl hs (fun A s Q E h => new_list h) (rep_list0 w) hkind hn (fun _ _ _ => rfl) (fun _ _ _ _ => rfl) (fun _ _ _ => rfl) (fun _ _ _ _ _ => loopP_list) hcs h
theorem ve_listcomp2 {elt target iter target2 iter2 : Expr} {ifs ifs2 : List Expr} {scope : Scope} {pos : Pos} (cs : List (Str × Addr)) {Q : AV → AS → Prop} (hcs : closA env scope.names [] = some cs)
    (h : VE K w n env l iter (fun x σ1 => VIt K w n x (fun nxt ok σ2 => ∀ D C cenv, Fresh σ2 D → Fresh (σ2.ins D (.list [])) C → cenv = compE scope env C cs → EnvOK cenv → LoopSpec K w n cenv target (bodyO (.ListComp elt [⟨target, iter, ifs, 0⟩, ⟨target2, iter2, ifs2, 0⟩] scope pos) ifs iter2 (.ref D) cenv) nxt ok (fun _ _ σ' => Q (.ref D) σ') [] (pushA (σ2.ins D (.list [])) (C + 1) scope.names)) σ1) σ)
    (hs : ∀ x, foldedSetIterable iter env x = pure x := by intro _; rfl) (hkind : scope.kind = .function := by rfl) (hn : namesOK scope.names = true := by decide) :
    VE K w n env l (.ListComp elt [⟨target, iter, ifs, 0⟩, ⟨target2, iter2, ifs2, 0⟩] scope pos) Q σ :=
  ve_comp (T := fun D cenv => bodyO _ ifs iter2 (.ref D) cenv) (newAcc := newList []) rfl hs (fun A s Q E h => new_list h) (rep_list0 w) hkind hn (fun _ _ _ => rfl) (fun _ _ _ _ => rfl) (fun _ _ _ => rfl) (fun _ _ _ _ _ => loopP_outer) hcs h
theorem ve_dictcomp {kx vx target iter : Expr} {ifs : List Expr} {scope : Scope} {pos : Pos} (cs : List (Str × Addr)) {Q : AV → AS → Prop} (hcs : closA env scope.names [] = some cs)
    (h : VE K w n env l iter (fun x σ1 => VIt K w n x (fun nxt ok σ2 => ∀ D C cenv, Fresh σ2 D → Fresh (σ2.ins D (.idict [] 0)) C → cenv = compE scope env C cs → EnvOK cenv → LoopSpec K w n cenv target (bodyD kx vx ifs D cenv) nxt ok (fun _ _ σ' => Q (.ref D) σ') [] (pushA (σ2.ins D (.idict [] 0)) (C + 1) scope.names)) σ1) σ)
    (hs : ∀ x, foldedSetIterable iter env x = pure x := by intro _; rfl) (hkind : scope.kind = .function := by rfl) (hn : namesOK scope.names = true := by decide) :
    VE K w n env l (.DictComp kx vx [⟨target, iter, ifs, 0⟩] scope pos) Q σ :=
  ve_comp (T := fun D cenv => bodyD kx vx ifs D cenv) (newAcc := newDict) rfl hs (fun A s Q E h => new_dict h) (rep_dict0 w) hkind hn (fun _ _ _ => rfl) (fun _ _ _ _ => rfl) (fun _ _ _ => rfl) (fun _ _ _ _ _ => loopP_dict) hcs h
theorem vs_used {x : Str} {px : Pos} {value : Expr} {pos : Pos} {Q : AF → Loc → AS → Prop} {t : Sem Value} (h : VY K w n env (fun (_ : Value) => ()) t (fun _ l' σ' => Q .next l' σ') l σ)
    (ht : evalThenUse value env (assign (.Name x px) env) = (do let _ ← t)) (hsw : swapsWith value (some (.Name x px)) pos.line env = pure true) : VS K w n env (.Assign [.Name x px] value pos) Q l σ := fun A B s hr X he R k E hk => by
  show wpAny _ A (exec _ env) k E s
  rw [exec_Assign_Name_used _ _ _ _ hsw, ht]
  exact wpAny_bind (wpAny_standAt (wpAny_bind (wpAny_bind (h A B s hr X he R _ _ fun _ l' σ' s' q r => wpAny_pure (wpAny_pure (hk .next _ _ _ q r))))))
theorem vs_listcomp {x : Str} {px : Pos} {elt target iter : Expr} {ifs : List Expr} {scope : Scope} {pos spos : Pos} (cs : List (Str × Addr)) {Q : AF → Loc → AS → Prop} (hcs : closA env scope.names [] = some cs) (hsw : swapsWith (.ListComp elt [⟨target, iter, ifs, 0⟩] scope pos) (some (.Name x px)) spos.line env = pure true)
    (h : VE K w n env l iter (fun v σ1 => VIt K w n v (fun nxt ok σ2 => ∀ D C cenv, Fresh σ2 D → Fresh (σ2.ins D (.list [])) C → cenv = compE scope env C cs → EnvOK cenv → LoopSpec K w n cenv target (bodyL elt ifs (.ref D) cenv) nxt ok (fun _ _ σ' => VA K w n env (.Name x px) (.ref D) (fun l2 σ2 => Q .next l2 σ2) l σ') [] (pushA (σ2.ins D (.list [])) (C + 1) scope.names)) σ1) σ)
    (hs : ∀ x, foldedSetIterable iter env x = pure x := by intro _; rfl) (hkind : scope.kind = .function := by rfl) (hn : namesOK scope.names = true := by decide) :
    VS K w n env (.Assign [.Name x px] (.ListComp elt [⟨target, iter, ifs, 0⟩] scope pos) spos) Q l σ :=
  vs_used (vy_comp_use (T := fun D cenv => bodyL elt ifs (.ref D) cenv) (newAcc := newList []) rfl hs (fun A s Q E h => new_list h) (rep_list0 w) hkind hn (fun _ _ _ => rfl) (fun _ _ _ _ => rfl) (fun _ _ _ => rfl) (fun _ _ _ _ _ => loopP_list) hcs h) rfl hsw
theorem vs_listcomp2 {x : Str} {px : Pos} {elt target iter target2 iter2 : Expr} {ifs ifs2 : List Expr} {scope : Scope} {pos spos : Pos} (cs : List (Str × Addr)) {Q : AF → Loc → AS → Prop} (hcs : closA env scope.names [] = some cs) (hsw : swapsWith (.ListComp elt [⟨target, iter, ifs, 0⟩, ⟨target2, iter2, ifs2, 0⟩] scope pos) (some (.Name x px)) spos.line env = pure true)
    (h : VE K w n env l iter (fun v σ1 => VIt K w n v (fun nxt ok σ2 => ∀ D C cenv, Fresh σ2 D → Fresh (σ2.ins D (.list [])) C → cenv = compE scope env C cs → EnvOK cenv → LoopSpec K w n cenv target (bodyO (.ListComp elt [⟨target, iter, ifs, 0⟩, ⟨target2, iter2, ifs2, 0⟩] scope pos) ifs iter2 (.ref D) cenv) nxt ok (fun _ _ σ' => VA K w n env (.Name x px) (.ref D) (fun l2 σ2 => Q .next l2 σ2) l σ') [] (pushA (σ2.ins D (.list [])) (C + 1) scope.names)) σ1) σ)
    (hs : ∀ x, foldedSetIterable iter env x = pure x := by intro _; rfl) (hkind : scope.kind = .function := by rfl) (hn : namesOK scope.names = true := by decide) :
    VS K w n env (.Assign [.Name x px] (.ListComp elt [⟨target, iter, ifs, 0⟩, ⟨target2, iter2, ifs2, 0⟩] scope pos) spos) Q l σ :=
  vs_used (vy_comp_use (T := fun D cenv => bodyO _ ifs iter2 (.ref D) cenv) (newAcc := newList []) rfl hs (fun A s Q E h => new_list h) (rep_list0 w) hkind hn (fun _ _ _ => rfl) (fun _ _ _ _ => rfl) (fun _ _ _ => rfl) (fun _ _ _ _ _ => loopP_outer) hcs h) rfl hsw
theorem vs_dictcomp {x : Str} {px : Pos} {kx vx target iter : Expr} {ifs : List Expr} {scope : Scope} {pos spos : Pos} (cs : List (Str × Addr)) {Q : AF → Loc → AS → Prop} (hcs : closA env scope.names [] = some cs) (hsw : swapsWith (.DictComp kx vx [⟨target, iter, ifs, 0⟩] scope pos) (some (.Name x px)) spos.line env = pure true)
    (h : VE K w n env l iter (fun v σ1 => VIt K w n v (fun nxt ok σ2 => ∀ D C cenv, Fresh σ2 D → Fresh (σ2.ins D (.idict [] 0)) C → cenv = compE scope env C cs → EnvOK cenv → LoopSpec K w n cenv target (bodyD kx vx ifs D cenv) nxt ok (fun _ _ σ' => VA K w n env (.Name x px) (.ref D) (fun l2 σ2 => Q .next l2 σ2) l σ') [] (pushA (σ2.ins D (.idict [] 0)) (C + 1) scope.names)) σ1) σ)
    (hs : ∀ x, foldedSetIterable iter env x = pure x := by intro _; rfl) (hkind : scope.kind = .function := by rfl) (hn : namesOK scope.names = true := by decide) :
    VS K w n env (.Assign [.Name x px] (.DictComp kx vx [⟨target, iter, ifs, 0⟩] scope pos) spos) Q l σ :=
  vs_used (vy_comp_use (T := fun D cenv => bodyD kx vx ifs D cenv) (newAcc := newDict) rfl hs (fun A s Q E h => new_dict h) (rep_dict0 w) hkind hn (fun _ _ _ => rfl) (fun _ _ _ _ => rfl) (fun _ _ _ => rfl) (fun _ _ _ _ _ => loopP_dict) hcs h) rfl hsw
end
end Mine
end
section
open PySem PySem.W PySem.Calls PyProof.Rows
set_option maxRecDepth 100000
set_option linter.unusedVariables false
set_option linter.unusedSimpArgs false
namespace Mine
section
variable {w : World} {B : Bs} {σ : AS} {s : Shared} {K : Frag} {n : Nat} {env : Env} {l : Loc}
theorem RepF.aside (R : RepF w B env l σ s) {h' : Heap} {tk : Nat} (hx : Heap.ExtBut s.heap.objs.size s.heap h') (hz : s.heap.objs.size ≤ h'.objs.size) : RepF w B env l σ { s with heap := h', toks := tk } :=
  R.ext (fun b o e => hx b o (Nat.ne_of_lt (Heap.lt_size e)) e) hz
theorem RepF.items (R : RepF w B env l σ s) {A : Around} {a : Addr} {vs : List AV} {m : Nat} {k : List Value → Shared → Prop} {E : Value → Shared → Prop} (hh : A.handled = none) (ht : σ.f a = some (.tup vs)) (hm : m = vs.length)
    (h : ∀ us s', us.map er = vs → RepF w B env l σ s' → k us s') : wpAny (model prog w) A (unpackItems (.ref a) m none) k E s := by
  obtain ⟨items, c, h1, h2⟩ := R.rep.tup ht
  have hsz : m = items.size := by rw [hm, er_size h2]
  rw [hsz]
  exact with_size (unpackItems_tuple hh ⟨_, h1, rfl, _, rfl⟩ fun h' hx hz => h _ _ h2 (R.aside (tk := s.toks) hx hz))
theorem va_tup2 {t1 t2 : Expr} {k : Nat} {pos : Pos} {a : Addr} {v1 v2 : AV} {Q : Loc → AS → Prop} (ht : σ.f a = some (.tup [v1, v2])) (h : VA K w n env t1 v1 (fun l1 σ1 => VA K w n env t2 v2 Q l1 σ1) l σ)
    (hae : assignEach [t1, t2] env = [(false, assign t1 env), (false, assign t2 env)] := by rfl) : VA K w n env (.Tuple [t1, t2] k pos) (.ref a) Q l σ := fun v₀ hv A B s hr X he R kk E hk => by
  rw [er_ref hv, arm_assign_Tuple]
  refine wpAny_bind (wpAny_standAt ?_)
  unfold unpack
  rw [hae]
  refine wpAny_bind (wpAny_holding (R.items hr.1 ht (by rfl) fun us s' e R' => ?_))
  obtain ⟨u1, u2, rfl, e2, e3⟩ := two_of e
  refine assignInOrder_cons (h u1 e2 A B s' hr X he R' _ _ fun _ l1 σ1 s1 h1 R1 => assignInOrder_cons (h1 u2 e3 A B s1 hr X he R1 _ _ fun _ l2 σ2 s2 h2 R2 => assignInOrder_nil (hk _ _ _ _ h2 R2)))
theorem vs_assign_tup {elts : List Expr} {k : Nat} {tp : Pos} {value : Expr} {pos : Pos} {Q : AF → Loc → AS → Prop} (h : VE K w n env l value (fun v σ1 => VA K w n env (.Tuple elts k tp) v (fun l2 σ2 => Q .next l2 σ2) l σ1) σ)
    (hs : swapsWithSole [.Tuple elts k tp] value pos.line env = pure false := by rfl)
    (hw : swappedStores [.Tuple elts k tp] value env = pure none := by rfl) : VS K w n env (.Assign [.Tuple elts k tp] value pos) Q l σ := fun A B s hr X he R kk E hk =>
  Assign_Tuple (h A B s hr X he R _ _ fun v σ1 s1 h1 R1 => h1 v rfl A B s1 hr X he R1 _ _ fun _ l2 σ2 s2 h2 R2 => hk .next _ _ _ h2 R2) hs hw
theorem vs_assign_sw2 {x y : Str} {elts : List Expr} {k : Nat} {tp : Pos} {value : Expr} {pos : Pos} {Q : AF → Loc → AS → Prop} (hw : swappedStores [.Tuple elts k tp] value env = pure (some [x, y]))
    (hx : env.kindOf x = some .local) (hy : env.kindOf y = some .local)
    (h : VE K w n env l value (fun v σ1 => ∃ a v1 v2, v = .ref a ∧ σ1.f a = some (.tup [v1, v2]) ∧ Q .next (lset x v1 (lset y v2 l)) σ1) σ)
    (hs : swapsWithSole [.Tuple elts k tp] value pos.line env = pure false := by rfl) : VS K w n env (.Assign [.Tuple elts k tp] value pos) Q l σ := fun A B s hr X he R kk E hk => by
  refine Assign_Tuple_swapped (h A B s hr X he R _ _ fun v σ1 s1 h1 R1 => ?_) hs hw
  obtain ⟨a, v1, v2, e, ht, hq⟩ := h1
  rw [er_ref e]
  refine R1.items hr.1 ht rfl fun us s' e R' => ?_
  obtain ⟨u1, u2, rfl, rfl, rfl⟩ := two_of e
  show wpAny _ A (assignInOrder [bindName env y, bindName env x] [u2, u1]) _ E s'
  refine assignInOrder_cons (wpAny_bindName (vy_store_local (Q := fun _ l1 σ2 => l1 = lset y (er u2) l ∧ σ2 = σ1) ⟨rfl, rfl⟩ hy A B s' hr X he R' _ _ fun _ l1 σ2 s2 q R2 => ?_))
  obtain ⟨rfl, rfl⟩ := q
  refine assignInOrder_cons (wpAny_bindName (vy_store_local (Q := fun _ l1 σ3 => l1 = lset x (er u1) (lset y (er u2) l) ∧ σ3 = σ2) ⟨rfl, rfl⟩ hx A B s2 hr X he R2 _ _ fun _ l1 σ3 s3 q R3 => ?_))
  obtain ⟨rfl, rfl⟩ := q
  exact assignInOrder_nil (hk .next _ _ _ hq R3)
theorem vs_assign_sw3 {x y z : Str} {elts : List Expr} {k : Nat} {tp : Pos} {value : Expr} {pos : Pos} {Q : AF → Loc → AS → Prop} (hw : swappedStores [.Tuple elts k tp] value env = pure (some [x, y, z]))
    (hx : env.kindOf x = some .local) (hy : env.kindOf y = some .local) (hz : env.kindOf z = some .local)
    (h : VE K w n env l value (fun v σ1 => ∃ a v1 v2 v3, v = .ref a ∧ σ1.f a = some (.tup [v1, v2, v3]) ∧ Q .next (lset x v1 (lset y v2 (lset z v3 l))) σ1) σ)
    (hs : swapsWithSole [.Tuple elts k tp] value pos.line env = pure false := by rfl) : VS K w n env (.Assign [.Tuple elts k tp] value pos) Q l σ := fun A B s hr X he R kk E hk => by
  refine Assign_Tuple_swapped (h A B s hr X he R _ _ fun v σ1 s1 h1 R1 => ?_) hs hw
  obtain ⟨a, v1, v2, v3, e, ht, hq⟩ := h1
  rw [er_ref e]
  refine R1.items hr.1 ht rfl fun us s' e R' => ?_
  obtain ⟨u1, u2, u3, rfl, rfl, rfl, rfl⟩ := three_of e
  show wpAny _ A (assignInOrder [bindName env z, bindName env y, bindName env x] [u3, u2, u1]) _ E s'
  refine assignInOrder_cons (wpAny_bindName (vy_store_local (Q := fun _ l1 σ2 => l1 = lset z (er u3) l ∧ σ2 = σ1) ⟨rfl, rfl⟩ hz A B s' hr X he R' _ _ fun _ l1 σ2 s2 q R2 => ?_))
  obtain ⟨rfl, rfl⟩ := q
  refine assignInOrder_cons (wpAny_bindName (vy_store_local (Q := fun _ l1 σ3 => l1 = lset y (er u2) (lset z (er u3) l) ∧ σ3 = σ2) ⟨rfl, rfl⟩ hy A B s2 hr X he R2 _ _ fun _ l1 σ3 s3 q R3 => ?_))
  obtain ⟨rfl, rfl⟩ := q
  refine assignInOrder_cons (wpAny_bindName (vy_store_local (Q := fun _ l1 σ4 => l1 = lset x (er u1) (lset y (er u2) (lset z (er u3) l)) ∧ σ4 = σ3) ⟨rfl, rfl⟩ hx A B s3 hr X he R3 _ _ fun _ l1 σ4 s4 q R4 => ?_))
  obtain ⟨rfl, rfl⟩ := q
  exact assignInOrder_nil (hk .next _ _ _ hq R4)
noncomputable def LR (σ : AS) (a : Addr) (vs : List AV) : Prop := σ.f a = some (.list vs) ∨ ∃ o items c, σ.f a = some (.raw o) ∧ o.cls = .type "list" ∧ o.data = .seq items c ∧ items.toList.map er = vs
theorem RepB.listR (R : RepB w B σ s) {a : Addr} {vs : List AV} (h : LR σ a vs) : ∃ items, s.heap.IsList a items ∧ items.toList.map er = vs := by
  rcases h with h | ⟨o, items, c, h, e1, e2, e⟩
  · obtain ⟨items, m, h1, h2⟩ := R.list h
    exact ⟨items, h1.isList, h2⟩
  · obtain ⟨ob, h1, rfl, _⟩ := R.objs a _ h
    exact ⟨items, ⟨_, h1, e1, _, e2⟩, e⟩
theorem ve_slice_upto {value : Expr} {m : Nat} {kk : Nat} {p0 p pos : Pos} {Q : AV → AS → Prop}
    (h : VE K w n env l value (fun v σ1 => ∃ a vs, v = .ref a ∧ LR σ1 a vs ∧ vs.length ≤ sizeLine ∧ ∀ b, Fresh σ1 b → Q (.ref b) (σ1.ins b (.list (vs.take m)))) σ)
    (ht : ∀ o r, letTemporaryGo value o r = pure () := by intro _ _; rfl) : VE K w n env l (.Subscript value (.Slice none (some (.Constant (.int m) kk p0)) none p) pos) Q σ := fun A B s hr X he R k E hk => by
  refine wpAny_Subscript_list_slice (h A B s hr X he R _ _ fun v σ1 s1 h1 R1 => ?_) ht
  obtain ⟨a, vs, e, hl, hz, hq⟩ := h1
  rw [er_ref e]
  obtain ⟨items, h1, h2⟩ := R1.rep.listR hl
  refine wpAny_pure ?_
  show wpAny _ A (eval (.Constant (.int m) kk p0) env) _ E s1
  refine wpAny_Constant_int ⟨a, items, none, some m, rfl, h1, by rw [er_size h2]; exact hz, .none, .int _ _, ?_⟩
  rw [slicePick_upto']
  subst h2
  have R2 : RepF w B env l σ1 { s1 with heap := s1.heap.push { cls := .type "slice", data := .fields #[Value.none, .int m s1.toks, .none] }, toks := s1.toks + 1 } := R1.ext (fun b o e => Heap.get?_push_of_some _ e) (by rw [Heap.size_push]; exact Nat.le_succ _)
  have hF : Fresh σ1 (s1.heap.objs.size + 1) := R1.rep.isFresh (Nat.le_succ _)
  refine hk _ _ _ (hq _ hF) ?_
  have := R2.new (tk := s1.toks + 1) (repList w (items.toList.take m) 0)
  rw [show ((s1.heap.push { cls := .type "slice", data := .fields #[Value.none, .int m s1.toks, .none] }).objs.size) = s1.heap.objs.size + 1 from Heap.size_push ..] at this
  rw [List.map_take] at this
  exact this
noncomputable def dictNxt (d : Addr) : Nat → AS → Option AV := fun i σ => match σ.f d with | some (.idict kvs _) => (kvs[i]?).map fun p => .int p.1 | _ => none
theorem it_dict {It d : Addr} {N ep : Nat} : ItOK K w It (fun i o => o.cls = .type "dict_keyiterator" ∧ o.data = .fields #[.ref d, .int i 0, .int N 0, .int ep 0]) (dictNxt d) (fun σ => ∃ kvs, σ.f d = some (.idict kvs ep) ∧ kvs.length = N) where
  item := fun i A B s σ o v k E hh X hb R st hok hv hk => by
    obtain ⟨kvs, hl, hN⟩ := hok
    simp only [dictNxt, hl] at hv
    obtain ⟨kvs', h1, rfl⟩ := R.dict hl
    rw [List.length_map] at hN
    obtain ⟨p, h2, rfl⟩ := Option.map_eq_some_iff.mp hv
    rw [List.getElem?_map] at h2
    obtain ⟨⟨q1, q2⟩, h3, rfl⟩ := Option.map_eq_some_iff.mp h2
    subst hN
    refine wpAny_pyNext_dict_item ⟨_, R.it, st⟩ h1 h3 fun key h' hk' hit hs => ?_
    obtain ⟨o', ho', hc'⟩ := hit
    obtain ⟨t, rfl⟩ := Value.isInt_shape hk'
    exact hk _ _ _ rfl hc' (R.swap hb ho' hs)
  done := fun i A B s σ o k E hh X hb R st hok hv hk => by
    obtain ⟨kvs, hl, hN⟩ := hok
    simp only [dictNxt, hl] at hv
    obtain ⟨kvs', h1, rfl⟩ := R.dict hl
    rw [List.length_map] at hN
    subst hN
    have h3 : kvs'[i]? = none := by simpa using hv
    exact with_size (wpAny_pyNext_dict_end hh ⟨_, R.it, st⟩ h1 h3 fun h' hx hz => hk _ (R.gone (tk := s.toks) hb hx hz))
  self := fun i A B s σ o k E hb R st hq => wpAny_pyIter_keyiter (i := i) (n := N) (ep := ep) (d := d) ⟨_, R.it, st⟩ hq
  plain := fun i o st => ⟨_, _, st.1, st.2, by decide⟩
theorem vit_dict {a : Addr} {kvs : List (Int × AV)} {ep : Nat} {Q : (Nat → AS → Option AV) → (AS → Prop) → AS → Prop} (hl : σ.f a = some (.idict kvs ep)) (h : Q (dictNxt a) (fun σ => ∃ kvs', σ.f a = some (.idict kvs' ep) ∧ kvs'.length = kvs.length) σ) : VIt K w n (.ref a) Q σ := fun x' A B s hx hr X R k E hk => by
  rw [er_ref hx]
  obtain ⟨kvs', h1, rfl⟩ := R.dict hl
  refine wpAny_pyIter_dict (R.sys X hl) h1 (hk _ _ _ _ _ _ _ it_dict ⟨rfl, ?_⟩ R.fresh.2 (R.pushIt rfl) h)
  rw [List.length_map]; rfl
theorem vc_list_dict {a : Addr} {kvs : List (Int × AV)} {ep : Nat} {Q : AV → AS → Prop} (hl : σ.f a = some (.idict kvs ep)) (hz : kvs.length ≤ 1000) (h : ∀ b, Fresh σ b → Q (.ref b) (σ.ins b (.list (kvs.map fun p => .int p.1)))) : VC K w n (.type "list") [.ref a] Q σ := fun A B s vs hr X R ha k E hk => by
  obtain ⟨v, rfl, hv⟩ := one_of ha
  rw [er_ref hv]
  obtain ⟨kvs', h1, rfl⟩ := R.dict hl
  rw [List.length_map] at hz
  refine with_size (kdl_call (kdl_dict (R.sys X hl)) hr.1 h1 (by unfold sizeLine; omega) fun h' tk acc c' hkp hD hacc hsz => ?_)
  refine hk _ _ _ (h _ (R.isFresh (Nat.le_refl _))) (R.ins (Nat.le_refl _) hkp hsz hD ⟨_, _, rfl, ?_⟩)
  apply List.ext_getElem?
  intro i
  rw [List.getElem?_map, List.getElem?_map, List.getElem?_map, Array.getElem?_toList]
  by_cases hi : i < kvs'.length
  · have hs : i < acc.size := by rw [hacc.1]; exact hi
    obtain ⟨k', x, e1, e2⟩ := hacc.2 i acc[i] (by simp [hs])
    obtain ⟨t, e3⟩ := Value.isInt_shape e2
    rw [Array.getElem?_eq_getElem hs, e1, e3]
    rfl
  · have hs : ¬ i < acc.size := by rw [hacc.1]; exact hi
    rw [Array.getElem?_eq_none (by omega), List.getElem?_eq_none (by omega)]
    rfl
theorem ve_dict1 {ke ve : Expr} {pos : Pos} {Q : AV → AS → Prop}
    (h : ∀ d, Fresh σ d → VE K w n env l ke (fun kv σ1 => VE K w n env l ve (fun v σ2 => ∃ x, kv = .int x ∧ σ2.f d = some (.idict [] 0) ∧ ∀ ep, Q (.ref d) (σ2.upd d (.idict [(x, v)] ep))) σ1) (σ.ins d (.idict [] 0))) :
    VE K w n env l (.Dict [some ke] [ve] pos) Q σ := fun A B s hr X he R k E hk => by
  refine wpAny_Dict_pairs (knd := intKind prog w) (pairs := [(eval ke env, do let x ← eval ve env; standAt pos; pure x)]) rfl (by simp) (by simp) ?_
  have R1 := R.new (tk := s.toks) (rep_dict0 w)
  refine wpAny_bind (h _ (R.rep.isFresh (Nat.le_refl _)) A B _ hr X he R1 _ _ fun kv σ1 s1 h1 R2 => wpAny_bind (wpAny_holding (wpAny_bind (h1 A B s1 hr X he R2 _ _ fun v σ2 s2 h2 R3 => wpAny_bind (wpAny_standAt (wpAny_pure ?_))))))
  obtain ⟨x, ex, hd, hq⟩ := h2
  obtain ⟨t, rfl⟩ := er_int ex
  obtain ⟨kvs', g1, g2⟩ := R3.rep.dict hd
  obtain rfl : kvs' = [] := by simpa using g2
  refine wpAny_bind (wpAny_holding (wpAny_pure (wpAny_pure ⟨[(x, v)], ⟨intK, rfl, trivial⟩, g1.dictOf, fun h' h5 h6 => ?_⟩)))
  obtain ⟨ob, ep', j1, j2⟩ := rep_dict h5
  exact hk _ _ _ (hq ep') (R3.upd hd h6 j1 j2)
theorem RepB.set (R : RepB w B σ s) {a : Addr} {S : Int → Bool} {m : Nat} (h : σ.f a = some (.set S m)) : ∃ ob, s.heap.get? a = some ob ∧ ob.SetObjOf (intKind prog w) S m := by
  obtain ⟨ob, h1, h2, _⟩ := R.objs a _ h
  exact ⟨ob, h1, h2⟩
theorem rep_set {h : Heap} {a : Addr} {S : Int → Bool} {m : Nat} (x : h.SetOf (intKind prog w) a S m) : ∃ ob, h.get? a = some ob ∧ RepO w (.set S m) ob := by
  obtain ⟨ob, h1, h2⟩ := x.objOf
  exact ⟨ob, h1, h2, (PySem.Heap.get?_some_iff.mp h1).2⟩
theorem ve_set1 {e : Expr} {kk : Nat} {pos : Pos} {Q : AV → AS → Prop} (hroad : (displayRoad kk [e] == .constants) = false) (hu : (displayRoad kk [e] == .unsure) = false) (hp : [e].all kdsPlain = true) (hc : kdsCode K env.code = true)
    (h : ∀ d, Fresh σ d → VE K w n env l e (fun v σ1 => ∃ x m, v = .int x ∧ σ1.f d = some (.set (fun _ => false) m) ∧ m = 0 ∧ Q (.ref d) (σ1.upd d (.set (fun y => decide (y = x)) 1))) (σ.ins d (.set (fun _ => false) 0))) :
    VE K w n env l (.Set [e] kk pos) Q σ := fun A B s hr X he R k E hk => by
  rw [arm_eval_Set]
  refine wpAny_bind (wpAny_standAt (wpAny_bind (kds_main (X.In R.rep) hc fun b => ?_)))
  rw [kds_star [e] hp, List.map_map]
  refine kds_core (ts := (evalEach [e] env).map fun t => do let v ← t; standAt pos; pure v) hroad (by rfl) (by rw [List.length_map, kds_len]; show 1 ≤ 30; omega) (by rw [List.map_map]; rfl) fun led => ?_
  refine kds_all pos [e] _ _ ?_
  have R1 := R.new (tk := s.toks) (o' := .set (fun _ => false) 0) (ob := { cls := .type "set", dict := none, data := .set #[] 0 (.fresh 0 0 led) }) ⟨setObjOf_fresh led, rfl⟩
  refine h _ (R.rep.isFresh (Nat.le_refl _)) A B _ hr X he R1 _ _ fun v σ1 s1 h1 R2 => ?_
  obtain ⟨x, m, ex, hd, rfl, hq⟩ := h1
  obtain ⟨t, rfl⟩ := er_int ex
  obtain ⟨ob, g1, g2⟩ := R2.rep.set hd
  refine kds_fill_cons ?_
  unfold setAdd
  refine wpAny_holding (wpAny_bind ((intKind prog w).pyHash (k := x) intK ?_))
  refine wpAny_setAddHashed_of (knd := intKind prog w) (s := { s1 with toks := s1.toks + 1 }) intK rfl (g2.setOf g1 (by decide)) (by decide) fun h' hsb hS' => ?_
  refine kds_fill_nil hu ?_
  obtain ⟨ob', j1, j2⟩ := rep_set hS'
  have e1 : (fun k' => (fun _ => false) k' || decide (k' = x)) = (fun y : Int => decide (y = x)) := by funext y; simp
  simp only [Bool.false_eq_true, if_false] at j2
  rw [e1] at j2
  exact hk _ _ _ hq (R2.upd hd hsb j1 j2)
theorem vo_notin_set {x : Int} {a : Addr} {S : Int → Bool} {m : Nat} {Q : AV → AS → Prop} (hl : σ.f a = some (.set S m)) (hm : m ≤ 1000) (h : Q (.bool (!S x)) σ) : VO K w n .NotIn (.int x) (.ref a) Q σ := fun a' b' ha hb A B s hr X R k E hk => by
  obtain ⟨t, rfl⟩ := er_int ha
  rw [er_ref hb]
  obtain ⟨ob, g1, g2⟩ := R.set hl
  exact wpAny_notInSet_of (knd := intKind prog w) intK rfl (g2.setOf g1 (by unfold scanBound; omega)) (hk _ _ _ h R.toks)
theorem vm_set_add {a : Addr} {S : Int → Bool} {m : Nat} {Q : Value × List Value → AS → Prop} (hl : σ.f a = some (.set S m)) (hm : m ≤ 1000) (h : Q (.builtin "set.add", [.ref a]) σ) : VM K w n (.ref a) "add" Q σ := fun v' pl hv A B s hr X R k E hk => by
  rw [er_ref hv]
  obtain ⟨ob, g1, g2⟩ := R.set hl
  exact getMethod_set_add (g2.setOf g1 (by unfold scanBound; omega)) (hk _ _ _ h R)
theorem vc_set_add {a : Addr} {S : Int → Bool} {m : Nat} {x : Int} {Q : AV → AS → Prop} (hl : σ.f a = some (.set S m)) (hm : m ≤ 1000) (h : Q .none (σ.upd a (.set (fun y => S y || decide (y = x)) (if S x then m else m + 1)))) : VC K w n (.builtin "set.add") [.ref a, .int x] Q σ := fun A B s vs hr X R ha k E hk => by
  obtain ⟨p, u, rfl, hp, hu⟩ := two_of ha
  obtain ⟨t, rfl⟩ := er_int hu
  rw [er_ref hp]
  obtain ⟨ob, g1, g2⟩ := R.set hl
  refine call_set_add (knd := intKind prog w) (k := x) intK rfl (g2.setOf g1 (by unfold scanBound; omega)) (by unfold scanBound; omega) fun h' hsb hS' => ?_
  obtain ⟨ob', j1, j2⟩ := rep_set hS'
  exact hk _ _ _ h (R.upd hl hsb j1 j2)
theorem vs_del_dict {o i : Expr} {dpos pos : Pos} {Q : AF → Loc → AS → Prop}
    (h : VE K w n env l o (fun a σ1 => VE K w n env l i (fun b σ2 => ∃ ad ix kvs ep, a = .ref ad ∧ b = .int ix ∧ σ2.f ad = some (.idict kvs ep) ∧ kvs.length ≤ 1000 ∧ (ivl kvs ix).isSome = true ∧ ∀ ep', Q .next l (σ2.upd ad (.idict (kvs.filter fun p => decide (p.1 ≠ ix)) ep'))) σ1) σ) :
    VS K w n env (.Delete [.Subscript o i dpos] pos) Q l σ := fun A B s hr X he R k E hk => by
  refine wpAny_Delete (wpAny_deleteEach_cons ?_)
  show wpAny _ A (do
    let ov ← eval o env
    let iv ← holding [ov] (eval i env)
    standAt dpos
    holding [ov, iv] (delItem ov iv)
    release [ov, iv] []) _ E s
  refine wpAny_bind (h A B s hr X he R _ _ fun a σ1 s1 h1 R1 => wpAny_bind (wpAny_holding (h1 A B s1 hr X he R1 _ _ fun b σ2 s2 h2 R2 => wpAny_bind (wpAny_standAt (wpAny_bind (wpAny_holding ?_))))))
  obtain ⟨ad, ix, kvs, ep, ha, hb, hl, hz, hs, hq⟩ := h2
  rw [er_ref ha]
  obtain ⟨t, rfl⟩ := er_int hb
  obtain ⟨kvs', g1, rfl⟩ := R2.rep.dict hl
  rw [List.length_map] at hz
  rw [ivl_er, Option.isSome_map] at hs
  refine wpAny_delItem_slot g1.dictOf.typeIs (by decide) PySem.F.slot_dict_delitem (call_meetsIn PySem.F.slot_dict_delitem g1.dictOf.typeIs PySem.F.entry_dict_delitem (PySem.F.args_dict_delitem_2 _ _) (meets_dict_delitem_pairs (intKind prog w) ad intK) ⟨kvs', g1.dictOf, by unfold sizeLine; omega, hs, fun h' h5 h6 => ?_⟩)
  refine wpAny_release (wpAny_deleteEach_nil ?_)
  obtain ⟨ob, ep', j1, j2⟩ := rep_dict h5
  have e : (without kvs' ix).map ern = (kvs'.map ern).filter fun p => decide (p.1 ≠ ix) := by
    unfold without
    rw [List.filter_map]; rfl
  rw [e] at j2
  exact hk .next _ _ _ (hq ep') (R2.upd hl h6 j1 j2)
theorem vs_try {body : List Stmt} {h₀ : ExceptHandler} {hs : List ExceptHandler} {pos : Pos} {Q : AF → Loc → AS → Prop} (h : VB K w n env body Q l σ) : VS K w n env (.Try body (h₀ :: hs) [] [] pos) Q l σ := fun A B s hr X he R k E hk =>
  wpAny_Try_except (h A B s hr X he R _ _ fun f l1 σ1 s1 h1 R1 => by
    cases f with
    | next => exact wpAny_execs_nil (hk .next _ _ _ h1 R1)
    | brk => exact hk .brk _ _ _ h1 R1
    | cont => exact hk .cont _ _ _ h1 R1
    | ret v => exact hk (.ret v) _ _ _ h1 R1)
theorem vy_bodyL0 {elt : Expr} {D : Addr} {Q : AF → Loc → AS → Prop} (h : VE K w n env l elt (fun v σ2 => ∃ vs, σ2.f D = some (.list vs) ∧ vs.length ≤ 1000 ∧ Q .next l (σ2.upd D (.list (vs ++ [v])))) σ) : VY K w n env ef (bodyL elt [] (.ref D) env) Q l σ :=
  vy_bodyL (by show VTs K w n env l [] _ σ; simp only [VTs, if_true]; exact h)
theorem vy_bodyL1 {elt c : Expr} {D : Addr} {Q : AF → Loc → AS → Prop} (h : VT K w n env l c (fun b σ1 => if b = true then VE K w n env l elt (fun v σ2 => ∃ vs, σ2.f D = some (.list vs) ∧ vs.length ≤ 1000 ∧ Q .next l (σ2.upd D (.list (vs ++ [v])))) σ1 else Q .next l σ1) σ) : VY K w n env ef (bodyL elt [c] (.ref D) env) Q l σ :=
  by
  refine vy_bodyL ?_
  unfold VTs
  refine vx_mono h fun b σ1 h1 => ?_
  cases b with
  | true => simpa only [if_true, VTs] using h1
  | false => simpa only [Bool.false_eq_true, if_false] using h1
theorem vy_bodyD0 {kx vx : Expr} {D : Addr} {Q : AF → Loc → AS → Prop} (h : VE K w n env l kx (fun kv σ2 => VE K w n env l vx (fun v σ3 => ∃ x kvs ep, kv = .int x ∧ σ3.f D = some (.idict kvs ep) ∧ kvs.length ≤ 1000 ∧ ∀ ep', Q .next l (σ3.upd D (.idict (ist kvs x v) ep'))) σ2) σ) : VY K w n env ef (bodyD kx vx [] D env) Q l σ :=
  vy_bodyD (by show VTs K w n env l [] _ σ; simp only [VTs, if_true]; exact h)
theorem vy_bodyO0 {elt target iter target2 iter2 : Expr} {ifs2 : List Expr} {scope : Scope} {pos : Pos} {D : Addr} {Q : AF → Loc → AS → Prop}
    (h : VE K w n env l iter2 (fun x σ2 => VIt K w n x (fun nxt ok σ3 => LoopSpec K w n env target2 (bodyL elt ifs2 (.ref D) env) nxt ok (fun _ l' σ' => Q .next l' σ') l σ3) σ2) σ)
    (hs : ∀ x, foldedSetIterable iter2 env x = pure x := by intro _; rfl) :
    VY K w n env ef (bodyO (.ListComp elt [⟨target, iter, [], 0⟩, ⟨target2, iter2, ifs2, 0⟩] scope pos) [] iter2 (.ref D) env) Q l σ :=
  vy_bodyO (by show VTs K w n env l [] _ σ; simp only [VTs, if_true]; exact h) hs
end
end Mine
end
section
open PySem PySem.W PySem.Calls PyProof.Rows
set_option maxRecDepth 100000
set_option linter.unusedVariables false
set_option linter.unusedSimpArgs false
namespace Mine
section
variable {w : World} {B : Bs} {σ : AS} {s : Shared} {K : Frag} {n : Nat} {env : Env} {l : Loc}
theorem Ext.upd {σ' : AS} {a : Addr} {o : AO} (h : Ext σ σ') (ha : σ.f a = none) : Ext σ (σ'.upd a o) := fun b ob e => by
  rw [AS.upd_f, if_neg]
  · exact h b ob e
  · intro q; rw [q, ha] at e; cases e
theorem Ext.add {σ' : AS} {a : Addr} {o : AO} (h : Ext σ σ') (ha : Fresh σ' a) : Ext σ (σ'.ins a o) := h.trans (Ext.ins ha)
theorem Ext.isNone {σ' : AS} {a : Addr} (h : Ext σ σ') (ha : σ'.f a = none) : σ.f a = none := by
  cases q : σ.f a with
  | none => rfl
  | some o => have := h a o q; rw [ha] at this; cases this
theorem Ext.fresh {σ' : AS} {a : Addr} (h : Ext σ σ') (ha : Fresh σ' a) : σ.f a = none := h.isNone ha.none
theorem ins_at {a : Addr} {o : AO} : (σ.ins a o).f a = some o := by rw [AS.ins_f, if_pos rfl]
theorem upd_at {a : Addr} {o : AO} : (σ.upd a o).f a = some o := by rw [AS.upd_f, if_pos rfl]
theorem ins_old {a b : Addr} {o o' : AO} (ha : Fresh σ a) (h : σ.f b = some o') : (σ.ins a o).f b = some o' := Ext.ins ha b o' h
theorem ne_fresh {a b : Addr} {o : AO} (ha : Fresh σ a) (h : σ.f b = some o) : b ≠ a := fun q => by rw [q, ha.none] at h; cases h
theorem upd_ne {a b : Addr} {o : AO} {x : Option AO} (hn : b ≠ a) (h : σ.f b = x) : (σ.upd a o).f b = x := by rw [AS.upd_f, if_neg hn]; exact h
theorem ins_ne {a b : Addr} {o : AO} {x : Option AO} (hn : b ≠ a) (h : σ.f b = x) : (σ.ins a o).f b = x := by rw [AS.ins_f, if_neg hn]; exact h
theorem ne_none {a b : Addr} {o : AO} (hb : σ.f b = some o) (ha : σ.f a = none) : b ≠ a := fun q => by rw [q, ha] at hb; cases hb
theorem ne_obj {a b : Addr} {o o' : AO} (hb : σ.f b = some o) (ha : σ.f a = some o') (h : o ≠ o') : b ≠ a := fun q => by rw [q, ha] at hb; cases hb; exact h rfl
theorem closA_skip {x : Str} {k : NameKind} {r : List (Str × NameKind)} {cs : List (Str × Addr)} (h : (k == .free) = false) : closA env ((x, k) :: r) cs = closA env r cs := by
  rw [closA, if_neg (by rw [h]; exact Bool.false_ne_true)]
theorem closA_free {x : Str} {c : Addr} {r : List (Str × NameKind)} {cs : List (Str × Addr)} (h : env.cells.lookup x = some c) : closA env ((x, .free) :: r) cs = closA env r ((x, c) :: cs) := by
  rw [closA, if_pos (by rfl), h]
theorem spec_list {target : Expr} {T : Sem Flow} {a : Addr} {vs : List AV} {Q : AF → Loc → AS → Prop} (J : Nat → Loc → AS → Prop) (hl : ∀ j l σ, J j l σ → σ.f a = some (.list vs)) (h0 : J 0 l σ)
    (step : ∀ j v l' σ', J j l' σ' → j < vs.length → vs[j]? = some v → VA K w n env target v (fun l2 σ2 => VY K w n env ef T (fun f l3 σ3 => match f with
        | .next => J (j + 1) l3 σ3
        | .cont => J (j + 1) l3 σ3
        | .brk => Q .next l3 σ3
        | .ret v => Q (.ret v) l3 σ3) l2 σ2) l' σ')
    (hend : ∀ l' σ', J vs.length l' σ' → Q .next l' σ') : LoopSpec K w n env target T (listNxt a) (fun σ => ∃ vs, σ.f a = some (.list vs)) Q l σ := by
  refine ⟨fun j l σ => J j l σ ∧ j ≤ vs.length, vs.length, ⟨h0, Nat.zero_le _⟩, fun j l' σ' hJ => ?_⟩
  obtain ⟨hJ, hj⟩ := hJ
  have e := hl _ _ _ hJ
  refine ⟨⟨_, e⟩, fun v hv => ?_, fun hv => ?_⟩
  · have hv' : vs[j]? = some v := by simpa only [listNxt, e] using hv
    have hjl : j < vs.length := by
      rcases Nat.lt_or_ge j vs.length with q | q
      · exact q
      · rw [List.getElem?_eq_none q] at hv'; cases hv'
    refine ⟨hjl, fun v₀ hv₀ A B s hr X he R k E hk => step j v l' σ' hJ hjl hv' v₀ hv₀ A B s hr X he R k E fun u l2 σ2 s2 q R2 => hk u l2 σ2 s2 (vy_mono q fun f l3 σ3 q3 => ?_) R2⟩
    cases f with
    | next => exact ⟨q3, hjl⟩
    | cont => exact ⟨q3, hjl⟩
    | brk => exact q3
    | ret v => exact q3
  · have hv' : vs[j]? = none := by simpa only [listNxt, e] using hv
    have := List.getElem?_eq_none_iff.mp hv'
    obtain rfl : j = vs.length := by omega
    exact hend _ _ hJ
theorem spec_range {target : Expr} {T : Sem Flow} {x y : Int} {Q : AF → Loc → AS → Prop} (J : Nat → Loc → AS → Prop) (h0 : J 0 l σ)
    (step : ∀ j l' σ', J j l' σ' → x + (j : Int) < y → VA K w n env target (.int (x + (j : Int))) (fun l2 σ2 => VY K w n env ef T (fun f l3 σ3 => match f with
        | .next => J (j + 1) l3 σ3
        | .cont => J (j + 1) l3 σ3
        | .brk => Q .next l3 σ3
        | .ret v => Q (.ret v) l3 σ3) l2 σ2) l' σ')
    (hend : ∀ l' σ', J (y - x).toNat l' σ' → Q .next l' σ') : LoopSpec K w n env target T (rngNxt x y) (fun _ => True) Q l σ := by
  refine ⟨fun j l σ => J j l σ ∧ j ≤ (y - x).toNat, (y - x).toNat, ⟨h0, Nat.zero_le _⟩, fun j l' σ' hJ => ?_⟩
  obtain ⟨hJ, hj⟩ := hJ
  refine ⟨trivial, fun v hv => ?_, fun hv => ?_⟩
  · simp only [rngNxt] at hv
    split at hv
    case isFalse => cases hv
    case isTrue hlt =>
      cases hv
      refine ⟨by omega, fun v₀ hv₀ A B s hr X he R k E hk => step j l' σ' hJ hlt v₀ hv₀ A B s hr X he R k E fun u l2 σ2 s2 q R2 => hk u l2 σ2 s2 (vy_mono q fun f l3 σ3 q3 => ?_) R2⟩
      cases f with
      | next => exact ⟨q3, by omega⟩
      | cont => exact ⟨q3, by omega⟩
      | brk => exact q3
      | ret v => exact q3
  · simp only [rngNxt] at hv
    split at hv
    case isTrue => cases hv
    case isFalse hlt =>
      obtain rfl : j = (y - x).toNat := by omega
      exact hend _ _ hJ
theorem spec_dict {target : Expr} {T : Sem Flow} {a : Addr} {kvs : List (Int × AV)} {ep : Nat} {N : Nat} {Q : AF → Loc → AS → Prop} (hN : kvs.length = N) (J : Nat → Loc → AS → Prop) (hl : ∀ j l σ, J j l σ → σ.f a = some (.idict kvs ep)) (h0 : J 0 l σ)
    (step : ∀ j p l' σ', J j l' σ' → j < kvs.length → kvs[j]? = some p → VA K w n env target (.int p.1) (fun l2 σ2 => VY K w n env ef T (fun f l3 σ3 => match f with
        | .next => J (j + 1) l3 σ3
        | .cont => J (j + 1) l3 σ3
        | .brk => Q .next l3 σ3
        | .ret v => Q (.ret v) l3 σ3) l2 σ2) l' σ')
    (hend : ∀ l' σ', J kvs.length l' σ' → Q .next l' σ') : LoopSpec K w n env target T (dictNxt a) (fun σ => ∃ kvs', σ.f a = some (.idict kvs' ep) ∧ kvs'.length = N) Q l σ := by
  refine ⟨fun j l σ => J j l σ ∧ j ≤ kvs.length, kvs.length, ⟨h0, Nat.zero_le _⟩, fun j l' σ' hJ => ?_⟩
  obtain ⟨hJ, hj⟩ := hJ
  have e := hl _ _ _ hJ
  refine ⟨⟨_, e, hN⟩, fun v hv => ?_, fun hv => ?_⟩
  · have hv' : (kvs[j]?).map (fun p => AV.int p.1) = some v := by simpa only [dictNxt, e] using hv
    obtain ⟨p, hp, rfl⟩ := Option.map_eq_some_iff.mp hv'
    have hjl : j < kvs.length := by
      rcases Nat.lt_or_ge j kvs.length with q | q
      · exact q
      · rw [List.getElem?_eq_none q] at hp; cases hp
    refine ⟨hjl, fun v₀ hv₀ A B s hr X he R k E hk => step j p l' σ' hJ hjl hp v₀ hv₀ A B s hr X he R k E fun u l2 σ2 s2 q R2 => hk u l2 σ2 s2 (vy_mono q fun f l3 σ3 q3 => ?_) R2⟩
    cases f with
    | next => exact ⟨q3, hjl⟩
    | cont => exact ⟨q3, hjl⟩
    | brk => exact q3
    | ret v => exact q3
  · have hv' : (kvs[j]?).map (fun p => AV.int p.1) = none := by simpa only [dictNxt, e] using hv
    have := List.getElem?_eq_none_iff.mp (Option.map_eq_none_iff.mp hv')
    obtain rfl : j = kvs.length := by omega
    exact hend _ _ hJ
theorem pushA_ext : ∀ (names : List (Str × NameKind)) {σ : AS} {a : Addr}, Fresh σ a → Ext σ (pushA σ a names)
  | [], σ, a, h => Ext.refl
  | (_, k) :: r, σ, a, h => by
    unfold pushA
    split
    · refine (Ext.ins h).trans (pushA_ext r ⟨fun b hb => ?_, ?_⟩)
      · rw [AS.ins_f, if_neg (Nat.ne_of_gt hb)]; exact h.1 b (Nat.le_of_succ_le hb)
      · rw [AS.ins_hi]; exact Nat.le_refl _
    · exact pushA_ext r h
theorem Fresh.succ {a : Addr} (h : Fresh σ a) : Fresh σ (a + 1) := ⟨fun b hb => h.1 b (Nat.le_of_succ_le hb), Nat.le_succ_of_le h.2⟩
theorem kd_ofC {scope : Scope} {L g : Addr} {cs : List (Str × Addr)} {q : Str} {f : Option Addr} {c : Value} {b : Addr} {x : Str} {k : NameKind} (h : env = newEnv scope L g cs q f c none b) (e : scope.names.lookup x = some k) : env.kindOf x = some k := by rw [h]; exact e
theorem cl_ofC {scope : Scope} {L g : Addr} {cs : List (Str × Addr)} {q : Str} {f : Option Addr} {c : Value} {b : Addr} {x : Str} {a : Addr} (h : env = newEnv scope L g cs q f c none b) (e : cs.lookup x = some a) : env.cells.lookup x = some a := by rw [h]; exact e
theorem cl_comp {scope : Scope} {cenv : Env} {C : Addr} {cs : List (Str × Addr)} {x : Str} {a : Addr} (he : cenv = compE scope env C cs) (e : (cellsFrom (C + 1) scope.names cs).lookup x = some a) : cenv.cells.lookup x = some a := by rw [he]; exact e
theorem bindA_local {x : Str} {v : AV} {r : List (Str × AV)} {Q : Loc → AS → Prop} (hk : env.kindOf x = some .local) (h : bindA env r Q (lset x v l) σ) : bindA env ((x, v) :: r) Q l σ := .inl ⟨hk, h⟩
theorem bindA_cell {x : Str} {v : AV} {r : List (Str × AV)} {Q : Loc → AS → Prop} {c : Addr} {o : Option AV} (hk : env.kindOf x = some .cell) (hc : env.cells.lookup x = some c) (hv : σ.f c = some (.cell o)) (h : bindA env r Q l (σ.upd c (.cell (some v)))) : bindA env ((x, v) :: r) Q l σ := .inr ⟨c, o, hk, hc, hv, h⟩
theorem bindA_nil {Q : Loc → AS → Prop} (h : Q l σ) : bindA env [] Q l σ := h
end
end Mine
end
section
open PySem PySem.W PySem.Calls PyProof.Rows
set_option maxRecDepth 100000
set_option linter.unusedVariables false
set_option linter.unusedSimpArgs false
namespace Mine
section
variable {w : World} {B : Bs} {σ : AS} {s : Shared} {K : Frag} {n : Nat} {env : Env} {l : Loc}
theorem sw_cell {x y : Str} {px py : Pos} {k k2 : Nat} {tp p2 : Pos} {vs : List Expr} (hx : env.kindOf x = some .cell) (hy : env.kindOf y = some .cell) : swappedStores [.Tuple [.Name x px, .Name y py] k tp] (.Tuple vs k2 p2) env = pure none := by
  unfold swappedStores
  simp only [bind_pure_comp]
  split
  · rfl
  · split
    · rfl
    · have e1 : (env.kindOf x == some NameKind.local) = false := by rw [hx]; rfl
      have e2 : (env.kindOf y == some NameKind.local) = false := by rw [hy]; rfl
      rw [if_pos]
      simp [List.filterMap, e1, e2]
theorem sw_gen {ts vs : List Expr} {k k2 : Nat} {tp p2 : Pos} {names : List Str} (h1 : (!(ts.length == 2 || ts.length == 3) || vs.length != ts.length || env.blockKind != .function) = false) (h2 : (vs.any fun | .Starred .. => true | _ => false) = false)
    (h3 : (ts.filterMap fun | .Name id pos => if env.kindOf id == some .local && pos.line == ((ts.head?.map (·.pos.line)).getD 0) then some id else none | _ => none) = names) (h4 : (names.length != ts.length || names.eraseDups.length != names.length) = false)
    (h6 : vs.all (foldedForSure 8) = false) (h7 : vs.all (constantsAlone 8) = false) : swappedStores [.Tuple ts k tp] (.Tuple vs k2 p2) env = pure (some names) := by
  subst h3
  unfold swappedStores
  simp only []
  refine (if_neg (fun q => Bool.false_ne_true (h1.symm.trans q))).trans ?_
  refine (if_neg (fun q => Bool.false_ne_true (h2.symm.trans q))).trans ?_
  refine (if_neg (fun q => Bool.false_ne_true (h4.symm.trans q))).trans ?_
  refine (if_neg (fun q => Bool.false_ne_true (h6.symm.trans q))).trans ?_
  refine (if_neg (fun q => Bool.false_ne_true (h7.symm.trans q))).trans ?_
  rfl
theorem blockKind_fn (he : EnvOK env) : env.blockKind = .function := by unfold Env.blockKind; rw [he.kind]; rfl
theorem sw_two {x y : Str} {px py : Pos} {k k2 : Nat} {tp p2 : Pos} {e1 e2 : Expr} (he : EnvOK env) (hx : env.kindOf x = some .local) (hy : env.kindOf y = some .local) (hxy : x ≠ y) (hp : py.line = px.line)
    (hs : ([e1, e2].any fun | .Starred .. => true | _ => false) = false) (hf : [e1, e2].all (foldedForSure 8) = false) (hc : [e1, e2].all (constantsAlone 8) = false) : swappedStores [.Tuple [.Name x px, .Name y py] k tp] (.Tuple [e1, e2] k2 p2) env = pure (some [x, y]) := by
  have f1 : (env.kindOf x == some NameKind.local) = true := by rw [hx]; rfl
  have f2 : (env.kindOf y == some NameKind.local) = true := by rw [hy]; rfl
  refine sw_gen (by rw [blockKind_fn he]; rfl) hs ?_ ?_ hf hc
  · simp [List.filterMap, f1, f2, hp, Expr.pos]
  · have : (x == y) = false := beq_eq_false_iff_ne.mpr hxy
    have h2 : (y == x) = false := beq_eq_false_iff_ne.mpr hxy.symm
    simp [List.eraseDups_cons, this, h2]
theorem sw_three {x y z : Str} {px py pz : Pos} {k k2 : Nat} {tp p2 : Pos} {e1 e2 e3 : Expr} (he : EnvOK env) (hx : env.kindOf x = some .local) (hy : env.kindOf y = some .local) (hz : env.kindOf z = some .local) (hxy : x ≠ y) (hxz : x ≠ z) (hyz : y ≠ z) (hp : py.line = px.line) (hp2 : pz.line = px.line)
    (hs : ([e1, e2, e3].any fun | .Starred .. => true | _ => false) = false) (hf : [e1, e2, e3].all (foldedForSure 8) = false) (hc : [e1, e2, e3].all (constantsAlone 8) = false) : swappedStores [.Tuple [.Name x px, .Name y py, .Name z pz] k tp] (.Tuple [e1, e2, e3] k2 p2) env = pure (some [x, y, z]) := by
  have f1 : (env.kindOf x == some NameKind.local) = true := by rw [hx]; rfl
  have f2 : (env.kindOf y == some NameKind.local) = true := by rw [hy]; rfl
  have f3 : (env.kindOf z == some NameKind.local) = true := by rw [hz]; rfl
  refine sw_gen (by rw [blockKind_fn he]; rfl) hs ?_ ?_ hf hc
  · simp [List.filterMap, f1, f2, f3, hp, hp2, Expr.pos]
  · simp [List.eraseDups_cons, hxy, hxz, hyz, Ne.symm hxy, Ne.symm hxz, Ne.symm hyz]
noncomputable def compScope? : Expr → Option Scope
  | .ListComp _ _ s _ => some s
  | .DictComp _ _ _ s _ => some s
  | _ => none
theorem swaps_local {value : Expr} {scope : Scope} {t : Str} {pos : Pos} {line : Nat} (he : EnvOK env) (hk : env.kindOf t = some .local)
    (hv : compScope? value = some scope) (hl : (pos.line == value.pos.line) = true) (hn : (scope.names.any fun (n, k) => n == t && (k == .local || k == .cell)) = false) :
    swapsWith value (some (.Name t pos)) line env = pure true := by
  have key : ∀ s : Scope, s = scope → (pure (env.blockKind == .function && env.kindOf t == some .local && pos.line == value.pos.line && !(s.names.any fun (n, k) => n == t && (k == .local || k == .cell))) : Sem Bool) = pure true := fun s e => by
    subst e
    rw [blockKind_fn he, hk, hl]
    refine congrArg pure ?_
    rw [hn]; rfl
  cases value <;> first | (cases hv; done) | exact key _ (Option.some.inj hv)
theorem swaps_cell {value : Expr} {t : Str} {pos : Pos} {line : Nat} (hk : env.kindOf t = some .cell) : swapsWith value (some (.Name t pos)) line env = pure false := by
  unfold swapsWith
  have : (env.kindOf t == some NameKind.local) = false := by rw [hk]; rfl
  split
  · simp [this]
  · rfl
theorem exec_Assign_plain {x : Str} {px : Pos} {value : Expr} {pos : Pos} (hs : swapsWith value (some (.Name x px)) pos.line env = pure false) : exec (.Assign [.Name x px] value pos) env = (do standAt pos; let v ← eval value env; assign (.Name x px) env v; pure .next) := by
  have e : exec (.Assign [.Name x px] value pos) env = (do
      standAt pos
      if ← swapsWith value (some (.Name x px)) pos.line env then do
        evalThenUse value env (assign (.Name x px) env)
        pure .next
      else do
        let v ← eval value env
        assign (.Name x px) env v
        pure .next) := rfl
  rw [e, hs]; rfl
theorem vs_assign_cell {x : Str} {px : Pos} {value : Expr} {pos : Pos} {Q : AF → Loc → AS → Prop} {c : Addr} (hk : env.kindOf x = some .cell) (hc : env.cells.lookup x = some c)
    (h : VE K w n env l value (fun v σ1 => ∃ o, σ1.f c = some (.cell o) ∧ Q .next l (σ1.upd c (.cell (some v)))) σ) : VS K w n env (.Assign [.Name x px] value pos) Q l σ :=
  vs_assign (vx_mono h fun v σ1 h1 => let ⟨o, h2, h3⟩ := h1; va_cell hc h2 h3 hk) (exec_Assign_plain (swaps_cell hk))
theorem eo_ofC {scope : Scope} {L g : Addr} {cs : List (Str × Addr)} {q : Str} {f : Option Addr} {c : Value} {b : Addr} (h : env = newEnv scope L g cs q f c none b) (hk : scope.kind = .function := by rfl) (hg : g = mainGlobals := by rfl) (hb : b = builtinsNs := by rfl) : EnvOK env := by
  subst h; exact ⟨hk, hg, hb⟩
end
end Mine
end
section
open PySem PySem.W PySem.Calls PyProof.Rows
set_option maxRecDepth 100000
set_option linter.unusedVariables false
set_option linter.unusedSimpArgs false
namespace Mine
section
variable {w : World} {B : Bs} {σ : AS} {s : Shared} {K : Frag} {n : Nat} {env : Env} {l : Loc}
structure PlainCls (K : Frag) (C : Addr) : Prop where
  cd : (clsIn K C).any (·.hasDict) = true
  ga : findIn K (.ref C) "__getattribute__" = some (some (.builtin "object.__getattribute__"))
  gt : findIn K (.ref C) "__getattr__" = some none
  sa : findIn K (.ref C) "__setattr__" = some (some (.builtin "object.__setattr__"))
  po : plainOver K C = true
theorem strOf_isStr (x : Str) (v : Value) : Value.isStrOf x v = v.isStr x := by cases v <;> rfl
theorem nsFind_findBy {es : Array DictEntry} {x : Str} : nsFind es x = findBy (PySem.strKind prog w).is es x := by
  unfold nsFind findBy
  congr 2
  funext e
  exact (strOf_isStr x e.key).symm
theorem NsO.look {m : List (Str × AV)} {o : Obj} (h : NsO w m o) (x : Str) : ∃ r, lookIn x o = some r ∧ r.map er = lk m x := by
  obtain ⟨es, ep, sl, rfl, hk, hz, hf⟩ := h
  have e := hf x
  unfold nsFind findBy at e
  rw [← Array.find?_toList] at e
  unfold lookIn
  dsimp only
  cases q : es.toList.find? (·.key.isStr x) with
  | some en => rw [q] at e; exact ⟨_, rfl, e⟩
  | none =>
    rw [q] at e
    have hr : es.toList.any (·.refKey) = false := by
      rw [List.any_eq_false]
      intro en hen hrk
      obtain ⟨k, h1, _⟩ := hk en (Array.mem_toList_iff.mp hen)
      obtain ⟨t, h2⟩ := Value.isStrOf_shape h1
      unfold DictEntry.refKey at hrk
      rw [h2] at hrk
      cases hrk
    dsimp only
    rw [hr]
    exact ⟨none, rfl, e⟩
theorem NsO.put {m : List (Str × AV)} {o : Obj} (h : NsO w m o) (x : Str) (t : Tok) (v : Value) : NsO w (lset x (er v) m) (Obj.putName x (hashStr w x) (.str x t) v o) := by
  obtain ⟨es, ep, sl, rfl, hk, hz, hf⟩ := h
  rw [Obj.putName_eq]
  have len_new : ∀ m : List (Str × AV), lk m x = none → (lset x (er v) m).length = m.length + 1 := by
    intro m
    induction m with
    | nil => intro _; rfl
    | cons p r ih =>
      obtain ⟨k, u⟩ := p
      intro hm
      unfold lk at hm
      unfold lset
      split at hm
      · cases hm
      · rename_i hq; rw [if_neg hq, List.length_cons, ih hm, List.length_cons]
  have len_old : ∀ m : List (Str × AV), ∀ y, lk m x = some y → (lset x (er v) m).length = m.length := by
    intro m
    induction m with
    | nil => intro y hm; cases hm
    | cons p r ih =>
      obtain ⟨k, u⟩ := p
      intro y hm
      unfold lk at hm
      unfold lset
      split at hm
      · rename_i hq; rw [if_pos hq]; rfl
      · rename_i hq; rw [if_neg hq, List.length_cons, ih y hm, List.length_cons]
  have hfi := findBy_of_findIdx? (fun n v => Value.isStr v n) es x
  unfold Obj.putNameByArray
  dsimp only
  cases q : es.findIdx? (·.key.isStr x) with
  | some i =>
    rw [q] at hfi
    dsimp only at hfi ⊢
    have hi : i < es.size := (Array.findIdx?_eq_some_iff_getElem.mp q).1
    have hsome : lk m x = some (er es[i].val) := by
      rw [← hf x]; unfold nsFind; rw [hfi]; simp [hi]
    refine ⟨_, _, _, rfl, KeysOf.modify hk i v, by rw [Array.size_modify, hz, len_old m _ hsome], fun y => ?_⟩
    unfold nsFind
    rw [findBy_modify (fun n v => Value.isStr v n) (fun v a b h1 h2 => (PySem.strKind prog w).inj v a b (by show Value.isStrOf a v = true; rw [strOf_isStr]; exact h1) (by show Value.isStrOf b v = true; rw [strOf_isStr]; exact h2)) es x y v i q, lk_lset]
    by_cases hy : y = x
    · subst hy; simp
    · rw [if_neg hy, if_neg (fun z => hy z.symm)]; exact hf y
  | none =>
    rw [q] at hfi
    dsimp only at hfi ⊢
    have hnone : lk m x = none := by rw [← hf x]; unfold nsFind; rw [hfi]; rfl
    refine ⟨_, _, _, rfl, KeysOf.push (knd := PySem.strKind prog w) (k := x) hk (by simp [PySem.strKind, Value.isStrOf]) v, by rw [Array.size_push, hz, len_new m hnone], fun y => ?_⟩
    unfold nsFind
    rw [findBy_push (fun n v => Value.isStr v n) es x y _ _ v (fun z => by show (x == z) = _; rw [Bool.eq_iff_iff]; simp; exact eq_comm) q, lk_lset]
    by_cases hy : y = x
    · subst hy; simp
    · rw [if_neg hy, if_neg (fun z => hy z.symm)]; exact hf y
theorem lset_length (x : Str) (v : AV) : ∀ m : List (Str × AV), (lset x v m).length ≤ m.length + 1
  | [] => Nat.le_refl _
  | (k, u) :: r => by
    unfold lset
    have := lset_length x v r
    split <;> simp only [List.length_cons] <;> omega
theorem NsO.small {m : List (Str × AV)} {o : Obj} (h : NsO w m o) : ∃ es ep, o.data = .dict es ep ∧ es.size = m.length := let ⟨es, ep, sl, e, _, hz, _⟩ := h; ⟨es, ep, by rw [e], hz⟩
theorem RepB.inst (R : RepB w B σ s) {x C d : Addr} {m : List (Str × AV)} (hx : σ.f x = some (.inst C d)) (hd : σ.f d = some (.ns m)) : ∃ od, InstAt s.heap x (instObj C d) C (some od) ∧ s.heap.get? d = some od ∧ NsO w m od := by
  obtain ⟨ox, h1, h2⟩ := R.objs x _ hx
  obtain ⟨od, h3, h4⟩ := R.objs d _ hd
  rw [show ox = instObj C d from h2] at h1
  exact ⟨od, ⟨h1, rfl, rfl, h3⟩, h3, h4⟩
noncomputable def AV.handed : AV → Bool
  | .oth _ => false
  | _ => true
theorem handed_of {v : Value} (h : (er v).handed = true) : handedIn v = true := by cases v <;> first | rfl | cases h
theorem vg_own {x C d : Addr} {m : List (Str × AV)} {name : Str} {v : AV} {Q : AV → AS → Prop} (P : PlainCls K C) (hx : σ.f x = some (.inst C d)) (hd : σ.f d = some (.ns m)) (hv : lk m name = some v) (hn : findIn K (.ref C) name = some none) (hh : v.handed = true) (h : Q v σ) :
    VG K w n (.ref x) name Q σ := fun v' hv' A B s hr X R k E hk => by
  rw [er_ref hv']
  obtain ⟨od, I, h1, h2⟩ := R.inst hx hd
  obtain ⟨r, h3, h4⟩ := h2.look name
  rw [hv] at h4
  obtain ⟨y, rfl, rfl⟩ := Option.map_eq_some_iff.mp h4
  obtain ⟨cd, c1, c2⟩ := any_some P.cd
  refine get_value (X.In R) I P.ga (v := y) ?_ (handed_of hh) (hk _ _ _ h R.toks)
  unfold findObj W.ownOf
  rw [c1, Option.bind_some, hn]
  simp only [Option.bind_some]
  rw [if_pos c2]
  try dsimp only
  rw [h3]; rfl
theorem vg_own_over {x C d : Addr} {m : List (Str × AV)} {name : Str} {v : AV} {a g : Value} {Q : AV → AS → Prop} (P : PlainCls K C) (hx : σ.f x = some (.inst C d)) (hd : σ.f d = some (.ns m)) (hv : lk m name = some v) (hn : findIn K (.ref C) name = some (some a)) (hg : specialIn K a "__get__" = some (some g)) (ht : takesIn K a = some false)
    (hh : v.handed = true) (h : Q v σ) : VG K w n (.ref x) name Q σ := fun v' hv' A B s hr X R k E hk => by
  rw [er_ref hv']
  obtain ⟨od, I, h1, h2⟩ := R.inst hx hd
  obtain ⟨r, h3, h4⟩ := h2.look name
  rw [hv] at h4
  obtain ⟨y, rfl, rfl⟩ := Option.map_eq_some_iff.mp h4
  obtain ⟨cd, c1, c2⟩ := any_some P.cd
  refine get_value (X.In R) I P.ga (v := y) ?_ (handed_of hh) (hk _ _ _ h R.toks)
  unfold findObj W.ownOf
  rw [c1, Option.bind_some, hn]
  simp only [Option.bind_some, hg, ht]
  rw [if_pos c2]
  try dsimp only
  rw [h3]; rfl
theorem vg_bind {x C d : Addr} {m : List (Str × AV)} {name : Str} {a : Value} {g : Addr} {Q : AV → AS → Prop} (P : PlainCls K C) (hx : σ.f x = some (.inst C d)) (hd : σ.f d = some (.ns m)) (hv : lk m name = none) (hn : findIn K (.ref C) name = some (some a)) (hg : specialIn K a "__get__" = some (some (.ref g))) (ht : takesIn K a = some false)
    (hc : copiedNames.contains name = false) (h : VC K w n (.ref g) [er a, .ref x, .ref C] (fun v σ' => v.handed = true ∧ Q v σ') σ) : VG K w (n + 1) (.ref x) name Q σ := fun v' hv' A B s hr X R k E hk => by
  rw [er_ref hv']
  obtain ⟨od, I, h1, h2⟩ := R.inst hx hd
  obtain ⟨r, h3, h4⟩ := h2.look name
  rw [hv] at h4
  obtain rfl : r = none := by cases r with | none => rfl | some _ => cases h4
  obtain ⟨cd, c1, c2⟩ := any_some P.cd
  refine get_bind (g := .ref g) (a := a) (X.In R) I P.ga ?_ P.gt ?_
  · unfold findObj W.ownOf
    rw [c1, Option.bind_some, hn]
    simp only [Option.bind_some, hg, ht]
    rw [if_pos c2]
    try dsimp only
    rw [h3]
    simp only [Option.bind_some, hc, Bool.false_and, Bool.false_eq_true, if_false]
  · refine h A.in1 B _ [a, .ref x, .ref C] hr.in1 X R.toks rfl _ _ fun v σ' s' hq R' => ?_
    rw [handedOut_of (handed_of hq.1)]
    exact wpAny_pure (hk _ _ _ hq.2 R')
theorem vm_fn {x C d : Addr} {m : List (Str × AV)} {name : Str} {f : Addr} {Q : Value × List Value → AS → Prop} (P : PlainCls K C) (hx : σ.f x = some (.inst C d)) (hd : σ.f d = some (.ns m)) (hv : lk m name = none) (hf : findIn K (.ref C) name = some (some (.ref f))) (ht : typeIn K (.ref f) = some (.type "function")) (h : Q (.ref f, [.ref x]) σ) :
    VM K w n (.ref x) name Q σ := fun v' pl hv' A B s hr X R k E hk => by
  rw [er_ref hv']
  obtain ⟨od, I, h1, h2⟩ := R.inst hx hd
  obtain ⟨r, h3, h4⟩ := h2.look name
  rw [hv] at h4
  obtain rfl : r = none := by cases r with | none => rfl | some _ => cases h4
  exact method_fn (X.In R) I P.ga P.gt hf ht (by unfold shadowIn; dsimp only; rw [h3]; rfl) (hk _ _ _ h R)
theorem vm_attr {x C d : Addr} {m : List (Str × AV)} {name : Str} {r : Option Value} {Q : Value × List Value → AS → Prop} (P : PlainCls K C) (hx : σ.f x = some (.inst C d)) (hd : σ.f d = some (.ns m)) (hf : findIn K (.ref C) name = some r)
    (ht : r.all (fun a => (typeIn K a).any fun t => t != .type "function" && t != .type "method_descriptor" && t != .type "wrapper_descriptor") = true) (h : ∀ v' : Value, er v' = .ref x → VH K w n er (getAttr v' name) (fun v σ' => ∃ a, v = .ref a ∧ Q (.ref a, []) σ') σ) :
    VM K w n (.ref x) name Q σ := fun v' pl hv' A B s hr X R k E hk => by
  have hv2 := hv'
  rw [er_ref hv']
  obtain ⟨od, I, h1, h2⟩ := R.inst hx hd
  refine method_usual (X.In R) I P.ga P.gt hf ht (h (.ref x) rfl A B s hr X R _ _ fun v σ' s' hq R' => ?_)
  obtain ⟨a, ea, hq⟩ := hq
  rw [er_ref ea]
  exact hk _ _ _ hq R'
theorem va_attr {o : Expr} {name : Str} {pos : Pos} {v : AV} {Q : Loc → AS → Prop}
    (h : VE K w n env l o (fun ov σ1 => ∃ x C d m, ov = .ref x ∧ σ1.f x = some (.inst C d) ∧ σ1.f d = some (.ns m) ∧ m.length ≤ 60 ∧ PlainCls K C ∧ takerIn K C name = some none ∧ Q l (σ1.upd d (.ns (lset name v m)))) σ) :
    VA K w n env (.Attribute o name pos) v Q l σ := fun v₀ hv A B s hr X he R k E hk => by
  subst hv
  show wpAny _ A (do
    let ov ← holding [v₀] (eval o env)
    standAt pos.atName
    holding [v₀, ov] (setAttr ov name v₀)
    release [v₀, ov] []) k E s
  refine wpAny_bind (wpAny_holding (h A B s hr X he R _ _ fun ov σ1 s1 h1 R1 => wpAny_bind (wpAny_standAt (wpAny_bind (wpAny_holding ?_)))))
  obtain ⟨x, C, d, m, ex, hx, hd, hm, P, ht, hq⟩ := h1
  rw [er_ref ex]
  obtain ⟨od, I, g1, g2⟩ := R1.rep.inst hx hd
  refine set_plain (X.In R1.rep) I P.sa ?_
  obtain ⟨cd, c1, c2⟩ := any_some P.cd
  have KI := X.In R1.rep
  refine osa_open (s := { s1 with toks := s1.toks + 1 }) KI I P.po ht fun b => ?_
  obtain ⟨hx', hcl, hn, -⟩ := I
  refine wpAny_bind (wpAny_pure (wpAny_bind (wpAny_bind (wpAny_loadPart hx' (wpAny_bind (looks_clsIn (M := model prog w) KI c1 _ _ _ _ (fun _ _ e => e) ?_))))))
  rw [c2]
  refine wpAny_pure (a := some d) (wpAny_bind (wpAny_pure (wpAny_bind ?_)))
  unfold nsSet
  refine wpAny_bind (wpAny_bind (wpAny_askSetting (wpAny_pure (wpAny_bind (wpAny_mkText (wpAny_bind (wpAny_loadPart g1 ?_)))))))
  obtain ⟨r, l1, l2⟩ := g2.look name
  obtain ⟨es, ep, q, hz⟩ := g2.small
  have hput : NsO w (lset name (er v₀) m) (Obj.putName name (PyData.keyHash w.params name) (.str name (s1.toks + 1)) v₀ od) := g2.put (w := w) name (s1.toks + 1) v₀
  obtain ⟨es2, ep2, q2, hz2⟩ := hput.small
  have hl2 := lset_length name (er v₀) m
  unfold lookIn at l1
  rw [q] at l1 ⊢
  dsimp only at l1 ⊢
  have c : (!es.any (·.key.isStr name) && es.any (·.refKey)) = false := by
    rw [← Array.any_toList, ← Array.any_toList]
    split at l1
    · rename_i en he'
      rw [List.any_eq_true.mpr ⟨en, List.mem_of_find?_eq_some he', List.find?_some he'⟩]; rfl
    · split at l1
      · cases l1
      · rename_i z; rw [Bool.not_eq_true] at z; rw [z, Bool.and_false]
  rw [aRefKeyMayBeTheName_at, c]
  refine wpAny_updatePart g1 ?_
  have D' : (s1.heap.update d (Obj.putName name (PyData.keyHash w.params name) (.str name (s1.toks + 1)) v₀)).get? d = some (Obj.putName name (PyData.keyHash w.params name) (.str name (s1.toks + 1)) v₀ od) := Heap.get?_update_self _ g1 (Obj.isFreed_of_dict q2)
  refine wpAny_bind (wpAny_lookBehind D' (by rw [q2]; exact pastItsLine_dict (by rw [sizeLine_eq]; omega)) ?_)
  refine wpAny_pure (wpAny_release ?_)
  exact hk _ _ _ _ hq (R1.upd hd (Heap.SameBut.update ..) D' hput)
end
end Mine
end
section
open PySem PySem.W PySem.Calls PyProof.Rows
set_option maxRecDepth 100000
set_option linter.unusedVariables false
set_option linter.unusedSimpArgs false
namespace Mine
section
variable {w : World} {B : Bs} {σ : AS} {s : Shared} {K : Frag} {n : Nat} {env : Env} {l : Loc}
theorem inst0_of {C : Addr} (w : World) : RepO w (.ns []) emptyDict := ⟨#[], 0, #[], rfl, (by intro e he; simp at he), rfl, fun x => rfl⟩
noncomputable def VCode (K : Frag) (w : World) (n : Nat) (f : Value) (args : List AV) (kw : List (Str × AV)) (Q : AV → AS → Prop) (σ : AS) : Prop :=
  ∀ (A : Around) (B : Bs) (s : Shared) (vs : List Value) (kvs : List (Str × Value)), Room n A → Base K B → RepB w B σ s → vs.map er = args → kvs.map (fun p => (p.1, er p.2)) = kw → ∀ (k : Value → Shared → Prop) (E : Value → Shared → Prop),
    (∀ v σ' s', Q (er v) σ' → RepB w B σ' s' → k v s') → codeAny (model prog w) A (.call f ⟨vs, kvs⟩) (fun r s' => match r with | .ok (.ret v) => k v s' | .ok _ => False | .error e => E e s') s
theorem vc_of_code {f : Value} {args : List AV} {Q : AV → AS → Prop} (h : VCode K w n f args [] Q σ) : VC K w n f args Q σ := fun A B s vs hr X R ha k E hq => wpAny_call (h A B s vs [] hr X R ha rfl k E hq)
theorem vcode_mono {f : Value} {args : List AV} {kw : List (Str × AV)} {Q Q' : AV → AS → Prop} (h : VCode K w n f args kw Q σ) (hq : ∀ v σ', Q v σ' → Q' v σ') : VCode K w n f args kw Q' σ :=
  fun A B s vs kvs hr X R ha hkw k E hk => h A B s vs kvs hr X R ha hkw k E fun v σ' s' q r => hk v σ' s' (hq _ _ q) r
theorem vcode_defC {f : Addr} {fd : FuncData} {oc : Value} {od : Option Addr} {osl : Array (Option Value)} {body : List Stmt} {args : List AV} {kw : List (Str × AV)} {Q : AV → AS → Prop}
    (ho : K.lookup f = some ⟨oc, od, .func fd, osl⟩) (hbody : fd.body = .stmts body) (hcd : codeIn K fd.code fd.qualname = true)
    (hb : VBi K w n fd args kw (fun bs σ1 => ∀ L env, Fresh σ1 L → env = newEnv fd.scope L fd.globals (cellsFrom (L + 1) fd.scope.names fd.closure) (fd.qualname ++ ".<locals>.") (some f) fd.code none fd.builtins →
      bindA env bs (fun l1 σ2 => VB K w n env body (fun fl l' σ' => Q (match fl with | .ret v => v | _ => .none) σ') l1 σ2) [] (pushA σ1 (L + 1) fd.scope.names)) σ)
    (hco : fd.scope.isCoroutine = false := by rfl) (hgen : fd.scope.isGenerator = false := by rfl) (hk : fd.scope.kind = .function := by rfl)
    (hg : fd.globals = mainGlobals := by rfl) (hbl : fd.builtins = builtinsNs := by rfl) : VCode K w (n + 1) (.ref f) args kw Q σ :=
  fun A B s vs kvs hr X R ha hkw k E hq => code_def_ruleC ho hbody hcd hb hco hgen hk hg hbl hr X R ha hkw hq
theorem vcode_make {C f : Addr} {args : List AV} {kw : List (Str × AV)} {Q : AV → AS → Prop} (hm : makesIn K C = true) (hi : findIn K (.ref C) "__init__" = some (some (.ref f))) (hf : typeIn K (.ref f) = some (.type "function"))
    (h : ∀ d x, Fresh σ d → Fresh (σ.ins d (.ns [])) x → VCode K w n (.ref f) (.ref x :: args) kw (fun v σ' => v = .none ∧ Q (.ref x) σ') ((σ.ins d (.ns [])).ins x (.inst C d))) : VCode K w (n + 1) (.ref C) args kw Q σ := fun A B s vs kvs hr X R ha hkw k E hk => by
  obtain ⟨hh, g, d, t, os⟩ := s
  have KI := X.In R
  refine make_core (makes_of (M := model prog w) KI hm) (looks_findIn KI hi) (fun self => bind_fn KI self hf) (.inl rfl) ?_
  have R1 := R.new (tk := t) (inst0_of (C := C) w)
  have R2 := R1.new (tk := t) (ob := instObj C hh.objs.size) (o' := .inst C hh.objs.size) rfl
  have F1 : Fresh σ hh.objs.size := R.isFresh (Nat.le_refl _)
  have F2 := R1.isFresh (Nat.le_refl _)
  have sz : (hh.push emptyDict).objs.size = hh.objs.size + 1 := Heap.size_push ..
  simp only [sz] at R2 F2
  have hr' : Room n (A.under (.builtin "type.__call__" ⟨.ref C :: vs, kvs⟩)) := by
    refine ⟨hr.1, ?_, ?_⟩
    · have h1 := hr.2.1
      show A.depth + Code.weight _ + 4 * n < 900
      have : Code.weight (.builtin "type.__call__" ⟨.ref C :: vs, kvs⟩) = 1 := rfl
      omega
    · have h1 := hr.2.2
      show A.units + Code.cUnits _ + 40 * n < 9000
      have : Code.cUnits (.builtin "type.__call__" ⟨.ref C :: vs, kvs⟩) = 1 := rfl
      omega
  refine codeAny_mono (h _ _ F1 F2 _ B _ (.ref (hh.objs.size + 1) :: vs) kvs hr' X R2 (by rw [List.map_cons, ha]; rfl) hkw (fun v s' => v = .none ∧ k (.ref (hh.objs.size + 1)) s') E fun v σ' s' hq R' => ⟨er_none hq.1, hk _ _ _ hq.2 R'⟩) fun r s' hr' => ?_
  rcases r with e | (v | _ | _ | _) <;> exact hr'
theorem vg_kept {x C dx : Addr} {od : Obj} {name : Str} {v : Value} {Q : AV → AS → Prop} (hx : K.lookup x = some (instObj C dx)) (hd : K.lookup dx = some od) (hga : findIn K (.ref C) "__getattribute__" = some (some (.builtin "object.__getattribute__")))
    (hf : findObj K C (some od) name = some (.value v)) (hh : handedIn v = true) (h : Q (er v) σ) : VG K w n (.ref x) name Q σ := fun v' hv' A B s hr X R k E hk => by
  rw [er_ref hv']
  exact get_value (X.In R) ⟨X.In R _ _ hx, rfl, rfl, X.In R _ _ hd⟩ hga hf hh (hk _ _ _ h R.toks)
theorem vc_len_own {x C d f : Addr} {m : List (Str × AV)} {Q : AV → AS → Prop} (hx : σ.f x = some (.inst C d)) (hd : σ.f d = some (.ns m)) (hs : findIn K (.ref C) "__len__" = some (some (.ref f))) (hf : typeIn K (.ref f) = some (.type "function"))
    (h : VC K w n (.ref f) [.ref x] (fun v σ' => ∃ i : Int, v = .int i ∧ 0 ≤ i ∧ i < 2 ^ 62 ∧ Q (.int i) σ') σ) : VC K w (n + 1) (.builtin "len") [.ref x] Q σ := fun A B s vs hr X R ha k E hk => by
  obtain ⟨v, rfl, hv⟩ := one_of ha
  rw [er_ref hv]
  obtain ⟨od, I, h1, h2⟩ := R.inst hx hd
  refine Calls.call_function_entry kind_len plain_len entry_len (args_len1 _) ?_
  unfold Builtin.«len»
  refine wpAny_bind (m := oneArg "len" _) (wpAny_pure ?_)
  refine wpAny_bind (m := callSpecial? (.ref x) (Str.ofString "__len__")) (special_fn (X.In R) I hs hf (h A.in1 B s [.ref x] hr.in1 X R rfl _ _ fun r σ' s' hq R' => ?_))
  obtain ⟨i, ei, h0, h1', hq⟩ := hq
  obtain ⟨u, rfl⟩ := er_int ei
  refine wpAny_bind (wpAny_holding (wpAny_pure ?_))
  refine wpAny_bind (wpAny_letGo ?_)
  show wpAny _ _ (if i < 0 then _ else _) _ _ _
  rw [if_neg (by omega)]
  show wpAny _ _ (if i ≥ 2 ^ 63 then _ else _) _ _ _
  rw [if_neg (by omega)]
  exact wpAny_bind (wpAny_mkInt (wpAny_pure ⟨_, rfl, hk _ _ _ hq R'.toks⟩))
noncomputable def AS.del (σ : AS) (a : Addr) : AS := ⟨fun x => if x = a then none else σ.f x, σ.hi⟩
theorem AS.del_f (σ : AS) (a x : Addr) : (σ.del a).f x = if x = a then none else σ.f x := rfl
theorem del_ne {a b : Addr} {x : Option AO} (hn : b ≠ a) (h : σ.f b = x) : (σ.del a).f b = x := by rw [AS.del_f, if_neg hn]; exact h
theorem Ext.del {σ' : AS} {a : Addr} (h : Ext σ σ') (ha : σ.f a = none) : Ext σ (σ'.del a) := fun b o e => by
  rw [AS.del_f, if_neg]
  · exact h b o e
  · intro q; rw [q, ha] at e; cases e
theorem RepB.lift (R : RepB w B σ s) {a : Addr} {ao : AO} (e : σ.f a = some ao) : ∃ o, s.heap.get? a = some o ∧ RepO w ao o ∧ RepB w (B.add a o) (σ.del a) s := by
  obtain ⟨ob, h1, h2⟩ := R.objs a _ e
  refine ⟨ob, h1, h2, fun b o e1 => ?_, fun b o e1 => ?_, fun b o e1 => ?_, fun b o e1 => ?_, R.hi, R.os, R.gens⟩
  · simp only [Bs.add] at e1
    split at e1
    · rename_i q; cases e1; rw [q]; exact h1
    · exact R.keep b o e1
  · rw [AS.del_f] at e1
    split at e1
    · cases e1
    · rename_i q
      simp only [Bs.add]
      rw [if_neg q]
      exact R.apart b o e1
  · rw [AS.del_f] at e1
    split at e1
    · cases e1
    · exact R.objs b o e1
  · rw [AS.del_f] at e1
    split at e1
    · cases e1
    · exact R.dom b o e1
theorem vc_iter_dict {d : Addr} {kvs : List (Int × AV)} {ep : Nat} {Q : AV → AS → Prop} (hl : σ.f d = some (.idict kvs ep)) (h : ∀ I, Fresh σ I → Q (.ref I) (σ.ins I (.kit d 0 kvs.length ep))) : VC K w n (.builtin "iter") [.ref d] Q σ := fun A B s vs hr X R ha k E hk => by
  obtain ⟨v, rfl, hv⟩ := one_of ha
  rw [er_ref hv]
  obtain ⟨kvs', h1, rfl⟩ := R.dict hl
  refine call_function_entry (by decide +kernel) (by decide +kernel) kdk_entry_iter (kdk_args_iter _) ?_
  unfold Builtin.«iter»
  refine wpAny_bind (m := someArgs "iter" 1 2 _) (wpAny_of_eq (a := [Value.ref d]) (by first | rfl | kernel_rfl!) ?_)
  show wpAny _ _ (pyIter (.ref d) >>= _) _ _ _
  refine wpAny_bind (wpAny_pyIter_dict (R.sys X hl) h1 ?_)
  refine wpAny_pure ⟨_, rfl, hk _ _ _ (h _ (R.isFresh (Nat.le_refl _))) (R.new (tk := s.toks) (o' := .kit d 0 (kvs'.map ern).length ep) ⟨rfl, by rw [List.length_map]; rfl⟩)⟩
theorem iter_own {x C d f : Addr} {m : List (Str × AV)} {A : Around} {k : Value → Shared → Prop} {E : Value → Shared → Prop} {Q : AV → AS → Prop} (hr : Room n A) (X : Base K B) (R : RepB w B σ s) (hx : σ.f x = some (.inst C d)) (hd : σ.f d = some (.ns m)) (hs : findIn K (.ref C) "__iter__" = some (some (.ref f))) (hf : typeIn K (.ref f) = some (.type "function"))
    (h : VC K w n (.ref f) [.ref x] Q σ) (hQ : ∀ v σ' s', Q (er v) σ' → RepB w B σ' s' → OwitIt (model prog w) A k E v s') : wpAny (model prog w) A (pyIter (.ref x)) k E s := by
  obtain ⟨od, I, h1, h2⟩ := R.inst hx hd
  have KI := X.In R
  have fin : wpAny (model prog w) A (call (.ref f) [.ref x] >>= fun v => pure (some v)) (fun r s' => ∃ v, r = some v ∧ OwitIt (model prog w) A k E v s') E s :=
    wpAny_bind (h A B s [.ref x] hr X R rfl _ _ fun v σ' s' hq R' => wpAny_pure ⟨v, rfl, hQ v σ' s' hq R'⟩)
  have one : ∀ refuse : Sem Value, wpAny (model prog w) A (callSpecialIfBoundUnlessNone? (.ref x) "__iter__" refuse) (fun r s' => ∃ v, r = some v ∧ OwitIt (model prog w) A k E v s') E s := by
    intro refuse
    have fin2 : wpAny (model prog w) A (if (Value.ref f == Value.none) = true then (refuse >>= fun v => pure (some v)) else (call (.ref f) [.ref x] >>= fun v => pure (some v))) (fun r s' => ∃ v, r = some v ∧ OwitIt (model prog w) A k E v s') E s := by
      rw [if_neg (show ¬ ((Value.ref f == Value.none) = true) from Bool.false_ne_true)]
      exact fin
    have bnd := (bind_fn (M := model prog w) KI (.ref x) hf)
    simp only [callSpecialIfBoundUnlessNone?, bindSpecialIfBound?]
    refine wpAny_holding (wpAny_bind (wpAny_bind (wpAny_bind (I.type.here ((looks_findIn KI hs).here (wpAny_bind (wpAny_askSetting (wpAny_ite ?_))))))))
    split
    · exact wpAny_bind (bnd.here (wpAny_pure (by exact fin2)))
    · exact wpAny_tryCatch (wpAny_bind (bnd.here (wpAny_pure (by exact fin2))))
  unfold pyIter
  refine wpAny_bind (wpAny_bind (I.type.here ((looks_findIn KI hs).here ?_)))
  show wpAny _ A (callSpecialIfBoundUnlessNone? (.ref x) "__iter__" _ >>= _) k E s
  refine wpAny_bind (wpAny_mono (one _) (fun r s' hr => ?_) fun _ _ z => z)
  obtain ⟨v, rfl, hv⟩ := hr
  refine wpAny_bind (wpAny_mono hv (fun r s₂ hr => ?_) fun _ _ z => z)
  cases r with
  | none => exact hr.elim
  | some g => exact wpAny_pure hr
theorem owit_raw {I d : Addr} {i N ep : Nat} {A : Around} {k : Value → Shared → Prop} {E : Value → Shared → Prop} (R : RepB w B σ s) (h : σ.f I = some (.kit d i N ep)) (hk : k (.ref I) s) : OwitIt (model prog w) A k E (.ref I) s := by
  obtain ⟨ob, h1, h2⟩ := R.objs I _ h
  exact wpAny_specialOf (name := Str.ofString "__next__") (T := "dict_keyiterator") ⟨_, h1, h2.1⟩ PySem.F.slot_dict_keyiterator_next.lookup hk
theorem vit_own {x C d f dd : Addr} {m : List (Str × AV)} {kvs : List (Int × AV)} {ep : Nat} {Q : (Nat → AS → Option AV) → (AS → Prop) → AS → Prop} (hx : σ.f x = some (.inst C d)) (hd : σ.f d = some (.ns m)) (hs : findIn K (.ref C) "__iter__" = some (some (.ref f))) (hf : typeIn K (.ref f) = some (.type "function"))
    (h : VC K w n (.ref f) [.ref x] (fun v σ' => ∃ I, v = .ref I ∧ σ'.f I = some (.kit dd 0 kvs.length ep) ∧ Q (dictNxt dd) (fun σ => ∃ kvs', σ.f dd = some (.idict kvs' ep) ∧ kvs'.length = kvs.length) (σ'.del I)) σ) : VIt K w n (.ref x) Q σ := fun x' A B s hxx hr X R k E hk => by
  rw [er_ref hxx]
  refine iter_own hr X R hx hd hs hf h fun v σ' s' hq R' => ?_
  obtain ⟨I, ev, hI, hq⟩ := hq
  rw [er_ref ev]
  obtain ⟨o, o1, o2, o3⟩ := R'.lift hI
  exact owit_raw R' hI (hk _ _ _ _ _ _ _ (it_dict (d := dd) (N := kvs.length) (ep := ep)) o2 (R'.apart I _ hI) o3 hq)
theorem vc_iter_own {x C d f : Addr} {m : List (Str × AV)} {Q : AV → AS → Prop} (hx : σ.f x = some (.inst C d)) (hd : σ.f d = some (.ns m)) (hs : findIn K (.ref C) "__iter__" = some (some (.ref f))) (hf : typeIn K (.ref f) = some (.type "function"))
    (h : VC K w n (.ref f) [.ref x] (fun v σ' => ∃ I dd i N ep, v = .ref I ∧ σ'.f I = some (.kit dd i N ep) ∧ Q (.ref I) σ') σ) : VC K w (n + 1) (.builtin "iter") [.ref x] Q σ := fun A B s vs hr X R ha k E hk => by
  obtain ⟨v, rfl, hv⟩ := one_of ha
  rw [er_ref hv]
  refine call_function_entry (by decide +kernel) (by decide +kernel) kdk_entry_iter (kdk_args_iter _) ?_
  unfold Builtin.«iter»
  refine wpAny_bind (m := someArgs "iter" 1 2 _) (wpAny_of_eq (a := [Value.ref x]) (by first | rfl | kernel_rfl!) ?_)
  show wpAny _ _ (pyIter (.ref x) >>= _) _ _ _
  refine wpAny_bind (iter_own hr.in1 X R hx hd hs hf h fun v σ' s' hq R' => ?_)
  obtain ⟨I, dd, i, N, ep, ev, hI, hq⟩ := hq
  rw [er_ref ev]
  exact owit_raw R' hI (wpAny_pure ⟨_, rfl, hk _ _ _ hq R'⟩)
theorem vc_next {I d : Addr} {i N ep : Nat} {kvs : List (Int × AV)} {p : Int × AV} {Q : AV → AS → Prop} (hI : σ.f I = some (.kit d i N ep)) (hl : σ.f d = some (.idict kvs ep)) (hN : kvs.length = N) (hp : kvs[i]? = some p) (h : Q (.int p.1) (σ.upd I (.kit d (i + 1) N ep))) :
    VC K w n (.builtin "next") [.ref I] Q σ := fun A B s vs hr X R ha k E hk => by
  obtain ⟨v, rfl, hv⟩ := one_of ha
  rw [er_ref hv]
  obtain ⟨ob, h1, h2⟩ := R.objs I _ hI
  obtain ⟨kvs', g1, rfl⟩ := R.dict hl
  rw [List.length_map] at hN
  rw [List.getElem?_map] at hp
  obtain ⟨⟨q1, q2⟩, h3, rfl⟩ := Option.map_eq_some_iff.mp hp
  have hit : s.heap.IsKeyIter I d i kvs'.length ep := ⟨_, h1, h2.1, by rw [hN]; exact h2.2⟩
  refine call_function_entry (by decide +kernel) (by decide +kernel) kdk_entry_next (kdk_args_next _) ?_
  unfold Builtin.«next»
  refine wpAny_bind (m := someArgs "next" 1 2 _) (wpAny_of_eq (a := [Value.ref I]) (by first | rfl | kernel_rfl!) ?_)
  dsimp only
  refine wpAny_bind (wpAny_specialOf (name := Str.ofString "__next__") hit.typeIs PySem.F.slot_dict_keyiterator_next.lookup ?_)
  refine wpAny_ite_split (fun hab => absurd hab (by decide)) (fun _ => ?_)
  refine wpAny_bind (kdk_special hit g1 h3 fun key h' hkey hit' hs => ?_)
  obtain ⟨o', ho', hc', hd'⟩ := hit'
  obtain ⟨t, rfl⟩ := Value.isInt_shape hkey
  exact wpAny_pure ⟨_, rfl, hk _ _ _ h (R.upd hI hs ho' ⟨hc', by rw [← hN]; exact hd'⟩)⟩
end
end Mine
end
section
open PySem PySem.W PySem.Calls PyProof.Rows
set_option maxRecDepth 100000
set_option linter.unusedVariables false
set_option linter.unusedSimpArgs false
namespace Mine
noncomputable def wpN {α : Type} (M : Model) (A : Around) (t : Sem α) (Q : α → Shared → Prop) (E : Value → Shared → Prop) (s : Shared) : Prop :=
  ∀ Γ p, Γ.In A → NF Γ → Sem.wp M Γ t (fun a _ s' => Q a s') (fun e _ s' => E e s') p s
noncomputable def codeN (M : Model) (A : Around) (c : Code) (R : Result → Shared → Prop) (s : Shared) : Prop :=
  ∀ Γ p, Γ.code = c → Γ.Below A → NF Γ → wpCode M Γ R p s
section
variable {α β : Type} {M : Model} {A : Around} {E : Value → Shared → Prop} {s : Shared}
theorem wpN_of {t : Sem α} {Q : α → Shared → Prop} (h : wpAny M A t Q E s) : wpN M A t Q E s := fun Γ p hΓ _ => h Γ p hΓ
theorem codeN_of {c : Code} {R : Result → Shared → Prop} (h : codeAny M A c R s) : codeN M A c R s := fun Γ p hc hΓ _ => h Γ p hc hΓ
theorem wpN_pure {a : α} {Q : α → Shared → Prop} (h : Q a s) : wpN M A (pure a) Q E s := fun _ _ _ _ => h
theorem wpN_mono {t : Sem α} {Q Q' : α → Shared → Prop} {E' : Value → Shared → Prop} (h : wpN M A t Q E s) (hQ : ∀ a s, Q a s → Q' a s) (hE : ∀ e s, E e s → E' e s) : wpN M A t Q' E' s :=
  fun Γ p hΓ hn => Sem.wp_mono M Γ t (fun a _ s => hQ a s) (fun e _ s => hE e s) p s (h Γ p hΓ hn)
theorem wpN_bind {m : Sem α} {f : α → Sem β} {Q : β → Shared → Prop} (h : wpN M A m (fun a s' => wpN M A (f a) Q E s') E s) : wpN M A (m >>= f) Q E s := fun Γ p hΓ hn => by
  rw [Sem.wp_bind']
  exact Sem.wp_mono M Γ m (fun a p' s' h' => h' Γ p' hΓ hn) (fun _ _ _ h' => h') p s (h Γ p hΓ hn)
theorem wpN_bindA {m : Sem α} {f : α → Sem β} {Q : β → Shared → Prop} (h : wpAny M A m (fun a s' => wpN M A (f a) Q E s') E s) : wpN M A (m >>= f) Q E s := wpN_bind (wpN_of h)
theorem wpN_holding {vs : List Value} {m : Sem α} {Q : α → Shared → Prop} (h : wpN M A m Q E s) : wpN M A (holding vs m) Q E s := fun Γ p hΓ hn => by rw [Sem.wp_holding]; exact h Γ p hΓ hn
theorem wpN_operating {vs : List Value} {m : Sem Value} {Q : Value → Shared → Prop} (h : wpN M A m Q E s) : wpN M A (operate vs m) Q E s := fun Γ p hΓ hn => by rw [Sem.wp_operate]; exact h Γ p hΓ hn
theorem wpN_keep {vs : List Value} {m : Sem α} {Q : α → Shared → Prop} (h : wpN M A m Q E s) : wpN M A (m.keep vs) Q E s := fun Γ p hΓ hn => by rw [Sem.wp_keep]; exact h Γ p hΓ hn
theorem wpN_onRaise {m : Sem α} {k : Value → Sem Unit} {Q : α → Shared → Prop} (h : wpN M A m Q (fun e s' => wpN M A (k e) (fun _ s'' => E e s'') E s') s) : wpN M A (m.onRaise k) Q E s := fun Γ p hΓ hn => by
  rw [Sem.wp_onRaise]
  exact Sem.wp_mono M Γ m (fun _ _ _ h' => h') (fun e p' s' h' => h' Γ p' hΓ hn) p s (h Γ p hΓ hn)
theorem wpN_attempt {m : Sem α} {Q : Except Value α → Shared → Prop} (h : wpN M A m (fun a => Q (.ok a)) (fun e => Q (.error e)) s) : wpN M A m.attempt Q E s := fun Γ p hΓ hn => by rw [Sem.wp_attempt]; exact h Γ p hΓ hn
theorem nf_enter {Γ : Ctx} {c : Code} {h : Option Value} {p : Pos} (hn : NF Γ) (hc : isFin c = false) : NF (Γ.enter c h p) := ⟨hc, nf_iff.mpr hn⟩
theorem wpN_runValue {c : Code} {Q : Value → Shared → Prop} (hf : isFin c = false) (hc : codeN M A c (fun r s' => match r with | .ok (.ret v) => Q v s' | .ok _ => False | .error e => E e s') s) : wpN M A (runValue c) Q E s := fun Γ p hΓ hn => by
  rw [Sem.wp_runValue]; exact hc _ p rfl (hΓ.enter c none p (by intro x; cases x)) (nf_enter hn hf)
theorem wpN_call {f : Value} {pos : List Value} {kw : List (Str × Value)} {Q : Value → Shared → Prop} (hc : codeN M A (.call f ⟨pos, kw⟩) (fun r s' => match r with | .ok (.ret v) => Q v s' | .ok _ => False | .error e => E e s') s) : wpN M A (call f pos kw) Q E s := wpN_runValue rfl hc
theorem codeN_of_tree {c : Code} {R : Result → Shared → Prop}
    (h : wpN M (A.under c) (M.den c) (fun fin s' => match fin with | .done f => R (.ok f) s' | .again c' => c'.quiet = true ∧ isFin c' = false ∧ codeN M A c' R s') (fun e s' => R (.error e) s') s) : codeN M A c R s := fun Γ p hc hΓ hn => by
  rw [wpCode_iff_wp, hc]
  refine Sem.wp_mono M Γ _ (fun fin p' s' h' => ?_) (fun _ _ _ h' => h') p s (h Γ p (hc ▸ hΓ.in) hn)
  cases fin with
  | done f => exact h'
  | again c' => exact ⟨h'.1, h'.2.2 (Γ.goto c') p' rfl (hΓ.goto c') ⟨h'.2.1, hn.2⟩⟩
theorem codeN_mono {c : Code} {R R' : Result → Shared → Prop} (h : codeN M A c R s) (hR : ∀ r s, R r s → R' r s) : codeN M A c R' s := fun Γ p hc hΓ hn => wpCode_mono hR (h Γ p hc hΓ hn)
end
section
variable {w : World} {A : Around} {E : Value → Shared → Prop} {s : Shared} {R : Result → Shared → Prop}
theorem codeN_builtin {id : String} {args : Args} {b : Builtin} (hb : entryFor table id = some b)
    (h : wpN (model prog w) (A.under (.builtin id args)) (b args) (fun fin s' => match fin with | .done f => R (.ok f) s' | .again c' => c'.quiet = true ∧ isFin c' = false ∧ codeN (model prog w) A c' R s') (fun e s' => R (.error e) s') s) :
    codeN (model prog w) A (.builtin id args) R s := by
  refine codeN_of_tree ?_
  show wpN _ _ (match entryFor table id with | some b => b args | none => unsupported ((withoutEnding? id "#data").getD id)) _ _ s
  rw [hb]; exact h
theorem codeN_func {body : List Stmt} {env : Env} (h : wpN (model prog w) (A.deeper env) (execs body env) (fun f s' => R (.ok (.ret (match f with | .ret v => v | _ => .none))) s')
      (fun e s' => wpN (model prog w) (A.deeper env) (leaving env e) (fun _ s'' => R (.error e) s'') (fun e' s'' => R (.error e') s'') s') s) : codeN (model prog w) A (.func body env) R s := by
  refine codeN_of_tree ?_
  show wpN _ (A.deeper env) (do point; match ← (execs body env).onRaise (leaving env) with | .ret v => ret v | _ => ret .none) _ _ s
  refine wpN_bindA (wpAny_point (wpN_bind (wpN_onRaise (wpN_mono h (fun f s' h' => ?_) fun _ _ h' => h'))))
  cases f <;> exact wpN_pure h'
theorem codeN_call_function {a : Addr} {args : Args} {o : Obj} {fd : FuncData} {body : List Stmt} (hroom : A.depth < recursionLimit) (ho : s.heap.get? a = some o)
    (hd' : o.data = .func fd) (hco : fd.scope.isCoroutine = false) (hgen : fd.scope.isGenerator = false) (hbody : fd.body = .stmts body) (hcd : s.heap.CodeRec fd.code fd.qualname)
    (h : wpAny (model prog w) A.in1 (bindArgs fd args) (fun binds s₁ => wpAny (model prog w) A.in1 (newFunctionEnv fd.scope fd.globals fd.closure binds (fd.qualname ++ ".<locals>.") (some a) fd.code none fd.builtins)
        (fun env s₂ => s₂.heap.NoLimit ∧ codeN (model prog w) A (.func body env) R s₂) (fun e s' => R (.error e) s') s₁) (fun e s' => R (.error e) s') s) :
    codeN (model prog w) A (.call (.ref a) args) R s := by
  refine codeN_of_tree ?_
  show wpN _ A.in1 (callAny (.ref a) args) _ _ s
  simp only [callAny]
  refine wpN_bindA (wpAny_load ho ?_)
  obtain ⟨c, oc, vs, tq, hc, hoc, hdc, hq⟩ := hcd
  simp only [hd', callFunction, hco, hgen, hbody, hc]
  rw [hc] at h
  refine wpN_bindA (m := field (.ref c) 1) (wpAny_field hoc hdc hq (wpN_bindA (wpAny_pure ?_)))
  refine wpN_bindA (wpAny_mono h (fun binds s₁ h₁ => wpN_bindA (wpAny_mono h₁ (fun env s₂ h₂ => ?_) fun _ _ h' => h')) fun _ _ h' => h')
  exact wpN_bindA (wpAny_enterFrame h₂.1 hroom (wpN_pure ⟨rfl, rfl, h₂.2⟩))
end
noncomputable def NX (K : Frag) (w : World) (n : Nat) (env : Env) (l : Loc) {α β : Type} (ab : α → β) (t : Sem α) (Q : β → AS → Prop) (σ : AS) : Prop :=
  ∀ (A : Around) (B : Bs) (s : Shared), Room n A → Base K B → EnvOK env → RepF w B env l σ s → ∀ (k : α → Shared → Prop) (E : Value → Shared → Prop),
    (∀ v σ' s', Q (ab v) σ' → RepF w B env l σ' s' → k v s') → wpN (model prog w) A t k E s
abbrev NE (K : Frag) (w : World) (n : Nat) (env : Env) (l : Loc) (e : Expr) (Q : AV → AS → Prop) (σ : AS) : Prop := NX K w n env l er (eval e env) Q σ
abbrev NL (K : Frag) (w : World) (n : Nat) (env : Env) (l : Loc) (pos : Pos) (es : List Expr) (Q : List AV → AS → Prop) (σ : AS) : Prop := NX K w n env l (List.map er) (spliced (backTo pos (starEach es env))) Q σ
abbrev NT (K : Frag) (w : World) (n : Nat) (env : Env) (l : Loc) (e : Expr) (Q : Bool → AS → Prop) (σ : AS) : Prop := NX K w n env l (id : Bool → Bool) (isTrue e env (eval e env)) Q σ
noncomputable def NY (K : Frag) (w : World) (n : Nat) (env : Env) {α β : Type} (ab : α → β) (t : Sem α) (Q : β → Loc → AS → Prop) (l : Loc) (σ : AS) : Prop :=
  ∀ (A : Around) (B : Bs) (s : Shared), Room n A → Base K B → EnvOK env → RepF w B env l σ s → ∀ (k : α → Shared → Prop) (E : Value → Shared → Prop),
    (∀ v l' σ' s', Q (ab v) l' σ' → RepF w B env l' σ' s' → k v s') → wpN (model prog w) A t k E s
abbrev NS (K : Frag) (w : World) (n : Nat) (env : Env) (st : Stmt) (Q : AF → Loc → AS → Prop) (l : Loc) (σ : AS) : Prop := NY K w n env ef (exec st env) Q l σ
abbrev NB (K : Frag) (w : World) (n : Nat) (env : Env) (st : List Stmt) (Q : AF → Loc → AS → Prop) (l : Loc) (σ : AS) : Prop := NY K w n env ef (execs st env) Q l σ
noncomputable def NH (K : Frag) (w : World) (n : Nat) {α β : Type} (ab : α → β) (t : Sem α) (Q : β → AS → Prop) (σ : AS) : Prop :=
  ∀ (A : Around) (B : Bs) (s : Shared), Room n A → Base K B → RepB w B σ s → ∀ (k : α → Shared → Prop) (E : Value → Shared → Prop),
    (∀ v σ' s', Q (ab v) σ' → RepB w B σ' s' → k v s') → wpN (model prog w) A t k E s
noncomputable def NC (K : Frag) (w : World) (n : Nat) (f : Value) (args : List AV) (Q : AV → AS → Prop) (σ : AS) : Prop :=
  ∀ (A : Around) (B : Bs) (s : Shared) (vs : List Value), Room n A → Base K B → RepB w B σ s → vs.map er = args → ∀ (k : Value → Shared → Prop) (E : Value → Shared → Prop),
    (∀ v σ' s', Q (er v) σ' → RepB w B σ' s' → k v s') → wpN (model prog w) A (call f vs) k E s
section
variable {w : World} {B : Bs} {σ : AS} {s : Shared} {K : Frag} {n : Nat} {env : Env} {l : Loc}
theorem nx_of {α β : Type} {ab : α → β} {t : Sem α} {Q : β → AS → Prop} (h : VX K w n env l ab t Q σ) : NX K w n env l ab t Q σ := fun A B s hr X he R k E hk => wpN_of (h A B s hr X he R k E hk)
theorem ny_of {α β : Type} {ab : α → β} {t : Sem α} {Q : β → Loc → AS → Prop} (h : VY K w n env ab t Q l σ) : NY K w n env ab t Q l σ := fun A B s hr X he R k E hk => wpN_of (h A B s hr X he R k E hk)
theorem nc_of {f : Value} {args : List AV} {Q : AV → AS → Prop} (h : VC K w n f args Q σ) : NC K w n f args Q σ := fun A B s vs hr X R ha k E hk => wpN_of (h A B s vs hr X R ha k E hk)
theorem nh_of {α β : Type} {ab : α → β} {t : Sem α} {Q : β → AS → Prop} (h : VH K w n ab t Q σ) : NH K w n ab t Q σ := fun A B s hr X R k E hk => wpN_of (h A B s hr X R k E hk)
theorem nx_mono {α β : Type} {ab : α → β} {t : Sem α} {Q Q' : β → AS → Prop} (h : NX K w n env l ab t Q σ) (hq : ∀ v σ', Q v σ' → Q' v σ') : NX K w n env l ab t Q' σ :=
  fun A B s hr X he R k E hk => h A B s hr X he R k E fun v σ' s' q r => hk v σ' s' (hq _ _ q) r
theorem nx_of_nh {α β : Type} {ab : α → β} {t : Sem α} {Q : β → AS → Prop} (h : NH K w n ab t Q σ) : NX K w n env l ab t Q σ := fun A B s hr X he R k E hk => by
  obtain ⟨ob, a, b, c⟩ := R.hide X
  exact h A _ s hr b a k E fun v σ' s' q r => hk v σ' s' q (c _ _ r)
theorem nx_of_nc {f : Value} {vs : List Value} {args : List AV} {Q : AV → AS → Prop} (h : NC K w n f args Q σ) (ha : vs.map er = args) : NX K w n env l er (call f vs) Q σ := nx_of_nh fun A B s hr X R k E hk => h A B s vs hr X R ha k E hk
theorem nc_less {m : Nat} {f : Value} {args : List AV} {Q : AV → AS → Prop} (h : NC K w m f args Q σ) (hm : m ≤ n) : NC K w n f args Q σ :=
  fun A B s vs hr X R ha k E hk => h A B s vs (hr.less hm) X R ha k E hk
theorem nb_nil {Q : AF → Loc → AS → Prop} (h : Q .next l σ) : NB K w n env [] Q l σ := ny_of (vb_nil h)
theorem nb_cons {st : Stmt} {rest : List Stmt} {Q : AF → Loc → AS → Prop} (h : NS K w n env st (fun f l1 σ1 => match f with | .next => NB K w n env rest Q l1 σ1 | f => Q f l1 σ1) l σ) : NB K w n env (st :: rest) Q l σ :=
  fun A B s hr X he R k E hk => by
    rw [execs_cons]
    refine wpN_bind (h A B s hr X he R _ _ fun f l1 σ1 s1 h1 R1 => ?_)
    cases f with
    | next => exact h1 A B s1 hr X he R1 k E hk
    | brk => exact wpN_pure (hk _ _ _ _ h1 R1)
    | cont => exact wpN_pure (hk _ _ _ _ h1 R1)
    | ret v => exact wpN_pure (hk _ _ _ _ h1 R1)
theorem nb_consV {st : Stmt} {rest : List Stmt} {Q : AF → Loc → AS → Prop} (h : VS K w n env st (fun f l1 σ1 => match f with | .next => NB K w n env rest Q l1 σ1 | f => Q f l1 σ1) l σ) : NB K w n env (st :: rest) Q l σ := nb_cons (ny_of h)
theorem ns_if {test : Expr} {body orelse : List Stmt} {pos : Pos} {Q : AF → Loc → AS → Prop} (h : NT K w n env l test (fun b σ1 => if b = true then NB K w n env body Q l σ1 else NB K w n env orelse Q l σ1) σ) : NS K w n env (.If test body orelse pos) Q l σ :=
  fun A B s hr X he R k E hk => by
    rw [exec_If]
    refine wpN_bindA (wpAny_standAt (wpN_bind (h A B s hr X he R _ _ fun b σ1 s1 h1 R1 => ?_)))
    cases b with
    | true => exact (by simp only [id_eq, if_true] at h1 ⊢; exact h1 A B s1 hr X he R1 k E hk)
    | false => exact (by simp only [id_eq, Bool.false_eq_true, if_false] at h1 ⊢; exact h1 A B s1 hr X he R1 k E hk)
theorem ns_return {e : Expr} {pos : Pos} {Q : AF → Loc → AS → Prop} (h : NE K w n env l e (fun v σ1 => Q (.ret v) l σ1) σ) : NS K w n env (.Return (some e) pos) Q l σ := fun A B s hr X he R k E hk => by
  rw [exec_Return_some]
  exact wpN_bindA (wpAny_standAt (wpN_bind (h A B s hr X he R _ _ fun v σ1 s1 h1 R1 => wpN_pure (hk _ _ _ _ h1 R1))))
theorem ns_assign {t value : Expr} {pos : Pos} {Q : AF → Loc → AS → Prop} (h : NE K w n env l value (fun v σ1 => VA K w n env t v (fun l2 σ2 => Q .next l2 σ2) l σ1) σ)
    (he' : exec (.Assign [t] value pos) env = (do standAt pos; let v ← eval value env; assign t env v; pure .next) := by rfl) : NS K w n env (.Assign [t] value pos) Q l σ := fun A B s hr X he R k E hk => by
  show wpN _ A (exec _ env) k E s
  rw [he']
  exact wpN_bindA (wpAny_standAt (wpN_bind (h A B s hr X he R _ _ fun v σ1 s1 h1 R1 => wpN_bindA (h1 v rfl A B s1 hr X he R1 _ _ fun _ l2 σ2 s2 h2 R2 => wpN_pure (hk _ _ _ _ h2 R2)))))
theorem ns_try {body : List Stmt} {h₀ : ExceptHandler} {hs : List ExceptHandler} {pos : Pos} {Q : AF → Loc → AS → Prop} (h : NB K w n env body Q l σ) : NS K w n env (.Try body (h₀ :: hs) [] [] pos) Q l σ := fun A B s hr X he R k E hk => by
  rw [arm_exec_Try]
  refine wpN_bindA (wpAny_standAt ?_)
  unfold tryStmt
  simp only [List.isEmpty_nil, if_true, List.isEmpty_cons, Bool.false_and, Bool.false_eq_true, if_false]
  refine wpN_bind (wpN_attempt (h A B s hr X he R _ _ fun f l1 σ1 s1 h1 R1 => ?_))
  cases f with
  | next => exact wpN_of (wpAny_execs_nil (hk .next _ _ _ h1 R1))
  | brk => exact wpN_pure (hk .brk _ _ _ h1 R1)
  | cont => exact wpN_pure (hk .cont _ _ _ h1 R1)
  | ret v => exact wpN_pure (hk (.ret v) _ _ _ h1 R1)
theorem nt_cmp {lhs rhs : Expr} {op : CmpOp} {pos : Pos} {Q : Bool → AS → Prop} (h : NE K w n env l lhs (fun a σ1 => VE K w n env l rhs (fun b σ2 => VO K w n op a b (fun c σ3 => VTr K w n c Q σ3) σ2) σ1) σ)
    (hm : behindInMarks op rhs = false := by rfl) : NT K w n env l (.Compare lhs [op] [rhs] pos) Q σ := fun A B s hr X he R k E hk => by
  show wpN _ A (isTrue _ _ _) k E s
  rw [isTrue_Compare1, markedBehindIn_of_false hm]
  refine wpN_bind (h A B s hr X he R _ _ fun a σ1 s1 h1 R1 => wpN_of (wpAny_bind (wpAny_holding (h1 A B s1 hr X he R1 _ _ fun b σ2 s2 h2 R2 => wpAny_bind (wpAny_standAt (wpAny_bind ?_))))))
  refine wpAny_operating (vx_of_vh (h2 a b rfl rfl) A B s2 hr X he R2 _ E fun c σ3 s3 h3 R3 => wpAny_holding (vx_of_vh (h3 c rfl) A B s3 hr X he R3 k E hk))
theorem nt_not {e : Expr} {pos : Pos} {Q : Bool → AS → Prop} (h : NT K w n env l e (fun b σ1 => Q (!b) σ1) σ) (he' : isTrue (.UnaryOp .Not e pos) env (eval (.UnaryOp .Not e pos) env) = (do return !(← isTrue e env (eval e env))) := by rfl) : NT K w n env l (.UnaryOp .Not e pos) Q σ :=
  fun A B s hr X he R k E hk => by
    show wpN _ A (isTrue _ _ _) k E s
    rw [he']
    exact wpN_bind (h A B s hr X he R _ _ fun b σ1 s1 h1 R1 => wpN_pure (hk _ _ _ h1 R1))
theorem nt_value {e : Expr} {Q : Bool → AS → Prop} (h : NE K w n env l e (fun v σ1 => VTr K w n v Q σ1) σ)
    (ht : isTrue e env (eval e env) = (do let v ← eval e env; standAt e.pos; holding [v] (truthy v)) := by rfl) : NT K w n env l e Q σ := fun A B s hr X he R k E hk => by
  show wpN _ A (isTrue _ _ _) k E s
  rw [ht]
  exact wpN_bind (h A B s hr X he R _ _ fun v σ1 s1 h1 R1 => wpN_of (wpAny_bind (wpAny_standAt (wpAny_holding (vx_of_vh (h1 v rfl) A B s1 hr X he R1 k E hk)))))
noncomputable def NAll (K : Frag) (w : World) (n : Nat) (env : Env) (l : Loc) (op : BoolOp) (es : List Expr) (Q : Bool → AS → Prop) (σ : AS) : Prop := NX K w n env l (id : Bool → Bool) (allTrue op es env) Q σ
theorem nt_bool {op : BoolOp} {es : List Expr} {pos : Pos} {Q : Bool → AS → Prop} (h : NAll K w n env l op es Q σ) : NT K w n env l (.BoolOp op es pos) Q σ := fun A B s hr X he R k E hk => by
  show wpN _ A (isTrue _ _ _) k E s
  rw [arm_isTrue_BoolOp]; exact h A B s hr X he R k E hk
theorem nor_cons {e : Expr} {es : List Expr} {Q : Bool → AS → Prop} (h : NT K w n env l e (fun b σ1 => if b = true then Q true σ1 else NAll K w n env l .Or es Q σ1) σ) : NAll K w n env l .Or (e :: es) Q σ := fun A B s hr X he R k E hk => by
  show wpN _ A (do match BoolOp.Or, ← isTrue e env (eval e env) with | .And, false => pure false | .Or, true => pure true | _, _ => allTrue .Or es env) _ E s
  refine wpN_bind (h A B s hr X he R _ _ fun b σ1 s1 h1 R1 => ?_)
  cases b with
  | true => exact wpN_pure (by simp only [id_eq, if_true] at h1; exact hk _ _ _ h1 R1)
  | false => exact (by simp only [id_eq, Bool.false_eq_true, if_false] at h1; exact h1 A B s1 hr X he R1 k E hk)
theorem nor_nil {Q : Bool → AS → Prop} (h : Q false σ) : NAll K w n env l .Or [] Q σ := nx_of (vor_nil h)
theorem ne_band {e1 e2 : Expr} {pos : Pos} {Q : AV → AS → Prop} (h : NE K w n env l e1 (fun v σ1 => VTr K w n v (fun b σ2 => if b = true then VE K w n env l e2 Q σ2 else Q v σ2) σ1) σ) : NE K w n env l (.BoolOp .And [e1, e2] pos) Q σ := fun A B s hr X he R k E hk => by
  show wpN _ A (eval e1 env >>= fun v => standAt pos >>= fun _ => holding [v] (truthy v) >>= fun t => (match BoolOp.And, t with | .And, false | .Or, true => pure v | _, _ => eval e2 env)) k E s
  refine wpN_bind (h A B s hr X he R _ _ fun v σ1 s1 h1 R1 => wpN_of (wpAny_bind (wpAny_standAt (wpAny_bind (wpAny_holding (vx_of_vh (h1 v rfl) A B s1 hr X he R1 _ _ fun b σ2 s2 h2 R2 => ?_))))))
  cases b with
  | true => exact (by simp only [id_eq, if_true] at h2; exact h2 A B s2 hr X he R2 k E hk)
  | false => exact wpAny_pure (by simp only [id_eq, Bool.false_eq_true, if_false] at h2; exact hk _ _ _ h2 R2)
theorem ne_cmpR {lhs rhs : Expr} {op : CmpOp} {pos : Pos} {Q : AV → AS → Prop} (h : VE K w n env l lhs (fun a σ1 => NE K w n env l rhs (fun b σ2 => VO K w n op a b Q σ2) σ1) σ)
    (hm : behindInMarks op rhs = false := by rfl) : NE K w n env l (.Compare lhs [op] [rhs] pos) Q σ := fun A B s hr X he R k E hk => by
  show wpN _ A (eval _ _) k E s
  rw [eval_Compare1, markedBehindIn_of_false hm]
  exact wpN_bindA (h A B s hr X he R _ _ fun a σ1 s1 h1 R1 => wpN_bind (wpN_holding (h1 A B s1 hr X he R1 _ _ fun b σ2 s2 h2 R2 => wpN_of (wpAny_bind (wpAny_standAt (wpAny_operating (vx_of_vh (h2 a b rfl rfl) A B s2 hr X he R2 k E hk)))))))
theorem nl_cons {pos : Pos} {e : Expr} {es : List Expr} {Q : List AV → AS → Prop} (h : NE K w n env l e (fun v σ1 => VL K w n env l pos es (fun vs σ2 => Q (v :: vs) σ2) σ1) σ)
    (he' : starEach (e :: es) env = (false, eval e env) :: starEach es env := by rfl) : NL K w n env l pos (e :: es) Q σ := fun A B s hr X he R k E hk => by
  rw [he']
  show wpN _ A (spliced ((false, eval e env) :: backTo pos (starEach es env))) k E s
  unfold spliced
  refine wpN_bind (h A B s hr X he R _ _ fun v σ1 s1 h1 R1 => wpN_of ?_)
  refine wpAny_bind (wpAny_pure (wpAny_bind (wpAny_holding (h1 A B s1 hr X he R1 _ _ fun vs σ2 s2 h2 R2 => wpAny_pure ?_))))
  exact hk _ _ _ h2 R2
theorem evalArgs_posN {M : Model} {A : Around} {E : Value → Shared → Prop} {s : Shared} {f : Value} {Q : Args → Shared → Prop} : ∀ {as : List (Bool × Sem Value)}, as.any (·.1) = false →
    wpN M A (spliced as) (fun vs s' => Q ⟨vs, []⟩ s') E s → wpN M A (evalArgs f true as []) Q E s := fun {as} hs h => by
  have e : evalArgs f true as [] = (spliced as >>= fun pos => holding (pos ++ ([] : List Value)) (pure ⟨pos, []⟩)) := by
    match as, hs with
    | [], _ => rfl
    | [(false, x)], _ => rfl
    | (false, x) :: (false, y) :: r, _ => rfl
    | (false, x) :: (true, y) :: r, hs => simp at hs
    | (true, x) :: r, hs => simp at hs
  rw [e]
  exact wpN_bind (wpN_mono h (fun vs s' h' => wpN_holding (wpN_pure h')) fun _ _ e => e)
theorem nx_callWith {f : Value} {first : List Value} {pos : Pos} {es : List Expr} {Q : AV → AS → Prop} (hf : KeepOK K f) (h : NL K w n env l pos es (fun vs σ1 => NC K w n f (first.map er ++ vs) Q σ1) σ) (hs : noStar es = true := by rfl) :
    NX K w n env l er (callWith pos f first (backTo pos (starEach es env)) []) Q σ := fun A B s hr X he R k E hk => by
  unfold callWith
  refine wpN_bind (wpN_holding (evalArgs_posN (noStar_any hs) (h A B s hr X he R _ _ fun vs σ1 s1 h1 R1 => wpN_bindA (wpAny_standAt ?_))))
  obtain ⟨kp, hk', L⟩ := hf (model prog w) s1.heap (X.In R1.rep)
  have hplain : ((backTo pos (starEach es env)).any (·.1) || ([] : List (Option Str × Sem Value)).any (·.1.isNone)) = false := by rw [noStar_any hs]; rfl
  simp only [hplain]
  refine wpN_bindA (L.here ?_)
  have hcall : wpN (model prog w) A (call f (first ++ vs) []) (fun r s₂ => wpN (model prog w) A (holding [r] point >>= fun _ => pure r) k E s₂) E s1 :=
    nx_of_nc (vs := first ++ vs) h1 (by rw [List.map_append]) A B s1 hr X he R1 _ E fun r σ2 s2 h2 R2 => wpN_of (wpAny_bind (wpAny_holding (wpAny_point (wpAny_pure (hk _ _ _ h2 R2)))))
  have marked (mk : Value) : wpN (model prog w) A (callMarked mk f (first ++ vs) []) (fun r s₂ => wpN (model prog w) A (holding [r] point >>= fun _ => pure r) k E s₂) E s1 := by unfold callMarked; exact wpN_keep hcall
  rcases hk' with rfl | rfl | rfl <;> dsimp only <;> first | exact wpN_bind hcall | (split <;> first | exact wpN_bind hcall | exact wpN_bind (marked _))
theorem ne_call_g {x : Str} {np pos : Pos} {args : List Expr} {a : Addr} {Q : AV → AS → Prop} (hv : nsIn K mainGlobals x = some (some (.ref a))) (hk : keepIn K (.ref a) = true)
    (h : NL K w n env l pos args (fun vs σ2 => NC K w n (.ref a) vs Q σ2) σ) (hl : env.kindOf x = some .globalImplicit := by first | assumption | rfl) (hd : (x == ("__debug__" : Str)) = false := by decide) (hs : noStar args = true := by rfl)
    (he' : eval (.Call (.Name x np) args [] pos) env = (do callWith pos (← eval (.Name x np) env) [] (backTo pos (starEach args env)) (backToKw pos (keywordEach [] env))) := by rfl) :
    NE K w n env l (.Call (.Name x np) args [] pos) Q σ := fun A B s hr X he R k E hk2 => by
  show wpN _ A (eval _ env) k E s
  rw [he']
  refine wpN_bindA (vx_global (n := n) hv (Q := fun v σ1 => v = .ref a ∧ σ1 = σ) ⟨rfl, rfl⟩ hl hd A B s hr X he R _ _ fun v σ1 s1 h1 R1 => ?_)
  obtain ⟨e1, rfl⟩ := h1
  rw [show v = .ref a from e1]
  exact nx_callWith (first := []) (keep_ref hk) h hs A B s1 hr X he R1 k E hk2
theorem ne_call_b {x : Str} {np pos : Pos} {args : List Expr} {f : Value} {Q : AV → AS → Prop} (hm : nsIn K mainGlobals x = some none) (hv : bootBuiltins x = some f) (hk : KeepOK K f)
    (h : NL K w n env l pos args (fun vs σ2 => VC K w n f vs Q σ2) σ) (hl : env.kindOf x = some .globalImplicit := by first | assumption | rfl) (hn : x ≠ "__name__" := by decide) (hd : (x == ("__debug__" : Str)) = false := by decide) (hs : noStar args = true := by rfl)
    (he' : eval (.Call (.Name x np) args [] pos) env = (do callWith pos (← eval (.Name x np) env) [] (backTo pos (starEach args env)) (backToKw pos (keywordEach [] env))) := by rfl) :
    NE K w n env l (.Call (.Name x np) args [] pos) Q σ := fun A B s hr X he R k E hk2 => by
  show wpN _ A (eval _ env) k E s
  rw [he']
  refine wpN_bindA (vx_builtin (n := n) hm hv (Q := fun v σ1 => v = f ∧ σ1 = σ) ⟨rfl, rfl⟩ hl hn hd A B s hr X he R _ _ fun v σ1 s1 h1 R1 => ?_)
  obtain ⟨e1, rfl⟩ := h1
  rw [show v = f from e1]
  exact nx_callWith (first := []) hk (nx_mono h fun vs σ2 h2 => nc_of h2) hs A B s1 hr X he R1 k E hk2
theorem ne_mcall {o : Expr} {name : Str} {apos pos : Pos} {args : List Expr} {pl : Sem Bool} {Q : AV → AS → Prop}
    (h : VE K w n env l o (fun ov σ1 => VM K w n ov name (fun fx σ2 => KeepOK K fx.1 ∧ NL K w n env l pos args (fun vs σ3 => NC K w n fx.1 (fx.2.map er ++ vs) Q σ3) σ2) σ1) σ)
    (he' : eval (.Call (.Attribute o name apos) args [] pos) env = (do
      let ov ← eval o env
      standAt apos.atName
      let (f, first) ← holding [ov] (getMethod ov name pl)
      callWith pos f first (backTo pos (starEach args env)) []) := by rfl) (hs : noStar args = true := by rfl) : NE K w n env l (.Call (.Attribute o name apos) args [] pos) Q σ := fun A B s hr X he R k E hk => by
  show wpN _ A (eval _ env) k E s
  rw [he']
  refine wpN_bindA (h A B s hr X he R _ _ fun ov σ1 s1 h1 R1 => wpN_bindA (wpAny_standAt (wpN_bindA (wpAny_holding (vx_of_vh (h1 ov pl rfl) A B s1 hr X he R1 _ _ fun fx σ2 s2 h2 R2 => ?_)))))
  exact nx_callWith h2.1 h2.2 hs A B s2 hr X he R2 k E hk
noncomputable def NG (K : Frag) (w : World) (n : Nat) (v : AV) (name : Str) (Q : AV → AS → Prop) (σ : AS) : Prop := ∀ v', er v' = v → NH K w n er (getAttr v' name true) Q σ
theorem ne_attr {o : Expr} {name : Str} {pos : Pos} {Q : AV → AS → Prop} (h : VE K w n env l o (fun ov σ1 => NG K w n ov name Q σ1) σ)
    (he' : eval (.Attribute o name pos) env = (do
      let v ← eval o env
      standAt pos.atName
      let r ← holding [v] (getAttr v name true)
      letTemporaryGo o v r
      pure r) := by with_unfolding_all rfl)
    (ht : ∀ v r, letTemporaryGo o v r = pure () := by intro _ _; rfl) : NE K w n env l (.Attribute o name pos) Q σ := fun A B s hr X he R k E hk => by
  show wpN _ A (eval _ env) k E s
  rw [he']
  refine wpN_bindA (h A B s hr X he R _ _ fun ov σ1 s1 h1 R1 => wpN_bindA (wpAny_standAt (wpN_bind (wpN_holding ?_))))
  refine nx_of_nh (h1 ov rfl) A B s1 hr X he R1 _ _ fun r σ2 s2 h2 R2 => ?_
  rw [ht]
  exact wpN_of (wpAny_bind (wpAny_pure (wpAny_pure (hk _ _ _ h2 R2))))
noncomputable def NCode (K : Frag) (w : World) (n : Nat) (f : Value) (args : List AV) (kw : List (Str × AV)) (Q : AV → AS → Prop) (σ : AS) : Prop :=
  ∀ (A : Around) (B : Bs) (s : Shared) (vs : List Value) (kvs : List (Str × Value)), Room n A → Base K B → RepB w B σ s → vs.map er = args → kvs.map (fun p => (p.1, er p.2)) = kw → ∀ (k : Value → Shared → Prop) (E : Value → Shared → Prop),
    (∀ v σ' s', Q (er v) σ' → RepB w B σ' s' → k v s') → codeN (model prog w) A (.call f ⟨vs, kvs⟩) (fun r s' => match r with | .ok (.ret v) => k v s' | .ok _ => False | .error e => E e s') s
theorem nc_of_code {f : Value} {args : List AV} {Q : AV → AS → Prop} (h : NCode K w n f args [] Q σ) : NC K w n f args Q σ := fun A B s vs hr X R ha k E hq => wpN_call (h A B s vs [] hr X R ha rfl k E hq)
theorem ncode_defC {f : Addr} {fd : FuncData} {oc : Value} {od : Option Addr} {osl : Array (Option Value)} {body : List Stmt} {args : List AV} {kw : List (Str × AV)} {Q : AV → AS → Prop}
    (ho : K.lookup f = some ⟨oc, od, .func fd, osl⟩) (hbody : fd.body = .stmts body) (hcd : codeIn K fd.code fd.qualname = true)
    (hb : VBi K w n fd args kw (fun bs σ1 => ∀ L env, Fresh σ1 L → env = newEnv fd.scope L fd.globals (cellsFrom (L + 1) fd.scope.names fd.closure) (fd.qualname ++ ".<locals>.") (some f) fd.code none fd.builtins →
      bindA env bs (fun l1 σ2 => NB K w n env body (fun fl l' σ' => Q (match fl with | .ret v => v | _ => .none) σ') l1 σ2) [] (pushA σ1 (L + 1) fd.scope.names)) σ)
    (hco : fd.scope.isCoroutine = false := by rfl) (hgen : fd.scope.isGenerator = false := by rfl) (hk : fd.scope.kind = .function := by rfl)
    (hg : fd.globals = mainGlobals := by rfl) (hbl : fd.builtins = builtinsNs := by rfl) : NCode K w (n + 1) (.ref f) args kw Q σ := fun A B s vs kvs hr X R ha hkw k E hq => by
  refine codeN_call_function hr.depth (X.In R _ _ ho) rfl hco hgen hbody (codeRec_of (X.In R) hcd) ?_
  refine hb A.in1 B s vs kvs hr.in1 X R ha hkw _ _ fun bs σ1 s1 h1 R1 => ?_
  refine wp_newEnv (K := K) (n := n) hr.in1 X R1 hk hg hbl (fun L env hF he => h1 L env hF he) (fun L env l' σ' s' hF he hE hP R' => ?_)
  refine ⟨X.noLimit R'.rep, codeN_func ?_⟩
  refine hP (A.deeper env) B _ hr.deeper X hE R' _ _ fun fl l'' σ'' s'' h3 R3 => ?_
  cases fl <;> exact hq _ _ _ h3 R3.rep
end
end Mine
end
section
open PySem PySem.W PySem.Calls PyProof.Rows Builtin Builtin.ObjectAttr Builtin.Getset_descriptor
set_option maxRecDepth 100000
set_option linter.unusedVariables false
set_option linter.unusedSimpArgs false
namespace Mine
section
variable {w : World} {B : Bs} {σ : AS} {s : Shared} {K : Frag} {n : Nat} {env : Env} {l : Loc}
theorem getN_bind {A : Around} {E : Value → Shared → Prop} {x C : Addr} {ox : Obj} {od : Option Obj} {name : Str} {expr : Bool} {Q : Value → Shared → Prop} {g a : Value} (X : K.In s.heap) (I : InstAt s.heap x ox C od) (hga : findIn K (.ref C) "__getattribute__" = some (some (.builtin "object.__getattribute__")))
    (hf : findObj K C od name = some (.bind g a)) (hk : findIn K (.ref C) "__getattr__" = some none)
    (h : ∀ E', wpN (model prog w) A.in1 (call g [a, .ref x, .ref C]) (fun v s' => handedIn v = true ∧ Q v s') E' { s with toks := s.toks + 1 }) : wpN (model prog w) A (getAttr (.ref x) name expr) Q E s := by
  obtain ⟨hh, gg, d, t, os⟩ := s
  have L0 := I.type (M := model prog w)
  have Lg := looks_findIn (M := model prog w) X hga
  have L1 := looks_find (M := model prog w) X I hf
  have L2 := looks_findIn (M := model prog w) X hk
  unfold getAttr getAttrBy
  refine wpN_bindA (wpAny_mkText (wpN_holding (wpN_bindA (L0.at (wpN_bindA (Lg.at ?_))))))
  show wpN _ _ (getAttrEveryday _ _ _) _ _ _
  unfold getAttrEveryday
  refine wpN_bind (wpN_onRaise (wpN_runValue rfl (codeN_builtin PySem.F.plainObj_entry_getattr_hooked ?_)))
  refine wpN_mono (Q := fun fin s' => ∃ v, fin = .done (.ret v) ∧ handedIn v = true ∧ Q v s') (E := fun e s' => wpN (model prog w) A (noteIf true (.ref x) (.str name t) e) (fun _ s'' => E e s'') E s') ?_ ?_ fun _ _ z => z
  · unfold Builtin.«proto.getattr_hooked»
    refine wpN_bindA (wpAny_pure (wpN_bindA (L0.at (wpN_bindA (L1.at (wpN_bindA (L2.at ?_)))))))
    show wpN _ _ (holding [a] (call g [a, .ref x, .ref C]) >>= ret) _ _ _
    exact wpN_bind (wpN_holding (wpN_mono (h _) (fun v s' z => wpN_pure ⟨v, rfl, z.1, z.2⟩) fun _ _ z => z))
  · rintro fin s' ⟨v, rfl, h1, h2⟩
    show wpN _ _ (handedOut v) _ _ _
    rw [handedOut_of h1]
    exact wpN_pure h2
theorem ng_bind {x C d : Addr} {m : List (Str × AV)} {name : Str} {a : Value} {g : Addr} {Q : AV → AS → Prop} (P : PlainCls K C) (hx : σ.f x = some (.inst C d)) (hd : σ.f d = some (.ns m)) (hv : lk m name = none) (hn : findIn K (.ref C) name = some (some a)) (hg : specialIn K a "__get__" = some (some (.ref g))) (ht : takesIn K a = some false)
    (hc : copiedNames.contains name = false) (h : NC K w n (.ref g) [er a, .ref x, .ref C] (fun v σ' => v.handed = true ∧ Q v σ') σ) : ∀ (ex : Bool) (v' : Value), er v' = .ref x → NH K w (n + 1) er (getAttr v' name ex) Q σ := fun ex v' hv' A B s hr X R k E hk => by
  rw [er_ref hv']
  obtain ⟨od, I, h1, h2⟩ := R.inst hx hd
  obtain ⟨r, h3, h4⟩ := h2.look name
  rw [hv] at h4
  obtain rfl : r = none := by cases r with | none => rfl | some _ => cases h4
  obtain ⟨cd, c1, c2⟩ := any_some P.cd
  refine getN_bind (g := .ref g) (a := a) (X.In R) I P.ga ?_ P.gt fun E' => ?_
  · unfold findObj W.ownOf
    rw [c1, Option.bind_some, hn]
    simp only [Option.bind_some, hg, ht]
    rw [if_pos c2]
    try dsimp only
    rw [h3]
    simp only [Option.bind_some, hc, Bool.false_and, Bool.false_eq_true, if_false]
  · exact h A.in1 B _ [a, .ref x, .ref C] hr.in1 X R.toks rfl _ _ fun v σ' s' hq R' => ⟨handed_of hq.1, hk _ _ _ hq.2 R'⟩
theorem wpN_stack {α : Type} {M : Model} {A : Around} {E : Value → Shared → Prop} {Q : α → Shared → Prop} {f : List (Code × Pos) → Sem α} (h : ∀ st, calmStack st = true → wpN M A (f st) Q E s) : wpN M A (stack >>= f) Q E s := fun Γ p hΓ hn => by
  rw [Sem.wp_bind']
  exact h _ (nf_iff.mpr hn) Γ p hΓ hn
theorem calm_find {α : Type} (g : Code → Option α) (hg : ∀ c, isFin c = false → g c = none) : ∀ st : List (Code × Pos), calmStack st = true → (st.findSome? fun act => g act.1) = none
  | [], _ => rfl
  | (c, p) :: r, h => by
    unfold calmStack at h
    rw [List.all_cons, Bool.and_eq_true, Bool.not_eq_true'] at h
    rw [List.findSome?_cons, hg c h.1]
    exact calm_find g hg r h.2
noncomputable def getsetIn (K : Frag) (p C : Addr) : Bool := match recIn K p "getset_descriptor" with
  | some [.str _ _, .ref owner, .builtin g, .builtin _] => g == "function.__dict__" && owner == C
  | _ => false
theorem codeN_call_builtin {A : Around} {R : Result → Shared → Prop} {id : String} {args : Args} {b : Builtin} (hq : plainId id = true) (hf : isFin (.builtin id args) = false) (hb : entryFor table id = some b)
    (h : wpAny (model prog w) A.in1 (checkBuiltinCall id args) (fun _ s₁ => wpN (model prog w) A.in1 (b args) (fun fin s' => match fin with | .done f => R (.ok f) s' | .again c' => c'.quiet = true ∧ isFin c' = false ∧ codeN (model prog w) A c' R s') (fun e s' => R (.error e) s') s₁)
      (fun e s' => R (.error e) s') s) : codeN (model prog w) A (.call (.builtin id) args) R s := by
  refine codeN_of_tree ?_
  show wpN _ A.in1 (checkBuiltinCall id args >>= fun _ => again (.builtin id args)) _ _ s
  refine wpN_bindA (wpAny_mono h (fun _ s₁ h₁ => wpN_pure ⟨plainId_quiet hq args, hf, ?_⟩) fun _ _ e => e)
  exact codeN_builtin hb (by rw [Around.under_plainId hq args]; exact h₁)
theorem entry_fdict : entryFor table "function.__dict__" = some Builtin.«function.__dict__» := entryFor_of_tree (by kernel_rfl)
theorem NsO.slots {m : List (Str × AV)} {o : Obj} (h : NsO w m o) (sl : Array (Option Value)) : NsO w m { o with slots := sl } := by
  obtain ⟨es, ep, sl', rfl, a, b, c⟩ := h
  exact ⟨es, ep, sl, rfl, a, b, c⟩
theorem getter_out {h : Heap} {g : Array GenState} {dr : Drawn} {t : Nat} {os : OsState} {x C p : Addr} {nm : Str} {tk : Tok} {g2 : String} {dd : Option Addr} {sl : Array (Option Value)} {A : Around} {E : Value → Shared → Prop} {Q : Fin → Shared → Prop}
    (ho : h.get? p = some ⟨.type "getset_descriptor", dd, .fields #[.str nm tk, .ref C, .builtin "function.__dict__", .builtin g2], sl⟩) (L0 : Looks (model prog w) h (typeOf (.ref x)) (.ref C)) (LO : Looks (model prog w) h (isSubtype (.ref C) (.ref C)) true)
    (hq : Q (.again (.builtin "function.__dict__" ⟨[.ref x], []⟩)) ⟨h, g, dr, t, os⟩) : wpAny (model prog w) A (descrGetter (.ref p) (some (.ref x))) Q E ⟨h, g, dr, t, os⟩ := by
  have f0 := looks_field (M := model prog w) ho 0 (v := .str nm tk) rfl
  have f1 := looks_field (M := model prog w) ho 1 (v := .ref C) rfl
  have f2 := looks_field (M := model prog w) ho 2 (v := .builtin "function.__dict__") rfl
  have f5 : Looks (model prog w) h (descrItself (.ref p)) [] := ((Looks.ld (part := none) ho).andThen .now).andThen (Looks.of_pure (by kernel_rfl))
  unfold descrGetter descrCheckInstance descrNameAndClass isInstance
  repeat lk
  exact hq
theorem wpN_if {α : Type} {M : Model} {A : Around} {E : Value → Shared → Prop} {Q : α → Shared → Prop} {c : Prop} [Decidable c] {a b : Sem α} (h1 : c → wpN M A a Q E s) (h2 : ¬ c → wpN M A b Q E s) : wpN M A (if c then a else b) Q E s := by split <;> simp_all
theorem handed_out {x C d : Addr} {od : Obj} {cd : ClassData} {A : Around} {E : Value → Shared → Prop} {Q : Option Addr → Shared → Prop} {mc : Str → Option Value} (hx : s.heap.get? x = some (instObj C d)) (ho : s.heap.get? d = some od) (LC : Looks (model prog w) s.heap (classData C) cd) (hcd : cd.hasDict = true)
    (hns : s.heap.Ns cStatics mc) (hnone : mc "_thread.count" = none) (hq : ∀ sl, Q (some d) { s with heap := s.heap.update d fun o => if o.slots.isEmpty then { o with slots := sl } else o }) :
    wpN (model prog w) A (instanceDictHandedOut x) Q E s := by
  unfold instanceDictHandedOut instanceDict
  refine wpN_bindA (wpAny_bind (wpAny_loadPart hx (wpAny_bind (LC.here ?_))))
  rw [hcd]
  refine wpAny_pure (a := some d) ?_
  refine wpN_bindA (wpAny_loadPart hx ?_)
  dsimp only
  refine wpN_bind (wpN_mono (Q := fun r s' => r = none ∧ s' = s) (E := E) ?_ ?_ fun _ _ e => e)
  · refine wpN_bindA (m := load d) (wpAny_load ho ?_)
    refine wpN_if ?_ ?_
    · exact fun _ => wpN_pure ⟨rfl, rfl⟩
    · intro _
      refine wpN_stack fun st hst => ?_
      split
      · rename_i heq
        obtain ⟨act, hact, hg⟩ := List.exists_of_findSome?_eq_some heq
        have hf := List.all_eq_true.mp hst act hact
        split at hg
        · rename_i hc
          rw [hc] at hf
          exact absurd hf (by simp [isFin])
        · cases hg
      · refine wpN_of (wpAny_bind (wpAny_nsGet hns ?_))
        rw [hnone]
        exact wpAny_pure ⟨rfl, rfl⟩
  · rintro r s' ⟨rfl, rfl⟩
    exact wpN_bindA (wpAny_update ho (wpN_pure (hq _)))
theorem AS.upd_same {a : Addr} {o : AO} (h : σ.f a = some o) : σ.upd a o = σ := by
  obtain ⟨f, hi⟩ := σ
  unfold AS.upd
  congr 1
  funext x
  dsimp only at h ⊢
  split
  · rename_i q; rw [q, h]
  · rfl
theorem dict_out {x C d p : Addr} {m : List (Str × AV)} {A : Around} {tp : Value} {R' : Result → Shared → Prop} (X : Base K B) (R : RepB w B σ s) (hx : σ.f x = some (.inst C d)) (hd : σ.f d = some (.ns m)) (hp : getsetIn K p C = true)
    (hm : mroIn K C (.ref C) = some true) (hm1 : mroIn K C (.type "staticmethod") = some false) (hm2 : mroIn K C (.type "classmethod") = some false) (hcd : (clsIn K C).any (·.hasDict) = true) (ht : nsIn K cStatics "_thread.count" = some none)
    (h : ∀ s', RepB w B σ s' → R' (.ok (.ret (.ref d))) s') : codeN (model prog w) A (.call (.builtin "getset_descriptor.__get__") ⟨[.ref p, .ref x, tp], []⟩) R' s := by
  obtain ⟨od, I, h1, h2⟩ := R.inst hx hd
  have KI := X.In R
  have hnsC := ns_of_ok KI X.nolim.1
  have hnone := ns_none_of KI hnsC ht
  unfold getsetIn at hp
  split at hp
  case h_2 => cases hp
  rename_i nm tk owner gg g2 hrec
  simp only [Bool.and_eq_true, beq_iff_eq] at hp
  obtain ⟨rfl, rfl⟩ := hp
  obtain ⟨dd, sl, ho⟩ := rec_of KI hrec
  obtain ⟨cd, c1, c2⟩ := any_some hcd
  have L0 := I.type (M := model prog w)
  have LO := looks_mroIn (M := model prog w) KI hm
  have LC := looks_clsIn (M := model prog w) KI c1
  have S1 : Looks (model prog w) s.heap (isInstance (.ref x) (.type "staticmethod")) false := L0.andThen (looks_mroIn KI hm1)
  have S2 : Looks (model prog w) s.heap (isInstance (.ref x) (.type "classmethod")) false := L0.andThen (looks_mroIn KI hm2)
  have hI := I.at_
  refine codeN_call_builtin KF.slot_gs.plain rfl KF.entry_gs (KF.slot_gs.check _ _ _ _ _ _ _ _ ⟨_, ho, rfl⟩ (KF.args_gs _ _ _) ?_)
  unfold Builtin.«getset_descriptor.__get__» descrGet
  rw [dga_obj]
  refine wpN_bindA (wpAny_pure ?_)
  refine wpN_of (getter_out (h := s.heap) (g := s.gens) (dr := s.drawn) (t := s.toks) (os := s.os) ho L0 LO ⟨Code.quiet_builtin _ (by decide +kernel), rfl, codeN_builtin entry_fdict ?_⟩)
  unfold Builtin.«function.__dict__»
  refine wpN_bindA (m := isInstance (.ref x) (.type "staticmethod") <||> isInstance (.ref x) (.type "classmethod")) ?_
  refine wpAny_bind (S1.here ?_)
  refine S2.here ?_
  simp only [Bool.false_eq_true, if_false]
  refine wpN_bind (handed_out hI h1 LC c2 hnsC hnone fun sl => ?_)
  refine wpN_pure (h _ ?_)
  have hg : (s.heap.update d fun o => if o.slots.isEmpty then { o with slots := sl } else o).get? d = some (if od.slots.isEmpty then { od with slots := sl } else od) := by
    refine Heap.get?_update_self _ h1 ?_
    obtain ⟨es, ep, sl', e, _⟩ := h2
    rw [e]
    show Obj.isFreed (if _ then _ else _) = false
    split <;> rfl
  have hN : NsO w m (if od.slots.isEmpty then { od with slots := sl } else od) := by
    split
    · exact h2.slots sl
    · exact h2
  have := R.upd (tk := s.toks) (o' := .ns m) hd (Heap.SameBut.update ..) hg hN
  rw [AS.upd_same hd] at this
  exact this
theorem ng_dict {x C d p : Addr} {m : List (Str × AV)} {Q : AV → AS → Prop} (P : PlainCls K C) (hx : σ.f x = some (.inst C d)) (hd : σ.f d = some (.ns m)) (hv : lk m "__dict__" = none) (hn : findIn K (.ref C) "__dict__" = some (some (.ref p))) (hg : specialIn K (.ref p) "__get__" = some (some (.builtin "getset_descriptor.__get__")))
    (ht : takesIn K (.ref p) = some true) (hp : getsetIn K p C = true)
    (hm : mroIn K C (.ref C) = some true) (hm1 : mroIn K C (.type "staticmethod") = some false) (hm2 : mroIn K C (.type "classmethod") = some false) (htc : nsIn K cStatics "_thread.count" = some none)
    (h : Q (.ref d) σ) : NG K w n (.ref x) "__dict__" Q σ := fun v' hv' A B s hr X R k E hk => by
  rw [er_ref hv']
  obtain ⟨od, I, h1, h2⟩ := R.inst hx hd
  obtain ⟨cd, c1, c2⟩ := any_some P.cd
  refine getN_bind (g := .builtin "getset_descriptor.__get__") (a := .ref p) (X.In R) I P.ga ?_ P.gt fun E' => ?_
  · unfold findObj
    rw [c1, Option.bind_some, hn]
    simp only [Option.bind_some, hg, ht]
  · refine wpN_call (dict_out X (s := { s with toks := s.toks + 1 }) R.toks hx hd hp hm hm1 hm2 P.cd htc fun s' R' => ⟨rfl, hk _ _ _ h R'⟩)
noncomputable def NM (K : Frag) (w : World) (n : Nat) (v : AV) (name : Str) (Q : Value × List Value → AS → Prop) (σ : AS) : Prop := ∀ v' pl, er v' = v → NH K w n _root_.id (getMethod v' name pl) Q σ
theorem nm_attr {x C d : Addr} {m : List (Str × AV)} {name : Str} {r : Option Value} {Q : Value × List Value → AS → Prop} (P : PlainCls K C) (hx : σ.f x = some (.inst C d)) (hd : σ.f d = some (.ns m)) (hf : findIn K (.ref C) name = some r)
    (ht : r.all (fun a => (typeIn K a).any fun t => t != .type "function" && t != .type "method_descriptor" && t != .type "wrapper_descriptor") = true) (h : ∀ v' : Value, er v' = .ref x → NH K w n er (getAttr v' name) (fun v σ' => ∃ a, v = .ref a ∧ Q (.ref a, []) σ') σ) :
    NM K w n (.ref x) name Q σ := fun v' pl hv' A B s hr X R k E hk => by
  rw [er_ref hv']
  obtain ⟨od, I, h1, h2⟩ := R.inst hx hd
  have hcan := PySem.F.canon_object_ga
  have KI := X.In R
  have u : wpN (model prog w) A (do return (← getAttr (.ref x) name, ([] : List Value))) k E s := wpN_bind (h (.ref x) rfl A B s hr X R _ _ fun v σ' s' hq R' => by
    obtain ⟨a, ea, hq⟩ := hq
    rw [er_ref ea]
    exact wpN_pure (hk _ _ _ hq R'))
  unfold getMethod specialOf
  refine wpN_bindA (wpAny_bind (I.type.here ((looks_findIn KI P.ga).here ?_)))
  dsimp only
  rw [hcan, if_neg (by decide)]
  refine wpN_bindA (wpAny_bind (I.type.here ((looks_findIn KI P.gt).here ?_)))
  refine wpN_bindA (wpAny_bind (I.type.here ((looks_findIn KI hf).here ?_)))
  cases r with
  | none => exact u
  | some a =>
    obtain ⟨t, a1, a2⟩ := any_some ht
    refine wpN_bindA ((looks_typeIn KI a1).here ?_)
    rw [if_pos a2]; exact u
end
end Mine
end
section
open PySem PySem.W PySem.Calls PyProof.Rows
set_option maxRecDepth 100000
set_option linter.unusedVariables false
set_option linter.unusedSimpArgs false
namespace Mine
section
variable {w : World} {B : Bs} {σ : AS} {s : Shared} {K : Frag} {n : Nat} {env : Env} {l : Loc}
theorem RepB.nsAt (R : RepB w B σ s) {d : Addr} {m : List (Str × AV)} (hd : σ.f d = some (.ns m)) : ∃ od, s.heap.get? d = some od ∧ NsO w m od := by
  obtain ⟨od, h3, h4⟩ := R.objs d _ hd
  exact ⟨od, h3, h4⟩
theorem strK {x : Str} {t : Tok} : (PySem.strKind prog w).is x (.str x t) = true := by simp [PySem.strKind, Value.isStrOf]
theorem vm_ns {d : Addr} {m : List (Str × AV)} {name : Str} {id : String} {Q : Value × List Value → AS → Prop} (hd : σ.f d = some (.ns m)) (slot : Slot "dict" name id) (hty : typeOf (.builtin id) = pure (.type "method_descriptor")) (h : Q (.builtin id, [.ref d]) σ) :
    VM K w n (.ref d) name Q σ := fun v' pl hv A B s hr X R k E hk => by
  rw [er_ref hv]
  obtain ⟨od, h1, es, ep, sl, rfl, _⟩ := R.nsAt hd
  exact getMethod_builtin ⟨_, h1, rfl⟩ PySem.F.plainAttrs_dict slot hty (fun a e => by cases e; exact ⟨_, h1, rfl⟩) (hk _ _ _ h R)
theorem vc_nsget {d : Addr} {m : List (Str × AV)} {x : Str} {v : AV} {Q : AV → AS → Prop} (hd : σ.f d = some (.ns m)) (hx : lk m x = none) (h : Q v σ) : VC K w n (.builtin "dict.get") [.ref d, .str x, v] Q σ := fun A B s vs hr X R ha k E hk => by
  obtain ⟨p, u, q, rfl, hp, hu, rfl⟩ := three_of ha
  obtain ⟨t, rfl⟩ := er_str hu
  rw [er_ref hp]
  obtain ⟨od, h1, es, ep, sl, rfl, hk1, hz, hf⟩ := R.nsAt hd
  refine wpAny_call_entry PySem.F.slot_dict_get ⟨_, h1, rfl⟩ PySem.F.entry_dict_get ?_ (PySem.F.args_dict_get_3 _ _ _)
  show wpAny _ _ (dictGet d (.str x t) >>= _) _ _ s
  refine wpAny_bind ?_
  unfold dictGet
  refine wpAny_holding (wpAny_bind ((PySem.strKind prog w).pyHash (k := x) strK (wpAny_bind (wpAny_dictFind_of (knd := PySem.strKind prog w) (s := { s with toks := s.toks + 1 }) strK h1 rfl hk1 ?_))))
  have hfx := hf x
  rw [hx, nsFind_findBy (w := w), findBy_of_findIdx?] at hfx
  cases hi : es.findIdx? fun e => (PySem.strKind prog w).is x e.key with
  | some i =>
    rw [hi] at hfx
    have hlt : i < es.size := (Array.findIdx?_eq_some_iff_getElem.mp hi).1
    simp [hlt] at hfx
  | none =>
    refine wpAny_pure ?_
    show wpAny _ _ (Builtin.Dict.missed d (.str x t) >>= _) _ _ _
    exact wpAny_bind (wpAny_missed_other (R.sys X hd) (wpAny_pure ⟨_, rfl, hk _ _ _ h R.toks⟩))
theorem NsO.data {m : List (Str × AV)} {es : Array DictEntry} {ep ep' : Nat} {sl : Array (Option Value)} (h : NsO w m ⟨.type "dict", none, .dict es ep, sl⟩) : NsO w m ⟨.type "dict", none, .dict es ep', sl⟩ := by
  obtain ⟨es', ep1, sl', e, a, b, c⟩ := h
  cases e
  exact ⟨es, ep', sl, rfl, a, b, c⟩
theorem va_sub_ns {o i : Expr} {pos : Pos} {v : AV} {Q : Loc → AS → Prop}
    (h : VE K w n env l o (fun a σ1 => VE K w n env l i (fun b σ2 => ∃ d m x, a = .ref d ∧ b = .str x ∧ σ2.f d = some (.ns m) ∧ lk m x = none ∧ m.length ≤ 60 ∧ Q l (σ2.upd d (.ns (lset x v m)))) σ1) σ)
    (he' : ∀ v₀, assign (.Subscript o i pos) env v₀ = (do
      let ov ← holding [v₀] (eval o env)
      let iv ← holding [v₀, ov] (eval i env)
      standAt pos
      holding [v₀, ov, iv] (setItem ov iv v₀)
      release [v₀, ov, iv] []) := by intro _; rfl) : VA K w n env (.Subscript o i pos) v Q l σ := fun v₀ hv A B s hr X he R k E hk => by
  subst hv
  rw [he']
  refine wpAny_bind (wpAny_holding (h A B s hr X he R _ _ fun a σ1 s1 h1 R1 => wpAny_bind (wpAny_holding (h1 A B s1 hr X he R1 _ _ fun b σ2 s2 h2 R2 => wpAny_bind (wpAny_standAt (wpAny_bind (wpAny_holding ?_)))))))
  obtain ⟨d, m, x, ha, hb, hd, hx, hm, hq⟩ := h2
  rw [er_ref ha]
  obtain ⟨t, rfl⟩ := er_str hb
  obtain ⟨od, g1, g2⟩ := R2.rep.nsAt hd
  have hput := g2.put x t v₀
  obtain ⟨es, ep, sl, rfl, hk1, hz, hf⟩ := g2
  have hT : s2.TypeIs (.ref d) "dict" := ⟨_, g1, rfl⟩
  unfold setItem
  refine wpAny_holding (wpAny_bind (wpAny_sequenceKey hT (by decide) ?_))
  refine wpAny_bind (wpAny_callSpecial?_slot (name := Str.ofString "__setitem__") hT slot_dict_setitem (wpAny_call_entry slot_dict_setitem hT entry_dict_setitem ?_ (args_dict_setitem _ _ _)))
  show wpAny _ _ (Builtin.Dict.notOrdered "__setitem__" ⟨[.ref d, .str x t, v₀], []⟩ >>= _) _ _ _
  refine wpAny_bind (wpAny_notOrdered_dict hT ?_)
  show wpAny _ _ (dictSet d (.str x t) v₀ >>= _) _ _ _
  refine wpAny_bind ?_
  unfold dictSet
  refine wpAny_holding (wpAny_bind ((PySem.strKind prog w).pyHash (k := x) strK ?_))
  unfold dictSetHashed
  refine wpAny_holding (wpAny_bind (wpAny_dictFind_of (knd := PySem.strKind prog w) (s := { s2 with toks := s2.toks + 1 }) strK g1 rfl hk1 ?_))
  have hfx := hf x
  rw [hx, nsFind_findBy (w := w), findBy_of_findIdx?] at hfx
  cases hi : es.findIdx? fun e => (PySem.strKind prog w).is x e.key with
  | some i =>
    rw [hi] at hfx
    have hlt : i < es.size := (Array.findIdx?_eq_some_iff_getElem.mp hi).1
    simp [hlt] at hfx
  | none =>
    have hi2 : es.findIdx? (·.key.isStr x) = none := by
      rw [← hi]
      congr 1
      funext e
      exact (strOf_isStr x e.key).symm
    refine wpAny_bind (wpAny_rule (wpAny_updateDictKeys (hz := by unfold sizeLine; omega) (s := { s2 with toks := s2.toks + 1 }) g1 rfl ?_))
    refine wpAny_pure ⟨.none, rfl, wpAny_pure (wpAny_release ?_)⟩
    rw [Obj.putName_eq] at hput
    unfold Obj.putNameByArray at hput
    simp only [hi2] at hput
    refine hk _ _ _ _ hq (R2.upd hd (Heap.SameBut.update ..) (Heap.get?_update_self _ g1 rfl) ?_)
    exact hput
theorem vo_is_same {a : Addr} {Q : AV → AS → Prop} (h : Q (.bool true) σ) : VO K w n .Is (.ref a) (.ref a) Q σ := fun a' b' ha hb A B s hr X R k E hk => by
  rw [er_ref ha, er_ref hb]; exact wpAny_is_ref_self (hk _ _ _ h R)
theorem vm_kept {x C dx : Addr} {od : Obj} {name : Str} {v : Value} {Q : Value × List Value → AS → Prop} (hx : K.lookup x = some (instObj C dx)) (hd : K.lookup dx = some od) (hga : findIn K (.ref C) "__getattribute__" = some (some (.builtin "object.__getattribute__"))) (hgt : findIn K (.ref C) "__getattr__" = some none)
    (hn : findIn K (.ref C) name = some none) (hf : findObj K C (some od) name = some (.value v)) (hh : handedIn v = true) (h : Q (v, []) σ) : VM K w n (.ref x) name Q σ := fun v' pl hv' A B s hr X R k E hk => by
  rw [er_ref hv']
  have I : InstAt s.heap x (instObj C dx) C (some od) := ⟨X.In R _ _ hx, rfl, rfl, X.In R _ _ hd⟩
  exact method_usual (X.In R) I hga hgt hn rfl (get_value (X.In R) I hga hf hh (hk _ _ _ h R.toks))
end
end Mine
end
section
open PySem PySem.W PySem.Calls PyProof.Rows
set_option maxRecDepth 100000
set_option linter.unusedVariables false
set_option linter.unusedSimpArgs false
namespace Mine
structure Hid where
  o : Addr → Option Obj
  g : Nat → Option GenState
noncomputable def Hid.nil : Hid := ⟨fun _ => none, fun _ => none⟩
noncomputable def Hid.add (h : Hid) (a : Addr) (ob : Obj) : Hid := { h with o := fun x => if x = a then some ob else h.o x }
noncomputable def Hid.setg (h : Hid) (i : Nat) (x : Option GenState) : Hid := { h with g := fun j => if j = i then x else h.g j }
noncomputable def Bs.plus (B : Bs) (h : Hid) : Bs := ⟨fun a => (h.o a).or (B.o a), fun i => (h.g i).or (B.g i), B.os⟩
structure Apart (B : Bs) (h : Hid) : Prop where
  o : ∀ a x, h.o a = some x → B.o a = none
  g : ∀ i x, h.g i = some x → B.g i = none
theorem plus_add {B : Bs} {h : Hid} {a : Addr} {ob : Obj} : (B.plus h).add a ob = B.plus (h.add a ob) := by
  unfold Bs.plus Bs.add Hid.add
  congr 1
  funext x
  dsimp only
  by_cases q : x = a
  · rw [if_pos q, if_pos q]; rfl
  · rw [if_neg q, if_neg q]
theorem add_plus {B : Bs} {h : Hid} {a : Addr} {ob : Obj} (hn : h.o a = none) : (B.add a ob).plus h = B.plus (h.add a ob) := by
  unfold Bs.plus Bs.add Hid.add
  congr 1
  funext x
  dsimp only
  by_cases q : x = a
  · rw [if_pos q, if_pos q, q, hn]; rfl
  · rw [if_neg q, if_neg q]
theorem plus_nil {B : Bs} : B.plus Hid.nil = B := rfl
theorem Base.mono {K : Frag} {B B' : Bs} (X : Base K B) (h : ∀ b o, B.o b = some o → B'.o b = some o) : Base K B' :=
  ⟨fun b o e => h _ _ (X.kin b o e), let ⟨ob', es, ep, e, r⟩ := X.blt; ⟨ob', es, ep, h _ _ e, r⟩, X.nolim, X.glob, let ⟨o, e⟩ := X.sysm; ⟨o, h _ _ e⟩⟩
theorem Base.plus {K : Frag} {B : Bs} {h : Hid} (X : Base K B) (ha : Apart B h) : Base K (B.plus h) := X.mono fun b o e => by
  show (h.o b).or (B.o b) = some o
  cases q : h.o b with
  | none => exact e
  | some x => rw [ha.o b x q] at e; cases e
theorem Apart.add {B : Bs} {h : Hid} {a : Addr} {ob : Obj} (ha : Apart B h) (hb : B.o a = none) : Apart B (h.add a ob) := ⟨fun b x e => by
  simp only [Hid.add] at e
  split at e
  · rename_i q; rw [q]; exact hb
  · exact ha.o b x e, ha.g⟩
theorem Apart.addB {B : Bs} {h : Hid} {a : Addr} {ob : Obj} (ha : Apart B h) (hn : h.o a = none) : Apart (B.add a ob) h := ⟨fun b x e => by
  simp only [Bs.add]
  rw [if_neg (fun q => by rw [q, hn] at e; cases e)]
  exact ha.o b x e, ha.g⟩
theorem Apart.off {B : Bs} {h : Hid} {a : Addr} {ob : Obj} (ha : Apart B (h.add a ob)) (hn : h.o a = none) : Apart B h := ⟨fun b x e => ha.o b x (by
  simp only [Hid.add]
  rw [if_neg (fun q => by rw [q, hn] at e; cases e)]
  exact e), ha.g⟩
theorem Apart.setg {B : Bs} {h : Hid} {i : Nat} {x y : GenState} (ha : Apart B h) (e : h.g i = some x) : Apart B (h.setg i (some y)) := ⟨ha.o, fun j z q => by
  simp only [Hid.setg] at q
  split at q
  · rename_i r; rw [r]; exact ha.g i x e
  · exact ha.g j z q⟩
theorem plus_o {B : Bs} {h : Hid} {a : Addr} (e : (B.plus h).o a = none) : h.o a = none ∧ B.o a = none := by
  have e : (h.o a).or (B.o a) = none := e
  cases q : h.o a with
  | none => rw [q] at e; exact ⟨rfl, e⟩
  | some x => rw [q] at e; cases e
theorem o_plus {B : Bs} {h : Hid} {a : Addr} (h1 : h.o a = none) (h2 : B.o a = none) : (B.plus h).o a = none := by
  show (h.o a).or (B.o a) = none
  rw [h1, h2]; rfl
noncomputable def Run1 (M : Model) (A : Around) (c : Code) (t : Sem Fin) (fs : List Frame) (s : Shared) (Post : End → Shared → Prop) : Prop :=
  ∀ Γ p, Γ.code = c → Γ.Woken A → ∃ e s', Runs M Γ p t fs s e s' ∧ e.quiet = true ∧ Post e s'
section
variable {M : Model} {A : Around} {c : Code} {fs : List Frame} {s : Shared} {Post : End → Shared → Prop}
theorem r1_wrap {α : Type} {m : Sem α} {K : α → Sem Fin} {H : Value → Sem Fin} {gd lv}
    (h : wpAny M (A.over c fs) m (fun a s' => Run1 M A c (K a) fs s' Post) (fun x s' => Run1 M A c (H x) fs s' Post) s) : Run1 M A c (m.wrap K H gd lv) fs s Post := by
  rintro Γ p rfl hΓ
  exact runs_wrap_of_wp (Φ := fun e s' => e.quiet = true ∧ Post e s') K H gd lv m (h (Γ.over fs) p (hΓ.over fs)) (fun a p' s' h' => h' Γ p' rfl hΓ) (fun x p' s' h' => h' Γ p' rfl hΓ)
theorem r1_bind {α : Type} {m : Sem α} {K : α → Sem Fin}
    (h : wpAny M (A.over c fs) m (fun a s' => Run1 M A c (K a) fs s' Post) (fun x s' => Run1 M A c (.raise x) fs s' Post) s) : Run1 M A c (m >>= K) fs s Post := by
  rw [Sem.bind_eq_wrap']; exact r1_wrap h
theorem r1_bind_wrap {α β : Type} {m : Sem α} {K : α → Sem β} {K' : β → Sem Fin} {H' : Value → Sem Fin} {gd lv}
    (h : wpAny M (A.over c fs) m (fun a s' => Run1 M A c ((K a).wrap K' H' gd lv) fs s' Post) (fun x s' => Run1 M A c (H' x) fs s' Post) s) : Run1 M A c ((m >>= K).wrap K' H' gd lv) fs s Post := by
  rw [Sem.bind_eq_wrap', Sem.wrap_wrap]; exact r1_wrap h
theorem r1_at {p' : Pos} {k : Unit → Sem Fin} (h : Run1 M A c (k ()) fs s Post) : Run1 M A c (.at p' k) fs s Post :=
  r1_wrap (m := standAt p') (K := k) (H := .raise) (gd := id) (lv := id) (wpAny_standAt h)
theorem r1_point {l : List Value} {k : Unit → Sem Fin} (h : Run1 M A c (k ()) fs s Post) : Run1 M A c (.point l k) fs s Post :=
  r1_wrap (m := point) (K := k) (H := .raise) (gd := id) (lv := fun _ => l) (wpAny_point h)
theorem r1_call {c' : Code} {h g l} {k : Result → Sem Fin} (hc : ∀ p, Run1 M A c' (M.den c') (.ret k h g l c p [] :: fs) s Post) : Run1 M A c (.call c' h g l k) fs s Post := by
  rintro Γ p rfl hΓ
  obtain ⟨e, s', hr, he⟩ := hc p (Γ.goto c') p rfl (hΓ.goto c')
  exact ⟨e, s', runs_call_seg hr, he⟩
theorem r1_leaf {k h g l c₁ p₁ kp} (r : Result) (hk : Run1 M A c₁ (k r) fs s Post) : Run1 M A c (leafOf r) (.ret k h g l c₁ p₁ kp :: fs) s Post := by
  rintro Γ p rfl hΓ
  obtain ⟨e, s', hr, he⟩ := hk (Γ.goto c₁) p₁ rfl (hΓ.goto c₁)
  exact ⟨e, s', Runs.pop r hr, he⟩
theorem r1_again {c' : Code} (hq : c'.quiet = true) (hc : Run1 M A c' (M.den c') fs s Post) : Run1 M A c (.pure (.again c')) fs s Post := by
  rintro Γ p rfl hΓ
  obtain ⟨e, s', hr, he⟩ := hc (Γ.goto c') p rfl (hΓ.goto c')
  exact ⟨e, s', Runs.head (c₁ := c') (fun _ _ x => .again hq x) hr, he⟩
theorem r1_end (r : Result) (h : Post (.ret r) s) : Run1 M A c (leafOf r) [] s Post := by
  rintro Γ p rfl _
  exact ⟨.ret r, s, Runs.leaf r, rfl, h⟩
theorem r1_yield {v g l} {k : Resume → Sem Fin} (hfs : splitAtGen fs = none) (hg : g = false) (hfg : fs.any Frame.guarded = false) (h : ∀ p, Post (.susp v g l k c p fs) s) : Run1 M A c (.yield v g l k) fs s Post := by
  rintro Γ p rfl _
  exact ⟨_, s, Runs.yield' fs hfs, by simp [End.quiet, hg, hfg], h p⟩
end
noncomputable def WakesTo (M : Model) (A : Around) (gs : GenState) (s : Shared) (Post : End → Shared → Prop) : Prop :=
  match gs with
  | .fresh c => Run1 M A c (M.den c) [] s Post
  | .suspended k _ c _ fs _ => Run1 M A c (k (.send .none)) fs s Post
  | _ => False
theorem wpAny_wake {M : Model} {A : Around} {E : Value → Shared → Prop} {s : Shared} {g : Nat} {gs : GenState} {Post : End → Shared → Prop} {l : List Value} {α : Type} {k : GenResult → Sem α} {Q : α → Shared → Prop} (hg : s.gens[g]? = some gs)
    (hgo : WakesTo M A gs (s.setGen g .running) Post) (hk : ∀ e s₁, e.quiet = true → Post e s₁ → wpAny M A (k e.result) Q E (s₁.setGen g e.genState)) : wpAny M A (.resume g (.send .none) l k) Q E s := by
  intro Γ p hΓ
  rw [Sem.wp_resume]
  cases gs with
  | fresh c =>
    obtain ⟨e₁, s₁, hr, hq, he⟩ := hgo (Γ.wake c p) p rfl (hΓ.wake c p)
    exact ⟨_, _, by unfold Wakes; rw [hg]; exact ⟨e₁, s₁, hr, hq, rfl, rfl⟩, hk e₁ s₁ hq he Γ p hΓ⟩
  | suspended k₀ l₀ c₀ p₀ fs₀ cl =>
    obtain ⟨e₁, s₁, hr, hq, he⟩ := hgo (Γ.wake c₀ p) p₀ rfl (hΓ.wake c₀ p)
    exact ⟨_, _, by unfold Wakes; rw [hg]; exact ⟨e₁, s₁, hr, hq, rfl, rfl⟩, hk e₁ s₁ hq he Γ p hΓ⟩
  | running => exact hgo.elim
  | finished => exact hgo.elim
structure GP where
  w : World
  K : Frag
  n : Nat
  g : Nat
  fin : Result
  ok : Nat → AS → Prop
  yld : Nat → AS → AV → AS → Prop
  fine : Nat → AS → AS → Prop
noncomputable def PostG (P : GP) (B : Bs) (i : Nat) (z : AS) (next : Option (GenState → Hid → Prop)) (e : End) (s₁ : Shared) : Prop :=
  match e with
  | .ret r => r = P.fin ∧ ∃ σ', P.fine i z σ' ∧ RepB P.w (B.plus (Hid.nil.setg P.g (some .running))) σ' s₁
  | .susp v g l k c p fs => ∃ nx, next = some nx ∧ ∃ h' σ', h'.g P.g = some .running ∧ Apart B h' ∧ P.yld i z (er v) σ' ∧ RepB P.w (B.plus h') σ' s₁ ∧ nx (End.susp v g l k c p fs).genState h'
noncomputable def Alive (P : GP) : Nat → Nat → GenState → Hid → Prop
  | 0, i, gs, h => ∀ A B σ s, Room (P.n + 1) A → Base P.K B → h.g P.g = some .running → Apart B h → P.ok i σ → RepB P.w (B.plus h) σ s → WakesTo (model prog P.w) A gs s (PostG P B i σ none)
  | f + 1, i, gs, h => ∀ A B σ s, Room (P.n + 1) A → Base P.K B → h.g P.g = some .running → Apart B h → P.ok i σ → RepB P.w (B.plus h) σ s → WakesTo (model prog P.w) A gs s (PostG P B i σ (some fun gs' h' => Alive P f (i + 1) gs' h'))
noncomputable def nextOf (P : GP) (f i : Nat) : Option (GenState → Hid → Prop) := match f with | 0 => none | f + 1 => some fun gs h => Alive P f (i + 1) gs h
theorem alive_iff {P : GP} {f i : Nat} {gs : GenState} {h : Hid} : Alive P f i gs h ↔ ∀ A B σ s, Room (P.n + 1) A → Base P.K B → h.g P.g = some .running → Apart B h → P.ok i σ → RepB P.w (B.plus h) σ s → WakesTo (model prog P.w) A gs s (PostG P B i σ (nextOf P f i)) := by
  cases f <;> rfl
structure GFr (c : Code) (fs : List Frame) : Prop where
  split : splitAtGen fs = none
  calm : fs.any Frame.guarded = false
  hand : ∀ A : Around, A.handled = none → (A.over c fs).handled = none
  dep : frameCount (fs.map Frame.where_) + c.weight ≤ 1
  un : unitsOf (fs.map Frame.where_) + c.cUnits ≤ 3
theorem GFr.room {c : Code} {fs : List Frame} {n : Nat} {A : Around} (F : GFr c fs) (r : Room (n + 1) A) : Room n (A.over c fs) := by
  refine ⟨F.hand A r.1, ?_, ?_⟩
  · have := r.2.1; have := F.dep
    show A.depth + frameCount (fs.map Frame.where_) + c.weight + 4 * n < 900
    omega
  · have := r.2.2; have := F.un
    show A.units + unitsOf (fs.map Frame.where_) + c.cUnits + 40 * n < 9000
    omega
structure GSt where
  f : Nat
  i : Nat
  z : AS
  l : Loc
  σ : AS
abbrev GRun (P : GP) (f i : Nat) (B : Bs) (z : AS) (A : Around) (c : Code) (t : Sem Fin) (fs : List Frame) (s : Shared) : Prop := Run1 (model prog P.w) A c t fs s (PostG P B i z (nextOf P f i))
noncomputable def GY (P : GP) (env : Env) {α β : Type} (ab : α → β) (t : Sem α) (Q : β → GSt → Prop) (x : GSt) : Prop :=
  ∀ (A : Around) (B : Bs) (h : Hid) (s : Shared) (c : Code) (fs : List Frame) (K : α → Sem Fin) (H : Value → Sem Fin) (gd : Bool → Bool) (lv : List Value → List Value), GFr c fs → gd false = false → Room (P.n + 1) A → Base P.K B → h.g P.g = some .running → Apart B h → EnvOK env → env.scope.isCoroutine = false → RepF P.w (B.plus h) env x.l x.σ s →
    (∀ A' B' v (y : GSt) s', Room (P.n + 1) A' → Base P.K B' → Apart B' h → Q (ab v) y → RepF P.w (B'.plus h) env y.l y.σ s' → GRun P y.f y.i B' y.z A' c (K v) fs s') → GRun P x.f x.i B x.z A c (t.wrap K H gd lv) fs s
abbrev GS (P : GP) (env : Env) (st : Stmt) (Q : AF → GSt → Prop) (x : GSt) : Prop := GY P env ef (exec st env) Q x
abbrev GB (P : GP) (env : Env) (st : List Stmt) (Q : AF → GSt → Prop) (x : GSt) : Prop := GY P env ef (execs st env) Q x
section
variable {P : GP} {env : Env} {x : GSt} {f i : Nat} {z σ : AS} {l : Loc}
theorem gy_of {α β : Type} {ab : α → β} {t : Sem α} {Q : β → GSt → Prop} (h : VY P.K P.w P.n env ab t (fun v l' σ' => Q v ⟨f, i, z, l', σ'⟩) l σ) : GY P env ab t Q ⟨f, i, z, l, σ⟩ := fun A B hd s c fs K H gd lv F hgd hr X hg ha he hco R hk =>
  r1_wrap (h (A.over c fs) (B.plus hd) s (F.room hr) (X.plus ha) he R _ _ fun v l' σ' s' q R' => hk A B v ⟨f, i, z, l', σ'⟩ s' hr X ha q R')
theorem gb_nil {Q : AF → GSt → Prop} (h : Q .next x) : GB P env [] Q x := fun A B hd s c fs K H gd lv F hgd hr X hg ha he hco R hk => hk A B .next x s hr X ha h R
theorem gb_cons {st : Stmt} {rest : List Stmt} {Q : AF → GSt → Prop} (h : GS P env st (fun fl y => match fl with | .next => GB P env rest Q y | fl => Q fl y) x) : GB P env (st :: rest) Q x :=
  fun A B hd s c fs K H gd lv F hgd hr X hg ha he hco R hk => by
  rw [execs_cons_wrap]
  refine h A B hd s c fs _ H gd lv F hgd hr X hg ha he hco R fun A' B' v y s' hr' X' ha' q R' => ?_
  cases v with
  | next => exact q A' B' hd s' c fs K H gd lv F hgd hr' X' hg ha' he hco R' hk
  | brk => exact hk A' B' .brk y s' hr' X' ha' q R'
  | cont => exact hk A' B' .cont y s' hr' X' ha' q R'
  | ret v => exact hk A' B' (.ret v) y s' hr' X' ha' q R'
theorem gs_if {test : Expr} {body orelse : List Stmt} {pos : Pos} {Q : AF → GSt → Prop} (h : VT P.K P.w P.n env l test (fun b σ1 => if b = true then GB P env body Q ⟨f, i, z, l, σ1⟩ else GB P env orelse Q ⟨f, i, z, l, σ1⟩) σ) : GS P env (.If test body orelse pos) Q ⟨f, i, z, l, σ⟩ :=
  fun A B hd s c fs K H gd lv F hgd hr X hg ha he hco R hk => by
  rw [exec_If]
  refine r1_bind_wrap (wpAny_standAt (r1_bind_wrap (h (A.over c fs) (B.plus hd) s (F.room hr) (X.plus ha) he R _ _ fun b σ1 s1 h1 R1 => ?_)))
  cases b with
  | true => exact (by simp only [id_eq, if_true] at h1 ⊢; exact h1 A B hd s1 c fs K H gd lv F hgd hr X hg ha he hco R1 hk)
  | false => exact (by simp only [id_eq, Bool.false_eq_true, if_false] at h1 ⊢; exact h1 A B hd s1 c fs K H gd lv F hgd hr X hg ha he hco R1 hk)
end
end Mine
end
section
open PySem PySem.W PySem.Calls PyProof.Rows
set_option maxRecDepth 100000
set_option linter.unusedVariables false
set_option linter.unusedSimpArgs false
namespace Mine
section
variable {w : World} {K : Frag} {B : Bs} {h : Hid} {σ : AS} {s : Shared} {env : Env} {l : Loc}
theorem RepB.setGen (R : RepB w (B.plus h) σ s) {i : Nat} {x y : GenState} (e : (B.plus h).g i = some y) (hx : x.bare = true) : RepB w (B.plus (h.setg i (some x))) σ (s.setGen i x) := by
  have hi : i < s.gens.size := by
    have := R.gens.1 i y e
    rcases Nat.lt_or_ge i s.gens.size with h' | h'
    · exact h'
    · rw [Array.getElem?_eq_none h'] at this; cases this
  refine ⟨R.keep, R.apart, R.objs, R.dom, R.hi, R.os, fun j z q => ?_, fun z q => ?_⟩
  · show (s.gens.setIfInBounds i x)[j]? = some z
    by_cases hj : j = i
    · subst hj
      have : (some x).or (B.g j) = some z := by simpa [Bs.plus, Hid.setg] using q
      cases this
      simp [hi]
    · have q' : (B.plus h).g j = some z := by simpa [Bs.plus, Hid.setg, hj] using q
      rw [Array.getElem?_setIfInBounds_ne (Ne.symm hj)]
      exact R.gens.1 j z q'
  · have q : z ∈ s.gens.setIfInBounds i x := q
    rcases Array.mem_or_eq_of_mem_setIfInBounds q with q | q
    · exact R.gens.2 z q
    · rw [q]; exact hx
theorem RepB.weak {B' : Bs} (R : RepB w B σ s) (ho : ∀ a o, B'.o a = some o → B.o a = some o) (hg : ∀ i x, B'.g i = some x → B.g i = some x) (hs : B'.os = B.os) : RepB w B' σ s :=
  ⟨fun a o e => R.keep a o (ho a o e), fun a o e => (by
    cases q : B'.o a with
    | none => rfl
    | some x => have := R.apart a o e; rw [ho a x q] at this; cases this), R.objs, R.dom, R.hi, by rw [R.os, hs], fun i x e => R.gens.1 i x (hg i x e), R.gens.2⟩
noncomputable def AS.put (σ : AS) (a : Addr) (o : AO) : AS := ⟨fun x => if x = a then some o else σ.f x, max σ.hi (a + 1)⟩
theorem AS.put_f (σ : AS) (a : Addr) (o : AO) (x : Addr) : (σ.put a o).f x = if x = a then some o else σ.f x := rfl
noncomputable def AS.dels : AS → List (Addr × AO) → AS
  | σ, [] => σ
  | σ, (a, _) :: r => (σ.del a).dels r
noncomputable def AS.puts : AS → List (Addr × AO) → AS
  | σ, [] => σ
  | σ, (a, o) :: r => (σ.puts r).put a o
noncomputable def Owns : AS → List (Addr × AO) → Prop
  | _, [] => True
  | σ, (a, o) :: r => σ.f a = some o ∧ Owns (σ.del a) r
theorem RepB.put {a : Addr} {o : Obj} {ao : AO} (R : RepB w (B.plus (h.add a o)) σ s) (hr : RepO w ao o) (hn : (B.plus h).o a = none) : RepB w (B.plus h) (σ.put a ao) s := by
  rw [← plus_add] at R
  obtain ⟨R1, h1, h2⟩ := R.show hn
  refine ⟨R1.keep, fun b x e => ?_, fun b x e => ?_, fun b x e => ?_, ?_, R1.os, R1.gens⟩
  · rw [AS.put_f] at e
    split at e
    · rename_i q; rw [q]; exact hn
    · exact R1.apart b x e
  · rw [AS.put_f] at e
    split at e
    · rename_i q; cases e; exact ⟨o, q ▸ h1, hr⟩
    · exact R1.objs b x e
  · rw [AS.put_f] at e
    show b < max σ.hi (a + 1)
    split at e
    · rename_i q; rw [q]; exact Nat.lt_of_lt_of_le (Nat.lt_succ_self _) (Nat.le_max_right ..)
    · exact Nat.lt_of_lt_of_le (R1.dom b x e) (Nat.le_max_left ..)
  · exact Nat.max_le.mpr ⟨R1.hi, Heap.lt_size h1⟩
theorem RepB.lifts : ∀ (own : List (Addr × AO)) {h : Hid} {σ : AS}, RepB w (B.plus h) σ s → Owns σ own → Apart B h → ∃ h2, RepB w (B.plus h2) (σ.dels own) s ∧ h2.g = h.g ∧ Apart B h2 ∧ (∀ b x, h.o b = some x → h2.o b = some x) ∧ (∀ p, p ∈ own → ∃ x, h2.o p.1 = some x) ∧
    ∀ B' σ' s', RepB w (B'.plus h2) σ' s' → Apart B' h2 → Apart B' h ∧ RepB w (B'.plus h) (σ'.puts own) s'
  | [], h, σ, R, _, ha => ⟨h, R, rfl, ha, fun _ _ e => e, (fun p hp => by cases hp), fun B' σ' s' R' ha' => ⟨ha', R'⟩⟩
  | (a, ao) :: r, h, σ, R, ho, ha => by
    obtain ⟨e, ho⟩ := ho
    obtain ⟨o, h1, h2, h3⟩ := R.lift e
    rw [plus_add] at h3
    have hn := plus_o (R.apart a ao e)
    obtain ⟨h4, R4, g4, a4, m4, o4, back⟩ := RepB.lifts r h3 ho (ha.add hn.2)
    have me : h4.o a = some o := m4 a o (by simp [Hid.add])
    refine ⟨h4, R4, by rw [g4]; rfl, a4, fun b x e => m4 b x ?_, fun p hp => ?_, fun B' σ' s' R' ha' => ?_⟩
    · simp only [Hid.add]
      rw [if_neg (fun q => by rw [q, hn.1] at e; cases e)]
      exact e
    · rcases List.mem_cons.mp hp with rfl | q
      · exact ⟨_, me⟩
      · exact o4 p q
    obtain ⟨a5, R5⟩ := back B' σ' s' R' ha'
    have a6 := a5.off hn.1
    have hB : B'.o a = none := a5.o a o (by simp [Hid.add])
    exact ⟨a6, R5.put h2 (o_plus hn.1 hB)⟩
theorem RepF.hideP (R : RepF w (B.plus h) env l σ s) (ha : Apart B h) : ∃ ob, RepB w (B.plus (h.add env.locals ob)) σ s ∧ Apart B (h.add env.locals ob) ∧ h.o env.locals = none ∧
    ∀ B' σ' s', RepB w (B'.plus (h.add env.locals ob)) σ' s' → Apart B' (h.add env.locals ob) → Apart B' h ∧ RepF w (B'.plus h) env l σ' s' := by
  obtain ⟨m, x, y⟩ := R.ns
  obtain ⟨o, es, ep, ho, r⟩ := id x
  obtain ⟨n1, n2⟩ := plus_o R.lb
  have R1 := R.rep.hide ho R.lo
  rw [plus_add] at R1
  refine ⟨o, R1, ha.add n2, n1, fun B' σ' s' R' ha' => ?_⟩
  have hB : B'.o env.locals = none := ha'.o env.locals o (by simp [Hid.add])
  rw [← plus_add] at R'
  obtain ⟨a, b, c⟩ := R'.show (o_plus n1 hB)
  exact ⟨ha'.off n1, a, ⟨m, ⟨o, es, ep, b, r⟩, y⟩, c, o_plus n1 hB⟩
end
section
variable {P : GP} {env : Env} {x : GSt} {f i : Nat} {z σ : AS} {l : Loc}
theorem nextOf_succ : nextOf P (f + 1) i = some fun gs h => Alive P f (i + 1) gs h := rfl
theorem gs_yield {e : Expr} {ypos pos : Pos} {Q : AF → GSt → Prop}
    (h : VE P.K P.w P.n env l e (fun v σ1 => ∃ f0 own, f = f0 + 1 ∧ Owns σ1 own ∧ P.yld i z v (σ1.dels own) ∧ ∀ σ2, P.ok (i + 1) σ2 → (∀ p, p ∈ own → σ2.f p.1 = none) → Q .next ⟨f0, i + 1, σ2, l, σ2.puts own⟩) σ) (hi : interactive env = false := by rfl) :
    GS P env (.Expr (.Yield (some e) ypos) pos) Q ⟨f, i, z, l, σ⟩ := fun A B hd s c fs K H gd lv F hgd hr X hg ha he hco R hk => by
  show GRun P f i B z A c ((exec _ env).wrap K H gd lv) fs s
  rw [exec_Expr env _ pos hi rfl]
  show GRun P f i B z A c (.at pos fun _ => ((eval e env >>= fun v => (standAt ypos >>= fun _ => yieldOut env v)) >>= fun x => dropValue (.Yield (some e) ypos) pos x).wrap K H gd lv) fs s
  have hy : ∀ v, yieldOut env v = yieldValue v := fun v => by simp only [yieldOut, hco, Bool.false_eq_true, if_false]
  simp only [hy]
  refine r1_at ?_
  rw [Sem.bind_eq_wrap', Sem.bind_eq_wrap', Sem.wrap_wrap, Sem.wrap_wrap]
  refine r1_wrap (h (A.over c fs) (B.plus hd) s (F.room hr) (X.plus ha) he R _ _ fun v σ1 s1 h1 R1 => ?_)
  refine r1_at (r1_yield F.split hgd F.calm fun p => ?_)
  obtain ⟨f0, own, rfl, ho, hyl, hq⟩ := h1
  obtain ⟨ob, R2, a2, n2, back2⟩ := R1.hideP ha
  obtain ⟨h3, R3, g3, a3, m3, o3, back3⟩ := R2.lifts own ho a2
  have hrun : h3.g P.g = some .running := by rw [g3]; exact hg
  refine ⟨_, nextOf_succ, h3, _, hrun, a3, hyl, R3, ?_⟩
  refine alive_iff.mpr fun A' B' σ2 s2 hr' X' _ ha' hok' R' => ?_
  obtain ⟨a4, R4⟩ := back3 B' σ2 s2 R' ha'
  obtain ⟨a5, R5⟩ := back2 B' _ s2 R4 a4
  refine hk A' B' .next ⟨f0, i + 1, σ2, l, σ2.puts own⟩ s2 hr' X' a5 (hq σ2 hok' fun p hp => ?_) R5
  obtain ⟨x, hx⟩ := o3 p hp
  cases q : σ2.f p.1 with
  | none => rfl
  | some ao => have := (plus_o (R'.apart _ _ q)).1; rw [hx] at this; cases this
theorem it_turn {w : World} {K : Frag} {A : Around} {E : Value → Shared → Prop} {It : Addr} {St : Nat → Obj → Prop} {nxt : Nat → AS → Option AV} {ok : AS → Prop} {o : Obj} {j : Nat} {B0 : Bs} {s : Shared} (hh : A.handled = none) (X : Base K B0) (IT : ItOK K w It St nxt ok) (st : St j o) (hok : ok σ) (hb : B0.o It = none) (hIL : It ≠ env.locals) (hLb : B0.o env.locals = none)
    (RF : RepF w (B0.add It o) env l σ s) : wpAny (model prog w) A (pyNext (.ref It)) (fun r s' => match r with
      | none => nxt j σ = none ∧ RepF w B0 env l σ s'
      | some v => ∃ o', nxt j σ = some (er v) ∧ St (j + 1) o' ∧ RepF w (B0.add It o') env l σ s') E s := by
  have XI : Base K (B0.add It o) := X.add hb
  obtain ⟨ob', Rh', Xh', back'⟩ := RF.hide XI
  have hbI : (B0.add env.locals ob').o It = none := by simp only [Bs.add]; rw [if_neg hIL]; exact hb
  have nsL : ∀ o'' σ'' s'', RepB w ((B0.add env.locals ob').add It o'') σ'' s'' → RepF w (B0.add It o'') env l σ'' s'' := fun o'' σ'' s'' Rx => by
    have Ry := (repB_comm hIL).mpr Rx
    obtain ⟨m', x', y'⟩ := RF.ns
    obtain ⟨o3, es, ep, ho3, r3⟩ := id x'
    have hob : ob' = o3 := Option.some.inj ((Rh'.keep env.locals ob' (by simp [Bs.add])).symm.trans ho3)
    subst hob
    have hLI : (B0.add It o'').o env.locals = none := by simp only [Bs.add]; rw [if_neg hIL.symm]; exact hLb
    obtain ⟨a1, b1, c1⟩ := Ry.show hLI
    exact ⟨a1, ⟨m', ⟨ob', es, ep, b1, r3⟩, y'⟩, c1, hLI⟩
  have Rq := (repB_comm hIL).mp Rh'
  cases hv : nxt j σ with
  | none =>
    refine IT.done j A (B0.add env.locals ob') s σ o _ _ hh (X.add hLb) hbI Rq st hok hv fun s'' R'' => ?_
    obtain ⟨m', x', y'⟩ := RF.ns
    obtain ⟨o3, es, ep, ho3, r3⟩ := id x'
    have hob : ob' = o3 := Option.some.inj ((Rh'.keep env.locals ob' (by simp [Bs.add])).symm.trans ho3)
    subst hob
    obtain ⟨a1, b1, c1⟩ := R''.show hLb
    exact ⟨rfl, a1, ⟨m', ⟨ob', es, ep, b1, r3⟩, y'⟩, c1, hLb⟩
  | some v =>
    refine IT.item j A (B0.add env.locals ob') s σ o v _ _ hh (X.add hLb) hbI Rq st hok hv fun v' o'' s'' hv' st'' R'' => ?_
    exact ⟨o'', by rw [hv'], st'', nsL o'' σ s'' R''⟩
noncomputable def GLoop (P : GP) (env : Env) (target : Expr) (body : List Stmt) (nxt : Nat → AS → Option AV) (ok : AS → Prop) (Q : AF → GSt → Prop) (x : GSt) : Prop :=
  ∃ (I : Nat → GSt → Prop) (N : Nat), I 0 x ∧ ∀ j y, I j y → ok y.σ ∧ (∀ v, nxt j y.σ = some v → j < N ∧ VA P.K P.w P.n env target v (fun l2 σ2 => GB P env body (fun fl y' => match fl with
      | .next => I (j + 1) y'
      | .cont => I (j + 1) y'
      | .brk => Q .next y'
      | .ret v => Q (.ret v) y') ⟨y.f, y.i, y.z, l2, σ2⟩) y.l y.σ) ∧ (nxt j y.σ = none → Q .next y)
theorem GFr.ret {c c' : Code} {fs : List Frame} (F : GFr c fs) {k : Result → Sem Fin} {lv : List Value} {p : Pos} (h1 : c'.weight = 0) (h2 : c'.cUnits = 0) : GFr c' (.ret k none false lv c p [] :: fs) where
  split := by show (splitAtGen fs).map _ = none; rw [F.split]; rfl
  calm := by show (false || fs.any Frame.guarded) = false; rw [F.calm]; rfl
  hand := fun A hA => by
    have := F.hand A hA
    exact this
  dep := by
    show frameCount ((c, p) :: fs.map Frame.where_) + c'.weight ≤ 1
    rw [frameCount_cons, h1]; have := F.dep; omega
  un := by
    show unitsOf ((c, p) :: fs.map Frame.where_) + c'.cUnits ≤ 3
    rw [unitsOf_cons, h2]; have := F.un; omega
theorem gs_for {target iter : Expr} {body : List Stmt} {pos : Pos} {Q : AF → GSt → Prop}
    (h : VE P.K P.w P.n env l iter (fun x σ1 => VIt P.K P.w P.n x (fun nxt ok σ2 => GLoop P env target body nxt ok Q ⟨f, i, z, l, σ2⟩) σ1) σ)
    (hs : ∀ x, foldedSetIterable iter env x = pure x := by intro _; rfl) : GS P env (.For target iter body [] pos) Q ⟨f, i, z, l, σ⟩ := fun A B hd s c fs K H gd lv F hgd hr X hg ha he hco R hk => by
  show GRun P f i B z A c ((exec _ env).wrap K H gd lv) fs s
  rw [exec_For]
  refine r1_bind_wrap (wpAny_standAt (r1_bind_wrap (h (A.over c fs) (B.plus hd) s (F.room hr) (X.plus ha) he R _ _ fun x σ1 s1 h1 R1 => ?_)))
  refine r1_bind_wrap (wpAny_of_eq (hs x) (r1_bind_wrap (wpAny_standAt (r1_bind_wrap (wpAny_holding ?_)))))
  refine vitF h1 (A.over c fs) (B.plus hd) s1 (F.room hr) (X.plus ha) R1 _ _ fun It St nxt ok o σ2 s2 IT st hb hIL R2 hq => ?_
  obtain ⟨I, N, h0, step⟩ := hq
  obtain ⟨hn, hbB⟩ := plus_o hb
  obtain ⟨hLn, hLB⟩ := plus_o R.lb
  refine r1_call fun p => ?_
  have hgd' : gd false = false := hgd
  rw [hgd']
  have loop : ∀ (m j : Nat) (y : GSt) (o : Obj) (A : Around) (B : Bs) (s : Shared), N - j = m → I j y → St j o → Room (P.n + 1) A → Base P.K B → Apart B hd → B.o It = none → RepF P.w (B.plus (hd.add It o)) env y.l y.σ s →
      ∀ (fs' : List Frame), (∀ c' v (y : GSt) A' B' s', Room (P.n + 1) A' → Base P.K B' → Apart B' hd → Q (ef v) y → RepF P.w (B'.plus hd) env y.l y.σ s' → GRun P y.f y.i B' y.z A' c' (leafOf (.ok v)) fs' s') → GFr (.forLoop target (.ref It) body [] env) fs' →
      GRun P y.f y.i B y.z A (.forLoop target (.ref It) body [] env) ((model prog P.w).den (.forLoop target (.ref It) body [] env)) fs' s := by
    intro m
    induction m using Nat.strongRecOn with
    | ind m ih =>
    intro j y o A B s hm hI st hr X ha hbB R fs' hk' F'
    obtain ⟨hok, hsome, hnone⟩ := step j y hI
    show GRun P y.f y.i B y.z A _ ((forTurn target (.ref It) body [] env).onRaise (fun x => do noteFrame x env; theTreesLotGoes x)) fs' s
    rw [Sem.onRaise_eq_wrap]
    unfold forTurn
    refine r1_bind_wrap (wpAny_standAt (r1_bind_wrap (wpAny_onRaise ?_)))
    rw [← plus_add] at R
    refine wpAny_mono (it_turn (F'.room hr).1 (X.plus ha) IT st hok (o_plus hn hbB) hIL (o_plus hLn (plus_o (by have := R.lb; simp only [Bs.add] at this; rw [if_neg hIL.symm] at this; exact this)).2) R) (fun r s' hr2 => ?_) fun _ _ e => e
    cases r with
    | none =>
      obtain ⟨hv, R'⟩ := hr2
      exact r1_again rfl (hk' _ .next y A B s' hr X ha (hnone hv) R')
    | some v =>
      obtain ⟨o', hv, st', R'⟩ := hr2
      obtain ⟨hlt, hbody⟩ := hsome (er v) hv
      obtain ⟨Ty, vs, hc, hd', hT⟩ := IT.plain _ _ st'
      refine r1_bind_wrap (letOwned R'.rep.it hc hd' hT ?_)
      have a1 : Apart B (hd.add It o') := ha.add hbB
      rw [plus_add] at R'
      refine r1_bind_wrap (hbody v rfl (A.over _ fs') (B.plus (hd.add It o')) s' (F'.room hr) (X.plus a1) he R' _ _ fun _ l2 σ2 s3 h3 R3 => ?_)
      rw [Sem.bind_eq_wrap', Sem.wrap_wrap]
      refine h3 A B (hd.add It o') s3 _ fs' _ _ _ _ F' rfl hr X hg a1 he hco R3 fun A' B' fl y' s4 hr4 X4 a4 h4 R4 => ?_
      have hB4 : B'.o It = none := a4.o It o' (by simp [Hid.add])
      have a5 := a4.off hn
      have drop : RepF P.w (B'.plus hd) env y'.l y'.σ s4 := by
        rw [← plus_add] at R4
        obtain ⟨q1, q2, q3⟩ := R4.rep.show (o_plus hn hB4)
        have := R4.lb
        simp only [Bs.add] at this
        rw [if_neg hIL.symm] at this
        exact ⟨q1, R4.ns, R4.lo, this⟩
      cases fl with
      | next => exact r1_again rfl (ih (N - (j + 1)) (by omega) (j + 1) y' o' A' B' s4 rfl h4 st' hr4 X4 a5 hB4 R4 fs' hk' F')
      | cont => exact r1_again rfl (ih (N - (j + 1)) (by omega) (j + 1) y' o' A' B' s4 rfl h4 st' hr4 X4 a5 hB4 R4 fs' hk' F')
      | brk => exact hk' _ .next y' A' B' s4 hr4 X4 a5 h4 drop
      | ret v => exact hk' _ (.ret v) y' A' B' s4 hr4 X4 a5 h4 drop
  refine loop (N - 0) 0 ⟨f, i, z, l, σ2⟩ o A B s2 rfl h0 st hr X ha hbB (by rw [← plus_add]; exact R2) _ (fun _ v y A' B' s' hr' X' ha' hq R' => r1_leaf (.ok v) ?_) (F.ret rfl rfl)
  exact hk A' B' v y s' hr' X' ha' hq R'
end
end Mine
end
section
open PySem PySem.W PySem.Calls PyProof.Rows
set_option maxRecDepth 100000
set_option linter.unusedVariables false
set_option linter.unusedSimpArgs false
namespace Mine
noncomputable def genObj (g : Nat) (o : Obj) : Prop := ∃ nm qn, o = { cls := .type "generator", data := .fields #[.int g 0, nm, qn] }
noncomputable def GenAt (P : GP) (It : Addr) (hd : Hid) (f i : Nat) : Prop := ∃ gs h0 o, Alive P f i gs h0 ∧ h0.g P.g = some .running ∧ h0.o It = none ∧ genObj P.g o ∧ gs.bare = true ∧ hd = (h0.add It o).setg P.g (some gs)
theorem setg_back {h : Hid} {g : Nat} {x y : GenState} (e : h.g g = some x) : (h.setg g (some y)).setg g (some x) = h := by
  obtain ⟨o, q⟩ := h
  unfold Hid.setg
  congr 1
  funext j
  dsimp only at e ⊢
  by_cases r : j = g
  · rw [if_pos r, r, e]
  · rw [if_neg r, if_neg r]
section
variable {P : GP} {B : Bs} {σ : AS} {s : Shared} {A : Around} {It : Addr} {hd : Hid} {f i : Nat}
theorem gen_next {k : Option Value → Shared → Prop} {E : Value → Shared → Prop} (hfin : P.fin = .ok .next ∨ P.fin = .ok (.ret .none)) (hr : Room (P.n + 2) A) (X : Base P.K B) (ga : GenAt P It hd f i) (ha : Apart B hd) (hok : P.ok i σ) (R : RepB P.w (B.plus hd) σ s)
    (hy : ∀ v f0 hd' σ' s', f = f0 + 1 → P.yld i σ (er v) σ' → GenAt P It hd' f0 (i + 1) → Apart B hd' → RepB P.w (B.plus hd') σ' s' → k (some v) s')
    (hdn : ∀ σ' s', P.fine i σ σ' → RepB P.w B σ' s' → k none s') : wpAny (model prog P.w) A (pyNext (.ref It)) k E s := by
  obtain ⟨gs, h0, o, al, hrun, hn, ⟨nm, qn, ho⟩, hbare, rfl⟩ := ga
  have hIt : s.heap.get? It = some o := R.keep It o (by simp [Bs.plus, Hid.setg, Hid.add])
  have hg : s.heap.IsGen It P.g := ⟨o, nm, qn, hIt, by rw [ho], by rw [ho], by rw [ho]⟩
  have hgs : s.gens[P.g]? = some gs := R.gens.1 P.g gs (by simp [Bs.plus, Hid.setg])
  have hl := (X.plus ha).noLimit R
  have hbIt : B.o It = none := ha.o It o (by simp [Hid.setg, Hid.add])
  have hbg : B.g P.g = none := ha.g P.g gs (by simp [Hid.setg])
  have R1 := R.setGen (x := .running) (y := gs) (i := P.g) (by simp [Bs.plus, Hid.setg]) rfl
  rw [setg_back (h := h0.add It o) (x := .running) hrun, ← add_plus hn] at R1
  have a0 : Apart B h0 := ⟨fun a x e => ha.o a x (by
    simp only [Hid.setg, Hid.add]
    rw [if_neg (fun q => by rw [q, hn] at e; cases e)]
    exact e), fun j x e => by
    by_cases q : j = P.g
    · rw [q]; exact hbg
    · exact ha.g j x (by simp only [Hid.setg, Hid.add]; rw [if_neg q]; exact e)⟩
  have W := alive_iff.mp al A.in1 (B.add It o) σ _ hr.in1 (X.add hbIt) hrun (a0.addB hn) hok R1
  have hh := hr.1
  unfold pyNext
  refine wpAny_bind (wpAny_attempt (wpAny_callSpecial?_slot (name := Str.ofString "__next__") hg.typeIs slot_gen_next
    (wpAny_call_entry slot_gen_next hg.typeIs entry_gen_next ?_ (args_gen_next _))))
  show wpAny _ A.in1 (Builtin.Generator.genWake (.ref It) (.send .none)) _ _ s
  unfold Builtin.Generator.genWake
  refine wpAny_bind (wpAny_holding (wpAny_genNumber hg (wpAny_bind (wpAny_genState hgs ?_))))
  have fin : ∀ e s₁, e.quiet = true → PostG P (B.add It o) i σ (nextOf P f i) e s₁ → (∃ v, e.result = .yielded v ∧ k (some v) (s₁.setGen P.g e.genState)) ∨ (e.result = .returned .none ∧ ∀ h' , (∀ b o, s₁.heap.get? b = some o → h'.get? b = some o) → s₁.heap.objs.size ≤ h'.objs.size → k none { s₁.setGen P.g e.genState with heap := h' }) := by
    intro e s₁ hq he
    cases e with
    | ret r =>
      obtain ⟨rfl, σ', hf, R2⟩ := he
      refine .inr ⟨by rcases hfin with e | e <;> rw [e] <;> rfl, fun h' hk hz => ?_⟩
      have R3 := R2.setGen (x := .finished) (y := .running) (i := P.g) (by simp [Bs.plus, Hid.setg, Hid.nil]) rfl
      have R4 : RepB P.w B σ' (s₁.setGen P.g .finished) := R3.weak (fun a x e => by
        show (none : Option Obj).or ((B.add It o).o a) = some x
        simp only [Bs.add]
        rw [if_neg (fun q => by rw [q, hbIt] at e; cases e)]
        simpa using e) (fun j x e => by
        have hj : j ≠ P.g := fun q => by rw [q, hbg] at e; cases e
        show (if j = P.g then some GenState.finished else if j = P.g then some GenState.running else none : Option GenState).or (B.g j) = some x
        rw [if_neg hj, if_neg hj]; exact e) rfl
      exact hdn σ' _ hf (R4.ext (h' := h') (tk := (s₁.setGen P.g .finished).toks) hk hz)
    | susp v g l k0 c p fs =>
      obtain ⟨nx, hnx, h', σ', hg', a', hyl, R2, hal⟩ := he
      refine .inl ⟨v, rfl, ?_⟩
      cases f with
      | zero => cases hnx
      | succ f0 =>
        cases hnx
        have hb' : (End.susp v g l k0 c p fs).genState.bare = true := End.bare_of_quiet hq
        have n' : h'.o It = none := by
          cases q : h'.o It with
          | none => rfl
          | some x => have := a'.o It x q; simp [Bs.add] at this
        have R3 := R2.setGen (x := (End.susp v g l k0 c p fs).genState) (y := .running) (i := P.g) (by simp [Bs.plus, hg']) hb'
        rw [add_plus (h := h'.setg P.g _) n'] at R3
        have a1 : Apart B (h'.add It o) := by
          refine ⟨fun a x e => ?_, fun j x e => a'.g j x e⟩
          simp only [Hid.add] at e
          split at e
          · rename_i q; rw [q]; exact hbIt
          · rename_i q
            have := a'.o a x e
            simp only [Bs.add] at this
            rw [if_neg q] at this
            exact this
        refine hy v f0 _ σ' _ rfl hyl ⟨_, h', o, hal, hg', n', ⟨nm, qn, ho⟩, hb', rfl⟩ (a1.setg (i := P.g) (x := .running) (y := (End.susp v g l k0 c p fs).genState) hg') R3
  cases gs with
  | running => exact W.elim
  | finished => exact W.elim
  | _ =>
    refine wpAny_bind (wpAny_roomToWake hl hr.depth ?_)
    show wpAny _ A.in1 (.resume P.g (.send .none) [] _) _ _ s
    refine wpAny_wake hgs W fun e s₁ hq he => ?_
    rcases fin e s₁ hq he with ⟨v, ev, hv⟩ | ⟨ev, hv⟩
    · rw [ev]
      exact wpAny_pure ⟨v, rfl, wpAny_pure hv⟩
    · rw [ev]
      show wpAny _ A.in1 (newExc (.type "StopIteration") [] >>= _) _ _ _
      refine wpAny_bind ?_
      simp only [newExc, newTuple]
      refine wpAny_bind (wpAny_newObj_type ?_ (by size_fits))
      refine wpAny_bind (m := firstArgMember _ _) (wpAny_of_eq (a := Value.none) (by first | rfl | (simp only [firstArgMember]; rfl)) ?_)
      refine wpAny_newObj_type ?_ (by size_fits)
      simp only [raiseNew]
      refine wpAny_bind (wpAny_bind (wpAny_handled ?_))
      first | rw [show A.in1.handled = none from hh] | rw [hh]
      refine wpAny_throw ?_
      refine wpAny_bind (wpAny_isInstance (T := "StopIteration") (b := true) ⟨_, Heap.get?_push_size _ rfl, rfl⟩ isSubtype_stop ?_)
      exact wpAny_pure (hv _ (fun b o hb => Heap.get?_push_of_some _ (Heap.get?_push_of_some _ hb)) (by rw [Heap.size_push, Heap.size_push]; exact Nat.le_add_right _ 2))
end
section
variable {w : World} {K : Frag} {n : Nat} {env : Env} {l : Loc} {σ : AS}
noncomputable def VXH (K : Frag) (w : World) (n : Nat) (env : Env) (l : Loc) {α β : Type} (ab : α → β) (t : Sem α) (Q : β → Hid → AS → Prop) (σ : AS) : Prop :=
  ∀ (A : Around) (B : Bs) (s : Shared), Room n A → Base K B → EnvOK env → RepF w B env l σ s → ∀ (k : α → Shared → Prop) (E : Value → Shared → Prop),
    (∀ v hd σ' s', Q (ab v) hd σ' → Apart B hd → RepF w (B.plus hd) env l σ' s' → k v s') → wpAny (model prog w) A t k E s
noncomputable def GenSpec (K : Frag) (w : World) (n : Nat) (env : Env) (target : Expr) (T : Sem Flow) (P : GP) (Q : AF → Loc → AS → Prop) (l : Loc) (σ : AS) : Prop :=
  ∃ I : Nat → Loc → AS → Prop, I 0 l σ ∧ ∀ i l' σ', I i l' σ' → P.ok i σ' ∧ (∀ v σ1, P.yld i σ' v σ1 → VA K w n env target v (fun l2 σ2 => VY K w n env ef T (fun f l3 σ3 => match f with
      | .next => I (i + 1) l3 σ3
      | .cont => I (i + 1) l3 σ3
      | .brk => Q .next l3 σ3
      | .ret v => Q (.ret v) l3 σ3) l2 σ2) l' σ1) ∧ (∀ σ1, P.fine i σ' σ1 → Q .next l' σ1)
structure GenFor (K : Frag) (w : World) (n : Nat) (P : GP) : Prop where
  w : P.w = w
  K : P.K = K
  n : P.n + 2 ≤ n
  fin : P.fin = .ok .next ∨ P.fin = .ok (.ret .none)
theorem GenAt.obj {P : GP} {It : Addr} {hd : Hid} {f i : Nat} (h : GenAt P It hd f i) : ∃ o, hd.o It = some o ∧ genObj P.g o := by
  obtain ⟨gs, h0, o, _, _, _, ho, _, rfl⟩ := h
  exact ⟨o, by simp [Hid.setg, Hid.add], ho⟩
theorem frame_aside {B : Bs} {hd : Hid} {s : Shared} (R : RepF w (B.plus hd) env l σ s) (ha : Apart B hd) : ∃ ob, RepB w ((B.add env.locals ob).plus hd) σ s ∧ Apart (B.add env.locals ob) hd ∧ B.o env.locals = none ∧
    ∀ hd' σ' s', RepB w ((B.add env.locals ob).plus hd') σ' s' → Apart (B.add env.locals ob) hd' → Apart B hd' ∧ RepF w (B.plus hd') env l σ' s' := by
  obtain ⟨m, x, y⟩ := R.ns
  obtain ⟨o, es, ep, ho, r⟩ := id x
  obtain ⟨n1, n2⟩ := plus_o R.lb
  have R1 := R.rep.hide ho R.lo
  rw [plus_add, ← add_plus n1] at R1
  refine ⟨o, R1, ha.addB n1, n2, fun hd' σ' s' R' ha' => ?_⟩
  have n3 : hd'.o env.locals = none := by
    cases q : hd'.o env.locals with
    | none => rfl
    | some x => have := ha'.o _ x q; simp [Bs.add] at this
  rw [add_plus n3, ← plus_add] at R'
  obtain ⟨a, b, c⟩ := R'.show (o_plus n3 n2)
  refine ⟨⟨fun a x e => ?_, ha'.g⟩, a, ⟨m, ⟨o, es, ep, b, r⟩, y⟩, c, o_plus n3 n2⟩
  have := ha'.o a x e
  simp only [Bs.add] at this
  split at this
  · cases this
  · exact this
theorem vs_for_gen {target iter : Expr} {body : List Stmt} {pos : Pos} {Q : AF → Loc → AS → Prop}
    (h : VXH K w n env l er (eval iter env) (fun x hd σ1 => ∃ It P f, x = .ref It ∧ GenFor K w n P ∧ GenAt P It hd f 0 ∧ GenSpec K w n env target (execs body env) P Q l σ1) σ)
    (hs : ∀ x, foldedSetIterable iter env x = pure x := by intro _; rfl) : VS K w n env (.For target iter body [] pos) Q l σ := fun A B s hr X he R k E hk => by
  refine wpAny_For (h A B s hr X he R _ _ fun x hd σ1 s1 h1 ha R1 => ?_) hs
  obtain ⟨It, P, f, ex, GF, ga, I, h0, step⟩ := h1
  obtain ⟨rfl, rfl, hn, hfin⟩ := GF
  rw [er_ref ex]
  have hrP : Room (P.n + 2) A := hr.less hn
  obtain ⟨o, ho, hgo⟩ := ga.obj
  have hIt : s1.heap.get? It = some o := R1.rep.keep It o (by simp [Bs.plus, ho])
  have hg : s1.heap.IsGen It P.g := by obtain ⟨nm, qn, e⟩ := hgo; exact ⟨o, nm, qn, hIt, by rw [e], by rw [e], by rw [e]⟩
  refine wpAny_pyIter_gen hg ?_
  refine loopP_for (fun m s' => ∃ i l' σ' hd, GenAt P It hd m i ∧ I i l' σ' ∧ Apart B hd ∧ RepF P.w (B.plus hd) env l' σ' s') (fun m s' hI E' => ?_) f s1 ⟨0, l, σ1, hd, ga, h0, ha, R1⟩
  obtain ⟨i, l', σ', hd', ga', hI, ha', R'⟩ := hI
  obtain ⟨hok, hyl, hfi⟩ := step i l' σ' hI
  obtain ⟨ob, R2, a2, hLB, back⟩ := frame_aside R' ha'
  refine gen_next hfin hrP (X.add hLB) ga' a2 hok R2 (fun v f0 hd2 σ2 s2 hf hy ga2 a3 R3 E'' => ?_) (fun σ2 s2 hf R3 => ?_)
  · obtain ⟨a4, R4⟩ := back hd2 σ2 s2 R3 a3
    obtain ⟨o2, ho2, nm, qn, e2⟩ := ga2.obj
    have hIt2 : s2.heap.get? It = some o2 := R4.rep.keep It o2 (by simp [Bs.plus, ho2])
    refine letOwned hIt2 (T := "generator") (by rw [e2]) (by rw [e2]) (by decide) ?_
    refine hyl _ σ2 hy v rfl A (B.plus hd2) s2 hr (X.plus a4) he R4 _ _ fun _ l2 σ3 s3 h3 R5 => ?_
    refine h3 A (B.plus hd2) s3 hr (X.plus a4) he R5 _ _ fun fl l3 σ4 s4 h4 R6 => ?_
    have drop : RepF P.w B env l3 σ4 s4 := ⟨R6.rep.weak (fun a x e => by
      show (hd2.o a).or (B.o a) = some x
      cases q : hd2.o a with
      | none => exact e
      | some y => rw [a4.o a y q] at e; cases e) (fun j x e => by
      show (hd2.g j).or (B.g j) = some x
      cases q : hd2.g j with
      | none => exact e
      | some y => rw [a4.g j y q] at e; cases e) rfl, R6.ns, R6.lo, (plus_o R6.lb).2⟩
    cases fl with
    | next => exact ⟨f0, by omega, i + 1, l3, σ4, hd2, ga2, h4, a4, R6⟩
    | cont => exact ⟨f0, by omega, i + 1, l3, σ4, hd2, ga2, h4, a4, R6⟩
    | brk => exact hk .next _ _ _ h4 drop
    | ret v => exact hk (.ret v) _ _ _ h4 drop
  · obtain ⟨m', x', y'⟩ := R'.ns
    obtain ⟨o3, es, ep, ho3, r3⟩ := id x'
    have hob : ob = o3 := Option.some.inj ((R2.keep env.locals ob (by
      show (hd'.o env.locals).or ((B.add env.locals ob).o env.locals) = some ob
      rw [(plus_o R'.lb).1]; simp [Bs.add])).symm.trans ho3)
    subst hob
    obtain ⟨a1, b1, c1⟩ := R3.show hLB
    exact hk .next _ _ _ (hfi σ2 hf) ⟨a1, ⟨m', ⟨ob, es, ep, b1, r3⟩, y'⟩, c1, hLB⟩
end
end Mine
end
section
open PySem PySem.W PySem.Calls PyProof.Rows
set_option maxRecDepth 100000
set_option linter.unusedVariables false
set_option linter.unusedSimpArgs false
namespace Mine
section
variable {w : World} {K : Frag} {B : Bs} {h : Hid} {n : Nat} {env : Env} {l : Loc} {σ : AS} {s : Shared}
theorem r1_func {w : World} {A : Around} {body : List Stmt} {fs : List Frame} {Post : End → Shared → Prop}
    (h : Run1 (model prog w) A (.func body env) ((execs body env).wrap (fun f => .pure (.done (.ret (match f with | .ret v => v | _ => .none)))) (fun e => (leaving env e).wrap (fun _ => .raise e) .raise id id) id id) fs s Post) :
    Run1 (model prog w) A (.func body env) ((model prog w).den (.func body env)) fs s Post := by
  show Run1 _ A (.func body env) (.point [] fun _ => ((execs body env).onRaise (leaving env)) >>= _) fs s Post
  refine r1_point ?_
  rw [Sem.onRaise_eq_wrap, Sem.bind_eq_wrap', Sem.wrap_wrap]
  rw [Sem.wrap_congr (execs body env) _ _ (K' := fun f => .pure (.done (.ret (match f with | .ret v => v | _ => .none))))
    (H' := fun e => (leaving env e).wrap (fun _ => .raise e) .raise id id) (fun f => by cases f <;> rfl)
    (fun e => by rw [Sem.bind_eq_wrap, Sem.wrap_wrap]; rfl)]
  exact h
theorem RepB.pushGen (R : RepB w (B.plus h) σ s) {gs : GenState} (hb : gs.bare = true) {o : Obj} (hf : o.isFreed = false) {tk : Nat} (hg : h.g s.gens.size = none) (hn : h.o s.heap.objs.size = none) (ha : Apart B h) :
    RepB w (B.plus ((h.add s.heap.objs.size o).setg s.gens.size (some gs))) σ { s with heap := s.heap.push o, gens := s.gens.push gs, toks := tk } ∧ Apart B ((h.add s.heap.objs.size o).setg s.gens.size (some gs)) := by
  have e1 : (B.plus h).o s.heap.objs.size = none := R.fresh.2
  obtain ⟨-, e2⟩ := plus_o e1
  have e3 : B.g s.gens.size = none := by
    cases q : B.g s.gens.size with
    | none => rfl
    | some x =>
      have := R.gens.1 s.gens.size x (by show (h.g _).or (B.g _) = some x; rw [hg]; exact q)
      rw [Array.getElem?_eq_none (Nat.le_refl _)] at this; cases this
  refine ⟨⟨fun a x e => ?_, fun a x e => ?_, fun a x e => ?_, R.dom, ?_, R.os, fun j x e => ?_, fun x e => ?_⟩, ⟨fun a x e => ?_, fun j x e => ?_⟩⟩
  · have e : (if a = s.heap.objs.size then some o else h.o a).or (B.o a) = some x := e
    by_cases q : a = s.heap.objs.size
    · rw [if_pos q] at e; cases e; rw [q]; exact Heap.get?_push_size _ hf
    · rw [if_neg q] at e; exact Heap.get?_push_of_some _ (R.keep a x e)
  · show (if a = s.heap.objs.size then some o else h.o a).or (B.o a) = none
    rw [if_neg (fun q => by have := R.fresh.1; rw [← q, e] at this; cases this)]
    exact R.apart a x e
  · obtain ⟨ob, h1, h2⟩ := R.objs a x e
    exact ⟨ob, Heap.get?_push_of_some _ h1, h2⟩
  · have := R.hi
    show σ.hi ≤ (s.heap.push o).objs.size
    rw [Heap.size_push]; exact Nat.le_succ_of_le this
  · have e : (if j = s.gens.size then some gs else h.g j).or (B.g j) = some x := e
    show (s.gens.push gs)[j]? = some x
    by_cases q : j = s.gens.size
    · rw [if_pos q] at e; cases e; rw [q]; simp
    · rw [if_neg q] at e
      have h1 := R.gens.1 j x e
      have h2 : j < s.gens.size := by
        rcases Nat.lt_or_ge j s.gens.size with h' | h'
        · exact h'
        · rw [Array.getElem?_eq_none h'] at h1; cases h1
      rw [Array.getElem?_push_lt h2, ← Array.getElem?_eq_getElem h2]; exact h1
  · have e : x ∈ s.gens.push gs := e
    rcases Array.mem_push.mp e with q | q
    · exact R.gens.2 x q
    · rw [q]; exact hb
  · simp only [Hid.setg, Hid.add] at e
    split at e
    · rename_i q; rw [q]; exact e2
    · exact ha.o a x e
  · simp only [Hid.setg, Hid.add] at e
    split at e
    · rename_i q; rw [q]; exact e3
    · exact ha.g j x e
noncomputable def VCH (K : Frag) (w : World) (n : Nat) (f : Value) (args : List AV) (Q : AV → Hid → AS → Prop) (σ : AS) : Prop :=
  ∀ (A : Around) (B : Bs) (s : Shared) (vs : List Value), Room n A → Base K B → RepB w B σ s → vs.map er = args → ∀ (k : Value → Shared → Prop) (E : Value → Shared → Prop),
    (∀ v hd σ' s', Q (er v) hd σ' → Apart B hd → RepB w (B.plus hd) σ' s' → k v s') → wpAny (model prog w) A (call f vs) k E s
noncomputable def GProm (K : Frag) (w : World) (n : Nat) (env : Env) (body : List Stmt) (Q : AV → Hid → AS → Prop) (l : Loc) (σ : AS) : Prop :=
  ∀ g, ∃ (P : GP) (own : List (Addr × AO)) (f : Nat), P.g = g ∧ GenFor K w n P ∧ P.fin = .ok (.ret .none) ∧ Owns σ own ∧ (∀ σ', P.ok 0 σ' → (∀ p, p ∈ own → σ'.f p.1 = none) → GB P env body (fun fl y => fl = .next ∧ P.fine y.i y.z y.σ) ⟨f, 0, σ', l, σ'.puts own⟩) ∧
    ∀ It hd, GenAt P It hd f 0 → Q (.ref It) hd (σ.dels own)
theorem apart_nil {B : Bs} : Apart B Hid.nil := ⟨fun _ _ e => (by cases e), fun _ _ e => (by cases e)⟩
theorem GenAlive {P : GP} {body : List Stmt} {f : Nat} {own : List (Addr × AO)} (hE : EnvOK env) (hco : env.scope.isCoroutine = false) (hfin : P.fin = .ok (.ret .none)) (hw : P.w = w)
    (hgb : ∀ σ', P.ok 0 σ' → (∀ p, p ∈ own → σ'.f p.1 = none) → GB P env body (fun fl y => fl = .next ∧ P.fine y.i y.z y.σ) ⟨f, 0, σ', l, σ'.puts own⟩) {h3 : Hid} (hg : h3.g = Hid.nil.g) (ho3 : ∀ p, p ∈ own → ∃ x, h3.o p.1 = some x)
    (back : ∀ B' σ' s', RepB w (B'.plus h3) σ' s' → Apart B' h3 → RepF w B' env l (σ'.puts own) s') : Alive P f 0 (.fresh (.func body env)) (h3.setg P.g (some .running)) := by
  subst hw
  refine alive_iff.mpr fun A B σ s hr X _ ha hok R => ?_
  refine r1_func ?_
  let B2 : Bs := { B with g := fun i => if i = P.g then some .running else B.g i }
  have e1 : B.plus (h3.setg P.g (some .running)) = B2.plus h3 := by
    unfold Bs.plus Hid.setg
    congr 1
    funext i
    dsimp only [B2]
    rw [hg]
    by_cases q : i = P.g
    · rw [if_pos q, if_pos q]; rfl
    · rw [if_neg q, if_neg q]
  have e2 : B2 = B.plus (Hid.nil.setg P.g (some .running)) := by
    unfold Bs.plus Hid.setg Hid.nil
    dsimp only [B2]
    congr 1
    · funext i
      by_cases q : i = P.g
      · rw [if_pos q, if_pos q]; rfl
      · rw [if_neg q, if_neg q]; rfl
  have hbg : B.g P.g = none := ha.g P.g .running (by simp [Hid.setg])
  have hnone : ∀ p, p ∈ own → σ.f p.1 = none := fun p hp => by
    obtain ⟨x, hx⟩ := ho3 p hp
    cases q : σ.f p.1 with
    | none => rfl
    | some ao => have := (plus_o (R.apart _ _ q)).1; rw [show (h3.setg P.g (some .running)).o p.1 = h3.o p.1 from rfl, hx] at this; cases this
  rw [e1] at R
  have RF := back B2 σ s R ⟨fun a x e => ha.o a x e, fun i x e => (by rw [hg] at e; cases e)⟩
  rw [e2] at RF
  have aa : Apart B (Hid.nil.setg P.g (some .running)) := ⟨fun a x e => (by cases e), fun i x e => (by
    simp only [Hid.setg, Hid.nil] at e
    split at e
    · rename_i q; rw [q]; exact hbg
    · cases e)⟩
  have F : GFr (.func body env) [] := ⟨rfl, rfl, fun A hA => hA, Nat.le_refl _, Nat.le_refl _⟩
  refine hgb σ hok hnone A B (Hid.nil.setg P.g (some .running)) s (.func body env) [] _ _ id id F rfl hr X (by simp [Hid.setg]) aa hE hco RF fun A' B' v y s' hr' X' ha' hq R' => ?_
  obtain ⟨e, hf⟩ := hq
  have ev : v = .next := by cases v <;> first | rfl | cases e
  subst ev
  refine r1_end (.ok (.ret .none)) ⟨hfin.symm, y.σ, hf, R'.rep⟩
theorem vch_gen {f : Addr} {fd : FuncData} {oc : Value} {od : Option Addr} {osl : Array (Option Value)} {body : List Stmt} {args : List AV} {Q : AV → Hid → AS → Prop}
    (ho : K.lookup f = some ⟨oc, od, .func fd, osl⟩) (hbody : fd.body = .stmts body) (hcd : codeIn K fd.code fd.qualname = true)
    (hb : VBi K w n fd args [] (fun bs σ1 => ∀ L env, Fresh σ1 L → env = newEnv fd.scope L fd.globals (cellsFrom (L + 1) fd.scope.names fd.closure) (fd.qualname ++ ".<locals>.") (some f) fd.code none fd.builtins →
      bindA env bs (fun l1 σ2 => GProm K w (n + 1) env body Q l1 σ2) [] (pushA σ1 (L + 1) fd.scope.names)) σ)
    (hco : fd.scope.isCoroutine = false := by rfl) (hgen : fd.scope.isGenerator = true := by rfl) (hk : fd.scope.kind = .function := by rfl)
    (hg : fd.globals = mainGlobals := by rfl) (hbl : fd.builtins = builtinsNs := by rfl) : VCH K w (n + 1) (.ref f) args Q σ := fun A B s vs hr X R ha k E hq => by
  refine wpAny_call (codeAny_call_generator hr.depth (X.In R _ _ ho) rfl hco hgen hbody (codeRec_of (X.In R) hcd) ?_)
  refine hb A.in1 B s vs [] hr.in1 X R ha rfl _ _ fun bs σ1 s1 h1 R1 => ?_
  refine wp_newEnv (K := K) (n := n) hr.in1 X R1 hk hg hbl (fun L env hF he => h1 L env hF he) (fun L env l' σ' s' hF he hE hP R' => ?_)
  refine ⟨X.noLimit R'.rep, ?_⟩
  obtain ⟨P, own, fu, hPg, GF, hfin, hown, hgb, hQ⟩ := hP s'.gens.size
  have hco' : env.scope.isCoroutine = false := by rw [he]; exact hco
  rw [← plus_nil (B := B)] at R'
  obtain ⟨ob, R2, a2, n2, back2⟩ := R'.hideP apart_nil
  obtain ⟨h3, R3, g3, a3, m3, o3, back3⟩ := R2.lifts own hown a2
  have hal : Alive P fu 0 (.fresh (.func body env)) (h3.setg P.g (some .running)) := GenAlive hE hco' hfin GF.w hgb g3 o3 fun B' σ'' s'' R4 a4 => by
    obtain ⟨a5, R5⟩ := back3 B' σ'' s'' R4 a4
    obtain ⟨a6, R6⟩ := back2 B' _ s'' R5 a5
    exact R6
  have hn3 : h3.o s'.heap.objs.size = none := (plus_o R3.fresh.2).1
  obtain ⟨R5, a5⟩ := R3.pushGen (gs := .fresh (.func body env)) rfl (o := { cls := .type "generator", data := .fields #[.int s'.gens.size 0, .str fd.name s'.toks, .str fd.qualname (s'.toks + 1)] }) rfl (tk := s'.toks + 1 + 1) (by rw [g3]; rfl) hn3 a3
  refine hq (.ref s'.heap.objs.size) _ _ _ (hQ s'.heap.objs.size _ ⟨.fresh (.func body env), h3.setg P.g (some .running), { cls := .type "generator", data := .fields #[.int s'.gens.size 0, .str fd.name s'.toks, .str fd.qualname (s'.toks + 1)] }, hal, by simp [Hid.setg], hn3, ⟨_, _, by rw [hPg]⟩, rfl, ?_⟩) a5 R5
  unfold Hid.setg Hid.add
  rw [hPg]
  congr 1
  funext j
  dsimp only
  by_cases q : j = s'.gens.size
  · rw [if_pos q, if_pos q]
  · rw [if_neg q, if_neg q, if_neg q]
theorem vxh_callWith {f : Value} {first : List Value} {pos : Pos} {es : List Expr} {Q : AV → Hid → AS → Prop} (hf : KeepOK K f) (h : VL K w n env l pos es (fun vs σ1 => VCH K w n f (first.map er ++ vs) Q σ1) σ) (hs : noStar es = true := by rfl) :
    VXH K w n env l er (callWith pos f first (backTo pos (starEach es env)) []) Q σ := fun A B s hr X he R k E hk => by
  refine callWith_of (P := fun h => K.In h) (by rw [noStar_any hs]; rfl) (fun h X' => hf _ h X') (evalArgs_pos (noStar_any hs) (h A B s hr X he R _ _ fun vs σ1 s1 h1 R1 => ⟨X.In R1.rep, ?_⟩))
  rw [← plus_nil (B := B)] at R1
  obtain ⟨ob, R2, a2, n2, back⟩ := frame_aside R1 apart_nil
  exact h1 A _ s1 (first ++ vs) hr (X.add n2) R2 (by rw [List.map_append]) k E fun v hd σ' s' q a' R' => by
    obtain ⟨a4, R4⟩ := back hd σ' s' R' a'
    exact hk v hd σ' s' q a4 R4
theorem vxh_call_g {x : Str} {np pos : Pos} {args : List Expr} {a : Addr} {Q : AV → Hid → AS → Prop} (hv : nsIn K mainGlobals x = some (some (.ref a))) (hk : keepIn K (.ref a) = true)
    (h : VL K w n env l pos args (fun vs σ2 => VCH K w n (.ref a) vs Q σ2) σ) (hl : env.kindOf x = some .globalImplicit := by first | assumption | rfl) (hd : (x == ("__debug__" : Str)) = false := by decide) (hs : noStar args = true := by rfl)
    (he' : eval (.Call (.Name x np) args [] pos) env = (do callWith pos (← eval (.Name x np) env) [] (backTo pos (starEach args env)) (backToKw pos (keywordEach [] env))) := by rfl) :
    VXH K w n env l er (eval (.Call (.Name x np) args [] pos) env) Q σ := fun A B s hr X he R k E hk2 => by
  rw [he']
  refine wpAny_bind (vx_global (n := n) hv (Q := fun v σ1 => v = .ref a ∧ σ1 = σ) ⟨rfl, rfl⟩ hl hd A B s hr X he R _ _ fun v σ1 s1 h1 R1 => ?_)
  obtain ⟨e1, rfl⟩ := h1
  rw [show v = .ref a from e1]
  exact vxh_callWith (first := []) (keep_ref hk) h hs A B s1 hr X he R1 k E hk2
end
end Mine
end
section
open PySem PySem.W PySem.Calls PyProof.Rows
set_option maxRecDepth 100000
set_option linter.unusedVariables false
set_option linter.unusedSimpArgs false
namespace Mine
section
variable {w : World} {K : Frag} {B : Bs} {n : Nat} {env : Env} {l : Loc} {σ : AS} {s : Shared}
theorem peekA_wp {α : Type} {K : Frag} {M : Model} {A : Around} {E : Value → Shared → Prop} {Q : α → Shared → Prop} {s : Shared} (X : K.In s.heap) {o : Obj} :
    ∀ (t : Sem α) (g : Addr → Sem α), peekA K ⟨M.prog, M.w.params⟩ t = some (o, g) → wpAny M A (g s.heap.objs.size) Q E { s with heap := s.heap.push o } → wpAny M A t Q E s := by
  intro t
  induction t with
  | rule _ k ih => intro g e q Γ p hΓ; exact ih () g e q Γ p hΓ
  | point _ k ih => intro g e q Γ p hΓ; exact ih () g e q Γ p hΓ
  | ask k ih => intro g e q Γ p hΓ; exact ih _ g e q Γ p hΓ
  | load a _ k ih =>
    intro g e q Γ p hΓ
    simp only [peekA] at e
    split at e
    · rename_i ob ho; exact ⟨ob, X _ _ ho, ih ob g e q Γ p hΓ⟩
    · cases e
  | alloc ob k _ =>
    intro g e q
    have e : some (ob, k) = some (o, g) := e
    obtain ⟨e1, e2⟩ := Prod.mk.inj (Option.some.inj e)
    subst e1
    subst e2
    show wpAny M A (alloc ob >>= k) Q E s
    exact wpAny_bind (wpAny_alloc q)
  | _ => intro g e; cases e
noncomputable def erB (bs : List (Str × Value)) : Loc := bs.map fun p => (p.1, er p.2)
theorem vbi_peek {fd : FuncData} {args : List AV} {kw : List (Str × AV)} {Q : Loc → AS → Prop} (bs : List Value → List (Str × Value) → List (Str × Value))
    (hb : ∀ vs kvs, vs.map er = args → kvs.map (fun p => (p.1, er p.2)) = kw → peek K ⟨prog, w.params⟩ (bindArgs fd ⟨vs, kvs⟩) = some (bs vs kvs)) (h : ∀ vs kvs, vs.map er = args → kvs.map (fun p => (p.1, er p.2)) = kw → Q (erB (bs vs kvs)) σ) : VBi K w n fd args kw Q σ := fun A B s vs kvs hr X R ha hkw k E hk =>
  (Looks.of_peek (M := model prog w) (X.In R) (hb vs kvs ha hkw)).here (hk (bs vs kvs) _ _ (h vs kvs ha hkw) R)
theorem vbi_peekA {fd : FuncData} {args : List AV} {kw : List (Str × AV)} {Q : Loc → AS → Prop} (bs : List Value → List (Str × Value) → Addr → List (Str × Value))
    (hb : ∀ vs kvs, vs.map er = args → kvs.map (fun p => (p.1, er p.2)) = kw → ∃ g, peekA K ⟨prog, w.params⟩ (bindArgs fd ⟨vs, kvs⟩) = some (emptyDict, g) ∧ ∀ D, g D = pure (bs vs kvs D))
    (h : ∀ vs kvs D, vs.map er = args → kvs.map (fun p => (p.1, er p.2)) = kw → Fresh σ D → Q (erB (bs vs kvs D)) (σ.ins D (.idict [] 0))) : VBi K w n fd args kw Q σ := fun A B s vs kvs hr X R ha hkw k E hk => by
  obtain ⟨g, h1, h2⟩ := hb vs kvs ha hkw
  refine peekA_wp (M := model prog w) (X.In R) _ g h1 ?_
  rw [h2]
  refine wpAny_pure (hk _ _ _ (h vs kvs s.heap.objs.size ha hkw (R.isFresh (Nat.le_refl _))) (R.new (tk := s.toks) (ob := emptyDict) (o' := .idict [] 0) ?_))
  exact ⟨#[], [], ⟨rfl, rfl, rfl⟩, rfl, (by intro e he; simp at he), .nil, List.nodup_nil, rfl⟩
theorem vcode_def {f : Addr} {fd : FuncData} {oc : Value} {od : Option Addr} {osl : Array (Option Value)} {body : List Stmt} {args : List AV} {kw : List (Str × AV)} {Q : AV → AS → Prop}
    (ho : K.lookup f = some ⟨oc, od, .func fd, osl⟩) (hbody : fd.body = .stmts body) (hcd : codeIn K fd.code fd.qualname = true)
    (hb : VBi K w n fd args kw (fun l1 σ1 => okNames fd.scope (l1.map (·.1)) = true ∧ ∀ L env, σ1.hi ≤ L → env = callEnv fd L f → VB K w n env body (fun fl l' σ' => Q (match fl with | .ret v => v | _ => .none) σ') l1 σ1) σ)
    (hcell : ∀ x ∈ fd.scope.names, x.2 ≠ .cell := by decide) (hco : fd.scope.isCoroutine = false := by rfl) (hgen : fd.scope.isGenerator = false := by rfl) (hk : fd.scope.kind = .function := by rfl)
    (hg : fd.globals = mainGlobals := by rfl) (hbl : fd.builtins = builtinsNs := by rfl) : VCode K w (n + 1) (.ref f) args kw Q σ :=
  fun A B s vs kvs hr X R ha hkw k E hq => code_def_rule ho hbody hcd hb hcell hco hgen hk hg hbl hr X R ha hkw hq
end
end Mine
end
section
open PySem PySem.W PySem.Calls PyProof.Rows Builtin Builtin.ObjectAttr
set_option maxRecDepth 100000
set_option linter.unusedVariables false
set_option linter.unusedSimpArgs false
namespace Mine
section
variable {w : World} {K : Frag} {B : Bs} {n : Nat} {env : Env} {l : Loc} {σ : AS} {s : Shared}
theorem kind_hasattr : builtinKind "hasattr" = none := by decide +kernel
theorem entry_hasattr : entryFor table "hasattr" = some Builtin.«hasattr» := entryFor_of_fast (by kernel_rfl)
theorem args_hasattr (a b : Value) : argsOk "hasattr" ⟨[a, b], []⟩ := by unfold argsOk; kernel_rfl
theorem vc_hasattr_miss {x C d : Addr} {m : List (Str × AV)} {name nm : Str} {Q : AV → AS → Prop} (P : PlainCls K C) (hx : σ.f x = some (.inst C d)) (hd : σ.f d = some (.ns m)) (hv : lk m name = none) (hn : findIn K (.ref C) name = some none)
    (hmod : mroIn K C (.type "module") = some false) (hcp : copiedNames.contains name = false) (hcl : (clsIn K C).any (fun cd => cd.name == nm) = true) (hcut : nm.cps.foldl (fun k c => k + (Str.utf8Of c).length) 0 ≤ 100)
    (hms : ((s!"'{nm.toString}' object has no attribute '" : Str) ++ name ++ "'").length ≤ sizeLine) (h : Q (.bool false) σ) : VC K w n (.builtin "hasattr") [.ref x, .str name] Q σ := fun A B s vs hr X R ha k E hk => by
  obtain ⟨p, u, rfl, hp, hu⟩ := two_of ha
  obtain ⟨t, rfl⟩ := er_str hu
  rw [er_ref hp]
  obtain ⟨od, I, h1, h2⟩ := R.inst hx hd
  obtain ⟨r, h3, h4⟩ := h2.look name
  rw [hv] at h4
  obtain rfl : r = none := by cases r with | none => rfl | some _ => cases h4
  obtain ⟨cd, c1, c2⟩ := any_some P.cd
  obtain ⟨cd', c1', c3⟩ := any_some hcl
  rw [c1] at c1'
  obtain rfl := Option.some.inj c1'
  have hnm : cd.name = nm := by simpa using c3
  have KI := X.In R
  have hf : findObj K C (some od) name = some .missing := by
    unfold findObj W.ownOf
    rw [c1, Option.bind_some, hn]
    simp only [Option.bind_some]
    rw [if_pos c2]
    try dsimp only
    rw [h3]
    simp only [Option.bind_some, hcp, Bool.false_and, Bool.false_eq_true, if_false]
  have L0 := I.type (M := model prog w)
  have Lm : Looks (model prog w) s.heap (isInstance (.ref x) (.type "module")) false := L0.andThen (looks_mroIn KI hmod)
  have Lg := looks_findIn (M := model prog w) KI P.ga
  have L1 := looks_find (M := model prog w) KI I hf
  have L2 := looks_findIn (M := model prog w) KI P.gt
  have LC := looks_clsIn (M := model prog w) KI c1
  have Ls : Looks (model prog w) s.heap (shownTypeOf (.ref x)) (.ref C) := L0.andThen .now
  have Lc : Looks (model prog w) s.heap (typeNameOfCut 100 (.ref x)) nm.toString := Ls.andThen (LC.andThen (by rw [hnm]; rw [if_pos hcut]; exact .now))
  refine call_function_entry kind_hasattr (by decide +kernel) entry_hasattr (args_hasattr _ _) ?_
  unfold Builtin.«hasattr»
  refine wpAny_bind (m := someArgs "hasattr" 2 2 _) (wpAny_pure ?_)
  refine wpAny_bind (wpAny_pure ?_)
  dsimp only
  rw [if_neg (show ¬ ((Value.ref x == Value.builtin _) = true) from Bool.false_ne_true)]
  refine wpAny_bind (L0.here ?_)
  dsimp only
  refine wpAny_bind ?_
  refine wpAny_bind (m := isInstance (.ref x) (.type "module")) (Lm.here ?_)
  refine wpAny_pure ?_
  rw [if_neg (show ¬ (((0:Nat) == 1) = true) from Bool.false_ne_true)]
  unfold getAttrBy? getAttrBy
  refine with_size ?_
  refine wpAny_bind (wpAny_bind (wpAny_attempt (wpAny_holding (wpAny_bind (L0.here (wpAny_bind (Lg.here ?_)))))))
  show wpAny _ _ (getAttrEveryday _ _ _) _ _ _
  refine wpAny_bind (wpAny_onRaise (wpAny_runValue (codeAny_builtin PySem.F.plainObj_entry_getattr_hooked ?_)))
  unfold Builtin.«proto.getattr_hooked»
  refine wpAny_bind (wpAny_pure (wpAny_bind (L0.here (wpAny_bind (L1.here (wpAny_bind (L2.here ?_)))))))
  unfold missingOrHook noSuchAttribute
  refine wpAny_bind (Lc.here ?_)
  refine wpAny_raiseAttrError hr.1 (fun h' tk e hx' => ?_) hms
  show wpAny _ _ (noteIf false _ _ _) _ _ _
  refine wpAny_pure ?_
  dsimp only
  obtain ⟨t', u', he⟩ := hx'.there
  refine wpAny_bind (wpAny_isInstance (T := "AttributeError") (b := true) ⟨_, he, rfl⟩ sub_AttributeError ?_)
  refine wpAny_pure ?_
  refine wpAny_pure fun hz => ⟨_, rfl, hk _ _ _ h (R.ext hx'.keeps hz)⟩
end
end Mine
end
section
open PySem PySem.W PySem.Calls PyProof.Rows
set_option maxRecDepth 100000
set_option linter.unusedVariables false
set_option linter.unusedSimpArgs false
namespace Mine
section
variable {w : World} {K : Frag} {n : Nat} {σ : AS}
structure SumOf (P : GP) (Q : AV → AS → Prop) (J : Nat → Int → AS → Prop) : Prop where
  ok : ∀ i t σ, J i t σ → P.ok i σ
  yld : ∀ i t σ v σ', J i t σ → P.yld i σ v σ' → ∃ b, v = .int b ∧ J (i + 1) (t + b) σ'
  fine : ∀ i t σ σ', J i t σ → P.fine i σ σ' → Q (.int t) σ'
theorem sum_loop {P : GP} {Q : AV → AS → Prop} {J : Nat → Int → AS → Prop} {It S : Addr} {k : Value → Shared → Prop} {E : Value → Shared → Prop} (hfin : P.fin = .ok .next ∨ P.fin = .ok (.ret .none)) (so : SumOf P Q J)
    (A : Around) (hr : Room (P.n + 2) A.in1) (B : Bs) (X : Base P.K B) (hS : B.o S = none) (hk : ∀ v σ' s', Q (er v) σ' → RepB P.w B σ' s' → k v s') :
    ∀ (f : Nat) (i : Nat) (hd : Hid) (σ : AS) (s : Shared) (t : Int) (tA : Tok) (c : Nat) (st : Int), (st = 0 ∨ st = 2) → GenAt P It hd f i → J i t σ → Apart (B.add S { cls := .type "list", data := .seq #[.int t tA] c }) hd → RepB P.w ((B.add S { cls := .type "list", data := .seq #[.int t tA] c }).plus hd) σ s →
      codeAny (model prog P.w) A (.builtin "sum.loop" ⟨[.ref It, .ref S, rawInt st, rawInt 0], []⟩) (fun r s' => match r with | .ok (.ret v) => k v s' | .ok _ => False | .error e => E e s') s := by
  intro f
  induction f using Nat.strongRecOn with
  | ind f ih =>
  intro i hd σ s t tA c st hst ga hJ ha R
  have hSs : s.heap.get? S = some { cls := .type "list", data := .seq #[.int t tA] c } := R.keep S _ (by
    show (hd.o S).or ((B.add S _).o S) = _
    cases q : hd.o S with
    | none => simp [Bs.add]
    | some x => have := ha.o S x q; simp [Bs.add] at this)
  refine codeAny_builtin PySem.F.entry_sum_loop ?_
  rw [Around.under_plainId PySem.F.plain_sum_loop _]
  show wpAny _ A.in1 (seqItems? (.ref S) >>= _) _ _ s
  refine wpAny_bind (wpAny_seqItems hSs rfl ?_)
  show wpAny _ A.in1 (tryCatch (pyNext (.ref It)) _ >>= _) _ _ s
  have hS2 : ∀ hd', Apart (B.add S { cls := .type "list", data := .seq #[.int t tA] c }) hd' → hd'.o S = none := fun hd' a => by
    cases q : hd'.o S with
    | none => rfl
    | some x => have := a.o S x q; simp [Bs.add] at this
  refine wpAny_bind (wpAny_tryCatch (gen_next hfin hr (X.add hS) ga ha (so.ok _ _ _ hJ) R (fun v f0 hd' σ' s' hf hy ga' a' R' => ?_) (fun σ' s' hf R' => ?_)))
  · obtain ⟨b, hb, hJ'⟩ := so.yld _ _ _ _ _ hJ hy
    obtain ⟨u, rfl⟩ := er_int hb
    have hn := hS2 hd' a'
    have R2 := R'
    rw [add_plus hn, ← plus_add] at R2
    obtain ⟨R3, hSs', hσS⟩ := R2.show (o_plus hn hS)
    have aB : Apart B hd' := ⟨fun a x e => by
      have := a'.o a x e
      simp only [Bs.add] at this
      split at this
      · cases this
      · exact this, a'.g⟩
    have back : ∀ (h' : Heap) (tk : Nat) (t2 : Int) (tA2 : Tok) (c2 : Nat), h'.get? S = some { cls := .type "list", data := .seq #[.int t2 tA2] c2 } → Heap.SameBut S s'.heap h' → Apart (B.add S { cls := .type "list", data := .seq #[.int t2 tA2] c2 }) hd' ∧ RepB P.w ((B.add S { cls := .type "list", data := .seq #[.int t2 tA2] c2 }).plus hd') σ' { s' with heap := h', toks := tk } := by
      intro h' tk t2 tA2 c2 hg hx
      refine ⟨aB.addB hn, ?_⟩
      rw [add_plus hn, ← plus_add]
      have := R3.aside (h' := h') (tk := tk) hσS (o_plus hn hS) (fun b o hb e => (hx.2 b hb).trans e) (Nat.le_of_eq hx.1.symm)
      exact this.hide hg hσS
    have hlt : f0 < f := by omega
    rcases hst with rfl | rfl
    · show wpAny _ A.in1 (if (_ : Bool) = true then (mkInt (t + b) >>= _) else _) _ _ _
      split
      · refine wpAny_bind (wpAny_mkInt ?_)
        show wpAny _ A.in1 (updateSeq S (fun _ => #[.int (t + b) s'.toks]) >>= _) _ _ _
        refine wpAny_bind (wpAny_updateSeq hSs' rfl (wpAny_pure ⟨plainId_quiet PySem.F.plain_sum_loop _, ?_⟩))
        obtain ⟨a2, R4⟩ := back _ (s'.toks + 1) (t + b) s'.toks _ (Heap.get?_update_self (Obj.mapSeq fun _ => #[Value.int (t + b) s'.toks]) hSs' rfl) (Heap.SameBut.update ..)
        exact ih f0 hlt (i + 1) hd' σ' _ (t + b) s'.toks _ 0 (.inl rfl) ga' hJ' a2 R4
      · refine wpAny_bind (wpAny_rule ?_)
        refine wpAny_bind (wpAny_attempt (wpAny_holding (wpAny_add_int ?_)))
        show wpAny _ A.in1 (updateSeq S (fun _ => #[.int (t + b) s'.toks]) >>= _) _ _ _
        refine wpAny_bind (wpAny_updateSeq hSs' rfl ?_)
        have hS₂ := Heap.get?_update_self (Obj.mapSeq fun _ => #[Value.int (t + b) s'.toks]) hSs' rfl
        refine wpAny_bind (wpAny_letGo ?_)
        refine wpAny_bind (wpAny_updateSeq hS₂ rfl (wpAny_pure ⟨plainId_quiet PySem.F.plain_sum_loop _, ?_⟩))
        obtain ⟨a2, R4⟩ := back _ (s'.toks + 1) (t + b) s'.toks _ (Heap.get?_update_self (Obj.mapSeq fun _ => #[Value.int (t + b) s'.toks]) hS₂ rfl) ((Heap.SameBut.update ..).trans (Heap.SameBut.update ..))
        exact ih f0 hlt (i + 1) hd' σ' _ (t + b) s'.toks _ 2 (.inr rfl) ga' hJ' a2 R4
    · show wpAny _ A.in1 ((holding [Value.int b u] (binaryOp .Add (.int t tA) (.int b u))).attempt >>= _) _ _ _
      refine wpAny_bind (wpAny_attempt (wpAny_holding (wpAny_add_int ?_)))
      show wpAny _ A.in1 (updateSeq S (fun _ => #[.int (t + b) s'.toks]) >>= _) _ _ _
      refine wpAny_bind (wpAny_updateSeq hSs' rfl ?_)
      have hS₂ := Heap.get?_update_self (Obj.mapSeq fun _ => #[Value.int (t + b) s'.toks]) hSs' rfl
      refine wpAny_bind (wpAny_letGo ?_)
      refine wpAny_bind (wpAny_updateSeq hS₂ rfl (wpAny_pure ⟨plainId_quiet PySem.F.plain_sum_loop _, ?_⟩))
      obtain ⟨a2, R4⟩ := back _ (s'.toks + 1) (t + b) s'.toks _ (Heap.get?_update_self (Obj.mapSeq fun _ => #[Value.int (t + b) s'.toks]) hS₂ rfl) ((Heap.SameBut.update ..).trans (Heap.SameBut.update ..))
      exact ih f0 hlt (i + 1) hd' σ' _ (t + b) s'.toks _ 2 (.inr rfl) ga' hJ' a2 R4
  · obtain ⟨R3, -, -⟩ := R'.show hS
    exact wpAny_pure (hk _ _ _ (so.fine _ _ _ _ hJ hf) R3)
theorem sum_gen {P : GP} {Q : AV → AS → Prop} {J : Nat → Int → AS → Prop} {It : Addr} {hd : Hid} {f : Nat} {A : Around} {B : Bs} {s : Shared} {k : Value → Shared → Prop} {E : Value → Shared → Prop} (hfin : P.fin = .ok .next ∨ P.fin = .ok (.ret .none)) (so : SumOf P Q J)
    (hr : Room (P.n + 3) A) (X : Base P.K B) (ga : GenAt P It hd f 0) (hJ : J 0 0 σ) (ha : Apart B hd) (R : RepB P.w (B.plus hd) σ s) (hk : ∀ v σ' s', Q (er v) σ' → RepB P.w B σ' s' → k v s') :
    wpAny (model prog P.w) A (call (.builtin "sum") [.ref It]) k E s := by
  obtain ⟨o, ho, hgo⟩ := ga.obj
  have hIt : s.heap.get? It = some o := R.keep It o (by simp [Bs.plus, ho])
  have hg : s.heap.IsGen It P.g := by obtain ⟨nm, qn, e⟩ := hgo; exact ⟨o, nm, qn, hIt, by rw [e], by rw [e], by rw [e]⟩
  refine call_function_tree PySem.F.kind_sum PySem.F.plain_sum PySem.F.entry_sum (PySem.F.args_sum1 _) ?_
  unfold Builtin.«sum»
  simp only [List.length_cons, List.length_nil]
  rw [if_neg (by decide)]
  refine wpAny_bind (wpAny_of_eq (show Builtin.Builtins.bindParams "sum" ["start"] 0 { } = pure [none] from rfl) ?_)
  refine wpAny_bind (wpAny_pyIter_gen hg ?_)
  refine wpAny_bind (wpAny_mkInt ?_)
  refine wpAny_bind (wpAny_pure ?_)
  simp only [List.forIn_cons, List.forIn_nil]
  refine wpAny_bind (wpAny_bind (wpAny_bind (wpAny_isInstance (T := "int") (b := false) (typeIs_int _ _ _) PySem.sub_int_str ?_)))
  simp only [Bool.false_eq_true, if_false]
  refine wpAny_pure (wpAny_bind (wpAny_bind (wpAny_isInstance (T := "int") (b := false) (typeIs_int _ _ _) PySem.sub_int_bytes ?_)))
  simp only [Bool.false_eq_true, if_false]
  refine wpAny_pure (wpAny_bind (wpAny_bind (wpAny_isInstance (T := "int") (b := false) (typeIs_int _ _ _) PySem.sub_int_bytearray ?_)))
  simp only [Bool.false_eq_true, if_false]
  refine wpAny_pure (wpAny_pure ?_)
  refine wpAny_bind (wpAny_newObj_type ?_)
  have hS := R.fresh
  obtain ⟨hn, hb⟩ := plus_o hS.2
  have a2 : Apart (B.add s.heap.objs.size { cls := .type "list", data := .seq #[.int 0 s.toks] (s.heap.objs.size) }) hd := ha.addB hn
  refine wpAny_pure ⟨plainId_quiet PySem.F.plain_sum_loop _, ?_⟩
  have R1 := R.ext (h' := s.heap.push { cls := .type "list", data := .seq #[.int 0 s.toks] 0 }) (tk := s.toks + 1) (fun b o e => Heap.get?_push_of_some _ e) (by rw [Heap.size_push]; exact Nat.le_succ _)
  have R2 := R1.hide (Heap.get?_push_size _ rfl) hS.1
  rw [plus_add, ← add_plus hn] at R2
  exact sum_loop hfin so A hr.in1 B X hb hk f 0 hd σ _ 0 s.toks _ 0 (.inl rfl) ga hJ (ha.addB hn) R2
end
end Mine
end
section
open PySem PySem.W PySem.Calls PyProof.Rows
set_option maxRecDepth 100000
set_option linter.unusedVariables false
set_option linter.unusedSimpArgs false
namespace Mine
structure GexpOK (cenv : Env) (target elt : Expr) (P1 P2 : GP) : Prop where
  w : P2.w = P1.w
  K : P2.K = P1.K
  n : P1.n + 2 ≤ P2.n
  fin1 : P1.fin = .ok .next ∨ P1.fin = .ok (.ret .none)
  fin2 : P2.fin = .ok .next
  ok : ∀ i σ, P2.ok i σ → P1.ok i σ
  item : ∀ i σ v σ1 l, P2.ok i σ → P1.yld i σ v σ1 → VA P2.K P2.w P2.n cenv target v (fun l2 σ2 => VE P2.K P2.w P2.n cenv l2 elt (fun v2 σ3 => P2.yld i σ v2 σ3) σ2) l σ1
  fine : ∀ i σ σ1, P2.ok i σ → P1.fine i σ σ1 → P2.fine i σ σ1
theorem setg_plus {B : Bs} {hd : Hid} {g : Nat} (hn : hd.g g = none) : B.plus (hd.setg g (some .running)) = (B.plus (Hid.nil.setg g (some .running))).plus hd := by
  unfold Bs.plus Hid.setg Hid.nil
  dsimp only
  congr 1
  funext j
  by_cases q : j = g
  · subst q; rw [if_pos rfl, if_pos rfl, hn]; rfl
  · rw [if_neg q, if_neg q]; rfl
theorem apart_run {B : Bs} {hd : Hid} {g : Nat} (ha : Apart B hd) (hb : B.g g = none) (hn : hd.g g = none) : Apart (B.plus (Hid.nil.setg g (some .running))) hd := ⟨fun a x e => ha.o a x e, fun j x e => by
  show ((if j = g then some GenState.running else none : Option GenState)).or (B.g j) = none
  by_cases q : j = g
  · rw [q, hn] at e; cases e
  · rw [if_neg q]; exact ha.g j x e⟩
theorem run_apart {B : Bs} {hd : Hid} {g : Nat} (ha : Apart (B.plus (Hid.nil.setg g (some .running))) hd) : Apart B hd ∧ hd.g g = none := by
  have h2 : hd.g g = none := by
    cases q : hd.g g with
    | none => rfl
    | some x =>
      have := ha.g g x q
      simp [Bs.plus, Hid.setg] at this
  refine ⟨⟨fun a x e => ha.o a x e, fun j x e => ?_⟩, h2⟩
  have := ha.g j x e
  have this : ((if j = g then some GenState.running else none : Option GenState)).or (B.g j) = none := this
  split at this
  · cases this
  · exact this
theorem apart_set {B : Bs} {hd : Hid} {g : Nat} (ha : Apart B hd) (hb : B.g g = none) {x : Option GenState} : Apart B (hd.setg g x) := ⟨ha.o, fun j y e => by
  simp only [Hid.setg] at e
  split at e
  · rename_i q; rw [q]; exact hb
  · exact ha.g j y e⟩
theorem apart_unset {B : Bs} {hd : Hid} {g : Nat} {x : GenState} (ha : Apart B (hd.setg g (some x))) (hn : hd.g g = none) : Apart B hd ∧ B.g g = none := ⟨⟨ha.o, fun j y e => ha.g j y (by
  simp only [Hid.setg]
  rw [if_neg (fun q => by rw [q, hn] at e; cases e)]
  exact e)⟩, ha.g g x (by simp [Hid.setg])⟩
theorem base_run {K : Frag} {B : Bs} {g : Nat} (X : Base K B) : Base K (B.plus (Hid.nil.setg g (some .running))) := X.mono fun b o e => e
section
variable {P1 P2 : GP} {cenv : Env} {target elt iter : Expr} {scope : Scope} {pos : Pos} {It : Addr}
theorem gexp_loop (G : GexpOK cenv target elt P1 P2) (hE : EnvOK cenv) (hco : cenv.scope.isCoroutine = false) : ∀ (f i : Nat) (l : Loc) (σ : AS) (hd : Hid) (A : Around) (B : Bs) (s : Shared), Room (P2.n + 1) A → Base P2.K B → Apart B hd → B.g P2.g = none → hd.g P2.g = none → P2.ok i σ → GenAt P1 It hd f i →
    RepF P2.w (B.plus (hd.setg P2.g (some .running))) cenv l σ s →
    Run1 (model prog P2.w) A (.compLoop (.GeneratorExp elt [⟨target, iter, [], 0⟩] scope pos) 0 (.ref It) .none cenv) ((model prog P2.w).den (.compLoop (.GeneratorExp elt [⟨target, iter, [], 0⟩] scope pos) 0 (.ref It) .none cenv)) [] s (PostG P2 B i σ (nextOf P2 f i)) := by
  intro f
  induction f using Nat.strongRecOn with
  | ind f ih =>
  intro i l σ hd A B s hr X ha hbg hdg hok ga R
  have F : GFr (.compLoop (.GeneratorExp elt [⟨target, iter, [], 0⟩] scope pos) 0 (.ref It) .none cenv) [] := ⟨rfl, rfl, fun A hA => hA, Nat.le_refl _, Nat.le_refl _⟩
  have hr2 := F.room hr
  show Run1 _ A _ ((compTurn (.GeneratorExp elt [⟨target, iter, [], 0⟩] scope pos) 0 (.ref It) .none cenv).onRaise (leaving cenv)) [] s _
  rw [compTurn_gen, Sem.onRaise_eq_wrap]
  refine r1_bind_wrap (wpAny_standAt ?_)
  rw [setg_plus hdg] at R
  have X1 := base_run (g := P2.g) X
  have a1 := apart_run ha hbg hdg
  obtain ⟨ob, R2, a2, nL, back⟩ := frame_aside R a1
  have X2 := X1.add (ob := ob) nL
  have hw := G.w
  have hK := G.K
  refine r1_bind_wrap ?_
  rw [hw] at R2 ⊢
  rw [hK] at X2
  refine gen_next G.fin1 (hr2.less G.n) X2 ga a2 (G.ok _ _ hok) R2 (fun v f0 hd' σ' s' hf hy ga' a' R' => ?_) (fun σ' s' hf R' => ?_)
  · obtain ⟨a3, R3⟩ := back hd' σ' s' (by rw [hw]; exact R') a'
    obtain ⟨a4, hg4⟩ := run_apart a3
    obtain ⟨o2, ho2, nm, qn, e2⟩ := ga'.obj
    have hIt2 : s'.heap.get? It = some o2 := R3.rep.keep It o2 (by
      show (hd'.o It).or _ = some o2
      rw [ho2]; rfl)
    dsimp only
    rw [← hw]
    refine r1_bind_wrap (letOwned hIt2 (T := "generator") (by rw [e2]) (by rw [e2]) (by decide) ?_)
    refine r1_bind_wrap (G.item _ _ _ _ l hok hy v rfl _ _ s' hr2 (X1.plus a3) hE R3 _ _ fun _ l2 σ2 s2 h2 R4 => ?_)
    simp only [List.forIn_nil]
    refine r1_bind_wrap (wpAny_pure ?_)
    simp only [if_true]
    have hyo : ∀ v, yieldOut cenv v = yieldValue v := fun v => by simp only [yieldOut, hco, Bool.false_eq_true, if_false]
    simp only [hyo]
    rw [Sem.bind_eq_wrap', Sem.bind_eq_wrap', Sem.wrap_wrap, Sem.wrap_wrap]
    refine r1_wrap (h2 _ _ s2 hr2 (X1.plus a3) hE R4 _ _ fun y σ3 s3 h3 R5 => ?_)
    refine r1_at (r1_yield rfl rfl rfl fun p => ?_)
    rw [← setg_plus hg4] at R5
    have a5 : Apart B (hd'.setg P2.g (some .running)) := apart_set a4 hbg
    obtain ⟨ob2, R6, a6, n6, back2⟩ := R5.hideP a5
    rw [hf]
    refine ⟨_, nextOf_succ, (hd'.setg P2.g (some .running)).add cenv.locals ob2, σ3, by simp [Hid.setg, Hid.add], a6, h3, R6, ?_⟩
    refine alive_iff.mpr fun A' B' σ4 s4 hr4 X4 _ a7 hok4 R7 => ?_
    obtain ⟨a8, R8⟩ := back2 B' σ4 s4 R7 a7
    obtain ⟨a9, hb9⟩ := apart_unset a8 hg4
    exact r1_again rfl (ih f0 (by omega) (i + 1) l2 σ4 hd' A' B' s4 hr4 X4 a9 hb9 hg4 hok4 ga' R8)
  · rw [← hw] at R' ⊢
    obtain ⟨R3, -, -⟩ := R'.show nL
    exact r1_end (.ok .next) ⟨G.fin2.symm, σ', G.fine _ _ _ hok hf, R3⟩
theorem gexp_start (G : GexpOK cenv target elt P1 P2) (hE : EnvOK cenv) (hco : cenv.scope.isCoroutine = false) {f i : Nat} {l : Loc} {σ : AS} {hd : Hid} {A : Around} {B : Bs} {s : Shared} (hr : Room (P2.n + 1) A) (X : Base P2.K B) (ha : Apart B hd) (hbg : B.g P2.g = none) (hdg : hd.g P2.g = none) (hok : P2.ok i σ) (ga : GenAt P1 It hd f i)
    (R : RepF P2.w (B.plus (hd.setg P2.g (some .running))) cenv l σ s) :
    Run1 (model prog P2.w) A (.compStart (.GeneratorExp elt [⟨target, iter, [], 0⟩] scope pos) 0 (.ref It) .none cenv) ((model prog P2.w).den (.compStart (.GeneratorExp elt [⟨target, iter, [], 0⟩] scope pos) 0 (.ref It) .none cenv)) [] s (PostG P2 B i σ (nextOf P2 f i)) := by
  have loop := gexp_loop (iter := iter) (scope := scope) (pos := pos) G hE hco f i l σ hd A B s hr X ha hbg hdg hok ga R
  obtain ⟨o2, ho2, nm, qn, e2⟩ := ga.obj
  have hIt2 : s.heap.get? It = some o2 := R.rep.keep It o2 (by
    show (hd.o It).or _ = some o2
    rw [ho2]; rfl)
  have hg : s.heap.IsGen It P1.g := ⟨o2, nm, qn, hIt2, by rw [e2], by rw [e2], by rw [e2]⟩
  show Run1 _ A _ ((compStart (.GeneratorExp elt [⟨target, iter, [], 0⟩] scope pos) 0 (.ref It) .none cenv).onRaise (leaving cenv)) [] s _
  unfold compStart
  rw [Sem.onRaise_eq_wrap]
  show Run1 _ A _ ((ask >>= _).wrap _ _ _ _) [] s _
  refine r1_bind_wrap (wpAny_askSetting ?_)
  split
  · exact r1_again rfl loop
  · refine r1_bind_wrap (wpAny_rule ?_)
    show Run1 _ A _ ((standAt iter.pos >>= _).wrap _ _ _ _) [] s _
    exact r1_bind_wrap (wpAny_standAt (r1_bind_wrap (wpAny_pyIter_gen hg (r1_again rfl loop))))
end
end Mine
end
section
open PySem PySem.W PySem.Calls PyProof.Rows
set_option maxRecDepth 100000
set_option linter.unusedVariables false
set_option linter.unusedSimpArgs false
namespace Mine
section
variable {w : World} {K : Frag} {B : Bs} {n : Nat} {env : Env} {l : Loc} {σ : AS} {s : Shared}
noncomputable def NXH (K : Frag) (w : World) (n : Nat) (env : Env) (l : Loc) {α β : Type} (ab : α → β) (t : Sem α) (Q : β → Hid → AS → Prop) (σ : AS) : Prop :=
  ∀ (A : Around) (B : Bs) (s : Shared), Room n A → Base K B → EnvOK env → RepF w B env l σ s → ∀ (k : α → Shared → Prop) (E : Value → Shared → Prop),
    (∀ v hd σ' s', Q (ab v) hd σ' → Apart B hd → RepF w (B.plus hd) env l σ' s' → k v s') → wpN (model prog w) A t k E s
noncomputable def GIter (K : Frag) (w : World) (n : Nat) (x : AV) (Q : Addr → GP → Hid → Nat → AS → Prop) (σ : AS) : Prop :=
  ∀ (x' : Value), er x' = x → ∀ (A : Around) (B : Bs) (s : Shared), Room n A → Base K B → RepB w B σ s → ∀ (k : Value → Shared → Prop) (E : Value → Shared → Prop),
    (∀ It P hd f σ' s', Q It P hd f σ' → GenAt P It hd f 0 → Apart B hd → RepB w (B.plus hd) σ' s' → k (.ref It) s') → wpAny (model prog w) A (pyIter x') k E s
theorem iter_ownH {x C d f : Addr} {m : List (Str × AV)} {A : Around} {k : Value → Shared → Prop} {E : Value → Shared → Prop} (X : Base K B) (R : RepB w B σ s) (hx : σ.f x = some (.inst C d)) (hd : σ.f d = some (.ns m)) (hs : findIn K (.ref C) "__iter__" = some (some (.ref f))) (hf : typeIn K (.ref f) = some (.type "function"))
    (h : wpAny (model prog w) A (call (.ref f) [.ref x]) (fun v s' => OwitIt (model prog w) A k E v s') E s) : wpAny (model prog w) A (pyIter (.ref x)) k E s := by
  obtain ⟨od, I, h1, h2⟩ := R.inst hx hd
  have KI := X.In R
  have fin : wpAny (model prog w) A (call (.ref f) [.ref x] >>= fun v => pure (some v)) (fun r s' => ∃ v, r = some v ∧ OwitIt (model prog w) A k E v s') E s :=
    wpAny_bind (wpAny_mono h (fun v s' hq => wpAny_pure ⟨v, rfl, hq⟩) fun _ _ z => z)
  have one : ∀ refuse : Sem Value, wpAny (model prog w) A (callSpecialIfBoundUnlessNone? (.ref x) "__iter__" refuse) (fun r s' => ∃ v, r = some v ∧ OwitIt (model prog w) A k E v s') E s := by
    intro refuse
    have fin2 : wpAny (model prog w) A (if (Value.ref f == Value.none) = true then (refuse >>= fun v => pure (some v)) else (call (.ref f) [.ref x] >>= fun v => pure (some v))) (fun r s' => ∃ v, r = some v ∧ OwitIt (model prog w) A k E v s') E s := by
      rw [if_neg (show ¬ ((Value.ref f == Value.none) = true) from Bool.false_ne_true)]
      exact fin
    have bnd := (bind_fn (M := model prog w) KI (.ref x) hf)
    simp only [callSpecialIfBoundUnlessNone?, bindSpecialIfBound?]
    refine wpAny_holding (wpAny_bind (wpAny_bind (wpAny_bind (I.type.here ((looks_findIn KI hs).here (wpAny_bind (wpAny_askSetting (wpAny_ite ?_))))))))
    split
    · exact wpAny_bind (bnd.here (wpAny_pure (by exact fin2)))
    · exact wpAny_tryCatch (wpAny_bind (bnd.here (wpAny_pure (by exact fin2))))
  unfold pyIter
  refine wpAny_bind (wpAny_bind (I.type.here ((looks_findIn KI hs).here ?_)))
  show wpAny _ A (callSpecialIfBoundUnlessNone? (.ref x) "__iter__" _ >>= _) k E s
  refine wpAny_bind (wpAny_mono (one _) (fun r s' hr => ?_) fun _ _ z => z)
  obtain ⟨v, rfl, hv⟩ := hr
  refine wpAny_bind (wpAny_mono hv (fun r s₂ hr => ?_) fun _ _ z => z)
  cases r with
  | none => exact hr.elim
  | some g => exact wpAny_pure hr
theorem giter_own {x C d f : Addr} {m : List (Str × AV)} {Q : Addr → GP → Hid → Nat → AS → Prop} (hx : σ.f x = some (.inst C d)) (hd : σ.f d = some (.ns m)) (hs : findIn K (.ref C) "__iter__" = some (some (.ref f))) (hf : typeIn K (.ref f) = some (.type "function"))
    (h : VCH K w n (.ref f) [.ref x] (fun v hd σ' => ∃ It P fu, v = .ref It ∧ GenAt P It hd fu 0 ∧ Q It P hd fu σ') σ) : GIter K w n (.ref x) Q σ := fun x' hx' A B s hr X R k E hk => by
  rw [er_ref hx']
  refine iter_ownH X R hx hd hs hf (h A B s [.ref x] hr X R rfl _ _ fun v hd σ' s' hq ha R' => ?_)
  obtain ⟨It, P, fu, ev, ga, hq⟩ := hq
  rw [er_ref ev]
  obtain ⟨o, ho, nm, qn, e⟩ := ga.obj
  have hIt : s'.heap.get? It = some o := R'.keep It o (by simp [Bs.plus, ho])
  exact wpAny_specialOf (name := Str.ofString "__next__") (T := "generator") ⟨_, hIt, by rw [e]⟩ slot_gen_next.lookup (hk It P hd fu σ' s' hq ga ha R')
theorem RepB.tab (R : RepB w B σ s) {P : Addr} (hP : σ.f P = some .tab) {h' : Heap} {tk : Nat} (hx : Heap.ExtBut P s.heap h') (hz : s.heap.objs.size ≤ h'.objs.size) {ps : Array Value} (ho : h'.get? P = some { cls := .none, data := .fields ps }) (ht : TriplesOk ps.toList) :
    RepB w B σ { s with heap := h', toks := tk } := by
  have hb := R.apart P _ hP
  refine ⟨fun b o e => hx b o (fun q => by rw [q, hb] at e; cases e) (R.keep b o e), R.apart, fun a o e => ?_, R.dom, Nat.le_trans R.hi hz, R.os, R.gens⟩
  by_cases q : a = P
  · rw [q, hP] at e
    cases e
    exact ⟨_, q ▸ ho, ps, rfl, ht⟩
  · obtain ⟨ob, h1, h2⟩ := R.objs a o e
    exact ⟨ob, hx a ob q h1, h2⟩
noncomputable def CodeTab (K : Frag) (c P : Addr) : Prop := ∃ o vs file tf flags tg inF text tt, K.lookup c = some o ∧ o.cls = .type "code" ∧ o.data = .fields vs ∧ vs[11]? = some (.ref P) ∧ vs.getD 11 .none = .ref P ∧ vs.getD 18 .none = .str file tf ∧ vs.getD 7 .none = .int flags tg ∧ vs.getD 9 .none = .bool inF ∧ vs.getD 10 .none = .int text tt ∧ c ≠ P
theorem pushA_none : ∀ (names : List (Str × NameKind)) (σ : AS) (a : Addr), (∀ x ∈ names, x.2 ≠ .cell) → pushA σ a names = σ
  | [], _, _, _ => rfl
  | (x, k) :: r, σ, a, h => by
    have hk : k ≠ .cell := h (x, k) (List.mem_cons_self ..)
    unfold pushA
    rw [if_neg (fun q => hk (by cases k <;> first | rfl | cases q))]
    exact pushA_none r σ a fun y hy => h y (List.mem_cons_of_mem _ hy)
theorem nxh_genexp {cc P bm : Addr} {bo : Obj} {target elt iter : Expr} {scope : Scope} {pos : Pos} {Q : AV → Hid → AS → Prop} (hcc : env.code = .ref cc) (hct : CodeTab K cc P) (hbn : nsIn K mainGlobals "__builtins__" = some (some (.ref bm))) (hbo : K.lookup bm = some bo)
    (hbc : bo.cls = .type "module") (hbd : bo.dict = some builtinsNs) (hbp : bo.data = .plain) (hne : bm ≠ builtinsNs) (hcl : closA env scope.names [] = some []) (hnc : ∀ x ∈ scope.names, x.2 ≠ .cell) (h0 : scope.names.lookup (".0" : Str) = some .local)
    (h : NE K w (n + 1) env l iter (fun x σ1 => GIter K w (n + 1) x (fun It P1 hd1 f σ2 => σ2.f P = some .tab ∧ ∀ g2, ∃ P2, P2.g = g2 ∧ P2.w = w ∧ P2.K = K ∧ (∀ cenv, cenv.scope = scope → EnvOK cenv → GexpOK cenv target elt P1 P2) ∧ (∀ a hd2, GenAt P2 a hd2 f 0 → Q (.ref a) hd2 σ2)) σ1) σ)
    (hco : scope.isCoroutine = false := by rfl) (hk : scope.kind = .function := by rfl) (hs : ∀ x, genFold iter env x = pure x := by intro _; rfl) :
    NXH K w (n + 1) env l er (eval (.GeneratorExp elt [⟨target, iter, [], 0⟩] scope pos) env) Q σ := fun A B s hr X he R k E hq => by
  rw [eval_GeneratorExp1 _ _ _ _ _ _ _ hco]
  refine wpN_bind (h A B s hr X he R _ _ fun x σ1 s1 h1 R1 => ?_)
  refine wpN_of (wpAny_bind (wpAny_standAt (wpAny_bind (wpAny_of_eq (hs x) (wpAny_bind (wpAny_holding ?_))))))
  rw [← plus_nil (B := B)] at R1
  obtain ⟨ob, R2, a2, n2, back⟩ := frame_aside R1 apart_nil
  refine h1 x rfl A (B.add env.locals ob) s1 hr (X.add n2) R2 _ _ fun It P1 hd1 f σ2 s2 hq1 ga a3 R3 => ?_
  obtain ⟨hP, hP2⟩ := hq1
  have X3 : Base K ((B.add env.locals ob).plus hd1) := (X.add n2).plus a3
  refine wpAny_bind (wpAny_enterFrame (X3.noLimit R3) hr.depth ?_)
  refine wpAny_bind (closureFor_ok hcl ?_)
  refine wpAny_bind ?_
  obtain ⟨o, vs, file, tf, flags, tg, inF, text, tt, hcK, hoc, hcd, c11', c11, c18, c7, c9, c10, hcP⟩ := hct
  obtain ⟨op, hop, ps, rfl, hpt⟩ := R3.objs P _ hP
  have hcode : s2.heap.IsCode cc P ps := ⟨o, vs, file, tf, flags, tg, inF, text, tt, _, X3.In R3 _ _ hcK, hcd, c11, c18, c7, c9, c10, hop, rfl, hpt, hcP⟩
  have htab : s2.heap.TableAt cc P ps := ⟨⟨o, vs, X3.In R3 _ _ hcK, hoc, hcd, c11'⟩, hop⟩
  have step : ∀ (code : Value) (h' : Heap) (tk : Nat), RepB w ((B.add env.locals ob).plus hd1) σ2 { s2 with heap := h', toks := tk } → wpAny (model prog w) A (builtinsFor env.globals env.builtins >>= fun bi => newFunctionEnv scope env.globals [] [((".0" : Str), Value.ref It)] (env.qual ++ "<genexpr>.") none code none bi >>= fun cenv => newGenerator (.compStart (.GeneratorExp elt [⟨target, iter, [], 0⟩] scope pos) 0 (.ref It) .none cenv) "<genexpr>" (env.qual ++ "<genexpr>")) k E { s2 with heap := h', toks := tk } := by
    intro code h' tk R4
    have KI := X3.In R4
    have hgl := ns_of_ok KI X3.glob
    refine wpAny_bind ?_
    rw [he.glob]
    refine PySem.wpAny_builtinsFor hgl (ns_some_of KI hgl hbn) hne (KI _ _ hbo) hbc hbd hbp ?_
    have hkl : scope.names.lookup (".0" : Str) = some .local := h0
    refine wpAny_bind (wp_newEnv (K := K) (n := n + 1) (P := fun env' l' σ' => σ' = σ2 ∧ env'.scope = scope) hr X3 R4 hk rfl rfl (fun L env' hF he' => ?_) (fun L env' l' σ' s' hF he' hE hP3 R5 => ?_))
    · have hk0 : env'.kindOf (".0" : Str) = some .local := by
        rw [he']
        show scope.names.lookup (".0" : Str) = _
        exact h0
      refine bindA_local hk0 (bindA_nil ⟨pushA_none _ _ _ hnc, by rw [he']; rfl⟩)
    · obtain ⟨rfl, hsc⟩ := hP3
      obtain ⟨P2, hg2, hw2, hK2, hG, hQ⟩ := hP2 s'.gens.size
      have a3' := a3
      obtain ⟨ob2, R6, a6, n6, back2⟩ := R5.hideP a3
      have nB : (B.add env.locals ob).g s'.gens.size = none := by
        cases q : (B.add env.locals ob).g s'.gens.size with
        | none => rfl
        | some y =>
          exfalso
          have hh : ((B.add env.locals ob).plus (hd1.add env'.locals ob2)).g s'.gens.size = (((hd1.add env'.locals ob2).g s'.gens.size)).or ((B.add env.locals ob).g s'.gens.size) := rfl
          cases q2 : (hd1.add env'.locals ob2).g s'.gens.size with
          | none =>
            rw [q2, q] at hh
            have := R6.gens.1 _ _ hh
            rw [Array.getElem?_eq_none (Nat.le_refl _)] at this; cases this
          | some z =>
            rw [q2] at hh
            have := R6.gens.1 _ _ hh
            rw [Array.getElem?_eq_none (Nat.le_refl _)] at this; cases this
      have nh : hd1.g s'.gens.size = none := by
        cases q2 : hd1.g s'.gens.size with
        | none => rfl
        | some z =>
          have := R6.gens.1 s'.gens.size z (by show ((hd1.add env'.locals ob2).g _).or _ = _; rw [show (hd1.add env'.locals ob2).g s'.gens.size = some z from q2]; rfl)
          rw [Array.getElem?_eq_none (Nat.le_refl _)] at this; cases this
      have hal : Alive P2 f 0 (.fresh (.compStart (.GeneratorExp elt [⟨target, iter, [], 0⟩] scope pos) 0 (.ref It) .none env')) ((hd1.setg P2.g (some .running)).add env'.locals ob2) := by
        refine alive_iff.mpr fun A' B' σ4 s4 hr4 X4 _ a7 hok4 R7 => ?_
        have hdg : hd1.g P2.g = none := by rw [hg2]; exact nh
        have a8 : Apart (B'.plus (Hid.nil.setg P2.g (some .running))) (hd1.add env'.locals ob2) := by
          have hb' : B'.g P2.g = none := a7.g P2.g .running (by simp [Hid.setg, Hid.add])
          refine ⟨fun a x e => a7.o a x e, fun j x e => ?_⟩
          show ((if j = P2.g then some GenState.running else none : Option GenState)).or (B'.g j) = none
          by_cases q : j = P2.g
          · rw [q] at e; rw [show (hd1.add env'.locals ob2).g P2.g = hd1.g P2.g from rfl, hdg] at e; cases e
          · rw [if_neg q]
            exact a7.g j x (by simp only [Hid.setg, Hid.add]; rw [if_neg q]; exact e)
        have e1 := setg_plus (B := B') (hd := hd1.add env'.locals ob2) (g := P2.g) hdg
        have R7' : RepB P2.w (B'.plus ((hd1.add env'.locals ob2).setg P2.g (some .running))) σ4 s4 := R7
        rw [e1, hw2] at R7'
        obtain ⟨a9, R9⟩ := back2 _ σ4 s4 R7' a8
        obtain ⟨a10, _⟩ := run_apart a9
        rw [← setg_plus hdg, ← hw2] at R9
        have hb' : B'.g P2.g = none := a7.g P2.g .running (by simp [Hid.setg, Hid.add])
        exact gexp_start (hG env' hsc hE) hE (by rw [hsc]; exact hco) hr4 X4 a10 hb' hdg hok4 ga R9
      have hn3 : (hd1.add env'.locals ob2).o s'.heap.objs.size = none := (plus_o R6.fresh.2).1
      have ag : Apart (B.add env.locals ob) (hd1.add env'.locals ob2) := a6
      obtain ⟨R10, a11⟩ := R6.pushGen (gs := .fresh (.compStart (.GeneratorExp elt [⟨target, iter, [], 0⟩] scope pos) 0 (.ref It) .none env')) rfl (o := { cls := .type "generator", data := .fields #[.int s'.gens.size 0, .str "<genexpr>" s'.toks, .str (env.qual ++ "<genexpr>") (s'.toks + 1)] }) rfl (tk := s'.toks + 1 + 1) nh hn3 a6
      simp only [newGenerator, newFields]
      refine wpAny_bind (wpAny_newGen (wpAny_bind (wpAny_mkText (wpAny_bind (wpAny_mkText (wpAny_newObj_type ?_ (by size_fits)))))))
      have ga2 : GenAt P2 s'.heap.objs.size (((hd1.add env'.locals ob2).add s'.heap.objs.size { cls := .type "generator", data := .fields #[.int s'.gens.size 0, .str "<genexpr>" s'.toks, .str (env.qual ++ "<genexpr>") (s'.toks + 1)] }).setg s'.gens.size (some (.fresh (.compStart (.GeneratorExp elt [⟨target, iter, [], 0⟩] scope pos) 0 (.ref It) .none env')))) f 0 := by
        refine ⟨_, _, { cls := .type "generator", data := .fields #[.int s'.gens.size 0, .str "<genexpr>" s'.toks, .str (env.qual ++ "<genexpr>") (s'.toks + 1)] }, hal, by simp [Hid.setg, Hid.add], hn3, ⟨_, _, by rw [hg2]⟩, rfl, ?_⟩
        unfold Hid.setg Hid.add
        rw [hg2]
        congr 1
        funext j
        dsimp only
        by_cases q : j = s'.gens.size
        · rw [if_pos q, if_pos q]
        · rw [if_neg q, if_neg q, if_neg q]
      obtain ⟨a12, R12⟩ := back _ _ _ R10 a11
      exact hq (.ref s'.heap.objs.size) _ _ _ (hQ _ _ ga2) a12 R12
  cases hnf : codeAmong pos ps.toList with
  | none =>
    refine with_size (wpAny_genexprCodeX hcc hcode htab hnf fun c' h' tk hx _ _ hc' _ ht' _ hz => ?_)
    obtain ⟨_, _, _, _, _, _, _, _, _, op', _, _, _, _, _, _, _, hop', hpd', hpt', _⟩ := hc'
    exact step _ h' tk (R3.tab (tk := tk) hP hx hz ht'.2 hpt')
  | some c' =>
    refine PySem.wpAny_genexprCode_hit hcc hcode hnf ?_
    exact step _ s2.heap s2.toks R3
end
end Mine
end
section
open PySem PySem.W PySem.Calls PyProof.Rows
set_option maxRecDepth 100000
set_option linter.unusedVariables false
set_option linter.unusedSimpArgs false
namespace Mine
section
variable {w : World} {K : Frag} {B : Bs} {n : Nat} {env : Env} {l : Loc} {σ : AS} {s : Shared}
theorem ne_sum_gen {np pos : Pos} {e : Expr} {Q : AV → AS → Prop} (hm : nsIn K mainGlobals "sum" = some none) (hv : bootBuiltins "sum" = some (.builtin "sum"))
    (h : NXH K w n env l er (eval e env) (fun x hd σ1 => ∃ It P f J, x = .ref It ∧ P.w = w ∧ P.K = K ∧ P.n + 3 ≤ n ∧ (P.fin = .ok .next ∨ P.fin = .ok (.ret .none)) ∧ GenAt P It hd f 0 ∧ SumOf P Q J ∧ J 0 0 σ1) σ)
    (hl : env.kindOf "sum" = some .globalImplicit := by first | assumption | rfl) (hs : noStar [e] = true := by rfl)
    (he0 : starEach [e] env = (false, eval e env) :: starEach [] env := by rfl)
    (he' : eval (.Call (.Name "sum" np) [e] [] pos) env = (do callWith pos (← eval (.Name "sum" np) env) [] (backTo pos (starEach [e] env)) (backToKw pos (keywordEach [] env))) := by rfl) :
    NE K w n env l (.Call (.Name "sum" np) [e] [] pos) Q σ := fun A B s hr X he R k E hk2 => by
  show wpN _ A (eval _ env) k E s
  rw [he']
  refine wpN_bindA (vx_builtin (n := n) hm hv (Q := fun v σ1 => v = .builtin "sum" ∧ σ1 = σ) ⟨rfl, rfl⟩ hl (by decide) (by decide) A B s hr X he R _ _ fun v σ1 s1 h1 R1 => ?_)
  obtain ⟨e1, rfl⟩ := h1
  rw [show v = .builtin "sum" from e1]
  unfold callWith
  refine wpN_bind (wpN_holding (evalArgs_posN (noStar_any hs) ?_))
  rw [he0]
  show wpN _ A (spliced ((false, eval e env) :: backTo pos (starEach [] env))) _ _ s1
  unfold spliced
  refine wpN_bind (h A B s1 hr X he R1 _ _ fun x hd σ2 s2 h2 a2 R2 => wpN_of ?_)
  refine wpAny_bind (wpAny_pure (wpAny_bind (wpAny_holding ?_)))
  refine spliced_nil ?_
  refine wpAny_pure ?_
  refine wpN_bindA (wpAny_standAt ?_)
  obtain ⟨It, P, f, J, ex, hw, hK, hn, hfin, ga, so, hJ⟩ := h2
  have X2 : Base K (B.plus hd) := X.plus a2
  have Lk : Looks (model prog w) s2.heap (keeperOf (.builtin "sum")) .machine := .now
  have hplain : ((backTo pos (starEach [e] env)).any (·.1) || ([] : List (Option Str × Sem Value)).any (·.1.isNone)) = false := by rw [noStar_any hs]; rfl
  have hpl2 : ((backTo pos (starEach [e] env)).any (·.1) || (backToKw pos (keywordEach [] env)).any (·.1.isNone)) = false := by rw [noStar_any hs]; rfl
  simp only [hplain, hpl2]
  refine wpN_bindA (Lk.here ?_)
  rw [er_ref ex]
  obtain ⟨ob, R3, a3, n3, back⟩ := frame_aside R2 a2
  subst hw
  subst hK
  have hcall : wpN (model prog P.w) A (call (.builtin "sum") ([] ++ [.ref It]) []) (fun r s₂ => wpN (model prog P.w) A (holding [r] point >>= fun _ => pure r) k E s₂) E s2 :=
    wpN_of (sum_gen hfin so (hr.less hn) (X.add n3) ga hJ a3 R3 fun r σ3 s3 hq R4 => wpN_of (wpAny_bind (wpAny_holding (wpAny_point (wpAny_pure (hk2 _ _ _ hq ?_))))))
  · exact wpN_bind hcall
  · obtain ⟨m, x, y⟩ := R2.ns
    obtain ⟨o, es, ep, ho, r⟩ := id x
    have hob : ob = o := Option.some.inj ((R3.keep env.locals ob (by
      show (hd.o env.locals).or ((B.add env.locals ob).o env.locals) = some ob
      rw [(plus_o R2.lb).1]; simp [Bs.add])).symm.trans ho)
    subst hob
    obtain ⟨b1, b2, b3⟩ := R4.show n3
    exact ⟨b1, ⟨m, ⟨ob, es, ep, b2, r⟩, y⟩, b3, n3⟩
end
end Mine
end
section
open PySem PySem.W PySem.Calls PyProof.Rows
set_option maxRecDepth 100000
set_option linter.unusedVariables false
set_option linter.unusedSimpArgs false
namespace Mine
section
variable {w : World} {K : Frag} {B : Bs} {n : Nat} {env : Env} {l : Loc} {σ : AS} {s : Shared}
theorem nm_of {v : AV} {name : Str} {Q : Value × List Value → AS → Prop} (h : VM K w n v name Q σ) : NM K w n v name Q σ := fun v' pl hv => nh_of (h v' pl hv)
theorem ne_mcall_obj {o : Expr} {name : Str} {apos pos : Pos} {kn : Str} {kx : Expr} {kpos : Pos} {pl : Sem Bool} {Q : AV → AS → Prop}
    (h : VE K w n env l o (fun ov σ1 => NM K w n ov name (fun fx σ2 => ∃ D C d m f, fx = (.ref D, []) ∧ σ2.f D = some (.inst C d) ∧ σ2.f d = some (.ns m) ∧ findIn K (.ref C) "__call__" = some (some (.ref f)) ∧ isFn K (.ref f) = true ∧ fnIn K f = true ∧
      VE K w n env l kx (fun kv σ3 => σ3.f D = some (.inst C d) ∧ σ3.f d = some (.ns m) ∧ VCode K w n (.ref f) [.ref D] [(kn, kv)] Q σ3) σ2) σ1) σ)
    (he' : eval (.Call (.Attribute o name apos) [] [⟨some kn, kx, kpos⟩] pos) env = (do
      let ov ← eval o env
      standAt apos.atName
      let (f, first) ← holding [ov] (getMethod ov name pl)
      callWith pos f first (backTo pos (starEach [] env)) (backToKw pos (keywordEach [⟨some kn, kx, kpos⟩] env))) := by rfl) :
    NE K w n env l (.Call (.Attribute o name apos) [] [⟨some kn, kx, kpos⟩] pos) Q σ := fun A B s hr X he R k E hk => by
  show wpN _ A (eval _ env) k E s
  rw [he']
  refine wpN_bindA (h A B s hr X he R _ _ fun ov σ1 s1 h1 R1 => wpN_bindA (wpAny_standAt (wpN_bind (wpN_holding (nx_of_nh (h1 ov pl rfl) A B s1 hr X he R1 _ _ fun fx σ2 s2 h2 R2 => wpN_of ?_)))))
  obtain ⟨D, C, d, m, f, ef, hx, hd, hc, hf1, hf2, h3⟩ := h2
  obtain rfl : fx = (.ref D, []) := ef
  unfold callWith
  refine wpAny_bind (wpAny_holding (evalArgs_kw2_nil rfl (kwAll_cons (h3 A B s2 hr X he R2 _ _ fun kv σ3 s3 h4 R3 => ?_))))
  refine kwAll_nil ?_
  obtain ⟨hx3, hd3, hcode⟩ := h4
  obtain ⟨od, I, i1, i2⟩ := R3.rep.inst hx3 hd3
  have KI := X.In R3.rep
  have L := kco_keeper (M := model prog w) I rfl
  refine wpAny_bind (wpAny_standAt ?_)
  refine wpAny_bind (L.here ?_)
  have tail : ∀ {t : Sem Value}, wpAny (model prog w) A t k E s3 → wpAny (model prog w) A (t >>= fun r => holding [r] point >>= fun _ => pure r) k E s3 :=
    fun ht => wpAny_bind (wpAny_mono ht (fun r s₂ hr => wpAny_bind (wpAny_holding (wpAny_point (wpAny_pure hr)))) fun _ _ y => y)
  refine tail (wpAny_operateT ?_)
  obtain ⟨ob, R4, X4, back⟩ := R3.hide X
  refine wpAny_call (kco_code KI I rfl hc hf1 hf2 ?_)
  exact hcode A _ s3 [.ref D] [(kn, kv)] hr X4 R4 rfl rfl k E fun v σ' s' q R' => hk v σ' s' q (back σ' s' R')
end
end Mine
end
section
open PySem PySem.W PySem.Calls PyProof.Rows
set_option maxRecDepth 100000
set_option linter.unusedVariables false
namespace Mine
noncomputable def dropA (a : Addr) : Frag → Frag
  | [] => []
  | (b, o) :: r => bif Nat.beq b a then dropA a r else (b, o) :: dropA a r
noncomputable abbrev KK (w : World) : Frag := dropA 613 (hd.heap_39 w.params)
section
variable {w : World}
theorem g_NodeView : nsIn (KK w) mainGlobals "NodeView" = some (some (.ref 76)) := by kernel_rfl
theorem kp_NodeView : keepIn (KK w) (.ref 76) = true := by kernel_rfl
theorem g__NOT_FOUND : nsIn (KK w) mainGlobals "_NOT_FOUND" = some (some (.ref 292)) := by kernel_rfl
theorem g_Graph : nsIn (KK w) mainGlobals "Graph" = some (some (.ref 629)) := by kernel_rfl
theorem kp_Graph : keepIn (KK w) (.ref 629) = true := by kernel_rfl
theorem g_arbitrary_element : nsIn (KK w) mainGlobals "arbitrary_element" = some (some (.ref 644)) := by kernel_rfl
theorem kp_arbitrary_element : keepIn (KK w) (.ref 644) = true := by kernel_rfl
theorem g_reached : nsIn (KK w) mainGlobals "reached" = some (some (.ref 649)) := by kernel_rfl
theorem kp_reached : keepIn (KK w) (.ref 649) = true := by kernel_rfl
theorem g_undirected_graph : nsIn (KK w) mainGlobals "undirected_graph" = some (some (.ref 654)) := by kernel_rfl
theorem kp_undirected_graph : keepIn (KK w) (.ref 654) = true := by kernel_rfl
theorem g_bfs_edges : nsIn (KK w) mainGlobals "bfs_edges" = some (some (.ref 661)) := by kernel_rfl
theorem kp_bfs_edges : keepIn (KK w) (.ref 661) = true := by kernel_rfl
theorem g_shortest_path_length : nsIn (KK w) mainGlobals "shortest_path_length" = some (some (.ref 668)) := by kernel_rfl
theorem kp_shortest_path_length : keepIn (KK w) (.ref 668) = true := by kernel_rfl
theorem g_is_tree : nsIn (KK w) mainGlobals "is_tree" = some (some (.ref 675)) := by kernel_rfl
theorem kp_is_tree : keepIn (KK w) (.ref 675) = true := by kernel_rfl
theorem g_center : nsIn (KK w) mainGlobals "center" = some (some (.ref 680)) := by kernel_rfl
theorem kp_center : keepIn (KK w) (.ref 680) = true := by kernel_rfl
theorem g__law_seed : nsIn (KK w) mainGlobals "_law_seed" = some (some (.ref 687)) := by kernel_rfl
theorem kp__law_seed : keepIn (KK w) (.ref 687) = true := by kernel_rfl
theorem g__law_next : nsIn (KK w) mainGlobals "_law_next" = some (some (.ref 694)) := by kernel_rfl
theorem kp__law_next : keepIn (KK w) (.ref 694) = true := by kernel_rfl
theorem g__law_far : nsIn (KK w) mainGlobals "_law_far" = some (some (.ref 699)) := by kernel_rfl
theorem kp__law_far : keepIn (KK w) (.ref 699) = true := by kernel_rfl
theorem g__law_peeled : nsIn (KK w) mainGlobals "_law_peeled" = some (some (.ref 704)) := by kernel_rfl
theorem kp__law_peeled : keepIn (KK w) (.ref 704) = true := by kernel_rfl
theorem g_law : nsIn (KK w) mainGlobals "law" = some (some (.ref 709)) := by kernel_rfl
theorem kp_law : keepIn (KK w) (.ref 709) = true := by kernel_rfl
theorem g_DegreeView : nsIn (KK w) mainGlobals "DegreeView" = some (some (.ref 154)) := by kernel_rfl
theorem kp_DegreeView : keepIn (KK w) (.ref 154) = true := by kernel_rfl
theorem g_NetworkXPointlessConcept : nsIn (KK w) mainGlobals "NetworkXPointlessConcept" = some (some (.ref 289)) := by kernel_rfl
theorem kp_NetworkXPointlessConcept : keepIn (KK w) (.ref 289) = true := by kernel_rfl
theorem b_abs : nsIn (KK w) mainGlobals "abs" = some none := by kernel_rfl
theorem bb_abs : bootBuiltins "abs" = some (.builtin "abs") := by rfl
theorem kb_abs : KeepOK (KK w) (.builtin "abs") := keep_builtin
theorem b_range : nsIn (KK w) mainGlobals "range" = some none := by kernel_rfl
theorem bb_range : bootBuiltins "range" = some (.type "range") := by rfl
theorem kb_range : KeepOK (KK w) (.type "range") := keep_type
theorem b_list : nsIn (KK w) mainGlobals "list" = some none := by kernel_rfl
theorem bb_list : bootBuiltins "list" = some (.type "list") := by rfl
theorem kb_list : KeepOK (KK w) (.type "list") := keep_type
theorem b_len : nsIn (KK w) mainGlobals "len" = some none := by kernel_rfl
theorem bb_len : bootBuiltins "len" = some (.builtin "len") := by rfl
theorem kb_len : KeepOK (KK w) (.builtin "len") := keep_builtin
theorem b_max : nsIn (KK w) mainGlobals "max" = some none := by kernel_rfl
theorem bb_max : bootBuiltins "max" = some (.builtin "max") := by rfl
theorem kb_max : KeepOK (KK w) (.builtin "max") := keep_builtin
theorem b_min : nsIn (KK w) mainGlobals "min" = some none := by kernel_rfl
theorem bb_min : bootBuiltins "min" = some (.builtin "min") := by rfl
theorem kb_min : KeepOK (KK w) (.builtin "min") := keep_builtin
theorem b_sorted : nsIn (KK w) mainGlobals "sorted" = some none := by kernel_rfl
theorem bb_sorted : bootBuiltins "sorted" = some (.builtin "sorted") := by rfl
theorem kb_sorted : KeepOK (KK w) (.builtin "sorted") := keep_builtin
theorem b_iter : nsIn (KK w) mainGlobals "iter" = some none := by kernel_rfl
theorem bb_iter : bootBuiltins "iter" = some (.builtin "iter") := by rfl
theorem kb_iter : KeepOK (KK w) (.builtin "iter") := keep_builtin
theorem b_next : nsIn (KK w) mainGlobals "next" = some none := by kernel_rfl
theorem bb_next : bootBuiltins "next" = some (.builtin "next") := by rfl
theorem kb_next : KeepOK (KK w) (.builtin "next") := keep_builtin
theorem b_sum : nsIn (KK w) mainGlobals "sum" = some none := by kernel_rfl
theorem bb_sum : bootBuiltins "sum" = some (.builtin "sum") := by rfl
theorem kb_sum : KeepOK (KK w) (.builtin "sum") := keep_builtin
theorem b_int : nsIn (KK w) mainGlobals "int" = some none := by kernel_rfl
theorem bb_int : bootBuiltins "int" = some (.type "int") := by rfl
theorem kb_int : KeepOK (KK w) (.type "int") := keep_type
theorem b_hasattr : nsIn (KK w) mainGlobals "hasattr" = some none := by kernel_rfl
theorem bb_hasattr : bootBuiltins "hasattr" = some (.builtin "hasattr") := by rfl
theorem kb_hasattr : KeepOK (KK w) (.builtin "hasattr") := keep_builtin
end
end Mine
end
section
open PySem PySem.W PySem.Calls PyProof.Rows
set_option maxRecDepth 100000
set_option linter.unusedVariables false
set_option linter.unusedSimpArgs false
namespace Mine
variable {w : World} {σ : AS} {n : Nat}
noncomputable def P31 : Int := 2147483647
theorem law_next {Q : AV → AS → Prop} {a : Addr} {x m : Int} (hl : σ.f a = some (.list [.int x])) (hx : 0 ≤ x ∧ x < 2147483647) (hm : 0 < m)
    (h : ∀ y r, 0 ≤ y ∧ y < 2147483647 → 0 ≤ r ∧ r < m → Q (.int r) (σ.upd a (.list [.int y]))) :
    VC (KK w) w (n + 1) (.ref 694) [.ref a, .int m] Q σ := by
  refine vc_def (f := 694) rfl rfl (by kernel_rfl) (vbi_2 (x := "s") (y := "many") ⟨by rfl, fun L env hL he => ?_⟩)
  have k_s := kd_of he (x := "s") (k := .local) rfl
  have k_many := kd_of he (x := "many") (k := .local) rfl
  clear he
  refine vb_cons ?_
  refine vs_assign ?_
  refine ve_int op_mod ?_
  refine ve_int op_add ?_
  refine ve_int op_mul ?_
  refine ve_sub ?_
  refine ve_local (by first | assumption | (simp only [lk_lset, lk, ofString_inj, String.reduceEq, if_true, if_false] <;> first | rfl | assumption)) ?_
  refine ve_const_int ?_
  refine vi_list_int hl (by decide) (by decide) (by rfl) ?_
  refine ve_const_int ?_
  refine ⟨_, _, rfl, rfl, IntMulOk.of_right (intBits_le_64 (by omega) (by omega)), ?_⟩
  refine ve_const_int ?_
  refine ⟨_, _, rfl, rfl, trivial, ?_⟩
  refine ve_const_int ?_
  refine ⟨_, _, rfl, rfl, by decide, ?_⟩
  refine va_sub_list ?_
  refine ve_local (by first | assumption | (simp only [lk_lset, lk, ofString_inj, String.reduceEq, if_true, if_false] <;> first | rfl | assumption)) ?_
  refine ve_const_int ?_
  refine ⟨_, _, _, rfl, rfl, hl, by decide, Int.zero_lt_one, by decide, ?_⟩
  refine vb_cons ?_
  refine vs_return ?_
  refine ve_int op_mod ?_
  refine ve_int op_div ?_
  refine ve_sub ?_
  refine ve_local (by first | assumption | (simp only [lk_lset, lk, ofString_inj, String.reduceEq, if_true, if_false] <;> first | rfl | assumption)) ?_
  refine ve_const_int ?_
  refine vi_list_int (by simp only [AS.upd_f, if_true]; rfl) (by decide) (by decide) (by rfl) ?_
  refine ve_const_int ?_
  refine ⟨_, _, rfl, rfl, ⟨by decide, PyProof.noPylong_small (by decide)⟩, ?_⟩
  refine ve_local (by first | assumption | (simp only [lk_lset, lk, ofString_inj, String.reduceEq, if_true, if_false] <;> first | rfl | assumption)) ?_
  refine ⟨_, _, rfl, rfl, by omega, ?_⟩
  exact h _ _ ⟨Int.fmod_nonneg_of_pos _ (by decide), Int.fmod_lt_of_pos _ (by decide)⟩ ⟨Int.fmod_nonneg_of_pos _ hm, Int.fmod_lt_of_pos _ hm⟩
theorem law_seed {Q : AV → AS → Prop} {a : Addr} {ns : List Int} (hl : LR σ a (ns.map .int)) (hz : ns.length ≤ sizeLine)
    (h : ∀ σ' b x, Ext σ σ' → Fresh σ' b → 0 ≤ x ∧ x < 2147483647 → Q (.ref b) (σ'.ins b (.list [.int x]))) :
    VC (KK w) w (n + 1) (.ref 687) [.ref a] Q σ := by
  refine vc_def (f := 687) rfl rfl (by kernel_rfl) (vbi_1 (x := "script") ⟨by rfl, fun L env hL he => ?_⟩)
  have k_script := kd_of he (x := "script") (k := .local) rfl
  have k_seed := kd_of he (x := "seed") (k := .local) rfl
  have k_cell := kd_of he (x := "cell") (k := .local) rfl
  have k_abs := kd_of he (x := "abs") (k := .globalImplicit) rfl
  clear he
  refine vb_cons ?_
  refine vs_assign ?_
  refine ve_const_int ?_
  refine va_local ?_
  refine vb_cons ?_
  refine vs_loop ?_
  refine ve_slice_upto ?_
  refine ve_local (by first | assumption | (simp only [lk_lset, lk, ofString_inj, String.reduceEq, if_true, if_false] <;> first | rfl | assumption)) ?_
  refine ⟨a, _, rfl, hl, by rw [List.length_map]; exact hz, fun b hb => ?_⟩
  have hE : Ext σ (σ.ins b (.list ((ns.map .int).take 24))) := Ext.ins hb
  refine vit_list (by simp only [AS.ins_f, if_true]; rfl) ?_
  refine ⟨fun i l σ' => σ' = σ.ins b (.list ((ns.map .int).take 24)) ∧ ∃ x, lk l "seed" = some (.int x) ∧ 0 ≤ x ∧ x < 2147483647, 24, ⟨rfl, 17, (by first | assumption | (simp only [lk_lset, lk, ofString_inj, String.reduceEq, if_true, if_false] <;> first | rfl | assumption)), by decide, by decide⟩, fun i l' σ' hI => ?_⟩
  obtain ⟨rfl, x, hs, h0, h1⟩ := hI
  refine ⟨⟨_, by simp only [AS.ins_f, if_true]; rfl⟩, fun v hv => ?_, fun _ => ?_⟩
  · have hv' : ((ns.map AV.int).take 24)[i]? = some v := by simpa only [listNxt, AS.ins_f, if_true] using hv
    have hi : i < 24 := by
      rcases Nat.lt_or_ge i 24 with q | q
      · exact q
      · rw [List.getElem?_eq_none (by rw [List.length_take]; omega)] at hv'; cases hv'
    obtain ⟨y, rfl⟩ : ∃ y, v = .int y := by
      have := List.mem_of_getElem? hv'
      have := List.mem_of_mem_take this
      obtain ⟨y, _, e⟩ := List.mem_map.mp this
      exact ⟨y, e.symm⟩
    refine ⟨hi, va_local ?_⟩
    refine vb_cons ?_
    refine vs_assign ?_
    refine ve_int op_mod ?_
    refine ve_int op_add ?_
    refine ve_int op_add ?_
    refine ve_int op_mul ?_
    refine ve_local (by first | assumption | (simp only [lk_lset, lk, ofString_inj, String.reduceEq, if_true, if_false] <;> first | rfl | assumption)) ?_
    refine ve_const_int ?_
    refine ⟨_, _, rfl, rfl, IntMulOk.of_right (intBits_le_64 (by omega) (by omega)), ?_⟩
    refine ve_int op_mod ?_
    refine ve_call_b (x := "abs") b_abs bb_abs kb_abs ?_
    refine vl_cons ?_
    refine ve_local (by first | assumption | (simp only [lk_lset, lk, ofString_inj, String.reduceEq, if_true, if_false] <;> first | rfl | assumption)) ?_
    refine vl_nil ?_
    refine vc_abs ?_
    refine ve_const_int ?_
    refine ⟨_, _, rfl, rfl, by decide, ?_⟩
    refine ⟨_, _, rfl, rfl, trivial, ?_⟩
    refine ve_const_int ?_
    refine ⟨_, _, rfl, rfl, trivial, ?_⟩
    refine ve_const_int ?_
    refine ⟨_, _, rfl, rfl, by decide, ?_⟩
    refine va_local ?_
    refine vb_nil ?_
    exact ⟨rfl, _, (by first | assumption | (simp only [lk_lset, lk, ofString_inj, String.reduceEq, if_true, if_false] <;> first | rfl | assumption)), Int.fmod_nonneg_of_pos _ (by decide), Int.fmod_lt_of_pos _ (by decide)⟩
  · refine vb_cons ?_
    refine vs_return ?_
    refine ve_list ?_
    refine vl_cons ?_
    refine ve_local (by first | assumption | (simp only [lk_lset, lk, ofString_inj, String.reduceEq, if_true, if_false] <;> first | rfl | assumption)) ?_
    refine vl_nil ?_
    exact ⟨by simp, fun c hc => h _ _ _ hE hc ⟨h0, h1⟩⟩
end Mine
end
section
open PySem PySem.W PySem.Calls PyProof.Rows
set_option maxRecDepth 100000
set_option linter.unusedVariables false
set_option linter.unusedSimpArgs false
namespace Mine
variable {w : World} {σ : AS} {n : Nat}
noncomputable def gl (f : List (Int × Int)) (k : Int) : Option Int := (f.find? fun p => p.1 = k).map (·.2)
noncomputable def sl (f : List (Int × Int)) (k v : Int) : List (Int × Int) := if f.any (fun p => p.1 = k) then f.map (fun p => if p.1 = k then (p.1, v) else p) else f ++ [(k, v)]
noncomputable def DI (f : List (Int × Int)) : List (Int × AV) := f.map fun p => (p.1, .int p.2)
theorem ivl_DI (f : List (Int × Int)) (k : Int) : ivl (DI f) k = (gl f k).map .int := by
  unfold ivl gl DI
  induction f with
  | nil => rfl
  | cons p r ih =>
    rw [List.map_cons, List.find?_cons, List.find?_cons]
    by_cases q : p.1 = k
    · simp [q]
    · simp only [q, decide_false]; exact ih
theorem ist_DI (f : List (Int × Int)) (k v : Int) : ist (DI f) k (.int v) = DI (sl f k v) := by
  unfold ist sl DI
  have e : (f.map fun p => (p.1, AV.int p.2)).any (fun kv => decide (kv.1 = k)) = f.any (fun p => decide (p.1 = k)) := by rw [List.any_map]; rfl
  rw [e]
  split
  · rw [List.map_map, List.map_map]
    refine List.map_congr_left fun p _ => ?_
    simp only [Function.comp]
    split <;> simp_all
  · rw [List.map_append]; rfl
theorem DI_vals (f : List (Int × Int)) : (DI f).map (·.2) = (f.map (·.2)).map .int := by unfold DI; rw [List.map_map, List.map_map]; rfl
theorem DI_length (f : List (Int × Int)) : (DI f).length = f.length := by unfold DI; rw [List.length_map]
theorem sl_length (f : List (Int × Int)) (k v : Int) : (sl f k v).length ≤ f.length + 1 := by
  unfold sl; split
  · rw [List.length_map]; omega
  · rw [List.length_append]; simp
noncomputable def relax (m : Int) (f : List (Int × Int)) (e : Int × Int) : List (Int × Int) :=
  match gl f e.1 with
  | some x => if x + 1 < (gl f e.2).getD (m + 1) then sl f e.2 (x + 1) else f
  | none => f
noncomputable def swp (e : Int × Int) : Int × Int := (e.2, e.1)
noncomputable def round (m : Int) (E : List (Int × Int)) (f : List (Int × Int)) : List (Int × Int) := (E ++ E.map swp).foldl (relax m) f
noncomputable def rounds (m : Int) (E : List (Int × Int)) (st : Int) : Nat → List (Int × Int)
  | 0 => [(st, 0)]
  | k + 1 => round m E (rounds m E st k)
theorem relax_length (m : Int) (f : List (Int × Int)) (e : Int × Int) : (relax m f e).length ≤ f.length + 1 := by
  unfold relax
  split
  · split
    · exact sl_length _ _ _
    · omega
  · omega
theorem foldl_relax_length (m : Int) : ∀ (E f : List (Int × Int)), (E.foldl (relax m) f).length ≤ f.length + E.length
  | [], f => Nat.le_refl _
  | e :: E, f => by
    rw [List.foldl_cons, List.length_cons]
    have h1 := foldl_relax_length m E (relax m f e)
    have h2 := relax_length m f e
    omega
theorem rounds_length (m : Int) (E : List (Int × Int)) (st : Int) : ∀ k, (rounds m E st k).length ≤ 1 + k * (2 * E.length)
  | 0 => by simp [rounds]
  | k + 1 => by
    have h1 := foldl_relax_length m (E ++ E.map swp) (rounds m E st k)
    have h2 := rounds_length m E st k
    rw [List.length_append, List.length_map] at h1
    show (round m E (rounds m E st k)).length ≤ _
    unfold round
    rw [Nat.add_mul]; omega
theorem relax_ne (m : Int) (f : List (Int × Int)) (e : Int × Int) (h : f ≠ []) : relax m f e ≠ [] := by
  unfold relax
  split
  · split
    · unfold sl; split
      · simpa using h
      · simp
    · exact h
  · exact h
theorem foldl_relax_ne (m : Int) : ∀ (E f : List (Int × Int)), f ≠ [] → E.foldl (relax m) f ≠ []
  | [], _, h => h
  | e :: E, f, h => foldl_relax_ne m E _ (relax_ne m f e h)
theorem rounds_ne (m : Int) (E : List (Int × Int)) (st : Int) : ∀ k, rounds m E st k ≠ []
  | 0 => by simp [rounds]
  | k + 1 => foldl_relax_ne m _ _ (rounds_ne m E st k)
theorem law_far {Q : AV → AS → Prop} {ea : Addr} {m st : Int} {vs : List AV} {E : List (Int × Int)} (hl : σ.f ea = some (.list vs)) (hp : Prs σ vs E) (hE : E.length ≤ 50) (hm : 0 ≤ m) (hm' : m ≤ 8)
    (h : ∀ σ' r, Ext σ σ' → r ∈ (rounds m E st m.toNat).map (·.2) → (∀ x ∈ (rounds m E st m.toNat).map (·.2), x ≤ r) → Q (.int r) σ') :
    VC (KK w) w (n + 1) (.ref 699) [.int m, .ref ea, .int st] Q σ := by
  refine vc_def (f := 699) rfl rfl (by kernel_rfl) (vbi_3 (x := "many") (y := "edges") (z := "start") ⟨by rfl, fun L env hL he => ?_⟩)
  have k_many := kd_of he (x := "many") (k := .local) rfl
  have k_edges := kd_of he (x := "edges") (k := .local) rfl
  have k_start := kd_of he (x := "start") (k := .local) rfl
  have k_far := kd_of he (x := "far") (k := .local) rfl
  have k_turn := kd_of he (x := "turn") (k := .local) rfl
  have k_a := kd_of he (x := "a") (k := .local) rfl
  have k_b := kd_of he (x := "b") (k := .local) rfl
  have k_range := kd_of he (x := "range") (k := .globalImplicit) rfl
  have k_max := kd_of he (x := "max") (k := .globalImplicit) rfl
  refine vb_cons ?_
  refine vs_assign ?_
  refine ve_dict1 fun d hd => ?_
  refine ve_local (by first | assumption | (simp only [lk_lset, lk, ofString_inj, String.reduceEq, if_true, if_false] <;> first | rfl | assumption)) ?_
  refine ve_const_int ?_
  refine ⟨st, rfl, by simp only [AS.ins_f, if_true], fun ep => ?_⟩
  refine va_local ?_
  refine vb_cons ?_
  refine vs_loop ?_
  refine ve_call_b (x := "range") b_range bb_range kb_range ?_
  refine vl_cons ?_
  refine ve_local (by first | assumption | (simp only [lk_lset, lk, ofString_inj, String.reduceEq, if_true, if_false] <;> first | rfl | assumption)) ?_
  refine vl_nil ?_
  refine vc_range1 fun rg hrg => ?_
  refine vit_range (by simp only [AS.ins_f, if_true]; rfl) (by decide) (by decide) (by omega) (by omega) ?_
  have hE0 : Ext σ ((σ.ins d (.idict [] 0)).upd d (.idict [(st, .int 0)] ep)) := (Ext.ins hd).upd hd.none
  refine ⟨fun i l σ' => ∃ ep, lk l "many" = some (.int m) ∧ lk l "edges" = some (.ref ea) ∧ lk l "far" = some (.ref d) ∧ Ext σ σ' ∧ σ'.f d = some (.idict (DI (rounds m E st i)) ep) ∧ i ≤ m.toNat, m.toNat, ⟨ep, (by first | assumption | (simp only [lk_lset, lk, ofString_inj, String.reduceEq, if_true, if_false] <;> first | rfl | assumption)), (by first | assumption | (simp only [lk_lset, lk, ofString_inj, String.reduceEq, if_true, if_false] <;> first | rfl | assumption)), (by first | assumption | (simp only [lk_lset, lk, ofString_inj, String.reduceEq, if_true, if_false] <;> first | rfl | assumption)), hE0.add hrg, ?_, Nat.zero_le _⟩, fun i l' σ' hI => ?_⟩
  · have hne : d ≠ rg := fun q => by
      have := hrg.none
      rw [← q] at this
      simp [AS.upd_f] at this
    rw [AS.ins_f, if_neg hne, AS.upd_f, if_pos rfl]; rfl
  obtain ⟨ep, h1, h2, h3, h4, h5, h6⟩ := hI
  refine ⟨trivial, fun v hv => ?_, fun hv => ?_⟩
  · simp only [rngNxt] at hv
    split at hv
    case isFalse => cases hv
    case isTrue hlt =>
      cases hv
      refine ⟨by omega, va_local ?_⟩
      refine vb_cons ?_
      refine vs_loop ?_
      refine ve_add_list ?_
      refine ve_local (by first | assumption | (simp only [lk_lset, lk, ofString_inj, String.reduceEq, if_true, if_false] <;> first | rfl | assumption)) ?_
      refine ve_listcomp [] rfl ?_
      refine ve_local (by first | assumption | (simp only [lk_lset, lk, ofString_inj, String.reduceEq, if_true, if_false] <;> first | rfl | assumption)) ?_
      refine vit_list (h4 _ _ hl) ?_
      intro D C cenv hD hC hce hE2
      have k_a := kc_same hce (x := "a") (k := .local) rfl (by decide)
      have k_b := kc_same hce (x := "b") (k := .local) rfl (by decide)
      have hDn : σ.f D = none := h4.fresh hD
      have hDn' : σ'.f D = none := hD.none
      have hDd : d ≠ D := fun q => by rw [← q, h5] at hDn'; cases hDn'
      have hDe : ea ≠ D := fun q => by rw [← q, hl] at hDn; cases hDn
      refine ⟨fun j l2 σ2 => ∃ us, Ext σ' σ2 ∧ σ2.f D = some (.list us) ∧ Prs σ2 us ((E.take j).map swp) ∧ j ≤ E.length, vs.length, ⟨[], Ext.ins hD, by show (σ'.ins D (.list [])).f D = _; rw [AS.ins_f, if_pos rfl], rfl, Nat.zero_le _⟩, fun j l2 σ2 hJ => ?_⟩
      obtain ⟨us, j1, j2, j3, j4⟩ := hJ
      refine ⟨⟨_, j1 _ _ (h4 _ _ hl)⟩, fun v hv => ?_, fun hv => ?_⟩
      · have hv' : vs[j]? = some v := by simpa only [listNxt, j1 _ _ (h4 _ _ hl)] using hv
        obtain ⟨t, p, e1, rfl, e2⟩ := hp.get hv'
        have hjl : j < vs.length := by
          rcases Nat.lt_or_ge j vs.length with q | q
          · exact q
          · rw [List.getElem?_eq_none q] at hv'; cases hv'
        refine ⟨hjl, va_tup2 (j1 _ _ (h4 _ _ e2)) (va_local (va_local ?_))⟩
        refine vy_bodyL0 ?_
        refine ve_tuple ?_
        refine vl_cons ?_
        refine ve_local (by first | assumption | (simp only [lk_lset, lk, ofString_inj, String.reduceEq, if_true, if_false] <;> first | rfl | assumption)) ?_
        refine vl_cons ?_
        refine ve_local (by first | assumption | (simp only [lk_lset, lk, ofString_inj, String.reduceEq, if_true, if_false] <;> first | rfl | assumption)) ?_
        refine vl_nil ⟨by simp, fun t2 ht2 => ?_⟩
        have hne : D ≠ t2 := fun q => by have := ht2.none; rw [← q, j2] at this; cases this
        refine ⟨us, by rw [AS.ins_f, if_neg hne]; exact j2, by have := j3.length; simp only [List.length_map, List.length_take] at this; omega, ?_⟩
        refine ⟨us ++ [.ref t2], (j1.add ht2).upd hDn', by rw [AS.upd_f, if_pos rfl], ?_, by have := hp.length; omega⟩
        have e3 : (E.take (j + 1)).map swp = (E.take j).map swp ++ [swp p] := by rw [List.take_add_one, e1, List.map_append]; rfl
        rw [e3]
        refine Prs.append (Prs.upd (j3.of_ext (Ext.ins ht2)) (by rw [AS.ins_f, if_neg hne]; exact j2) (by intro xs; simp)) (Prs.one ?_)
        rw [AS.upd_f, if_neg (fun q => hne q.symm), AS.ins_f, if_pos rfl]
      · have hj : j = E.length := by
          have hv' : vs[j]? = none := by simpa only [listNxt, j1 _ _ (h4 _ _ hl)] using hv
          have := List.getElem?_eq_none_iff.mp hv'
          have := hp.length
          omega
        subst hj
        rw [List.take_length] at j3
        have hx : Ext σ σ2 := h4.trans j1
        refine ⟨ea, D, vs, us, rfl, rfl, hx _ _ hl, j2, by have := hp.length; omega, by have := j3.length; rw [List.length_map] at this; omega, fun c hc => ?_⟩
        have hx2 : Ext σ (σ2.ins c (.list (vs ++ us))) := hx.add hc
        have hpp : Prs (σ2.ins c (.list (vs ++ us))) (vs ++ us) (E ++ E.map swp) := ((hp.of_ext hx).append j3).of_ext (Ext.ins hc)
        have hcd : d ≠ c := fun q => by have := hc.none; rw [← q, j1 _ _ h5] at this; cases this
        have hcn : σ.f c = none := hx.fresh hc
        refine vit_list (by simp only [AS.ins_f, if_true]; rfl) ?_
        refine ⟨fun j l3 σ3 => ∃ ep, lk l3 "many" = some (.int m) ∧ lk l3 "edges" = some (.ref ea) ∧ lk l3 "far" = some (.ref d) ∧ Ext σ σ3 ∧ σ3.f c = some (.list (vs ++ us)) ∧ Prs σ3 (vs ++ us) (E ++ E.map swp) ∧
          σ3.f d = some (.idict (DI (((E ++ E.map swp).take j).foldl (relax m) (rounds m E st i))) ep) ∧ j ≤ (E ++ E.map swp).length, (vs ++ us).length, ⟨ep, (by first | assumption | (simp only [lk_lset, lk, ofString_inj, String.reduceEq, if_true, if_false] <;> first | rfl | assumption)), (by first | assumption | (simp only [lk_lset, lk, ofString_inj, String.reduceEq, if_true, if_false] <;> first | rfl | assumption)), (by first | assumption | (simp only [lk_lset, lk, ofString_inj, String.reduceEq, if_true, if_false] <;> first | rfl | assumption)), hx2, by rw [AS.ins_f, if_pos rfl], hpp, ?_, Nat.zero_le _⟩, fun j l3 σ3 hJ => ?_⟩
        · rw [AS.ins_f, if_neg hcd]; exact j1 _ _ h5
        obtain ⟨ep3, g1, g2, g3, g4, g5, g6, g7, g8⟩ := hJ
        have hdn : σ.f d = none := by
          cases q : σ.f d with
          | none => rfl
          | some o => rw [hd.none] at q; cases q
        refine ⟨⟨_, g5⟩, fun v hv => ?_, fun hv => ?_⟩
        · have hv' : (vs ++ us)[j]? = some v := by simpa only [listNxt, g5] using hv
          obtain ⟨t, p, e1, rfl, e2⟩ := g6.get hv'
          have hjl : j < (vs ++ us).length := by
            rcases Nat.lt_or_ge j (vs ++ us).length with q | q
            · exact q
            · rw [List.getElem?_eq_none q] at hv'; cases hv'
          have hpl := g6.length
          have hlen : (((E ++ E.map swp).take j).foldl (relax m) (rounds m E st i)).length ≤ 1000 := by
            have q1 := foldl_relax_length m ((E ++ E.map swp).take j) (rounds m E st i)
            have q2 := rounds_length m E st i
            have q3 : ((E ++ E.map swp).take j).length ≤ 100 := by
              rw [List.length_take, List.length_append, List.length_map]; omega
            have q4 : i * (2 * E.length) ≤ 8 * 100 := Nat.mul_le_mul (by omega) (by omega)
            omega
          have hstep : ((E ++ E.map swp).take (j + 1)).foldl (relax m) (rounds m E st i) = relax m (((E ++ E.map swp).take j).foldl (relax m) (rounds m E st i)) p := by
            rw [List.take_add_one, e1]; simp [List.foldl_append]
          generalize hF : ((E ++ E.map swp).take j).foldl (relax m) (rounds m E st i) = F at g7 hlen hstep
          refine ⟨hjl, va_tup2 e2 (va_local (va_local ?_))⟩
          refine vb_cons ?_
          refine vs_if ?_
          refine vt_bool ?_
          refine vand_cons ?_
          refine vt_cmp ?_
          refine ve_local (by first | assumption | (simp only [lk_lset, lk, ofString_inj, String.reduceEq, if_true, if_false] <;> first | rfl | assumption)) ?_
          refine ve_local (by first | assumption | (simp only [lk_lset, lk, ofString_inj, String.reduceEq, if_true, if_false] <;> first | rfl | assumption)) ?_
          refine vo_in_dict g7 ?_
          refine vtr_bool ?_
          rw [ivl_DI, Option.isSome_map]
          cases hg : gl F p.1 with
          | none =>
            simp only [Option.isSome_none, Bool.false_eq_true, if_false]
            refine vb_nil (vb_nil ?_)
            refine ⟨ep3, (by first | assumption | (simp only [lk_lset, lk, ofString_inj, String.reduceEq, if_true, if_false] <;> first | rfl | assumption)), (by first | assumption | (simp only [lk_lset, lk, ofString_inj, String.reduceEq, if_true, if_false] <;> first | rfl | assumption)), (by first | assumption | (simp only [lk_lset, lk, ofString_inj, String.reduceEq, if_true, if_false] <;> first | rfl | assumption)), g4, g5, g6, ?_, by omega⟩
            rw [hstep]; unfold relax; rw [hg]; exact g7
          | some x =>
            simp only [Option.isSome_some, if_true]
            refine vand_cons ?_
            refine vt_cmp ?_
            refine ve_int op_add ?_
            refine ve_sub ?_
            refine ve_local (by first | assumption | (simp only [lk_lset, lk, ofString_inj, String.reduceEq, if_true, if_false] <;> first | rfl | assumption)) ?_
            refine ve_local (by first | assumption | (simp only [lk_lset, lk, ofString_inj, String.reduceEq, if_true, if_false] <;> first | rfl | assumption)) ?_
            refine vi_dict g7 (by rw [ivl_DI, hg]; rfl) ?_
            refine ve_const_int ?_
            refine ⟨_, _, rfl, rfl, trivial, ?_⟩
            refine ve_mcall ?_
            refine ve_local (by first | assumption | (simp only [lk_lset, lk, ofString_inj, String.reduceEq, if_true, if_false] <;> first | rfl | assumption)) ?_
            refine vm_dict g7 PySem.F.slot_dict_get PySem.F.type_dict_get ?_
            refine ⟨keep_builtin, ?_⟩
            refine vl_cons ?_
            refine ve_local (by first | assumption | (simp only [lk_lset, lk, ofString_inj, String.reduceEq, if_true, if_false] <;> first | rfl | assumption)) ?_
            refine vl_cons ?_
            refine ve_int op_add ?_
            refine ve_local (by first | assumption | (simp only [lk_lset, lk, ofString_inj, String.reduceEq, if_true, if_false] <;> first | rfl | assumption)) ?_
            refine ve_const_int ?_
            refine ⟨_, _, rfl, rfl, trivial, ?_⟩
            refine vl_nil ?_
            refine vc_dget g7 ?_
            have e4 : (ivl (DI F) p.2).getD (AV.int (m + 1)) = AV.int ((gl F p.2).getD (m + 1)) := by
              rw [ivl_DI]; cases gl F p.2 <;> rfl
            rw [e4]
            refine vo_int_lt ?_
            refine vtr_bool ?_
            by_cases hlt2 : x + 1 < (gl F p.2).getD (m + 1)
            · rw [decide_eq_true hlt2, if_pos rfl]
              refine vand_nil ?_
              rw [if_pos rfl]
              refine vb_cons ?_
              refine vs_assign ?_
              refine ve_int op_add ?_
              refine ve_sub ?_
              refine ve_local (by first | assumption | (simp only [lk_lset, lk, ofString_inj, String.reduceEq, if_true, if_false] <;> first | rfl | assumption)) ?_
              refine ve_local (by first | assumption | (simp only [lk_lset, lk, ofString_inj, String.reduceEq, if_true, if_false] <;> first | rfl | assumption)) ?_
              refine vi_dict g7 (by rw [ivl_DI, hg]; rfl) ?_
              refine ve_const_int ?_
              refine ⟨_, _, rfl, rfl, trivial, ?_⟩
              refine va_sub_dict ?_
              refine ve_local (by first | assumption | (simp only [lk_lset, lk, ofString_inj, String.reduceEq, if_true, if_false] <;> first | rfl | assumption)) ?_
              refine ve_local (by first | assumption | (simp only [lk_lset, lk, ofString_inj, String.reduceEq, if_true, if_false] <;> first | rfl | assumption)) ?_
              refine ⟨d, _, _, _, rfl, rfl, g7, by rw [DI_length]; exact hlen, fun ep4 => ?_⟩
              refine vb_nil (vb_nil ?_)
              have hcd' : c ≠ d := fun q => hcd q.symm
              refine ⟨ep4, (by first | assumption | (simp only [lk_lset, lk, ofString_inj, String.reduceEq, if_true, if_false] <;> first | rfl | assumption)), (by first | assumption | (simp only [lk_lset, lk, ofString_inj, String.reduceEq, if_true, if_false] <;> first | rfl | assumption)), (by first | assumption | (simp only [lk_lset, lk, ofString_inj, String.reduceEq, if_true, if_false] <;> first | rfl | assumption)), g4.upd hdn, by rw [AS.upd_f, if_neg hcd']; exact g5, g6.upd g7 (by intro xs; simp), ?_, by omega⟩
              rw [AS.upd_f, if_pos rfl, ist_DI, hstep]; unfold relax; rw [hg]; simp only [if_pos hlt2]
            · rw [decide_eq_false hlt2, if_neg (by decide)]
              rw [if_neg (by decide)]
              refine vb_nil (vb_nil ?_)
              refine ⟨ep3, (by first | assumption | (simp only [lk_lset, lk, ofString_inj, String.reduceEq, if_true, if_false] <;> first | rfl | assumption)), (by first | assumption | (simp only [lk_lset, lk, ofString_inj, String.reduceEq, if_true, if_false] <;> first | rfl | assumption)), (by first | assumption | (simp only [lk_lset, lk, ofString_inj, String.reduceEq, if_true, if_false] <;> first | rfl | assumption)), g4, g5, g6, ?_, by omega⟩
              rw [hstep]; unfold relax; rw [hg]; simp only [if_neg hlt2]; exact g7
        · have hj : j = (E ++ E.map swp).length := by
            have hv' : (vs ++ us)[j]? = none := by simpa only [listNxt, g5] using hv
            have := List.getElem?_eq_none_iff.mp hv'
            have := g6.length
            omega
          subst hj
          rw [List.take_length] at g7
          refine vb_nil ⟨ep3, g1, g2, g3, g4, g7, by omega⟩
  · have hi : i = m.toNat := by
      simp only [rngNxt] at hv
      split at hv
      · cases hv
      · omega
    subst hi
    refine vb_cons ?_
    refine vs_return ?_
    refine ve_call_b (x := "max") b_max bb_max kb_max ?_
    refine vl_cons ?_
    refine ve_mcall ?_
    refine ve_local (by first | assumption | (simp only [lk_lset, lk, ofString_inj, String.reduceEq, if_true, if_false] <;> first | rfl | assumption)) ?_
    refine vm_dict h5 PySem.F.slot_dict_values PySem.F.type_dict_values ?_
    refine ⟨keep_builtin, vl_nil ?_⟩
    refine vc_dvalues h5 fun vw hvw => ?_
    refine vl_nil ?_
    refine vc_max_vals (by rw [AS.ins_f, if_pos rfl]) (Ext.ins hvw _ _ h5) (DI_vals _) (fun q => rounds_ne m E st m.toNat (List.map_eq_nil_iff.mp q)) fun r hr1 hr2 => ?_
    exact h _ _ (h4.add hvw) hr1 hr2
end Mine
end
section
open PySem PySem.W PySem.Calls PyProof.Rows
set_option maxRecDepth 100000
set_option linter.unusedVariables false
set_option linter.unusedSimpArgs false
namespace Mine
variable {w : World} {σ : AS} {n : Nat}
noncomputable def inE (v : Int) (e : Int × Int) : Bool := [e.1, e.2].contains v
noncomputable def isEnd (R : List (Int × Int)) (v : Int) : Bool := (((R.filter (inE v)).length : Nat) : Int) == 1
noncomputable def endsOf (L : List Int) (R : List (Int × Int)) : List Int := L.filter (isEnd R)
noncomputable def pstep (p : List Int × List (Int × Int)) : List Int × List (Int × Int) :=
  let L' := p.1.filter fun v => !(endsOf p.1 p.2).contains v
  (L', p.2.filter fun e => L'.contains e.1 && L'.contains e.2)
noncomputable def peel (L : List Int) (E : List (Int × Int)) : Nat → List Int × List (Int × Int)
  | 0 => (L, E)
  | k + 1 => pstep (peel L E k)
theorem pstep_le (p : List Int × List (Int × Int)) : (pstep p).1.length ≤ p.1.length ∧ (pstep p).2.length ≤ p.2.length := ⟨List.length_filter_le _ _, List.length_filter_le _ _⟩
theorem peel_le (L : List Int) (E : List (Int × Int)) : ∀ k, (peel L E k).1.length ≤ L.length ∧ (peel L E k).2.length ≤ E.length
  | 0 => ⟨Nat.le_refl _, Nat.le_refl _⟩
  | k + 1 => ⟨Nat.le_trans (pstep_le _).1 (peel_le L E k).1, Nat.le_trans (pstep_le _).2 (peel_le L E k).2⟩
theorem take_filter {α : Type} (p : α → Bool) (l : List α) {i : Nat} {v : α} (h : l[i]? = some v) : (l.take (i + 1)).filter p = (l.take i).filter p ++ (if p v = true then [v] else []) := by
  rw [List.take_add_one, h, List.filter_append]
  cases hp : p v <;> simp [hp]
theorem ints_get {L : List Int} {i : Nat} {v : AV} (h : (L.map AV.int)[i]? = some v) : ∃ x, L[i]? = some x ∧ v = .int x := by
  rw [List.getElem?_map] at h
  obtain ⟨x, h1, h2⟩ := Option.map_eq_some_iff.mp h
  exact ⟨x, h1, h2.symm⟩
theorem law_peeled {Q : AV → AS → Prop} {ea : Addr} {m : Int} {vs : List AV} {E : List (Int × Int)} (hl : σ.f ea = some (.list vs)) (hp : Prs σ vs E) (hE : E.length ≤ 50) (hm : 0 ≤ m) (hm' : m ≤ 8)
    (k : Nat) (hk : ∀ j, j < k → 2 < (peel (rngInts 0 m) E j).1.length) (hk2 : (peel (rngInts 0 m) E k).1.length ≤ 2)
    (h : ∀ σ' b, Ext σ σ' → σ'.f b = some (.list ((peel (rngInts 0 m) E k).1.map .int)) → Q (.ref b) σ') :
    VC (KK w) w (n + 1) (.ref 704) [.int m, .ref ea] Q σ := by
  refine vc_defC (f := 704) rfl rfl (by kernel_rfl) (vbi_2 (x := "many") (y := "edges") fun L env hF he => ?_)
  have k_many := kd_ofC he (x := "many") (k := .local) rfl
  have k_edges := kd_ofC he (x := "edges") (k := .local) rfl
  have k_left := kd_ofC he (x := "left") (k := .cell) rfl
  have k_rows := kd_ofC he (x := "rows") (k := .cell) rfl
  have k_ends := kd_ofC he (x := "ends") (k := .cell) rfl
  have k_list := kd_ofC he (x := "list") (k := .globalImplicit) rfl
  have k_range := kd_ofC he (x := "range") (k := .globalImplicit) rfl
  have k_len := kd_ofC he (x := "len") (k := .globalImplicit) rfl
  have c_left : env.cells.lookup (Str.ofString "left") = some (L + 1) := cl_ofC he (by rfl)
  have c_rows : env.cells.lookup (Str.ofString "rows") = some (L + 1 + 1) := cl_ofC he (by rfl)
  have c_ends : env.cells.lookup (Str.ofString "ends") = some (L + 1 + 1 + 1) := cl_ofC he (by rfl)
  have hE' := eo_ofC he
  clear he
  refine bindA_local k_many (bindA_local k_edges (bindA_nil ?_))
  have F1 := hF.succ
  have hX0 : Ext σ (((σ.ins (L + 1) (.cell none)).ins (L + 1 + 1) (.cell none)).ins (L + 1 + 1 + 1) (.cell none)) := pushA_ext [("left", .cell), ("rows", .cell), ("ends", .cell)] F1
  have n1 := F1.none
  have n2 := F1.succ.none
  have n3 := F1.succ.succ.none
  have d12 : L + 1 ≠ L + 1 + 1 := Nat.ne_of_lt (Nat.lt_succ_self _)
  have d13 : L + 1 ≠ L + 1 + 1 + 1 := Nat.ne_of_lt (Nat.lt_succ_of_lt (Nat.lt_succ_self _))
  have d23 : L + 1 + 1 ≠ L + 1 + 1 + 1 := Nat.ne_of_lt (Nat.lt_succ_self _)
  have s1 : (((σ.ins (L + 1) (.cell none)).ins (L + 1 + 1) (.cell none)).ins (L + 1 + 1 + 1) (.cell none)).f (L + 1) = some (.cell none) := ins_ne d13 (ins_ne d12 ins_at)
  have s2 : (((σ.ins (L + 1) (.cell none)).ins (L + 1 + 1) (.cell none)).ins (L + 1 + 1 + 1) (.cell none)).f (L + 1 + 1) = some (.cell none) := ins_ne d23 ins_at
  have s3 : (((σ.ins (L + 1) (.cell none)).ins (L + 1 + 1) (.cell none)).ins (L + 1 + 1 + 1) (.cell none)).f (L + 1 + 1 + 1) = some (.cell none) := ins_at
  show VB _ _ _ _ _ _ _ (((σ.ins (L + 1) (.cell none)).ins (L + 1 + 1) (.cell none)).ins (L + 1 + 1 + 1) (.cell none))
  generalize ((σ.ins (L + 1) (.cell none)).ins (L + 1 + 1) (.cell none)).ins (L + 1 + 1 + 1) (.cell none) = σ0 at hX0 s1 s2 s3
  refine vb_cons ?_
  refine vs_assign_tup ?_ (by rfl) (sw_cell k_left k_rows)
  refine ve_tuple ?_
  refine vl_cons ?_
  refine ve_call_b (x := "list") b_list bb_list kb_list ?_
  refine vl_cons ?_
  refine ve_call_b (x := "range") b_range bb_range kb_range ?_
  refine vl_cons ?_
  refine ve_local (by first | assumption | (simp only [lk_lset, lk, ofString_inj, String.reduceEq, if_true, if_false] <;> first | rfl | assumption)) ?_
  refine vl_nil ?_
  refine vc_range1 fun rg hrg => ?_
  refine vl_nil ?_
  refine vc_list_range ins_at (by decide) (by decide) (by omega) (by omega) fun la hla => ?_
  refine vl_cons ?_
  refine ve_call_b (x := "list") b_list bb_list kb_list ?_
  refine vl_cons ?_
  refine ve_local (by first | assumption | (simp only [lk_lset, lk, ofString_inj, String.reduceEq, if_true, if_false] <;> first | rfl | assumption)) ?_
  refine vl_nil ?_
  have X1 : Ext σ0 ((σ0.ins rg (.rng 0 m)).ins la (.list ((rngInts 0 m).map .int))) := (Ext.ins hrg).add hla
  have hvl : vs.length ≤ 50 := by have := hp.length; omega
  refine vc_list_list (X1 _ _ (hX0 _ _ hl)) (by omega) fun ra hra => ?_
  refine vl_nil ⟨by simp, fun tp htp => ?_⟩
  have X2 : Ext σ0 ((((σ0.ins rg (.rng 0 m)).ins la (.list ((rngInts 0 m).map .int))).ins ra (.list vs)).ins tp (.tup [.ref la, .ref ra])) := (X1.add hra).add htp
  have la2 : ((((σ0.ins rg (.rng 0 m)).ins la (.list ((rngInts 0 m).map .int))).ins ra (.list vs)).ins tp (.tup [.ref la, .ref ra])).f la = some (.list ((rngInts 0 m).map .int)) := ins_old htp (ins_old hra ins_at)
  have ra2 : ((((σ0.ins rg (.rng 0 m)).ins la (.list ((rngInts 0 m).map .int))).ins ra (.list vs)).ins tp (.tup [.ref la, .ref ra])).f ra = some (.list vs) := ins_old htp ins_at
  have tp2 : ((((σ0.ins rg (.rng 0 m)).ins la (.list ((rngInts 0 m).map .int))).ins ra (.list vs)).ins tp (.tup [.ref la, .ref ra])).f tp = some (.tup [.ref la, .ref ra]) := ins_at
  generalize ((((σ0.ins rg (.rng 0 m)).ins la (.list ((rngInts 0 m).map .int))).ins ra (.list vs)).ins tp (.tup [.ref la, .ref ra])) = σ1 at X2 la2 ra2 tp2
  have XX := hX0.trans X2
  refine va_tup2 tp2 (va_cell c_left (X2 _ _ s1) (va_cell c_rows (upd_ne d12.symm (X2 _ _ s2)) ?_))
  refine vb_cons ?_
  refine vs_while (fun i l' σ' => ∃ j, i = k - j ∧ j ≤ k ∧ ∃ la ra rs o3, Ext σ σ' ∧ σ'.f (L + 1) = some (.cell (some (.ref la))) ∧ σ'.f la = some (.list ((peel (rngInts 0 m) E j).1.map .int)) ∧
    σ'.f (L + 1 + 1) = some (.cell (some (.ref ra))) ∧ σ'.f ra = some (.list rs) ∧ Prs σ' rs (peel (rngInts 0 m) E j).2 ∧ σ'.f (L + 1 + 1 + 1) = some (.cell o3)) k
    ⟨0, rfl, Nat.zero_le _, la, ra, vs, none, (XX.upd n1).upd n2, upd_ne d12 upd_at, ?_, upd_at, ?_, ?_, ?_⟩ fun i l' σ' hI => ?_
  · exact upd_ne (ne_obj la2 (X2 _ _ s2) (by simp)) (upd_ne (ne_obj la2 (X2 _ _ s1) (by simp)) la2)
  · exact upd_ne (ne_obj ra2 (X2 _ _ s2) (by simp)) (upd_ne (ne_obj ra2 (X2 _ _ s1) (by simp)) ra2)
  · exact ((hp.of_ext XX).upd (X2 _ _ s1) (by intro xs; simp)).upd (upd_ne d12.symm (X2 _ _ s2)) (by intro xs; simp)
  · exact upd_ne d23.symm (upd_ne d13.symm (X2 _ _ s3))
  obtain ⟨j, rfl, hjk, la, ra, rs, o3, hx, f1, f2, f3, f4, f5, f6⟩ := hI
  have hlenL : (peel (rngInts 0 m) E j).1.length ≤ 8 := by
    have q1 := (peel_le (rngInts 0 m) E j).1
    have q2 : (rngInts 0 m).length ≤ 8 := by simp only [rngInts, List.length_map, List.length_range]; omega
    omega
  have hlenR : (peel (rngInts 0 m) E j).2.length ≤ 50 := Nat.le_trans (peel_le (rngInts 0 m) E j).2 hE
  refine vt_cmp ?_
  refine ve_call_b (x := "len") b_len bb_len kb_len ?_
  refine vl_cons ?_
  refine ve_cell c_left f1 ?_
  refine vl_nil ?_
  refine vc_len_list f2 (by rw [List.length_map]; omega) ?_
  refine ve_const_int ?_
  refine vo_int_gt ?_
  refine vtr_bool ?_
  rw [List.length_map]
  by_cases hgt : (2 : Int) < ((peel (rngInts 0 m) E j).1.length : Nat)
  case neg =>
    rw [decide_eq_false hgt, if_neg Bool.false_ne_true]
    have hj : j = k := by
      rcases Nat.lt_or_ge j k with q | q
      · have := hk j q; omega
      · omega
    subst hj
    refine vb_cons ?_
    refine vs_return ?_
    refine ve_cell c_left f1 ?_
    exact h _ _ hx f2
  rw [decide_eq_true hgt, if_pos rfl]
  have hj : j < k := by
    rcases Nat.lt_or_ge j k with q | q
    · exact q
    · obtain rfl : j = k := by omega
      omega
  have hstep : peel (rngInts 0 m) E (j + 1) = pstep (peel (rngInts 0 m) E j) := rfl
  generalize peel (rngInts 0 m) E j = P at f2 f5 hstep hlenL hlenR hgt
  obtain ⟨LL, RR⟩ := P
  simp only at f2 f5 hlenL hlenR hgt
  refine vb_cons ?_
  refine vs_assign_cell k_ends c_ends ?_
  refine ve_listcomp _ (by dsimp only; (repeat (first | refine (closA_skip (by rfl)).trans ?_ | refine (closA_free (by assumption)).trans ?_)); rfl) ?_
  refine ve_cell c_left f1 ?_
  refine vit_list f2 ?_
  intro D C cenv hD hC hce hE2
  have k_v := kc_same hce (x := "v") (k := .cell) rfl (by decide)
  have k_len := kc_same hce (x := "len") (k := .globalImplicit) rfl (by decide)
  have k_rows' := kc_own hce hE' (x := "rows") rfl k_rows
  have c_v : cenv.cells.lookup (Str.ofString "v") = some (C + 1) := cl_comp hce (by rfl)
  have c_rows' : cenv.cells.lookup (Str.ofString "rows") = some (L + 1 + 1) := cl_comp hce (by rfl)
  clear hce
  have hD0 := hD.none
  have hDC : D ≠ C + 1 := ne_fresh hC.succ ins_at
  have hC1 : σ'.f (C + 1) = none := (Ext.ins hD).fresh hC.succ
  refine spec_list (fun jj l2 σ2 => Ext σ' σ2 ∧ σ2.f D = some (.list (((LL.take jj).filter (isEnd RR)).map .int)) ∧ ∃ o, σ2.f (C + 1) = some (.cell o)) (fun jj l2 σ2 hJ => hJ.1 _ _ f2) ⟨?_, ?_, none, ?_⟩ (fun jj v l2 σ2 hJ hjl hv => ?_) (fun l2 σ2 hJ => ?_)
  · exact (Ext.ins hD).trans (pushA_ext [(".0", .local), ("v", .cell), ("len", .globalImplicit), ("rows", .free)] hC.succ)
  · exact ins_ne hDC ins_at
  · exact ins_at
  · obtain ⟨j1, j2, o, j3⟩ := hJ
    obtain ⟨x, ex, rfl⟩ := ints_get hv
    refine va_cell c_v j3 ?_
    have x3 : Ext σ' (σ2.upd (C + 1) (.cell (some (.int x)))) := j1.upd hC1
    have y1 : (σ2.upd (C + 1) (.cell (some (.int x)))).f (C + 1) = some (.cell (some (.int x))) := upd_at
    have y2 : (σ2.upd (C + 1) (.cell (some (.int x)))).f D = some (.list (((LL.take jj).filter (isEnd RR)).map .int)) := upd_ne hDC j2
    generalize σ2.upd (C + 1) (.cell (some (.int x))) = σ3 at x3 y1 y2
    refine vy_bodyL1 ?_
    refine vt_cmp ?_
    refine ve_call_b (x := "len") b_len bb_len kb_len ?_
    refine vl_cons ?_
    refine ve_listcomp _ (by dsimp only; (repeat (first | refine (closA_skip (by rfl)).trans ?_ | refine (closA_free (by assumption)).trans ?_)); rfl) ?_
    refine ve_cell c_rows' (x3 _ _ f3) ?_
    refine vit_list (x3 _ _ f4) ?_
    intro D2 C2 cenv2 hD2 hC2 hce hE3
    have k_e := kc_same hce (x := "e") (k := .local) rfl (by decide)
    have k_v' := kc_own hce hE2 (x := "v") rfl k_v
    have c_v' : cenv2.cells.lookup (Str.ofString "v") = some (C + 1) := cl_comp hce (by rfl)
    clear hce
    refine spec_list (fun i2 l4 σ4 => ∃ us2, Ext σ3 σ4 ∧ σ4.f D2 = some (.list us2) ∧ Prs σ4 us2 ((RR.take i2).filter (inE x))) (fun i2 l4 σ4 hJ => hJ.choose_spec.1 _ _ (x3 _ _ f4)) ⟨[], Ext.ins hD2, ins_at, rfl⟩ (fun i2 v l4 σ4 hJ hjl2 hv2 => ?_) (fun l4 σ4 hJ => ?_)
    · obtain ⟨us2, g1, g2, g3⟩ := hJ
      obtain ⟨t, p, ep, rfl, tp⟩ := (f5.of_ext (x3.trans g1)).get hv2
      refine va_local ?_
      refine vy_bodyL1 ?_
      refine vt_cmp ?_
      refine ve_cell c_v' (g1 _ _ y1) ?_
      refine ve_local (by first | assumption | (simp only [lk_lset, lk, ofString_inj, String.reduceEq, if_true, if_false] <;> first | rfl | assumption)) ?_
      refine vo_in_tup (ns := [p.1, p.2]) tp ?_
      refine vtr_bool ?_
      have hf := take_filter (inE x) RR ep
      have hb : [p.1, p.2].contains x = inE x p := rfl
      rw [hb]
      cases hin : inE x p with
      | false =>
        rw [hin] at hf
        rw [if_neg Bool.false_ne_true]
        refine ⟨us2, g1, g2, ?_⟩
        rw [hf]; simpa using g3
      | true =>
        rw [hin] at hf
        rw [if_pos rfl]
        refine ve_local (by first | assumption | (simp only [lk_lset, lk, ofString_inj, String.reduceEq, if_true, if_false] <;> first | rfl | assumption)) ?_
        have hl3 := g3.length
        have hl4 := List.length_filter_le (inE x) (RR.take i2)
        rw [List.length_take] at hl4
        refine ⟨us2, g2, by omega, us2 ++ [.ref t], g1.upd hD2.none, upd_at, ?_⟩
        rw [hf, if_pos rfl]
        exact Prs.append (g3.upd g2 (by intro xs; simp)) (Prs.one (upd_ne (ne_obj tp g2 (by simp)) tp))
    · obtain ⟨us2, g1, g2, g3⟩ := hJ
      have hrl := f5.length
      rw [hrl, List.take_length] at g3
      refine vl_nil ?_
      have hl3 := g3.length
      have hl4 := List.length_filter_le (inE x) RR
      refine vc_len_list g2 (by omega) ?_
      refine ve_const_int ?_
      refine vo_int_eq ?_
      refine vtr_bool ?_
      have hb : (((us2.length : Nat) : Int) == 1) = isEnd RR x := by rw [hl3]; rfl
      have hf := take_filter (isEnd RR) LL ex
      rw [hb]
      cases hin : isEnd RR x with
      | false =>
        rw [hin] at hf
        rw [if_neg Bool.false_ne_true]
        refine ⟨x3.trans g1, ?_, _, g1 _ _ y1⟩
        rw [hf]; simpa using g1 _ _ y2
      | true =>
        rw [hin] at hf
        rw [if_pos rfl]
        refine ve_cell c_v (g1 _ _ y1) ?_
        have hl5 := List.length_filter_le (isEnd RR) (LL.take jj)
        rw [List.length_take] at hl5
        refine ⟨_, g1 _ _ y2, by rw [List.length_map]; omega, (x3.trans g1).upd hD0, ?_, _, upd_ne hDC.symm (g1 _ _ y1)⟩
        rw [hf, if_pos rfl, List.map_append]
        exact upd_at
  obtain ⟨j1, j2, o, j3⟩ := hJ
  rw [List.length_map, List.take_length] at j2
  refine ⟨o3, j1 _ _ f6, ?_⟩
  have g6 := j1 _ _ f6
  have g1 := upd_ne (o := .cell (some (.ref D))) d13 (j1 _ _ f1)
  have g2 := upd_ne (o := .cell (some (.ref D))) (ne_obj (j1 _ _ f2) g6 (by simp)) (j1 _ _ f2)
  have g3 := upd_ne (o := .cell (some (.ref D))) d23 (j1 _ _ f3)
  have g4 := upd_ne (o := .cell (some (.ref D))) (ne_obj (j1 _ _ f4) g6 (by simp)) (j1 _ _ f4)
  have g5 := (f5.of_ext j1).upd (o' := .cell (some (.ref D))) g6 (by intro xs; simp)
  have g7 := upd_ne (o := .cell (some (.ref D))) (ne_obj j2 g6 (by simp)) j2
  have gx := (hx.trans j1).upd (o := .cell (some (.ref D))) n3
  replace g6 : (σ2.upd (L + 1 + 1 + 1) (.cell (some (.ref D)))).f (L + 1 + 1 + 1) = some (.cell (some (.ref D))) := upd_at
  generalize σ2.upd (L + 1 + 1 + 1) (.cell (some (.ref D))) = σa at g1 g2 g3 g4 g5 g6 g7 gx
  clear j1 j2 j3 f1 f2 f3 f4 f5 f6 hD hC hDC hC1 hD0 hE2 k_v c_v c_rows' k_rows' k_len
  refine vb_cons ?_
  refine vs_assign_cell k_left c_left ?_
  refine ve_listcomp _ (by dsimp only; (repeat (first | refine (closA_skip (by rfl)).trans ?_ | refine (closA_free (by assumption)).trans ?_)); rfl) ?_
  refine ve_cell c_left g1 ?_
  refine vit_list g2 ?_
  intro D2 C cenv hD hC hce hE2
  have k_v := kc_same hce (x := "v") (k := .local) rfl (by decide)
  have k_ends' := kc_own hce hE' (x := "ends") rfl k_ends
  have c_ends' : cenv.cells.lookup (Str.ofString "ends") = some (L + 1 + 1 + 1) := cl_comp hce (by rfl)
  clear hce
  refine spec_list (fun jj l2 σ2 => Ext σa σ2 ∧ σ2.f D2 = some (.list (((LL.take jj).filter (fun v => !(endsOf LL RR).contains v)).map .int))) (fun jj l2 σ2 hJ => hJ.1 _ _ g2) ⟨Ext.ins hD, ins_at⟩ (fun jj v l2 σ2 hJ hjl hv => ?_) (fun l2 σ2 hJ => ?_)
  · obtain ⟨j1, j2⟩ := hJ
    obtain ⟨x, ex, rfl⟩ := ints_get hv
    refine va_local ?_
    refine vy_bodyL1 ?_
    refine vt_cmp ?_
    refine ve_local (by first | assumption | (simp only [lk_lset, lk, ofString_inj, String.reduceEq, if_true, if_false] <;> first | rfl | assumption)) ?_
    refine ve_cell c_ends' (j1 _ _ g6) ?_
    refine vo_notin_ints (ns := endsOf LL RR) (j1 _ _ g7) ?_
    refine vtr_bool ?_
    have hf := take_filter (fun v => !(endsOf LL RR).contains v) LL ex
    cases hin : !(endsOf LL RR).contains x with
    | false =>
      rw [hin] at hf
      rw [if_neg Bool.false_ne_true]
      refine ⟨j1, ?_⟩
      rw [hf]; simpa using j2
    | true =>
      rw [hin] at hf
      rw [if_pos rfl]
      refine ve_local (by first | assumption | (simp only [lk_lset, lk, ofString_inj, String.reduceEq, if_true, if_false] <;> first | rfl | assumption)) ?_
      have hl5 := List.length_filter_le (fun v => !(endsOf LL RR).contains v) (LL.take jj)
      rw [List.length_take] at hl5
      refine ⟨_, j2, by rw [List.length_map]; omega, j1.upd hD.none, ?_⟩
      rw [hf, if_pos rfl, List.map_append]
      exact upd_at
  obtain ⟨j1, j2⟩ := hJ
  rw [List.length_map, List.take_length] at j2
  refine ⟨_, j1 _ _ g1, ?_⟩
  have h1 := j1 _ _ g1
  have h3 := upd_ne (o := .cell (some (.ref D2))) d12.symm (j1 _ _ g3)
  have h4 := upd_ne (o := .cell (some (.ref D2))) (ne_obj (j1 _ _ g4) h1 (by simp)) (j1 _ _ g4)
  have h5 := (g5.of_ext j1).upd (o' := .cell (some (.ref D2))) h1 (by intro xs; simp)
  have h6 := upd_ne (o := .cell (some (.ref D2))) d13.symm (j1 _ _ g6)
  have h7 := upd_ne (o := .cell (some (.ref D2))) (ne_obj j2 h1 (by simp)) j2
  have gx2 := (gx.trans j1).upd (o := .cell (some (.ref D2))) n1
  replace h1 : (σ2.upd (L + 1) (.cell (some (.ref D2)))).f (L + 1) = some (.cell (some (.ref D2))) := upd_at
  generalize σ2.upd (L + 1) (.cell (some (.ref D2))) = σb at h1 h3 h4 h5 h6 h7 gx2
  clear j1 j2 g1 g2 g3 g4 g5 g6 g7 hD hC hE2 k_v k_ends' c_ends' gx
  have hLE : (LL.filter (fun v => !(endsOf LL RR).contains v)) = (pstep (LL, RR)).1 := rfl
  rw [hLE] at h7
  have hRE : RR.filter (fun e => (pstep (LL, RR)).1.contains e.1 && (pstep (LL, RR)).1.contains e.2) = (pstep (LL, RR)).2 := rfl
  generalize hL' : (pstep (LL, RR)).1 = L' at h7 hRE
  refine vb_cons ?_
  refine vs_assign_cell k_rows c_rows ?_
  refine ve_listcomp _ (by dsimp only; (repeat (first | refine (closA_skip (by rfl)).trans ?_ | refine (closA_free (by assumption)).trans ?_)); rfl) ?_
  refine ve_cell c_rows h3 ?_
  refine vit_list h4 ?_
  intro D3 C cenv hD hC hce hE2
  have k_e := kc_same hce (x := "e") (k := .local) rfl (by decide)
  have k_left' := kc_own hce hE' (x := "left") rfl k_left
  have c_left' : cenv.cells.lookup (Str.ofString "left") = some (L + 1) := cl_comp hce (by rfl)
  clear hce
  refine spec_list (fun jj l2 σ2 => ∃ us, Ext σb σ2 ∧ σ2.f D3 = some (.list us) ∧ Prs σ2 us ((RR.take jj).filter (fun e => L'.contains e.1 && L'.contains e.2))) (fun jj l2 σ2 hJ => hJ.choose_spec.1 _ _ h4) ⟨[], Ext.ins hD, ins_at, rfl⟩ (fun jj v l2 σ2 hJ hjl hv => ?_) (fun l2 σ2 hJ => ?_)
  · obtain ⟨us, j1, j2, j3⟩ := hJ
    obtain ⟨t, p, ep, rfl, tp⟩ := (h5.of_ext j1).get hv
    have hf := take_filter (fun e : Int × Int => L'.contains e.1 && L'.contains e.2) RR ep
    refine va_local ?_
    refine vy_bodyL1 ?_
    refine vt_bool ?_
    refine vand_cons ?_
    refine vt_cmp ?_
    refine ve_sub ?_
    refine ve_local (by first | assumption | (simp only [lk_lset, lk, ofString_inj, String.reduceEq, if_true, if_false] <;> first | rfl | assumption)) ?_
    refine ve_const_int ?_
    refine vi_tup_int tp (by decide) (by decide) (by rfl) ?_
    refine ve_cell c_left' (j1 _ _ h1) ?_
    refine vo_in_ints (ns := L') (j1 _ _ h7) ?_
    refine vtr_bool ?_
    cases hin1 : L'.contains p.1 with
    | false =>
      simp only [hin1, Bool.false_and, Bool.false_eq_true, if_false, List.append_nil] at hf
      rw [if_neg Bool.false_ne_true, if_neg Bool.false_ne_true]
      refine ⟨us, j1, j2, ?_⟩
      rw [hf]; exact j3
    | true =>
      rw [if_pos rfl]
      refine vand_cons ?_
      refine vt_cmp ?_
      refine ve_sub ?_
      refine ve_local (by first | assumption | (simp only [lk_lset, lk, ofString_inj, String.reduceEq, if_true, if_false] <;> first | rfl | assumption)) ?_
      refine ve_const_int ?_
      refine vi_tup_int tp (by decide) (by decide) (by rfl) ?_
      refine ve_cell c_left' (j1 _ _ h1) ?_
      refine vo_in_ints (ns := L') (j1 _ _ h7) ?_
      refine vtr_bool ?_
      cases hin2 : L'.contains p.2 with
      | false =>
        simp only [hin1, hin2, Bool.and_false, Bool.false_eq_true, if_false, List.append_nil] at hf
        rw [if_neg Bool.false_ne_true, if_neg Bool.false_ne_true]
        refine ⟨us, j1, j2, ?_⟩
        rw [hf]; exact j3
      | true =>
        simp only [hin1, hin2, Bool.and_self, if_true] at hf
        rw [if_pos rfl]
        refine vand_nil ?_
        rw [if_pos rfl]
        refine ve_local (by first | assumption | (simp only [lk_lset, lk, ofString_inj, String.reduceEq, if_true, if_false] <;> first | rfl | assumption)) ?_
        have hl3 := j3.length
        have hl4 := List.length_filter_le (fun e : Int × Int => L'.contains e.1 && L'.contains e.2) (RR.take jj)
        rw [List.length_take] at hl4
        refine ⟨us, j2, by omega, us ++ [.ref t], j1.upd hD.none, upd_at, ?_⟩
        rw [hf]
        exact Prs.append (j3.upd j2 (by intro xs; simp)) (Prs.one (upd_ne (ne_obj tp j2 (by simp)) tp))
  obtain ⟨us, j1, j2, j3⟩ := hJ
  have hrl := h5.length
  rw [hrl, List.take_length, hRE] at j3
  refine ⟨_, j1 _ _ h3, ?_⟩
  refine vb_nil ?_
  refine ⟨k - (j + 1), by omega, j + 1, rfl, by omega, D2, D3, us, _, (gx2.trans j1).upd n2, upd_ne d12 (j1 _ _ h1), ?_, upd_at, upd_ne (ne_obj j2 (j1 _ _ h3) (by simp)) j2, ?_, upd_ne d23.symm (j1 _ _ h6)⟩
  · rw [hstep, hL']
    exact upd_ne (ne_obj (j1 _ _ h7) (j1 _ _ h3) (by simp)) (j1 _ _ h7)
  · rw [hstep]
    exact j3.upd (j1 _ _ h3) (by intro xs; simp)
end Mine
end
section
open PySem PySem.W PySem.Calls PyProof.Rows
set_option maxRecDepth 100000
set_option linter.unusedVariables false
namespace Mine
section
variable {w : World}
theorem pc_Graph : PlainCls (KK w) 629 := ⟨by kernel_rfl, by kernel_rfl, by kernel_rfl, by kernel_rfl, by kernel_rfl⟩
theorem pc_View : PlainCls (KK w) 154 := ⟨by kernel_rfl, by kernel_rfl, by kernel_rfl, by kernel_rfl, by kernel_rfl⟩
theorem m___init__ : findIn (KK w) (.ref 629) "__init__" = some (some (.ref 393)) := by kernel_rfl
theorem mt___init__ : typeIn (KK w) (.ref 393) = some (.type "function") := by kernel_rfl
theorem mk___init__ : keepIn (KK w) (.ref 393) = true := by kernel_rfl
theorem m___len__ : findIn (KK w) (.ref 629) "__len__" = some (some (.ref 424)) := by kernel_rfl
theorem mt___len__ : typeIn (KK w) (.ref 424) = some (.type "function") := by kernel_rfl
theorem mk___len__ : keepIn (KK w) (.ref 424) = true := by kernel_rfl
theorem m___iter__ : findIn (KK w) (.ref 629) "__iter__" = some (some (.ref 410)) := by kernel_rfl
theorem mt___iter__ : typeIn (KK w) (.ref 410) = some (.type "function") := by kernel_rfl
theorem mk___iter__ : keepIn (KK w) (.ref 410) = true := by kernel_rfl
theorem m_size : findIn (KK w) (.ref 629) "size" = some (some (.ref 618)) := by kernel_rfl
theorem mt_size : typeIn (KK w) (.ref 618) = some (.type "function") := by kernel_rfl
theorem mk_size : keepIn (KK w) (.ref 618) = true := by kernel_rfl
theorem m_number_of_edges : findIn (KK w) (.ref 629) "number_of_edges" = some (some (.ref 626)) := by kernel_rfl
theorem mt_number_of_edges : typeIn (KK w) (.ref 626) = some (.type "function") := by kernel_rfl
theorem mk_number_of_edges : keepIn (KK w) (.ref 626) = true := by kernel_rfl
theorem m_is_directed : findIn (KK w) (.ref 629) "is_directed" = some (some (.ref 595)) := by kernel_rfl
theorem mt_is_directed : typeIn (KK w) (.ref 595) = some (.type "function") := by kernel_rfl
theorem mk_is_directed : keepIn (KK w) (.ref 595) = true := by kernel_rfl
theorem m_add_node : findIn (KK w) (.ref 629) "add_node" = some (some (.ref 438)) := by kernel_rfl
theorem mt_add_node : typeIn (KK w) (.ref 438) = some (.type "function") := by kernel_rfl
theorem mk_add_node : keepIn (KK w) (.ref 438) = true := by kernel_rfl
theorem m_add_nodes_from : findIn (KK w) (.ref 629) "add_nodes_from" = some (some (.ref 445)) := by kernel_rfl
theorem mt_add_nodes_from : typeIn (KK w) (.ref 445) = some (.type "function") := by kernel_rfl
theorem mk_add_nodes_from : keepIn (KK w) (.ref 445) = true := by kernel_rfl
theorem m_add_edge : findIn (KK w) (.ref 629) "add_edge" = some (some (.ref 497)) := by kernel_rfl
theorem mt_add_edge : typeIn (KK w) (.ref 497) = some (.type "function") := by kernel_rfl
theorem mk_add_edge : keepIn (KK w) (.ref 497) = true := by kernel_rfl
theorem m_add_edges_from : findIn (KK w) (.ref 629) "add_edges_from" = some (some (.ref 504)) := by kernel_rfl
theorem mt_add_edges_from : typeIn (KK w) (.ref 504) = some (.type "function") := by kernel_rfl
theorem mk_add_edges_from : keepIn (KK w) (.ref 504) = true := by kernel_rfl
theorem m_remove_edge : findIn (KK w) (.ref 629) "remove_edge" = some (some (.ref 511)) := by kernel_rfl
theorem mt_remove_edge : typeIn (KK w) (.ref 511) = some (.type "function") := by kernel_rfl
theorem mk_remove_edge : keepIn (KK w) (.ref 511) = true := by kernel_rfl
theorem m_node_dict_factory : findIn (KK w) (.ref 629) "node_dict_factory" = some (some (.ref 350)) := by kernel_rfl
theorem mt_node_dict_factory : typeIn (KK w) (.ref 350) = some (.type "function") := by kernel_rfl
theorem mk_node_dict_factory : keepIn (KK w) (.ref 350) = true := by kernel_rfl
theorem m_node_attr_dict_factory : findIn (KK w) (.ref 629) "node_attr_dict_factory" = some (some (.ref 357)) := by kernel_rfl
theorem mt_node_attr_dict_factory : typeIn (KK w) (.ref 357) = some (.type "function") := by kernel_rfl
theorem mk_node_attr_dict_factory : keepIn (KK w) (.ref 357) = true := by kernel_rfl
theorem m_adjlist_outer_dict_factory : findIn (KK w) (.ref 629) "adjlist_outer_dict_factory" = some (some (.ref 364)) := by kernel_rfl
theorem mt_adjlist_outer_dict_factory : typeIn (KK w) (.ref 364) = some (.type "function") := by kernel_rfl
theorem mk_adjlist_outer_dict_factory : keepIn (KK w) (.ref 364) = true := by kernel_rfl
theorem m_adjlist_inner_dict_factory : findIn (KK w) (.ref 629) "adjlist_inner_dict_factory" = some (some (.ref 371)) := by kernel_rfl
theorem mt_adjlist_inner_dict_factory : typeIn (KK w) (.ref 371) = some (.type "function") := by kernel_rfl
theorem mk_adjlist_inner_dict_factory : keepIn (KK w) (.ref 371) = true := by kernel_rfl
theorem m_edge_attr_dict_factory : findIn (KK w) (.ref 629) "edge_attr_dict_factory" = some (some (.ref 378)) := by kernel_rfl
theorem mt_edge_attr_dict_factory : typeIn (KK w) (.ref 378) = some (.type "function") := by kernel_rfl
theorem mk_edge_attr_dict_factory : keepIn (KK w) (.ref 378) = true := by kernel_rfl
theorem m_graph_attr_dict_factory : findIn (KK w) (.ref 629) "graph_attr_dict_factory" = some (some (.ref 385)) := by kernel_rfl
theorem mt_graph_attr_dict_factory : typeIn (KK w) (.ref 385) = some (.type "function") := by kernel_rfl
theorem mk_graph_attr_dict_factory : keepIn (KK w) (.ref 385) = true := by kernel_rfl
theorem m_graph : findIn (KK w) (.ref 629) "graph" = some none := by kernel_rfl
theorem tk_graph : takerIn (KK w) 629 "graph" = some none := by kernel_rfl
theorem m__node : findIn (KK w) (.ref 629) "_node" = some none := by kernel_rfl
theorem tk__node : takerIn (KK w) 629 "_node" = some none := by kernel_rfl
theorem m__adj : findIn (KK w) (.ref 629) "_adj" = some none := by kernel_rfl
theorem tk__adj : takerIn (KK w) 629 "_adj" = some none := by kernel_rfl
end
end Mine
end
section
open PySem PySem.W PySem.Calls PyProof.Rows
set_option maxRecDepth 100000
set_option linter.unusedVariables false
set_option linter.unusedSimpArgs false
namespace Mine
variable {w : World} {σ : AS} {n : Nat}
theorem ins_self {a : Addr} {o : AO} (h : Fresh σ a) : (σ.ins a o).f a = some o := ins_at
theorem upd_self {a : Addr} {o o' : AO} (h : σ.f a = some o) : (σ.upd a o').f a = some o' := upd_at
theorem fac_350 {Q : AV → AS → Prop} {v : AV} (h : ∀ a, Fresh σ a → Q (.ref a) (σ.ins a (.idict [] 0))) : VC (KK w) w (n + 1) (.ref 350) [v] Q σ := by
  refine vc_def (f := 350) rfl rfl (by kernel_rfl) (vbi_1 (x := "self") ⟨by rfl, fun L env hL he => ?_⟩)
  clear he
  refine vb_cons ?_
  refine vs_return ?_
  exact ve_dict0 h
theorem fac_357 {Q : AV → AS → Prop} {v : AV} (h : ∀ a, Fresh σ a → Q (.ref a) (σ.ins a (.idict [] 0))) : VC (KK w) w (n + 1) (.ref 357) [v] Q σ := by
  refine vc_def (f := 357) rfl rfl (by kernel_rfl) (vbi_1 (x := "self") ⟨by rfl, fun L env hL he => ?_⟩)
  clear he
  refine vb_cons ?_
  refine vs_return ?_
  exact ve_dict0 h
theorem fac_364 {Q : AV → AS → Prop} {v : AV} (h : ∀ a, Fresh σ a → Q (.ref a) (σ.ins a (.idict [] 0))) : VC (KK w) w (n + 1) (.ref 364) [v] Q σ := by
  refine vc_def (f := 364) rfl rfl (by kernel_rfl) (vbi_1 (x := "self") ⟨by rfl, fun L env hL he => ?_⟩)
  clear he
  refine vb_cons ?_
  refine vs_return ?_
  exact ve_dict0 h
theorem fac_371 {Q : AV → AS → Prop} {v : AV} (h : ∀ a, Fresh σ a → Q (.ref a) (σ.ins a (.idict [] 0))) : VC (KK w) w (n + 1) (.ref 371) [v] Q σ := by
  refine vc_def (f := 371) rfl rfl (by kernel_rfl) (vbi_1 (x := "self") ⟨by rfl, fun L env hL he => ?_⟩)
  clear he
  refine vb_cons ?_
  refine vs_return ?_
  exact ve_dict0 h
theorem fac_378 {Q : AV → AS → Prop} {v : AV} (h : ∀ a, Fresh σ a → Q (.ref a) (σ.ins a (.idict [] 0))) : VC (KK w) w (n + 1) (.ref 378) [v] Q σ := by
  refine vc_def (f := 378) rfl rfl (by kernel_rfl) (vbi_1 (x := "self") ⟨by rfl, fun L env hL he => ?_⟩)
  clear he
  refine vb_cons ?_
  refine vs_return ?_
  exact ve_dict0 h
theorem fac_385 {Q : AV → AS → Prop} {v : AV} (h : ∀ a, Fresh σ a → Q (.ref a) (σ.ins a (.idict [] 0))) : VC (KK w) w (n + 1) (.ref 385) [v] Q σ := by
  refine vc_def (f := 385) rfl rfl (by kernel_rfl) (vbi_1 (x := "self") ⟨by rfl, fun L env hL he => ?_⟩)
  clear he
  refine vb_cons ?_
  refine vs_return ?_
  exact ve_dict0 h
theorem law_init {Q : AV → AS → Prop} {x d : Addr} (hx : σ.f x = some (.inst 629 d)) (hd : σ.f d = some (.ns []))
    (h : ∀ σ' gr nd ad, (∀ a o, a ≠ d → σ.f a = some o → σ'.f a = some o) → σ'.f d = some (.ns [("graph", .ref gr), ("_node", .ref nd), ("_adj", .ref ad)]) → (∃ e, σ'.f nd = some (.idict [] e)) → (∃ e, σ'.f ad = some (.idict [] e)) → nd ≠ ad → σ.f nd = none → σ.f ad = none → Q .none σ') :
    VCode (KK w) w (n + 2) (.ref 393) [.ref x] [] Q σ := by
  refine vcode_def (f := 393) rfl rfl (by kernel_rfl) (vbi_peekA (fun vs _ D => [("self", vs.headD .none), ("incoming_graph_data", .none), ("attr", .ref D)]) (fun vs kvs ha hkw => ?_) (fun vs kvs D ha hkw hD => ⟨by rfl, fun L env hL he => ?_⟩))
  · obtain ⟨v, rfl, hv⟩ := one_of ha
    obtain rfl : kvs = [] := by simpa using hkw
    exact ⟨_, rfl, fun D => rfl⟩
  obtain ⟨v, rfl, hv⟩ := one_of ha
  have hs : erB [((Str.ofString "self" : Str), v), ("incoming_graph_data", .none), ("attr", .ref D)] = [(Str.ofString "self", .ref x), (Str.ofString "incoming_graph_data", .none), (Str.ofString "attr", .ref D)] := by simp only [erB, List.map_cons, List.map_nil, hv]; rfl
  show VB _ _ _ _ _ _ (erB [((Str.ofString "self" : Str), v), ("incoming_graph_data", .none), ("attr", .ref D)]) _
  rw [hs]
  have k_self := kd_of he (x := "self") (k := .local) rfl
  have k_attr := kd_of he (x := "attr") (k := .local) rfl
  have hi : interactive env = false := by rw [he]; rfl
  clear he
  have hE : ∀ a o, a ≠ d → σ.f a = some o → (σ.ins D (.idict [] 0)).f a = some o := fun a o _ e => ins_old hD e
  have hx := ins_old (o := (.idict [] 0)) hD hx
  have hd := ins_old (o := (.idict [] 0)) hD hd
  have ha := ins_self (o := .idict [] 0) hD
  refine vb_cons ?_
  refine vs_assign ?_
  refine ve_mcall ?_
  refine ve_local (by first | assumption | (simp only [lk_lset, lk, ofString_inj, String.reduceEq, if_true, if_false] <;> first | rfl | assumption)) ?_
  refine vm_fn pc_Graph hx hd rfl m_graph_attr_dict_factory mt_graph_attr_dict_factory ⟨keep_ref mk_graph_attr_dict_factory, vl_nil (fac_385 fun gr hgr => ?_)⟩
  have fgr : σ.f gr = none := by
    cases q : σ.f gr with
    | none => rfl
    | some o => exact absurd (hE gr o (ne_fresh hgr hd).symm q) (fun z => by cases (hgr.none.symm.trans z))
  have hE := fun a o n e => ins_old (o := .idict [] 0) hgr (hE a o n e)
  have hDr : gr ≠ D := fun q => ne_fresh hgr ha q.symm
  have hx := ins_old (o := (.idict [] 0)) hgr hx
  have hd := ins_old (o := (.idict [] 0)) hgr hd
  have ha := ins_old (o := (.idict [] 0)) hgr ha
  have hr := ins_self (o := .idict [] 0) hgr
  refine va_attr ?_
  refine ve_local (by first | assumption | (simp only [lk_lset, lk, ofString_inj, String.reduceEq, if_true, if_false] <;> first | rfl | assumption)) ?_
  refine ⟨x, 629, d, _, rfl, hx, hd, by simp, pc_Graph, tk_graph, ?_⟩
  have hE := fun a o n e => upd_ne (o := .ns [("graph", .ref gr)]) n (hE a o n e)
  have hx := upd_ne (o := (.ns [("graph", .ref gr)])) (ne_obj hx hd (by intro q; cases q)) hx
  have ha := upd_ne (o := (.ns [("graph", .ref gr)])) (ne_obj ha hd (by intro q; cases q)) ha
  have hr := upd_ne (o := (.ns [("graph", .ref gr)])) (ne_obj hr hd (by intro q; cases q)) hr
  have hd := upd_self (o' := (.ns [("graph", .ref gr)])) hd
  refine vb_cons ?_
  refine vs_assign ?_
  refine ve_mcall ?_
  refine ve_local (by first | assumption | (simp only [lk_lset, lk, ofString_inj, String.reduceEq, if_true, if_false] <;> first | rfl | assumption)) ?_
  refine vm_fn pc_Graph hx hd rfl m_node_dict_factory mt_node_dict_factory ⟨keep_ref mk_node_dict_factory, vl_nil (fac_350 fun nd hnd => ?_)⟩
  have fnd : σ.f nd = none := by
    cases q : σ.f nd with
    | none => rfl
    | some o => exact absurd (hE nd o (ne_fresh hnd hd).symm q) (fun z => by cases (hnd.none.symm.trans z))
  have hE := fun a o n e => ins_old (o := .idict [] 0) hnd (hE a o n e)
  have nr := ne_fresh hnd hr
  have hx := ins_old (o := (.idict [] 0)) hnd hx
  have hd := ins_old (o := (.idict [] 0)) hnd hd
  have ha := ins_old (o := (.idict [] 0)) hnd ha
  have hr := ins_old (o := (.idict [] 0)) hnd hr
  have hn := ins_self (o := .idict [] 0) hnd
  refine va_attr ?_
  refine ve_local (by first | assumption | (simp only [lk_lset, lk, ofString_inj, String.reduceEq, if_true, if_false] <;> first | rfl | assumption)) ?_
  refine ⟨x, 629, d, _, rfl, hx, hd, by simp, pc_Graph, tk__node, ?_⟩
  have hE := fun a o n e => upd_ne (o := .ns [("graph", .ref gr), ("_node", .ref nd)]) n (hE a o n e)
  have hx := upd_ne (o := (.ns [("graph", .ref gr), ("_node", .ref nd)])) (ne_obj hx hd (by intro q; cases q)) hx
  have ha := upd_ne (o := (.ns [("graph", .ref gr), ("_node", .ref nd)])) (ne_obj ha hd (by intro q; cases q)) ha
  have hr := upd_ne (o := (.ns [("graph", .ref gr), ("_node", .ref nd)])) (ne_obj hr hd (by intro q; cases q)) hr
  have hn := upd_ne (o := (.ns [("graph", .ref gr), ("_node", .ref nd)])) (ne_obj hn hd (by intro q; cases q)) hn
  have hd := upd_self (o' := (.ns [("graph", .ref gr), ("_node", .ref nd)])) hd
  refine vb_cons ?_
  refine vs_assign ?_
  refine ve_mcall ?_
  refine ve_local (by first | assumption | (simp only [lk_lset, lk, ofString_inj, String.reduceEq, if_true, if_false] <;> first | rfl | assumption)) ?_
  refine vm_fn pc_Graph hx hd rfl m_adjlist_outer_dict_factory mt_adjlist_outer_dict_factory ⟨keep_ref mk_adjlist_outer_dict_factory, vl_nil (fac_364 fun ad had => ?_)⟩
  have fad : σ.f ad = none := by
    cases q : σ.f ad with
    | none => rfl
    | some o => exact absurd (hE ad o (ne_fresh had hd).symm q) (fun z => by cases (had.none.symm.trans z))
  have hE := fun a o n e => ins_old (o := .idict [] 0) had (hE a o n e)
  have na := ne_fresh had hn
  have ra := ne_fresh had hr
  have hx := ins_old (o := (.idict [] 0)) had hx
  have hd := ins_old (o := (.idict [] 0)) had hd
  have ha := ins_old (o := (.idict [] 0)) had ha
  have hr := ins_old (o := (.idict [] 0)) had hr
  have hn := ins_old (o := (.idict [] 0)) had hn
  have hq := ins_self (o := .idict [] 0) had
  refine va_attr ?_
  refine ve_local (by first | assumption | (simp only [lk_lset, lk, ofString_inj, String.reduceEq, if_true, if_false] <;> first | rfl | assumption)) ?_
  refine ⟨x, 629, d, _, rfl, hx, hd, by simp, pc_Graph, tk__adj, ?_⟩
  have hE := fun a o n e => upd_ne (o := .ns [("graph", .ref gr), ("_node", .ref nd), ("_adj", .ref ad)]) n (hE a o n e)
  have hx := upd_ne (o := (.ns [("graph", .ref gr), ("_node", .ref nd), ("_adj", .ref ad)])) (ne_obj hx hd (by intro q; cases q)) hx
  have ha := upd_ne (o := (.ns [("graph", .ref gr), ("_node", .ref nd), ("_adj", .ref ad)])) (ne_obj ha hd (by intro q; cases q)) ha
  have hr := upd_ne (o := (.ns [("graph", .ref gr), ("_node", .ref nd), ("_adj", .ref ad)])) (ne_obj hr hd (by intro q; cases q)) hr
  have hn := upd_ne (o := (.ns [("graph", .ref gr), ("_node", .ref nd), ("_adj", .ref ad)])) (ne_obj hn hd (by intro q; cases q)) hn
  have hq := upd_ne (o := (.ns [("graph", .ref gr), ("_node", .ref nd), ("_adj", .ref ad)])) (ne_obj hq hd (by intro q; cases q)) hq
  have hd := upd_self (o' := (.ns [("graph", .ref gr), ("_node", .ref nd), ("_adj", .ref ad)])) hd
  refine vb_cons ?_
  refine vs_expr ?_ (hi := hi)
  refine ve_mcall ?_
  refine ve_local (by first | assumption | (simp only [lk_lset, lk, ofString_inj, String.reduceEq, if_true, if_false] <;> first | rfl | assumption)) ?_
  refine vm_dict ha PySem.F.slot_dict_pop PySem.F.type_dict_pop ?_
  refine ⟨keep_builtin, ?_⟩
  refine vl_cons ?_
  refine ve_const_str ?_
  refine vl_cons ?_
  refine ve_const_none ?_
  refine vl_nil ?_
  refine vc_dpop0 ha ?_
  refine ⟨(by intro a q; cases q), ?_⟩
  refine vb_cons ?_
  refine vs_expr ?_ (hi := hi)
  refine ve_mcall ?_
  refine ve_attr ?_
  refine ve_local (by first | assumption | (simp only [lk_lset, lk, ofString_inj, String.reduceEq, if_true, if_false] <;> first | rfl | assumption)) ?_
  refine vg_own pc_Graph hx hd rfl m_graph rfl ?_
  refine vm_dict hr PySem.F.slot_dict_update PySem.F.type_dict_update ?_
  refine ⟨keep_builtin, ?_⟩
  refine vl_cons ?_
  refine ve_local (by first | assumption | (simp only [lk_lset, lk, ofString_inj, String.reduceEq, if_true, if_false] <;> first | rfl | assumption)) ?_
  refine vl_nil ?_
  refine vc_dupdate hr ha hDr (by decide) fun ep' => ?_
  refine ⟨(by intro a q; cases q), ?_⟩
  refine vb_nil ?_
  have hE := fun a o n e => upd_ne (o := .idict [] ep') (ne_none e fgr) (hE a o n e)
  have hn := upd_ne (o := .idict [] ep') (fun q => nr q.symm) hn
  have hq := upd_ne (o := .idict [] ep') (fun q => ra q.symm) hq
  have hd := upd_ne (o := (.idict [] ep')) (ne_obj hd hr (by intro q; cases q)) hd
  have hr := upd_self (o' := (.idict [] ep')) hr
  exact h _ gr nd ad hE hd ⟨_, hn⟩ ⟨_, hq⟩ na fnd fad
end Mine
end
section
open PySem PySem.W PySem.Calls PyProof.Rows
set_option maxRecDepth 100000
set_option linter.unusedVariables false
set_option linter.unusedSimpArgs false
namespace Mine
variable {w : World} {σ : AS} {n : Nat}
structure GA where
  x : Addr
  d : Addr
  nd : Addr
  ad : Addr
  gr : AV
  row : Int → Addr
  na : Int → AV
  ea : Int → Int → AV
  e1 : Nat
  e2 : Nat
  er : Int → Nat
noncomputable def gns (G : GA) (dg : Option Addr) : List (Str × AV) := ("graph", G.gr) :: ("_node", .ref G.nd) :: ("_adj", .ref G.ad) :: (match dg with | none => [] | some a => [("degree", .ref a)])
noncomputable def kN (G : GA) (V : List Int) : List (Int × AV) := V.map fun v => (v, G.na v)
noncomputable def kA (G : GA) (V : List Int) : List (Int × AV) := V.map fun v => (v, .ref (G.row v))
noncomputable def kR (G : GA) (N : Int → List Int) (v : Int) : List (Int × AV) := (N v).map fun u => (u, G.ea v u)
structure GR (σ : AS) (G : GA) (U V : List Int) (N : Int → List Int) (dg : Option Addr) : Prop where
  x : σ.f G.x = some (.inst 629 G.d)
  d : σ.f G.d = some (.ns (gns G dg))
  nd : σ.f G.nd = some (.idict (kN G U) G.e1)
  ad : σ.f G.ad = some (.idict (kA G V) G.e2)
  row : ∀ v, v ∈ V → σ.f (G.row v) = some (.idict (kR G N v) (G.er v))
  ne : G.nd ≠ G.ad
  rn : ∀ v, v ∈ V → G.row v ≠ G.nd ∧ G.row v ≠ G.ad
  inj : ∀ u v, u ∈ V → v ∈ V → G.row u = G.row v → u = v
noncomputable def isD : AO → Bool
  | .idict _ _ => true
  | .ns _ => true
  | _ => false
noncomputable def isI : AO → Bool
  | .idict _ _ => true
  | _ => false
noncomputable def Kp (σ σ' : AS) : Prop := ∀ a o, σ.f a = some o → isI o = false → σ'.f a = some o
noncomputable def Kw (σ σ' : AS) : Prop := ∀ a o, σ.f a = some o → isD o = false → σ'.f a = some o
theorem Kp.weak {σ' : AS} (h : Kp σ σ') : Kw σ σ' := fun a o e q => h a o e (by cases o <;> first | rfl | cases q)
theorem Kw.trans {σ' σ'' : AS} (h : Kw σ σ') (g : Kw σ' σ'') : Kw σ σ'' := fun a o e q => g a o (h a o e q) q
theorem Kp.refl : Kp σ σ := fun _ _ e _ => e
theorem Kp.trans {σ' σ'' : AS} (h : Kp σ σ') (g : Kp σ' σ'') : Kp σ σ'' := fun a o e q => g a o (h a o e q) q
theorem Kp.of_ext {σ' : AS} (h : Ext σ σ') : Kp σ σ' := fun a o e _ => h a o e
theorem Kw.of_ext {σ' : AS} (h : Ext σ σ') : Kw σ σ' := fun a o e _ => h a o e
theorem Kp.upd {a : Addr} {o o' : AO} (h : σ.f a = some o) (ho : isI o = true) : Kp σ (σ.upd a o') := fun b ob e q => upd_ne (fun z => by rw [z, h] at e; cases e; rw [ho] at q; cases q) e
theorem GR.ext {σ' : AS} {G : GA} {U V : List Int} {N : Int → List Int} {dg : Option Addr} (g : GR σ G U V N dg) (h : Ext σ σ') : GR σ' G U V N dg :=
  ⟨h _ _ g.x, h _ _ g.d, h _ _ g.nd, h _ _ g.ad, fun v hv => h _ _ (g.row v hv), g.ne, g.rn, g.inj⟩
theorem GR.upd {G : GA} {U V : List Int} {N : Int → List Int} {dg : Option Addr} (g : GR σ G U V N dg) {a : Addr} {o o' : AO} (h : σ.f a = some o) (hd : isD o = false) (hx : a ≠ G.x) : GR (σ.upd a o') G U V N dg := by
  have k : ∀ b ob, σ.f b = some ob → isD ob = true → (σ.upd a o').f b = some ob := fun b ob e q => upd_ne (fun z => by rw [z, h] at e; cases e; rw [q] at hd; cases hd) e
  exact ⟨upd_ne (Ne.symm hx) g.x, k _ _ g.d rfl, k _ _ g.nd rfl, k _ _ g.ad rfl, fun v hv => k _ _ (g.row v hv) rfl, g.ne, g.rn, g.inj⟩
theorem ivl_map (f : Int → AV) (k : Int) : ∀ V : List Int, ivl (V.map fun v => (v, f v)) k = if k ∈ V then some (f k) else none
  | [] => by simp [ivl]
  | v :: r => by
    have ih := ivl_map f k r
    simp only [ivl, List.map_cons, List.find?_cons] at ih ⊢
    by_cases q : v = k
    · subst q; simp
    · have : k ≠ v := fun z => q z.symm
      simp only [q, decide_false]
      rw [ih]
      simp [this]
theorem ist_new (f : Int → AV) (k : Int) (x : AV) {V : List Int} (h : k ∉ V) : ist (V.map fun v => (v, f v)) k x = (V ++ [k]).map fun v => (v, if v = k then x else f v) := by
  unfold ist
  rw [if_neg]
  · rw [List.map_append]
    congr 1
    · refine List.map_congr_left fun v hv => ?_
      rw [if_neg (fun q : v = k => h (q ▸ hv))]
    · simp
  · simp only [List.any_map, List.any_eq_true, Function.comp, decide_eq_true_eq, not_exists, not_and]
    exact fun v hv q => h (q ▸ hv)
section
variable {G : GA} {U V : List Int} {N : Int → List Int} {dg : Option Addr}
theorem GR.updO (g : GR σ G U V N dg) {a : Addr} {kvs : List (Int × AV)} {e : Nat} {o' : AO} (h : σ.f a = some (.idict kvs e)) (h1 : a ≠ G.nd) (h2 : a ≠ G.ad) (h3 : ∀ v, v ∈ V → a ≠ G.row v) : GR (σ.upd a o') G U V N dg :=
  ⟨upd_ne (ne_obj g.x h (by intro q; cases q)) g.x, upd_ne (ne_obj g.d h (by intro q; cases q)) g.d, upd_ne (Ne.symm h1) g.nd, upd_ne (Ne.symm h2) g.ad, fun v hv => upd_ne (Ne.symm (h3 v hv)) (g.row v hv), g.ne, g.rn, g.inj⟩
theorem GR.setNd (g : GR σ G U V N dg) {k : Int} {a : AV} {e : Nat} (hk : k ∉ U) : GR (σ.upd G.nd (.idict (ist (kN G U) k a) e)) { G with na := fun v => if v = k then a else G.na v, e1 := e } (U ++ [k]) V N dg := by
  refine ⟨upd_ne (ne_obj g.x g.nd (by intro q; cases q)) g.x, upd_ne (ne_obj g.d g.nd (by intro q; cases q)) g.d, ?_, upd_ne (Ne.symm g.ne) g.ad, fun v hv => upd_ne (g.rn v hv).1 (g.row v hv), g.ne, g.rn, g.inj⟩
  rw [show kN G U = U.map fun v => (v, G.na v) from rfl, ist_new _ _ _ hk]
  exact upd_at
theorem GR.setAd (g : GR σ G U V N dg) {k : Int} {r : Addr} {e e0 : Nat} (hk : k ∉ V) (hr : σ.f r = some (.idict [] e0)) (h1 : r ≠ G.nd) (h2 : r ≠ G.ad) (h3 : ∀ v, v ∈ V → r ≠ G.row v) :
    GR (σ.upd G.ad (.idict (ist (kA G V) k (.ref r)) e)) { G with row := fun v => if v = k then r else G.row v, e2 := e, er := fun v => if v = k then e0 else G.er v } U (V ++ [k]) (fun v => if v = k then [] else N v) dg := by
  refine ⟨upd_ne (ne_obj g.x g.ad (by intro q; cases q)) g.x, upd_ne (ne_obj g.d g.ad (by intro q; cases q)) g.d, upd_ne g.ne g.nd, ?_, fun v hv => ?_, g.ne, fun v hv => ?_, fun u v hu hv q => ?_⟩
  · rw [show kA G V = V.map fun v => (v, AV.ref (G.row v)) from rfl, ist_new _ _ _ hk]
    refine upd_at.trans ?_
    congr 2
    refine List.map_congr_left fun v _ => ?_
    dsimp only
    split <;> rfl
  · dsimp only [kR]
    by_cases q : v = k
    · rw [if_pos q, if_pos q, if_pos q]
      exact upd_ne h2 hr
    · rw [if_neg q, if_neg q, if_neg q]
      have hv' : v ∈ V := by simpa [q] using hv
      exact upd_ne (g.rn v hv').2 (g.row v hv')
  · dsimp only
    by_cases q : v = k
    · rw [if_pos q]; exact ⟨h1, h2⟩
    · rw [if_neg q]
      have hv' : v ∈ V := by simpa [q] using hv
      exact g.rn v hv'
  · dsimp only at q
    by_cases qu : u = k <;> by_cases qv : v = k
    · rw [qu, qv]
    · rw [if_pos qu, if_neg qv] at q
      exact absurd q (h3 v (by simpa [qv] using hv))
    · rw [if_neg qu, if_pos qv] at q
      exact absurd q.symm (h3 u (by simpa [qu] using hu))
    · rw [if_neg qu, if_neg qv] at q
      exact g.inj u v (by simpa [qu] using hu) (by simpa [qv] using hv) q
theorem GR.setRow (g : GR σ G U V N dg) {v u : Int} {a : AV} {e : Nat} (hv : v ∈ V) (hu : u ∉ N v) :
    GR (σ.upd (G.row v) (.idict (ist (kR G N v) u a) e)) { G with ea := fun p q => if p = v ∧ q = u then a else G.ea p q, er := fun p => if p = v then e else G.er p } U V (fun p => if p = v then N p ++ [u] else N p) dg := by
  have hr := g.row v hv
  refine ⟨upd_ne (ne_obj g.x hr (by intro q; cases q)) g.x, upd_ne (ne_obj g.d hr (by intro q; cases q)) g.d, upd_ne (g.rn v hv).1.symm g.nd, upd_ne (g.rn v hv).2.symm g.ad, fun p hp => ?_, g.ne, g.rn, g.inj⟩
  dsimp only [kR]
  by_cases q : p = v
  · subst q
    rw [if_pos rfl, if_pos rfl, ist_new _ _ _ hu]
    refine upd_at.trans ?_
    congr 2
    refine List.map_congr_left fun x _ => ?_
    simp
  · rw [if_neg q, if_neg q]
    refine (upd_ne (fun z => q (g.inj p v hp hv z)) (g.row p hp)).trans ?_
    congr 2
    refine List.map_congr_left fun x _ => ?_
    simp [q]
theorem GR.delRow (g : GR σ G U V N dg) {v u : Int} {e : Nat} (hv : v ∈ V) :
    GR (σ.upd (G.row v) (.idict ((kR G N v).filter fun p => decide (p.1 ≠ u)) e)) { G with er := fun p => if p = v then e else G.er p } U V (fun p => if p = v then (N p).filter fun q => decide (q ≠ u) else N p) dg := by
  have hr := g.row v hv
  refine ⟨upd_ne (ne_obj g.x hr (by intro q; cases q)) g.x, upd_ne (ne_obj g.d hr (by intro q; cases q)) g.d, upd_ne (g.rn v hv).1.symm g.nd, upd_ne (g.rn v hv).2.symm g.ad, fun p hp => ?_, g.ne, g.rn, g.inj⟩
  dsimp only [kR]
  by_cases q : p = v
  · subst q
    rw [if_pos rfl, if_pos rfl, List.filter_map]
    exact upd_at
  · rw [if_neg q, if_neg q]
    exact upd_ne (fun z => q (g.inj p v hp hv z)) (g.row p hp)
theorem gns_len : (gns G dg).length ≤ 60 := by unfold gns; cases dg <;> simp
theorem gns_node : lk (gns G dg) "_node" = some (.ref G.nd) := by simp [gns, lk, ofString_inj]
theorem gns_adj : lk (gns G dg) "_adj" = some (.ref G.ad) := by simp [gns, lk, ofString_inj]
theorem gns_none {x : String} (h1 : x ≠ "graph") (h2 : x ≠ "_node") (h3 : x ≠ "_adj") (h4 : x ≠ "degree") : lk (gns G dg) (Str.ofString x) = none := by
  unfold gns
  simp only [lk, ofString_inj, Ne.symm h1, Ne.symm h2, Ne.symm h3, if_false]
  cases dg with
  | none => rfl
  | some a => simp only [lk, ofString_inj, Ne.symm h4, if_false]
end
end Mine
end
section
open PySem PySem.W PySem.Calls PyProof.Rows
set_option maxRecDepth 100000
set_option linter.unusedVariables false
set_option linter.unusedSimpArgs false
namespace Mine
variable {w : World} {σ : AS} {n : Nat}
theorem erB_nil : erB [] = [] := rfl
theorem erB_cons (x : Str) (v : Value) (r : List (Str × Value)) : erB ((x, v) :: r) = (x, er v) :: erB r := rfl
structure Off (D : Addr) (G : GA) (V : List Int) : Prop where
  nd : D ≠ G.nd
  ad : D ≠ G.ad
  row : ∀ v, v ∈ V → D ≠ G.row v
theorem GR.off {G : GA} {U V : List Int} {N : Int → List Int} {dg : Option Addr} (g : GR σ G U V N dg) {D : Addr} (h : Fresh σ D) : Off D G V :=
  ⟨fun q => (by have := g.nd; rw [← q, h.none] at this; cases this), fun q => (by have := g.ad; rw [← q, h.none] at this; cases this), fun v hv q => (by have := g.row v hv; rw [← q, h.none] at this; cases this)⟩
theorem law_add_nodes {Q : AV → AS → Prop} {G : GA} {V : List Int} {N : Int → List Int} {dg : Option Addr} {a : Addr} {ks : List Int} (g : GR σ G V V N dg) (hl : σ.f a = some (.list (ks.map .int))) (hks : ks.Nodup) (hdis : ∀ k, k ∈ ks → k ∉ V) (hz : V.length + ks.length ≤ 900)
    (h : ∀ σ' G', G'.x = G.x → Kp σ σ' → GR σ' G' (V ++ ks) (V ++ ks) (fun v => if v ∈ ks then [] else N v) dg → Q .none σ') : VC (KK w) w (n + 2) (.ref 445) [.ref G.x, .ref a] Q σ := by
  refine vc_of_code (vcode_def (f := 445) rfl rfl (by kernel_rfl) (vbi_peekA (fun vs _ D => [("self", vs.headD .none), ("nodes_for_adding", (vs.drop 1).headD .none), ("attr", .ref D)]) (fun vs kvs ha hkw => ?_) (fun vs kvs D ha hkw hD => ⟨by rfl, fun L env hL he => ?_⟩)))
  · obtain ⟨v, u, rfl, hv, hu⟩ := two_of ha
    obtain rfl : kvs = [] := by simpa using hkw
    exact ⟨_, rfl, fun D => rfl⟩
  obtain ⟨v, u, rfl, hv, hu⟩ := two_of ha
  show VB _ _ _ _ _ _ (erB [((Str.ofString "self" : Str), v), ("nodes_for_adding", u), ("attr", .ref D)]) _
  simp only [erB_cons, erB_nil, hv, hu, show er (.ref D) = .ref D from rfl]
  have k_self := kd_of he (x := "self") (k := .local) rfl
  have k_nodes_for_adding := kd_of he (x := "nodes_for_adding") (k := .local) rfl
  have k_attr := kd_of he (x := "attr") (k := .local) rfl
  have k_n := kd_of he (x := "n") (k := .local) rfl
  have k_newnode := kd_of he (x := "newnode") (k := .local) rfl
  have k_newdict := kd_of he (x := "newdict") (k := .local) rfl
  have hi : interactive env = false := by rw [he]; rfl
  clear he
  have off := g.off hD
  have g1 := g.ext (Ext.ins (o := .idict [] 0) hD)
  have hE : Kp σ (σ.ins D (.idict [] 0)) := Kp.of_ext (Ext.ins hD)
  have hl := ins_old (o := (.idict [] 0)) hD hl
  have hd := ins_self (o := .idict [] 0) hD
  refine vb_cons ?_
  refine vs_loop ?_
  refine ve_local (by first | assumption | (simp only [lk_lset, lk, ofString_inj, String.reduceEq, if_true, if_false] <;> first | rfl | assumption)) ?_
  refine vit_list hl ?_
  refine spec_list (fun i l σ' => ∃ G', G'.x = G.x ∧ Kp σ σ' ∧ lk l "self" = some (.ref G.x) ∧ lk l "attr" = some (.ref D) ∧ σ'.f a = some (.list (ks.map .int)) ∧ (∃ e, σ'.f D = some (.idict [] e)) ∧ Off D G' (V ++ ks.take i) ∧ GR σ' G' (V ++ ks.take i) (V ++ ks.take i) (fun v => if v ∈ ks.take i then [] else N v) dg) (fun j l σ' hJ => hJ.choose_spec.2.2.2.2.1) ⟨G, rfl, hE, (by first | assumption | (simp only [lk_lset, lk, ofString_inj, String.reduceEq, if_true, if_false] <;> first | rfl | assumption)), (by first | assumption | (simp only [lk_lset, lk, ofString_inj, String.reduceEq, if_true, if_false] <;> first | rfl | assumption)), hl, ⟨_, hd⟩, by simpa using off, by simpa using g1⟩ (fun j v l' σ' hJ hj hv => ?_) (fun l' σ' hJ => ?_)
  · obtain ⟨G', hx', hK, hs, ht, hl', ⟨e, hd'⟩, off', g'⟩ := hJ
    obtain ⟨k, hk, rfl⟩ : ∃ k, ks[j]? = some k ∧ v = .int k := by
      rw [List.getElem?_map] at hv
      obtain ⟨k, h1, h2⟩ := Option.map_eq_some_iff.mp hv
      exact ⟨k, h1, h2.symm⟩
    have hjk : j < ks.length := by simpa using hj
    have hkm : k ∈ ks := List.mem_of_getElem? hk
    have htk : ks.take (j + 1) = ks.take j ++ [k] := by rw [List.take_add_one, hk]; rfl
    have hkn : k ∉ V ++ ks.take j := by
      rw [List.mem_append, not_or]
      refine ⟨hdis k hkm, fun q => ?_⟩
      have h1 : (ks.take (j + 1)).Nodup := hks.sublist (List.take_sublist _ _)
      rw [htk, List.nodup_append] at h1
      exact h1.2.2 k q k (by simp) rfl
    have hlen : (V ++ ks.take j).length ≤ 1000 := by rw [List.length_append, List.length_take]; omega
    refine va_local ?_
    refine vb_cons ?_
    refine vs_try ?_
    refine vb_cons ?_
    refine vs_assign ?_
    refine ve_cmp ?_
    refine ve_local (by first | assumption | (simp only [lk_lset, lk, ofString_inj, String.reduceEq, if_true, if_false] <;> first | rfl | assumption)) ?_
    refine ve_attr ?_
    refine ve_local (by first | assumption | (simp only [lk_lset, lk, ofString_inj, String.reduceEq, if_true, if_false] <;> first | rfl | assumption)) ?_
    rw [← hx'] at hs ⊢
    refine vg_own pc_Graph g'.x g'.d gns_node m__node rfl ?_
    refine vo_notin_dict g'.nd ?_
    rw [show kN G' (V ++ ks.take j) = (V ++ ks.take j).map fun v => (v, G'.na v) from rfl, ivl_map, if_neg hkn]
    refine va_local ?_
    refine vb_cons ?_
    refine vs_assign ?_
    refine ve_local (by first | assumption | (simp only [lk_lset, lk, ofString_inj, String.reduceEq, if_true, if_false] <;> first | rfl | assumption)) ?_
    refine va_local ?_
    refine vb_nil ?_
    refine vb_cons ?_
    refine vs_if ?_
    refine vt_value ?_
    refine ve_local (by first | assumption | (simp only [lk_lset, lk, ofString_inj, String.reduceEq, if_true, if_false] <;> first | rfl | assumption)) ?_
    refine vtr_bool ?_
    rw [if_pos (by rfl)]
    refine vb_cons ?_
    refine vs_if ?_
    refine vt_cmp ?_
    refine ve_local (by first | assumption | (simp only [lk_lset, lk, ofString_inj, String.reduceEq, if_true, if_false] <;> first | rfl | assumption)) ?_
    refine ve_const_none ?_
    refine vo_is_none ?_
    refine vtr_bool ?_
    rw [if_neg (by intro q; cases q)]
    refine vb_nil ?_
    refine vb_cons ?_
    refine vs_assign ?_
    refine ve_mcall ?_
    refine ve_local (by first | assumption | (simp only [lk_lset, lk, ofString_inj, String.reduceEq, if_true, if_false] <;> first | rfl | assumption)) ?_
    refine vm_fn pc_Graph g'.x g'.d (gns_none (by decide) (by decide) (by decide) (by decide)) m_adjlist_inner_dict_factory mt_adjlist_inner_dict_factory ⟨keep_ref mk_adjlist_inner_dict_factory, vl_nil (fac_371 fun r hr => ?_)⟩
    have offr := g'.off hr
    have g2 := g'.ext (Ext.ins (o := .idict [] 0) hr)
    have hK2 := hK.trans (Kp.of_ext (Ext.ins (o := .idict [] 0) hr))
    have nDr := ne_fresh hr hd'
    have hl' := ins_old (o := (.idict [] 0)) hr hl'
    have hd' := ins_old (o := (.idict [] 0)) hr hd'
    have hrr := ins_self (o := .idict [] 0) hr
    refine va_sub_dict ?_
    refine ve_attr ?_
    refine ve_local (by first | assumption | (simp only [lk_lset, lk, ofString_inj, String.reduceEq, if_true, if_false] <;> first | rfl | assumption)) ?_
    refine vg_own pc_Graph g2.x g2.d gns_adj m__adj rfl ?_
    refine ve_local (by first | assumption | (simp only [lk_lset, lk, ofString_inj, String.reduceEq, if_true, if_false] <;> first | rfl | assumption)) ?_
    refine ⟨_, k, _, _, rfl, rfl, g2.ad, by rw [kA, List.length_map]; exact hlen, fun ep3 => ?_⟩
    have g3 := g2.setAd (e := ep3) hkn hrr offr.nd offr.ad offr.row
    have hK3 := hK2.trans (Kp.upd (o' := .idict (ist (kA G' (V ++ ks.take j)) k (.ref r)) ep3) g2.ad rfl)
    have hl3 := upd_ne (o := .idict (ist (kA G' (V ++ ks.take j)) k (.ref r)) ep3) (ne_obj hl' g2.ad (by intro q; cases q)) hl'
    have hd3 := upd_ne (o := .idict (ist (kA G' (V ++ ks.take j)) k (.ref r)) ep3) off'.ad hd'
    refine vb_cons ?_
    refine vs_assign ?_
    refine ve_mcall ?_
    refine ve_local (by first | assumption | (simp only [lk_lset, lk, ofString_inj, String.reduceEq, if_true, if_false] <;> first | rfl | assumption)) ?_
    refine vm_fn pc_Graph g3.x g3.d (gns_none (by decide) (by decide) (by decide) (by decide)) m_node_attr_dict_factory mt_node_attr_dict_factory ⟨keep_ref mk_node_attr_dict_factory, vl_nil (fac_357 fun q hq => ?_)⟩
    have offq := g3.off hq
    have g4 := g3.ext (Ext.ins (o := .idict [] 0) hq)
    have hK4 := hK3.trans (Kp.of_ext (Ext.ins (o := .idict [] 0) hq))
    have nDq := ne_fresh hq hd3
    have hl3 := ins_old (o := (.idict [] 0)) hq hl3
    have hd3 := ins_old (o := (.idict [] 0)) hq hd3
    have hqq := ins_self (o := .idict [] 0) hq
    refine va_sub_dict ?_
    refine ve_attr ?_
    refine ve_local (by first | assumption | (simp only [lk_lset, lk, ofString_inj, String.reduceEq, if_true, if_false] <;> first | rfl | assumption)) ?_
    refine vg_own pc_Graph g4.x g4.d gns_node m__node rfl ?_
    refine ve_local (by first | assumption | (simp only [lk_lset, lk, ofString_inj, String.reduceEq, if_true, if_false] <;> first | rfl | assumption)) ?_
    refine ⟨_, k, _, _, rfl, rfl, g4.nd, by rw [kN, List.length_map]; exact hlen, fun ep4 => ?_⟩
    have g5 := g4.setNd (a := .ref q) (e := ep4) hkn
    have hK5 := hK4.trans (Kp.upd (o' := .idict (ist (kN G' (V ++ ks.take j)) k (.ref q)) ep4) g4.nd rfl)
    have hl5 := upd_ne (o := .idict (ist (kN G' (V ++ ks.take j)) k (.ref q)) ep4) (ne_obj hl3 g4.nd (by intro q; cases q)) hl3
    have hd5 := upd_ne (o := .idict (ist (kN G' (V ++ ks.take j)) k (.ref q)) ep4) off'.nd hd3
    have hq5 := upd_ne (o := .idict (ist (kN G' (V ++ ks.take j)) k (.ref q)) ep4) offq.nd hqq
    refine vb_nil ?_
    refine vb_cons ?_
    refine vs_expr ?_ (hi := hi)
    refine ve_mcall ?_
    refine ve_sub ?_
    refine ve_attr ?_
    refine ve_local (by first | assumption | (simp only [lk_lset, lk, ofString_inj, String.reduceEq, if_true, if_false] <;> first | rfl | assumption)) ?_
    refine vg_own pc_Graph g5.x g5.d gns_node m__node rfl ?_
    refine ve_local (by first | assumption | (simp only [lk_lset, lk, ofString_inj, String.reduceEq, if_true, if_false] <;> first | rfl | assumption)) ?_
    refine vi_dict g5.nd (by rw [kN, ivl_map, if_pos (by simp)]) ?_
    dsimp only
    rw [if_pos rfl]
    refine vm_dict hq5 PySem.F.slot_dict_update PySem.F.type_dict_update ?_
    refine ⟨keep_builtin, ?_⟩
    refine vl_cons ?_
    refine ve_local (by first | assumption | (simp only [lk_lset, lk, ofString_inj, String.reduceEq, if_true, if_false] <;> first | rfl | assumption)) ?_
    refine vl_nil ?_
    refine vc_dupdate hq5 hd5 (fun z => nDq z.symm) (by decide) fun ep6 => ?_
    refine ⟨(by intro a q; cases q), ?_⟩
    refine vb_nil ?_
    have g6 := g5.updO (o' := .idict [] ep6) hq5 offq.nd offq.ad offq.row
    have hK6 := hK5.trans (Kp.upd (o' := .idict [] ep6) hq5 rfl)
    have hl6 := upd_ne (o := .idict [] ep6) (ne_obj hl5 hq5 (by intro q; cases q)) hl5
    have hd6 := upd_ne (o := .idict [] ep6) nDq hd5
    have eN : (fun v => if v = k then [] else if v ∈ ks.take j then [] else N v) = (fun v => if v ∈ ks.take (j + 1) then [] else N v) := by
      funext v
      rw [htk]
      by_cases q : v = k
      · subst q; simp
      · simp [q]
    rw [eN, List.append_assoc, ← htk] at g6
    refine ⟨_, ?_, hK6, (by first | assumption | (simp only [lk_lset, lk, ofString_inj, String.reduceEq, if_true, if_false] <;> first | rfl | assumption)), (by first | assumption | (simp only [lk_lset, lk, ofString_inj, String.reduceEq, if_true, if_false] <;> first | rfl | assumption)), hl6, ⟨_, hd6⟩, ?_, g6⟩
    · rfl
    · refine ⟨off'.nd, off'.ad, fun v hv => ?_⟩
      dsimp only
      by_cases q : v = k
      · rw [if_pos q]; exact nDr
      · rw [if_neg q]
        rw [htk, ← List.append_assoc] at hv
        exact off'.row v (by simpa [q] using hv)
  · obtain ⟨G', hx', hK, hs, ht, hl', ⟨e, hd'⟩, off', g'⟩ := hJ
    rw [List.length_map, List.take_length] at g'
    refine vb_nil ?_
    exact h _ G' hx' hK g'
end Mine
end
section
open PySem PySem.W PySem.Calls PyProof.Rows
set_option maxRecDepth 100000
set_option linter.unusedVariables false
set_option linter.unusedSimpArgs false
namespace Mine
variable {w : World} {σ : AS} {n : Nat}
noncomputable def add1 (N : Int → List Int) (a b : Int) : Int → List Int := fun p => if p = a then N p ++ [b] else N p
noncomputable def addE (N : Int → List Int) (e : Int × Int) : Int → List Int := add1 (add1 N e.1 e.2) e.2 e.1
noncomputable def addsE (N : Int → List Int) (E : List (Int × Int)) : Int → List Int := E.foldl addE N
structure EdgeOK (V : List Int) (N : Int → List Int) (e : Int × Int) : Prop where
  a : e.1 ∈ V
  b : e.2 ∈ V
  ne : e.1 ≠ e.2
  ab : e.2 ∉ N e.1
  ba : e.1 ∉ N e.2
  la : (N e.1).length ≤ 900
  lb : (N e.2).length ≤ 900
theorem Kp.prs {σ' : AS} (h : Kp σ σ') {us : List AV} {E : List (Int × Int)} (p : Prs σ us E) : Prs σ' us E := p.ext fun a q e _ => h _ _ e rfl
theorem law_add_edges {Q : AV → AS → Prop} {G : GA} {V : List Int} {N : Int → List Int} {dg : Option Addr} {a : Addr} {us : List AV} {E : List (Int × Int)} (g : GR σ G V V N dg) (hl : σ.f a = some (.list us)) (hp : Prs σ us E)
    (hE : ∀ j e, E[j]? = some e → EdgeOK V (addsE N (E.take j)) e) (hz : V.length ≤ 900)
    (h : ∀ σ' G', G'.x = G.x → Kp σ σ' → GR σ' G' V V (addsE N E) dg → Q .none σ') : VC (KK w) w (n + 2) (.ref 504) [.ref G.x, .ref a] Q σ := by
  refine vc_of_code (vcode_def (f := 504) rfl rfl (by kernel_rfl) (vbi_peekA (fun vs _ D => [("self", vs.headD .none), ("ebunch_to_add", (vs.drop 1).headD .none), ("attr", .ref D)]) (fun vs kvs ha hkw => ?_) (fun vs kvs D ha hkw hD => ⟨by rfl, fun L env hL he => ?_⟩)))
  · obtain ⟨v, u, rfl, hv, hu⟩ := two_of ha
    obtain rfl : kvs = [] := by simpa using hkw
    exact ⟨_, rfl, fun D => rfl⟩
  obtain ⟨v, u, rfl, hv, hu⟩ := two_of ha
  show VB _ _ _ _ _ _ (erB [((Str.ofString "self" : Str), v), ("ebunch_to_add", u), ("attr", .ref D)]) _
  simp only [erB_cons, erB_nil, hv, hu, show er (.ref D) = .ref D from rfl]
  have k_self := kd_of he (x := "self") (k := .local) rfl
  have k_ebunch_to_add := kd_of he (x := "ebunch_to_add") (k := .local) rfl
  have k_attr := kd_of he (x := "attr") (k := .local) rfl
  have k_e := kd_of he (x := "e") (k := .local) rfl
  have k_ne := kd_of he (x := "ne") (k := .local) rfl
  have k_u := kd_of he (x := "u") (k := .local) rfl
  have k_v := kd_of he (x := "v") (k := .local) rfl
  have k_dd := kd_of he (x := "dd") (k := .local) rfl
  have k_datadict := kd_of he (x := "datadict") (k := .local) rfl
  have k_len := kd_of he (x := "len") (k := .globalImplicit) rfl
  have hi : interactive env = false := by rw [he]; rfl
  clear he
  have off := g.off hD
  have g1 := g.ext (Ext.ins (o := .idict [] 0) hD)
  have hK0 : Kp σ (σ.ins D (.idict [] 0)) := Kp.of_ext (Ext.ins hD)
  have hd := ins_self (o := .idict [] 0) hD
  refine vb_cons ?_
  refine vs_loop ?_
  refine ve_local (by first | assumption | (simp only [lk_lset, lk, ofString_inj, String.reduceEq, if_true, if_false] <;> first | rfl | assumption)) ?_
  refine vit_list (hK0 _ _ hl rfl) ?_
  refine spec_list (fun i l σ' => ∃ G', G'.x = G.x ∧ Kp σ σ' ∧ lk l "self" = some (.ref G.x) ∧ lk l "attr" = some (.ref D) ∧ (∃ e, σ'.f D = some (.idict [] e)) ∧ Off D G' V ∧ GR σ' G' V V (addsE N (E.take i)) dg) (fun j l σ' hJ => hJ.choose_spec.2.1 _ _ hl rfl) ⟨G, rfl, hK0, (by first | assumption | (simp only [lk_lset, lk, ofString_inj, String.reduceEq, if_true, if_false] <;> first | rfl | assumption)), (by first | assumption | (simp only [lk_lset, lk, ofString_inj, String.reduceEq, if_true, if_false] <;> first | rfl | assumption)), ⟨_, hd⟩, off, by simpa [addsE] using g1⟩ (fun j v l' σ' hJ hj hv => ?_) (fun l' σ' hJ => ?_)
  · obtain ⟨G', hx', hK, hs, ht, ⟨e, hd'⟩, off', g'⟩ := hJ
    obtain ⟨t, p, hpj, rfl, htu⟩ := hp.get hv
    have ok := hE j p hpj
    have htk : E.take (j + 1) = E.take j ++ [p] := by rw [List.take_add_one, hpj]; rfl
    have hN : addsE N (E.take (j + 1)) = add1 (add1 (addsE N (E.take j)) p.1 p.2) p.2 p.1 := by rw [htk]; simp [addsE, addE]
    have htu' := hK _ _ htu rfl
    refine va_local ?_
    refine vb_cons ?_
    refine vs_assign ?_
    refine ve_call_b (x := "len") b_len bb_len kb_len ?_
    refine vl_cons ?_
    refine ve_local (by first | assumption | (simp only [lk_lset, lk, ofString_inj, String.reduceEq, if_true, if_false] <;> first | rfl | assumption)) ?_
    refine vl_nil ?_
    refine vc_len_tuple htu' (by simp) ?_
    refine va_local ?_
    refine vb_cons ?_
    refine vs_if ?_
    refine vt_cmp ?_
    refine ve_local (by first | assumption | (simp only [lk_lset, lk, ofString_inj, String.reduceEq, if_true, if_false] <;> first | rfl | assumption)) ?_
    refine ve_const_int ?_
    refine vo_int_eq ?_
    refine vtr_bool ?_
    rw [if_neg (by intro q; cases q)]
    refine vb_cons ?_
    refine vs_if ?_
    refine vt_cmp ?_
    refine ve_local (by first | assumption | (simp only [lk_lset, lk, ofString_inj, String.reduceEq, if_true, if_false] <;> first | rfl | assumption)) ?_
    refine ve_const_int ?_
    refine vo_int_eq ?_
    refine vtr_bool ?_
    rw [if_pos (by rfl)]
    refine vb_cons ?_
    refine vs_assign_tup ?_
    refine ve_local (by first | assumption | (simp only [lk_lset, lk, ofString_inj, String.reduceEq, if_true, if_false] <;> first | rfl | assumption)) ?_
    refine va_tup2 htu' ?_
    refine va_local ?_
    refine va_local ?_
    refine vb_cons ?_
    refine vs_assign ?_
    refine ve_dict0 fun q hq => ?_
    have offq := g'.off hq
    have g2 := g'.ext (Ext.ins (o := .idict [] 0) hq)
    have hK2 := hK.trans (Kp.of_ext (Ext.ins (o := .idict [] 0) hq))
    have nDq := ne_fresh hq hd'
    have hd' := ins_old (o := (.idict [] 0)) hq hd'
    have hqq := ins_self (o := .idict [] 0) hq
    refine va_local ?_
    refine vb_nil ?_
    refine vb_nil ?_
    refine vb_cons ?_
    refine vs_if ?_
    refine vt_cmp ?_
    refine ve_local (by first | assumption | (simp only [lk_lset, lk, ofString_inj, String.reduceEq, if_true, if_false] <;> first | rfl | assumption)) ?_
    refine ve_attr ?_
    refine ve_local (by first | assumption | (simp only [lk_lset, lk, ofString_inj, String.reduceEq, if_true, if_false] <;> first | rfl | assumption)) ?_
    rw [← hx'] at hs ⊢
    refine vg_own pc_Graph g2.x g2.d gns_node m__node rfl ?_
    refine vo_notin_dict g2.nd ?_
    rw [kN, ivl_map, if_pos ok.a]
    refine vtr_bool ?_
    rw [if_neg (by intro q; cases q)]
    refine vb_nil ?_
    refine vb_cons ?_
    refine vs_if ?_
    refine vt_cmp ?_
    refine ve_local (by first | assumption | (simp only [lk_lset, lk, ofString_inj, String.reduceEq, if_true, if_false] <;> first | rfl | assumption)) ?_
    refine ve_attr ?_
    refine ve_local (by first | assumption | (simp only [lk_lset, lk, ofString_inj, String.reduceEq, if_true, if_false] <;> first | rfl | assumption)) ?_
    refine vg_own pc_Graph g2.x g2.d gns_node m__node rfl ?_
    refine vo_notin_dict g2.nd ?_
    rw [kN, ivl_map, if_pos ok.b]
    refine vtr_bool ?_
    rw [if_neg (by intro q; cases q)]
    refine vb_nil ?_
    refine vb_cons ?_
    refine vs_assign ?_
    refine ve_mcall ?_
    refine ve_sub ?_
    refine ve_attr ?_
    refine ve_local (by first | assumption | (simp only [lk_lset, lk, ofString_inj, String.reduceEq, if_true, if_false] <;> first | rfl | assumption)) ?_
    refine vg_own pc_Graph g2.x g2.d gns_adj m__adj rfl ?_
    refine ve_local (by first | assumption | (simp only [lk_lset, lk, ofString_inj, String.reduceEq, if_true, if_false] <;> first | rfl | assumption)) ?_
    refine vi_dict g2.ad (by rw [kA, ivl_map, if_pos ok.a]) ?_
    refine vm_dict (g2.row _ ok.a) PySem.F.slot_dict_get PySem.F.type_dict_get ?_
    refine ⟨keep_builtin, ?_⟩
    refine vl_cons ?_
    refine ve_local (by first | assumption | (simp only [lk_lset, lk, ofString_inj, String.reduceEq, if_true, if_false] <;> first | rfl | assumption)) ?_
    refine vl_cons ?_
    refine ve_mcall ?_
    refine ve_local (by first | assumption | (simp only [lk_lset, lk, ofString_inj, String.reduceEq, if_true, if_false] <;> first | rfl | assumption)) ?_
    refine vm_fn pc_Graph g2.x g2.d (gns_none (by decide) (by decide) (by decide) (by decide)) m_edge_attr_dict_factory mt_edge_attr_dict_factory ⟨keep_ref mk_edge_attr_dict_factory, vl_nil (fac_378 fun r hr => ?_)⟩
    have offr := g2.off hr
    have g3 := g2.ext (Ext.ins (o := .idict [] 0) hr)
    have hK3 := hK2.trans (Kp.of_ext (Ext.ins (o := .idict [] 0) hr))
    have nDr := ne_fresh hr hd'
    have nqr := ne_fresh hr hqq
    have hd' := ins_old (o := (.idict [] 0)) hr hd'
    have hqq := ins_old (o := (.idict [] 0)) hr hqq
    have hrr := ins_self (o := .idict [] 0) hr
    refine vl_nil ?_
    refine vc_dget (g3.row _ ok.a) ?_
    rw [kR, ivl_map, if_neg ok.ab]
    refine va_local ?_
    refine vb_cons ?_
    refine vs_expr ?_ (hi := hi)
    refine ve_mcall ?_
    refine ve_local (by first | assumption | (simp only [lk_lset, lk, ofString_inj, String.reduceEq, if_true, if_false] <;> first | rfl | assumption)) ?_
    refine vm_dict hrr PySem.F.slot_dict_update PySem.F.type_dict_update ?_
    refine ⟨keep_builtin, ?_⟩
    refine vl_cons ?_
    refine ve_local (by first | assumption | (simp only [lk_lset, lk, ofString_inj, String.reduceEq, if_true, if_false] <;> first | rfl | assumption)) ?_
    refine vl_nil ?_
    refine vc_dupdate hrr hd' (fun z => nDr z.symm) (by decide) fun ep6 => ?_
    refine ⟨(by intro a q; cases q), ?_⟩
    have g4 := g3.updO (o' := .idict [] ep6) hrr offr.nd offr.ad offr.row
    have hK4 := hK3.trans (Kp.upd (o' := .idict [] ep6) hrr rfl)
    have hd' := upd_ne (o := .idict [] ep6) nDr hd'
    have hqq := upd_ne (o := .idict [] ep6) nqr hqq
    have hrr := upd_self (o' := .idict [] ep6) hrr
    refine vb_cons ?_
    refine vs_expr ?_ (hi := hi)
    refine ve_mcall ?_
    refine ve_local (by first | assumption | (simp only [lk_lset, lk, ofString_inj, String.reduceEq, if_true, if_false] <;> first | rfl | assumption)) ?_
    refine vm_dict hrr PySem.F.slot_dict_update PySem.F.type_dict_update ?_
    refine ⟨keep_builtin, ?_⟩
    refine vl_cons ?_
    refine ve_local (by first | assumption | (simp only [lk_lset, lk, ofString_inj, String.reduceEq, if_true, if_false] <;> first | rfl | assumption)) ?_
    refine vl_nil ?_
    refine vc_dupdate hrr hqq (fun z => nqr z.symm) (by decide) fun ep7 => ?_
    refine ⟨(by intro a q; cases q), ?_⟩
    have g5 := g4.updO (o' := .idict [] ep7) hrr offr.nd offr.ad offr.row
    have hK5 := hK4.trans (Kp.upd (o' := .idict [] ep7) hrr rfl)
    have hd' := upd_ne (o := .idict [] ep7) nDr hd'
    refine vb_cons ?_
    refine vs_assign ?_
    refine ve_local (by first | assumption | (simp only [lk_lset, lk, ofString_inj, String.reduceEq, if_true, if_false] <;> first | rfl | assumption)) ?_
    refine va_sub_dict ?_
    refine ve_sub ?_
    refine ve_attr ?_
    refine ve_local (by first | assumption | (simp only [lk_lset, lk, ofString_inj, String.reduceEq, if_true, if_false] <;> first | rfl | assumption)) ?_
    refine vg_own pc_Graph g5.x g5.d gns_adj m__adj rfl ?_
    refine ve_local (by first | assumption | (simp only [lk_lset, lk, ofString_inj, String.reduceEq, if_true, if_false] <;> first | rfl | assumption)) ?_
    refine vi_dict g5.ad (by rw [kA, ivl_map, if_pos ok.a]) ?_
    refine ve_local (by first | assumption | (simp only [lk_lset, lk, ofString_inj, String.reduceEq, if_true, if_false] <;> first | rfl | assumption)) ?_
    refine ⟨_, p.2, _, _, rfl, rfl, g5.row _ ok.a, by rw [kR, List.length_map]; exact Nat.le_trans ok.la (by decide), fun ep8 => ?_⟩
    have g6 := g5.setRow (a := .ref r) (e := ep8) ok.a ok.ab
    have hK6 := hK5.trans (Kp.upd (o' := .idict (ist (kR G' (addsE N (E.take j)) p.1) p.2 (.ref r)) ep8) (g5.row _ ok.a) rfl)
    have hd' := upd_ne (o := .idict (ist (kR G' (addsE N (E.take j)) p.1) p.2 (.ref r)) ep8) (off'.row _ ok.a) hd'
    refine vb_cons ?_
    refine vs_assign ?_
    refine ve_local (by first | assumption | (simp only [lk_lset, lk, ofString_inj, String.reduceEq, if_true, if_false] <;> first | rfl | assumption)) ?_
    refine va_sub_dict ?_
    refine ve_sub ?_
    refine ve_attr ?_
    refine ve_local (by first | assumption | (simp only [lk_lset, lk, ofString_inj, String.reduceEq, if_true, if_false] <;> first | rfl | assumption)) ?_
    refine vg_own pc_Graph g6.x g6.d gns_adj m__adj rfl ?_
    refine ve_local (by first | assumption | (simp only [lk_lset, lk, ofString_inj, String.reduceEq, if_true, if_false] <;> first | rfl | assumption)) ?_
    refine vi_dict g6.ad (by rw [kA, ivl_map, if_pos ok.b]) ?_
    refine ve_local (by first | assumption | (simp only [lk_lset, lk, ofString_inj, String.reduceEq, if_true, if_false] <;> first | rfl | assumption)) ?_
    have ba' : p.1 ∉ (if p.2 = p.1 then addsE N (E.take j) p.2 ++ [p.2] else addsE N (E.take j) p.2) := by rw [if_neg (Ne.symm ok.ne)]; exact ok.ba
    have lb' : (if p.2 = p.1 then addsE N (E.take j) p.2 ++ [p.2] else addsE N (E.take j) p.2).length ≤ 1000 := by rw [if_neg (Ne.symm ok.ne)]; exact Nat.le_trans ok.lb (by decide)
    refine ⟨_, p.1, _, _, rfl, rfl, g6.row _ ok.b, by rw [kR, List.length_map]; exact lb', fun ep9 => ?_⟩
    have g7 := g6.setRow (a := .ref r) (e := ep9) ok.b ba'
    have hK7 := fun o' => hK6.trans (Kp.upd (o' := o') (g6.row _ ok.b) rfl)
    have hd' := fun o => upd_ne (o := o) (off'.row _ ok.b) hd'
    refine vb_nil ?_
    refine ⟨_, ?_, hK7 _, (by first | assumption | (simp only [lk_lset, lk, ofString_inj, String.reduceEq, if_true, if_false] <;> first | rfl | assumption)), (by first | assumption | (simp only [lk_lset, lk, ofString_inj, String.reduceEq, if_true, if_false] <;> first | rfl | assumption)), ⟨_, hd' _⟩, ?_, by rw [hN]; exact g7⟩
    · rfl
    · exact ⟨off'.nd, off'.ad, off'.row⟩
  · obtain ⟨G', hx', hK, hs, ht, ⟨e, hd'⟩, off', g'⟩ := hJ
    rw [hp.length, List.take_length] at g'
    refine vb_nil ?_
    exact h _ G' hx' hK g'
end Mine
end
section
open PySem PySem.W PySem.Calls PyProof.Rows
set_option maxRecDepth 100000
set_option linter.unusedVariables false
set_option linter.unusedSimpArgs false
namespace Mine
variable {w : World} {σ : AS} {n : Nat}
section
variable {G : GA} {U V : List Int} {N : Int → List Int} {dg : Option Addr} {Q : AV → AS → Prop}
theorem fn_len (g : GR σ G U V N dg) (hz : U.length ≤ 1000) (h : Q (.int U.length) σ) : VC (KK w) w (n + 2) (.ref 424) [.ref G.x] Q σ := by
  refine vc_def (f := 424) rfl rfl (by kernel_rfl) (vbi_1 (x := "self") ⟨by rfl, fun L env hL he => ?_⟩)
  have k_self := kd_of he (x := "self") (k := .local) rfl
  have k_len := kd_of he (x := "len") (k := .globalImplicit) rfl
  clear he
  refine vb_cons ?_
  refine vs_return ?_
  refine ve_call_b (x := "len") b_len bb_len kb_len ?_
  refine vl_cons ?_
  refine ve_attr ?_
  refine ve_local (by first | assumption | (simp only [lk_lset, lk, ofString_inj, String.reduceEq, if_true, if_false] <;> first | rfl | assumption)) ?_
  refine vg_own pc_Graph g.x g.d gns_node m__node rfl ?_
  refine vl_nil ?_
  refine vc_len_dict g.nd (by rw [kN, List.length_map]; exact hz) ?_
  rw [kN, List.length_map]
  exact h
theorem fn_iter (g : GR σ G U V N dg) (h : ∀ I, Fresh σ I → Q (.ref I) (σ.ins I (.kit G.nd 0 U.length G.e1))) : VC (KK w) w (n + 2) (.ref 410) [.ref G.x] Q σ := by
  refine vc_def (f := 410) rfl rfl (by kernel_rfl) (vbi_1 (x := "self") ⟨by rfl, fun L env hL he => ?_⟩)
  have k_self := kd_of he (x := "self") (k := .local) rfl
  have k_iter := kd_of he (x := "iter") (k := .globalImplicit) rfl
  clear he
  refine vb_cons ?_
  refine vs_return ?_
  refine ve_call_b (x := "iter") b_iter bb_iter kb_iter ?_
  refine vl_cons ?_
  refine ve_attr ?_
  refine ve_local (by first | assumption | (simp only [lk_lset, lk, ofString_inj, String.reduceEq, if_true, if_false] <;> first | rfl | assumption)) ?_
  refine vg_own pc_Graph g.x g.d gns_node m__node rfl ?_
  refine vl_nil ?_
  refine vc_iter_dict g.nd fun I hI => ?_
  rw [kN, List.length_map]
  exact h I hI
theorem fn_is_directed {a : AV} (h : Q (.bool false) σ) : VC (KK w) w (n + 1) (.ref 595) [a] Q σ := by
  refine vc_def (f := 595) rfl rfl (by kernel_rfl) (vbi_1 (x := "self") ⟨by rfl, fun L env hL he => ?_⟩)
  clear he
  refine vb_cons ?_
  refine vs_return ?_
  exact ve_const_bool h
theorem len_graph (g : GR σ G U V N dg) (hz : U.length ≤ 1000) (h : Q (.int U.length) σ) : VC (KK w) w (n + 3) (.builtin "len") [.ref G.x] Q σ :=
  vc_len_own g.x g.d m___len__ mt___len__ (fn_len g hz ⟨_, rfl, Int.natCast_nonneg _, by omega, h⟩)
theorem vit_graph {Q : (Nat → AS → Option AV) → (AS → Prop) → AS → Prop} (g : GR σ G U V N dg) (h : ∀ σ', σ'.f = σ.f → Q (dictNxt G.nd) (fun σ => ∃ kvs', σ.f G.nd = some (.idict kvs' G.e1) ∧ kvs'.length = U.length) σ') : VIt (KK w) w (n + 2) (.ref G.x) Q σ := by
  refine vit_own (kvs := kN G U) (ep := G.e1) (dd := G.nd) g.x g.d m___iter__ mt___iter__ (fn_iter g fun I hI => ⟨I, rfl, ?_, ?_⟩)
  · rw [kN, List.length_map]; exact ins_at
  · rw [kN, List.length_map]
    refine h _ ?_
    funext b
    rw [AS.del_f, AS.ins_f]
    by_cases q : b = I
    · rw [if_pos q, q, hI.none]
    · rw [if_neg q, if_neg q]
end
end Mine
end
section
open PySem PySem.W PySem.Calls PyProof.Rows
set_option maxRecDepth 100000
set_option linter.unusedVariables false
set_option linter.unusedSimpArgs false
namespace Mine
variable {w : World} {σ : AS} {n : Nat}
section
variable {G : GA} {V : List Int} {N : Int → List Int} {dg : Option Addr} {Q : AV → AS → Prop}
theorem fn_remove_edge (g : GR σ G V V N dg) {p q : Int} (hp : p ∈ V) (hq : q ∈ V) (hpq : p ≠ q) (h1 : q ∈ N p) (h2 : p ∈ N q) (hz : V.length ≤ 900) (l1 : (N p).length ≤ 900) (l2 : (N q).length ≤ 900)
    (h : ∀ σ' G', G'.x = G.x → Kp σ σ' → GR σ' G' V V (fun v => if v = q then (if v = p then (N v).filter fun z => decide (z ≠ q) else N v).filter fun z => decide (z ≠ p) else if v = p then (N v).filter fun z => decide (z ≠ q) else N v) dg → Q .none σ') : VC (KK w) w (n + 2) (.ref 511) [.ref G.x, .int p, .int q] Q σ := by
  refine vc_def (f := 511) rfl rfl (by kernel_rfl) (vbi_3 (x := "self") (y := "u") (z := "v") ⟨by rfl, fun L env hL he => ?_⟩)
  have k_self := kd_of he (x := "self") (k := .local) rfl
  have k_u := kd_of he (x := "u") (k := .local) rfl
  have k_v := kd_of he (x := "v") (k := .local) rfl
  clear he
  refine vb_cons ?_
  refine vs_try ?_
  refine vb_cons ?_
  refine vs_del_dict ?_
  refine ve_sub ?_
  refine ve_attr ?_
  refine ve_local (by first | assumption | (simp only [lk_lset, lk, ofString_inj, String.reduceEq, if_true, if_false] <;> first | rfl | assumption)) ?_
  refine vg_own pc_Graph g.x g.d gns_adj m__adj rfl ?_
  refine ve_local (by first | assumption | (simp only [lk_lset, lk, ofString_inj, String.reduceEq, if_true, if_false] <;> first | rfl | assumption)) ?_
  refine vi_dict g.ad (by rw [kA, ivl_map, if_pos hp]) ?_
  refine ve_local (by first | assumption | (simp only [lk_lset, lk, ofString_inj, String.reduceEq, if_true, if_false] <;> first | rfl | assumption)) ?_
  refine ⟨_, q, _, _, rfl, rfl, g.row _ hp, by rw [kR, List.length_map]; exact Nat.le_trans l1 (by decide), by rw [kR, ivl_map, if_pos h1]; rfl, fun ep1 => ?_⟩
  have g1 := g.delRow (u := q) (e := ep1) hp
  have hK := fun o' => Kp.upd (o' := o') (g.row _ hp) rfl
  refine vb_cons ?_
  refine vs_if ?_
  refine vt_cmp ?_
  refine ve_local (by first | assumption | (simp only [lk_lset, lk, ofString_inj, String.reduceEq, if_true, if_false] <;> first | rfl | assumption)) ?_
  refine ve_local (by first | assumption | (simp only [lk_lset, lk, ofString_inj, String.reduceEq, if_true, if_false] <;> first | rfl | assumption)) ?_
  refine vo_int_ne ?_
  refine vtr_bool ?_
  rw [if_pos (by simpa using hpq)]
  refine vb_cons ?_
  refine vs_del_dict ?_
  refine ve_sub ?_
  refine ve_attr ?_
  refine ve_local (by first | assumption | (simp only [lk_lset, lk, ofString_inj, String.reduceEq, if_true, if_false] <;> first | rfl | assumption)) ?_
  refine vg_own pc_Graph g1.x g1.d gns_adj m__adj rfl ?_
  refine ve_local (by first | assumption | (simp only [lk_lset, lk, ofString_inj, String.reduceEq, if_true, if_false] <;> first | rfl | assumption)) ?_
  refine vi_dict g1.ad (by rw [kA, ivl_map, if_pos hq]) ?_
  refine ve_local (by first | assumption | (simp only [lk_lset, lk, ofString_inj, String.reduceEq, if_true, if_false] <;> first | rfl | assumption)) ?_
  have hn : (if q = p then (N q).filter fun z => decide (z ≠ q) else N q) = N q := if_neg (Ne.symm hpq)
  refine ⟨_, p, _, _, rfl, rfl, g1.row _ hq, by rw [kR, List.length_map, hn]; exact Nat.le_trans l2 (by decide), by rw [kR, hn, ivl_map, if_pos h2]; rfl, fun ep2 => ?_⟩
  have g2 := g1.delRow (u := p) (e := ep2) hq
  have hK2 := fun o' => (hK _).trans (Kp.upd (o' := o') (g1.row _ hq) rfl)
  refine vb_nil ?_
  refine vb_nil ?_
  refine vb_nil ?_
  exact h _ _ (by rfl) (hK2 _) g2
end
end Mine
end
section
open PySem PySem.W PySem.Calls PyProof.Rows
set_option maxRecDepth 100000
set_option linter.unusedVariables false
set_option linter.unusedSimpArgs false
namespace Mine
variable {w : World} {σ : AS} {n : Nat}
theorem vs_assign2 {K : Frag} {env : Env} {l : Loc} {t₁ t₂ value : Expr} {pos : Pos} {Q : AF → Loc → AS → Prop} (h : VE K w n env l value (fun v σ1 => VA K w n env t₁ v (fun l2 σ2 => VA K w n env t₂ v (fun l3 σ3 => Q .next l3 σ3) l2 σ2) l σ1) σ)
    (he : (assignEach [t₁, t₂] env).map (·.2) = [assign t₁ env, assign t₂ env] := by rfl)
    (hw : swappedStores [t₁, t₂] value env = pure none := by rfl) : VS K w n env (.Assign [t₁, t₂] value pos) Q l σ := fun A B s hr X he' R k E hk =>
  wpAny_Assign_two (h A B s hr X he' R _ _ fun v σ1 s1 h1 R1 => h1 v rfl A B s1 hr X he' R1 _ _ fun _ l2 σ2 s2 h2 R2 => h2 v rfl A B s2 hr X he' R2 _ _ fun _ l3 σ3 s3 h3 R3 => hk .next _ _ _ h3 R3) he hw
section
variable {G : GA} {V : List Int} {N : Int → List Int} {dg : Option Addr} {Q : AV → AS → Prop}
theorem law_add_node (g : GR σ G V V N dg) {k : Int} (hkn : k ∉ V) (hz : V.length ≤ 900)
    (h : ∀ σ' G', G'.x = G.x → Kp σ σ' → GR σ' G' (V ++ [k]) (V ++ [k]) (fun v => if v = k then [] else N v) dg → Q .none σ') : VC (KK w) w (n + 2) (.ref 438) [.ref G.x, .int k] Q σ := by
  refine vc_of_code (vcode_def (f := 438) rfl rfl (by kernel_rfl) (vbi_peekA (fun vs _ D => [("self", vs.headD .none), ("node_for_adding", (vs.drop 1).headD .none), ("attr", .ref D)]) (fun vs kvs ha hkw => ?_) (fun vs kvs D ha hkw hD => ⟨by rfl, fun L env hL he => ?_⟩)))
  · obtain ⟨v, u, rfl, hv, hu⟩ := two_of ha
    obtain rfl : kvs = [] := by simpa using hkw
    exact ⟨_, rfl, fun D => rfl⟩
  obtain ⟨v, u, rfl, hv, hu⟩ := two_of ha
  show VB _ _ _ _ _ _ (erB [((Str.ofString "self" : Str), v), ("node_for_adding", u), ("attr", .ref D)]) _
  simp only [erB_cons, erB_nil, hv, hu, show er (.ref D) = .ref D from rfl]
  have k_self := kd_of he (x := "self") (k := .local) rfl
  have k_node_for_adding := kd_of he (x := "node_for_adding") (k := .local) rfl
  have k_attr := kd_of he (x := "attr") (k := .local) rfl
  have k_attr_dict := kd_of he (x := "attr_dict") (k := .local) rfl
  have hi : interactive env = false := by rw [he]; rfl
  clear he
  have off' := g.off hD
  have g' := g.ext (Ext.ins (o := .idict [] 0) hD)
  have hK : Kp σ (σ.ins D (.idict [] 0)) := Kp.of_ext (Ext.ins hD)
  have hd' := ins_self (o := .idict [] 0) hD
  refine vb_cons ?_
  refine vs_if ?_
  refine vt_cmp ?_
  refine ve_local (by first | assumption | (simp only [lk_lset, lk, ofString_inj, String.reduceEq, if_true, if_false] <;> first | rfl | assumption)) ?_
  refine ve_attr ?_
  refine ve_local (by first | assumption | (simp only [lk_lset, lk, ofString_inj, String.reduceEq, if_true, if_false] <;> first | rfl | assumption)) ?_
  refine vg_own pc_Graph g'.x g'.d gns_node m__node rfl ?_
  refine vo_notin_dict g'.nd ?_
  rw [kN, ivl_map, if_neg hkn]
  refine vtr_bool ?_
  rw [if_pos (by rfl)]
  refine vb_cons ?_
  refine vs_if ?_
  refine vt_cmp ?_
  refine ve_local (by first | assumption | (simp only [lk_lset, lk, ofString_inj, String.reduceEq, if_true, if_false] <;> first | rfl | assumption)) ?_
  refine ve_const_none ?_
  refine vo_is_none ?_
  refine vtr_bool ?_
  rw [if_neg (by intro q; cases q)]
  refine vb_nil ?_
  refine vb_cons ?_
  refine vs_assign ?_
  refine ve_mcall ?_
  refine ve_local (by first | assumption | (simp only [lk_lset, lk, ofString_inj, String.reduceEq, if_true, if_false] <;> first | rfl | assumption)) ?_
  refine vm_fn pc_Graph g'.x g'.d (gns_none (by decide) (by decide) (by decide) (by decide)) m_adjlist_inner_dict_factory mt_adjlist_inner_dict_factory ⟨keep_ref mk_adjlist_inner_dict_factory, vl_nil (fac_371 fun r hr => ?_)⟩
  have offr := g'.off hr
  have g2 := g'.ext (Ext.ins (o := .idict [] 0) hr)
  have hK2 := hK.trans (Kp.of_ext (Ext.ins (o := .idict [] 0) hr))
  have nDr := ne_fresh hr hd'
  have hd' := ins_old (o := (.idict [] 0)) hr hd'
  have hrr := ins_self (o := .idict [] 0) hr
  refine va_sub_dict ?_
  refine ve_attr ?_
  refine ve_local (by first | assumption | (simp only [lk_lset, lk, ofString_inj, String.reduceEq, if_true, if_false] <;> first | rfl | assumption)) ?_
  refine vg_own pc_Graph g2.x g2.d gns_adj m__adj rfl ?_
  refine ve_local (by first | assumption | (simp only [lk_lset, lk, ofString_inj, String.reduceEq, if_true, if_false] <;> first | rfl | assumption)) ?_
  refine ⟨_, k, _, _, rfl, rfl, g2.ad, by rw [kA, List.length_map]; exact Nat.le_trans hz (by decide), fun ep3 => ?_⟩
  have g3 := g2.setAd (e := ep3) hkn hrr offr.nd offr.ad offr.row
  have hK3 := hK2.trans (Kp.upd (o' := .idict (ist (kA G V) k (.ref r)) ep3) g2.ad rfl)
  have hd3 := upd_ne (o := .idict (ist (kA G V) k (.ref r)) ep3) off'.ad hd'
  refine vb_cons ?_
  refine vs_assign2 ?_
  refine ve_mcall ?_
  refine ve_local (by first | assumption | (simp only [lk_lset, lk, ofString_inj, String.reduceEq, if_true, if_false] <;> first | rfl | assumption)) ?_
  refine vm_fn pc_Graph g3.x g3.d (gns_none (by decide) (by decide) (by decide) (by decide)) m_node_attr_dict_factory mt_node_attr_dict_factory ⟨keep_ref mk_node_attr_dict_factory, vl_nil (fac_357 fun q hq => ?_)⟩
  have offq := g3.off hq
  have g4 := g3.ext (Ext.ins (o := .idict [] 0) hq)
  have hK4 := hK3.trans (Kp.of_ext (Ext.ins (o := .idict [] 0) hq))
  have nDq := ne_fresh hq hd3
  have hd3 := ins_old (o := (.idict [] 0)) hq hd3
  have hqq := ins_self (o := .idict [] 0) hq
  refine va_local ?_
  refine va_sub_dict ?_
  refine ve_attr ?_
  refine ve_local (by first | assumption | (simp only [lk_lset, lk, ofString_inj, String.reduceEq, if_true, if_false] <;> first | rfl | assumption)) ?_
  refine vg_own pc_Graph g4.x g4.d gns_node m__node rfl ?_
  refine ve_local (by first | assumption | (simp only [lk_lset, lk, ofString_inj, String.reduceEq, if_true, if_false] <;> first | rfl | assumption)) ?_
  refine ⟨_, k, _, _, rfl, rfl, g4.nd, by rw [kN, List.length_map]; exact Nat.le_trans hz (by decide), fun ep4 => ?_⟩
  have g5 := g4.setNd (a := .ref q) (e := ep4) hkn
  have hK5 := hK4.trans (Kp.upd (o' := .idict (ist (kN G V) k (.ref q)) ep4) g4.nd rfl)
  have hd5 := upd_ne (o := .idict (ist (kN G V) k (.ref q)) ep4) off'.nd hd3
  have hq5 := upd_ne (o := .idict (ist (kN G V) k (.ref q)) ep4) offq.nd hqq
  refine vb_cons ?_
  refine vs_expr ?_ (hi := hi)
  refine ve_mcall ?_
  refine ve_local (by first | assumption | (simp only [lk_lset, lk, ofString_inj, String.reduceEq, if_true, if_false] <;> first | rfl | assumption)) ?_
  refine vm_dict hq5 PySem.F.slot_dict_update PySem.F.type_dict_update ?_
  refine ⟨keep_builtin, ?_⟩
  refine vl_cons ?_
  refine ve_local (by first | assumption | (simp only [lk_lset, lk, ofString_inj, String.reduceEq, if_true, if_false] <;> first | rfl | assumption)) ?_
  refine vl_nil ?_
  refine vc_dupdate hq5 hd5 (fun z => nDq z.symm) (by decide) fun ep6 => ?_
  refine ⟨(by intro a q; cases q), ?_⟩
  refine vb_nil ?_
  refine vb_nil ?_
  have g6 := g5.updO (o' := .idict [] ep6) hq5 offq.nd offq.ad offq.row
  have hK6 := hK5.trans (Kp.upd (o' := .idict [] ep6) hq5 rfl)
  exact h _ _ (by rfl) hK6 g6
end
end Mine
end
section
open PySem PySem.W PySem.Calls PyProof.Rows
set_option maxRecDepth 100000
set_option linter.unusedVariables false
set_option linter.unusedSimpArgs false
namespace Mine
variable {w : World} {σ : AS} {n : Nat}
section
variable {G : GA} {V : List Int} {N : Int → List Int} {dg : Option Addr} {Q : AV → AS → Prop}
theorem law_add_edge (g : GR σ G V V N dg) {p q : Int} (ok : EdgeOK V N (p, q)) (hz : V.length ≤ 900)
    (h : ∀ σ' G', G'.x = G.x → Kp σ σ' → GR σ' G' V V (addE N (p, q)) dg → Q .none σ') : VC (KK w) w (n + 2) (.ref 497) [.ref G.x, .int p, .int q] Q σ := by
  refine vc_of_code (vcode_def (f := 497) rfl rfl (by kernel_rfl) (vbi_peekA (fun vs _ D => [("self", vs.headD .none), ("u_of_edge", (vs.drop 1).headD .none), ("v_of_edge", (vs.drop 2).headD .none), ("attr", .ref D)]) (fun vs kvs ha hkw => ?_) (fun vs kvs D ha hkw hD => ⟨by rfl, fun L env hL he => ?_⟩)))
  · obtain ⟨v, u, z, rfl, hv, hu, hz⟩ := three_of ha
    obtain rfl : kvs = [] := by simpa using hkw
    exact ⟨_, rfl, fun D => rfl⟩
  obtain ⟨v, u, z, rfl, hv, hu, hz⟩ := three_of ha
  show VB _ _ _ _ _ _ (erB [((Str.ofString "self" : Str), v), ("u_of_edge", u), ("v_of_edge", z), ("attr", .ref D)]) _
  simp only [erB_cons, erB_nil, hv, hu, hz, show er (.ref D) = .ref D from rfl]
  have k_self := kd_of he (x := "self") (k := .local) rfl
  have k_u_of_edge := kd_of he (x := "u_of_edge") (k := .local) rfl
  have k_v_of_edge := kd_of he (x := "v_of_edge") (k := .local) rfl
  have k_attr := kd_of he (x := "attr") (k := .local) rfl
  have k_u := kd_of he (x := "u") (k := .local) rfl
  have k_v := kd_of he (x := "v") (k := .local) rfl
  have k_datadict := kd_of he (x := "datadict") (k := .local) rfl
  have hi : interactive env = false := by rw [he]; rfl
  have hE : EnvOK env := by rw [he]; exact ⟨rfl, rfl, rfl⟩
  clear he
  refine vb_cons ?_
  refine vs_assign_sw2 (sw_two hE k_u k_v (by decide) rfl rfl rfl rfl) k_u k_v ?_
  refine ve_tuple ?_
  refine vl_cons ?_
  refine ve_local (by first | assumption | (simp only [lk_lset, lk, ofString_inj, String.reduceEq, if_true, if_false] <;> first | rfl | assumption)) ?_
  refine vl_cons ?_
  refine ve_local (by first | assumption | (simp only [lk_lset, lk, ofString_inj, String.reduceEq, if_true, if_false] <;> first | rfl | assumption)) ?_
  refine vl_nil ?_
  refine ⟨by simp, fun t ht => ?_⟩
  refine ⟨t, _, _, rfl, ins_self ht, ?_⟩
  have off' := (g.ext (Ext.ins (o := .idict [] 0) hD)).off ht
  have offD := g.off hD
  have g2 := (g.ext (Ext.ins (o := .idict [] 0) hD)).ext (Ext.ins (o := .tup [.int p, .int q]) ht)
  have hK2 : Kp σ _ := (Kp.of_ext (Ext.ins (o := .idict [] 0) hD)).trans (Kp.of_ext (Ext.ins (o := .tup [.int p, .int q]) ht))
  have hd' := ins_old (o := .tup [.int p, .int q]) ht (ins_self (o := .idict [] 0) hD)
  have off' := offD
  refine vb_cons ?_
  refine vs_if ?_
  refine vt_cmp ?_
  refine ve_local (by first | assumption | (simp only [lk_lset, lk, ofString_inj, String.reduceEq, if_true, if_false] <;> first | rfl | assumption)) ?_
  refine ve_attr ?_
  refine ve_local (by first | assumption | (simp only [lk_lset, lk, ofString_inj, String.reduceEq, if_true, if_false] <;> first | rfl | assumption)) ?_
  refine vg_own pc_Graph g2.x g2.d gns_node m__node rfl ?_
  refine vo_notin_dict g2.nd ?_
  rw [kN, ivl_map, if_pos ok.a]
  refine vtr_bool ?_
  rw [if_neg (by intro q; cases q)]
  refine vb_nil ?_
  refine vb_cons ?_
  refine vs_if ?_
  refine vt_cmp ?_
  refine ve_local (by first | assumption | (simp only [lk_lset, lk, ofString_inj, String.reduceEq, if_true, if_false] <;> first | rfl | assumption)) ?_
  refine ve_attr ?_
  refine ve_local (by first | assumption | (simp only [lk_lset, lk, ofString_inj, String.reduceEq, if_true, if_false] <;> first | rfl | assumption)) ?_
  refine vg_own pc_Graph g2.x g2.d gns_node m__node rfl ?_
  refine vo_notin_dict g2.nd ?_
  rw [kN, ivl_map, if_pos ok.b]
  refine vtr_bool ?_
  rw [if_neg (by intro q; cases q)]
  refine vb_nil ?_
  refine vb_cons ?_
  refine vs_assign ?_
  refine ve_mcall ?_
  refine ve_sub ?_
  refine ve_attr ?_
  refine ve_local (by first | assumption | (simp only [lk_lset, lk, ofString_inj, String.reduceEq, if_true, if_false] <;> first | rfl | assumption)) ?_
  refine vg_own pc_Graph g2.x g2.d gns_adj m__adj rfl ?_
  refine ve_local (by first | assumption | (simp only [lk_lset, lk, ofString_inj, String.reduceEq, if_true, if_false] <;> first | rfl | assumption)) ?_
  refine vi_dict g2.ad (by rw [kA, ivl_map, if_pos ok.a]) ?_
  refine vm_dict (g2.row _ ok.a) PySem.F.slot_dict_get PySem.F.type_dict_get ?_
  refine ⟨keep_builtin, ?_⟩
  refine vl_cons ?_
  refine ve_local (by first | assumption | (simp only [lk_lset, lk, ofString_inj, String.reduceEq, if_true, if_false] <;> first | rfl | assumption)) ?_
  refine vl_cons ?_
  refine ve_mcall ?_
  refine ve_local (by first | assumption | (simp only [lk_lset, lk, ofString_inj, String.reduceEq, if_true, if_false] <;> first | rfl | assumption)) ?_
  refine vm_fn pc_Graph g2.x g2.d (gns_none (by decide) (by decide) (by decide) (by decide)) m_edge_attr_dict_factory mt_edge_attr_dict_factory ⟨keep_ref mk_edge_attr_dict_factory, vl_nil (fac_378 fun r hr => ?_)⟩
  have offr := g2.off hr
  have g3 := g2.ext (Ext.ins (o := .idict [] 0) hr)
  have hK3 := hK2.trans (Kp.of_ext (Ext.ins (o := .idict [] 0) hr))
  have nDr := ne_fresh hr hd'
  have hd' := ins_old (o := (.idict [] 0)) hr hd'
  have hrr := ins_self (o := .idict [] 0) hr
  refine vl_nil ?_
  refine vc_dget (g3.row _ ok.a) ?_
  rw [kR, ivl_map, if_neg ok.ab]
  refine va_local ?_
  refine vb_cons ?_
  refine vs_expr ?_ (hi := hi)
  refine ve_mcall ?_
  refine ve_local (by first | assumption | (simp only [lk_lset, lk, ofString_inj, String.reduceEq, if_true, if_false] <;> first | rfl | assumption)) ?_
  refine vm_dict hrr PySem.F.slot_dict_update PySem.F.type_dict_update ?_
  refine ⟨keep_builtin, ?_⟩
  refine vl_cons ?_
  refine ve_local (by first | assumption | (simp only [lk_lset, lk, ofString_inj, String.reduceEq, if_true, if_false] <;> first | rfl | assumption)) ?_
  refine vl_nil ?_
  refine vc_dupdate hrr hd' (fun z => nDr z.symm) (by decide) fun ep6 => ?_
  refine ⟨(by intro a q; cases q), ?_⟩
  have g4 := g3.updO (o' := .idict [] ep6) hrr offr.nd offr.ad offr.row
  have hK4 := hK3.trans (Kp.upd (o' := .idict [] ep6) hrr rfl)
  have hd' := upd_ne (o := .idict [] ep6) nDr hd'
  have hrr := upd_self (o' := .idict [] ep6) hrr
  have g5 := g4
  have hK5 := hK4
  refine vb_cons ?_
  refine vs_assign ?_
  refine ve_local (by first | assumption | (simp only [lk_lset, lk, ofString_inj, String.reduceEq, if_true, if_false] <;> first | rfl | assumption)) ?_
  refine va_sub_dict ?_
  refine ve_sub ?_
  refine ve_attr ?_
  refine ve_local (by first | assumption | (simp only [lk_lset, lk, ofString_inj, String.reduceEq, if_true, if_false] <;> first | rfl | assumption)) ?_
  refine vg_own pc_Graph g5.x g5.d gns_adj m__adj rfl ?_
  refine ve_local (by first | assumption | (simp only [lk_lset, lk, ofString_inj, String.reduceEq, if_true, if_false] <;> first | rfl | assumption)) ?_
  refine vi_dict g5.ad (by rw [kA, ivl_map, if_pos ok.a]) ?_
  refine ve_local (by first | assumption | (simp only [lk_lset, lk, ofString_inj, String.reduceEq, if_true, if_false] <;> first | rfl | assumption)) ?_
  refine ⟨_, q, _, _, rfl, rfl, g5.row _ ok.a, by rw [kR, List.length_map]; exact Nat.le_trans ok.la (by decide), fun ep8 => ?_⟩
  have g6 := g5.setRow (a := .ref r) (e := ep8) ok.a ok.ab
  have hK6 := hK5.trans (Kp.upd (o' := .idict (ist (kR G N p) q (.ref r)) ep8) (g5.row _ ok.a) rfl)
  have hd' := upd_ne (o := .idict (ist (kR G N p) q (.ref r)) ep8) (off'.row _ ok.a) hd'
  refine vb_cons ?_
  refine vs_assign ?_
  refine ve_local (by first | assumption | (simp only [lk_lset, lk, ofString_inj, String.reduceEq, if_true, if_false] <;> first | rfl | assumption)) ?_
  refine va_sub_dict ?_
  refine ve_sub ?_
  refine ve_attr ?_
  refine ve_local (by first | assumption | (simp only [lk_lset, lk, ofString_inj, String.reduceEq, if_true, if_false] <;> first | rfl | assumption)) ?_
  refine vg_own pc_Graph g6.x g6.d gns_adj m__adj rfl ?_
  refine ve_local (by first | assumption | (simp only [lk_lset, lk, ofString_inj, String.reduceEq, if_true, if_false] <;> first | rfl | assumption)) ?_
  refine vi_dict g6.ad (by rw [kA, ivl_map, if_pos ok.b]) ?_
  refine ve_local (by first | assumption | (simp only [lk_lset, lk, ofString_inj, String.reduceEq, if_true, if_false] <;> first | rfl | assumption)) ?_
  have ba' : p ∉ (if q = p then N q ++ [q] else N q) := by rw [if_neg (Ne.symm ok.ne)]; exact ok.ba
  have lb' : (if q = p then N q ++ [q] else N q).length ≤ 1000 := by rw [if_neg (Ne.symm ok.ne)]; exact Nat.le_trans ok.lb (by decide)
  refine ⟨_, p, _, _, rfl, rfl, g6.row _ ok.b, by rw [kR, List.length_map]; exact lb', fun ep9 => ?_⟩
  have g7 := g6.setRow (a := .ref r) (e := ep9) ok.b ba'
  have hK7 := fun o' => hK6.trans (Kp.upd (o' := o') (g6.row _ ok.b) rfl)
  have hd' := fun o => upd_ne (o := o) (off'.row _ ok.b) hd'
  refine vb_nil ?_
  exact h _ _ (by rfl) (hK7 _) g7
end
end Mine
end
section
open PySem PySem.W PySem.Calls PyProof.Rows
set_option maxRecDepth 100000
set_option linter.unusedVariables false
set_option linter.unusedSimpArgs false
namespace Mine
variable {w : World} {σ : AS} {n : Nat}
inductive Reach (N : Int → List Int) (s : Int) : Int → Prop
  | here : Reach N s s
  | step {x y : Int} : Reach N s x → y ∈ N x → Reach N s y
section
variable {G : GA} {V : List Int} {N : Int → List Int} {dg : Option Addr} {Q : AV → AS → Prop}
theorem fn_arbitrary (g : GR σ G V V N dg) {v : Int} (h0 : V[0]? = some v) (h : ∀ σ', Ext σ σ' → Q (.int v) σ') : VC (KK w) w (n + 4) (.ref 644) [.ref G.x] Q σ := by
  refine vc_def (f := 644) rfl rfl (by kernel_rfl) (vbi_1 (x := "iterable") ⟨by rfl, fun L env hL he => ?_⟩)
  have k_iterable := kd_of he (x := "iterable") (k := .local) rfl
  have k_iter := kd_of he (x := "iter") (k := .globalImplicit) rfl
  have k_next := kd_of he (x := "next") (k := .globalImplicit) rfl
  clear he
  refine vb_cons ?_
  refine vs_return ?_
  refine ve_call_b (x := "next") b_next bb_next kb_next ?_
  refine vl_cons ?_
  refine ve_call_b (x := "iter") b_iter bb_iter kb_iter ?_
  refine vl_cons ?_
  refine ve_local (by first | assumption | (simp only [lk_lset, lk, ofString_inj, String.reduceEq, if_true, if_false] <;> first | rfl | assumption)) ?_
  refine vl_nil ?_
  refine vc_iter_own g.x g.d m___iter__ mt___iter__ (fn_iter g fun I hI => ⟨I, _, _, _, _, rfl, ins_self hI, ?_⟩)
  refine vl_nil ?_
  refine vc_next (ins_self hI) (ins_old hI g.nd) (by rw [kN, List.length_map]) (p := (v, G.na v)) (by rw [kN, List.getElem?_map, h0]; rfl) ?_
  exact h _ ((Ext.ins hI).upd hI.none)
theorem ints_at {xs : List Int} {i : Nat} {v : AV} (h : (xs.map AV.int)[i]? = some v) : ∃ x, xs[i]? = some x ∧ v = .int x := by
  rw [List.getElem?_map] at h
  obtain ⟨x, h1, h2⟩ := Option.map_eq_some_iff.mp h
  exact ⟨x, h1, h2.symm⟩
noncomputable def tr (qs : List Int) : List (Int × AV) := qs.map fun v => (v, .bool true)
theorem fn_reached (g : GR σ G V V N dg) {a : Addr} {v0 : Int} (ha : σ.f a = some (.list [.int v0])) (hv0 : v0 ∈ V) (hN : ∀ v, v ∈ V → ∀ u, u ∈ N v → u ∈ V) (hz : V.length ≤ 900) (hzr : ∀ v, v ∈ V → (N v).length ≤ 900)
    (h : ∀ (σ' : AS) (q : Addr) (qs : List Int), Ext σ σ' → σ'.f q = some (.list (qs.map .int)) → qs.Nodup → v0 ∈ qs → (∀ x, x ∈ qs → x ∈ V ∧ Reach N v0 x) → (∀ x, x ∈ qs → ∀ y, y ∈ N x → y ∈ qs) → Q (.ref q) σ') : VC (KK w) w (n + 2) (.ref 649) [.ref G.ad, .ref a] Q σ := by
  refine vc_def (f := 649) rfl rfl (by kernel_rfl) (vbi_2 (x := "neighbors") (y := "sources") ⟨by rfl, fun L env hL he => ?_⟩)
  have k_neighbors := kd_of he (x := "neighbors") (k := .local) rfl
  have k_sources := kd_of he (x := "sources") (k := .local) rfl
  have k_seen := kd_of he (x := "seen") (k := .local) rfl
  have k_queue := kd_of he (x := "queue") (k := .local) rfl
  have k_n := kd_of he (x := "n") (k := .local) rfl
  have k_nbr := kd_of he (x := "nbr") (k := .local) rfl
  have k_list := kd_of he (x := "list") (k := .globalImplicit) rfl
  have hi : interactive env = false := by rw [he]; rfl
  have hE : EnvOK env := by rw [he]; exact ⟨rfl, rfl, rfl⟩
  clear he
  refine vb_cons ?_
  refine vs_dictcomp [] (by dsimp only; (repeat (first | refine (closA_skip (by rfl)).trans ?_ | refine (closA_free (by assumption)).trans ?_)); rfl) (swaps_local hE k_seen rfl rfl rfl) ?_
  refine ve_local (by first | assumption | (simp only [lk_lset, lk, ofString_inj, String.reduceEq, if_true, if_false] <;> first | rfl | assumption)) ?_
  refine vit_list ha ?_
  intro D C cenv hD hC hce hE2
  have k_n := kc_same hce (x := "n") (k := .local) rfl (by decide)
  clear hce
  refine spec_list (fun j l2 σ2 => Ext σ σ2 ∧ ∃ e, σ2.f D = some (.idict (tr ([v0].take j)) e)) (fun j l2 σ2 hJ => hJ.1 _ _ ha) ⟨?_, ?_⟩ (fun j v l2 σ2 hJ hj hv => ?_) (fun l2 σ2 hJ => ?_)
  · exact (Ext.ins hD).trans (pushA_ext _ hC.succ)
  · exact ⟨_, pushA_ext _ hC.succ _ _ (ins_self hD)⟩
  · obtain ⟨j1, e, j2⟩ := hJ
    have hj0 : j = 0 := by simpa using hj
    subst hj0
    have hv' : v = .int v0 := by simpa using hv.symm
    subst hv'
    refine va_local ?_
    refine vy_bodyD0 ?_
    refine ve_local (by first | assumption | (simp only [lk_lset, lk, ofString_inj, String.reduceEq, if_true, if_false] <;> first | rfl | assumption)) ?_
    refine ve_const_bool ?_
    refine ⟨v0, _, e, rfl, j2, by simp [tr], fun ep' => ⟨j1.upd hD.none, ep', ?_⟩⟩
    exact upd_self j2
  · obtain ⟨j1, e, j2⟩ := hJ
    refine va_local ?_
    refine vb_cons ?_
    refine vs_assign ?_
    refine ve_call_b (x := "list") b_list bb_list kb_list ?_
    refine vl_cons ?_
    refine ve_local (by first | assumption | (simp only [lk_lset, lk, ofString_inj, String.reduceEq, if_true, if_false] <;> first | rfl | assumption)) ?_
    refine vl_nil ?_
    refine vc_list_dict j2 (by simp [tr]) fun q hq => ?_
    refine va_local ?_
    have e1 := j1.trans (Ext.ins (o := .list [.int v0]) hq)
    have hqn : σ.f q = none := j1.fresh hq
    have hDn : σ.f D = none := hD.none
    have hqD := ne_fresh hq j2
    have j2 := ins_old (o := (.list [.int v0])) hq j2
    have hqq := ins_self (o := .list [.int v0]) hq
    refine vb_cons ?_
    refine vs_loop ?_
    refine ve_local (by first | assumption | (simp only [lk_lset, lk, ofString_inj, String.reduceEq, if_true, if_false] <;> first | rfl | assumption)) ?_
    refine vit_list hqq ?_
    refine ⟨fun i l σ' => ∃ qs : List Int, Ext σ σ' ∧ lk l "neighbors" = some (.ref G.ad) ∧ lk l "seen" = some (.ref D) ∧ lk l "queue" = some (.ref q) ∧ (∃ e, σ'.f D = some (.idict (tr qs) e)) ∧ σ'.f q = some (.list (qs.map .int)) ∧ qs.Nodup ∧ v0 ∈ qs ∧ (∀ x, x ∈ qs → x ∈ V ∧ Reach N v0 x) ∧ i ≤ qs.length ∧ (∀ x, x ∈ qs.take i → ∀ y, y ∈ N x → y ∈ qs), V.length + 1, ?_, fun i l' σ' hI => ?_⟩
    · exact ⟨[v0], e1, (by first | assumption | (simp only [lk_lset, lk, ofString_inj, String.reduceEq, if_true, if_false] <;> first | rfl | assumption)), (by first | assumption | (simp only [lk_lset, lk, ofString_inj, String.reduceEq, if_true, if_false] <;> first | rfl | assumption)), (by first | assumption | (simp only [lk_lset, lk, ofString_inj, String.reduceEq, if_true, if_false] <;> first | rfl | assumption)), ⟨_, j2⟩, hqq, by simp, by simp, (fun x hx => (by rw [List.mem_singleton.mp hx]; exact ⟨hv0, .here⟩)), by simp, by simp⟩
    · obtain ⟨qs, f1, f2, f3, f4, ⟨ep, f5⟩, f6, f7, f8, f9, f10, f11⟩ := hI
      have hlen : qs.length ≤ V.length := f7.length_le_of_subset fun x hx => (f9 x hx).1
      refine ⟨⟨_, f6⟩, fun v hv => ?_, fun hv => ?_⟩
      · simp only [listNxt, f6] at hv
        obtain ⟨x, ex, rfl⟩ := ints_at hv
        have hx : x ∈ qs := List.mem_of_getElem? ex
        have hxV := (f9 x hx).1
        have g2 := g.ext f1
        have hiq : i < qs.length := (List.getElem?_eq_some_iff.mp ex).1
        refine ⟨by omega, ?_⟩
        have htk : qs.take (i + 1) = qs.take i ++ [x] := by rw [List.take_add_one, ex]; rfl
        refine va_local ?_
        refine vb_cons ?_
        refine vs_loop ?_
        refine ve_sub ?_
        refine ve_local (by first | assumption | (simp only [lk_lset, lk, ofString_inj, String.reduceEq, if_true, if_false] <;> first | rfl | assumption)) ?_
        refine ve_local (by first | assumption | (simp only [lk_lset, lk, ofString_inj, String.reduceEq, if_true, if_false] <;> first | rfl | assumption)) ?_
        refine vi_dict g2.ad (by rw [kA, ivl_map, if_pos hxV]) ?_
        refine vit_dict (g2.row _ hxV) ?_
        refine spec_dict (kvs := kR G N x) (ep := G.er x) rfl (fun j l2 σ2 => ∃ rs : List Int, Ext σ σ2 ∧ lk l2 "neighbors" = some (.ref G.ad) ∧ lk l2 "seen" = some (.ref D) ∧ lk l2 "queue" = some (.ref q) ∧ (∃ e, σ2.f D = some (.idict (tr (qs ++ rs)) e)) ∧ σ2.f q = some (.list ((qs ++ rs).map .int)) ∧ (qs ++ rs).Nodup ∧ (∀ y, y ∈ rs → y ∈ V ∧ Reach N v0 y) ∧ (∀ y, y ∈ (N x).take j → y ∈ qs ++ rs)) (fun j l2 σ2 hJ => hJ.choose_spec.1 _ _ (g.row _ hxV)) ⟨[], f1, (by first | assumption | (simp only [lk_lset, lk, ofString_inj, String.reduceEq, if_true, if_false] <;> first | rfl | assumption)), (by first | assumption | (simp only [lk_lset, lk, ofString_inj, String.reduceEq, if_true, if_false] <;> first | rfl | assumption)), (by first | assumption | (simp only [lk_lset, lk, ofString_inj, String.reduceEq, if_true, if_false] <;> first | rfl | assumption)), ⟨ep, by simpa using f5⟩, by simpa using f6, by simpa using f7, by simp, by simp⟩ (fun j p l2 σ2 hJ hj hp => ?_) (fun l2 σ2 hJ => ?_)
        · obtain ⟨rs, k1, k2, k3, k4, ⟨e5, k5⟩, k6, k7, k8, k9⟩ := hJ
          have hj' : j < (N x).length := by simpa [kR] using hj
          obtain ⟨y, ey, rfl⟩ : ∃ y, (N x)[j]? = some y ∧ p = (y, G.ea x y) := by
            rw [kR, List.getElem?_map] at hp
            obtain ⟨y, h1, h2⟩ := Option.map_eq_some_iff.mp hp
            exact ⟨y, h1, h2.symm⟩
          have hyN : y ∈ N x := List.mem_of_getElem? ey
          have hyV := hN x hxV y hyN
          have htj : (N x).take (j + 1) = (N x).take j ++ [y] := by rw [List.take_add_one, ey]; rfl
          have hlen2 : (qs ++ rs).length ≤ V.length := k7.length_le_of_subset fun z hz => by
            rcases List.mem_append.mp hz with q | q
            · exact (f9 z q).1
            · exact (k8 z q).1
          refine va_local ?_
          refine vb_cons ?_
          refine vs_if ?_
          refine vt_cmp ?_
          refine ve_local (by first | assumption | (simp only [lk_lset, lk, ofString_inj, String.reduceEq, if_true, if_false] <;> first | rfl | assumption)) ?_
          refine ve_local (by first | assumption | (simp only [lk_lset, lk, ofString_inj, String.reduceEq, if_true, if_false] <;> first | rfl | assumption)) ?_
          refine vo_notin_dict k5 ?_
          rw [tr, ivl_map]
          refine vtr_bool ?_
          by_cases hy : y ∈ qs ++ rs
          · rw [if_pos hy, if_neg (by intro q; cases q)]
            refine vb_nil ?_
            refine vb_nil ?_
            refine ⟨rs, k1, (by first | assumption | (simp only [lk_lset, lk, ofString_inj, String.reduceEq, if_true, if_false] <;> first | rfl | assumption)), (by first | assumption | (simp only [lk_lset, lk, ofString_inj, String.reduceEq, if_true, if_false] <;> first | rfl | assumption)), (by first | assumption | (simp only [lk_lset, lk, ofString_inj, String.reduceEq, if_true, if_false] <;> first | rfl | assumption)), ⟨_, k5⟩, k6, k7, k8, fun z hz => ?_⟩
            rw [htj] at hz
            rcases List.mem_append.mp hz with q | q
            · exact k9 z q
            · rw [List.mem_singleton.mp q]; exact hy
          · rw [if_neg hy, if_pos (by rfl)]
            refine vb_cons ?_
            refine vs_assign ?_
            refine ve_const_bool ?_
            refine va_sub_dict ?_
            refine ve_local (by first | assumption | (simp only [lk_lset, lk, ofString_inj, String.reduceEq, if_true, if_false] <;> first | rfl | assumption)) ?_
            refine ve_local (by first | assumption | (simp only [lk_lset, lk, ofString_inj, String.reduceEq, if_true, if_false] <;> first | rfl | assumption)) ?_
            refine ⟨D, y, _, _, rfl, rfl, k5, by rw [tr, List.length_map]; omega, fun e6 => ?_⟩
            have k6' := upd_ne (o := .idict (ist (tr (qs ++ rs)) y (.bool true)) e6) (ne_obj k6 k5 (by intro q; cases q)) k6
            have k1' := k1.upd (o := .idict (ist (tr (qs ++ rs)) y (.bool true)) e6) hDn
            have k5' := upd_self (o' := .idict (ist (tr (qs ++ rs)) y (.bool true)) e6) k5
            refine vb_cons ?_
            refine vs_expr ?_ (hi := hi)
            refine ve_mcall ?_
            refine ve_local (by first | assumption | (simp only [lk_lset, lk, ofString_inj, String.reduceEq, if_true, if_false] <;> first | rfl | assumption)) ?_
            refine vm_list k6' PySem.F.slot_list_append PySem.F.type_list_append ?_
            refine ⟨keep_builtin, ?_⟩
            refine vl_cons ?_
            refine ve_local (by first | assumption | (simp only [lk_lset, lk, ofString_inj, String.reduceEq, if_true, if_false] <;> first | rfl | assumption)) ?_
            refine vl_nil ?_
            refine vc_append k6' (by rw [List.length_map]; omega) ?_
            refine ⟨(by intro a q; cases q), ?_⟩
            refine vb_nil ?_
            refine vb_nil ?_
            have et : ist (tr (qs ++ rs)) y (.bool true) = tr (qs ++ (rs ++ [y])) := by
              rw [tr, ist_new _ _ _ hy, tr, List.append_assoc]
              refine List.map_congr_left fun z _ => ?_
              split <;> rfl
            rw [et] at k5' k1' k6' ⊢
            have k5'' := upd_ne (o := .list ((qs ++ rs).map .int ++ [.int y])) (ne_obj k5' k6' (by intro q; cases q)) k5'
            refine ⟨rs ++ [y], k1'.upd hqn, (by first | assumption | (simp only [lk_lset, lk, ofString_inj, String.reduceEq, if_true, if_false] <;> first | rfl | assumption)), (by first | assumption | (simp only [lk_lset, lk, ofString_inj, String.reduceEq, if_true, if_false] <;> first | rfl | assumption)), (by first | assumption | (simp only [lk_lset, lk, ofString_inj, String.reduceEq, if_true, if_false] <;> first | rfl | assumption)), ⟨_, k5''⟩, ?_, ?_, fun z hz => ?_, fun z hz => ?_⟩
            · refine upd_at.trans ?_
              simp
            · rw [← List.append_assoc, List.nodup_append]
              refine ⟨k7, by simp, fun a ha b hb => ?_⟩
              rw [List.mem_singleton.mp hb]
              exact fun q => hy (q ▸ ha)
            · rcases List.mem_append.mp hz with q | q
              · exact k8 z q
              · rw [List.mem_singleton.mp q]; exact ⟨hyV, .step (f9 x hx).2 hyN⟩
            · rw [htj] at hz
              rw [← List.append_assoc]
              rcases List.mem_append.mp hz with q | q
              · exact List.mem_append_left _ (k9 z q)
              · exact List.mem_append_right _ q
        · obtain ⟨rs, k1, k2, k3, k4, ⟨e5, k5⟩, k6, k7, k8, k9⟩ := hJ
          refine vb_nil ?_
          rw [show (kR G N x).length = (N x).length by rw [kR, List.length_map], List.take_length] at k9
          refine ⟨qs ++ rs, k1, k2, k3, k4, ⟨_, k5⟩, k6, k7, List.mem_append_left _ f8, fun z hz => ?_, by rw [List.length_append]; omega, fun z hz y hy => ?_⟩
          · rcases List.mem_append.mp hz with q | q
            · exact f9 z q
            · exact k8 z q
          · rw [List.take_append_of_le_length (by omega), htk] at hz
            rcases List.mem_append.mp hz with q | q
            · exact List.mem_append_left _ (f11 z q y hy)
            · rw [List.mem_singleton.mp q] at hy; exact k9 y hy
      · simp only [listNxt, f6] at hv
        have hil : i = qs.length := by
          have := List.getElem?_eq_none_iff.mp hv
          rw [List.length_map] at this
          omega
        subst hil
        rw [List.take_length] at f11
        refine vb_cons ?_
        refine vs_return ?_
        refine ve_local (by first | assumption | (simp only [lk_lset, lk, ofString_inj, String.reduceEq, if_true, if_false] <;> first | rfl | assumption)) ?_
        exact h _ q qs f1 f6 f7 f8 f9 f11
end
end Mine
end
section
set_option linter.unusedVariables false
namespace Mine
structure BS where
  qs : List Int
  ys : List (Int × Int)
noncomputable def bstep (x : Int) (b : BS) (y : Int) : BS := if y ∈ b.qs then b else ⟨b.qs ++ [y], b.ys ++ [(x, y)]⟩
noncomputable def bfold (x : Int) (b : BS) (l : List Int) : BS := l.foldl (bstep x) b
noncomputable def bS (N : Int → List Int) (s : Int) : Nat → BS
  | 0 => ⟨[s], []⟩
  | k + 1 => match (bS N s k).qs[k]? with
    | some x => bfold x (bS N s k) (N x)
    | none => bS N s k
theorem bfold_snoc (x : Int) (b : BS) (l : List Int) (y : Int) : bfold x b (l ++ [y]) = bstep x (bfold x b l) y := by simp [bfold]
noncomputable def Pre (a b : BS) : Prop := a.qs <+: b.qs ∧ a.ys <+: b.ys
theorem Pre.refl (a : BS) : Pre a a := ⟨List.prefix_refl _, List.prefix_refl _⟩
theorem Pre.trans {a b c : BS} (h : Pre a b) (g : Pre b c) : Pre a c := ⟨h.1.trans g.1, h.2.trans g.2⟩
theorem pre_step (x : Int) (b : BS) (y : Int) : Pre b (bstep x b y) := by
  unfold bstep
  split
  · exact Pre.refl _
  · exact ⟨List.prefix_append _ _, List.prefix_append _ _⟩
theorem pre_fold (x : Int) : ∀ (l : List Int) (b : BS), Pre b (bfold x b l)
  | [], b => Pre.refl _
  | y :: r, b => (pre_step x b y).trans (pre_fold x r _)
theorem pre_take (x : Int) (b : BS) (l : List Int) (j : Nat) : Pre (bfold x b (l.take j)) (bfold x b l) := by
  have : bfold x b l = bfold x (bfold x b (l.take j)) (l.drop j) := by
    unfold bfold
    rw [← List.foldl_append, List.take_append_drop]
  rw [this]
  exact pre_fold x _ _
theorem pre_succ (N : Int → List Int) (s : Int) (k : Nat) : Pre (bS N s k) (bS N s (k + 1)) := by
  show Pre _ (match (bS N s k).qs[k]? with | some x => bfold x (bS N s k) (N x) | none => bS N s k)
  split
  · exact pre_fold _ _ _
  · exact Pre.refl _
theorem pre_le (N : Int → List Int) (s : Int) {k m : Nat} (h : k ≤ m) : Pre (bS N s k) (bS N s m) := by
  induction m with
  | zero => obtain rfl : k = 0 := by omega
            exact Pre.refl _
  | succ m ih =>
    rcases Nat.lt_or_ge m k with q | q
    · obtain rfl : k = m + 1 := by omega
      exact Pre.refl _
    · exact (ih q).trans (pre_succ N s m)
theorem fold_ind {P : BS → Prop} (x : Int) : ∀ (l : List Int) (b : BS), P b → (∀ b y, y ∈ l → P b → P (bstep x b y)) → P (bfold x b l)
  | [], b, h, _ => h
  | y :: r, b, h, st => fold_ind x r _ (st b y (by simp) h) fun b z hz hb => st b z (List.mem_cons_of_mem _ hz) hb
structure BInv (N : Int → List Int) (V : List Int) (s : Int) (b : BS) : Prop where
  q : b.qs = s :: b.ys.map (·.2)
  nd : b.qs.Nodup
  sub : ∀ x, x ∈ b.qs → x ∈ V
theorem binv_step {N : Int → List Int} {V : List Int} {s x y : Int} {b : BS} (h : BInv N V s b) (hy : y ∈ V) : BInv N V s (bstep x b y) := by
  unfold bstep
  split
  · exact h
  · rename_i hn
    refine ⟨by simp [h.q], ?_, fun z hz => ?_⟩
    · rw [List.nodup_append]
      refine ⟨h.nd, by simp, fun a ha c hc => ?_⟩
      rw [List.mem_singleton.mp hc]
      exact fun q => hn (q ▸ ha)
    · rcases List.mem_append.mp hz with q | q
      · exact h.sub z q
      · rw [List.mem_singleton.mp q]; exact hy
theorem binv {N : Int → List Int} {V : List Int} {s : Int} (hs : s ∈ V) (hN : ∀ v, v ∈ V → ∀ u, u ∈ N v → u ∈ V) : ∀ k, BInv N V s (bS N s k)
  | 0 => ⟨rfl, by simp [bS], by simp [bS, hs]⟩
  | k + 1 => by
    have ih := binv hs hN k
    show BInv N V s (match (bS N s k).qs[k]? with | some x => bfold x (bS N s k) (N x) | none => bS N s k)
    split
    · rename_i x hx
      have hxV := ih.sub x (List.mem_of_getElem? hx)
      exact fold_ind x _ _ ih fun b y hy hb => binv_step hb (hN x hxV y hy)
    · exact ih
end Mine
end
section
open PySem PySem.W PySem.Calls PyProof.Rows
set_option maxRecDepth 100000
set_option linter.unusedVariables false
set_option linter.unusedSimpArgs false
namespace Mine
variable {w : World} {σ : AS} {n : Nat}
section
variable {G : GA} {V : List Int} {N : Int → List Int} {dg : Option Addr}
noncomputable def Ybfs (N : Int → List Int) (V : List Int) (s : Int) : List (Int × Int) := (bS N s V.length).ys
noncomputable def Pbfs (w : World) (n g : Nat) (G : GA) (V : List Int) (N : Int → List Int) (dg : Option Addr) (s0 : Int) : GP where
  w := w
  K := KK w
  n := n
  g := g
  fin := .ok (.ret .none)
  ok := fun _ σ => GR σ G V V N dg
  yld := fun i z v σ' => ∃ a p, v = .ref a ∧ (Ybfs N V s0)[i]? = some p ∧ Ext z σ' ∧ σ'.f a = some (.tup [.int p.1, .int p.2])
  fine := fun i z σ' => i = (Ybfs N V s0).length ∧ Ext z σ'
structure BInB (G : GA) (V : List Int) (N : Int → List Int) (dg : Option Addr) (s0 : Int) (D q : Addr) (b : BS) (y : GSt) : Prop where
  gr : GR y.σ G V V N dg
  lG : lk y.l "G" = some (.ref G.x)
  ls : lk y.l "seen" = some (.ref D)
  lq : lk y.l "queue" = some (.ref q)
  fs : ∃ m, m ≤ b.qs.length ∧ y.σ.f D = some (.set (fun v => decide (v ∈ b.qs)) m)
  fq : y.σ.f q = some (.list (b.qs.map .int))
  yi : y.i = b.ys.length
  yf : y.f + y.i = (Ybfs N V s0).length
  ex : Ext y.z y.σ
  zD : y.z.f D = none
  zq : y.z.f q = none
theorem Ext.puts3 {z : AS} {a b c : Addr} {x y v : AO} (h1 : z.f a = none) (h2 : z.f b = none) (h3 : z.f c = none) : Ext z (z.puts [(a, x), (b, y), (c, v)]) := fun d o e => by
  show (if d = a then some x else if d = b then some y else if d = c then some v else z.f d) = some o
  rw [if_neg (fun q => by rw [q, h1] at e; cases e), if_neg (fun q => by rw [q, h2] at e; cases e), if_neg (fun q => by rw [q, h3] at e; cases e)]
  exact e
theorem prefix_at {α : Type} {l Y : List α} {p : α} (h : l ++ [p] <+: Y) : Y[l.length]? = some p ∧ l.length < Y.length := by
  obtain ⟨t, rfl⟩ := h
  constructor
  · simp
  · simp
theorem bS_fix {N : Int → List Int} {s : Int} {k : Nat} (h : (bS N s k).qs.length ≤ k) : ∀ m, k ≤ m → bS N s m = bS N s k
  | 0, h0 => by obtain rfl : k = 0 := by omega
                rfl
  | m + 1, h0 => by
    rcases Nat.lt_or_ge m k with q | q
    · obtain rfl : k = m + 1 := by omega
      rfl
    · have ih := bS_fix h m q
      show (match (bS N s m).qs[m]? with | some x => bfold x (bS N s m) (N x) | none => bS N s m) = _
      rw [ih, List.getElem?_eq_none (Nat.le_trans h q)]
theorem gen_bfs {Q : AV → Hid → AS → Prop} {s0 : Int} (g : GR σ G V V N dg) (hs : s0 ∈ V) (hN : ∀ v, v ∈ V → ∀ u, u ∈ N v → u ∈ V) (hz : V.length ≤ 900) (hzr : ∀ v, v ∈ V → (N v).length ≤ 900)
    (h : ∀ gn It hd, GenAt (Pbfs w n gn G V N dg s0) It hd (Ybfs N V s0).length 0 → Q (.ref It) hd σ) : VCH (KK w) w (n + 2) (.ref 661) [.ref G.x, .int s0] Q σ := by
  refine vch_gen (f := 661) rfl rfl (by kernel_rfl) (vbi_2 (x := "G") (y := "source") fun L env hF he => ?_)
  have k_G := kd_ofC he (x := "G") (k := .local) rfl
  have k_source := kd_ofC he (x := "source") (k := .local) rfl
  have k_seen := kd_ofC he (x := "seen") (k := .local) rfl
  have k_queue := kd_ofC he (x := "queue") (k := .local) rfl
  have k_n := kd_ofC he (x := "n") (k := .local) rfl
  have k_nbr := kd_ofC he (x := "nbr") (k := .local) rfl
  have k_list := kd_ofC he (x := "list") (k := .globalImplicit) rfl
  have hi : interactive env = false := by rw [he]; rfl
  have hkc : kdsCode (KK w) env.code = true := by rw [he]; kernel_rfl
  clear he
  refine bindA_local k_G (bindA_local k_source (bindA_nil fun gn => ?_))
  refine ⟨Pbfs w n gn G V N dg s0, [], (Ybfs N V s0).length, rfl, ⟨rfl, rfl, Nat.le_refl _, .inr rfl⟩, rfl, trivial, fun σ' g' _ => ?_, fun It hd ga => h gn It hd ga⟩
  replace g' : GR σ' G V V N dg := g'
  have hI := fun k => binv (N := N) hs hN k
  have hlen := fun k => (hI k).nd.length_le_of_subset (hI k).sub
  show GB _ _ _ _ ⟨_, _, σ', _, σ'⟩
  refine gb_cons (gy_of ?_)
  refine vs_assign ?_
  refine ve_set1 rfl rfl rfl hkc fun D hD => ?_
  refine ve_local (by first | assumption | (simp only [lk_lset, lk, ofString_inj, String.reduceEq, if_true, if_false] <;> first | rfl | assumption)) ?_
  refine ⟨s0, 0, rfl, ins_self hD, rfl, ?_⟩
  refine va_local ?_
  have e1 : Ext σ' ((σ'.ins D (.set (fun _ => false) 0)).upd D (.set (fun y => decide (y = s0)) 1)) := (Ext.ins hD).upd hD.none
  have d1 : ((σ'.ins D (.set (fun _ => false) 0)).upd D (.set (fun y => decide (y = s0)) 1)).f D = some (.set (fun y => decide (y = s0)) 1) := upd_at
  show GB _ _ _ _ ⟨_, _, σ', _, ((σ'.ins D (.set (fun _ => false) 0)).upd D (.set (fun y => decide (y = s0)) 1))⟩
  generalize ((σ'.ins D (.set (fun _ => false) 0)).upd D (.set (fun y => decide (y = s0)) 1)) = σa at e1 d1
  refine gb_cons (gy_of ?_)
  refine vs_assign ?_
  refine ve_list ?_
  refine vl_cons ?_
  refine ve_local (by first | assumption | (simp only [lk_lset, lk, ofString_inj, String.reduceEq, if_true, if_false] <;> first | rfl | assumption)) ?_
  refine vl_nil ?_
  refine ⟨by simp, fun q hq => ?_⟩
  refine va_local ?_
  have zq := e1.fresh hq
  have e2 := e1.trans (Ext.ins (o := .list [.int s0]) hq)
  have d1 := ins_old (o := (.list [.int s0])) hq d1
  have q1 := ins_self (o := .list [.int s0]) hq
  show GB _ _ _ _ ⟨_, _, σ', _, (σa.ins q (.list [.int s0]))⟩
  generalize (σa.ins q (.list [.int s0])) = σb at e2 d1 q1
  refine gb_cons (gs_for ?_)
  refine ve_local (by first | assumption | (simp only [lk_lset, lk, ofString_inj, String.reduceEq, if_true, if_false] <;> first | rfl | assumption)) ?_
  refine vit_list q1 ?_
  refine ⟨fun k y => BInB G V N dg s0 D q (bS N s0 k) y ∧ k ≤ (bS N s0 k).qs.length, V.length, ⟨⟨g'.ext e2, (by first | assumption | (simp only [lk_lset, lk, ofString_inj, String.reduceEq, if_true, if_false] <;> first | rfl | assumption)), (by first | assumption | (simp only [lk_lset, lk, ofString_inj, String.reduceEq, if_true, if_false] <;> first | rfl | assumption)), (by first | assumption | (simp only [lk_lset, lk, ofString_inj, String.reduceEq, if_true, if_false] <;> first | rfl | assumption)), ⟨1, Nat.le_refl _, ?_⟩, q1, rfl, rfl, e2, hD.none, zq⟩, Nat.zero_le _⟩, fun k y hJ => ?_⟩
  · rw [show (fun v => decide (v ∈ (bS N s0 0).qs)) = (fun y => decide (y = s0)) from funext fun v => by simp [bS]]
    exact d1
  obtain ⟨hJ, hk⟩ := hJ
  refine ⟨⟨_, hJ.fq⟩, fun v hv => ?_, fun hv => ?_⟩
  · simp only [listNxt, hJ.fq] at hv
    obtain ⟨x, ex, rfl⟩ := ints_at hv
    have hkl : k < (bS N s0 k).qs.length := (List.getElem?_eq_some_iff.mp ex).1
    refine ⟨Nat.lt_of_lt_of_le hkl (hlen k), ?_⟩
    have hxV := (hI k).sub x (List.mem_of_getElem? ex)
    have hS : bS N s0 (k + 1) = bfold x (bS N s0 k) (N x) := by
      show (match (bS N s0 k).qs[k]? with | some x => bfold x (bS N s0 k) (N x) | none => bS N s0 k) = _
      rw [ex]
    obtain ⟨f, i, z, l, σ1⟩ := y
    obtain ⟨gr, lG, ls, lq, fs, fq, yi, yf, exx, zD, zq⟩ := hJ
    dsimp only at gr lG ls lq fs fq yi yf exx zD zq
    refine va_local ?_
    refine gb_cons (gs_for ?_)
    refine ve_call_b (x := "list") b_list bb_list kb_list ?_
    refine vl_cons ?_
    refine ve_sub ?_
    refine ve_attr ?_
    refine ve_local (by first | assumption | (simp only [lk_lset, lk, ofString_inj, String.reduceEq, if_true, if_false] <;> first | rfl | assumption)) ?_
    refine vg_own pc_Graph gr.x gr.d gns_adj m__adj rfl ?_
    refine ve_local (by first | assumption | (simp only [lk_lset, lk, ofString_inj, String.reduceEq, if_true, if_false] <;> first | rfl | assumption)) ?_
    refine vi_dict gr.ad (by rw [kA, ivl_map, if_pos hxV]) ?_
    refine vl_nil ?_
    refine vc_list_dict (gr.row _ hxV) (by rw [kR, List.length_map]; exact Nat.le_trans (hzr x hxV) (by decide)) fun b hb => ?_
    rw [show ((kR G N x).map fun p => AV.int p.1) = (N x).map AV.int by rw [kR, List.map_map]; rfl] at *
    have bb := ins_self (o := .list ((N x).map .int)) hb
    refine vit_list bb ?_
    refine ⟨fun j y => BInB G V N dg s0 D q (bfold x (bS N s0 k) ((N x).take j)) y ∧ lk y.l "n" = some (.int x) ∧ y.σ.f b = some (.list ((N x).map .int)) ∧ y.z.f b = none, (N x).length, ⟨⟨gr.ext (Ext.ins hb), (by first | assumption | (simp only [lk_lset, lk, ofString_inj, String.reduceEq, if_true, if_false] <;> first | rfl | assumption)), (by first | assumption | (simp only [lk_lset, lk, ofString_inj, String.reduceEq, if_true, if_false] <;> first | rfl | assumption)), (by first | assumption | (simp only [lk_lset, lk, ofString_inj, String.reduceEq, if_true, if_false] <;> first | rfl | assumption)), fs.imp fun m h => ⟨h.1, ins_old hb h.2⟩, ins_old hb fq, yi, yf, exx.trans (Ext.ins hb), zD, zq⟩, (by first | assumption | (simp only [lk_lset, lk, ofString_inj, String.reduceEq, if_true, if_false] <;> first | rfl | assumption)), bb, exx.fresh hb⟩, fun j y hJ => ?_⟩
    have hqb := ne_fresh hb fq
    have hqD : q ≠ D := fun e => by obtain ⟨m, _, fs⟩ := fs; rw [e, fs] at fq; cases fq
    have hbD : b ≠ D := fun e => by obtain ⟨m, _, fs⟩ := fs; rw [← e, hb.none] at fs; cases fs
    clear gr lG ls lq fs fq yi yf exx zD zq bb hb
    obtain ⟨hJ, ln, fb, zb⟩ := hJ
    obtain ⟨f, i, z, l, σ1⟩ := y
    obtain ⟨gr, lG, ls, lq, ⟨m, hm, fs⟩, fq, yi, yf, exx, zD, zq⟩ := hJ
    dsimp only at gr lG ls lq fs fq yi yf exx zD zq ln fb zb
    refine ⟨⟨_, fb⟩, fun v hv => ?_, fun hv => ?_⟩
    · simp only [listNxt, fb] at hv
      obtain ⟨u, eu, rfl⟩ := ints_at hv
      have hj : j < (N x).length := (List.getElem?_eq_some_iff.mp eu).1
      refine ⟨hj, ?_⟩
      have htj : (N x).take (j + 1) = (N x).take j ++ [u] := by rw [List.take_add_one, eu]; rfl
      have hb1 : bfold x (bS N s0 k) ((N x).take (j + 1)) = bstep x (bfold x (bS N s0 k) ((N x).take j)) u := by rw [htj, bfold_snoc]
      have hI2 : BInv N V s0 (bfold x (bS N s0 k) ((N x).take j)) := fold_ind x _ _ (hI k) fun b y hy hb => binv_step hb (hN x hxV y (List.mem_of_mem_take hy))
      have hl2 := hI2.nd.length_le_of_subset hI2.sub
      have hpre : Pre (bfold x (bS N s0 k) ((N x).take (j + 1))) (bS N s0 V.length) := (pre_take x _ (N x) (j + 1)).trans (hS ▸ pre_le N s0 (Nat.lt_of_lt_of_le hkl (hlen k)))
      refine va_local ?_
      refine gb_cons (gs_if ?_)
      refine vt_cmp ?_
      refine ve_local (by first | assumption | (simp only [lk_lset, lk, ofString_inj, String.reduceEq, if_true, if_false] <;> first | rfl | assumption)) ?_
      refine ve_local (by first | assumption | (simp only [lk_lset, lk, ofString_inj, String.reduceEq, if_true, if_false] <;> first | rfl | assumption)) ?_
      refine vo_notin_set fs (by omega) ?_
      refine vtr_bool ?_
      by_cases hu : u ∈ (bfold x (bS N s0 k) ((N x).take j)).qs
      · rw [if_neg (by simp [hu])]
        refine gb_nil ?_
        refine gb_nil ?_
        have hb2 : bfold x (bS N s0 k) ((N x).take (j + 1)) = bfold x (bS N s0 k) ((N x).take j) := by rw [hb1, bstep, if_pos hu]
        show BInB _ _ _ _ _ _ _ (bfold x (bS N s0 k) ((N x).take (j + 1))) _ ∧ _
        rw [hb2]
        exact ⟨⟨gr, (by first | assumption | (simp only [lk_lset, lk, ofString_inj, String.reduceEq, if_true, if_false] <;> first | rfl | assumption)), (by first | assumption | (simp only [lk_lset, lk, ofString_inj, String.reduceEq, if_true, if_false] <;> first | rfl | assumption)), (by first | assumption | (simp only [lk_lset, lk, ofString_inj, String.reduceEq, if_true, if_false] <;> first | rfl | assumption)), ⟨m, hm, fs⟩, fq, yi, yf, exx, zD, zq⟩, (by first | assumption | (simp only [lk_lset, lk, ofString_inj, String.reduceEq, if_true, if_false] <;> first | rfl | assumption)), fb, zb⟩
      · rw [if_pos (by simp [hu])]
        have hb2 : bfold x (bS N s0 k) ((N x).take (j + 1)) = ⟨(bfold x (bS N s0 k) ((N x).take j)).qs ++ [u], (bfold x (bS N s0 k) ((N x).take j)).ys ++ [(x, u)]⟩ := by rw [hb1, bstep, if_neg hu]
        rw [hb2] at hpre
        show GB _ _ _ _ _
        generalize hbb : bfold x (bS N s0 k) ((N x).take j) = bb at *
        have hz1 : z.f D = none := zD
        refine gb_cons (gy_of ?_)
        refine vs_expr ?_ (hi := hi)
        refine ve_mcall ?_
        refine ve_local (by first | assumption | (simp only [lk_lset, lk, ofString_inj, String.reduceEq, if_true, if_false] <;> first | rfl | assumption)) ?_
        refine vm_set_add fs (by omega) ?_
        refine ⟨keep_builtin, ?_⟩
        refine vl_cons ?_
        refine ve_local (by first | assumption | (simp only [lk_lset, lk, ofString_inj, String.reduceEq, if_true, if_false] <;> first | rfl | assumption)) ?_
        refine vl_nil ?_
        refine vc_set_add fs (by omega) ?_
        refine ⟨(by intro a q; cases q), ?_⟩
        have gr1 := gr.upd (o' := .set (fun y => decide (y ∈ bb.qs) || decide (y = u)) (if decide (u ∈ bb.qs) = true then m else m + 1)) fs rfl (fun q => by have e := gr.x; rw [← q, fs] at e; cases e)
        have ex1 := exx.upd (o := .set (fun y => decide (y ∈ bb.qs) || decide (y = u)) (if decide (u ∈ bb.qs) = true then m else m + 1)) zD
        have fq := upd_ne (o := (.set (fun y => decide (y ∈ bb.qs) || decide (y = u)) (if decide (u ∈ bb.qs) = true then m else m + 1))) (ne_obj fq fs (by intro q; cases q)) fq
        have fb := upd_ne (o := (.set (fun y => decide (y ∈ bb.qs) || decide (y = u)) (if decide (u ∈ bb.qs) = true then m else m + 1))) (ne_obj fb fs (by intro q; cases q)) fb
        have fs := upd_self (o' := (.set (fun y => decide (y ∈ bb.qs) || decide (y = u)) (if decide (u ∈ bb.qs) = true then m else m + 1))) fs
        show GB _ _ _ _ ⟨_, _, z, _, (σ1.upd D (.set (fun y => decide (y ∈ bb.qs) || decide (y = u)) (if decide (u ∈ bb.qs) = true then m else m + 1)))⟩
        have hset : (fun y => decide (y ∈ bb.qs) || decide (y = u)) = (fun y => decide (y ∈ bb.qs ++ [u])) := by funext y; simp
        rw [hset] at gr1 ex1 fs fq fb ⊢
        rw [if_neg (by simpa using hu)] at gr1 ex1 fs fq fb ⊢
        generalize (σ1.upd D (.set (fun y => decide (y ∈ bb.qs ++ [u])) (m + 1))) = σ2 at gr1 ex1 fs fq fb ⊢
        refine gb_cons (gy_of ?_)
        refine vs_expr ?_ (hi := hi)
        refine ve_mcall ?_
        refine ve_local (by first | assumption | (simp only [lk_lset, lk, ofString_inj, String.reduceEq, if_true, if_false] <;> first | rfl | assumption)) ?_
        refine vm_list fq PySem.F.slot_list_append PySem.F.type_list_append ?_
        refine ⟨keep_builtin, ?_⟩
        refine vl_cons ?_
        refine ve_local (by first | assumption | (simp only [lk_lset, lk, ofString_inj, String.reduceEq, if_true, if_false] <;> first | rfl | assumption)) ?_
        refine vl_nil ?_
        refine vc_append fq (by rw [List.length_map]; omega) ?_
        refine ⟨(by intro a q; cases q), ?_⟩
        have gr2 := gr1.upd (o' := .list (bb.qs.map .int ++ [.int u])) fq rfl (fun e => by have e' := gr1.x; rw [← e, fq] at e'; cases e')
        have ex2 := ex1.upd (o := .list (bb.qs.map .int ++ [.int u])) zq
        have fb2 : (σ2.upd q (.list (bb.qs.map .int ++ [.int u]))).f b = some (.list ((N x).map .int)) := upd_ne hqb.symm fb
        have fs2 := upd_ne (o := .list (bb.qs.map .int ++ [.int u])) (ne_obj fs fq (by intro q; cases q)) fs
        have fq2 := upd_self (o' := .list (bb.qs.map .int ++ [.int u])) fq
        show GB _ _ _ _ ⟨_, _, z, _, (σ2.upd q (.list (bb.qs.map .int ++ [.int u])))⟩
        generalize (σ2.upd q (.list (bb.qs.map .int ++ [.int u]))) = σ3 at gr2 ex2 fs2 fq2 fb2 ⊢
        refine gb_cons (gs_yield ?_ (hi := hi))
        refine ve_tuple ?_
        refine vl_cons ?_
        refine ve_local (by first | assumption | (simp only [lk_lset, lk, ofString_inj, String.reduceEq, if_true, if_false] <;> first | rfl | assumption)) ?_
        refine vl_cons ?_
        refine ve_local (by first | assumption | (simp only [lk_lset, lk, ofString_inj, String.reduceEq, if_true, if_false] <;> first | rfl | assumption)) ?_
        refine vl_nil ?_
        refine ⟨by simp, fun t ht => ?_⟩
        have ex3 := ex2.trans (Ext.ins (o := .tup [.int x, .int u]) ht)
        have fs2 := ins_old (o := (.tup [.int x, .int u])) ht fs2
        have fq2 := ins_old (o := (.tup [.int x, .int u])) ht fq2
        have fb2 := ins_old (o := (.tup [.int x, .int u])) ht fb2
        have tt := ins_self (o := .tup [.int x, .int u]) ht
        generalize (σ3.ins t (.tup [.int x, .int u])) = σ4 at ex3 fs2 fq2 fb2 tt ⊢
        obtain ⟨hY, hYl⟩ := prefix_at hpre.2
        have hf : f = (f - 1) + 1 := by
          have : f + i = (bS N s0 V.length).ys.length := yf
          omega
        refine ⟨f - 1, [(D, .set (fun y => decide (y ∈ bb.qs ++ [u])) (m + 1)), (q, .list (bb.qs.map .int ++ [.int u])), (b, .list ((N x).map .int))], hf, ⟨fs2, ?_, ?_, trivial⟩, ⟨t, (x, u), rfl, by rw [yi]; exact hY, fun c o e => ?_, ?_⟩, fun σ5 g5 h5 => ?_⟩
        · exact del_ne hqD fq2
        · exact del_ne hqb.symm (del_ne hbD fb2)
        · exact del_ne (fun q => by rw [q, zb] at e; cases e) (del_ne (fun q => by rw [q, zq] at e; cases e) (del_ne (fun q => by rw [q, zD] at e; cases e) (ex3 c o e)))
        · exact del_ne (ne_obj tt fb2 (by intro q; cases q)) (del_ne (ne_obj tt fq2 (by intro q; cases q)) (del_ne (ne_obj tt fs2 (by intro q; cases q)) tt))
        refine gb_nil ?_
        refine gb_nil ?_
        show BInB _ _ _ _ _ _ _ (bfold x (bS N s0 k) ((N x).take (j + 1))) _ ∧ _
        rw [hb2]
        have n1 := h5 _ (.head _)
        have n2 := h5 _ (.tail _ (.head _))
        have n3 := h5 _ (.tail _ (.tail _ (.head _)))
        dsimp only at n1 n2 n3
        refine ⟨⟨?_, (by first | assumption | (simp only [lk_lset, lk, ofString_inj, String.reduceEq, if_true, if_false] <;> first | rfl | assumption)), (by first | assumption | (simp only [lk_lset, lk, ofString_inj, String.reduceEq, if_true, if_false] <;> first | rfl | assumption)), (by first | assumption | (simp only [lk_lset, lk, ofString_inj, String.reduceEq, if_true, if_false] <;> first | rfl | assumption)), ⟨m + 1, by simp; omega, ?_⟩, ?_, ?_, ?_, Ext.puts3 n1 n2 n3, n1, n2⟩, (by first | assumption | (simp only [lk_lset, lk, ofString_inj, String.reduceEq, if_true, if_false] <;> first | rfl | assumption)), ?_, n3⟩
        · exact GR.ext g5 (Ext.puts3 n1 n2 n3)
        · show (if D = D then _ else _) = _
          rw [if_pos rfl]
        · show (if q = D then _ else if q = q then _ else _) = _
          rw [if_neg hqD, if_pos rfl, List.map_append]; rfl
        · show i + 1 = _
          rw [yi, List.length_append]; rfl
        · show f - 1 + (i + 1) = _
          omega
        · show (if b = D then _ else if b = q then _ else if b = b then _ else _) = _
          rw [if_neg hbD, if_neg hqb.symm, if_pos rfl]
    · have hjl : (N x).length ≤ j := by
        simp only [listNxt, fb] at hv
        have := List.getElem?_eq_none_iff.mp hv
        rwa [List.length_map] at this
      refine gb_nil ?_
      show BInB _ _ _ _ _ _ _ (bS N s0 (k + 1)) _ ∧ _
      rw [hS]
      rw [List.take_of_length_le hjl] at hm fs fq yi
      refine ⟨⟨gr, lG, ls, lq, ⟨m, hm, fs⟩, fq, yi, yf, exx, zD, zq⟩, ?_⟩
      have := (pre_fold x (N x) (bS N s0 k)).1.length_le
      omega
  · have hkl : (bS N s0 k).qs.length ≤ k := by
      simp only [listNxt, hJ.fq] at hv
      have := List.getElem?_eq_none_iff.mp hv
      rwa [List.length_map] at this
    refine gb_nil ?_
    refine ⟨rfl, ?_, hJ.ex⟩
    show y.i = (bS N s0 V.length).ys.length
    rw [bS_fix hkl V.length (Nat.le_trans hk (hlen k))]
    exact hJ.yi
end
end Mine
end
section
set_option linter.unusedVariables false
namespace Mine
noncomputable def dstep (d : Int → Int) (p : Int × Int) : Int → Int := fun v => if v = p.2 then d p.1 + 1 else d v
noncomputable def bdist (Y : List (Int × Int)) : Int → Int := Y.foldl dstep (fun _ => 0)
theorem bdist_snoc (Y : List (Int × Int)) (p : Int × Int) : bdist (Y ++ [p]) = dstep (bdist Y) p := by simp [bdist]
theorem take_snoc {α : Type} {Y : List α} {i : Nat} {p : α} (h : Y[i]? = some p) : Y.take (i + 1) = Y.take i ++ [p] := by rw [List.take_add_one, h]; rfl
theorem bdist_nonneg : ∀ (Y : List (Int × Int)) (d : Int → Int), (∀ v, 0 ≤ d v) → ∀ v, 0 ≤ Y.foldl dstep d v
  | [], d, h, v => h v
  | p :: Y, d, h, v => bdist_nonneg Y _ (fun v => by unfold dstep; split; have := h p.1; omega; exact h v) v
noncomputable def lmax (l : List Int) : Int := l.foldl max 0
theorem lmax_aux : ∀ (l : List Int) (a : Int), (∀ x ∈ l, x ≤ l.foldl max a) ∧ a ≤ l.foldl max a ∧ (l.foldl max a = a ∨ l.foldl max a ∈ l)
  | [], a => ⟨by simp, Int.le_refl _, .inl rfl⟩
  | x :: l, a => by
    obtain ⟨h1, h2, h3⟩ := lmax_aux l (max a x)
    refine ⟨fun y hy => ?_, Int.le_trans (Int.le_max_left a x) h2, ?_⟩
    · rcases List.mem_cons.mp hy with rfl | q
      · exact Int.le_trans (Int.le_max_right a y) h2
      · exact h1 y q
    · show (l.foldl max (max a x) = a) ∨ _
      rcases h3 with q | q
      · rcases Int.le_total a x with z | z
        · rw [Int.max_eq_right z] at q; exact .inr (by show l.foldl max (max a x) ∈ _; rw [Int.max_eq_right z, q]; simp)
        · rw [Int.max_eq_left z] at q; exact .inl (by rw [Int.max_eq_left z]; exact q)
      · exact .inr (List.mem_cons_of_mem _ q)
theorem lmax_of {l : List Int} {r : Int} (h : r ∈ l) (hm : ∀ x ∈ l, x ≤ r) (hp : ∀ x ∈ l, 0 ≤ x) : r = lmax l := by
  obtain ⟨h1, h2, h3⟩ := lmax_aux l 0
  have a := h1 r h
  have b : lmax l ≤ r := by
    rcases h3 with q | q
    · show l.foldl max 0 ≤ r; rw [q]; exact hp r h
    · exact hm _ q
  exact Int.le_antisymm a b
noncomputable def Par (N : Int → List Int) (s : Int) (b : BS) : Prop := b.qs = s :: b.ys.map (·.2) ∧ ∀ i p, b.ys[i]? = some p → p.1 ∈ s :: (b.ys.take i).map (·.2) ∧ p.2 ∈ N p.1
theorem par_step {N : Int → List Int} {s x y : Int} {b : BS} (h : Par N s b) (hx : x ∈ b.qs) (hy : y ∈ N x) : Par N s (bstep x b y) := by
  unfold bstep
  split
  · exact h
  · refine ⟨by simp [h.1], fun i p hp => ?_⟩
    dsimp only at hp ⊢
    rcases Nat.lt_or_ge i b.ys.length with q | q
    · rw [List.getElem?_append_left q] at hp
      have := h.2 i p hp
      rw [List.take_append_of_le_length (Nat.le_of_lt q)]
      exact this
    · rw [List.getElem?_append_right q] at hp
      have hi : i - b.ys.length = 0 := by
        rcases Nat.eq_zero_or_pos (i - b.ys.length) with z | z
        · exact z
        · rw [List.getElem?_eq_none (by rw [List.length_singleton]; omega)] at hp; cases hp
      rw [hi] at hp
      cases hp
      have : i = b.ys.length := by omega
      subst this
      rw [List.take_left', ← h.1]
      · exact ⟨hx, hy⟩
      · rfl
theorem par_fold {N : Int → List Int} {s x : Int} (l : List Int) (b : BS) (h : Par N s b) (hx : x ∈ b.qs) (hl : ∀ y, y ∈ l → y ∈ N x) : Par N s (bfold x b l) :=
  (fold_ind (P := fun b => Par N s b ∧ x ∈ b.qs) x l b ⟨h, hx⟩ fun b y hy hb => ⟨par_step hb.1 hb.2 (hl y hy), (pre_step x b y).1.subset hb.2⟩).1
theorem par (N : Int → List Int) (s : Int) : ∀ k, Par N s (bS N s k)
  | 0 => ⟨rfl, fun i p hp => by simp [bS] at hp⟩
  | k + 1 => by
    have ih := par N s k
    show Par N s (match (bS N s k).qs[k]? with | some x => bfold x (bS N s k) (N x) | none => bS N s k)
    split
    · rename_i x hx
      exact par_fold _ _ ih (List.mem_of_getElem? hx) fun y hy => hy
    · exact ih
end Mine
namespace Mine
noncomputable def lmin : List Int → Int
  | [] => 0
  | a :: r => r.foldl min a
theorem lmin_aux : ∀ (l : List Int) (a : Int), (∀ x ∈ l, l.foldl min a ≤ x) ∧ l.foldl min a ≤ a ∧ (l.foldl min a = a ∨ l.foldl min a ∈ l)
  | [], a => ⟨by simp, Int.le_refl _, .inl rfl⟩
  | x :: l, a => by
    obtain ⟨h1, h2, h3⟩ := lmin_aux l (min a x)
    refine ⟨fun y hy => ?_, Int.le_trans h2 (Int.min_le_left a x), ?_⟩
    · rcases List.mem_cons.mp hy with rfl | q
      · exact Int.le_trans h2 (Int.min_le_right a y)
      · exact h1 y q
    · show (l.foldl min (min a x) = a) ∨ _
      rcases h3 with q | q
      · rcases Int.le_total a x with z | z
        · rw [Int.min_eq_left z] at q; exact .inl (by rw [Int.min_eq_left z]; exact q)
        · rw [Int.min_eq_right z] at q; exact .inr (by show l.foldl min (min a x) ∈ _; rw [Int.min_eq_right z, q]; simp)
      · exact .inr (List.mem_cons_of_mem _ q)
theorem lmin_spec : ∀ {l : List Int}, l ≠ [] → lmin l ∈ l ∧ ∀ x ∈ l, lmin l ≤ x
  | [], h => absurd rfl h
  | a :: r, _ => by
    obtain ⟨h1, h2, h3⟩ := lmin_aux r a
    refine ⟨?_, fun x hx => ?_⟩
    · rcases h3 with q | q
      · exact (by show r.foldl min a ∈ _; rw [q]; simp)
      · exact List.mem_cons_of_mem _ q
    · rcases List.mem_cons.mp hx with rfl | q
      · exact h2
      · exact h1 x q
theorem lmin_of {l : List Int} {r : Int} (h : r ∈ l) (hm : ∀ x ∈ l, r ≤ x) : r = lmin l := by
  obtain ⟨a, b⟩ := lmin_spec (l := l) (by intro q; rw [q] at h; cases h)
  exact Int.le_antisymm (hm _ a) (b _ h)
end Mine
end
section
open PySem PySem.W PySem.Calls PyProof.Rows
set_option maxRecDepth 100000
set_option linter.unusedVariables false
set_option linter.unusedSimpArgs false
namespace Mine
variable {w : World} {σ : AS} {n : Nat}
section
variable {G : GA} {V : List Int} {N : Int → List Int} {dg : Option Addr} {Q : AV → AS → Prop}
noncomputable def bD (N : Int → List Int) (V : List Int) (s : Int) : List (Int × AV) := (bS N s V.length).qs.map fun v => (v, .int (bdist (Ybfs N V s) v))
theorem fn_spl {s0 : Int} (g : GR σ G V V N dg) (hs : s0 ∈ V) (hN : ∀ v, v ∈ V → ∀ u, u ∈ N v → u ∈ V) (hz : V.length ≤ 900) (hzr : ∀ v, v ∈ V → (N v).length ≤ 900)
    (h : ∀ σ' D ep, Ext σ σ' → σ'.f D = some (.idict (bD N V s0) ep) → Q (.ref D) σ') : VC (KK w) w (n + 3) (.ref 668) [.ref G.x, .int s0] Q σ := by
  refine vc_def (f := 668) rfl rfl (by kernel_rfl) (vbi_2 (x := "G") (y := "source") ⟨by rfl, fun L env hL he => ?_⟩)
  have k_G := kd_of he (x := "G") (k := .local) rfl
  have k_source := kd_of he (x := "source") (k := .local) rfl
  have k_dist := kd_of he (x := "dist") (k := .local) rfl
  have k_n := kd_of he (x := "n") (k := .local) rfl
  have k_nbr := kd_of he (x := "nbr") (k := .local) rfl
  have k_bfs_edges := kd_of he (x := "bfs_edges") (k := .globalImplicit) rfl
  clear he
  have hB := binv (N := N) hs hN V.length
  have hBl := hB.nd.length_le_of_subset hB.sub
  refine vb_cons ?_
  refine vs_assign ?_
  refine ve_dict1 fun D hD => ?_
  refine ve_local (by first | assumption | (simp only [lk_lset, lk, ofString_inj, String.reduceEq, if_true, if_false] <;> first | rfl | assumption)) ?_
  refine ve_const_int ?_
  refine ⟨s0, rfl, ins_self hD, fun ep => ?_⟩
  refine va_local ?_
  have e1 : Ext σ ((σ.ins D (.idict [] 0)).upd D (.idict [(s0, .int 0)] ep)) := (Ext.ins hD).upd hD.none
  have d1 : ((σ.ins D (.idict [] 0)).upd D (.idict [(s0, .int 0)] ep)).f D = some (.idict [(s0, .int 0)] ep) := upd_at
  refine vb_cons ?_
  generalize ((σ.ins D (.idict [] 0)).upd D (.idict [(s0, .int 0)] ep)) = σ1 at e1 d1 ⊢
  refine vs_for_gen ?_
  refine vxh_call_g (x := "bfs_edges") g_bfs_edges kp_bfs_edges ?_
  refine vl_cons ?_
  refine ve_local (by first | assumption | (simp only [lk_lset, lk, ofString_inj, String.reduceEq, if_true, if_false] <;> first | rfl | assumption)) ?_
  refine vl_cons ?_
  refine ve_local (by first | assumption | (simp only [lk_lset, lk, ofString_inj, String.reduceEq, if_true, if_false] <;> first | rfl | assumption)) ?_
  refine vl_nil ?_
  refine gen_bfs (g.ext e1) hs hN hz hzr fun gn It hd ga => ?_
  refine ⟨It, _, _, rfl, ⟨rfl, rfl, Nat.le_refl _, .inr rfl⟩, ga, ?_⟩
  refine ⟨fun i l σ' => Ext σ σ' ∧ lk l "dist" = some (.ref D) ∧ ∃ ep, σ'.f D = some (.idict ((s0 :: ((Ybfs N V s0).take i).map (·.2)).map fun v => (v, .int (bdist ((Ybfs N V s0).take i) v))) ep), ⟨e1, (by first | assumption | (simp only [lk_lset, lk, ofString_inj, String.reduceEq, if_true, if_false] <;> first | rfl | assumption)), ep, d1⟩, fun i l' σ' hI => ?_⟩
  obtain ⟨i1, i2, ep2, i3⟩ := hI
  refine ⟨g.ext i1, fun v σ2 hy => ?_, fun σ2 hf => ?_⟩
  · obtain ⟨a, ⟨x, y⟩, rfl, hY, hE, ha⟩ := hy
    have i4 := i1.trans hE
    have i5 := hE _ _ i3
    refine va_tup2 ha (va_local (va_local ?_))
    have hx : x ∈ s0 :: ((Ybfs N V s0).take i).map (·.2) := ((par N s0 V.length).2 i (x, y) hY).1
    have hq : s0 :: ((Ybfs N V s0).take (i + 1)).map (·.2) = (s0 :: ((Ybfs N V s0).take i).map (·.2)) ++ [y] := by rw [take_snoc hY, List.map_append]; rfl
    have hn : (s0 :: ((Ybfs N V s0).take (i + 1)).map (·.2)).Nodup := by
      have h1 := hB.nd
      rw [hB.q] at h1
      exact h1.sublist (.cons_cons _ ((List.take_sublist (i + 1) _).map _))
    have hl : (s0 :: ((Ybfs N V s0).take i).map (·.2)).length ≤ 900 := by
      have h1 : (bS N s0 V.length).qs.length = (Ybfs N V s0).length + 1 := by rw [hB.q, List.length_cons, List.length_map]; rfl
      rw [List.length_cons, List.length_map, List.length_take]
      omega
    have hy : y ∉ s0 :: ((Ybfs N V s0).take i).map (·.2) := fun z => by
      rw [hq, List.nodup_append] at hn
      exact hn.2.2 y z y (by simp) rfl
    generalize hk : s0 :: ((Ybfs N V s0).take i).map (·.2) = ks at *
    refine vb_cons ?_
    refine vs_assign ?_
    refine ve_int op_add ?_
    refine ve_sub ?_
    refine ve_local (by first | assumption | (simp only [lk_lset, lk, ofString_inj, String.reduceEq, if_true, if_false] <;> first | rfl | assumption)) ?_
    refine ve_local (by first | assumption | (simp only [lk_lset, lk, ofString_inj, String.reduceEq, if_true, if_false] <;> first | rfl | assumption)) ?_
    refine vi_dict i5 (by rw [ivl_map, if_pos hx]) ?_
    refine ve_const_int ?_
    refine ⟨_, 1, rfl, rfl, trivial, ?_⟩
    refine va_sub_dict ?_
    refine ve_local (by first | assumption | (simp only [lk_lset, lk, ofString_inj, String.reduceEq, if_true, if_false] <;> first | rfl | assumption)) ?_
    refine ve_local (by first | assumption | (simp only [lk_lset, lk, ofString_inj, String.reduceEq, if_true, if_false] <;> first | rfl | assumption)) ?_
    refine ⟨D, y, _, _, rfl, rfl, i5, by rw [List.length_map]; omega, fun ep' => ?_⟩
    refine vb_nil ?_
    refine ⟨i4.upd hD.none, (by first | assumption | (simp only [lk_lset, lk, ofString_inj, String.reduceEq, if_true, if_false] <;> first | rfl | assumption)), ep', ?_⟩
    refine upd_at.trans ?_
    rw [ist_new _ _ _ hy, hq, take_snoc hY, bdist_snoc]
    congr 2
    refine List.map_congr_left fun v _ => ?_
    unfold dstep
    dsimp only
    split <;> rfl
  · obtain ⟨hi, hE⟩ := hf
    subst hi
    refine vb_cons ?_
    refine vs_return ?_
    refine ve_local (by first | assumption | (simp only [lk_lset, lk, ofString_inj, String.reduceEq, if_true, if_false] <;> first | rfl | assumption)) ?_
    refine h _ D ep2 (i1.trans hE) ?_
    have i5 := hE _ _ i3
    rw [List.take_length] at i5
    rw [i5]
    unfold bD
    rw [hB.q]; rfl
end
end Mine
end
section
open PySem PySem.W PySem.Calls PyProof.Rows
set_option maxRecDepth 100000
set_option linter.unusedVariables false
set_option linter.unusedSimpArgs false
namespace Mine
variable {w : World} {σ : AS} {n : Nat}
section
variable {G : GA} {V : List Int} {N : Int → List Int} {dg : Option Addr} {Q : AV → AS → Prop}
noncomputable def bfar (N : Int → List Int) (V : List Int) (v : Int) : Int := lmax ((bS N v V.length).qs.map (bdist (Ybfs N V v)))
noncomputable def bcen (N : Int → List Int) (V : List Int) : List Int := V.filter fun v => bfar N V v == lmin (V.map (bfar N V))
theorem fn_center (g : GR σ G V V N dg) (hN : ∀ v, v ∈ V → ∀ u, u ∈ N v → u ∈ V) (hnd : V.Nodup) (hz : V.length ≤ 900) (hzr : ∀ v, v ∈ V → (N v).length ≤ 900)
    (h : ∀ σ' L, Ext σ σ' → σ'.f L = some (.list ((bcen N V).map .int)) → Q (.ref L) σ') : VC (KK w) w (n + 4) (.ref 680) [.ref G.x] Q σ := by
  refine vc_defC (f := 680) rfl rfl (by kernel_rfl) (vbi_1 (x := "G") fun L env hF he => ?_)
  have k_G := kd_ofC he (x := "G") (k := .cell) rfl
  have k_far := kd_ofC he (x := "far") (k := .cell) rfl
  have c_G : env.cells.lookup (Str.ofString "G") = some (L + 1) := cl_ofC he (by rfl)
  have c_far : env.cells.lookup (Str.ofString "far") = some (L + 1 + 1) := cl_ofC he (by rfl)
  have hE' := eo_ofC he
  clear he
  have F1 := hF.succ
  have hX0 : Ext σ ((σ.ins (L + 1) (.cell none)).ins (L + 1 + 1) (.cell none)) := pushA_ext [("G", .cell), ("far", .cell)] F1
  have n1 := F1.none
  have n2 := F1.succ.none
  have d12 : L + 1 ≠ L + 1 + 1 := Nat.ne_of_lt (Nat.lt_succ_self _)
  have s1 : ((σ.ins (L + 1) (.cell none)).ins (L + 1 + 1) (.cell none)).f (L + 1) = some (.cell none) := ins_ne d12 ins_at
  have s2 : ((σ.ins (L + 1) (.cell none)).ins (L + 1 + 1) (.cell none)).f (L + 1 + 1) = some (.cell none) := ins_at
  refine bindA_cell k_G c_G s1 (bindA_nil ?_)
  show VB _ _ _ _ _ _ _ (((σ.ins (L + 1) (.cell none)).ins (L + 1 + 1) (.cell none)).upd (L + 1) (.cell (some (.ref G.x))))
  have t1 := upd_self (o' := .cell (some (.ref G.x))) s1
  have t2 := upd_ne (o := .cell (some (.ref G.x))) d12.symm s2
  have hX1 := hX0.upd (o := .cell (some (.ref G.x))) n1
  generalize ((σ.ins (L + 1) (.cell none)).ins (L + 1 + 1) (.cell none)).upd (L + 1) (.cell (some (.ref G.x))) = σ0 at hX1 t1 t2
  have g0 := g.ext hX1
  refine vb_cons ?_
  refine vs_assign_cell k_far c_far ?_
  refine ve_dictcomp _ (by dsimp only; (repeat (first | refine (closA_skip (by rfl)).trans ?_ | refine (closA_free (by assumption)).trans ?_)); rfl) ?_
  refine ve_cell c_G t1 ?_
  refine vit_graph g0 fun σ1 hσ1 => ?_
  intro D C cenv hD hC hce hE2
  have k_v := kc_same hce (x := "v") (k := .local) rfl (by decide)
  have k_shortest_path_length := kc_same hce (x := "shortest_path_length") (k := .globalImplicit) rfl (by decide)
  have k_max := kc_same hce (x := "max") (k := .globalImplicit) rfl (by decide)
  have k_G' := kc_own hce hE' (x := "G") rfl k_G
  have c_G' : cenv.cells.lookup (Str.ofString "G") = some (L + 1) := cl_comp hce (by rfl)
  clear hce
  have hX : Ext σ0 σ1 := fun a o e => by rw [hσ1]; exact e
  have hD0 : σ0.f D = none := by rw [← hσ1]; exact hD.none
  refine spec_dict (kvs := kN G V) (ep := G.e1) (by rw [kN, List.length_map]) (fun j l2 σ2 => Ext σ0 σ2 ∧ ∃ e, σ2.f D = some (.idict ((V.take j).map fun v => (v, .int (bfar N V v))) e)) (fun j l2 σ2 hJ => hJ.1 _ _ g0.nd) ⟨?_, ?_⟩ (fun j p l2 σ2 hJ hj hp => ?_) (fun l2 σ2 hJ => ?_)
  · exact hX.trans ((Ext.ins hD).trans (pushA_ext _ hC.succ))
  · exact ⟨_, pushA_ext _ hC.succ _ _ (ins_self hD)⟩
  · obtain ⟨j1, e, j2⟩ := hJ
    obtain ⟨v, ev, rfl⟩ : ∃ v, V[j]? = some v ∧ p = (v, G.na v) := by
      rw [kN, List.getElem?_map] at hp
      obtain ⟨y, h1, h2⟩ := Option.map_eq_some_iff.mp hp
      exact ⟨y, h1, h2.symm⟩
    have hv : v ∈ V := List.mem_of_getElem? ev
    refine va_local ?_
    refine vy_bodyD0 ?_
    refine ve_local (by first | assumption | (simp only [lk_lset, lk, ofString_inj, String.reduceEq, if_true, if_false] <;> first | rfl | assumption)) ?_
    refine ve_call_b (x := "max") b_max bb_max kb_max ?_
    refine vl_cons ?_
    refine ve_mcall ?_
    refine ve_call_g (x := "shortest_path_length") g_shortest_path_length kp_shortest_path_length ?_
    refine vl_cons ?_
    refine ve_cell c_G' (j1 _ _ t1) ?_
    refine vl_cons ?_
    refine ve_local (by first | assumption | (simp only [lk_lset, lk, ofString_inj, String.reduceEq, if_true, if_false] <;> first | rfl | assumption)) ?_
    refine vl_nil ?_
    refine fn_spl (g0.ext j1) hv hN hz hzr fun σ3 D2 e2 x3 d3 => ?_
    refine vm_dict d3 PySem.F.slot_dict_values PySem.F.type_dict_values ?_
    refine ⟨keep_builtin, vl_nil ?_⟩
    refine vc_dvalues d3 fun vw hvw => ?_
    refine vl_nil ?_
    have hvals : (bD N V v).map (·.2) = ((bS N v V.length).qs.map (bdist (Ybfs N V v))).map .int := by
      rw [bD, List.map_map, List.map_map]; rfl
    refine vc_max_vals (ins_self hvw) (Ext.ins hvw _ _ d3) hvals (fun q => ?_) fun r hr1 hr2 => ?_
    · have h1 := (binv (N := N) hv hN V.length).q
      rw [List.map_eq_nil_iff.mp q] at h1
      cases h1
    have hr3 : r = bfar N V v := lmax_of hr1 hr2 fun x hx => by
      obtain ⟨u, _, rfl⟩ := List.mem_map.mp hx
      exact bdist_nonneg _ _ (fun _ => Int.le_refl _) u
    subst hr3
    have j3 := (j1.trans x3).add (o := .raw (valObj D2)) hvw
    have j4 := (Ext.ins (o := .raw (valObj D2)) hvw) _ _ (x3 _ _ j2)
    have hvn : v ∉ V.take j := fun q => by
      have h1 : (V.take (j + 1)).Nodup := hnd.sublist (List.take_sublist _ _)
      rw [take_snoc ev, List.nodup_append] at h1
      exact h1.2.2 v q v (by simp) rfl
    refine ⟨v, _, e, rfl, j4, by rw [List.length_map, List.length_take]; omega, fun e5 => ⟨j3.upd hD0, e5, ?_⟩⟩
    refine upd_at.trans ?_
    rw [ist_new _ _ _ hvn, take_snoc ev]
    congr 2
    refine List.map_congr_left fun u _ => ?_
    split
    · rename_i q; rw [q]
    · rfl
  · obtain ⟨j1, e, j2⟩ := hJ
    rw [kN, List.length_map, List.take_length] at j2
    refine ⟨none, j1 _ _ t2, ?_⟩
    have k1 := upd_ne (o := .cell (some (.ref D))) d12 (j1 _ _ t1)
    have k2 := upd_ne (o := .cell (some (.ref D))) (ne_obj j2 (j1 _ _ t2) (by simp)) j2
    have k3 := upd_self (o' := .cell (some (.ref D))) (j1 _ _ t2)
    have x1 := (hX1.trans j1).upd (o := .cell (some (.ref D))) n2
    generalize σ2.upd (L + 1 + 1) (.cell (some (.ref D))) = σ3 at k1 k2 k3 x1 ⊢
    refine vb_cons ?_
    refine vs_return ?_
    refine ve_listcomp _ (by dsimp only; (repeat (first | refine (closA_skip (by rfl)).trans ?_ | refine (closA_free (by assumption)).trans ?_)); rfl) ?_
    refine ve_cell c_G k1 ?_
    have g3 := g.ext x1
    refine vit_graph g3 fun σ4 hσ4 => ?_
    intro D2 C2 cenv hD2 hC2 hce hE3
    have k_v := kc_same hce (x := "v") (k := .local) rfl (by decide)
    have k_min := kc_same hce (x := "min") (k := .globalImplicit) rfl (by decide)
    have k_far' := kc_own hce hE' (x := "far") rfl k_far
    have c_far' : cenv.cells.lookup (Str.ofString "far") = some (L + 1 + 1) := cl_comp hce (by rfl)
    clear hce
    have hX3 : Ext σ3 σ4 := fun a o e => by rw [hσ4]; exact e
    have hD3 : σ3.f D2 = none := by rw [← hσ4]; exact hD2.none
    have hDD : D ≠ D2 := fun q => by rw [q, hD3] at k2; cases k2
    refine spec_dict (kvs := kN G V) (ep := G.e1) (by rw [kN, List.length_map]) (fun j l2 σ2 => Ext σ3 σ2 ∧ σ2.f D2 = some (.list (((V.take j).filter fun v => bfar N V v == lmin (V.map (bfar N V))).map .int))) (fun j l2 σ2 hJ => hJ.1 _ _ g3.nd) ⟨?_, ?_⟩ (fun j p l2 σ2 hJ hj hp => ?_) (fun l2 σ2 hJ => ?_)
    · exact hX3.trans ((Ext.ins hD2).trans (pushA_ext _ hC2.succ))
    · exact pushA_ext _ hC2.succ _ _ (ins_self hD2)
    · obtain ⟨m1, m2⟩ := hJ
      obtain ⟨v, ev, rfl⟩ : ∃ v, V[j]? = some v ∧ p = (v, G.na v) := by
        rw [kN, List.getElem?_map] at hp
        obtain ⟨y, h1, h2⟩ := Option.map_eq_some_iff.mp hp
        exact ⟨y, h1, h2.symm⟩
      have hv : v ∈ V := List.mem_of_getElem? ev
      refine va_local ?_
      refine vy_bodyL1 ?_
      refine vt_cmp ?_
      refine ve_sub ?_
      refine ve_cell c_far' (m1 _ _ k3) ?_
      refine ve_local (by first | assumption | (simp only [lk_lset, lk, ofString_inj, String.reduceEq, if_true, if_false] <;> first | rfl | assumption)) ?_
      refine vi_dict (m1 _ _ k2) (by rw [ivl_map, if_pos hv]) ?_
      refine ve_call_b (x := "min") b_min bb_min kb_min ?_
      refine vl_cons ?_
      refine ve_mcall ?_
      refine ve_cell c_far' (m1 _ _ k3) ?_
      refine vm_dict (m1 _ _ k2) PySem.F.slot_dict_values PySem.F.type_dict_values ?_
      refine ⟨keep_builtin, vl_nil ?_⟩
      refine vc_dvalues (m1 _ _ k2) fun vw hvw => ?_
      refine vl_nil ?_
      have hvals : (V.map fun v => (v, AV.int (bfar N V v))).map (·.2) = (V.map (bfar N V)).map .int := by
        rw [List.map_map, List.map_map]; rfl
      refine vc_min_vals (ins_self hvw) (Ext.ins hvw _ _ (m1 _ _ k2)) hvals (fun q => ?_) fun r hr1 hr2 => ?_
      · rw [List.map_eq_nil_iff.mp q] at hv
        cases hv
      have hr3 := lmin_of hr1 hr2
      subst hr3
      refine vo_int_eq ?_
      refine vtr_bool ?_
      have m3 := m1.add (o := .raw (valObj D)) hvw
      have m4 := (Ext.ins (o := .raw (valObj D)) hvw) _ _ m2
      have hf := take_filter (fun v => bfar N V v == lmin (V.map (bfar N V))) V ev
      cases hin : bfar N V v == lmin (V.map (bfar N V)) with
      | false =>
        rw [hin] at hf
        rw [if_neg Bool.false_ne_true]
        refine ⟨m3, ?_⟩
        rw [hf]; simpa using m4
      | true =>
        rw [hin] at hf
        rw [if_pos rfl]
        refine ve_local (by first | assumption | (simp only [lk_lset, lk, ofString_inj, String.reduceEq, if_true, if_false] <;> first | rfl | assumption)) ?_
        have hl5 := List.length_filter_le (fun v => bfar N V v == lmin (V.map (bfar N V))) (V.take j)
        rw [List.length_take] at hl5
        refine ⟨_, m4, by rw [List.length_map]; omega, m3.upd hD3, ?_⟩
        rw [hf, if_pos rfl, List.map_append]
        exact upd_at
    · obtain ⟨m1, m2⟩ := hJ
      rw [kN, List.length_map, List.take_length] at m2
      exact h _ _ (x1.trans m1) m2
end
end Mine
end
section
open PySem PySem.W PySem.Calls PyProof.Rows
set_option maxRecDepth 100000
set_option linter.unusedVariables false
set_option linter.unusedSimpArgs false
namespace Mine
variable {w : World} {σ : AS} {n : Nat}
section
variable {G : GA} {U V : List Int} {N : Int → List Int} {dg : Option Addr} {Q : AV → AS → Prop}
theorem m__succ : findIn (KK w) (.ref 629) "_succ" = some none := by kernel_rfl
theorem m__pred : findIn (KK w) (.ref 629) "_pred" = some none := by kernel_rfl
theorem mod_Graph : mroIn (KK w) 629 (.type "module") = some false := by kernel_rfl
theorem nm_Graph : (clsIn (KK w) 629).any (fun cd => cd.name == Str.ofString "Graph") = true := by kernel_rfl
theorem v__succ : findIn (KK w) (.ref 154) "_succ" = some none := by kernel_rfl
theorem v__pred : findIn (KK w) (.ref 154) "_pred" = some none := by kernel_rfl
theorem v__nodes : findIn (KK w) (.ref 154) "_nodes" = some none := by kernel_rfl
theorem v__weight : findIn (KK w) (.ref 154) "_weight" = some none := by kernel_rfl
theorem vt__succ : takerIn (KK w) 154 "_succ" = some none := by kernel_rfl
theorem vt__pred : takerIn (KK w) 154 "_pred" = some none := by kernel_rfl
theorem vt__nodes : takerIn (KK w) 154 "_nodes" = some none := by kernel_rfl
theorem vt__weight : takerIn (KK w) 154 "_weight" = some none := by kernel_rfl
noncomputable def vns (ad : Addr) : List (Str × AV) := [("_succ", .ref ad), ("_pred", .ref ad), ("_nodes", .ref ad), ("_weight", .none)]
theorem ha_miss (name : String) (h0 : name = "_succ" ∨ name = "_pred") (g : GR σ G U V N dg) (h : Q (.bool false) σ) : VC (KK w) w n (.builtin "hasattr") [.ref G.x, .str (Str.ofString name)] Q σ := by
  refine vc_hasattr_miss (nm := "Graph") pc_Graph g.x g.d ?_ ?_ mod_Graph ?_ nm_Graph (by decide +kernel) ?_ h
  · rcases h0 with rfl | rfl <;> exact gns_none (by decide) (by decide) (by decide) (by decide)
  · rcases h0 with rfl | rfl
    · exact m__succ
    · exact m__pred
  · rcases h0 with rfl | rfl <;> decide +kernel
  · rcases h0 with rfl | rfl <;> decide +kernel
theorem GR.updN (g : GR σ G U V N dg) {a : Addr} {m : List (Str × AV)} {o' : AO} (h : σ.f a = some (.ns m)) (hne : a ≠ G.d) : GR (σ.upd a o') G U V N dg :=
  ⟨upd_ne (ne_obj g.x h (by intro q; cases q)) g.x, upd_ne (Ne.symm hne) g.d, upd_ne (ne_obj g.nd h (by intro q; cases q)) g.nd, upd_ne (ne_obj g.ad h (by intro q; cases q)) g.ad, fun v hv => upd_ne (ne_obj (g.row v hv) h (by intro q; cases q)) (g.row v hv), g.ne, g.rn, g.inj⟩
theorem view_init {D d : Addr} (g : GR σ G U V N dg) (hx : σ.f D = some (.inst 154 d)) (hd : σ.f d = some (.ns [])) (hne : d ≠ G.d)
    (h : ∀ σ', (∀ a o, a ≠ d → σ.f a = some o → σ'.f a = some o) → σ'.f d = some (.ns (vns G.ad)) → Q .none σ') : VCode (KK w) w (n + 1) (.ref 94) [.ref D, .ref G.x] [] Q σ := by
  refine vcode_def (f := 94) rfl rfl (by kernel_rfl) (vbi_peek (fun vs _ => [("self", vs.headD .none), ("G", (vs.drop 1).headD .none), ("nbunch", .none), ("weight", .none)]) (fun vs kvs ha hkw => ?_) (fun vs kvs ha hkw => ⟨by rfl, fun L env hL he => ?_⟩))
  · obtain ⟨v, u, rfl, hv, hu⟩ := two_of ha
    obtain rfl : kvs = [] := by simpa using hkw
    rfl
  obtain ⟨v, u, rfl, hv, hu⟩ := two_of ha
  show VB _ _ _ _ _ _ (erB [((Str.ofString "self" : Str), v), ("G", u), ("nbunch", .none), ("weight", .none)]) _
  simp only [erB_cons, erB_nil, hv, hu, show er .none = .none from rfl]
  have k_self := kd_of he (x := "self") (k := .local) rfl
  have k_G := kd_of he (x := "G") (k := .local) rfl
  have k_nbunch := kd_of he (x := "nbunch") (k := .local) rfl
  have k_weight := kd_of he (x := "weight") (k := .local) rfl
  have k_hasattr := kd_of he (x := "hasattr") (k := .globalImplicit) rfl
  clear he
  refine vb_cons ?_
  refine vs_assign ?_
  refine ve_ifexp ?_
  refine vt_value ?_
  refine ve_call_b (x := "hasattr") b_hasattr bb_hasattr kb_hasattr ?_
  refine vl_cons ?_
  refine ve_local (by first | assumption | (simp only [lk_lset, lk, ofString_inj, String.reduceEq, if_true, if_false] <;> first | rfl | assumption)) ?_
  refine vl_cons ?_
  refine ve_const_str ?_
  refine vl_nil ?_
  refine ha_miss "_succ" (.inl rfl) g ?_
  refine vtr_bool ?_
  rw [if_neg Bool.false_ne_true]
  refine ve_attr ?_
  refine ve_local (by first | assumption | (simp only [lk_lset, lk, ofString_inj, String.reduceEq, if_true, if_false] <;> first | rfl | assumption)) ?_
  refine vg_own pc_Graph g.x g.d gns_adj m__adj rfl ?_
  refine va_attr ?_
  refine ve_local (by first | assumption | (simp only [lk_lset, lk, ofString_inj, String.reduceEq, if_true, if_false] <;> first | rfl | assumption)) ?_
  refine ⟨D, 154, d, [], rfl, hx, hd, by decide, pc_View, vt__succ, ?_⟩
  have hE : ∀ a o, a ≠ d → σ.f a = some o → (σ.upd d (.ns (lset "_succ" (.ref G.ad) []))).f a = some o := fun a o q e => upd_ne q e
  replace g := g.updN (o' := .ns (lset "_succ" (.ref G.ad) [])) hd hne
  have hx := upd_ne (o := (.ns (lset "_succ" (.ref G.ad) []))) (ne_obj hx hd (by intro q; cases q)) hx
  have hd := upd_self (o' := (.ns (lset "_succ" (.ref G.ad) []))) hd
  generalize (σ.upd d (.ns (lset "_succ" (.ref G.ad) []))) = σ1 at g hd hx hE ⊢
  refine vb_cons ?_
  refine vs_assign ?_
  refine ve_ifexp ?_
  refine vt_value ?_
  refine ve_call_b (x := "hasattr") b_hasattr bb_hasattr kb_hasattr ?_
  refine vl_cons ?_
  refine ve_local (by first | assumption | (simp only [lk_lset, lk, ofString_inj, String.reduceEq, if_true, if_false] <;> first | rfl | assumption)) ?_
  refine vl_cons ?_
  refine ve_const_str ?_
  refine vl_nil ?_
  refine ha_miss "_pred" (.inr rfl) g ?_
  refine vtr_bool ?_
  rw [if_neg Bool.false_ne_true]
  refine ve_attr ?_
  refine ve_local (by first | assumption | (simp only [lk_lset, lk, ofString_inj, String.reduceEq, if_true, if_false] <;> first | rfl | assumption)) ?_
  refine vg_own pc_Graph g.x g.d gns_adj m__adj rfl ?_
  refine va_attr ?_
  refine ve_local (by first | assumption | (simp only [lk_lset, lk, ofString_inj, String.reduceEq, if_true, if_false] <;> first | rfl | assumption)) ?_
  refine ⟨D, 154, d, _, rfl, hx, hd, by simp [lset], pc_View, vt__pred, ?_⟩
  have hm : lset "_pred" (.ref G.ad) (lset "_succ" (.ref G.ad) []) = ([("_succ", .ref G.ad), ("_pred", .ref G.ad)] : Loc) := by simp [lset, ofString_inj]
  rw [hm]
  replace hE : ∀ a o, a ≠ d → σ.f a = some o → (σ1.upd d (.ns [("_succ", .ref G.ad), ("_pred", .ref G.ad)])).f a = some o := fun a o q e => upd_ne q (hE a o q e)
  replace g := g.updN (o' := .ns [("_succ", .ref G.ad), ("_pred", .ref G.ad)]) hd hne
  have hx := upd_ne (o := (.ns [("_succ", .ref G.ad), ("_pred", .ref G.ad)])) (ne_obj hx hd (by intro q; cases q)) hx
  have hd := upd_self (o' := (.ns [("_succ", .ref G.ad), ("_pred", .ref G.ad)])) hd
  generalize (σ1.upd d (.ns [("_succ", .ref G.ad), ("_pred", .ref G.ad)])) = σ2 at g hd hx hE ⊢
  refine vb_cons ?_
  refine vs_assign ?_
  refine ve_attr ?_
  refine ve_local (by first | assumption | (simp only [lk_lset, lk, ofString_inj, String.reduceEq, if_true, if_false] <;> first | rfl | assumption)) ?_
  refine vg_own (v := .ref G.ad) pc_View hx hd (by simp [lk, ofString_inj]) v__succ rfl ?_
  refine va_attr ?_
  refine ve_local (by first | assumption | (simp only [lk_lset, lk, ofString_inj, String.reduceEq, if_true, if_false] <;> first | rfl | assumption)) ?_
  refine ⟨D, 154, d, _, rfl, hx, hd, by simp, pc_View, vt__nodes, ?_⟩
  have hm2 : lset "_nodes" (.ref G.ad) ([("_succ", .ref G.ad), ("_pred", .ref G.ad)] : Loc) = ([("_succ", .ref G.ad), ("_pred", .ref G.ad), ("_nodes", .ref G.ad)] : Loc) := by simp [lset, ofString_inj]
  rw [hm2]
  replace hE : ∀ a o, a ≠ d → σ.f a = some o → (σ2.upd d (.ns [("_succ", .ref G.ad), ("_pred", .ref G.ad), ("_nodes", .ref G.ad)])).f a = some o := fun a o q e => upd_ne q (hE a o q e)
  have hx := upd_ne (o := (.ns [("_succ", .ref G.ad), ("_pred", .ref G.ad), ("_nodes", .ref G.ad)])) (ne_obj hx hd (by intro q; cases q)) hx
  have hd := upd_self (o' := (.ns [("_succ", .ref G.ad), ("_pred", .ref G.ad), ("_nodes", .ref G.ad)])) hd
  generalize (σ2.upd d (.ns [("_succ", .ref G.ad), ("_pred", .ref G.ad), ("_nodes", .ref G.ad)])) = σ3 at hd hx hE ⊢
  refine vb_cons ?_
  refine vs_assign ?_
  refine ve_local (by first | assumption | (simp only [lk_lset, lk, ofString_inj, String.reduceEq, if_true, if_false] <;> first | rfl | assumption)) ?_
  refine va_attr ?_
  refine ve_local (by first | assumption | (simp only [lk_lset, lk, ofString_inj, String.reduceEq, if_true, if_false] <;> first | rfl | assumption)) ?_
  refine ⟨D, 154, d, _, rfl, hx, hd, by simp, pc_View, vt__weight, ?_⟩
  have hm3 : lset "_weight" .none ([("_succ", .ref G.ad), ("_pred", .ref G.ad), ("_nodes", .ref G.ad)] : Loc) = vns G.ad := by simp [lset, ofString_inj, vns]
  rw [hm3]
  refine vb_nil ?_
  exact h _ (fun a o q e => upd_ne q (hE a o q e)) upd_at
end
end Mine
end
section
open PySem PySem.W PySem.Calls PyProof.Rows
set_option maxRecDepth 100000
set_option linter.unusedVariables false
set_option linter.unusedSimpArgs false
namespace Mine
variable {w : World} {σ : AS} {n : Nat}
section
variable {K : Frag} {env : Env} {l : Loc}
theorem ve_add_ib {lhs rhs : Expr} {pos : Pos} {Q : AV → AS → Prop}
    (h : VE K w n env l lhs (fun a σ1 => VE K w n env l rhs (fun b σ2 => ∃ x y, a = .int x ∧ b = .bool y ∧ Q (.int (x + if y = true then (1 : Int) else 0)) σ2) σ1) σ) : VE K w n env l (.BinOp lhs .Add rhs pos) Q σ := by
  refine ve_binop (vx_mono h fun a σ1 h1 => vx_mono h1 fun b σ2 h2 a' b' ha hb => ?_)
  obtain ⟨x, y, rfl, rfl, hq⟩ := h2
  obtain ⟨t, rfl⟩ := er_int ha
  rw [er_bool hb]
  exact fun A B s hr X he R kk E hk => PySem.add_int_bool (hk _ _ _ hq R.toks)
end
section
variable {G : GA} {U V : List Int} {N : Int → List Int} {dg : Option Addr} {Q : AV → AS → Prop}
structure VW (σ : AS) (D d : Addr) (ad : Addr) : Prop where
  x : σ.f D = some (.inst 154 d)
  d : σ.f d = some (.ns (vns ad))
theorem VW.ext {σ' : AS} {D d ad : Addr} (v : VW σ D d ad) (h : Ext σ σ') : VW σ' D d ad := ⟨h _ _ v.x, h _ _ v.d⟩
theorem lk_succ {ad : Addr} : lk (vns ad) "_succ" = some (.ref ad) := by simp [vns, lk, ofString_inj]
theorem lk_nodes {ad : Addr} : lk (vns ad) "_nodes" = some (.ref ad) := by simp [vns, lk, ofString_inj]
theorem lk_weight {ad : Addr} : lk (vns ad) "_weight" = some .none := by simp [vns, lk, ofString_inj]
theorem view_call {D d ad : Addr} (v : VW σ D d ad) (h : Q (.ref D) σ) : VCode (KK w) w (n + 1) (.ref 102) [.ref D] [("weight", .none)] Q σ := by
  refine vcode_def (f := 102) rfl rfl (by kernel_rfl) (vbi_peek (fun vs ks => [("self", vs.headD .none), ("nbunch", .none), ("weight", .none)]) (fun vs kvs ha hkw => ?_) (fun vs kvs ha hkw => ⟨by rfl, fun L env hL he => ?_⟩))
  · obtain ⟨v, rfl, hv⟩ := one_of ha
    obtain ⟨p, rfl⟩ : ∃ p, kvs = [p] := by
      rcases kvs with _ | ⟨p, _ | ⟨q, r⟩⟩
      · cases hkw
      · exact ⟨p, rfl⟩
      · simp at hkw
    obtain ⟨p1, p2⟩ := p
    simp only [List.map_cons, List.map_nil, List.cons.injEq, Prod.mk.injEq, and_true] at hkw
    obtain ⟨rfl, hp⟩ := hkw
    obtain rfl := er_none hp
    kernel_rfl
  obtain ⟨v0, rfl, hv⟩ := one_of ha
  show VB _ _ _ _ _ _ (erB [((Str.ofString "self" : Str), v0), ("nbunch", .none), ("weight", .none)]) _
  simp only [erB_cons, erB_nil, hv, show er .none = .none from rfl]
  have k_self := kd_of he (x := "self") (k := .local) rfl
  have k_nbunch := kd_of he (x := "nbunch") (k := .local) rfl
  have k_weight := kd_of he (x := "weight") (k := .local) rfl
  clear he
  refine vb_cons ?_
  refine vs_if ?_
  refine vt_cmp ?_
  refine ve_local (by first | assumption | (simp only [lk_lset, lk, ofString_inj, String.reduceEq, if_true, if_false] <;> first | rfl | assumption)) ?_
  refine ve_const_none ?_
  refine vo_is_none ?_
  refine vtr_bool ?_
  rw [if_pos (by rfl)]
  refine vb_cons ?_
  refine vs_if ?_
  refine vt_cmp ?_
  refine ve_local (by first | assumption | (simp only [lk_lset, lk, ofString_inj, String.reduceEq, if_true, if_false] <;> first | rfl | assumption)) ?_
  refine ve_attr ?_
  refine ve_local (by first | assumption | (simp only [lk_lset, lk, ofString_inj, String.reduceEq, if_true, if_false] <;> first | rfl | assumption)) ?_
  refine vg_own pc_View v.x v.d lk_weight v__weight rfl ?_
  refine vo_none_eq_none ?_
  refine vtr_bool ?_
  rw [if_pos (by rfl)]
  refine vb_cons ?_
  refine vs_return ?_
  refine ve_local (by first | assumption | (simp only [lk_lset, lk, ofString_inj, String.reduceEq, if_true, if_false] <;> first | rfl | assumption)) ?_
  exact h
noncomputable def Pdeg (w : World) (n g : Nat) (G : GA) (V : List Int) (N : Int → List Int) (dg : Option Addr) (D d : Addr) : GP where
  w := w
  K := KK w
  n := n
  g := g
  fin := .ok (.ret .none)
  ok := fun _ σ => GR σ G V V N dg ∧ VW σ D d G.ad
  yld := fun i z v σ' => ∃ a x, v = .ref a ∧ V[i]? = some x ∧ Ext z σ' ∧ σ'.f a = some (.tup [.int x, .int (N x).length])
  fine := fun i z σ' => i = V.length ∧ Ext z σ'
structure DInB (G : GA) (V : List Int) (N : Int → List Int) (dg : Option Addr) (D d c : Addr) (j : Nat) (y : GSt) : Prop where
  gr : GR y.σ G V V N dg
  vw : VW y.σ D d G.ad
  ls : lk y.l "self" = some (.ref D)
  fc : y.σ.f c = some (.cell (some .none))
  yi : y.i = j
  yf : y.f + y.i = V.length
  ex : Ext y.z y.σ
  zc : y.z.f c = none
theorem Ext.puts1 {z : AS} {a : Addr} {x : AO} (h1 : z.f a = none) : Ext z (z.puts [(a, x)]) := fun d o e => by
  show (if d = a then some x else z.f d) = some o
  rw [if_neg (fun q => by rw [q, h1] at e; cases e)]
  exact e
theorem gen_view {D d : Addr} {Q : AV → Hid → AS → Prop} (g : GR σ G V V N dg) (v : VW σ D d G.ad) (hN : ∀ x, x ∈ V → x ∉ N x) (hzr : ∀ v, v ∈ V → (N v).length ≤ 900)
    (h : ∀ gn It hd σ', σ'.f = σ.f → GenAt (Pdeg w n gn G V N dg D d) It hd V.length 0 → Q (.ref It) hd σ') : VCH (KK w) w (n + 2) (.ref 151) [.ref D] Q σ := by
  refine vch_gen (f := 151) rfl rfl (by kernel_rfl) (vbi_1 (x := "self") fun L env hF he => ?_)
  have k_self := kd_ofC he (x := "self") (k := .local) rfl
  have k_n := kd_ofC he (x := "n") (k := .local) rfl
  have k_nbrs := kd_ofC he (x := "nbrs") (k := .local) rfl
  have k_deg := kd_ofC he (x := "deg") (k := .local) rfl
  have k_weight := kd_ofC he (x := "weight") (k := .cell) rfl
  have k_len := kd_ofC he (x := "len") (k := .globalImplicit) rfl
  have c_weight : env.cells.lookup (Str.ofString "weight") = some (L + 1) := cl_ofC he (by rfl)
  have hi : interactive env = false := by rw [he]; rfl
  clear he
  have F1 := hF.succ
  refine bindA_local k_self (bindA_nil fun gn => ?_)
  refine ⟨Pdeg w n gn G V N dg D d, [(L + 1, .cell none)], V.length, rfl, ⟨rfl, rfl, Nat.le_refl _, .inr rfl⟩, rfl, ⟨ins_at, trivial⟩, fun σ' ok' hnn => ?_, fun It hd ga => ?_⟩
  · obtain ⟨g', v'⟩ := ok'
    have n1 : σ'.f (L + 1) = none := hnn _ (.head _)
    have e0 : Ext σ' (σ'.puts [(L + 1, .cell none)]) := Ext.puts1 n1
    have c0 : (σ'.puts [(L + 1, .cell none)]).f (L + 1) = some (.cell none) := by
      show (if L + 1 = L + 1 then _ else _) = _
      rw [if_pos rfl]
    generalize (σ'.puts [(L + 1, .cell none)]) = σ0 at e0 c0 ⊢
    have g0 := g'.ext e0
    have v0 := v'.ext e0
    show GB _ _ _ _ ⟨_, _, σ', _, σ0⟩
    refine gb_cons (gy_of ?_)
    refine vs_assign_cell k_weight c_weight ?_
    refine ve_attr ?_
    refine ve_local (by first | assumption | (simp only [lk_lset, lk, ofString_inj, String.reduceEq, if_true, if_false] <;> first | rfl | assumption)) ?_
    refine vg_own pc_View v0.x v0.d lk_weight v__weight rfl ?_
    refine ⟨none, c0, ?_⟩
    have e1 := e0.upd (o := .cell (some .none)) n1
    have c1 := upd_self (o' := .cell (some .none)) c0
    show GB _ _ _ _ ⟨_, _, σ', _, σ0.upd (L + 1) (.cell (some .none))⟩
    generalize (σ0.upd (L + 1) (.cell (some .none))) = σ1 at e1 c1 ⊢
    have g1 := g'.ext e1
    have v1 := v'.ext e1
    refine gb_cons (gs_if ?_)
    refine vt_cmp ?_
    refine ve_cell c_weight c1 ?_
    refine ve_const_none ?_
    refine vo_is_none ?_
    refine vtr_bool ?_
    rw [if_pos (by rfl)]
    refine gb_cons (gs_for ?_)
    refine ve_attr ?_
    refine ve_local (by first | assumption | (simp only [lk_lset, lk, ofString_inj, String.reduceEq, if_true, if_false] <;> first | rfl | assumption)) ?_
    refine vg_own pc_View v1.x v1.d lk_nodes v__nodes rfl ?_
    refine vit_dict g1.ad ?_
    refine ⟨fun j y => DInB G V N dg D d (L + 1) j y ∧ j ≤ V.length, V.length, ⟨⟨g1, v1, (by first | assumption | (simp only [lk_lset, lk, ofString_inj, String.reduceEq, if_true, if_false] <;> first | rfl | assumption)), c1, rfl, rfl, e1, n1⟩, Nat.zero_le _⟩, fun j y hJ => ?_⟩
    obtain ⟨f, i, z, l, σ2⟩ := y
    obtain ⟨⟨gr, vw, ls, fc, yi, yf, ex, zc⟩, hj⟩ := hJ
    dsimp only at gr vw ls fc yi yf ex zc
    refine ⟨⟨_, gr.ad, by simp [kA]⟩, fun v hv => ?_, fun hv => ?_⟩
    · have hv' : ((kA G V)[j]?).map (fun p => AV.int p.1) = some v := by simpa only [dictNxt, gr.ad] using hv
      obtain ⟨p, hp, rfl⟩ := Option.map_eq_some_iff.mp hv'
      obtain ⟨x, ex', rfl⟩ : ∃ x, V[j]? = some x ∧ p = (x, .ref (G.row x)) := by
        rw [kA, List.getElem?_map] at hp
        obtain ⟨y, h1, h2⟩ := Option.map_eq_some_iff.mp hp
        exact ⟨y, h1, h2.symm⟩
      have hjl : j < V.length := (List.getElem?_eq_some_iff.mp ex').1
      have hx : x ∈ V := List.mem_of_getElem? ex'
      refine ⟨hjl, ?_⟩
      refine va_local ?_
      refine gb_cons (gy_of ?_)
      refine vs_assign ?_
      refine ve_sub ?_
      refine ve_attr ?_
      refine ve_local (by first | assumption | (simp only [lk_lset, lk, ofString_inj, String.reduceEq, if_true, if_false] <;> first | rfl | assumption)) ?_
      refine vg_own pc_View vw.x vw.d lk_succ v__succ rfl ?_
      refine ve_local (by first | assumption | (simp only [lk_lset, lk, ofString_inj, String.reduceEq, if_true, if_false] <;> first | rfl | assumption)) ?_
      refine vi_dict gr.ad (by rw [kA, ivl_map, if_pos hx]) ?_
      refine va_local ?_
      refine gb_cons (gs_yield ?_ (hi := hi))
      refine ve_tuple ?_
      refine vl_cons ?_
      refine ve_local (by first | assumption | (simp only [lk_lset, lk, ofString_inj, String.reduceEq, if_true, if_false] <;> first | rfl | assumption)) ?_
      refine vl_cons ?_
      refine ve_add_ib ?_
      have hrow := gr.row x hx
      refine ve_call_b (x := "len") b_len bb_len kb_len ?_
      refine vl_cons ?_
      refine ve_local (by first | assumption | (simp only [lk_lset, lk, ofString_inj, String.reduceEq, if_true, if_false] <;> first | rfl | assumption)) ?_
      refine vl_nil ?_
      refine vc_len_dict hrow (by rw [kR, List.length_map]; exact Nat.le_trans (hzr x hx) (by decide)) ?_
      refine ve_cmp ?_
      refine ve_local (by first | assumption | (simp only [lk_lset, lk, ofString_inj, String.reduceEq, if_true, if_false] <;> first | rfl | assumption)) ?_
      refine ve_local (by first | assumption | (simp only [lk_lset, lk, ofString_inj, String.reduceEq, if_true, if_false] <;> first | rfl | assumption)) ?_
      refine vo_in_dict hrow ?_
      rw [kR, ivl_map, if_neg (hN x hx)]
      refine ⟨_, false, rfl, rfl, ?_⟩
      rw [if_neg Bool.false_ne_true, Int.add_zero, List.length_map]
      refine vl_nil ⟨by simp, fun t ht => ?_⟩
      have ex3 := ex.trans (Ext.ins (o := .tup [.int x, .int (N x).length]) ht)
      have fc := ins_old (o := (.tup [.int x, .int (N x).length])) ht fc
      have tt := ins_self (o := .tup [.int x, .int (N x).length]) ht
      generalize (σ2.ins t (.tup [.int x, .int (N x).length])) = σ3 at ex3 fc tt ⊢
      refine ⟨f - 1, [(L + 1, .cell (some .none))], (show f = f - 1 + 1 by omega), ⟨fc, trivial⟩, ⟨t, x, rfl, by rw [yi]; exact ex', fun c o e => ?_, ?_⟩, fun σ4 ok4 h4 => ?_⟩
      · exact del_ne (fun q => by rw [q, zc] at e; cases e) (ex3 c o e)
      · exact del_ne (ne_obj tt fc (by intro q; cases q)) tt
      obtain ⟨g4, v4⟩ := ok4
      have n4 := h4 _ (.head _)
      dsimp only at n4
      refine gb_nil ?_
      refine ⟨⟨?_, ?_, (by first | assumption | (simp only [lk_lset, lk, ofString_inj, String.reduceEq, if_true, if_false] <;> first | rfl | assumption)), ?_, ?_, ?_, Ext.puts1 n4, n4⟩, hjl⟩
      · exact GR.ext g4 (Ext.puts1 n4)
      · exact VW.ext v4 (Ext.puts1 n4)
      · show (if L + 1 = L + 1 then _ else _) = _
        rw [if_pos rfl]
      · show i + 1 = _
        rw [yi]
      · show f - 1 + (i + 1) = _
        omega
    · have hjl : j = V.length := by
        have hv' : ((kA G V)[j]?).map (fun p => AV.int p.1) = none := by simpa only [dictNxt, gr.ad] using hv
        have := List.getElem?_eq_none_iff.mp (Option.map_eq_none_iff.mp hv')
        rw [kA, List.length_map] at this
        omega
      refine gb_nil ?_
      refine gb_nil ?_
      exact ⟨rfl, yi.trans hjl, ex⟩
  · refine h gn It hd _ ?_ ga
    funext b
    show (if b = L + 1 then none else if b = L + 1 then _ else σ.f b) = σ.f b
    by_cases q : b = L + 1
    · rw [if_pos q, q, F1.none]
    · rw [if_neg q, if_neg q]
end
end Mine
end
section
open PySem PySem.W PySem.Calls PyProof.Rows
set_option maxRecDepth 100000
set_option linter.unusedVariables false
set_option linter.unusedSimpArgs false
namespace Mine
variable {w : World} {σ : AS} {n : Nat}
section
variable {G : GA} {U V : List Int} {N : Int → List Int} {dg : Option Addr} {Q : AV → AS → Prop}
theorem v___init__ : findIn (KK w) (.ref 154) "__init__" = some (some (.ref 94)) := by kernel_rfl
theorem v_makes : makesIn (KK w) 154 = true := by kernel_rfl
theorem v_tinit : typeIn (KK w) (.ref 94) = some (.type "function") := by kernel_rfl
theorem fn_degree (g : GR σ G U V N dg) (h : ∀ σ' D d, Ext σ σ' → VW σ' D d G.ad → σ.f d = none → Q (.ref D) σ') : VC (KK w) w (n + 3) (.ref 564) [.ref G.x] Q σ := by
  refine vc_def (f := 564) rfl rfl (by kernel_rfl) (vbi_1 (x := "self") ⟨by rfl, fun L env hL he => ?_⟩)
  have k_self := kd_of he (x := "self") (k := .local) rfl
  have k_DegreeView := kd_of he (x := "DegreeView") (k := .globalImplicit) rfl
  clear he
  refine vb_cons ?_
  refine vs_return ?_
  refine ve_call_g (x := "DegreeView") g_DegreeView kp_DegreeView ?_
  refine vl_cons ?_
  refine ve_local (by first | assumption | (simp only [lk_lset, lk, ofString_inj, String.reduceEq, if_true, if_false] <;> first | rfl | assumption)) ?_
  refine vl_nil ?_
  refine vc_of_code (vcode_make v_makes v___init__ v_tinit fun d x hd hx => ?_)
  have e1 := (Ext.ins (o := .ns []) hd).trans (Ext.ins (o := .inst 154 d) hx)
  have x1 := ins_self (o := .inst 154 d) hx
  have d1 := ins_old (o := .inst 154 d) hx (ins_self (o := .ns []) hd)
  refine view_init (g.ext e1) x1 d1 (fun q => by have := g.d; rw [← q, hd.none] at this; cases this) fun σ' hE hd' => ⟨rfl, ?_⟩
  refine h _ x d (fun a o e => hE a o (fun q => by rw [q, hd.none] at e; cases e) (e1 _ _ e)) ⟨hE _ _ (ne_obj x1 d1 (by intro q; cases q)) x1, hd'⟩ hd.none
theorem cp_attr : findObj (KK w) 331 ((KK w).lookup 565) "attrname" = some (.value (.str (Str.ofString "degree") 939)) := by kernel_rfl
theorem cp_func : findObj (KK w) 331 ((KK w).lookup 565) "func" = some (.value (.ref 564)) := by kernel_rfl
theorem cp_x : (KK w).lookup 566 = some (instObj 331 565) := by kernel_rfl
theorem cp_ga : findIn (KK w) (.ref 331) "__getattribute__" = some (some (.builtin "object.__getattribute__")) := by kernel_rfl
theorem cp_gt : findIn (KK w) (.ref 331) "__getattr__" = some none := by kernel_rfl
theorem cp_fn : findIn (KK w) (.ref 331) "func" = some none := by kernel_rfl
theorem cp_facts : ∃ od, (KK w).lookup 565 = some od ∧ findObj (KK w) 331 (some od) "attrname" = some (.value (.str (Str.ofString "degree") 939)) ∧ findObj (KK w) 331 (some od) "func" = some (.value (.ref 564)) := by
  obtain ⟨od, hod⟩ : ∃ od, (KK w).lookup 565 = some od := ⟨_, rfl⟩
  have ha1 := cp_attr (w := w)
  have hf1 := cp_func (w := w)
  rw [hod] at ha1 hf1
  exact ⟨od, hod, ha1, hf1⟩
theorem d_get : findIn (KK w) (.ref 629) "__dict__" = some (some (.ref 630)) := by kernel_rfl
theorem d_sp : specialIn (KK w) (.ref 630) "__get__" = some (some (.builtin "getset_descriptor.__get__")) := by kernel_rfl
theorem d_tk : takesIn (KK w) (.ref 630) = some true := by kernel_rfl
theorem d_gs : getsetIn (KK w) 630 629 = true := by kernel_rfl
theorem d_m0 : mroIn (KK w) 629 (.ref 629) = some true := by kernel_rfl
theorem d_m1 : mroIn (KK w) 629 (.type "staticmethod") = some false := by kernel_rfl
theorem d_m2 : mroIn (KK w) 629 (.type "classmethod") = some false := by kernel_rfl
theorem d_tc : nsIn (KK w) cStatics "_thread.count" = some none := by kernel_rfl
theorem gns_set (D : Addr) : lset "degree" (.ref D) (gns G none) = gns G (some D) := by simp [gns, lset, ofString_inj]
theorem fn_get (g : GR σ G U V N none)
    (h : ∀ σ' D d, VW σ' D d G.ad → GR σ' G U V N (some D) → (∀ a o, a ≠ G.d → σ.f a = some o → σ'.f a = some o) → Q (.ref D) σ') : NCode (KK w) w (n + 4) (.ref 321) [.ref 566, .ref G.x, .ref 629] [] Q σ := by
  refine ncode_defC (f := 321) rfl rfl (by kernel_rfl) (vbi_peek (fun vs _ => [("self", vs.headD .none), ("instance", (vs.drop 1).headD .none), ("owner", (vs.drop 2).headD .none)]) (fun vs kvs ha hkw => ?_) (fun vs kvs ha hkw L env hF he => ?_))
  · obtain ⟨v, u, z, rfl, hv, hu, hz⟩ := three_of ha
    obtain rfl : kvs = [] := by simpa using hkw
    rfl
  obtain ⟨v, u, z, rfl, hv, hu, hz⟩ := three_of ha
  show bindA env (erB [((Str.ofString "self" : Str), v), ("instance", u), ("owner", z)]) _ _ _
  simp only [erB_cons, erB_nil, hv, hu, hz]
  have k_self := kd_ofC he (x := "self") (k := .local) rfl
  have k_instance := kd_ofC he (x := "instance") (k := .local) rfl
  have k_owner := kd_ofC he (x := "owner") (k := .local) rfl
  have k_cache := kd_ofC he (x := "cache") (k := .local) rfl
  have k_val := kd_ofC he (x := "val") (k := .local) rfl
  have k__NOT_FOUND := kd_ofC he (x := "_NOT_FOUND") (k := .globalImplicit) rfl
  clear he
  obtain ⟨od, H⟩ := cp_facts (w := w)
  refine bindA_local k_self (bindA_local k_instance (bindA_local k_owner (bindA_nil ?_)))
  show NB _ _ _ _ _ _ _ σ
  refine nb_consV (vs_if ?_)
  refine vt_cmp ?_
  refine ve_local (by first | assumption | (simp only [lk_lset, lk, ofString_inj, String.reduceEq, if_true, if_false] <;> first | rfl | assumption)) ?_
  refine ve_const_none ?_
  refine vo_is_none ?_
  refine vtr_bool ?_
  rw [if_neg (by intro q; cases q)]
  refine vb_nil ?_
  refine nb_consV (vs_if ?_)
  refine vt_cmp ?_
  refine ve_attr ?_
  refine ve_local (by first | assumption | (simp only [lk_lset, lk, ofString_inj, String.reduceEq, if_true, if_false] <;> first | rfl | assumption)) ?_
  refine vg_kept cp_x H.1 cp_ga H.2.1 rfl ?_
  refine ve_const_none ?_
  refine vo_is_none ?_
  refine vtr_bool ?_
  rw [if_neg (by intro q; cases q)]
  refine vb_nil ?_
  refine nb_cons (ns_try ?_)
  refine nb_cons (ns_assign ?_)
  refine ne_attr ?_
  refine ve_local (by first | assumption | (simp only [lk_lset, lk, ofString_inj, String.reduceEq, if_true, if_false] <;> first | rfl | assumption)) ?_
  refine ng_dict pc_Graph g.x g.d (gns_none (by decide) (by decide) (by decide) (by decide)) d_get d_sp d_tk d_gs d_m0 d_m1 d_m2 d_tc ?_
  refine va_local ?_
  refine nb_nil ?_
  refine nb_consV (vs_assign ?_)
  refine ve_mcall ?_
  refine ve_local (by first | assumption | (simp only [lk_lset, lk, ofString_inj, String.reduceEq, if_true, if_false] <;> first | rfl | assumption)) ?_
  refine vm_ns g.d PySem.F.slot_dict_get PySem.F.type_dict_get ?_
  refine ⟨keep_builtin, ?_⟩
  refine vl_cons ?_
  refine ve_attr ?_
  refine ve_local (by first | assumption | (simp only [lk_lset, lk, ofString_inj, String.reduceEq, if_true, if_false] <;> first | rfl | assumption)) ?_
  refine vg_kept cp_x H.1 cp_ga H.2.1 rfl ?_
  refine vl_cons ?_
  refine ve_global g__NOT_FOUND ?_
  refine vl_nil ?_
  refine vc_nsget g.d (by simp [gns, lk, ofString_inj]) ?_
  refine va_local ?_
  refine nb_consV (vs_if ?_)
  refine vt_cmp ?_
  refine ve_local (by first | assumption | (simp only [lk_lset, lk, ofString_inj, String.reduceEq, if_true, if_false] <;> first | rfl | assumption)) ?_
  refine ve_global g__NOT_FOUND ?_
  refine vo_is_same ?_
  refine vtr_bool ?_
  rw [if_pos (by rfl)]
  refine vb_cons ?_
  refine vs_assign ?_
  refine ve_mcall ?_
  refine ve_local (by first | assumption | (simp only [lk_lset, lk, ofString_inj, String.reduceEq, if_true, if_false] <;> first | rfl | assumption)) ?_
  refine vm_kept cp_x H.1 cp_ga cp_gt cp_fn H.2.2 rfl ?_
  refine ⟨keep_ref (by kernel_rfl), ?_⟩
  refine vl_cons ?_
  refine ve_local (by first | assumption | (simp only [lk_lset, lk, ofString_inj, String.reduceEq, if_true, if_false] <;> first | rfl | assumption)) ?_
  refine vl_nil ?_
  refine fn_degree g fun σ1 D d e1 v1 hdn => ?_
  refine va_local ?_
  refine vb_cons ?_
  refine vs_try ?_
  refine vb_cons ?_
  refine vs_assign ?_
  refine ve_local (by first | assumption | (simp only [lk_lset, lk, ofString_inj, String.reduceEq, if_true, if_false] <;> first | rfl | assumption)) ?_
  refine va_sub_ns ?_
  refine ve_local (by first | assumption | (simp only [lk_lset, lk, ofString_inj, String.reduceEq, if_true, if_false] <;> first | rfl | assumption)) ?_
  refine ve_attr ?_
  refine ve_local (by first | assumption | (simp only [lk_lset, lk, ofString_inj, String.reduceEq, if_true, if_false] <;> first | rfl | assumption)) ?_
  refine vg_kept cp_x H.1 cp_ga H.2.1 rfl ?_
  refine ⟨G.d, gns G none, "degree", rfl, rfl, e1 _ _ g.d, by simp [gns, lk, ofString_inj], gns_len, ?_⟩
  refine vb_nil ?_
  refine vb_nil ?_
  refine nb_cons (ns_return ?_)
  refine nx_of ?_
  refine ve_local (by first | assumption | (simp only [lk_lset, lk, ofString_inj, String.reduceEq, if_true, if_false] <;> first | rfl | assumption)) ?_
  rw [gns_set]
  have gd := e1 _ _ g.d
  have g1 := g.ext e1
  refine h _ D d ⟨upd_ne (ne_obj v1.x gd (by intro q; cases q)) v1.x, upd_ne (fun q => by rw [q, g.d] at hdn; cases hdn) v1.d⟩ ?_ (fun a o q e => upd_ne q (e1 _ _ e))
  exact ⟨upd_ne (ne_obj g1.x gd (by intro q; cases q)) g1.x, upd_at, upd_ne (ne_obj g1.nd gd (by intro q; cases q)) g1.nd, upd_ne (ne_obj g1.ad gd (by intro q; cases q)) g1.ad, fun v hv => upd_ne (ne_obj (g1.row v hv) gd (by intro q; cases q)) (g1.row v hv), g.ne, g.rn, g.inj⟩
end
end Mine
end
section
open PySem PySem.W PySem.Calls PyProof.Rows
set_option maxRecDepth 100000
set_option linter.unusedVariables false
set_option linter.unusedSimpArgs false
namespace Mine
variable {w : World} {σ : AS} {n : Nat}
theorem vch_less {K : Frag} {m : Nat} {f : Value} {args : List AV} {Q : AV → Hid → AS → Prop} (h : VCH K w m f args Q σ) (hm : m ≤ n) : VCH K w n f args Q σ := fun A B s vs hr X R ha k E hk => h A B s vs (hr.less hm) X R ha k E hk
section
variable {G : GA} {U V : List Int} {N : Int → List Int} {dg : Option Addr} {Q : AV → AS → Prop}
noncomputable def Pg (w : World) (n g : Nat) (G : GA) (V : List Int) (N : Int → List Int) (dg : Option Addr) (D d : Addr) : GP where
  w := w
  K := KK w
  n := n
  g := g
  fin := .ok .next
  ok := fun _ σ => GR σ G V V N dg ∧ VW σ D d G.ad
  yld := fun i z v σ' => ∃ x, V[i]? = some x ∧ v = .int (N x).length ∧ Ext z σ'
  fine := fun i z σ' => i = V.length ∧ Ext z σ'
noncomputable def degSum (N : Int → List Int) (V : List Int) : Int := (V.map fun v => ((N v).length : Int)).sum
theorem ct_size : CodeTab (KK w) 617 613 := ⟨_, _, _, _, _, _, _, _, _, rfl, rfl, rfl, rfl, rfl, rfl, rfl, rfl, rfl, by decide⟩
theorem bi_g : nsIn (KK w) mainGlobals "__builtins__" = some (some (.ref 4)) := by kernel_rfl
theorem bi_o : ∃ bo, (KK w).lookup 4 = some bo ∧ bo.cls = .type "module" ∧ bo.dict = some builtinsNs ∧ bo.data = .plain := ⟨_, rfl, by kernel_rfl, by kernel_rfl, by kernel_rfl⟩
theorem m_degree : findIn (KK w) (.ref 629) "degree" = some (some (.ref 566)) := by kernel_rfl
theorem s_degree : specialIn (KK w) (.ref 566) "__get__" = some (some (.ref 321)) := by kernel_rfl
theorem t_degree : takesIn (KK w) (.ref 566) = some false := by kernel_rfl
theorem ty_degree : typeIn (KK w) (.ref 566) = some (.ref 331) := by kernel_rfl
theorem v___call__ : findIn (KK w) (.ref 154) "__call__" = some (some (.ref 102)) := by kernel_rfl
theorem v_isFn : isFn (KK w) (.ref 102) = true := by kernel_rfl
theorem v_fnIn : fnIn (KK w) 102 = true := by kernel_rfl
theorem v___iter__ : findIn (KK w) (.ref 154) "__iter__" = some (some (.ref 151)) := by kernel_rfl
theorem vt___iter__ : typeIn (KK w) (.ref 151) = some (.type "function") := by kernel_rfl
theorem gh_own_over {K : Frag} {x C d : Addr} {m : List (Str × AV)} {name : Str} {v : AV} {a g : Value} {Q : AV → AS → Prop} (P : PlainCls K C) (hx : σ.f x = some (.inst C d)) (hd : σ.f d = some (.ns m)) (hv : lk m name = some v) (hn : findIn K (.ref C) name = some (some a)) (hg : specialIn K a "__get__" = some (some g)) (ht : takesIn K a = some false)
    (hh : v.handed = true) (h : Q v σ) : ∀ (ex : Bool) (v' : Value), er v' = .ref x → VH K w n er (getAttr v' name ex) Q σ := fun ex v' hv' A B s hr X R k E hk => by
  rw [er_ref hv']
  obtain ⟨od, I, h1, h2⟩ := R.inst hx hd
  obtain ⟨r, h3, h4⟩ := h2.look name
  rw [hv] at h4
  obtain ⟨y, rfl, rfl⟩ := Option.map_eq_some_iff.mp h4
  obtain ⟨cd, c1, c2⟩ := any_some P.cd
  refine get_value (X.In R) I P.ga (v := y) ?_ (handed_of hh) (hk _ _ _ h R.toks)
  unfold findObj W.ownOf
  rw [c1, Option.bind_some, hn]
  simp only [Option.bind_some, hg, ht]
  rw [if_pos c2]
  try dsimp only
  rw [h3]; rfl
theorem nm_degree {Q : Value × List Value → AS → Prop} (g : GR σ G V V N dg) (hdg : ∀ D, dg = some D → ∃ d, VW σ D d G.ad)
    (h : ∀ σ' D d, VW σ' D d G.ad → GR σ' G V V N (some D) → (∀ a o, a ≠ G.d → σ.f a = some o → σ'.f a = some o) → Q (.ref D, []) σ') : NM (KK w) w (n + 5) (.ref G.x) "degree" Q σ := by
  refine nm_attr pc_Graph g.x g.d m_degree (by kernel_rfl) fun v' hv' => ?_
  cases dg with
  | none =>
    refine ng_bind (g := 321) pc_Graph g.x g.d (by simp [gns, lk, ofString_inj]) m_degree s_degree t_degree (by decide +kernel) (nc_of_code (fn_get g fun σ' D d v1 g1 hE => ⟨rfl, D, rfl, h σ' D d v1 g1 hE⟩)) false v' hv'
  | some D =>
    obtain ⟨d, v1⟩ := hdg D rfl
    exact nh_of (gh_own_over pc_Graph g.x g.d (by simp [gns, lk, ofString_inj]) m_degree s_degree t_degree rfl ⟨D, rfl, h σ D d v1 g (fun a o _ e => e)⟩ false v' hv')
theorem fn_size (g : GR σ G V V N dg) (hdg : ∀ D, dg = some D → ∃ d, VW σ D d G.ad) (ht : σ.f 613 = some .tab) (hN : ∀ x, x ∈ V → x ∉ N x) (hzr : ∀ v, v ∈ V → (N v).length ≤ 900)
    (h : ∀ σ' D d, VW σ' D d G.ad → GR σ' G V V N (some D) → (∀ a o, a ≠ G.d → σ.f a = some o → σ'.f a = some o) → Q (.int (Int.fdiv (degSum N V) 2)) σ') : NC (KK w) w (n + 6) (.ref 618) [.ref G.x] Q σ := by
  refine nc_of_code (ncode_defC (f := 618) rfl rfl (by kernel_rfl) (vbi_peek (fun vs _ => [("self", vs.headD .none), ("weight", .none)]) (fun vs kvs ha hkw => ?_) (fun vs kvs ha hkw L env hF he => ?_)))
  · obtain ⟨v, rfl, hv⟩ := one_of ha
    obtain rfl : kvs = [] := by simpa using hkw
    rfl
  obtain ⟨v, rfl, hv⟩ := one_of ha
  show bindA env (erB [((Str.ofString "self" : Str), v), ("weight", .none)]) _ _ _
  simp only [erB_cons, erB_nil, hv, show er .none = .none from rfl]
  have k_self := kd_ofC he (x := "self") (k := .local) rfl
  have k_weight := kd_ofC he (x := "weight") (k := .local) rfl
  have k_s := kd_ofC he (x := "s") (k := .local) rfl
  have k_sum := kd_ofC he (x := "sum") (k := .globalImplicit) rfl
  have hcode : env.code = .ref 617 := by rw [he]; rfl
  clear he
  refine bindA_local k_self (bindA_local k_weight (bindA_nil ?_))
  show NB _ _ _ _ _ _ _ σ
  refine nb_cons (ns_assign ?_)
  refine ne_sum_gen b_sum bb_sum ?_
  obtain ⟨bo, hbo⟩ := bi_o (w := w)
  refine nxh_genexp hcode ct_size bi_g hbo.1 hbo.2.1 hbo.2.2.1 hbo.2.2.2 (by decide) (by dsimp only; (repeat (first | refine (closA_skip (by rfl)).trans ?_ | refine (closA_free (by assumption)).trans ?_)); rfl) (by decide) (by rfl) ?_
  refine ne_mcall_obj ?_
  refine ve_local (by first | assumption | (simp only [lk_lset, lk, ofString_inj, String.reduceEq, if_true, if_false] <;> first | rfl | assumption)) ?_
  refine nm_degree g hdg fun σ1 D d v1 g1 hE => ?_
  refine ⟨D, 154, d, _, 102, rfl, v1.x, v1.d, v___call__, v_isFn, v_fnIn, ?_⟩
  refine ve_local (by first | assumption | (simp only [lk_lset, lk, ofString_inj, String.reduceEq, if_true, if_false] <;> first | rfl | assumption)) ?_
  refine ⟨v1.x, v1.d, view_call v1 ?_⟩
  refine giter_own v1.x v1.d v___iter__ vt___iter__ (vch_less (gen_view (n := n) g1 v1 hN hzr fun gn It hd σ2 hσ2 ga => ?_) (Nat.le_add_right _ 3))
  have hX2 : Ext σ1 σ2 := fun a o e => by rw [hσ2]; exact e
  have g2 := g1.ext hX2
  have v2 := v1.ext hX2
  refine ⟨It, _, _, rfl, ga, hX2 _ _ (hE 613 _ (fun q => by have := g.d; rw [← q, ht] at this; cases this) ht), fun gn2 => ⟨Pg w (n + 2) gn2 G V N (some D) D d, rfl, rfl, rfl, fun cenv hsc hEc => ?_, fun a hd2 ga2 => ?_⟩⟩
  · have k_v : cenv.kindOf (Str.ofString "v") = some .local := by
      show cenv.scope.names.lookup _ = _
      rw [hsc]; rfl
    have k_d : cenv.kindOf (Str.ofString "d") = some .local := by
      show cenv.scope.names.lookup _ = _
      rw [hsc]; rfl
    refine ⟨rfl, rfl, Nat.le_refl _, .inr rfl, rfl, fun i σ h => h, fun i σ v σ1 l hok hy => ?_, fun i σ σ1 hok hf => hf⟩
    obtain ⟨a, x, rfl, hx, hE2, ha⟩ := hy
    refine va_tup2 ha (va_local (va_local ?_))
    refine ve_local (by first | assumption | (simp only [lk_lset, lk, ofString_inj, String.reduceEq, if_true, if_false] <;> first | rfl | assumption)) ?_
    exact ⟨x, hx, rfl, hE2⟩
  · refine ⟨a, _, _, fun i t σ3 => GR σ3 G V V N (some D) ∧ VW σ3 D d G.ad ∧ Ext σ2 σ3 ∧ t = degSum N (V.take i), rfl, rfl, rfl, Nat.le_refl _, .inl rfl, ga2, ⟨fun i t σ3 hJ => ⟨hJ.1, hJ.2.1⟩, fun i t σ3 v σ4 hJ hy => ?_, fun i t σ3 σ4 hJ hf => ?_⟩, ⟨g2, v2, Ext.refl, rfl⟩⟩
    · obtain ⟨x, hx, rfl, hE4⟩ := hy
      refine ⟨_, rfl, hJ.1.ext hE4, hJ.2.1.ext hE4, hJ.2.2.1.trans hE4, ?_⟩
      rw [hJ.2.2.2, take_snoc hx]
      unfold degSum
      rw [List.map_append, List.sum_append]
      simp
    · obtain ⟨hi, hE4⟩ := hf
      obtain ⟨j1, j2, j3, j4⟩ := hJ
      subst hi
      rw [List.take_length] at j4
      subst j4
      refine va_local ?_
      refine nb_consV ?_
      refine vs_return ?_
      refine ve_ifexp ?_
      refine vt_cmp ?_
      refine ve_local (by first | assumption | (simp only [lk_lset, lk, ofString_inj, String.reduceEq, if_true, if_false] <;> first | rfl | assumption)) ?_
      refine ve_const_none ?_
      refine vo_is_none ?_
      refine vtr_bool ?_
      rw [if_pos (by rfl)]
      refine ve_int op_div ?_
      refine ve_local (by first | assumption | (simp only [lk_lset, lk, ofString_inj, String.reduceEq, if_true, if_false] <;> first | rfl | assumption)) ?_
      refine ve_const_int ?_
      refine ⟨_, 2, rfl, rfl, ⟨by decide, ?_⟩, ?_⟩
      · rfl
      · exact h σ4 D d (j2.ext hE4) (j1.ext hE4) fun a o q e => hE4 _ _ (j3 _ _ (hX2 _ _ (hE a o q e)))
end
end Mine
end
section
open PySem PySem.W PySem.Calls PyProof.Rows
set_option maxRecDepth 100000
set_option linter.unusedVariables false
set_option linter.unusedSimpArgs false
namespace Mine
variable {w : World} {σ : AS} {n : Nat}
theorem vc_int {K : Frag} {i : Int} {Q : AV → AS → Prop} (h : Q (.int i) σ) : VC K w n (.type "int") [.int i] Q σ := fun A B s vs hr X R ha k E hk => by
  obtain ⟨v, rfl, hv⟩ := one_of ha
  obtain ⟨t, rfl⟩ := er_int hv
  exact PySem.call_int_int (hk _ _ _ h R)
section
variable {G : GA} {U V : List Int} {N : Int → List Int} {dg : Option Addr} {Q : AV → AS → Prop}
theorem fn_noe (g : GR σ G V V N dg) (hdg : ∀ D, dg = some D → ∃ d, VW σ D d G.ad) (ht : σ.f 613 = some .tab) (hN : ∀ x, x ∈ V → x ∉ N x) (hzr : ∀ v, v ∈ V → (N v).length ≤ 900)
    (h : ∀ σ' D d, VW σ' D d G.ad → GR σ' G V V N (some D) → (∀ a o, a ≠ G.d → σ.f a = some o → σ'.f a = some o) → Q (.int (Int.fdiv (degSum N V) 2)) σ') : NC (KK w) w (n + 7) (.ref 626) [.ref G.x] Q σ := by
  refine nc_of_code (ncode_defC (f := 626) rfl rfl (by kernel_rfl) (vbi_peek (fun vs _ => [("self", vs.headD .none), ("u", .none), ("v", .none)]) (fun vs kvs ha hkw => ?_) (fun vs kvs ha hkw L env hF he => ?_)))
  · obtain ⟨v, rfl, hv⟩ := one_of ha
    obtain rfl : kvs = [] := by simpa using hkw
    rfl
  obtain ⟨v, rfl, hv⟩ := one_of ha
  show bindA env (erB [((Str.ofString "self" : Str), v), ("u", .none), ("v", .none)]) _ _ _
  simp only [erB_cons, erB_nil, hv, show er .none = .none from rfl]
  have k_self := kd_ofC he (x := "self") (k := .local) rfl
  have k_u := kd_ofC he (x := "u") (k := .local) rfl
  have k_v := kd_ofC he (x := "v") (k := .local) rfl
  have k_int := kd_ofC he (x := "int") (k := .globalImplicit) rfl
  clear he
  refine bindA_local k_self (bindA_local k_u (bindA_local k_v (bindA_nil ?_)))
  show NB _ _ _ _ _ _ _ σ
  refine nb_cons (ns_if (nx_of (vt_cmp ?_)))
  refine ve_local (by first | assumption | (simp only [lk_lset, lk, ofString_inj, String.reduceEq, if_true, if_false] <;> first | rfl | assumption)) ?_
  refine ve_const_none ?_
  refine vo_is_none ?_
  refine vtr_bool ?_
  rw [if_pos (by rfl)]
  refine nb_cons (ns_return ?_)
  refine ne_call_b b_int bb_int kb_int ?_
  refine nl_cons ?_
  refine ne_mcall ?_
  refine ve_local (by first | assumption | (simp only [lk_lset, lk, ofString_inj, String.reduceEq, if_true, if_false] <;> first | rfl | assumption)) ?_
  refine vm_fn pc_Graph g.x g.d ?_ m_size mt_size ?_
  · exact gns_none (by decide) (by decide) (by decide) (by decide)
  refine ⟨keep_ref mk_size, nx_of (vl_nil ?_)⟩
  refine fn_size g hdg ht hN hzr fun σ' D d v1 g1 hE => ?_
  refine vl_nil ?_
  refine vc_int ?_
  exact h σ' D d v1 g1 hE
end
end Mine
end
section
open PySem PySem.W PySem.Calls PyProof.Rows
set_option maxRecDepth 100000
set_option linter.unusedVariables false
set_option linter.unusedSimpArgs false
namespace Mine
variable {w : World} {σ : AS} {n : Nat}
section
variable {G : GA} {U V : List Int} {N : Int → List Int} {dg : Option Addr} {Q : AV → AS → Prop}
theorem nodup_all {qs V : List Int} (h : qs.Nodup) (hs : ∀ x, x ∈ qs → x ∈ V) (hl : V.length ≤ qs.length) : ∀ x, x ∈ V → x ∈ qs := by
  intro x hx
  by_cases q : x ∈ qs
  · exact q
  · exfalso
    have h1 : (x :: qs).Nodup := List.nodup_cons.mpr ⟨q, h⟩
    have h2 := h1.length_le_of_subset (l₂ := V) fun y hy => by
      rcases List.mem_cons.mp hy with rfl | z
      · exact hx
      · exact hs y z
    rw [List.length_cons] at h2
    omega
theorem fn_is_tree (g : GR σ G V V N dg) (hdg : ∀ D, dg = some D → ∃ d, VW σ D d G.ad) (ht : σ.f 613 = some .tab) (hNV : ∀ v, v ∈ V → ∀ u, u ∈ N v → u ∈ V) (hN : ∀ x, x ∈ V → x ∉ N x) (hnd : V.Nodup) (hz : V.length ≤ 900) (hzr : ∀ v, v ∈ V → (N v).length ≤ 900) {v0 : Int} (h0 : V[0]? = some v0)
    (h : ∀ σ' D d b, VW σ' D d G.ad → GR σ' G V V N (some D) → (∀ a o, a ≠ G.d → σ.f a = some o → σ'.f a = some o) → (b = true ↔ ((V.length : Int) - 1 = Int.fdiv (degSum N V) 2 ∧ ∀ x, x ∈ V → Reach N v0 x)) → Q (.bool b) σ') : NC (KK w) w (n + 8) (.ref 675) [.ref G.x] Q σ := by
  refine nc_of_code (ncode_defC (f := 675) rfl rfl (by kernel_rfl) (vbi_1 (x := "G") fun L env hF he => ?_))
  have k_G := kd_ofC he (x := "G") (k := .local) rfl
  have k_H := kd_ofC he (x := "H") (k := .local) rfl
  have k_len := kd_ofC he (x := "len") (k := .globalImplicit) rfl
  have k_undirected_graph := kd_ofC he (x := "undirected_graph") (k := .globalImplicit) rfl
  have k_reached := kd_ofC he (x := "reached") (k := .globalImplicit) rfl
  have k_arbitrary_element := kd_ofC he (x := "arbitrary_element") (k := .globalImplicit) rfl
  clear he
  refine bindA_local k_G (bindA_nil ?_)
  show NB _ _ _ _ _ _ _ σ
  have hV0 : v0 ∈ V := List.mem_of_getElem? h0
  have hVl : V.length ≠ 0 := by intro q; rw [List.length_eq_zero_iff.mp q] at hV0; cases hV0
  refine nb_consV (vs_if ?_)
  refine vt_cmp ?_
  refine ve_call_b (x := "len") b_len bb_len kb_len ?_
  refine vl_cons ?_
  refine ve_local (by first | assumption | (simp only [lk_lset, lk, ofString_inj, String.reduceEq, if_true, if_false] <;> first | rfl | assumption)) ?_
  refine vl_nil ?_
  refine len_graph g (by omega) ?_
  refine ve_const_int ?_
  refine vo_int_eq ?_
  refine vtr_bool ?_
  rw [if_neg (by simpa using hVl)]
  refine vb_nil ?_
  refine nb_consV (vs_assign ?_)
  refine ve_ifexp ?_
  refine vt_value ?_
  refine ve_mcall ?_
  refine ve_local (by first | assumption | (simp only [lk_lset, lk, ofString_inj, String.reduceEq, if_true, if_false] <;> first | rfl | assumption)) ?_
  refine vm_fn pc_Graph g.x g.d ?_ m_is_directed mt_is_directed ?_
  · exact gns_none (by decide) (by decide) (by decide) (by decide)
  refine ⟨keep_ref mk_is_directed, vl_nil ?_⟩
  refine fn_is_directed ?_
  refine vtr_bool ?_
  rw [if_neg (by intro q; cases q)]
  refine ve_local (by first | assumption | (simp only [lk_lset, lk, ofString_inj, String.reduceEq, if_true, if_false] <;> first | rfl | assumption)) ?_
  refine va_local ?_
  refine nb_cons (ns_return ?_)
  refine ne_band ?_
  refine ne_cmpR ?_
  refine ve_int op_sub ?_
  refine ve_call_b (x := "len") b_len bb_len kb_len ?_
  refine vl_cons ?_
  refine ve_local (by first | assumption | (simp only [lk_lset, lk, ofString_inj, String.reduceEq, if_true, if_false] <;> first | rfl | assumption)) ?_
  refine vl_nil ?_
  refine len_graph g (by omega) ?_
  refine ve_const_int ?_
  refine ⟨_, 1, rfl, rfl, trivial, ?_⟩
  refine ne_mcall ?_
  refine ve_local (by first | assumption | (simp only [lk_lset, lk, ofString_inj, String.reduceEq, if_true, if_false] <;> first | rfl | assumption)) ?_
  refine vm_fn pc_Graph g.x g.d ?_ m_number_of_edges mt_number_of_edges ?_
  · exact gns_none (by decide) (by decide) (by decide) (by decide)
  refine ⟨keep_ref mk_number_of_edges, nx_of (vl_nil ?_)⟩
  refine fn_noe g hdg ht hN hzr fun σ1 D d v1 g1 hE => ?_
  refine vo_int_eq ?_
  refine vtr_bool ?_
  by_cases hc : (V.length : Int) - 1 = Int.fdiv (degSum N V) 2
  · rw [if_pos (by simpa using hc)]
    refine ve_cmp ?_
    refine ve_call_b (x := "len") b_len bb_len kb_len ?_
    refine vl_cons ?_
    refine ve_call_g (x := "reached") g_reached kp_reached ?_
    refine vl_cons ?_
    refine ve_attr ?_
    refine ve_local (by first | assumption | (simp only [lk_lset, lk, ofString_inj, String.reduceEq, if_true, if_false] <;> first | rfl | assumption)) ?_
    refine vg_own pc_Graph g1.x g1.d gns_adj m__adj rfl ?_
    refine vl_cons ?_
    refine ve_list ?_
    refine vl_cons ?_
    refine ve_call_g (x := "arbitrary_element") g_arbitrary_element kp_arbitrary_element ?_
    refine vl_cons ?_
    refine ve_local (by first | assumption | (simp only [lk_lset, lk, ofString_inj, String.reduceEq, if_true, if_false] <;> first | rfl | assumption)) ?_
    refine vl_nil ?_
    refine fn_arbitrary g1 h0 fun σ2 e2 => ?_
    refine vl_nil ?_
    refine ⟨by simp, fun a ha => ?_⟩
    refine vl_nil ?_
    have e3 := e2.trans (Ext.ins (o := .list [.int v0]) ha)
    refine fn_reached (g1.ext e3) (ins_self ha) hV0 hNV hz hzr fun σ4 q qs e4 hq hqn hv0 hqs hcl => ?_
    have hql := hqn.length_le_of_subset fun x hx => (hqs x hx).1
    refine vl_nil ?_
    refine vc_len_list hq (by rw [List.length_map]; omega) ?_
    refine ve_call_b (x := "len") b_len bb_len kb_len ?_
    refine vl_cons ?_
    refine ve_local (by first | assumption | (simp only [lk_lset, lk, ofString_inj, String.reduceEq, if_true, if_false] <;> first | rfl | assumption)) ?_
    refine vl_nil ?_
    have g4 := (g1.ext e3).ext e4
    refine len_graph g4 (by omega) ?_
    refine vo_int_eq ?_
    rw [List.length_map]
    have e5 := e3.trans e4
    refine h σ4 D d _ (v1.ext e5) g4 (fun a o q e => e5 _ _ (hE a o q e)) ⟨fun hb => ⟨hc, fun x hx => ?_⟩, fun hb => ?_⟩
    · have hl : qs.length = V.length := by
        have h9 : ((qs.length : Nat) : Int) = (V.length : Nat) := by simpa using hb
        omega
      exact (hqs x (nodup_all hqn (fun y hy => (hqs y hy).1) (by omega) x hx)).2
    · have hr : ∀ x, Reach N v0 x → x ∈ qs := fun x hx => by
        induction hx with
        | here => exact hv0
        | step _ hy ih => exact hcl _ ih _ hy
      have := hnd.length_le_of_subset fun x hx => hr x (hb.2 x hx)
      have hl : qs.length = V.length := by omega
      simp [hl]
  · rw [if_neg (by simpa using hc)]
    refine h σ1 D d _ v1 g1 hE ⟨fun hb => ?_, fun hb => absurd hb.1 hc⟩
    exact absurd (by simpa using hb) hc
end
end Mine
end
section
open PySem PySem.W PySem.Calls PyProof.Rows
set_option maxRecDepth 100000
set_option linter.unusedVariables false
set_option linter.unusedSimpArgs false
namespace Mine
section
variable {w : World} {σ : AS} {n : Nat} {K : Frag} {B : Bs} {s : Shared} {env : Env} {l : Loc}
theorem nsOk_look {K : Frag} {N : Addr} (h : nsOkIn K N = true) : ∃ o, K.lookup N = some o := by
  cases q : K.lookup N with
  | some o => exact ⟨o, rfl⟩
  | none => unfold nsOkIn at h; rw [q] at h; cases h
theorem exc_of_in {K : Frag} {h : Heap} {C : Addr} {bmB : List Value} {newId : String} (X : K.In h) (q : excIn K C bmB newId = true) :
    ∃ bm N nm q bs hdct sn sub ab col dd k0 k1 k2 k3 k5 mN, mN "__init__" = none ∧ ∀ h2, K.In h2 → h2.get? C = some (excClassObj nm q C N bs bm hdct sn sub ab col dd k0 k1 k2 k3 k5 newId) ∧ h2.Ns N mN ∧ OwnTail h2 bmB bm := by
  unfold excIn at q
  split at q
  · rename_i dd cd sl ho
    split at q
    · rename_i C' bm k0 k1 k2 k3 n k5 hm hs
      simp only [Bool.and_eq_true, beq_iff_eq, Bool.not_eq_true'] at q
      obtain ⟨⟨⟨⟨⟨rfl, rfl⟩, hdel⟩, ht⟩, hok⟩, hni⟩ := q
      obtain ⟨nm, bs, mro, ns, qn, hd, sn, sub, ab, col, del⟩ := cd
      dsimp only at hm hdel hok hni
      subst hm hdel
      have hsl : sl = #[k0, k1, k2, k3, some (.builtin n), k5] := by
        obtain ⟨l⟩ := sl
        simp only at hs
        rw [hs]
      subst hsl
      refine ⟨bm, ns, nm, qn, bs, hd, sn, sub, ab, col, dd, k0, k1, k2, k3, k5, _, nsMap_none_of_in X hok hni, fun h2 X2 => ⟨X2 _ _ ho, ?_, tail_of_in X2 ht⟩⟩
      obtain ⟨o, hl⟩ := nsOk_look hok
      exact (Heap.Ns.of_isNs (isNs_of_in X hok)).at' fun o' e => by
        have := X _ _ hl
        rw [this] at e
        cases e
        exact X2 _ _ hl
    · cases q
  · cases q
theorem exc289 : excIn (KK w) 289 [.type "Exception", .type "BaseException", .type "object"] "Exception.__new__" = true := by kernel_rfl
structure Flying (w : World) (B : Bs) (σ : AS) (envL : Env) (L : Addr) (ob : Obj) (e : Addr) (s : Shared) : Prop where
  fly : ∃ base a0, Heap.FlyingW base [envL] e (.ref 289) a0 s.heap ∧ (∀ h tk, base.StaysIn h → ∃ hi, RepB w B ⟨σ.f, hi⟩ { s with heap := h, toks := tk })
  loc : ∃ sl, s.heap.get? L = some { ob with slots := sl }
  lo : σ.f L = none
theorem not_fields_of_dict {o : Obj} {es : Array DictEntry} {ep : Nat} (h : o.data = .dict es ep) : ∀ vs, o.data ≠ .fields vs := fun vs q => by rw [h] at q; cases q
noncomputable def NRB (K : Frag) (w : World) (n : Nat) (env : Env) (st : List Stmt) (C : Addr) (Q : AS → Prop) (l : Loc) (σ : AS) : Prop :=
  ∀ (A : Around) (B : Bs) (s : Shared), Room n A → Base K B → EnvOK env → RepF w B env l σ s → ∀ (k : Flow → Shared → Prop) (E : Value → Shared → Prop),
    (∀ e l' σ' s2 h' vs, Q σ' → RepF w B env l' σ' s2 → Heap.MadeExcOf s2.heap h' e (.ref C) vs → E (.ref e) { s2 with heap := h' }) → wpAny (model prog w) A (execs st env) k E s
theorem call_raises {f : Addr} {fd : FuncData} {oc : Value} {od : Option Addr} {osl : Array (Option Value)} {body : List Stmt} {args : List AV} {Q : AS → Prop} {A : Around} {envL : Env} {L0 : Addr} {ob : Obj} {vs : List Value} {k : Value → Shared → Prop} {E : Value → Shared → Prop}
    (ho : K.lookup f = some ⟨oc, od, .func fd, osl⟩) (hbody : fd.body = .stmts body) (hcd : codeIn K fd.code fd.qualname = true)
    (hb : VBi K w n fd args [] (fun bs σ1 => ∀ L env, Fresh σ1 L → env = newEnv fd.scope L fd.globals (cellsFrom (L + 1) fd.scope.names fd.closure) (fd.qualname ++ ".<locals>.") (some f) fd.code none fd.builtins →
      bindA env bs (fun l1 σ2 => NRB K w n env body 289 Q l1 σ2) [] (pushA σ1 (L + 1) fd.scope.names)) σ)
    (hr : Room (n + 1) A) (hfr : A.frames = some [envL]) (hkm : envL.scope.kind ≠ .module) (hfL : envL.frame = some L0) (hob : ∀ vs, ob.data ≠ .fields vs)
    (X : Base K B) (hB : B.o L0 = none) (R : RepB w (B.add L0 ob) σ s) (ha : vs.map er = args) (hk : ∀ e σ' s', Q σ' → Flying w B σ' envL L0 ob e s' → E (.ref e) s')
    (hco : fd.scope.isCoroutine = false := by rfl) (hgen : fd.scope.isGenerator = false := by rfl) (hkd : fd.scope.kind = .function := by rfl)
    (hg : fd.globals = mainGlobals := by rfl) (hbl : fd.builtins = builtinsNs := by rfl) : wpAny (model prog w) A (call (.ref f) vs) k E s := by
  have XL : Base K (B.add L0 ob) := X.add hB
  refine wpAny_call (codeAny_call_function hr.depth (XL.In R _ _ ho) rfl hco hgen hbody (codeRec_of (XL.In R) hcd) ?_)
  refine hb A.in1 (B.add L0 ob) s vs [] hr.in1 XL R ha rfl _ _ fun bs σ1 s1 h1 R1 => ?_
  refine wp_newEnv (K := K) (n := n) hr.in1 XL R1 hkd hg hbl (fun L env hF he => h1 L env hF he) (fun L env l' σ' s' hF he hE hP R' => ?_)
  have hfe : env.frame = some env.locals := by rw [he]; rfl
  refine ⟨XL.noLimit R'.rep, codeAny_func ?_⟩
  refine hP (A.deeper env) (B.add L0 ob) _ hr.deeper XL hE R' _ _ fun e l2 σ2 s2 h' vs2 hq R2 hm => ?_
  have hL0 : s2.heap.get? L0 = some ob := R2.rep.keep L0 ob (by simp [Bs.add])
  obtain ⟨m, hns, hml⟩ := R2.ns
  obtain ⟨oL, es, ep, hoL, hdL, _⟩ := id hns
  have hne : env.locals ≠ L0 := fun q => by have := R2.lb; rw [q] at this; simp [Bs.add] at this
  obtain ⟨tt, he, _, _⟩ := hm.there
  have hen : (hideAll s2.heap [env.locals, L0]).get? e = none := by
    cases q : (hideAll s2.heap [env.locals, L0]).get? e with
    | none => rfl
    | some o => have := of_hideAll _ q; rw [hm.new] at this; cases this
  have n1 : (hideAll s2.heap [env.locals, L0]).get? env.locals = none := hideAll_none _ (.head _)
  have n2 : (hideAll s2.heap [env.locals, L0]).get? L0 = none := hideAll_none _ (.tail _ (.head _))
  refine wpAny_leaving_firstW (base := hideAll s2.heap [env.locals, L0]) (a0 := .ref tt) (outer := [envL]) (Around.frames_deeper hfr) ⟨by rw [hE.kind]; decide, ⟨env.locals, oL, hfe, n1, hm.keeps _ _ hoL, not_fields_of_dict hdL⟩, hkm, ⟨L0, ob, hfL, n2, hm.keeps _ _ hL0, hob⟩, trivial⟩ hfe he (fun b o hb => hm.keeps b o (of_hideAll _ hb)) hen rfl rfl rfl fun h2 hLft => ?_
  obtain ⟨k1, ⟨_, _, k2⟩, k3, k4⟩ := hLft
  refine hk e σ2 _ hq ⟨⟨_, _, ⟨k1, hen, k2, k3⟩, fun h3 tk3 hst => ⟨h3.objs.size, ?_⟩⟩, k4 L0 ob (hm.keeps _ _ hL0) hob, ?_⟩
  have nin : ∀ b, b ≠ env.locals → b ≠ L0 → b ∉ [env.locals, L0] := fun b p q z => by
    rcases List.mem_cons.mp z with z | z
    · exact p z
    · exact q (List.mem_singleton.mp z)
  · refine ⟨fun b o e => ?_, fun a o e => ?_, fun a o e => ?_, fun a o e => ?_, Nat.le_refl _, R2.rep.os, R2.rep.gens⟩
    · have b1 : b ≠ L0 := fun q => by rw [q, hB] at e; cases e
      have b2 : (B.add L0 ob).o b = some o := by simp only [Bs.add]; rw [if_neg b1]; exact e
      have b3 : b ≠ env.locals := fun q => by have := R2.lb; rw [← q, b2] at this; cases this
      exact hst b o (hideAll_get _ (R2.rep.keep b o b2) (nin b b3 b1))
    · have := R2.rep.apart a o e
      simp only [Bs.add] at this
      split at this
      · cases this
      · exact this
    · obtain ⟨o1, o2, o3⟩ := R2.rep.objs a o e
      refine ⟨o1, hst a o1 (hideAll_get _ o2 (nin a (fun q => by have := R2.lo; rw [← q, e] at this; cases this) (fun q => ?_))), o3⟩
      have := R2.rep.apart a o e
      rw [q] at this
      simp [Bs.add] at this
    · obtain ⟨o1, o2, o3⟩ := R2.rep.objs a o e
      have hh := hst a o1 (hideAll_get _ o2 (nin a (fun q => by have := R2.lo; rw [← q, e] at this; cases this) (fun q => by
        have := R2.rep.apart a o e
        rw [q] at this
        simp [Bs.add] at this)))
      exact Heap.lt_size hh
  · cases q : σ2.f L0 with
    | none => rfl
    | some x => have := R2.rep.apart L0 x q; simp [Bs.add] at this
theorem nrb_if {test : Expr} {body orelse rest : List Stmt} {pos : Pos} {C : Addr} {Q : AS → Prop} (h : VT K w n env l test (fun b σ1 => b = true ∧ NRB K w n env body C Q l σ1) σ) : NRB K w n env (.If test body orelse pos :: rest) C Q l σ := fun A B s hr X he R k E hk => by
  rw [execs_cons, exec_If]
  refine wpAny_bind (wpAny_bind (wpAny_standAt (wpAny_bind (h A B s hr X he R _ _ fun b σ1 s1 h1 R1 => ?_))))
  obtain ⟨hb, h1⟩ := h1
  obtain rfl : b = true := hb
  simp only [if_true]
  exact h1 A B s1 hr X he R1 _ _ hk
theorem nrb_raise {x : Str} {np cpos pos : Pos} {args : List Expr} {rest : List Stmt} {Q : AS → Prop} (hv : nsIn K mainGlobals x = some (some (.ref 289))) (hq : excIn K 289 [.type "Exception", .type "BaseException", .type "object"] "Exception.__new__" = true)
    (h : VL K w n env l cpos args (fun vs σ1 => vs.length ≤ 1000 ∧ Q σ1) σ) (hl : env.kindOf x = some .globalImplicit := by first | assumption | rfl) (hd : (x == ("__debug__" : Str)) = false := by decide) (hs : noStar args = true := by rfl) : NRB K w n env (.Raise (some (.Call (.Name x np) args [] cpos)) none pos :: rest) 289 Q l σ := fun A B s hr X he R k E hk => by
  rw [execs_cons]
  refine wpAny_bind ?_
  obtain ⟨bm, N, nm, q, bs, hdct, sn, sub, ab, col, dd, k0, k1, k2, k3, k5, mN, hni, HX⟩ := exc_of_in (X.In R.rep) hq
  obtain ⟨-, -, T⟩ := HX _ (X.In R.rep)
  refine wpAny_Raise_call_subU (C := 289) (nm := nm) (q := q) (N := N) (bs := bs) (bm := bm) (hdct := hdct) (sn := sn) (sub := sub) (ab := ab) (col := col) (dd := dd) (k0 := k0) (k1 := k1) (k2 := k2) (k3 := k3) (k5 := k5) (mN := mN) PySem.F.excBase_Exception (by decide) PySem.F.excBase_Exception (T.hasType (by decide)) hr.1 (noStar_any hs) hni ?_
  refine ve_global (n := n) (Q := fun v σ1 => v = .ref 289 ∧ σ1 = σ) hv ⟨rfl, rfl⟩ hl hd A B s hr X he R _ _ fun v σ1 s1 h1 R1 => ?_
  obtain ⟨e1, rfl⟩ := h1
  refine ⟨er_ref e1, evalArgs_pos (noStar_any hs) (h A B s1 hr X he R1 _ _ fun vs σ2 s2 h2 R2 => ?_)⟩
  obtain ⟨c1, c2, c3⟩ := HX _ (X.In R2.rep)
  obtain ⟨hlen, hq2⟩ := h2
  exact ⟨rfl, (show vs.length ≤ sizeLine by rw [List.length_map] at hlen; unfold sizeLine; omega), c1, c2, c3, fun h' e hm => hk e l σ2 s2 h' vs hq2 R2 hm⟩
variable {G : GA} {U V : List Int} {N : Int → List Int} {dg : Option Addr}
theorem is_tree_raises {A : Around} {envL : Env} {L0 : Addr} {ob : Obj} {k : Value → Shared → Prop} {E : Value → Shared → Prop} (hr : Room (n + 4) A) (hfr : A.frames = some [envL]) (hkm : envL.scope.kind ≠ .module) (hfL : envL.frame = some L0) (hob : ∀ vs, ob.data ≠ .fields vs)
    (X : Base (KK w) B) (hB : B.o L0 = none) (R : RepB w (B.add L0 ob) σ s) (g : GR σ G [] [] N dg)
    (hk : ∀ e σ' s', Ext σ σ' → Flying w B σ' envL L0 ob e s' → E (.ref e) s') : wpAny (model prog w) A (call (.ref 675) [.ref G.x]) k E s := by
  refine call_raises (n := n + 3) (Q := fun σ' => Ext σ σ') (f := 675) rfl rfl (by kernel_rfl) (vbi_1 (x := "G") fun L env hF he => ?_) hr hfr hkm hfL hob X hB R (args := [.ref G.x]) rfl hk
  have k_G := kd_ofC he (x := "G") (k := .local) rfl
  have k_H := kd_ofC he (x := "H") (k := .local) rfl
  have k_len := kd_ofC he (x := "len") (k := .globalImplicit) rfl
  have k_NetworkXPointlessConcept := kd_ofC he (x := "NetworkXPointlessConcept") (k := .globalImplicit) rfl
  clear he
  refine bindA_local k_G (bindA_nil ?_)
  show NRB _ _ _ _ _ _ _ _ σ
  refine nrb_if ?_
  refine vt_cmp ?_
  refine ve_call_b (x := "len") b_len bb_len kb_len ?_
  refine vl_cons ?_
  refine ve_local (by first | assumption | (simp only [lk_lset, lk, ofString_inj, String.reduceEq, if_true, if_false] <;> first | rfl | assumption)) ?_
  refine vl_nil ?_
  refine len_graph g (by decide) ?_
  refine ve_const_int ?_
  refine vo_int_eq ?_
  refine vtr_bool ?_
  refine ⟨rfl, ?_⟩
  refine nrb_raise g_NetworkXPointlessConcept exc289 ?_
  refine vl_cons ?_
  refine ve_const_str ?_
  refine vl_nil ?_
  exact ⟨by simp, Ext.refl⟩
end
end Mine
end
section
open PySem PySem.W PySem.Calls PyProof.Rows
set_option maxRecDepth 100000
set_option linter.unusedVariables false
set_option linter.unusedSimpArgs false
namespace Mine
section
variable {w : World} {σ : AS} {n : Nat} {K : Frag} {B : Bs} {s : Shared} {env : Env} {l : Loc}
noncomputable def NBA (A : Around) (K : Frag) (w : World) (env : Env) (st : List Stmt) (Q : AF → Loc → AS → Prop) (l : Loc) (σ : AS) : Prop :=
  ∀ (B : Bs) (s : Shared), Base K B → EnvOK env → RepF w B env l σ s → ∀ (k : Flow → Shared → Prop) (E : Value → Shared → Prop),
    (∀ v l' σ' s', Q (ef v) l' σ' → RepF w B env l' σ' s' → k v s') → wpN (model prog w) A (execs st env) k E s
theorem nba_of {A : Around} {st : List Stmt} {Q : AF → Loc → AS → Prop} (hr : Room n A) (h : NB K w n env st Q l σ) : NBA A K w env st Q l σ := fun B s X he R k E hk => h A B s hr X he R k E hk
theorem nba_cons {A : Around} {st : Stmt} {rest : List Stmt} {Q : AF → Loc → AS → Prop} (hr : Room n A) (h : NS K w n env st (fun f l1 σ1 => match f with | .next => NBA A K w env rest Q l1 σ1 | f => Q f l1 σ1) l σ) : NBA A K w env (st :: rest) Q l σ :=
  fun B s X he R k E hk => by
    rw [execs_cons]
    refine wpN_bind (h A B s hr X he R _ _ fun f l1 σ1 s1 h1 R1 => ?_)
    cases f with
    | next => exact h1 B s1 X he R1 k E hk
    | brk => exact wpN_pure (hk _ _ _ _ h1 R1)
    | cont => exact wpN_pure (hk _ _ _ _ h1 R1)
    | ret v => exact wpN_pure (hk _ _ _ _ h1 R1)
theorem nba_try {A : Around} {arg : Expr} {np cp ep tp hp hnp rp : Pos} {b2 : List Stmt} {hx : Str} {kk : Nat} {kp : Pos} {fx : Str} {Q : AF → Loc → AS → Prop} (hr : Room (n + 4) A) (hfr : A.frames = some [env]) (hfe : env.frame = some env.locals) (hi : interactive env = false)
    (hf : nsIn (KK w) mainGlobals fx = some (some (.ref 675))) (hkf : keepIn (KK w) (.ref 675) = true) (hkx : env.kindOf fx = some .globalImplicit) (hfd : (fx == ("__debug__" : Str)) = false)
    (hxg : nsIn (KK w) mainGlobals hx = some (some (.ref 289))) (hxk : env.kindOf hx = some .globalImplicit) (hxd : (hx == ("__debug__" : Str)) = false)
    (ha : VE (KK w) w (n + 4) env l arg (fun v σ1 => ∃ G N dg, v = .ref G.x ∧ GR σ1 G [] [] N dg ∧ ∀ σ2, Ext σ1 σ2 → Q (.ret (.bool true)) l σ2) σ)
    (hext : ∀ σ2 hi, Q (.ret (.bool true)) l σ2 → Q (.ret (.bool true)) l ⟨σ2.f, hi⟩) (hs : noStar [arg] = true)
    (he0 : starEach [arg] env = (false, eval arg env) :: starEach [] env)
    (he' : eval (.Call (.Name fx np) [arg] [] cp) env = (do callWith cp (← eval (.Name fx np) env) [] (backTo cp (starEach [arg] env)) (backToKw cp (keywordEach [] env)))) :
    NBA A (KK w) w env [.Try (.Expr (.Call (.Name fx np) [arg] [] cp) ep :: b2) [.ExceptHandler (some (.Name hx hnp)) none [.Return (some (.Constant (.bool true) kk kp)) rp] hp] [] [] tp] Q l σ := fun B s X he R k E hk => by
  rw [execs_cons, arm_exec_Try]
  refine wpN_of (wpAny_bind (wpAny_bind (wpAny_standAt ?_)))
  unfold tryStmt
  simp only [List.isEmpty_nil, if_true, List.isEmpty_cons, Bool.false_and, Bool.false_eq_true, if_false]
  refine wpAny_bind (wpAny_attempt ?_)
  rw [execs_cons, exec_Expr env _ ep hi rfl]
  refine wpAny_bind (wpAny_bind (wpAny_standAt (wpAny_bind ?_)))
  rw [he']
  refine wpAny_bind (vx_global (n := n + 4) hf (Q := fun v σ1 => v = .ref 675 ∧ σ1 = σ) ⟨rfl, rfl⟩ hkx hfd A B s hr X he R _ _ fun v σ1 s1 h1 R1 => ?_)
  obtain ⟨e1, rfl⟩ := h1
  rw [show v = .ref 675 from e1]
  refine callWith_of (P := fun h => (KK w).In h) (by rw [noStar_any hs]; rfl) (fun h X' => (keep_ref hkf) _ h X') ?_
  have haL : VL (KK w) w (n + 4) env l cp [arg] (fun vs σ1 => ∃ (G : GA) (N : Int → List Int) (dg : Option Addr), vs = [.ref G.x] ∧ GR σ1 G [] [] N dg ∧ ∀ σ2, Ext σ1 σ2 → Q (.ret (.bool true)) l σ2) σ1 :=
    vl_cons (vx_mono ha fun v σ1 h => by
      obtain ⟨G, N, dg, rfl, h1, h2⟩ := h
      exact vl_nil ⟨G, N, dg, rfl, h1, h2⟩) he0
  refine evalArgs_pos (noStar_any hs) (haL A B s1 hr X he R1 _ _ fun vs σ1 s1 h1 R1 => ⟨X.In R1.rep, ?_⟩)
  obtain ⟨G, N, dg, hvs, gr, hq⟩ := h1
  obtain ⟨v1, rfl, hv1⟩ := one_of hvs
  rw [er_ref hv1]
  obtain ⟨m, hns, hml⟩ := R1.ns
  obtain ⟨ob, es, epp, hob, hobd, hor⟩ := id hns
  have R2 := R1.rep.hide hob R1.lo
  refine is_tree_raises (n := n) hr hfr (by rw [he.kind]; decide) hfe (not_fields_of_dict hobd) X R1.lb R2 gr fun e σ2 s2 hE hfl => ?_
  obtain ⟨⟨base, a0, hfly, hrep⟩, ⟨sl, hloc⟩, hlo⟩ := hfl
  have hnsL : s2.heap.Ns env.locals m := ⟨_, es, epp, hloc, hobd, hor⟩
  dsimp only
  refine wpAny_bind (wpAny_looks_onW hfr hfe hfly fun h3 hheld hsm3 => ?_)
  refine wpAny_bind (wpAny_landsW hheld fun h4 hfly4 hsm4 => ?_)
  try simp only [Bool.false_eq_true, if_false]
  refine wpAny_handleBy_cons (codeAny_handlers_test ?_) (by intro q; cases q)
  obtain ⟨hi4, R4⟩ := hrep h4 s2.toks hfly4.1
  have K4 := X.In R4
  obtain ⟨bm, Nn, nm, q, bs, hdct, sn, sub, ab, col, dd, k0, k1, k2, k3, k5, mN, hni, HX⟩ := exc_of_in K4 (exc289 (w := w))
  obtain ⟨hC, _, TT⟩ := HX _ K4
  obtain ⟨oe, hoe, hoec⟩ := hfly4.there
  have GG : h4.Ns env.globals (h4.nsMap mainGlobals) := by rw [he.glob]; exact ns_of_ok K4 X.glob
  refine wpAny_Name ?_ hxd
  rw [loadName_read he.kind hxk]
  refine Calls.loadGlobal_global GG (ns_some_of K4 (he.glob ▸ GG) hxg) ?_
  refine wpAny_excMatches_sub_self hC hoe hoec (TT.hasType (by decide)) ?_
  dsimp only
  rw [if_pos rfl]
  refine codeAny_handlers_suite ?_
  refine lands_againW hfly4 fun h5 hfly5 hsm5 => ?_
  obtain ⟨hi5, R5⟩ := hrep h5 s2.toks hfly5.1
  rw [execs_cons, exec_Return_some]
  refine wpAny_bind (wpAny_bind (wpAny_standAt (wpAny_bind (wpAny_Constant_bool (wpAny_pure (wpAny_pure ?_))))))
  have hq2 := hext σ2 hi5 (hq σ2 hE)
  have hnsF := hsm5.ns (hsm4.ns (hsm3.ns hnsL))
  have RF : RepF w B env l ⟨σ2.f, hi5⟩ { s2 with heap := h5 } := ⟨R5, ⟨m, hnsF, hml⟩, hlo, R1.lb⟩
  exact wpAny_pure (hk (.ret (.bool true)) _ _ _ hq2 RF)
end
end Mine
end
section
open PySem PySem.W PySem.Calls PyProof.Rows
set_option maxRecDepth 100000
set_option linter.unusedVariables false
set_option linter.unusedSimpArgs false
namespace Mine
structure LW (σ : AS) (L S sc : Addr) (so : Obj) (m : Int) : Prop where
  sc : σ.f sc = some (.raw so)
  tb : σ.f 613 = some .tab
  cs : σ.f (L + 1) = some (.cell (some (.ref S)))
  s : ∃ x, (0 ≤ x ∧ x < 2147483647) ∧ σ.f S = some (.list [.int x])
  cm : σ.f (L + 1 + 1) = some (.cell (some (.int m)))
  ce : ∃ o, σ.f (L + 1 + 1 + 1) = some (.cell o)
  cf : ∃ o, σ.f (L + 1 + 1 + 1 + 1) = some (.cell o)
structure EW (σ : AS) (L ea : Addr) (E : List (Int × Int)) : Prop where
  c : σ.f (L + 1 + 1 + 1) = some (.cell (some (.ref ea)))
  e : ∃ us, σ.f ea = some (.list us) ∧ Prs σ us E
section
variable {σ σ' : AS} {L S sc ea : Addr} {so : Obj} {m : Int} {E : List (Int × Int)}
theorem LW.kp (h : LW σ L S sc so m) (k : Kw σ σ') : LW σ' L S sc so m := by
  obtain ⟨x, hx, hs⟩ := h.s
  obtain ⟨o, ho⟩ := h.ce
  obtain ⟨o2, ho2⟩ := h.cf
  exact ⟨k _ _ h.sc rfl, k _ _ h.tb rfl, k _ _ h.cs rfl, ⟨x, hx, k _ _ hs rfl⟩, k _ _ h.cm rfl, ⟨o, k _ _ ho rfl⟩, ⟨o2, k _ _ ho2 rfl⟩⟩
theorem LW.ext (h : LW σ L S sc so m) (k : Ext σ σ') : LW σ' L S sc so m := h.kp (Kw.of_ext k)
theorem Prs.kp {us : List AV} (h : Prs σ us E) (k : Kw σ σ') : Prs σ' us E := h.ext fun a p e _ => k _ _ e rfl
theorem EW.kp (h : EW σ L ea E) (k : Kw σ σ') : EW σ' L ea E := by
  obtain ⟨us, h1, h2⟩ := h.e
  exact ⟨k _ _ h.c rfl, us, k _ _ h1 rfl, h2.kp k⟩
theorem EW.ext (h : EW σ L ea E) (k : Ext σ σ') : EW σ' L ea E := h.kp (Kw.of_ext k)
theorem LW.upd (h : LW σ L S sc so m) {a : Addr} {xs : List AV} {o' : AO} (ha : σ.f a = some (.list xs)) (hn : a ≠ S) : LW (σ.upd a o') L S sc so m := by
  obtain ⟨x, hx, hs⟩ := h.s
  obtain ⟨o, ho⟩ := h.ce
  obtain ⟨o2, ho2⟩ := h.cf
  exact ⟨upd_ne (ne_obj h.sc ha (by intro q; cases q)) h.sc, upd_ne (ne_obj h.tb ha (by intro q; cases q)) h.tb, upd_ne (ne_obj h.cs ha (by intro q; cases q)) h.cs, ⟨x, hx, upd_ne (Ne.symm hn) hs⟩, upd_ne (ne_obj h.cm ha (by intro q; cases q)) h.cm, ⟨o, upd_ne (ne_obj ho ha (by intro q; cases q)) ho⟩, ⟨o2, upd_ne (ne_obj ho2 ha (by intro q; cases q)) ho2⟩⟩
theorem LW.next (h : LW σ L S sc so m) {y : Int} (hy : 0 ≤ y ∧ y < 2147483647) : LW (σ.upd S (.list [.int y])) L S sc so m := by
  obtain ⟨x, hx, hs⟩ := h.s
  obtain ⟨o, ho⟩ := h.ce
  obtain ⟨o2, ho2⟩ := h.cf
  exact ⟨upd_ne (ne_obj h.sc hs (by intro q; cases q)) h.sc, upd_ne (ne_obj h.tb hs (by intro q; cases q)) h.tb, upd_ne (ne_obj h.cs hs (by intro q; cases q)) h.cs, ⟨y, hy, upd_at⟩, upd_ne (ne_obj h.cm hs (by intro q; cases q)) h.cm, ⟨o, upd_ne (ne_obj ho hs (by intro q; cases q)) ho⟩, ⟨o2, upd_ne (ne_obj ho2 hs (by intro q; cases q)) ho2⟩⟩
theorem EW.upd (h : EW σ L ea E) {a : Addr} {xs : List AV} {o' : AO} (ha : σ.f a = some (.list xs)) (hn : a ≠ ea) : EW (σ.upd a o') L ea E := by
  obtain ⟨us, h1, h2⟩ := h.e
  exact ⟨upd_ne (ne_obj h.c ha (by intro q; cases q)) h.c, us, upd_ne (Ne.symm hn) h1, h2.upd ha (by intro xs q; cases q)⟩
theorem EW.add (h : EW σ L ea E) {t : Addr} {x y : Int} {us : List AV} (hus : σ.f ea = some (.list us)) (ht : σ.f t = some (.tup [.int x, .int y])) : EW (σ.upd ea (.list (us ++ [.ref t]))) L ea (E ++ [(x, y)]) := by
  obtain ⟨us', h1, h2⟩ := h.e
  rw [hus] at h1
  cases h1
  exact ⟨upd_ne (ne_obj h.c hus (by intro q; cases q)) h.c, _, upd_at, Prs.append (h2.upd hus (by intro xs q; cases q)) (Prs.one (upd_ne (ne_obj ht hus (by intro q; cases q)) ht))⟩
end
structure GoodE (m : Int) (E : List (Int × Int)) : Prop where
  rg : ∀ e, e ∈ E → 0 ≤ e.1 ∧ e.1 < e.2 ∧ e.2 < m
  nd : E.Nodup
  par : ∀ k, 1 ≤ k → k < m → ∃ p, (p, k) ∈ E
noncomputable def ParE (P : List (Int × Int)) : Prop := ∀ (i : Nat) (e : Int × Int), P[i]? = some e → e.2 = (i : Int) + 1 ∧ 0 ≤ e.1 ∧ e.1 ≤ (i : Int)
theorem ParE.snoc {P : List (Int × Int)} (h : ParE P) {p : Int} (h0 : 0 ≤ p) (h1 : p ≤ (P.length : Int)) : ParE (P ++ [(p, (P.length : Int) + 1)]) := fun i e he => by
  rcases Nat.lt_or_ge i P.length with q | q
  · rw [List.getElem?_append_left q] at he
    exact h i e he
  · rw [List.getElem?_append_right q] at he
    have hi : i - P.length = 0 := by
      rcases Nat.eq_zero_or_pos (i - P.length) with z | z
      · exact z
      · rw [List.getElem?_eq_none (by rw [List.length_singleton]; omega)] at he; cases he
    rw [hi] at he
    cases he
    obtain rfl : i = P.length := by omega
    exact ⟨rfl, h0, h1⟩
theorem ParE.good {m : Int} {P : List (Int × Int)} (h : ParE P) (hl : (P.length : Int) + 1 = m) : GoodE m P := by
  have key : ∀ e, e ∈ P → ∃ i : Nat, i < P.length ∧ P[i]? = some e := fun e he => by
    obtain ⟨i, hi, e1⟩ := List.getElem_of_mem he
    exact ⟨i, hi, by rw [List.getElem?_eq_getElem hi, e1]⟩
  refine ⟨fun e he => ?_, ?_, fun k h1 h2 => ?_⟩
  · obtain ⟨i, hi, e1⟩ := key e he
    have := h i e e1
    omega
  · refine List.pairwise_iff_getElem.mpr fun i j hi hj hij => ?_
    have a := h i _ (List.getElem?_eq_getElem hi)
    have b := h j _ (List.getElem?_eq_getElem hj)
    intro q
    rw [q] at a
    omega
  · have hk : (k - 1).toNat < P.length := by omega
    have a := h (k - 1).toNat _ (List.getElem?_eq_getElem hk)
    refine ⟨(P[(k - 1).toNat]).1, ?_⟩
    have e : (P[(k - 1).toNat]).2 = k := by omega
    have : ((P[(k - 1).toNat]).1, k) = P[(k - 1).toNat] := Prod.ext rfl e.symm
    rw [this]
    exact List.getElem_mem hk
theorem GoodE.add {m : Int} {E : List (Int × Int)} (h : GoodE m E) {e : Int × Int} (he : 0 ≤ e.1 ∧ e.1 < e.2 ∧ e.2 < m) (hn : e ∉ E) : GoodE m (E ++ [e]) := by
  refine ⟨fun x hx => ?_, ?_, fun k h1 h2 => ?_⟩
  · rcases List.mem_append.mp hx with q | q
    · exact h.rg x q
    · rw [List.mem_singleton.mp q]; exact he
  · rw [List.nodup_append]
    refine ⟨h.nd, by simp, fun a ha b hb => ?_⟩
    rw [List.mem_singleton.mp hb]
    exact fun q => hn (q ▸ ha)
  · obtain ⟨p, hp⟩ := h.par k h1 h2
    exact ⟨p, List.mem_append_left _ hp⟩
noncomputable def MW (σ : AS) (a : Addr) (M : List (Int × Int)) : Prop := ∃ us, σ.f a = some (.list us) ∧ Prs σ us M
structure MoreOK (m : Int) (E M : List (Int × Int)) : Prop where
  rg : ∀ e, e ∈ M → 0 ≤ e.1 ∧ e.1 < e.2 ∧ e.2 < m
  ni : ∀ e, e ∈ M → e ∉ E
  nd : M.Nodup
  ln : M.length ≤ 64
theorem MW.kp {σ σ' : AS} {a : Addr} {M : List (Int × Int)} (h : MW σ a M) (k : Kw σ σ') : MW σ' a M := let ⟨us, h1, h2⟩ := h; ⟨us, k _ _ h1 rfl, h2.kp k⟩
theorem MW.ext {σ σ' : AS} {a : Addr} {M : List (Int × Int)} (h : MW σ a M) (k : Ext σ σ') : MW σ' a M := h.kp (Kw.of_ext k)
theorem MW.upd {σ : AS} {a b : Addr} {M : List (Int × Int)} {xs : List AV} {o' : AO} (h : MW σ a M) (hb : σ.f b = some (.list xs)) (hn : b ≠ a) : MW (σ.upd b o') a M := let ⟨us, h1, h2⟩ := h; ⟨us, upd_ne (Ne.symm hn) h1, h2.upd hb (by intro xs q; cases q)⟩
theorem split_at {α : Type} : ∀ {M : List α} {i : Nat} {e : α}, M[i]? = some e → M = M.take i ++ e :: M.drop (i + 1)
  | [], i, e, h => by simp at h
  | x :: M, 0, e, h => by simp at h; simp [h]
  | x :: M, i + 1, e, h => by
    have := split_at (M := M) (i := i) (e := e) (by simpa using h)
    simp only [List.take_succ_cons, List.drop_succ_cons, List.cons_append]
    rw [← this]
theorem MoreOK.pop {m : Int} {E M : List (Int × Int)} (h : MoreOK m E M) {i : Nat} {e : Int × Int} (he : M[i]? = some e) : MoreOK m (E ++ [e]) (M.eraseIdx i) := by
  have hs := split_at he
  have hx : M.eraseIdx i = M.take i ++ M.drop (i + 1) := List.eraseIdx_eq_take_drop_succ ..
  have hsub : (M.eraseIdx i).Sublist M := List.eraseIdx_sublist ..
  refine ⟨fun x hx => h.rg x (hsub.subset hx), fun x hxm => ?_, h.nd.sublist hsub, Nat.le_trans hsub.length_le h.ln⟩
  intro hq
  rcases List.mem_append.mp hq with q | q
  · exact h.ni x (hsub.subset hxm) q
  · rw [List.mem_singleton.mp q] at hxm
    have hnd := h.nd
    rw [hs] at hnd
    rw [hx] at hxm
    rw [List.nodup_append] at hnd
    rcases List.mem_append.mp hxm with z | z
    · exact hnd.2.2 e z e (List.mem_cons_self ..) rfl
    · exact (List.nodup_cons.mp hnd.2.1).1 z
theorem Prs.erase {σ : AS} {us : List AV} {M : List (Int × Int)} (h : Prs σ us M) (i : Nat) : Prs σ (us.eraseIdx i) (M.eraseIdx i) := by
  unfold Prs at h ⊢
  rw [map_eraseIdx, h, ← map_eraseIdx]
noncomputable def pairs8 : List (Int × Int) := (List.range 8).flatMap fun (b : Nat) => (List.range b).map fun (a : Nat) => ((a : Int), (b : Int))
theorem GoodE.le28 {m : Int} {E : List (Int × Int)} (h : GoodE m E) (hm : m ≤ 8) : E.length ≤ 28 := by
  have := h.nd.length_le_of_subset (l₂ := pairs8) fun e he => by
    have := h.rg e he
    unfold pairs8
    rw [List.mem_flatMap]
    refine ⟨e.2.toNat, by rw [List.mem_range]; omega, ?_⟩
    rw [List.mem_map]
    exact ⟨e.1.toNat, by rw [List.mem_range]; omega, Prod.ext (by dsimp only; omega) (by dsimp only; omega)⟩
  exact Nat.le_trans this (by decide)
section
variable {w : World} {σ : AS} {n : Nat} {env : Env} {l : Loc} {L S sc : Addr} {so : Obj} {m : Int}
theorem ve_next {np sp pos : Pos} {e2 : Expr} {Q : AV → AS → Prop} (W : LW σ L S sc so m) (hks : env.kindOf "s" = some .cell) (hc : env.cells.lookup (Str.ofString "s") = some (L + 1))
    (h : VE (KK w) w (n + 1) env l e2 (fun v σ1 => ∃ k, v = .int k ∧ 0 < k ∧ LW σ1 L S sc so m ∧ ∀ y r, (0 ≤ y ∧ y < 2147483647) → 0 ≤ r → r < k → (∀ x, σ1.f S = some (.list [.int x]) → LW (σ1.upd S (.list [.int y])) L S sc so m → Q (.int r) (σ1.upd S (.list [.int y])))) σ)
    (hl : env.kindOf "_law_next" = some .globalImplicit := by first | assumption | rfl)
    (he2 : starEach [e2] env = (false, eval e2 env) :: starEach [] env := by rfl) (hs : noStar [.Name "s" sp, e2] = true := by rfl) (he1 : starEach [.Name "s" sp, e2] env = (false, eval (.Name "s" sp) env) :: starEach [e2] env := by rfl) :
    VE (KK w) w (n + 1) env l (.Call (.Name "_law_next" np) [.Name "s" sp, e2] [] pos) Q σ := by
  refine ve_call_g (x := "_law_next") g__law_next kp__law_next ?_ hl (by decide) hs
  refine vl_cons ?_ he1
  refine ve_cell hc W.cs ?_
  refine vl_cons (vx_mono h fun v σ1 h1 => ?_) he2
  obtain ⟨k, rfl, hk, W1, hq⟩ := h1
  refine vl_nil ?_
  obtain ⟨x, hx, hxs⟩ := W1.s
  exact law_next hxs hx hk fun y r hy hr => hq y r hy hr.1 hr.2 x hxs (W1.next hy)
end
theorem g_makes {w : World} : makesIn (KK w) 629 = true := by kernel_rfl
theorem fn_Graph {w : World} {σ : AS} {n : Nat} {Q : AV → AS → Prop} (h : ∀ σ' (G : GA), Ext σ σ' → GR σ' G [] [] (fun _ => []) none → σ.f G.x = none → Q (.ref G.x) σ') : VC (KK w) w (n + 3) (.ref 629) [] Q σ := by
  refine vc_of_code (vcode_make g_makes m___init__ mt___init__ fun d x hd hx => ?_)
  have e1 := (Ext.ins (o := .ns []) hd).trans (Ext.ins (o := .inst 629 d) hx)
  have x1 := ins_self (o := .inst 629 d) hx
  have d1 := ins_old (o := .inst 629 d) hx (ins_self (o := .ns []) hd)
  have hxn : σ.f x = none := (Ext.ins (o := .ns []) hd).fresh hx
  refine law_init x1 d1 fun σ' gr nd ad hE hd' hnd had hne hn1 hn2 => ⟨rfl, ?_⟩
  obtain ⟨ea1, hnd⟩ := hnd
  obtain ⟨ea2, had⟩ := had
  refine h σ' ⟨x, d, nd, ad, .ref gr, fun _ => 0, fun _ => .none, fun _ _ => .none, ea1, ea2, fun _ => 0⟩ (fun a o e => hE a o (fun q => by rw [q, hd.none] at e; cases e) (e1 _ _ e)) ⟨hE _ _ (ne_obj x1 d1 (by intro q; cases q)) x1, hd', hnd, had, (fun v hv => by cases hv), hne, (fun v hv => by cases hv), (fun u v hu => by cases hu)⟩ hxn
end Mine
end
section
set_option linter.unusedVariables false
set_option linter.unusedSimpArgs false
namespace Mine
noncomputable def e7 (e : Int × Int) : Int × Int := (7 * e.1, 7 * e.2)
noncomputable def x7 (v : Int) : Int := 7 * v
theorem mem_add1 {N : Int → List Int} {a b v u : Int} : u ∈ add1 N a b v ↔ u ∈ N v ∨ (v = a ∧ u = b) := by
  unfold add1
  split
  · rename_i h; simp [h]
  · rename_i h; simp [h]
theorem mem_addE {N : Int → List Int} {e : Int × Int} {v u : Int} : u ∈ addE N e v ↔ u ∈ N v ∨ (v, u) = e ∨ (u, v) = e := by
  unfold addE
  rw [mem_add1, mem_add1]
  constructor
  · rintro ((h | ⟨h1, h2⟩) | ⟨h1, h2⟩)
    · exact .inl h
    · exact .inr (.inl (Prod.ext h1 h2))
    · exact .inr (.inr (Prod.ext h2 h1))
  · rintro (h | h | h)
    · exact .inl (.inl h)
    · exact .inl (.inr ⟨congrArg Prod.fst h, congrArg Prod.snd h⟩)
    · exact .inr ⟨congrArg Prod.snd h, congrArg Prod.fst h⟩
theorem mem_addsE {v u : Int} : ∀ (E : List (Int × Int)) (N : Int → List Int), u ∈ addsE N E v ↔ u ∈ N v ∨ (v, u) ∈ E ∨ (u, v) ∈ E
  | [], N => by simp [addsE]
  | e :: E, N => by
    show u ∈ addsE (addE N e) E v ↔ _
    rw [mem_addsE E (addE N e), mem_addE]
    simp only [List.mem_cons]
    constructor
    · rintro ((h | h | h) | h | h)
      · exact .inl h
      · exact .inr (.inl (.inl h))
      · exact .inr (.inr (.inl h))
      · exact .inr (.inl (.inr h))
      · exact .inr (.inr (.inr h))
    · rintro (h | (h | h) | (h | h))
      · exact .inl (.inl h)
      · exact .inl (.inr (.inl h))
      · exact .inr (.inl h)
      · exact .inl (.inr (.inr h))
      · exact .inr (.inr h)
theorem len_add1 {N : Int → List Int} {a b v : Int} : (add1 N a b v).length = (N v).length + if v = a then 1 else 0 := by
  unfold add1
  split <;> simp
theorem len_addE {N : Int → List Int} {e : Int × Int} {v : Int} : (addE N e v).length = (N v).length + (if v = e.1 then 1 else 0) + if v = e.2 then 1 else 0 := by
  unfold addE
  rw [len_add1, len_add1]
theorem len_addsE {v : Int} : ∀ (E : List (Int × Int)) (N : Int → List Int), (addsE N E v).length ≤ (N v).length + 2 * E.length
  | [], N => by simp [addsE]
  | e :: E, N => by
    show (addsE (addE N e) E v).length ≤ _
    have h1 := len_addsE (v := v) E (addE N e)
    have h2 := len_addE (N := N) (e := e) (v := v)
    have a : (if v = e.1 then 1 else 0) ≤ 1 := by split <;> omega
    have b : (if v = e.2 then 1 else 0) ≤ 1 := by split <;> omega
    rw [List.length_cons]
    omega
theorem sum_ind {V : List Int} (hn : V.Nodup) {a : Int} (ha : a ∈ V) : (V.map fun v => (if v = a then (1 : Int) else 0)).sum = 1 := by
  induction V with
  | nil => cases ha
  | cons x V ih =>
    rw [List.nodup_cons] at hn
    rw [List.map_cons, List.sum_cons]
    by_cases q : x = a
    · subst q
      rw [if_pos rfl]
      have : (V.map fun v => (if v = x then (1 : Int) else 0)).sum = 0 := by
        have h0 : V.map (fun v => (if v = x then (1 : Int) else 0)) = V.map fun _ => (0 : Int) := List.map_congr_left fun v hv => if_neg fun (z : v = x) => hn.1 (z ▸ hv)
        rw [h0]
        clear h0 ih hn ha
        induction V with
        | nil => rfl
        | cons y V ih => rw [List.map_cons, List.sum_cons, ih]; rfl
      rw [this]; rfl
    · rw [if_neg q, Int.zero_add]
      rcases List.mem_cons.mp ha with z | z
      · exact absurd z.symm q
      · exact ih hn.2 z
theorem sum_add (f g : Int → Int) : ∀ V : List Int, (V.map fun v => f v + g v).sum = (V.map f).sum + (V.map g).sum
  | [] => rfl
  | x :: V => by
    simp only [List.map_cons, List.sum_cons]
    rw [sum_add f g V]
    omega
theorem deg_addE {N : Int → List Int} {V : List Int} (hn : V.Nodup) {e : Int × Int} (h1 : e.1 ∈ V) (h2 : e.2 ∈ V) : degSum (addE N e) V = degSum N V + 2 := by
  unfold degSum
  have : (V.map fun v => ((addE N e v).length : Int)) = V.map fun v => (((N v).length : Int) + (if v = e.1 then (1 : Int) else 0)) + (if v = e.2 then (1 : Int) else 0) := List.map_congr_left fun v _ => by
    rw [len_addE]
    split <;> split <;> simp
  rw [this, sum_add, sum_add, sum_ind hn h1, sum_ind hn h2]
  omega
theorem deg_addsE {V : List Int} (hn : V.Nodup) : ∀ (E : List (Int × Int)) (N : Int → List Int), (∀ e, e ∈ E → e.1 ∈ V ∧ e.2 ∈ V) → degSum (addsE N E) V = degSum N V + 2 * (E.length : Int)
  | [], N, _ => by simp [addsE]
  | e :: E, N, h => by
    show degSum (addsE (addE N e) E) V = _
    rw [deg_addsE hn E (addE N e) fun x hx => h x (List.mem_cons_of_mem _ hx), deg_addE hn (h e (List.mem_cons_self ..)).1 (h e (List.mem_cons_self ..)).2, List.length_cons]
    omega
noncomputable def NN (E : List (Int × Int)) : Int → List Int := addsE (fun _ => []) (E.map e7)
theorem mem_NN {E : List (Int × Int)} {v u : Int} : 7 * u ∈ NN E (7 * v) ↔ (v, u) ∈ E ∨ (u, v) ∈ E := by
  unfold NN
  rw [mem_addsE]
  simp only [List.not_mem_nil, false_or, List.mem_map]
  have key : ∀ p q : Int, (∃ a, a ∈ E ∧ e7 a = (7 * p, 7 * q)) ↔ (p, q) ∈ E := fun p q => by
    constructor
    · rintro ⟨⟨x, y⟩, h, e⟩
      have e1 := congrArg Prod.fst e
      have e2 := congrArg Prod.snd e
      simp only [e7] at e1 e2
      have : x = p := by omega
      have : y = q := by omega
      subst_vars; exact h
    · exact fun h => ⟨(p, q), h, rfl⟩
  rw [key, key]
theorem mem_NN' {E : List (Int × Int)} {v u : Int} (h : u ∈ NN E v) : ∃ a b, v = 7 * a ∧ u = 7 * b ∧ ((a, b) ∈ E ∨ (b, a) ∈ E) := by
  unfold NN at h
  rw [mem_addsE] at h
  simp only [List.not_mem_nil, false_or, List.mem_map] at h
  rcases h with ⟨⟨x, y⟩, h1, h2⟩ | ⟨⟨x, y⟩, h1, h2⟩
  · exact ⟨x, y, (congrArg Prod.fst h2).symm, (congrArg Prod.snd h2).symm, .inl h1⟩
  · exact ⟨y, x, (congrArg Prod.snd h2).symm, (congrArg Prod.fst h2).symm, .inr h1⟩
theorem rng_nodup (a b : Int) : (rngInts a b).Nodup := by
  unfold rngInts
  refine List.Pairwise.map (R := (· ≠ ·)) (S := (· ≠ ·)) _ (fun i j h q => h ?_) List.nodup_range
  omega
theorem mem_rng {a b x : Int} : x ∈ rngInts a b ↔ a ≤ x ∧ x < b := by
  unfold rngInts
  rw [List.mem_map]
  constructor
  · rintro ⟨i, hi, rfl⟩
    rw [List.mem_range] at hi
    omega
  · intro h
    exact ⟨(x - a).toNat, by rw [List.mem_range]; omega, by omega⟩
theorem x7_nodup {os : List Int} (h : os.Nodup) : (os.map x7).Nodup := List.Pairwise.map (R := (· ≠ ·)) (S := (· ≠ ·)) _ (fun i j h q => h (by unfold x7 at q; omega)) h
theorem mem_x7 {os : List Int} {v : Int} : 7 * v ∈ os.map x7 ↔ v ∈ os := by
  rw [List.mem_map]
  constructor
  · rintro ⟨a, ha, e⟩
    have : a = v := by unfold x7 at e; omega
    exact this ▸ ha
  · exact fun h => ⟨v, h, rfl⟩
theorem os_mem {os : List Int} {m v : Int} (h : os.Perm (rngInts 0 m)) : v ∈ os ↔ 0 ≤ v ∧ v < m := by rw [h.mem_iff, mem_rng]
theorem os_nodup {os : List Int} {m : Int} (h : os.Perm (rngInts 0 m)) : os.Nodup := h.nodup_iff.mpr (rng_nodup 0 m)
theorem os_length {os : List Int} {m : Int} (h : os.Perm (rngInts 0 m)) : os.length = m.toNat := by
  rw [h.length_eq]
  simp only [rngInts, List.length_map, List.length_range]; omega
section
variable {m : Int} {E : List (Int × Int)} {os : List Int}
theorem edges_ok (gE : GoodE m E) (hm : m ≤ 8) (hp : os.Perm (rngInts 0 m)) : ∀ j e, (E.map e7)[j]? = some e → EdgeOK (os.map x7) (addsE (fun _ => []) ((E.map e7).take j)) e := fun j e he => by
  rw [List.getElem?_map] at he
  obtain ⟨p, hpe, rfl⟩ := Option.map_eq_some_iff.mp he
  have hpm := List.mem_of_getElem? hpe
  have hr := gE.rg p hpm
  have hl : ((E.map e7).take j).length ≤ 28 := Nat.le_trans (List.length_take_le' ..) (by rw [List.length_map]; exact gE.le28 hm)
  have hno : ∀ q, q ∈ (E.map e7).take j → q ≠ e7 p := fun q hq z => by
    rw [← List.map_take, List.mem_map] at hq
    obtain ⟨r, hr1, hr2⟩ := hq
    have : r = p := by
      rw [z] at hr2
      have e1 := congrArg Prod.fst hr2
      have e2 := congrArg Prod.snd hr2
      simp only [e7] at e1 e2
      exact Prod.ext (by omega) (by omega)
    subst this
    have hs := split_at hpe
    have hn := gE.nd
    rw [hs, List.nodup_append] at hn
    exact hn.2.2 r hr1 r (List.mem_cons_self ..) rfl
  have hlt : ∀ q, q ∈ (E.map e7).take j → q.1 < q.2 := fun q hq => by
    rw [← List.map_take, List.mem_map] at hq
    obtain ⟨r, hr1, rfl⟩ := hq
    have := gE.rg r (List.mem_of_mem_take hr1)
    simp only [e7]; omega
  refine ⟨mem_x7.mpr ((os_mem hp).mpr (by omega)), mem_x7.mpr ((os_mem hp).mpr (by omega)), by simp only [e7]; omega, fun h => ?_, fun h => ?_, ?_, ?_⟩
  · rw [mem_addsE] at h
    rcases h with h | h | h
    · cases h
    · exact hno _ h rfl
    · have := hlt _ h
      simp only [e7] at this; omega
  · rw [mem_addsE] at h
    rcases h with h | h | h
    · cases h
    · have := hlt _ h
      simp only [e7] at this; omega
    · exact hno _ h rfl
  · exact Nat.le_trans (len_addsE _ _) (by simp only [List.length_nil]; omega)
  · exact Nat.le_trans (len_addsE _ _) (by simp only [List.length_nil]; omega)
theorem NN_deg (gE : GoodE m E) (hp : os.Perm (rngInts 0 m)) : degSum (NN E) (os.map x7) = 2 * (E.length : Int) := by
  unfold NN
  rw [deg_addsE (x7_nodup (os_nodup hp)), List.length_map]
  · have : degSum (fun _ => []) (os.map x7) = 0 := by
      unfold degSum
      generalize os.map x7 = V
      induction V with
      | nil => rfl
      | cons y V ih => rw [List.map_cons, List.sum_cons, ih]; rfl
    rw [this]; omega
  · intro e he
    obtain ⟨p, hpm, rfl⟩ := List.mem_map.mp he
    have := gE.rg p hpm
    exact ⟨mem_x7.mpr ((os_mem hp).mpr (by omega)), mem_x7.mpr ((os_mem hp).mpr (by omega))⟩
theorem NN_len (gE : GoodE m E) (hm : m ≤ 8) (v : Int) : (NN E v).length ≤ 56 := by
  have := gE.le28 hm
  exact Nat.le_trans (len_addsE _ _) (by rw [List.length_map]; simp only [List.length_nil]; omega)
theorem NN_sub (gE : GoodE m E) (hp : os.Perm (rngInts 0 m)) : ∀ v, v ∈ os.map x7 → ∀ u, u ∈ NN E v → u ∈ os.map x7 := fun v hv u hu => by
  obtain ⟨a, b, rfl, rfl, h⟩ := mem_NN' hu
  refine mem_x7.mpr ((os_mem hp).mpr ?_)
  rcases h with h | h
  · have := gE.rg _ h; dsimp only at this; omega
  · have := gE.rg _ h; dsimp only at this; omega
theorem NN_irr (gE : GoodE m E) : ∀ v, v ∉ NN E v := fun v hv => by
  obtain ⟨a, b, e1, e2, h⟩ := mem_NN' hv
  have : a = b := by omega
  subst this
  rcases h with h | h
  · have := gE.rg _ h; dsimp only at this; omega
  · have := gE.rg _ h; dsimp only at this; omega
end
theorem gl_mem {f : List (Int × Int)} {k x : Int} (h : gl f k = some x) : (k, x) ∈ f := by
  unfold gl at h
  obtain ⟨p, hp, rfl⟩ := Option.map_eq_some_iff.mp h
  have h1 := List.find?_some hp
  have h2 := List.mem_of_find?_eq_some hp
  have : p.1 = k := by simpa using h1
  rw [← this]; exact h2
noncomputable def NonNeg (f : List (Int × Int)) : Prop := ∀ p, p ∈ f → 0 ≤ p.2
theorem nn_sl {f : List (Int × Int)} (h : NonNeg f) {k v : Int} (hv : 0 ≤ v) : NonNeg (sl f k v) := by
  unfold sl
  split
  · intro p hp
    obtain ⟨q, hq, rfl⟩ := List.mem_map.mp hp
    split
    · exact hv
    · exact h q hq
  · intro p hp
    rcases List.mem_append.mp hp with q | q
    · exact h p q
    · rw [List.mem_singleton.mp q]; exact hv
theorem nn_relax {m : Int} {f : List (Int × Int)} (h : NonNeg f) (e : Int × Int) : NonNeg (relax m f e) := by
  unfold relax
  split
  · rename_i x hx
    split
    · have := h _ (gl_mem hx)
      exact nn_sl h (by dsimp only at this; omega)
    · exact h
  · exact h
theorem nn_fold {m : Int} : ∀ (L f : List (Int × Int)), NonNeg f → NonNeg (L.foldl (relax m) f)
  | [], f, h => h
  | e :: L, f, h => nn_fold L _ (nn_relax h e)
theorem nn_rounds (m : Int) (E : List (Int × Int)) (st : Int) : ∀ k, NonNeg (rounds m E st k)
  | 0 => fun p hp => by rw [List.mem_singleton.mp hp]; exact Int.le_refl _
  | k + 1 => nn_fold _ _ (nn_rounds m E st k)
theorem rounds_nonneg (m : Int) (E : List (Int × Int)) (st : Int) : ∀ x ∈ (rounds m E st m.toNat).map (·.2), 0 ≤ x := fun x hx => by
  obtain ⟨p, hp, rfl⟩ := List.mem_map.mp hx
  exact nn_rounds m E st _ p hp
noncomputable def ff (m : Int) (E : List (Int × Int)) (v : Int) : Int := lmax ((rounds m E v m.toNat).map (·.2))
theorem rng_get {m : Int} {j : Nat} (h : (j : Int) < m) : (rngInts 0 m)[j]? = some (j : Int) := by
  unfold rngInts
  rw [List.getElem?_map, List.getElem?_range (by omega)]
  simp
noncomputable def duel (m : Int) (E : List (Int × Int)) (os : List Int) : List Int := os.filter fun v => ff m E v == lmin ((rngInts 0 m).map (ff m E))
end Mine
end
section
set_option linter.unusedVariables false
set_option linter.unusedSimpArgs false
namespace Mine
section
variable {m : Int} {E : List (Int × Int)} {os : List Int}
theorem reach_down (gE : GoodE m E) {s : Int} : ∀ (k : Nat), (k : Int) < m → Reach (NN E) s (7 * (k : Int)) → Reach (NN E) s (7 * (0 : Int)) := by
  intro k
  induction k using Nat.strongRecOn with
  | ind k ih =>
    intro hk h
    rcases Nat.eq_zero_or_pos k with q | q
    · subst q; exact h
    · obtain ⟨p, hp⟩ := gE.par k (by omega) hk
      have hr := gE.rg _ hp
      dsimp only at hr
      have h2 : Reach (NN E) s (7 * p) := .step h (mem_NN.mpr (.inr hp))
      have h3 := ih p.toNat (by omega) (by omega)
      rw [show ((p.toNat : Nat) : Int) = p by omega] at h3
      exact h3 h2
theorem reach_up (gE : GoodE m E) {s : Int} (h0 : Reach (NN E) s (7 * (0 : Int))) : ∀ (k : Nat), (k : Int) < m → Reach (NN E) s (7 * (k : Int)) := by
  intro k
  induction k using Nat.strongRecOn with
  | ind k ih =>
    intro hk
    rcases Nat.eq_zero_or_pos k with q | q
    · subst q; exact h0
    · obtain ⟨p, hp⟩ := gE.par k (by omega) hk
      have hr := gE.rg _ hp
      dsimp only at hr
      have h3 := ih p.toNat (by omega) (by omega)
      rw [show ((p.toNat : Nat) : Int) = p by omega] at h3
      exact .step h3 (mem_NN.mpr (.inl hp))
theorem x7_of {v : Int} (h : v ∈ os.map x7) : ∃ a, a ∈ os ∧ v = 7 * a := by
  obtain ⟨a, ha, rfl⟩ := List.mem_map.mp h
  exact ⟨a, ha, rfl⟩
theorem connected (gE : GoodE m E) (hp : os.Perm (rngInts 0 m)) {v0 : Int} (h0 : v0 ∈ os.map x7) : ∀ x, x ∈ os.map x7 → Reach (NN E) v0 x := fun x hx => by
  obtain ⟨a, ha, rfl⟩ := x7_of h0
  obtain ⟨b, hb, rfl⟩ := x7_of hx
  have ra := (os_mem hp).mp ha
  have rb := (os_mem hp).mp hb
  have h1 := reach_down gE (s := 7 * a) a.toNat (by omega)
  rw [show ((a.toNat : Nat) : Int) = a by omega] at h1
  have h2 := reach_up gE (h1 .here) b.toNat (by omega)
  rw [show ((b.toNat : Nat) : Int) = b by omega] at h2
  exact h2
theorem tree_iff (gE : GoodE m E) (hp : os.Perm (rngInts 0 m)) (hm1 : 1 ≤ m) {v0 : Int} (h0 : v0 ∈ os.map x7) {b : Bool} (h : b = true ↔ (((os.map x7).length : Int) - 1 = Int.fdiv (degSum (NN E) (os.map x7)) 2 ∧ ∀ x, x ∈ os.map x7 → Reach (NN E) v0 x)) : b = ((E.length : Int) == m - 1) := by
  rw [NN_deg gE hp, Int.mul_fdiv_cancel_left _ (by decide), List.length_map, os_length hp] at h
  have hc := connected gE hp h0
  rw [Bool.eq_iff_iff, h]
  constructor
  · rintro ⟨h1, _⟩
    simp only [beq_iff_eq]
    omega
  · intro h1
    simp only [beq_iff_eq] at h1
    exact ⟨by omega, hc⟩
theorem edge_ok_more (gE : GoodE m E) (hm8 : m ≤ 8) (hp : os.Perm (rngInts 0 m)) {a b : Int} (h0 : 0 ≤ a) (h1 : a < b) (h2 : b < m) (hn : (a, b) ∉ E) : EdgeOK (os.map x7) (NN E) (7 * a, 7 * b) := by
  have hno : (b, a) ∉ E := fun h => by have := gE.rg _ h; dsimp only at this; omega
  refine ⟨mem_x7.mpr ((os_mem hp).mpr (by omega)), mem_x7.mpr ((os_mem hp).mpr (by omega)), by dsimp only; omega, fun h => ?_, fun h => ?_, Nat.le_trans (NN_len gE hm8 _) (by decide), Nat.le_trans (NN_len gE hm8 _) (by decide)⟩
  · rcases mem_NN.mp h with q | q
    · exact hn q
    · exact hno q
  · rcases mem_NN.mp h with q | q
    · exact hno q
    · exact hn q
structure Plus (V : List Int) (N N1 : Int → List Int) (p q : Int) : Prop where
  sub : ∀ v, v ∈ V → ∀ u, u ∈ N1 v → u ∈ V
  irr : ∀ v, v ∉ N1 v
  len : ∀ v, (N1 v).length ≤ 900
  pq : q ∈ N1 p
  qp : p ∈ N1 q
  back : (fun v => if v = q then (if v = p then (N1 v).filter fun z => decide (z ≠ q) else N1 v).filter fun z => decide (z ≠ p) else if v = p then (N1 v).filter fun z => decide (z ≠ q) else N1 v) = N
theorem filter_snoc {l : List Int} {x : Int} (h : x ∉ l) : (l ++ [x]).filter (fun z => decide (z ≠ x)) = l := by
  rw [List.filter_append]
  have h1 : l.filter (fun z => decide (z ≠ x)) = l := List.filter_eq_self.mpr fun z hz => by
    have : z ≠ x := fun q => h (q ▸ hz)
    simpa using this
  rw [h1]
  simp
theorem plus_of {V : List Int} {N : Int → List Int} {p q : Int} (ok : EdgeOK V N (p, q)) (hs : ∀ v, v ∈ V → ∀ u, u ∈ N v → u ∈ V) (hi : ∀ v, v ∉ N v) (hl : ∀ v, (N v).length ≤ 800) : Plus V N (addE N (p, q)) p q := by
  obtain ⟨ha, hb, hne, hab, hba, _, _⟩ := ok
  dsimp only at ha hb hne hab hba
  refine ⟨fun v hv u hu => ?_, fun v hv => ?_, fun v => ?_, mem_addE.mpr (.inr (.inl rfl)), mem_addE.mpr (.inr (.inr rfl)), ?_⟩
  · rcases mem_addE.mp hu with h | h | h
    · exact hs v hv u h
    · rw [show u = q from congrArg Prod.snd h]; exact hb
    · rw [show u = p from congrArg Prod.fst h]; exact ha
  · rcases mem_addE.mp hv with h | h | h
    · exact hi v h
    · exact hne ((congrArg Prod.fst h).symm.trans (congrArg Prod.snd h))
    · exact hne ((congrArg Prod.fst h).symm.trans (congrArg Prod.snd h))
  · have h1 := len_addE (N := N) (e := (p, q)) (v := v)
    have h2 := hl v
    have a : (if v = (p, q).1 then 1 else 0) ≤ 1 := by split <;> omega
    have b : (if v = (p, q).2 then 1 else 0) ≤ 1 := by split <;> omega
    omega
  · funext v
    unfold addE add1
    dsimp only
    by_cases h1 : v = q
    · subst h1
      rw [if_pos rfl, if_neg (Ne.symm hne), if_pos rfl, if_neg (Ne.symm hne)]
      exact filter_snoc hba
    · rw [if_neg h1]
      by_cases h2 : v = p
      · subst h2
        rw [if_pos rfl, if_neg h1, if_pos rfl]
        exact filter_snoc hab
      · rw [if_neg h2, if_neg h1, if_neg h2]
theorem not_tree_more (gE : GoodE m E) (hp : os.Perm (rngInts 0 m)) (hm1 : 1 ≤ m) (hE : (E.length : Int) = m - 1) {p q v0 : Int} (h1 : p ∈ os.map x7) (h2 : q ∈ os.map x7) {b : Bool} (h : b = true ↔ (((os.map x7).length : Int) - 1 = Int.fdiv (degSum (addE (NN E) (p, q)) (os.map x7)) 2 ∧ ∀ x, x ∈ os.map x7 → Reach (addE (NN E) (p, q)) v0 x)) : b = false := by
  rw [deg_addE (x7_nodup (os_nodup hp)) h1 h2, NN_deg gE hp, show 2 * (E.length : Int) + 2 = 2 * ((E.length : Int) + 1) by omega, Int.mul_fdiv_cancel_left _ (by decide), List.length_map, os_length hp] at h
  cases b with
  | false => rfl
  | true =>
    have := (h.mp rfl).1
    omega
theorem five_new (os : List Int) : (5 : Int) ∉ os.map x7 := fun h => by
  obtain ⟨a, _, e⟩ := x7_of h
  omega
theorem not_tree_five (gE : GoodE m E) (hp : os.Perm (rngInts 0 m)) (hm1 : 1 ≤ m) (hE : (E.length : Int) = m - 1) {v0 : Int} {b : Bool} (h : b = true ↔ (((os.map x7 ++ [5]).length : Int) - 1 = Int.fdiv (degSum (fun v => if v = 5 then [] else NN E v) (os.map x7 ++ [5])) 2 ∧ ∀ x, x ∈ os.map x7 ++ [5] → Reach (fun v => if v = 5 then [] else NN E v) v0 x)) : b = false := by
  have hd : degSum (fun v => if v = 5 then [] else NN E v) (os.map x7 ++ [5]) = 2 * (E.length : Int) := by
    rw [← NN_deg gE hp]
    unfold degSum
    rw [List.map_append, List.sum_append]
    have : ((os.map x7).map fun v => (((if v = 5 then [] else NN E v).length : Nat) : Int)) = (os.map x7).map fun v => ((NN E v).length : Int) := List.map_congr_left fun v hv => by
      rw [if_neg (fun q : v = 5 => five_new os (q ▸ hv))]
    rw [this]
    simp
  rw [hd, Int.mul_fdiv_cancel_left _ (by decide), List.length_append, List.length_map, os_length hp] at h
  cases b with
  | false => rfl
  | true =>
    have := (h.mp rfl).1
    simp only [List.length_singleton] at this
    omega
theorem perm_sorted_eq : ∀ {a b : List Int}, (∀ v, v ∈ a ↔ v ∈ b) → a.Pairwise (· < ·) → b.Pairwise (· < ·) → a = b
  | [], [], _, _, _ => rfl
  | [], y :: b, h, _, _ => by have := (h y).mpr (List.mem_cons_self ..); cases this
  | x :: a, [], h, _, _ => by have := (h x).mp (List.mem_cons_self ..); cases this
  | x :: a, y :: b, h, ha, hb => by
    rw [List.pairwise_cons] at ha hb
    have hxy : x = y := by
      rcases List.mem_cons.mp ((h x).mp (List.mem_cons_self ..)) with q | q
      · exact q
      · rcases List.mem_cons.mp ((h y).mpr (List.mem_cons_self ..)) with z | z
        · exact z.symm
        · have h1 := ha.1 y z
          have h2 := hb.1 x q
          omega
    subst hxy
    congr 1
    refine perm_sorted_eq (fun v => ?_) ha.2 hb.2
    constructor
    · intro hv
      rcases List.mem_cons.mp ((h v).mp (List.mem_cons_of_mem _ hv)) with q | q
      · have := ha.1 v hv; omega
      · exact q
    · intro hv
      rcases List.mem_cons.mp ((h v).mpr (List.mem_cons_of_mem _ hv)) with q | q
      · have := hb.1 v hv; omega
      · exact q
structure TC (m : Int) (E : List (Int × Int)) (os : List Int) (k : Nat) : Prop where
  hk : ∀ j, j < k → 2 < (peel (rngInts 0 m) E j).1.length
  hk2 : (peel (rngInts 0 m) E k).1.length ≤ 2
  mem : ∀ v, v ∈ (peel (rngInts 0 m) E k).1 ↔ v ∈ duel m E os
  adj : ∀ a b, a ∈ duel m E os → b ∈ duel m E os → a < b → (a, b) ∈ E
theorem peel_sorted (m : Int) (E : List (Int × Int)) : ∀ k, (peel (rngInts 0 m) E k).1.Pairwise (· < ·)
  | 0 => by
    show (rngInts 0 m).Pairwise (· < ·)
    unfold rngInts
    refine List.Pairwise.map (R := (· < ·)) (S := (· < ·)) _ (fun i j h => ?_) List.pairwise_lt_range
    omega
  | k + 1 => (peel_sorted m E k).sublist (List.filter_sublist ..)
theorem due_sorted {k : Nat} (tc : TC m E os k) (hp : os.Perm (rngInts 0 m)) {ns : List Int} (h1 : ns.Perm (duel m E os)) (h2 : ns.Pairwise (· ≤ ·)) : ns = (peel (rngInts 0 m) E k).1 := by
  have hnd : ns.Nodup := h1.nodup_iff.mpr ((os_nodup hp).sublist (List.filter_sublist ..))
  refine perm_sorted_eq (fun v => ?_) ?_ (peel_sorted m E k)
  · rw [h1.mem_iff, tc.mem]
  · exact (h2.and hnd).imp fun {a b} h => by
      have := h.1
      have h3 := h.2
      omega
theorem due_len {k : Nat} (tc : TC m E os k) (hp : os.Perm (rngInts 0 m)) : (duel m E os).length ≤ 2 := by
  have hnd : (duel m E os).Nodup := (os_nodup hp).sublist (List.filter_sublist ..)
  exact Nat.le_trans (hnd.length_le_of_subset fun v hv => (tc.mem v).mpr hv) tc.hk2
theorem due_edge {k : Nat} (tc : TC m E os k) (hp : os.Perm (rngInts 0 m)) (h2 : (duel m E os).length = 2) {mn mx : Int} (h3 : mn ∈ duel m E os) (h4 : ∀ x ∈ duel m E os, mn ≤ x) (h5 : mx ∈ duel m E os) (h6 : ∀ x ∈ duel m E os, x ≤ mx) : (mn, mx) ∈ E := by
  have hnd : (duel m E os).Nodup := (os_nodup hp).sublist (List.filter_sublist ..)
  refine tc.adj mn mx h3 h5 ?_
  have hle := h4 mx h5
  rcases Int.lt_or_eq_of_le hle with q | q
  · exact q
  · exfalso
    have : ∀ x ∈ duel m E os, x = mn := fun x hx => by have := h4 x hx; have := h6 x hx; omega
    match hd : duel m E os, h2 with
    | [a, b], _ =>
      rw [hd] at hnd this
      have e1 := this a (by simp)
      have e2 := this b (by simp)
      rw [e1, e2] at hnd
      simp at hnd
end
end Mine
end
section
set_option linter.unusedVariables false
set_option linter.unusedSimpArgs false
namespace Mine
noncomputable def dd (b : BS) : Int → Int := bdist b.ys
structure BI (N : Int → List Int) (s : Int) (b : BS) : Prop where
  q : b.qs = s :: b.ys.map (·.2)
  nd : b.qs.Nodup
  par : ∀ p, p ∈ b.ys → p.1 ∈ b.qs ∧ p.2 ∈ N p.1 ∧ dd b p.2 = dd b p.1 + 1
  s0 : dd b s = 0
  so : b.qs.Pairwise (fun u v => dd b u ≤ dd b v)
section
variable {N : Int → List Int} {s x y : Int} {b : BS}
theorem dd_new (hy : y ∉ b.qs) (v : Int) : dd ⟨b.qs ++ [y], b.ys ++ [(x, y)]⟩ v = if v = y then dd b x + 1 else dd b v := by
  unfold dd
  rw [bdist_snoc]
  rfl
theorem bi_step (h : BI N s b) (hx : x ∈ b.qs) (hy : y ∈ N x) (cap : ∀ z, z ∈ b.qs → dd b z ≤ dd b x + 1) :
    BI N s (bstep x b y) ∧ (∀ z, z ∈ b.qs → z ∈ (bstep x b y).qs ∧ dd (bstep x b y) z = dd b z) ∧ (∀ z, z ∈ (bstep x b y).qs → dd (bstep x b y) z ≤ dd b x + 1) ∧ y ∈ (bstep x b y).qs := by
  unfold bstep
  split
  · rename_i hin
    exact ⟨h, fun z hz => ⟨hz, rfl⟩, cap, hin⟩
  · rename_i hn
    have hne : ∀ z, z ∈ b.qs → z ≠ y := fun z hz q => hn (q ▸ hz)
    have hs : s ∈ b.qs := by rw [h.q]; exact List.mem_cons_self ..
    have old : ∀ z, z ∈ b.qs → dd ⟨b.qs ++ [y], b.ys ++ [(x, y)]⟩ z = dd b z := fun z hz => by rw [dd_new hn, if_neg (hne z hz)]
    have new : dd ⟨b.qs ++ [y], b.ys ++ [(x, y)]⟩ y = dd b x + 1 := by rw [dd_new hn, if_pos rfl]
    have hys : ∀ p, p ∈ b.ys → p.2 ∈ b.qs := fun p hp => by rw [h.q]; exact List.mem_cons_of_mem _ (List.mem_map.mpr ⟨p, hp, rfl⟩)
    refine ⟨⟨by simp [h.q], ?_, fun p hp => ?_, by rw [old s hs]; exact h.s0, ?_⟩, fun z hz => ⟨List.mem_append_left _ hz, old z hz⟩, fun z hz => ?_, by simp⟩
    · rw [List.nodup_append]
      exact ⟨h.nd, by simp, fun a ha c hc => by rw [List.mem_singleton.mp hc]; exact hne a ha⟩
    · rcases List.mem_append.mp hp with q | q
      · obtain ⟨h1, h2, h3⟩ := h.par p q
        exact ⟨List.mem_append_left _ h1, h2, by rw [old _ (hys p q), old _ h1]; exact h3⟩
      · rw [List.mem_singleton.mp q]
        exact ⟨List.mem_append_left _ hx, hy, by rw [new, old _ hx]⟩
    · rw [List.pairwise_append]
      refine ⟨h.so.imp_of_mem fun {u v} hu hv e => by rw [old u hu, old v hv]; exact e, by simp, fun u hu v hv => ?_⟩
      rw [List.mem_singleton.mp hv, old u hu, new]
      exact cap u hu
    · rcases List.mem_append.mp hz with q | q
      · rw [old z q]; exact cap z q
      · rw [List.mem_singleton.mp q, new]; exact Int.le_refl _
theorem bi_fold : ∀ (l : List Int) (b : BS), (∀ y, y ∈ l → y ∈ N x) → BI N s b → x ∈ b.qs → (∀ z, z ∈ b.qs → dd b z ≤ dd b x + 1) →
    BI N s (bfold x b l) ∧ (∀ z, z ∈ b.qs → z ∈ (bfold x b l).qs ∧ dd (bfold x b l) z = dd b z) ∧ (∀ z, z ∈ (bfold x b l).qs → dd (bfold x b l) z ≤ dd b x + 1) ∧ ∀ y, y ∈ l → y ∈ (bfold x b l).qs
  | [], b, _, h, _, cap => ⟨h, fun z hz => ⟨hz, rfl⟩, cap, fun y hy => by cases hy⟩
  | y :: l, b, hl, h, hx, cap => by
    obtain ⟨h1, h2, h3, h4⟩ := bi_step h hx (hl y (List.mem_cons_self ..)) cap
    have hx1 := h2 x hx
    obtain ⟨k1, k2, k3, k4⟩ := bi_fold l (bstep x b y) (fun z hz => hl z (List.mem_cons_of_mem _ hz)) h1 hx1.1 (by rw [hx1.2]; exact h3)
    rw [hx1.2] at k3
    refine ⟨k1, fun z hz => ⟨(k2 z (h2 z hz).1).1, (k2 z (h2 z hz).1).2.trans (h2 z hz).2⟩, k3, fun z hz => ?_⟩
    rcases List.mem_cons.mp hz with rfl | q
    · exact (k2 z h4).1
    · exact k4 z q
structure OI (N : Int → List Int) (s : Int) (k : Nat) (b : BS) : Prop where
  bi : BI N s b
  cl : ∀ (i : Nat) (x : Int), i < k → b.qs[i]? = some x → ∀ y, y ∈ N x → y ∈ b.qs ∧ dd b y ≤ dd b x + 1
  cap : ∀ x, b.qs[k]? = some x → ∀ z, z ∈ b.qs → dd b z ≤ dd b x + 1
theorem prefix_get {a b : List Int} (h : a <+: b) {i : Nat} (hi : i < a.length) : b[i]? = a[i]? := by
  obtain ⟨t, rfl⟩ := h
  rw [List.getElem?_append_left hi]
theorem oi (N : Int → List Int) (s : Int) : ∀ k, OI N s k (bS N s k)
  | 0 => ⟨⟨rfl, by simp [bS], fun p hp => by simp [bS] at hp, rfl, by simp [bS]⟩, fun i x hi => by omega, fun x hx z hz => by
    have : z = s := by simpa [bS] using hz
    subst this
    show (0 : Int) ≤ _
    simp only [dd, bS, bdist, List.foldl_nil]
    decide⟩
  | k + 1 => by
    have ih := oi N s k
    show OI N s (k + 1) (match (bS N s k).qs[k]? with | some x => bfold x (bS N s k) (N x) | none => bS N s k)
    cases hq : (bS N s k).qs[k]? with
    | none =>
      dsimp only
      refine ⟨ih.bi, fun i x hi hx => ?_, fun x hx => ?_⟩
      · rcases Nat.lt_or_ge i k with q | q
        · exact ih.cl i x q hx
        · obtain rfl : i = k := by omega
          rw [hq] at hx; cases hx
      · have := List.getElem?_eq_none_iff.mp hq
        rw [List.getElem?_eq_none (by omega)] at hx; cases hx
    | some x =>
      dsimp only
      have hk : k < (bS N s k).qs.length := (List.getElem?_eq_some_iff.mp hq).1
      have hx : x ∈ (bS N s k).qs := List.mem_of_getElem? hq
      obtain ⟨k1, k2, k3, k4⟩ := bi_fold (N x) (bS N s k) (fun y hy => hy) ih.bi hx (ih.cap x hq)
      have hpre := (pre_fold x (N x) (bS N s k)).1
      have hqk : (bfold x (bS N s k) (N x)).qs[k]? = some x := by rw [prefix_get hpre hk]; exact hq
      refine ⟨k1, fun i x' hi hx' => ?_, fun x' hx' z hz => ?_⟩
      · rcases Nat.lt_or_ge i k with q | q
        · rw [prefix_get hpre (by omega)] at hx'
          intro y hy
          obtain ⟨a1, a2⟩ := ih.cl i x' q hx' y hy
          have b1 := k2 y a1
          have b2 := k2 x' (List.mem_of_getElem? hx')
          exact ⟨b1.1, by rw [b1.2, b2.2]; exact a2⟩
        · obtain rfl : i = k := by omega
          rw [hqk] at hx'
          cases hx'
          intro y hy
          have a := k4 y hy
          exact ⟨a, by rw [(k2 x hx).2]; exact k3 y a⟩
      · have hk1 : k + 1 < (bfold x (bS N s k) (N x)).qs.length := (List.getElem?_eq_some_iff.mp hx').1
        have hs := List.pairwise_iff_getElem.mp k1.so k (k + 1) (by omega) hk1 (by omega)
        have e1 : (bfold x (bS N s k) (N x)).qs[k]'(by omega) = x := (List.getElem?_eq_some_iff.mp hqk).2
        have e2 : (bfold x (bS N s k) (N x)).qs[k + 1]'hk1 = x' := (List.getElem?_eq_some_iff.mp hx').2
        rw [e1, e2] at hs
        have a := k3 z hz
        rw [(k2 x hx).2] at hs
        omega
end
noncomputable def adj (E : List (Int × Int)) (u v : Int) : Prop := (u, v) ∈ E ∨ (v, u) ∈ E
structure Dst (m : Int) (E : List (Int × Int)) (s : Int) (d : Int → Int) : Prop where
  z : d s = 0
  nn : ∀ v, 0 ≤ d v
  cl : ∀ v, 0 ≤ v → v < m → v ≠ s → ∃ u, 0 ≤ u ∧ u < m ∧ adj E u v ∧ d v = d u + 1
  lip : ∀ u v, 0 ≤ u → u < m → 0 ≤ v → v < m → adj E u v → d v ≤ d u + 1
theorem bdist_nn (Y : List (Int × Int)) (v : Int) : 0 ≤ bdist Y v := bdist_nonneg Y _ (fun _ => Int.le_refl _) v
section
variable {m : Int} {E : List (Int × Int)} {os : List Int} {s : Int} {d : Int → Int}
theorem bfs_all (gE : GoodE m E) (hp : os.Perm (rngInts 0 m)) (hs : s ∈ os) : Dst m E s (fun v => dd (bS (NN E) (7 * s) (os.map x7).length) (7 * v)) ∧ ∀ v, v ∈ (bS (NN E) (7 * s) (os.map x7).length).qs ↔ v ∈ os.map x7 := by
  have hs7 : 7 * s ∈ os.map x7 := mem_x7.mpr hs
  have hI := binv (N := NN E) hs7 (NN_sub gE hp) (os.map x7).length
  have hl := hI.nd.length_le_of_subset hI.sub
  have ho := oi (NN E) (7 * s) (os.map x7).length
  generalize bS (NN E) (7 * s) (os.map x7).length = b at hI hl ho ⊢
  have hcl : ∀ x, x ∈ b.qs → ∀ y, y ∈ NN E x → y ∈ b.qs ∧ dd b y ≤ dd b x + 1 := fun x hx => by
    obtain ⟨i, hi, e⟩ := List.getElem_of_mem hx
    exact ho.cl i x (by omega) (by rw [List.getElem?_eq_getElem hi, e])
  have hre : ∀ x, Reach (NN E) (7 * s) x → x ∈ b.qs := fun x hx => by
    induction hx with
    | here => rw [ho.bi.q]; exact List.mem_cons_self ..
    | step _ hy ih => exact (hcl _ ih _ hy).1
  have hall : ∀ v, v ∈ b.qs ↔ v ∈ os.map x7 := fun v => ⟨hI.sub v, fun hv => hre v (connected gE hp hs7 v hv)⟩
  refine ⟨⟨ho.bi.s0, fun v => bdist_nn _ _, fun v h0 h1 hne => ?_, fun u v hu0 hu1 hv0 hv1 ha => ?_⟩, hall⟩
  · have hv : 7 * v ∈ b.qs := (hall _).mpr (mem_x7.mpr ((os_mem hp).mpr ⟨h0, h1⟩))
    rw [ho.bi.q] at hv
    rcases List.mem_cons.mp hv with q | q
    · exact absurd (show v = s by omega) hne
    · obtain ⟨p, hpm, hpe⟩ := List.mem_map.mp q
      obtain ⟨a1, a2, a3⟩ := ho.bi.par p hpm
      obtain ⟨u, hu, e⟩ := x7_of (hI.sub _ a1)
      have hur := (os_mem hp).mp hu
      rw [hpe, e] at a2 a3
      exact ⟨u, hur.1, hur.2, mem_NN.mp a2, a3⟩
  · have hu : 7 * u ∈ b.qs := (hall _).mpr (mem_x7.mpr ((os_mem hp).mpr ⟨hu0, hu1⟩))
    exact (hcl _ hu (7 * v) (mem_NN.mpr ha)).2
theorem gl_sl (f : List (Int × Int)) (k v k' : Int) : gl (sl f k v) k' = if k' = k then some v else gl f k' := by
  unfold sl
  split
  · rename_i h
    unfold gl
    induction f with
    | nil => simp at h
    | cons p r ih =>
      simp only [List.map_cons, List.find?_cons]
      by_cases hpk : p.1 = k
      · rw [if_pos hpk]
        by_cases hk : k' = k
        · subst hk
          simp [hpk]
        · have h2 : ¬ p.1 = k' := fun q => hk (q.symm.trans hpk)
          simp only [h2, decide_false, if_neg hk]
          by_cases hr : r.any (fun p => decide (p.1 = k)) = true
          · have := ih hr
            rw [if_neg hk] at this
            exact this
          · have hmap : r.map (fun p => if p.1 = k then (p.1, v) else p) = r := by
              conv => rhs; rw [← List.map_id r]
              refine List.map_congr_left fun q hq => ?_
              rw [if_neg]
              · rfl
              · intro z
                exact hr (List.any_eq_true.mpr ⟨q, hq, by simpa using z⟩)
            rw [hmap]
      · rw [if_neg hpk]
        have hr : r.any (fun p => decide (p.1 = k)) = true := by simpa [hpk] using h
        by_cases hk' : p.1 = k'
        · have : ¬ k' = k := fun q => hpk (hk'.trans q)
          simp [hk', this]
        · simp only [hk', decide_false]
          exact ih hr
  · rename_i h
    unfold gl
    rw [List.find?_append]
    by_cases hk : k' = k
    · subst hk
      have : f.find? (fun p => decide (p.1 = k')) = none := by
        rw [List.find?_eq_none]
        intro q hq z
        exact h (List.any_eq_true.mpr ⟨q, hq, z⟩)
      rw [this]
      simp
    · rw [if_neg hk]
      have h2 : ([(k, v)] : List (Int × Int)).find? (fun p => decide (p.1 = k')) = none := by
        have : ¬ k = k' := fun q => hk q.symm
        simp [this]
      rw [h2]
      simp
theorem mem_sl {f : List (Int × Int)} {k v : Int} {p : Int × Int} (h : p ∈ sl f k v) : p = (k, v) ∨ p ∈ f := by
  unfold sl at h
  split at h
  · obtain ⟨q, hq, rfl⟩ := List.mem_map.mp h
    split
    · rename_i e; exact .inl (by rw [e])
    · exact .inr hq
  · rcases List.mem_append.mp h with q | q
    · exact .inr q
    · exact .inl (List.mem_singleton.mp q)
theorem keys_sl {f : List (Int × Int)} (h : (f.map (·.1)).Nodup) (k v : Int) : ((sl f k v).map (·.1)).Nodup := by
  unfold sl
  split
  · have : (f.map (fun p => if p.1 = k then (p.1, v) else p)).map (·.1) = f.map (·.1) := by
      rw [List.map_map]
      refine List.map_congr_left fun p _ => ?_
      simp only [Function.comp]
      split <;> rfl
    rw [this]; exact h
  · rename_i hn
    rw [List.map_append, List.nodup_append]
    refine ⟨h, by simp, fun a ha b hb q => ?_⟩
    simp only [List.map_cons, List.map_nil, List.mem_singleton] at hb
    obtain ⟨p, hp, rfl⟩ := List.mem_map.mp ha
    exact hn (List.any_eq_true.mpr ⟨p, hp, by simp [q, hb]⟩)
theorem gl_of_mem : ∀ {f : List (Int × Int)} {k x : Int}, (f.map (·.1)).Nodup → (k, x) ∈ f → gl f k = some x
  | [], k, x, _, h => by cases h
  | p :: f, k, x, hn, h => by
    rw [List.map_cons, List.nodup_cons] at hn
    unfold gl
    rw [List.find?_cons]
    rcases List.mem_cons.mp h with q | q
    · subst q; simp
    · have : ¬ p.1 = k := fun z => hn.1 (List.mem_map.mpr ⟨(k, x), q, z.symm⟩)
      simp only [this, decide_false]
      exact gl_of_mem hn.2 q
structure Snd (m : Int) (d : Int → Int) (f : List (Int × Int)) : Prop where
  ok : ∀ p, p ∈ f → 0 ≤ p.1 ∧ p.1 < m ∧ d p.1 ≤ p.2
  ks : (f.map (·.1)).Nodup
noncomputable def EOk (m : Int) (E : List (Int × Int)) (e : Int × Int) : Prop := 0 ≤ e.1 ∧ e.1 < m ∧ 0 ≤ e.2 ∧ e.2 < m ∧ adj E e.1 e.2
theorem snd_relax (hd : Dst m E s d) {f : List (Int × Int)} (h : Snd m d f) {e : Int × Int} (he : EOk m E e) : Snd m d (relax m f e) := by
  unfold relax
  split
  · rename_i x hx
    split
    · have h1 := h.ok _ (gl_mem hx)
      dsimp only at h1
      have h2 := hd.lip e.1 e.2 he.1 he.2.1 he.2.2.1 he.2.2.2.1 he.2.2.2.2
      refine ⟨fun p hp => ?_, keys_sl h.ks _ _⟩
      rcases mem_sl hp with q | q
      · rw [q]
        exact ⟨he.2.2.1, he.2.2.2.1, by dsimp only; omega⟩
      · exact h.ok p q
    · exact h
  · exact h
theorem keep_relax (hd : Dst m E s d) {f : List (Int × Int)} (h : Snd m d f) {e : Int × Int} (he : EOk m E e) {v : Int} (hv : gl f v = some (d v)) : gl (relax m f e) v = some (d v) := by
  unfold relax
  split
  · rename_i x hx
    split
    · rename_i hlt
      rw [gl_sl]
      split
      · rename_i q
        subst q
        have h1 := h.ok _ (gl_mem hx)
        dsimp only at h1
        have h2 := hd.lip e.1 e.2 he.1 he.2.1 he.2.2.1 he.2.2.2.1 he.2.2.2.2
        rw [hv] at hlt
        simp only [Option.getD_some] at hlt
        omega
      · exact hv
    · exact hv
  · exact hv
theorem hit_relax (hd : Dst m E s d) {f : List (Int × Int)} (h : Snd m d f) {e : Int × Int} (hu : gl f e.1 = some (d e.1)) (hv : d e.2 = d e.1 + 1) (hb : d e.2 ≤ m) : gl (relax m f e) e.2 = some (d e.2) := by
  unfold relax
  rw [hu]
  dsimp only
  split
  · rw [gl_sl, if_pos rfl, hv]
  · rename_i hlt
    cases hg : gl f e.2 with
    | none => rw [hg] at hlt; simp only [Option.getD_none] at hlt; omega
    | some y =>
      rw [hg] at hlt
      simp only [Option.getD_some] at hlt
      have := h.ok _ (gl_mem hg)
      dsimp only at this
      congr 1
      omega
theorem fold_relax (hd : Dst m E s d) : ∀ (L f : List (Int × Int)), (∀ e, e ∈ L → EOk m E e) → Snd m d f → Snd m d (L.foldl (relax m) f) ∧ (∀ v, gl f v = some (d v) → gl (L.foldl (relax m) f) v = some (d v)) ∧ ∀ e, e ∈ L → gl f e.1 = some (d e.1) → d e.2 = d e.1 + 1 → d e.2 ≤ m → gl (L.foldl (relax m) f) e.2 = some (d e.2)
  | [], f, _, h => ⟨h, fun v hv => hv, fun e he => by cases he⟩
  | e :: L, f, hL, h => by
    have he := hL e (List.mem_cons_self ..)
    obtain ⟨k1, k2, k3⟩ := fold_relax hd L (relax m f e) (fun x hx => hL x (List.mem_cons_of_mem _ hx)) (snd_relax hd h he)
    refine ⟨k1, fun v hv => k2 v (keep_relax hd h he hv), fun x hx hu hv hb => ?_⟩
    rcases List.mem_cons.mp hx with q | q
    · subst q
      exact k2 _ (hit_relax hd h hu hv hb)
    · exact k3 x q (keep_relax hd h he hu) hv hb
theorem dst_chain (hd : Dst m E s d) (hs : 0 ≤ s ∧ s < m) : ∀ (n : Nat) (v : Int), 0 ≤ v → v < m → d v = (n : Int) → ∃ l : List Int, l.length = n + 1 ∧ l.Nodup ∧ ∀ x, x ∈ l → 0 ≤ x ∧ x < m ∧ d x ≤ (n : Int)
  | 0, v, h0, h1, hv => ⟨[v], rfl, by simp, fun x hx => by rw [List.mem_singleton.mp hx]; exact ⟨h0, h1, Int.le_of_eq hv⟩⟩
  | n + 1, v, h0, h1, hv => by
    have hne : v ≠ s := fun q => by rw [q, hd.z] at hv; omega
    obtain ⟨u, u0, u1, _, hu⟩ := hd.cl v h0 h1 hne
    obtain ⟨l, l1, l2, l3⟩ := dst_chain hd hs n u u0 u1 (by omega)
    refine ⟨v :: l, by rw [List.length_cons, l1], List.nodup_cons.mpr ⟨fun q => ?_, l2⟩, fun x hx => ?_⟩
    · have := (l3 v q).2.2
      omega
    · rcases List.mem_cons.mp hx with rfl | q
      · exact ⟨h0, h1, Int.le_of_eq hv⟩
      · have := l3 x q
        exact ⟨this.1, this.2.1, by omega⟩
theorem dst_lt (hd : Dst m E s d) (hs : 0 ≤ s ∧ s < m) {v : Int} (h0 : 0 ≤ v) (h1 : v < m) : d v < m := by
  have hn := hd.nn v
  obtain ⟨l, l1, l2, l3⟩ := dst_chain hd hs (d v).toNat v h0 h1 (by omega)
  have := l2.length_le_of_subset (l₂ := rngInts 0 m) fun x hx => mem_rng.mpr ⟨(l3 x hx).1, (l3 x hx).2.1⟩
  simp only [rngInts, List.length_map, List.length_range] at this
  omega
theorem edges_EOk (gE : GoodE m E) : ∀ e, e ∈ E ++ E.map swp → EOk m E e := fun e he => by
  rcases List.mem_append.mp he with q | q
  · have := gE.rg e q
    exact ⟨this.1, by omega, by omega, this.2.2, .inl q⟩
  · obtain ⟨p, hp, rfl⟩ := List.mem_map.mp q
    have := gE.rg p hp
    exact ⟨by simp only [swp]; omega, by simp only [swp]; omega, by simp only [swp]; omega, by simp only [swp]; omega, .inr hp⟩
theorem rounds_ok (gE : GoodE m E) (hd : Dst m E s d) (hs : 0 ≤ s ∧ s < m) : ∀ k : Nat, Snd m d (rounds m E s k) ∧ ∀ v, 0 ≤ v → v < m → d v ≤ (k : Int) → gl (rounds m E s k) v = some (d v)
  | 0 => by
    refine ⟨⟨fun p hp => ?_, by simp [rounds]⟩, fun v h0 h1 hv => ?_⟩
    · rw [List.mem_singleton.mp hp]
      exact ⟨hs.1, hs.2, by rw [hd.z]; exact Int.le_refl _⟩
    · have hvs : v = s := by
        by_cases q : v = s
        · exact q
        · obtain ⟨u, _, _, _, hu⟩ := hd.cl v h0 h1 q
          have := hd.nn u
          omega
      subst hvs
      rw [hd.z]
      simp [rounds, gl]
  | k + 1 => by
    obtain ⟨k1, k2⟩ := rounds_ok gE hd hs k
    obtain ⟨f1, f2, f3⟩ := fold_relax hd (E ++ E.map swp) _ (edges_EOk gE) k1
    refine ⟨f1, fun v h0 h1 hv => ?_⟩
    by_cases hk : d v ≤ (k : Int)
    · exact f2 v (k2 v h0 h1 hk)
    · have hne : v ≠ s := fun q => by rw [q, hd.z] at hk; omega
      obtain ⟨u, u0, u1, ha, hu⟩ := hd.cl v h0 h1 hne
      have hin : (u, v) ∈ E ++ E.map swp := by
        rcases ha with q | q
        · exact List.mem_append_left _ q
        · exact List.mem_append_right _ (List.mem_map.mpr ⟨(v, u), q, rfl⟩)
      have hlt := dst_lt hd hs h0 h1
      exact f3 (u, v) hin (k2 u u0 u1 (by omega)) hu (by dsimp only; omega)
theorem lmax_spec {l : List Int} (h0 : l ≠ []) (hp : ∀ x, x ∈ l → 0 ≤ x) : lmax l ∈ l ∧ ∀ x, x ∈ l → x ≤ lmax l := by
  obtain ⟨h1, h2, h3⟩ := lmax_aux l 0
  refine ⟨?_, h1⟩
  rcases h3 with q | q
  · obtain ⟨a, r, rfl⟩ : ∃ a r, l = a :: r := by
      cases l with
      | nil => exact absurd rfl h0
      | cons a r => exact ⟨a, r, rfl⟩
    have ha := h1 a (List.mem_cons_self ..)
    have hb := hp a (List.mem_cons_self ..)
    have : lmax (a :: r) = a := by unfold lmax; omega
    rw [this]; exact List.mem_cons_self ..
  · exact q
theorem lmax_congr {l l' : List Int} (h : ∀ x, x ∈ l ↔ x ∈ l') (hp : ∀ x, x ∈ l → 0 ≤ x) : lmax l = lmax l' := by
  by_cases h0 : l = []
  · subst h0
    have : l' = [] := by
      cases l' with
      | nil => rfl
      | cons a r => have := (h a).mpr (List.mem_cons_self ..); cases this
    rw [this]
  · obtain ⟨a, b⟩ := lmax_spec h0 hp
    exact lmax_of ((h _).mp a) (fun x hx => b x ((h x).mpr hx)) fun x hx => hp x ((h x).mpr hx)
theorem ff_eq (gE : GoodE m E) (hd : Dst m E s d) (hs : 0 ≤ s ∧ s < m) : ff m E s = lmax ((rngInts 0 m).map d) := by
  obtain ⟨k1, k2⟩ := rounds_ok gE hd hs m.toNat
  have hall : ∀ v, 0 ≤ v → v < m → gl (rounds m E s m.toNat) v = some (d v) := fun v h0 h1 => k2 v h0 h1 (by have := dst_lt hd hs h0 h1; omega)
  unfold ff
  refine lmax_congr (fun x => ?_) (rounds_nonneg m E s)
  rw [List.mem_map, List.mem_map]
  constructor
  · rintro ⟨p, hp, rfl⟩
    obtain ⟨a, b, _⟩ := k1.ok p hp
    have h1 := gl_of_mem k1.ks (k := p.1) (x := p.2) hp
    rw [hall p.1 a b] at h1
    exact ⟨p.1, mem_rng.mpr ⟨a, b⟩, Option.some.inj h1⟩
  · rintro ⟨v, hv, rfl⟩
    obtain ⟨a, b⟩ := mem_rng.mp hv
    exact ⟨_, gl_mem (hall v a b), rfl⟩
theorem bfar_eq (gE : GoodE m E) (hp : os.Perm (rngInts 0 m)) (hs : s ∈ os) : bfar (NN E) (os.map x7) (7 * s) = ff m E s := by
  obtain ⟨hd, hall⟩ := bfs_all gE hp hs
  rw [ff_eq gE hd ((os_mem hp).mp hs)]
  unfold bfar
  refine lmax_congr (fun x => ?_) (fun x hx => ?_)
  · rw [List.mem_map, List.mem_map]
    constructor
    · rintro ⟨v, hv, rfl⟩
      obtain ⟨u, hu, rfl⟩ := x7_of ((hall v).mp hv)
      exact ⟨u, mem_rng.mpr ((os_mem hp).mp hu), rfl⟩
    · rintro ⟨v, hv, rfl⟩
      exact ⟨7 * v, (hall _).mpr (mem_x7.mpr ((os_mem hp).mpr (mem_rng.mp hv))), rfl⟩
  · obtain ⟨v, _, rfl⟩ := List.mem_map.mp hx
    exact bdist_nn _ _
theorem lmin_congr {l l' : List Int} (h : ∀ x, x ∈ l ↔ x ∈ l') : lmin l = lmin l' := by
  by_cases h0 : l = []
  · subst h0
    have : l' = [] := by
      cases l' with
      | nil => rfl
      | cons a r => have := (h a).mpr (List.mem_cons_self ..); cases this
    rw [this]
  · obtain ⟨a, b⟩ := lmin_spec h0
    exact lmin_of ((h _).mp a) fun x hx => b x ((h x).mpr hx)
theorem center_eq (gE : GoodE m E) (hp : os.Perm (rngInts 0 m)) : bcen (NN E) (os.map x7) = (duel m E os).map x7 := by
  unfold bcen duel
  rw [List.filter_map]
  congr 1
  refine List.filter_congr fun v hv => ?_
  have h1 : bfar (NN E) (os.map x7) (x7 v) = ff m E v := bfar_eq gE hp hv
  have h2 : lmin ((os.map x7).map (bfar (NN E) (os.map x7))) = lmin ((rngInts 0 m).map (ff m E)) := by
    refine lmin_congr fun x => ?_
    rw [List.map_map, List.mem_map, List.mem_map]
    constructor
    · rintro ⟨u, hu, rfl⟩
      exact ⟨u, hp.subset hu, (bfar_eq gE hp hu).symm⟩
    · rintro ⟨u, hu, rfl⟩
      have := hp.mem_iff.mpr hu
      exact ⟨u, this, bfar_eq gE hp this⟩
  simp only [Function.comp]
  rw [h1, h2]
end
end Mine
end
section
set_option linter.unusedVariables false
set_option linter.unusedSimpArgs false
namespace Mine
theorem nodup_all_pairs {qs V : List (Int × Int)} (h : qs.Nodup) (hs : ∀ x, x ∈ qs → x ∈ V) (hl : V.length ≤ qs.length) : ∀ x, x ∈ V → x ∈ qs := by
  intro x hx
  by_cases q : x ∈ qs
  · exact q
  · exfalso
    have h1 : (x :: qs).Nodup := List.nodup_cons.mpr ⟨q, h⟩
    have h2 := h1.length_le_of_subset (l₂ := V) fun y hy => by
      rcases List.mem_cons.mp hy with rfl | z
      · exact hx
      · exact hs y z
    rw [List.length_cons] at h2
    omega
theorem adj_symm {E : List (Int × Int)} {u v : Int} (h : adj E u v) : adj E v u := h.symm
section
variable {m : Int} {E : List (Int × Int)} {s : Int} {d : Int → Int}
theorem adj_rg (gE : GoodE m E) {u v : Int} (h : adj E u v) : (0 ≤ u ∧ u < m) ∧ (0 ≤ v ∧ v < m) ∧ u ≠ v := by
  rcases h with q | q
  · have := gE.rg _ q; dsimp only at this; omega
  · have := gE.rg _ q; dsimp only at this; omega
theorem dst_zero (hd : Dst m E s d) {v : Int} (h0 : 0 ≤ v) (h1 : v < m) (hv : d v = 0) : v = s := by
  by_cases q : v = s
  · exact q
  · obtain ⟨u, _, _, _, hu⟩ := hd.cl v h0 h1 q
    have := hd.nn u
    omega
theorem tree_par (gE : GoodE m E) (hE : (E.length : Int) = m - 1) (hd : Dst m E s d) (hs : 0 ≤ s ∧ s < m) : ∃ c : Int → Int, ∀ u v, adj E u v → (d v = d u + 1 ∧ c v = u) ∨ (d u = d v + 1 ∧ c u = v) := by
  have ex : ∀ v, ∃ u, (0 ≤ v ∧ v < m ∧ v ≠ s) → (adj E u v ∧ d v = d u + 1) := fun v => by
    by_cases h : 0 ≤ v ∧ v < m ∧ v ≠ s
    · obtain ⟨u, _, _, h1, h2⟩ := hd.cl v h.1 h.2.1 h.2.2
      exact ⟨u, fun _ => ⟨h1, h2⟩⟩
    · exact ⟨0, fun q => absurd q h⟩
  let c : Int → Int := fun v => Classical.choose (ex v)
  have hc : ∀ v, 0 ≤ v → v < m → v ≠ s → adj E (c v) v ∧ d v = d (c v) + 1 := fun v h0 h1 h2 => Classical.choose_spec (ex v) ⟨h0, h1, h2⟩
  refine ⟨c, ?_⟩
  have exe : ∀ v, ∃ e : Int × Int, (0 ≤ v ∧ v < m ∧ v ≠ s) → (e ∈ E ∧ (e = (c v, v) ∨ e = (v, c v))) := fun v => by
    by_cases h : 0 ≤ v ∧ v < m ∧ v ≠ s
    · rcases (hc v h.1 h.2.1 h.2.2).1 with q | q
      · exact ⟨_, fun _ => ⟨q, .inl rfl⟩⟩
      · exact ⟨_, fun _ => ⟨q, .inr rfl⟩⟩
    · exact ⟨(0, 0), fun q => absurd q h⟩
  let e : Int → Int × Int := fun v => Classical.choose (exe v)
  have he : ∀ v, 0 ≤ v → v < m → v ≠ s → e v ∈ E ∧ (e v = (c v, v) ∨ e v = (v, c v)) := fun v h0 h1 h2 => Classical.choose_spec (exe v) ⟨h0, h1, h2⟩
  have hL : ∀ v, v ∈ (rngInts 0 m).filter (fun v => decide (v ≠ s)) ↔ 0 ≤ v ∧ v < m ∧ v ≠ s := fun v => by
    rw [List.mem_filter, mem_rng]
    simp [and_assoc]
  have hnd : ((rngInts 0 m).filter fun v => decide (v ≠ s)).Nodup := (rng_nodup 0 m).sublist (List.filter_sublist ..)
  have hlen : (((rngInts 0 m).filter fun v => decide (v ≠ s)).length : Int) = m - 1 := by
    have h1 := (rng_nodup 0 m).length_le_of_subset (l₂ := s :: (rngInts 0 m).filter fun v => decide (v ≠ s)) fun v hv => by
      by_cases q : v = s
      · rw [q]; exact List.mem_cons_self ..
      · exact List.mem_cons_of_mem _ ((hL v).mpr ⟨(mem_rng.mp hv).1, (mem_rng.mp hv).2, q⟩)
    have h2 : (s :: (rngInts 0 m).filter fun v => decide (v ≠ s)).Nodup := List.nodup_cons.mpr ⟨fun q => ((hL s).mp q).2.2 rfl, hnd⟩
    have h3 := h2.length_le_of_subset (l₂ := rngInts 0 m) fun v hv => by
      rcases List.mem_cons.mp hv with q | q
      · rw [q]; exact mem_rng.mpr hs
      · exact mem_rng.mpr ⟨((hL v).mp q).1, ((hL v).mp q).2.1⟩
    rw [List.length_cons] at h1 h3
    simp only [rngInts, List.length_map, List.length_range] at h1 h3 ⊢
    omega
  have hall := nodup_all_pairs (qs := ((rngInts 0 m).filter fun v => decide (v ≠ s)).map e) (V := E) (by
    refine List.pairwise_map.mpr (hnd.imp_of_mem fun {a b} ha hb hab q => hab ?_)
    obtain ⟨a0, a1, a2⟩ := (hL a).mp ha
    obtain ⟨b0, b1, b2⟩ := (hL b).mp hb
    have ca := (hc a a0 a1 a2).2
    have cb := (hc b b0 b1 b2).2
    rcases (he a a0 a1 a2).2 with h1 | h1 <;> rcases (he b b0 b1 b2).2 with h2 | h2
    · rw [q, h2] at h1; exact (congrArg Prod.snd h1).symm
    · rw [q, h2] at h1
      have e1 := congrArg Prod.fst h1
      have e2 := congrArg Prod.snd h1
      dsimp only at e1 e2
      rw [← e1] at ca
      rw [e2] at cb
      omega
    · rw [q, h2] at h1
      have e1 := congrArg Prod.fst h1
      have e2 := congrArg Prod.snd h1
      dsimp only at e1 e2
      rw [← e2] at ca
      rw [e1] at cb
      omega
    · rw [q, h2] at h1; exact (congrArg Prod.fst h1).symm) (fun x hx => by
    obtain ⟨v, hv, rfl⟩ := List.mem_map.mp hx
    obtain ⟨a0, a1, a2⟩ := (hL v).mp hv
    exact (he v a0 a1 a2).1) (by rw [List.length_map]; omega)
  have key : ∀ u v, (u, v) ∈ E → (d v = d u + 1 ∧ c v = u) ∨ (d u = d v + 1 ∧ c u = v) := fun u v huv => by
    obtain ⟨x, hx, hxe⟩ := List.mem_map.mp (hall _ huv)
    obtain ⟨a0, a1, a2⟩ := (hL x).mp hx
    have cx := (hc x a0 a1 a2).2
    rcases (he x a0 a1 a2).2 with h1 | h1
    · rw [hxe] at h1
      have e1 := congrArg Prod.fst h1
      have e2 := congrArg Prod.snd h1
      dsimp only at e1 e2
      subst e2
      exact .inl ⟨by rw [cx, ← e1], e1.symm⟩
    · rw [hxe] at h1
      have e1 := congrArg Prod.fst h1
      have e2 := congrArg Prod.snd h1
      dsimp only at e1 e2
      subst e1
      exact .inr ⟨by rw [cx, ← e2], e2.symm⟩
  intro u v h
  rcases h with q | q
  · exact key u v q
  · exact (key v u q).symm
end
section
variable {m : Int} {E : List (Int × Int)} {δ : Int → Int → Int}
theorem dst_tri (hD : ∀ s, 0 ≤ s → s < m → Dst m E s (δ s)) {a b : Int} (ha : 0 ≤ a ∧ a < m) (hb : 0 ≤ b ∧ b < m) : ∀ (n : Nat) (c : Int), 0 ≤ c → c < m → δ b c = (n : Int) → δ a c ≤ δ a b + n
  | 0, c, h0, h1, hc => by
    rw [dst_zero (hD b hb.1 hb.2) h0 h1 hc]
    simp
  | n + 1, c, h0, h1, hc => by
    have hne : c ≠ b := fun q => by rw [q, (hD b hb.1 hb.2).z] at hc; omega
    obtain ⟨u, u0, u1, hu, hcu⟩ := (hD b hb.1 hb.2).cl c h0 h1 hne
    have ih := dst_tri hD ha hb n u u0 u1 (by omega)
    have := (hD a ha.1 ha.2).lip u c u0 u1 h0 h1 hu
    omega
theorem dst_sym_le (hD : ∀ s, 0 ≤ s → s < m → Dst m E s (δ s)) {s : Int} (hs : 0 ≤ s ∧ s < m) : ∀ (n : Nat) (v : Int), 0 ≤ v → v < m → δ s v = (n : Int) → δ v s ≤ n
  | 0, v, h0, h1, hv => by
    rw [dst_zero (hD s hs.1 hs.2) h0 h1 hv, (hD s hs.1 hs.2).z]
    exact Int.le_refl _
  | n + 1, v, h0, h1, hv => by
    have hne : v ≠ s := fun q => by rw [q, (hD s hs.1 hs.2).z] at hv; omega
    obtain ⟨u, u0, u1, hu, hvu⟩ := (hD s hs.1 hs.2).cl v h0 h1 hne
    have ih := dst_sym_le hD hs n u u0 u1 (by omega)
    have h2 := (hD v h0 h1).lip v u h0 h1 u0 u1 (adj_symm hu)
    rw [(hD v h0 h1).z] at h2
    have hnn := (hD u u0 u1).nn s
    have h3 := dst_tri hD (a := v) (b := u) ⟨h0, h1⟩ ⟨u0, u1⟩ (δ u s).toNat s hs.1 hs.2 (by omega)
    omega
theorem dst_sym (hD : ∀ s, 0 ≤ s → s < m → Dst m E s (δ s)) {s v : Int} (hs : 0 ≤ s ∧ s < m) (hv : 0 ≤ v ∧ v < m) : δ s v = δ v s := by
  have a := (hD s hs.1 hs.2).nn v
  have b := (hD v hv.1 hv.2).nn s
  have h1 := dst_sym_le hD hs (δ s v).toNat v hv.1 hv.2 (by omega)
  have h2 := dst_sym_le hD hv (δ v s).toNat s hs.1 hs.2 (by omega)
  omega
end
structure PL (m : Int) (E : List (Int × Int)) (δ : Int → Int → Int) (L : List Int) (R : List (Int × Int)) : Prop where
  sub : ∀ v, v ∈ L → 0 ≤ v ∧ v < m
  nd : L.Nodup
  ne : L ≠ []
  conv : ∀ s v u, s ∈ L → v ∈ L → v ≠ s → adj E u v → δ s v = δ s u + 1 → u ∈ L
  rows : ∀ e, e ∈ R ↔ e ∈ E ∧ e.1 ∈ L ∧ e.2 ∈ L
  rnd : R.Nodup
structure TR (m : Int) (E : List (Int × Int)) (δ : Int → Int → Int) : Prop where
  gE : GoodE m E
  hE : (E.length : Int) = m - 1
  hD : ∀ s, 0 ≤ s → s < m → Dst m E s (δ s)
noncomputable def oth (v : Int) (e : Int × Int) : Int := if e.1 = v then e.2 else e.1
section
variable {m : Int} {E : List (Int × Int)} {δ : Int → Int → Int} {L : List Int} {R : List (Int × Int)}
theorem inE_iff {v : Int} {e : Int × Int} : inE v e = true ↔ v = e.1 ∨ v = e.2 := by
  unfold inE
  simp
theorem row_nbr (T : TR m E δ) (P : PL m E δ L R) {v : Int} {e : Int × Int} (he : e ∈ R.filter (inE v)) : oth v e ∈ L ∧ adj E (oth v e) v := by
  obtain ⟨h1, h2⟩ := List.mem_filter.mp he
  obtain ⟨a, b, c⟩ := (P.rows e).mp h1
  unfold oth
  rcases inE_iff.mp h2 with q | q
  · rw [if_pos q.symm]
    exact ⟨c, .inr (by rw [q]; exact a)⟩
  · by_cases z : e.1 = v
    · have := T.gE.rg e a; omega
    · rw [if_neg z]
      exact ⟨b, .inl (by rw [q]; exact a)⟩
theorem nbr_row (T : TR m E δ) (P : PL m E δ L R) {u v : Int} (hu : u ∈ L) (hv : v ∈ L) (h : adj E u v) : ∃ e, e ∈ R.filter (inE v) ∧ oth v e = u := by
  have hne := (adj_rg T.gE h).2.2
  rcases h with q | q
  · exact ⟨(u, v), List.mem_filter.mpr ⟨(P.rows _).mpr ⟨q, hu, hv⟩, inE_iff.mpr (.inr rfl)⟩, by unfold oth; rw [if_neg hne]⟩
  · exact ⟨(v, u), List.mem_filter.mpr ⟨(P.rows _).mpr ⟨q, hv, hu⟩, inE_iff.mpr (.inl rfl)⟩, by unfold oth; rw [if_pos rfl]⟩
theorem oth_inj (T : TR m E δ) (P : PL m E δ L R) {v : Int} {e f : Int × Int} (he : e ∈ R.filter (inE v)) (hf : f ∈ R.filter (inE v)) (h : oth v e = oth v f) : e = f := by
  obtain ⟨h1, h2⟩ := List.mem_filter.mp he
  obtain ⟨g1, g2⟩ := List.mem_filter.mp hf
  have a := T.gE.rg e ((P.rows e).mp h1).1
  have b := T.gE.rg f ((P.rows f).mp g1).1
  rw [inE_iff] at h2 g2
  unfold oth at h
  obtain ⟨e1, e2⟩ := e
  obtain ⟨f1, f2⟩ := f
  dsimp only at *
  have : e1 = f1 ∧ e2 = f2 := by
    split at h <;> split at h <;> omega
  rw [this.1, this.2]
theorem end_one (T : TR m E δ) (P : PL m E δ L R) {v : Int} (h : isEnd R v = true) : ∃ p, p ∈ L ∧ adj E p v ∧ ∀ u, u ∈ L → v ∈ L → adj E u v → u = p := by
  unfold isEnd at h
  have hl : (R.filter (inE v)).length = 1 := by
    have : (((R.filter (inE v)).length : Nat) : Int) = 1 := by simpa using h
    omega
  obtain ⟨e, he⟩ := List.length_eq_one_iff.mp hl
  have hm : e ∈ R.filter (inE v) := by rw [he]; exact List.mem_cons_self ..
  obtain ⟨a, b⟩ := row_nbr T P hm
  refine ⟨oth v e, a, b, fun u hu hv hadj => ?_⟩
  obtain ⟨f, hf, hfo⟩ := nbr_row T P hu hv hadj
  rw [he] at hf
  rw [List.mem_singleton.mp hf] at hfo
  exact hfo.symm
theorem end_two (T : TR m E δ) (P : PL m E δ L R) {v u : Int} (h : isEnd R v = false) (hv : v ∈ L) (hu : u ∈ L) (ha : adj E u v) : ∃ a b, a ∈ L ∧ b ∈ L ∧ a ≠ b ∧ adj E a v ∧ adj E b v := by
  obtain ⟨e, he, _⟩ := nbr_row T P hu hv ha
  have hl : (R.filter (inE v)).length ≠ 1 := fun q => by
    unfold isEnd at h
    rw [q] at h
    simp at h
  have hn : (R.filter (inE v)).Nodup := P.rnd.sublist (List.filter_sublist ..)
  match hF : R.filter (inE v), he, hl, hn with
  | [x], _, hl, _ => exact absurd rfl hl
  | x :: y :: r, _, _, hn =>
    have hx : x ∈ R.filter (inE v) := by rw [hF]; exact List.mem_cons_self ..
    have hy : y ∈ R.filter (inE v) := by rw [hF]; exact List.mem_cons_of_mem _ (List.mem_cons_self ..)
    obtain ⟨a1, a2⟩ := row_nbr T P hx
    obtain ⟨b1, b2⟩ := row_nbr T P hy
    refine ⟨oth v x, oth v y, a1, b1, fun q => ?_, a2, b2⟩
    have := oth_inj T P hx hy q
    rw [List.nodup_cons] at hn
    exact hn.1 (by rw [this]; exact List.mem_cons_self ..)
theorem closer (T : TR m E δ) (P : PL m E δ L R) {s v : Int} (hs : s ∈ L) (hv : v ∈ L) (hne : v ≠ s) : ∃ u, u ∈ L ∧ adj E u v ∧ δ s v = δ s u + 1 := by
  have a := P.sub s hs
  have b := P.sub v hv
  obtain ⟨u, _, _, h1, h2⟩ := (T.hD s a.1 a.2).cl v b.1 b.2 hne
  exact ⟨u, P.conv s v u hs hv hne h1 h2, h1, h2⟩
theorem other_of (P : PL m E δ L R) (h : 2 ≤ L.length) (v : Int) : ∃ s, s ∈ L ∧ s ≠ v := by
  match hL : L, h, P.nd with
  | a :: b :: r, _, hn =>
    by_cases q : a = v
    · refine ⟨b, by simp, fun z => ?_⟩
      rw [List.nodup_cons] at hn
      exact hn.1 (by rw [q, ← z]; exact List.mem_cons_self ..)
    · exact ⟨a, by simp, q⟩
theorem third_of (P : PL m E δ L R) (h : 3 ≤ L.length) (u v : Int) : ∃ s, s ∈ L ∧ s ≠ u ∧ s ≠ v := by
  by_cases q : ∃ s, s ∈ L ∧ s ≠ u ∧ s ≠ v
  · exact q
  · exfalso
    have := P.nd.length_le_of_subset (l₂ := [u, v]) fun x hx => by
      by_cases a : x = u
      · simp [a]
      · by_cases b : x = v
        · simp [b]
        · exact absurd ⟨x, hx, a, b⟩ q
    simp only [List.length_cons, List.length_nil] at this
    omega
theorem nbr_inner (T : TR m E δ) (P : PL m E δ L R) (h3 : 3 ≤ L.length) {l p : Int} (hl : l ∈ L) (hp : p ∈ L) (ha : adj E p l) (he : isEnd R l = true) : isEnd R p = false := by
  cases hq : isEnd R p with
  | false => rfl
  | true =>
    exfalso
    obtain ⟨x, _, _, hx⟩ := end_one T P he
    obtain ⟨y, _, _, hy⟩ := end_one T P hq
    have e1 := hx p hp hl ha
    have e2 := hy l hl hp (adj_symm ha)
    obtain ⟨w, hw, hwl, hwp⟩ := third_of P h3 l p
    obtain ⟨u, hu, hua, hud⟩ := closer T P hw hp (Ne.symm hwp)
    obtain ⟨u', hu', hua', hud'⟩ := closer T P hw hl (Ne.symm hwl)
    have f1 : u = l := (hy u hu hp hua).trans e2.symm
    have f2 : u' = p := (hx u' hu' hl hua').trans e1.symm
    rw [f1] at hud
    rw [f2] at hud'
    omega
theorem dmap_nn (T : TR m E δ) (P : PL m E δ L R) {s : Int} (hs : s ∈ L) : ∀ x, x ∈ L.map (δ s) → 0 ≤ x := fun x hx => by
  obtain ⟨v, _, rfl⟩ := List.mem_map.mp hx
  have := P.sub s hs
  exact (T.hD s this.1 this.2).nn v
theorem leaf_ex (T : TR m E δ) (P : PL m E δ L R) (h2 : 2 ≤ L.length) : ∃ l, l ∈ L ∧ isEnd R l = true := by
  obtain ⟨s, hs⟩ : ∃ s, s ∈ L := by
    match hL : L, h2 with
    | a :: r, _ => exact ⟨a, by simp⟩
  have hsr := P.sub s hs
  have hd := T.hD s hsr.1 hsr.2
  obtain ⟨h1, hmax⟩ := lmax_spec (l := L.map (δ s)) (fun q => P.ne (List.map_eq_nil_iff.mp q)) (dmap_nn T P hs)
  obtain ⟨w, hw, hwm⟩ := List.mem_map.mp h1
  have hle : ∀ v, v ∈ L → δ s v ≤ δ s w := fun v hv => by rw [hwm]; exact hmax _ (List.mem_map.mpr ⟨v, hv, rfl⟩)
  obtain ⟨v, hv, hvs⟩ := other_of P h2 s
  have hvr := P.sub v hv
  have hws : w ≠ s := fun q => by
    have h5 := hle v hv
    rw [q, hd.z] at h5
    have := hd.nn v
    exact hvs (dst_zero hd hvr.1 hvr.2 (by omega))
  refine ⟨w, hw, ?_⟩
  cases hq : isEnd R w with
  | true => rfl
  | false =>
    exfalso
    obtain ⟨u, hu, hua, _⟩ := closer T P hs hw hws
    obtain ⟨a, b, ha, hb, hab, aa, ab⟩ := end_two T P hq hw hu hua
    obtain ⟨c, hc⟩ := tree_par T.gE T.hE hd hsr
    have l1 := hle a ha
    have l2 := hle b hb
    rcases hc a w aa with ⟨_, z1⟩ | ⟨z1, _⟩
    · rcases hc b w ab with ⟨_, z2⟩ | ⟨z2, _⟩
      · exact hab (z1.symm.trans z2)
      · omega
    · omega
noncomputable def eL (δ : Int → Int → Int) (L : List Int) (v : Int) : Int := lmax (L.map (δ v))
theorem eL_ge (T : TR m E δ) (P : PL m E δ L R) {s w : Int} (hs : s ∈ L) (hw : w ∈ L) : δ s w ≤ eL δ L s :=
  (lmax_spec (l := L.map (δ s)) (fun q => P.ne (List.map_eq_nil_iff.mp q)) (dmap_nn T P hs)).2 _ (List.mem_map.mpr ⟨w, hw, rfl⟩)
theorem eL_at (T : TR m E δ) (P : PL m E δ L R) {s : Int} (hs : s ∈ L) : ∃ w, w ∈ L ∧ δ s w = eL δ L s := by
  obtain ⟨h1, _⟩ := lmax_spec (l := L.map (δ s)) (fun q => P.ne (List.map_eq_nil_iff.mp q)) (dmap_nn T P hs)
  obtain ⟨w, hw, e⟩ := List.mem_map.mp h1
  exact ⟨w, hw, e⟩
theorem mem_pstep {v : Int} : v ∈ (pstep (L, R)).1 ↔ v ∈ L ∧ isEnd R v = false := by
  unfold pstep endsOf
  rw [List.mem_filter]
  constructor
  · rintro ⟨h1, h2⟩
    refine ⟨h1, ?_⟩
    cases q : isEnd R v with
    | false => rfl
    | true =>
      have : (L.filter (isEnd R)).contains v = true := by
        rw [List.contains_iff_mem]
        exact List.mem_filter.mpr ⟨h1, q⟩
      rw [this] at h2; cases h2
  · rintro ⟨h1, h2⟩
    refine ⟨h1, ?_⟩
    cases q : (L.filter (isEnd R)).contains v with
    | false => rfl
    | true =>
      rw [List.contains_iff_mem] at q
      rw [(List.mem_filter.mp q).2] at h2; cases h2
theorem pl_step (T : TR m E δ) (P : PL m E δ L R) (h3 : 3 ≤ L.length) : PL m E δ (pstep (L, R)).1 (pstep (L, R)).2 := by
  refine ⟨fun v hv => P.sub v (mem_pstep.mp hv).1, P.nd.sublist (List.filter_sublist ..), ?_, fun s v u hs hv hne hu hd => ?_, fun e => ?_, P.rnd.sublist (List.filter_sublist ..)⟩
  · obtain ⟨l, hl, hle⟩ := leaf_ex T P (by omega)
    obtain ⟨p, hp, hpa, _⟩ := end_one T P hle
    intro q
    have : p ∈ (pstep (L, R)).1 := mem_pstep.mpr ⟨hp, nbr_inner T P h3 hl hp hpa hle⟩
    rw [q] at this; cases this
  · obtain ⟨hs1, hs2⟩ := mem_pstep.mp hs
    obtain ⟨hv1, hv2⟩ := mem_pstep.mp hv
    have huL := P.conv s v u hs1 hv1 hne hu hd
    refine mem_pstep.mpr ⟨huL, ?_⟩
    by_cases q : u = s
    · rw [q]; exact hs2
    · cases hq : isEnd R u with
      | false => rfl
      | true =>
        exfalso
        obtain ⟨x, _, _, hx⟩ := end_one T P hq
        obtain ⟨u2, hu2, hu2a, hu2d⟩ := closer T P hs1 huL q
        have e1 := hx v hv1 huL (adj_symm hu)
        have e2 := hx u2 hu2 huL hu2a
        rw [e2, ← e1] at hu2d
        omega
  · unfold pstep
    rw [List.mem_filter, P.rows]
    simp only [Bool.and_eq_true, List.contains_iff_mem]
    constructor
    · rintro ⟨⟨a, _, _⟩, b, c⟩
      exact ⟨a, b, c⟩
    · rintro ⟨a, b, c⟩
      exact ⟨⟨a, (List.mem_filter.mp b).1, (List.mem_filter.mp c).1⟩, b, c⟩
theorem ecc_step (T : TR m E δ) (P : PL m E δ L R) (h3 : 3 ≤ L.length) {v : Int} (hv : v ∈ (pstep (L, R)).1) : eL δ L v = eL δ (pstep (L, R)).1 v + 1 := by
  have P' := pl_step T P h3
  obtain ⟨hv1, hv2⟩ := mem_pstep.mp hv
  have hvr := P.sub v hv1
  have hd := T.hD v hvr.1 hvr.2
  refine Int.le_antisymm ?_ ?_
  · obtain ⟨w, hw, e⟩ := eL_at T P hv1
    rw [← e]
    cases hq : isEnd R w with
    | false =>
      have := eL_ge T P' hv (mem_pstep.mpr ⟨hw, hq⟩)
      omega
    | true =>
      have hne : w ≠ v := fun q => by rw [q, hv2] at hq; cases hq
      obtain ⟨p, hp, hpa, hpd⟩ := closer T P hv1 hw hne
      have := eL_ge T P' hv (mem_pstep.mpr ⟨hp, nbr_inner T P h3 hw hp hpa hq⟩)
      omega
  · obtain ⟨w, hw, e⟩ := eL_at T P' hv
    rw [← e]
    obtain ⟨hw1, hw2⟩ := mem_pstep.mp hw
    obtain ⟨s, hs, hsw⟩ := other_of P (by omega) w
    obtain ⟨u, hu, hua, _⟩ := closer T P hs hw1 (Ne.symm hsw)
    obtain ⟨a, b, ha, hb, hab, aa, ab⟩ := end_two T P hw2 hw1 hu hua
    obtain ⟨c, hc⟩ := tree_par T.gE T.hE hd hvr
    rcases hc a w aa with ⟨_, z1⟩ | ⟨z1, _⟩
    · rcases hc b w ab with ⟨_, z2⟩ | ⟨z2, _⟩
      · exact absurd (z1.symm.trans z2) hab
      · have := eL_ge T P hv1 hb
        omega
    · have := eL_ge T P hv1 ha
      omega
theorem leaf_more (T : TR m E δ) (P : PL m E δ L R) (h3 : 3 ≤ L.length) {l : Int} (hl : l ∈ L) (he : isEnd R l = true) : ∃ p, p ∈ (pstep (L, R)).1 ∧ eL δ L p < eL δ L l := by
  obtain ⟨p, hp, hpa, huniq⟩ := end_one T P he
  have hlr := P.sub l hl
  have hpr := P.sub p hp
  refine ⟨p, mem_pstep.mpr ⟨hp, nbr_inner T P h3 hl hp hpa he⟩, ?_⟩
  have far : ∀ w, w ∈ L → w ≠ l → δ l w = δ p w + 1 := fun w hw hwl => by
    have hwr := P.sub w hw
    obtain ⟨u, hu, hua, hud⟩ := closer T P hw hl (Ne.symm hwl)
    rw [huniq u hu hl hua] at hud
    rw [dst_sym T.hD hlr hwr, dst_sym T.hD hpr hwr]
    exact hud
  obtain ⟨w, hw, e⟩ := eL_at T P hp
  by_cases q : w = l
  · obtain ⟨t, ht, htl, htp⟩ := third_of P h3 l p
    have htr := P.sub t ht
    have h1 := (T.hD p hpr.1 hpr.2).lip p l hpr.1 hpr.2 hlr.1 hlr.2 hpa
    rw [(T.hD p hpr.1 hpr.2).z] at h1
    rw [q] at e
    have h2 : 1 ≤ δ p t := by
      have := (T.hD p hpr.1 hpr.2).nn t
      rcases Int.lt_or_le (δ p t) 1 with z | z
      · exact absurd (dst_zero (T.hD p hpr.1 hpr.2) htr.1 htr.2 (by omega)) htp
      · exact z
    have h4 := far t ht htl
    have h5 := eL_ge T P hl ht
    omega
  · have h4 := far w hw q
    have h5 := eL_ge T P hl hw
    omega
structure PInv (m : Int) (E : List (Int × Int)) (δ : Int → Int → Int) (j : Nat) : Prop where
  pl : PL m E δ (peel (rngInts 0 m) E j).1 (peel (rngInts 0 m) E j).2
  ecc : ∀ v, v ∈ (peel (rngInts 0 m) E j).1 → eL δ (rngInts 0 m) v = (j : Int) + eL δ (peel (rngInts 0 m) E j).1 v
  out : ∀ v, 0 ≤ v → v < m → v ∉ (peel (rngInts 0 m) E j).1 → ∃ u, u ∈ (peel (rngInts 0 m) E j).1 ∧ eL δ (rngInts 0 m) u < eL δ (rngInts 0 m) v
theorem pinv_step (T : TR m E δ) {j : Nat} (I : PInv m E δ j) (h3 : 3 ≤ (peel (rngInts 0 m) E j).1.length) : PInv m E δ (j + 1) := by
  have P' : PL m E δ (peel (rngInts 0 m) E (j + 1)).1 (peel (rngInts 0 m) E (j + 1)).2 := pl_step T I.pl h3
  have hin : ∀ v, v ∈ (peel (rngInts 0 m) E (j + 1)).1 → v ∈ (peel (rngInts 0 m) E j).1 := fun v hv => (mem_pstep (L := (peel (rngInts 0 m) E j).1) (R := (peel (rngInts 0 m) E j).2).mp hv).1
  have hlf : ∀ l, l ∈ (peel (rngInts 0 m) E j).1 → l ∉ (peel (rngInts 0 m) E (j + 1)).1 → ∃ p, p ∈ (peel (rngInts 0 m) E (j + 1)).1 ∧ eL δ (rngInts 0 m) p < eL δ (rngInts 0 m) l := fun l hl hn => by
    have he : isEnd (peel (rngInts 0 m) E j).2 l = true := by
      cases q : isEnd (peel (rngInts 0 m) E j).2 l with
      | true => rfl
      | false => exact absurd (mem_pstep.mpr ⟨hl, q⟩) hn
    obtain ⟨p, hp, hlt⟩ := leaf_more T I.pl h3 hl he
    have a := I.ecc l hl
    have b := I.ecc p (mem_pstep.mp hp).1
    exact ⟨p, hp, by omega⟩
  refine ⟨P', fun v hv => ?_, fun v h0 h1 hn => ?_⟩
  · have a := I.ecc v (hin v hv)
    have b := ecc_step T I.pl h3 (v := v) hv
    have c : eL δ (peel (rngInts 0 m) E (j + 1)).1 v = eL δ (pstep ((peel (rngInts 0 m) E j).1, (peel (rngInts 0 m) E j).2)).1 v := rfl
    rw [c, a, b]
    simp only [Int.natCast_add, Int.natCast_one]
    omega
  · by_cases q : v ∈ (peel (rngInts 0 m) E j).1
    · exact hlf v q hn
    · obtain ⟨u, hu, hlt⟩ := I.out v h0 h1 q
      by_cases z : u ∈ (peel (rngInts 0 m) E (j + 1)).1
      · exact ⟨u, z, hlt⟩
      · obtain ⟨p, hp, hlt2⟩ := hlf u hu z
        exact ⟨p, hp, by omega⟩
theorem peel_ends (T : TR m E δ) : ∀ (n j : Nat), (peel (rngInts 0 m) E j).1.length ≤ n → PInv m E δ j → (∀ i, i < j → 2 < (peel (rngInts 0 m) E i).1.length) → ∃ k, (∀ i, i < k → 2 < (peel (rngInts 0 m) E i).1.length) ∧ (peel (rngInts 0 m) E k).1.length ≤ 2 ∧ PInv m E δ k
  | 0, j, hl, I, h => ⟨j, h, by omega, I⟩
  | n + 1, j, hl, I, h => by
    by_cases h3 : 3 ≤ (peel (rngInts 0 m) E j).1.length
    · obtain ⟨l, hlm, hle⟩ := leaf_ex T I.pl (by omega)
      have hlt : (peel (rngInts 0 m) E (j + 1)).1.length < (peel (rngInts 0 m) E j).1.length := by
        have hsub : ((peel (rngInts 0 m) E (j + 1)).1).Sublist (peel (rngInts 0 m) E j).1 := List.filter_sublist ..
        rcases Nat.lt_or_ge (peel (rngInts 0 m) E (j + 1)).1.length (peel (rngInts 0 m) E j).1.length with q | q
        · exact q
        · have heq := hsub.eq_of_length_le q
          exfalso
          have : l ∈ (peel (rngInts 0 m) E (j + 1)).1 := by rw [heq]; exact hlm
          have := (mem_pstep (L := (peel (rngInts 0 m) E j).1) (R := (peel (rngInts 0 m) E j).2).mp this).2
          rw [hle] at this; cases this
      refine peel_ends T n (j + 1) (by omega) (pinv_step T I h3) fun i hi => ?_
      rcases Nat.lt_or_ge i j with q | q
      · exact h i q
      · obtain rfl : i = j := by omega
        omega
    · exact ⟨j, h, by omega, I⟩
theorem pinv_zero (T : TR m E δ) (hm1 : 1 ≤ m) : PInv m E δ 0 := by
  refine ⟨⟨fun v hv => mem_rng.mp hv, rng_nodup 0 m, fun q => ?_, fun s v u hs hv hne hu hd => mem_rng.mpr (adj_rg T.gE hu).1, fun e => ?_, T.gE.nd⟩, fun v hv => ?_, fun v h0 h1 hn => absurd (mem_rng.mpr ⟨h0, h1⟩) hn⟩
  · have : (0 : Int) ∈ rngInts 0 m := mem_rng.mpr (by omega)
    have q' : rngInts 0 m = [] := q
    rw [q'] at this; cases this
  · show e ∈ E ↔ _
    constructor
    · intro he
      have := T.gE.rg e he
      exact ⟨he, mem_rng.mpr (by omega), mem_rng.mpr (by omega)⟩
    · exact fun h => h.1
  · show eL δ (rngInts 0 m) v = ((0 : Nat) : Int) + eL δ (rngInts 0 m) v
    simp
theorem ecc_same (T : TR m E δ) (P : PL m E δ L R) (h2 : L.length ≤ 2) {u v : Int} (hu : u ∈ L) (hv : v ∈ L) : eL δ L u = eL δ L v := by
  by_cases q : u = v
  · rw [q]
  · have hur := P.sub u hu
    have hvr := P.sub v hv
    have only : ∀ w, w ∈ L → w = u ∨ w = v := fun w hw => by
      by_cases a : w = u
      · exact .inl a
      · by_cases b : w = v
        · exact .inr b
        · exfalso
          have hn : [w, u, v].Nodup := by simp [a, b, q]
          have := hn.length_le_of_subset (l₂ := L) fun x hx => by
            rcases List.mem_cons.mp hx with rfl | hx
            · exact hw
            · rcases List.mem_cons.mp hx with rfl | hx
              · exact hu
              · rw [List.mem_singleton.mp hx]; exact hv
          simp only [List.length_cons, List.length_nil] at this
          omega
    have hs := dst_sym T.hD hur hvr
    have zu := (T.hD u hur.1 hur.2).z
    have zv := (T.hD v hvr.1 hvr.2).z
    have nn := (T.hD u hur.1 hur.2).nn v
    obtain ⟨a, ha, ea⟩ := eL_at T P hu
    obtain ⟨b, hb, eb⟩ := eL_at T P hv
    have g1 := eL_ge T P hu hv
    have g2 := eL_ge T P hv hu
    rcases only a ha with rfl | rfl <;> rcases only b hb with rfl | rfl <;> omega
end
theorem tree_center {m : Int} {E : List (Int × Int)} {os : List Int} (gE : GoodE m E) (hp : os.Perm (rngInts 0 m)) (hm1 : 1 ≤ m) (hE : (E.length : Int) = m - 1) : ∃ k, TC m E os k := by
  let δ : Int → Int → Int := fun s v => dd (bS (NN E) (7 * s) ((rngInts 0 m).map x7).length) (7 * v)
  have hD : ∀ s, 0 ≤ s → s < m → Dst m E s (δ s) := fun s h0 h1 => (bfs_all gE (.refl _) (mem_rng.mpr ⟨h0, h1⟩)).1
  have T : TR m E δ := ⟨gE, hE, hD⟩
  obtain ⟨k, h1, h2, I⟩ := peel_ends T _ 0 (Nat.le_refl _) (pinv_zero T hm1) (fun i hi => by omega)
  have hff : ∀ v, 0 ≤ v → v < m → ff m E v = eL δ (rngInts 0 m) v := fun v a b => ff_eq gE (hD v a b) ⟨a, b⟩
  obtain ⟨r, hr⟩ : ∃ r, r ∈ (peel (rngInts 0 m) E k).1 := by
    cases hq : (peel (rngInts 0 m) E k).1 with
    | nil => exact absurd hq I.pl.ne
    | cons a t => exact ⟨a, List.mem_cons_self ..⟩
  have hrr := I.pl.sub r hr
  have hsame : ∀ v, v ∈ (peel (rngInts 0 m) E k).1 → eL δ (rngInts 0 m) v = eL δ (rngInts 0 m) r := fun v hv => by
    rw [I.ecc v hv, I.ecc r hr, ecc_same T I.pl h2 hv hr]
  have hout : ∀ v, 0 ≤ v → v < m → v ∉ (peel (rngInts 0 m) E k).1 → eL δ (rngInts 0 m) r < eL δ (rngInts 0 m) v := fun v a b hn => by
    obtain ⟨u, hu, hlt⟩ := I.out v a b hn
    rw [hsame u hu] at hlt
    exact hlt
  have hmin : lmin ((rngInts 0 m).map (ff m E)) = ff m E r := by
    refine (lmin_of (List.mem_map.mpr ⟨r, mem_rng.mpr hrr, rfl⟩) fun x hx => ?_).symm
    obtain ⟨v, hv, rfl⟩ := List.mem_map.mp hx
    obtain ⟨a, b⟩ := mem_rng.mp hv
    rw [hff r hrr.1 hrr.2, hff v a b]
    by_cases q : v ∈ (peel (rngInts 0 m) E k).1
    · rw [hsame v q]; exact Int.le_refl _
    · have := hout v a b q; omega
  have hmem : ∀ v, v ∈ (peel (rngInts 0 m) E k).1 ↔ v ∈ duel m E os := fun v => by
    unfold duel
    rw [List.mem_filter, os_mem hp, hmin]
    constructor
    · intro hv
      obtain ⟨a, b⟩ := I.pl.sub v hv
      refine ⟨⟨a, b⟩, ?_⟩
      rw [hff v a b, hff r hrr.1 hrr.2, hsame v hv]
      simp
    · rintro ⟨⟨a, b⟩, hv⟩
      rw [hff v a b, hff r hrr.1 hrr.2] at hv
      by_cases q : v ∈ (peel (rngInts 0 m) E k).1
      · exact q
      · have := hout v a b q
        have : eL δ (rngInts 0 m) v = eL δ (rngInts 0 m) r := by simpa using hv
        omega
  refine ⟨k, h1, h2, hmem, fun a b ha hb hab => ?_⟩
  have ha' := (hmem a).mpr ha
  have hb' := (hmem b).mpr hb
  obtain ⟨u, hu, hua, _⟩ := closer T I.pl ha' hb' (by omega)
  have hub := (adj_rg gE hua).2.2
  have : u = a := by
    by_cases q : u = a
    · exact q
    · exfalso
      have hn : [u, a, b].Nodup := by
        have : a ≠ b := by omega
        simp [q, hub, this]
      have := hn.length_le_of_subset (l₂ := (peel (rngInts 0 m) E k).1) fun x hx => by
        rcases List.mem_cons.mp hx with rfl | hx
        · exact hu
        · rcases List.mem_cons.mp hx with rfl | hx
          · exact ha'
          · rw [List.mem_singleton.mp hx]; exact hb'
      simp only [List.length_cons, List.length_nil] at this
      omega
  subst this
  rcases hua with q | q
  · exact q
  · have := gE.rg _ q
    dsimp only at this
    omega
end Mine
end
section
open PySem PySem.W PySem.Calls PyProof.Rows
set_option maxRecDepth 100000
set_option linter.unusedVariables false
set_option linter.unusedSimpArgs false
set_option maxHeartbeats 4000000
namespace Mine
variable {w : World} {σ : AS} {n : Nat}
theorem nba_cut {A : Around} {K : Frag} {env : Env} {rest : List Stmt} {Q : AF → Loc → AS → Prop} {l : Loc} (P : Loc → AS → Prop) (h : P l σ) (k : ∀ l σ, P l σ → NBA A K w env rest Q l σ) : NBA A K w env rest Q l σ := k l σ h
theorem nba_step {A : Around} {K : Frag} {env : Env} {st : Stmt} {rest : List Stmt} {Q : AF → Loc → AS → Prop} {l : Loc} (hr : Room n A) (P : Loc → AS → Prop) (hs : NS K w n env st (fun f l1 σ1 => f = .next ∧ P l1 σ1) l σ) (hk : ∀ l1 σ1, P l1 σ1 → NBA A K w env rest Q l1 σ1) : NBA A K w env (st :: rest) Q l σ :=
  nba_cons hr fun A B s hr X he R k E hq => hs A B s hr X he R k E fun v l' σ' s' h R' => hq v l' σ' s' (by obtain ⟨e, h⟩ := h; rw [e]; exact hk _ _ h) R'
theorem nb_step {K : Frag} {env : Env} {st : Stmt} {rest : List Stmt} {Q : AF → Loc → AS → Prop} {l : Loc} (P : Loc → AS → Prop) (hs : NS K w n env st (fun f l1 σ1 => f = .next ∧ P l1 σ1) l σ) (hk : ∀ l1 σ1, P l1 σ1 → NB K w n env rest Q l1 σ1) : NB K w n env (st :: rest) Q l σ :=
  nb_cons fun A B s hr X he R k E hq => hs A B s hr X he R k E fun v l' σ' s' h R' => hq v l' σ' s' (by obtain ⟨e, h⟩ := h; rw [e]; exact hk _ _ h) R'
theorem ncodeA {K : Frag} {A : Around} {B : Bs} {s : Shared} {f : Addr} {fd : FuncData} {oc : Value} {od : Option Addr} {osl : Array (Option Value)} {body : List Stmt} {args : List AV} {vs : List Value} {Q : AV → AS → Prop} {k : Value → Shared → Prop} {E : Value → Shared → Prop}
    (ho : K.lookup f = some ⟨oc, od, .func fd, osl⟩) (hbody : fd.body = .stmts body) (hcd : codeIn K fd.code fd.qualname = true)
    (hr : Room (n + 1) A) (X : Base K B) (R : RepB w B σ s) (ha : vs.map er = args)
    (hb : VBi K w n fd args [] (fun bs σ1 => ∀ L env, Fresh σ1 L → env = newEnv fd.scope L fd.globals (cellsFrom (L + 1) fd.scope.names fd.closure) (fd.qualname ++ ".<locals>.") (some f) fd.code none fd.builtins →
      bindA env bs (fun l1 σ2 => NBA (A.deeper env) K w env body (fun fl l' σ' => Q (match fl with | .ret v => v | _ => .none) σ') l1 σ2) [] (pushA σ1 (L + 1) fd.scope.names)) σ)
    (hq : ∀ v σ' s', Q (er v) σ' → RepB w B σ' s' → k v s')
    (hco : fd.scope.isCoroutine = false := by rfl) (hgen : fd.scope.isGenerator = false := by rfl) (hk : fd.scope.kind = .function := by rfl)
    (hg : fd.globals = mainGlobals := by rfl) (hbl : fd.builtins = builtinsNs := by rfl) : wpN (model prog w) A (call (.ref f) vs) k E s := by
  refine wpN_call (codeN_call_function hr.depth (X.In R _ _ ho) rfl hco hgen hbody (codeRec_of (X.In R) hcd) ?_)
  refine hb A.in1 B s vs [] hr.in1 X R ha rfl _ _ fun bs σ1 s1 h1 R1 => ?_
  refine wp_newEnv (K := K) (n := n) hr.in1 X R1 hk hg hbl (fun L env hF he => h1 L env hF he) (fun L env l' σ' s' hF he hE hP R' => ?_)
  refine ⟨X.noLimit R'.rep, codeN_func ?_⟩
  refine hP B _ X hE R' _ _ fun fl l'' σ'' s'' h3 R3 => ?_
  cases fl <;> exact hq _ _ _ h3 R3.rep
noncomputable def Law1 (L sc : Addr) (so : Obj) : Loc → AS → Prop := fun l σ => ∃ S ea m P, LW σ L S sc so m ∧ EW σ L ea P ∧ ParE P ∧ (P.length : Int) + 1 = m ∧ m ≤ 8 ∧ S ≠ ea
noncomputable def Law2 (L sc : Addr) (so : Obj) : Loc → AS → Prop := fun l σ => ∃ S ea ma m E M, LW σ L S sc so m ∧ EW σ L ea E ∧ GoodE m E ∧ (E.length : Int) + 1 = m ∧ 1 ≤ m ∧ m ≤ 8 ∧ S ≠ ea ∧ lk l "more" = some (.ref ma) ∧ MW σ ma M ∧ MoreOK m E M ∧ ma ≠ S ∧ ma ≠ ea
noncomputable def Law3 (L sc : Addr) (so : Obj) : Loc → AS → Prop := fun l σ => ∃ S ea ma m E M, LW σ L S sc so m ∧ EW σ L ea E ∧ GoodE m E ∧ m ≤ (E.length : Int) + 1 ∧ 1 ≤ m ∧ m ≤ 8 ∧ S ≠ ea ∧ lk l "more" = some (.ref ma) ∧ MW σ ma M ∧ MoreOK m E M ∧ ma ≠ S ∧ ma ≠ ea
structure LB (l : Loc) (σ : AS) (L sc : Addr) (so : Obj) (S ea ma : Addr) (m : Int) (E M : List (Int × Int)) : Prop where
  W : LW σ L S sc so m
  EE : EW σ L ea E
  gE : GoodE m E
  hEm : m ≤ (E.length : Int) + 1
  hm1 : 1 ≤ m
  hm8 : m ≤ 8
  hSea : S ≠ ea
  lm : lk l "more" = some (.ref ma)
  mw : MW σ ma M
  mo : MoreOK m E M
  hmS : ma ≠ S
  hme : ma ≠ ea
theorem LB.kp {l l' : Loc} {σ σ' : AS} {L sc S ea ma : Addr} {so : Obj} {m : Int} {E M : List (Int × Int)} (h : LB l σ L sc so S ea ma m E M) (hl : lk l' "more" = some (.ref ma)) (k : Kw σ σ') : LB l' σ' L sc so S ea ma m E M :=
  ⟨h.W.kp k, h.EE.kp k, h.gE, h.hEm, h.hm1, h.hm8, h.hSea, hl, h.mw.kp k, h.mo, h.hmS, h.hme⟩
theorem LB.upd {l l' : Loc} {σ : AS} {L sc S ea ma : Addr} {so : Obj} {m : Int} {E M : List (Int × Int)} (h : LB l σ L sc so S ea ma m E M) (hl : lk l' "more" = some (.ref ma)) {a : Addr} {xs : List AV} {o' : AO} (ha : σ.f a = some (.list xs)) (h1 : a ≠ S) (h2 : a ≠ ea) (h3 : a ≠ ma) : LB l' (σ.upd a o') L sc so S ea ma m E M :=
  ⟨h.W.upd ha h1, h.EE.upd ha h2, h.gE, h.hEm, h.hm1, h.hm8, h.hSea, hl, h.mw.upd ha h3, h.mo, h.hmS, h.hme⟩
theorem LB.next {l l' : Loc} {σ : AS} {L sc S ea ma : Addr} {so : Obj} {m x y : Int} {E M : List (Int × Int)} (h : LB l σ L sc so S ea ma m E M) (hl : lk l' "more" = some (.ref ma)) (hS : σ.f S = some (.list [.int x])) (hy : 0 ≤ y ∧ y < 2147483647) : LB l' (σ.upd S (.list [.int y])) L sc so S ea ma m E M :=
  ⟨h.W.next hy, h.EE.upd hS h.hSea, h.gE, h.hEm, h.hm1, h.hm8, h.hSea, hl, h.mw.upd hS h.hmS.symm, h.mo, h.hmS, h.hme⟩
theorem LB.cell {l l' : Loc} {σ : AS} {L sc S ea ma : Addr} {so : Obj} {m : Int} {E M : List (Int × Int)} (h : LB l σ L sc so S ea ma m E M) (hl : lk l' "more" = some (.ref ma)) {o : Option AV} {v : Option AV} (ha : σ.f (L + 1 + 1 + 1 + 1) = some (.cell o)) (d1 : L + 1 ≠ L + 1 + 1 + 1 + 1) (d2 : L + 1 + 1 ≠ L + 1 + 1 + 1 + 1) (d3 : L + 1 + 1 + 1 ≠ L + 1 + 1 + 1 + 1) : LB l' (σ.upd (L + 1 + 1 + 1 + 1) (.cell v)) L sc so S ea ma m E M := by
  obtain ⟨x, hx, hs⟩ := h.W.s
  obtain ⟨us, h1, h2⟩ := h.EE.e
  obtain ⟨ms, h3, h4⟩ := h.mw
  exact ⟨⟨upd_ne (ne_obj h.W.sc ha (by intro q; cases q)) h.W.sc, upd_ne (ne_obj h.W.tb ha (by intro q; cases q)) h.W.tb, upd_ne d1 h.W.cs, ⟨x, hx, upd_ne (ne_obj hs ha (by intro q; cases q)) hs⟩, upd_ne d2 h.W.cm, ⟨_, upd_ne d3 h.EE.c⟩, ⟨_, upd_at⟩⟩,
    ⟨upd_ne d3 h.EE.c, us, upd_ne (ne_obj h1 ha (by intro q; cases q)) h1, h2.upd ha (by intro xs q; cases q)⟩, h.gE, h.hEm, h.hm1, h.hm8, h.hSea, hl, ⟨ms, upd_ne (ne_obj h3 ha (by intro q; cases q)) h3, h4.upd ha (by intro xs q; cases q)⟩, h.mo, h.hmS, h.hme⟩
noncomputable def Law4 (L sc : Addr) (so : Obj) : Loc → AS → Prop := fun l σ => ∃ S ea ma m E M, LB l σ L sc so S ea ma m E M ∧ ∃ (G : GA) (la oa : Addr), lk l "graph" = some (.ref G.x) ∧ GR σ G [] [] (fun _ => []) none ∧ lk l "left" = some (.ref la) ∧ σ.f la = some (.list ((rngInts 0 m).map .int)) ∧ lk l "order" = some (.ref oa) ∧ σ.f oa = some (.list []) ∧ la ≠ S ∧ la ≠ ea ∧ la ≠ ma ∧ oa ≠ S ∧ oa ≠ ea ∧ oa ≠ ma ∧ oa ≠ la
noncomputable def Law5 (L sc : Addr) (so : Obj) : Loc → AS → Prop := fun l σ => ∃ S ea ma m E M, LB l σ L sc so S ea ma m E M ∧ ∃ (G : GA) (oa : Addr) (os : List Int), lk l "graph" = some (.ref G.x) ∧ GR σ G [] [] (fun _ => []) none ∧ lk l "order" = some (.ref oa) ∧ σ.f oa = some (.list (os.map .int)) ∧ os.Perm (rngInts 0 m) ∧ oa ≠ S
theorem perm_pop {os ls : List Int} {i : Nat} {e : Int} {R : List Int} (h : (os ++ ls).Perm R) (he : ls[i]? = some e) : ((os ++ [e]) ++ ls.eraseIdx i).Perm R := by
  refine List.Perm.trans ?_ h
  have hs := split_at he
  rw [List.eraseIdx_eq_take_drop_succ, List.append_assoc]
  refine List.Perm.append_left os ?_
  refine List.Perm.trans ?_ (by rw [← hs] : (ls.take i ++ e :: ls.drop (i + 1)).Perm ls)
  exact (List.perm_middle (a := e) (l₁ := ls.take i) (l₂ := ls.drop (i + 1))).symm
structure LO (l : Loc) (σ : AS) (S : Addr) (m : Int) (G : GA) (oa : Addr) (os : List Int) (N : Int → List Int) (dg : Option Addr) : Prop where
  lg : lk l "graph" = some (.ref G.x)
  g : GR σ G (os.map x7) (os.map x7) N dg
  lo : lk l "order" = some (.ref oa)
  ho : σ.f oa = some (.list (os.map .int))
  pm : os.Perm (rngInts 0 m)
  nS : oa ≠ S
theorem LO.kp {l l' : Loc} {σ σ' : AS} {S : Addr} {m : Int} {G : GA} {oa : Addr} {os : List Int} {N : Int → List Int} {dg : Option Addr} (h : LO l σ S m G oa os N dg) (k : Ext σ σ') : LO l σ' S m G oa os N dg := ⟨h.lg, h.g.ext k, h.lo, k _ _ h.ho, h.pm, h.nS⟩
theorem LO.ext {l : Loc} {σ σ' : AS} {S : Addr} {m : Int} {G : GA} {oa : Addr} {os : List Int} {N : Int → List Int} {dg : Option Addr} (h : LO l σ S m G oa os N dg) (k : Ext σ σ') : LO l σ' S m G oa os N dg := ⟨h.lg, h.g.ext k, h.lo, k _ _ h.ho, h.pm, h.nS⟩
theorem LO.cell {l : Loc} {σ : AS} {S : Addr} {m : Int} {G : GA} {oa : Addr} {os : List Int} {N : Int → List Int} {dg : Option Addr} (h : LO l σ S m G oa os N dg) {a : Addr} {o v : Option AV} (ha : σ.f a = some (.cell o)) : LO l (σ.upd a (.cell v)) S m G oa os N dg :=
  ⟨h.lg, h.g.upd ha rfl (fun q => by have e := h.g.x; rw [← q, ha] at e; cases e), h.lo, upd_ne (ne_obj h.ho ha (by intro q; cases q)) h.ho, h.pm, h.nS⟩
noncomputable def Law6 (L sc : Addr) (so : Obj) : Loc → AS → Prop := fun l σ => ∃ S ea ma m E M, LB l σ L sc so S ea ma m E M ∧ ∃ (G : GA) (oa : Addr) (os : List Int), LO l σ S m G oa os (fun _ => []) none
noncomputable def Law7 (L sc : Addr) (so : Obj) : Loc → AS → Prop := fun l σ => ∃ S ea ma m E M, LB l σ L sc so S ea ma m E M ∧ ∃ (G : GA) (oa : Addr) (os : List Int), LO l σ S m G oa os (NN E) none
noncomputable def Law8 (L sc : Addr) (so : Obj) : Loc → AS → Prop := fun l σ => ∃ S ea ma m E M, LB l σ L sc so S ea ma m E M ∧ ∃ (G : GA) (oa fa : Addr) (os : List Int), LO l σ S m G oa os (NN E) none ∧ σ.f (L + 1 + 1 + 1 + 1) = some (.cell (some (.ref fa))) ∧ σ.f fa = some (.list (((rngInts 0 m).map (ff m E)).map .int))
noncomputable def Law9 (L sc : Addr) (so : Obj) : Loc → AS → Prop := fun l σ => ∃ S ea ma m E M, LB l σ L sc so S ea ma m E M ∧ ∃ (G : GA) (oa da : Addr) (os : List Int), LO l σ S m G oa os (NN E) none ∧ lk l "due" = some (.ref da) ∧ σ.f da = some (.list ((duel m E os).map .int))
noncomputable def Law10 (L sc : Addr) (so : Obj) : Loc → AS → Prop := fun l σ => ∃ S ea ma m E M, LB l σ L sc so S ea ma m E M ∧ ∃ (G : GA) (oa da D d : Addr) (os : List Int), LO l σ S m G oa os (NN E) (some D) ∧ VW σ D d G.ad ∧ lk l "due" = some (.ref da) ∧ σ.f da = some (.list ((duel m E os).map .int))
theorem kp_tree {σ σ' : AS} {G : GA} {U V : List Int} {N : Int → List Int} {dg : Option Addr} (g : GR σ G U V N dg) (hE : ∀ a o, a ≠ G.d → σ.f a = some o → σ'.f a = some o) : Kw σ σ' := fun a o e q => hE a o (fun z => by rw [z, g.d] at e; cases e; cases q) e
noncomputable def Law11 (L sc : Addr) (so : Obj) : Loc → AS → Prop := fun l σ => σ.f sc = some (.raw so) ∧ σ.f 613 = some .tab
theorem same_ad {σ σ' : AS} {G G' : GA} {U V U' V' : List Int} {N N' : Int → List Int} {dg : Option Addr} (g : GR σ G U V N dg) (k : Kp σ σ') (hx : G'.x = G.x) (g' : GR σ' G' U' V' N' dg) : G'.ad = G.ad := by
  have h1 := k _ _ g.x rfl
  have h2 := g'.x
  rw [hx, h1] at h2
  have hd : G'.d = G.d := by
    injection h2 with h2
    injection h2 with _ h2
    exact h2.symm
  have h3 := k _ _ g.d rfl
  have h4 := g'.d
  rw [hd, h3] at h4
  have h5 : lk (gns G dg) "_adj" = lk (gns G' dg) "_adj" := by
    have : gns G dg = gns G' dg := by injection (Option.some.inj h4)
    rw [this]
  rw [gns_adj, gns_adj] at h5
  injection h5 with h5
  injection h5 with h5
  exact h5.symm
theorem VW.kp {σ σ' : AS} {D d ad : Addr} (v : VW σ D d ad) (k : Kp σ σ') : VW σ' D d ad := ⟨k _ _ v.x rfl, k _ _ v.d rfl⟩
theorem law_run {A : Around} {B : Bs} {s : Shared} {sc : Addr} {so : Obj} {items : Array Value} {c : Nat} {ns : List Int} {vs : List Value} {k : Value → Shared → Prop} {E : Value → Shared → Prop} (hr : Room (n + 9) A) (hfr : A.frames = some []) (X : Base (KK w) B) (R : RepB w B σ s)
    (hsc : σ.f sc = some (.raw so)) (hcl : so.cls = .type "list") (hdt : so.data = .seq items c) (hit : items.toList.map er = ns.map .int) (hz : ns.length ≤ sizeLine) (htb : σ.f 613 = some .tab) (ha : vs.map er = [.ref sc])
    (hq : ∀ v σ' s', er v = .bool true → σ'.f sc = some (.raw so) → σ'.f 613 = some .tab → RepB w B σ' s' → k v s') : wpN (model prog w) A (call (.ref 709) vs) k E s := by
  refine ncodeA (Q := fun v σ' => v = .bool true ∧ σ'.f sc = some (.raw so) ∧ σ'.f 613 = some .tab) (f := 709) rfl rfl (by kernel_rfl) hr X R ha (vbi_1 (x := "script") fun L env hF he => ?_) (fun v σ' s' h R' => hq v σ' s' h.1 h.2.1 h.2.2 R')
  have k_script := kd_ofC he (x := "script") (k := .local) rfl
  have k_b := kd_ofC he (x := "b") (k := .local) rfl
  have k_a := kd_ofC he (x := "a") (k := .local) rfl
  have k_more := kd_ofC he (x := "more") (k := .local) rfl
  have k_graph := kd_ofC he (x := "graph") (k := .local) rfl
  have k_left := kd_ofC he (x := "left") (k := .local) rfl
  have k_order := kd_ofC he (x := "order") (k := .local) rfl
  have k_due := kd_ofC he (x := "due") (k := .local) rfl
  have k_s := kd_ofC he (x := "s") (k := .cell) rfl
  have k_many := kd_ofC he (x := "many") (k := .cell) rfl
  have k_edges := kd_ofC he (x := "edges") (k := .cell) rfl
  have k_far := kd_ofC he (x := "far") (k := .cell) rfl
  have k__law_seed := kd_ofC he (x := "_law_seed") (k := .globalImplicit) rfl
  have k__law_next := kd_ofC he (x := "_law_next") (k := .globalImplicit) rfl
  have k_range := kd_ofC he (x := "range") (k := .globalImplicit) rfl
  have k_len := kd_ofC he (x := "len") (k := .globalImplicit) rfl
  have k_Graph := kd_ofC he (x := "Graph") (k := .globalImplicit) rfl
  have k_list := kd_ofC he (x := "list") (k := .globalImplicit) rfl
  have k_center := kd_ofC he (x := "center") (k := .globalImplicit) rfl
  have k_is_tree := kd_ofC he (x := "is_tree") (k := .globalImplicit) rfl
  have k_sorted := kd_ofC he (x := "sorted") (k := .globalImplicit) rfl
  have k__law_peeled := kd_ofC he (x := "_law_peeled") (k := .globalImplicit) rfl
  have k_min := kd_ofC he (x := "min") (k := .globalImplicit) rfl
  have k_max := kd_ofC he (x := "max") (k := .globalImplicit) rfl
  have k_NetworkXPointlessConcept := kd_ofC he (x := "NetworkXPointlessConcept") (k := .globalImplicit) rfl
  have c_s : env.cells.lookup (Str.ofString "s") = some (L + 1) := cl_ofC he (by rfl)
  have c_many : env.cells.lookup (Str.ofString "many") = some (L + 1 + 1) := cl_ofC he (by rfl)
  have c_edges : env.cells.lookup (Str.ofString "edges") = some (L + 1 + 1 + 1) := cl_ofC he (by rfl)
  have c_far : env.cells.lookup (Str.ofString "far") = some (L + 1 + 1 + 1 + 1) := cl_ofC he (by rfl)
  have hE' := eo_ofC he
  have hr2 : Room (n + 8) (A.deeper env) := hr.deeper
  have hfr2 : (A.deeper env).frames = some [env] := Around.frames_deeper hfr
  have hfe : env.frame = some env.locals := by rw [he]; rfl
  have hi : interactive env = false := by rw [he]; rfl
  clear he
  refine bindA_local k_script (bindA_nil ?_)
  have F1 := hF.succ
  have F2 := F1.succ
  have F3 := F2.succ
  have F4 := F3.succ
  have hX0 : Ext σ ((((σ.ins (L + 1) (.cell none)).ins (L + 1 + 1) (.cell none)).ins (L + 1 + 1 + 1) (.cell none)).ins (L + 1 + 1 + 1 + 1) (.cell none)) := pushA_ext [("s", .cell), ("many", .cell), ("edges", .cell), ("far", .cell)] F1
  have d12 : L + 1 ≠ L + 1 + 1 := Nat.ne_of_lt (Nat.lt_succ_self _)
  have d13 : L + 1 ≠ L + 1 + 1 + 1 := Nat.ne_of_lt (Nat.lt_succ_of_lt (Nat.lt_succ_self _))
  have d14 : L + 1 ≠ L + 1 + 1 + 1 + 1 := Nat.ne_of_lt (Nat.lt_succ_of_lt (Nat.lt_succ_of_lt (Nat.lt_succ_self _)))
  have d23 : L + 1 + 1 ≠ L + 1 + 1 + 1 := Nat.ne_of_lt (Nat.lt_succ_self _)
  have d24 : L + 1 + 1 ≠ L + 1 + 1 + 1 + 1 := Nat.ne_of_lt (Nat.lt_succ_of_lt (Nat.lt_succ_self _))
  have d34 : L + 1 + 1 + 1 ≠ L + 1 + 1 + 1 + 1 := Nat.ne_of_lt (Nat.lt_succ_self _)
  have s1 : ((((σ.ins (L + 1) (.cell none)).ins (L + 1 + 1) (.cell none)).ins (L + 1 + 1 + 1) (.cell none)).ins (L + 1 + 1 + 1 + 1) (.cell none)).f (L + 1) = some (.cell none) := ins_ne d14 (ins_ne d13 (ins_ne d12 ins_at))
  have s2 : ((((σ.ins (L + 1) (.cell none)).ins (L + 1 + 1) (.cell none)).ins (L + 1 + 1 + 1) (.cell none)).ins (L + 1 + 1 + 1 + 1) (.cell none)).f (L + 1 + 1) = some (.cell none) := ins_ne d24 (ins_ne d23 ins_at)
  have s3 : ((((σ.ins (L + 1) (.cell none)).ins (L + 1 + 1) (.cell none)).ins (L + 1 + 1 + 1) (.cell none)).ins (L + 1 + 1 + 1 + 1) (.cell none)).f (L + 1 + 1 + 1) = some (.cell none) := ins_ne d34 ins_at
  have s4 : ((((σ.ins (L + 1) (.cell none)).ins (L + 1 + 1) (.cell none)).ins (L + 1 + 1 + 1) (.cell none)).ins (L + 1 + 1 + 1 + 1) (.cell none)).f (L + 1 + 1 + 1 + 1) = some (.cell none) := ins_at
  show NBA _ _ _ _ _ _ _ ((((σ.ins (L + 1) (.cell none)).ins (L + 1 + 1) (.cell none)).ins (L + 1 + 1 + 1) (.cell none)).ins (L + 1 + 1 + 1 + 1) (.cell none))
  have hsc0 := hX0 _ _ hsc
  have htb0 := hX0 _ _ htb
  generalize (((σ.ins (L + 1) (.cell none)).ins (L + 1 + 1) (.cell none)).ins (L + 1 + 1 + 1) (.cell none)).ins (L + 1 + 1 + 1 + 1) (.cell none) = σ0 at s1 s2 s3 s4 hsc0 htb0
  clear hX0 hsc htb
  refine nba_cons hr2 (ny_of ?_)
  refine vs_assign_cell k_s c_s ?_
  refine ve_call_g (x := "_law_seed") g__law_seed kp__law_seed ?_
  refine vl_cons ?_
  refine ve_local (by first | assumption | (simp only [lk_lset, lk, ofString_inj, String.reduceEq, if_true, if_false] <;> first | rfl | assumption)) ?_
  refine vl_nil ?_
  refine law_seed (.inr ⟨so, items, c, hsc0, hcl, hdt, hit⟩) hz fun σ1 S x e1 hS hx => ?_
  have e2 := e1.trans (Ext.ins (o := .list [.int x]) hS)
  have hSS := ins_self (o := .list [.int x]) hS
  generalize (σ1.ins S (.list [.int x])) = σ2 at e2 hSS ⊢
  refine ⟨none, e2 _ _ s1, ?_⟩
  have t1 := upd_self (o' := .cell (some (.ref S))) (e2 _ _ s1)
  have t2 := upd_ne (o := .cell (some (.ref S))) d12.symm (e2 _ _ s2)
  have t3 := upd_ne (o := .cell (some (.ref S))) d13.symm (e2 _ _ s3)
  have t4 := upd_ne (o := .cell (some (.ref S))) d14.symm (e2 _ _ s4)
  have tS := upd_ne (o := .cell (some (.ref S))) (ne_obj hSS (e2 _ _ s1) (by intro q; cases q)) hSS
  have tsc := upd_ne (o := .cell (some (.ref S))) (ne_obj (e2 _ _ hsc0) (e2 _ _ s1) (by intro q; cases q)) (e2 _ _ hsc0)
  have ttb := upd_ne (o := .cell (some (.ref S))) (ne_obj (e2 _ _ htb0) (e2 _ _ s1) (by intro q; cases q)) (e2 _ _ htb0)
  generalize (σ2.upd (L + 1) (.cell (some (.ref S)))) = σ3 at t1 t2 t3 t4 tS tsc ttb ⊢
  clear e1 e2 s1 s2 s3 s4 hsc0 htb0 hSS hS
  refine nba_cons hr2 (ny_of ?_)
  refine vs_assign_cell k_many c_many ?_
  refine ve_int op_add ?_
  refine ve_const_int ?_
  refine ve_call_g (x := "_law_next") g__law_next kp__law_next ?_
  refine vl_cons ?_
  refine ve_cell c_s t1 ?_
  refine vl_cons ?_
  refine ve_const_int ?_
  refine vl_nil ?_
  refine law_next tS hx (by decide) fun y r hy hr8 => ?_
  refine ⟨1, r, rfl, rfl, trivial, ?_⟩
  have u1 := upd_ne (o := .list [.int y]) (ne_obj t1 tS (by intro q; cases q)) t1
  have u2 := upd_ne (o := .list [.int y]) (ne_obj t2 tS (by intro q; cases q)) t2
  have u3 := upd_ne (o := .list [.int y]) (ne_obj t3 tS (by intro q; cases q)) t3
  have u4 := upd_ne (o := .list [.int y]) (ne_obj t4 tS (by intro q; cases q)) t4
  have usc := upd_ne (o := .list [.int y]) (ne_obj tsc tS (by intro q; cases q)) tsc
  have utb := upd_ne (o := .list [.int y]) (ne_obj ttb tS (by intro q; cases q)) ttb
  have uS := upd_self (o' := .list [.int y]) tS
  generalize (σ3.upd S (.list [.int y])) = σ4 at u1 u2 u3 u4 usc utb uS ⊢
  refine ⟨none, u2, ?_⟩
  have W0 : LW (σ4.upd (L + 1 + 1) (.cell (some (.int (1 + r))))) L S sc so (1 + r) :=
    ⟨upd_ne (ne_obj usc u2 (by intro q; cases q)) usc, upd_ne (ne_obj utb u2 (by intro q; cases q)) utb, upd_ne d12 u1, ⟨y, hy, upd_ne (ne_obj uS u2 (by intro q; cases q)) uS⟩, upd_at, ⟨none, upd_ne d23.symm u3⟩, ⟨none, upd_ne d24.symm u4⟩⟩
  generalize (σ4.upd (L + 1 + 1) (.cell (some (.int (1 + r))))) = σ5 at W0 ⊢
  generalize hm : 1 + r = m at W0 ⊢
  have hm1 : 1 ≤ m := by omega
  have hm8 : m ≤ 8 := by omega
  clear t1 t2 t3 t4 tS tsc ttb u1 u2 u3 u4 usc utb uS hy hr8 hm hx
  refine nba_step hr2 (Law1 L sc so) (ny_of ?_) ?_
  · refine vs_assign_cell k_edges c_edges ?_
    refine ve_listcomp _ (by dsimp only; (repeat (first | refine (closA_skip (by rfl)).trans ?_ | refine (closA_free (by assumption)).trans ?_)); rfl) ?_
    refine ve_call_b (x := "range") b_range bb_range kb_range ?_
    refine vl_cons ?_
    refine ve_const_int ?_
    refine vl_cons ?_
    refine ve_cell c_many W0.cm ?_
    refine vl_nil ?_
    refine vc_range2 fun rg hrg => ?_
    refine vit_range (ins_self hrg) (by decide) (by decide) (by omega) (by omega) ?_
    have W1 := W0.ext (Ext.ins (o := .rng 1 m) hrg)
    generalize (σ5.ins rg (.rng 1 m)) = σ6 at W1 ⊢
    intro D C cenv hD hC hce hE2
    have k_k := kc_same hce (x := "k") (k := .local) rfl (by decide)
    have k__law_next := kc_same hce (x := "_law_next") (k := .globalImplicit) rfl (by decide)
    have k_s' := kc_own hce hE' (x := "s") rfl k_s
    have c_s' : cenv.cells.lookup (Str.ofString "s") = some (L + 1) := cl_comp hce (by rfl)
    clear hce
    have eD : Ext σ6 (pushA (σ6.ins D (.list [])) (C + 1) [(".0", .local), ("k", .local), ("_law_next", .globalImplicit), ("s", .free)]) := (Ext.ins hD).trans (pushA_ext _ hC.succ)
    have dD : (pushA (σ6.ins D (.list [])) (C + 1) [(".0", .local), ("k", .local), ("_law_next", .globalImplicit), ("s", .free)]).f D = some (.list []) := ins_at
    have hDS : D ≠ S := by
      obtain ⟨x, _, hs⟩ := W1.s
      exact (ne_fresh hD hs).symm
    refine spec_range (fun j l2 σ2 => LW σ2 L S sc so m ∧ ∃ us P, σ2.f D = some (.list us) ∧ Prs σ2 us P ∧ ParE P ∧ P.length = j) ⟨W1.ext eD, [], [], dD, rfl, (fun i e he => by simp at he), rfl⟩ (fun j l2 σ2 hJ hj => ?_) (fun l2 σ2 hJ => ?_)
    · obtain ⟨W, us, P, hDu, hP, hpar, hlen⟩ := hJ
      obtain ⟨x, hx, hs⟩ := W.s
      refine va_local ?_
      refine vy_bodyL0 ?_
      refine ve_tuple ?_
      refine vl_cons ?_
      refine ve_call_g (x := "_law_next") g__law_next kp__law_next ?_
      refine vl_cons ?_
      refine ve_cell c_s' W.cs ?_
      refine vl_cons ?_
      refine ve_local (by first | assumption | (simp only [lk_lset, lk, ofString_inj, String.reduceEq, if_true, if_false] <;> first | rfl | assumption)) ?_
      refine vl_nil ?_
      refine law_next hs hx (by omega) fun y r hy hr => ?_
      have W2 := W.next hy
      have hD2 := upd_ne (o := .list [.int y]) hDS hDu
      have hP2 := hP.upd (o' := .list [.int y]) hs (by intro xs q; cases q)
      generalize (σ2.upd S (.list [.int y])) = σ3 at W2 hD2 hP2 ⊢
      refine vl_cons ?_
      refine ve_local (by first | assumption | (simp only [lk_lset, lk, ofString_inj, String.reduceEq, if_true, if_false] <;> first | rfl | assumption)) ?_
      refine vl_nil ⟨by simp, fun t ht => ?_⟩
      have W3 := W2.ext (Ext.ins (o := .tup [.int r, .int (1 + (j : Int))]) ht)
      have hP3 := hP2.of_ext (Ext.ins (o := .tup [.int r, .int (1 + (j : Int))]) ht)
      have hD2 := ins_old (o := (.tup [.int r, .int (1 + (j:Int))])) ht hD2
      have htt := ins_self (o := .tup [.int r, .int (1 + (j : Int))]) ht
      generalize (σ3.ins t (.tup [.int r, .int (1 + (j : Int))])) = σ4 at W3 hP3 hD2 htt ⊢
      have hul := hP3.length
      refine ⟨us, hD2, by omega, W3.upd hD2 hDS, us ++ [.ref t], P ++ [(r, (P.length : Int) + 1)], upd_at, Prs.append (hP3.upd hD2 (by intro xs q; cases q)) (Prs.one ?_), hpar.snoc hr.1 (by omega), by simp [hlen]⟩
      have : (P.length : Int) + 1 = 1 + (j : Int) := by omega
      rw [this]
      exact upd_ne (ne_obj htt hD2 (by intro q; cases q)) htt
    · obtain ⟨W, us, P, hDu, hP, hpar, hlen⟩ := hJ
      obtain ⟨o, ho⟩ := W.ce
      refine ⟨o, ho, ?_⟩
      refine ⟨rfl, S, D, m, P, ?_, ⟨upd_at, us, upd_ne (ne_obj hDu ho (by intro q; cases q)) hDu, hP.upd ho (by intro xs q; cases q)⟩, hpar, by omega, hm8, hDS.symm⟩
      obtain ⟨x, hx, hs⟩ := W.s
      obtain ⟨o2, ho2⟩ := W.cf
      exact ⟨upd_ne (ne_obj W.sc ho (by intro q; cases q)) W.sc, upd_ne (ne_obj W.tb ho (by intro q; cases q)) W.tb, upd_ne d13 W.cs, ⟨x, hx, upd_ne (ne_obj hs ho (by intro q; cases q)) hs⟩, upd_ne d23 W.cm, ⟨_, upd_at⟩, ⟨o2, upd_ne d34.symm ho2⟩⟩
  clear W0 hm1 hm8
  intro l σa hL
  obtain ⟨S, ea, m, P, W, EE, hpar, hPl, hm8, hSea⟩ := hL
  refine nba_step hr2 (Law2 L sc so) (ny_of ?_) ?_
  · refine vs_listcomp2 _ (by dsimp only; (repeat (first | refine (closA_skip (by rfl)).trans ?_ | refine (closA_free (by assumption)).trans ?_)); rfl) (swaps_local hE' k_more rfl rfl rfl) ?_
    refine ve_call_b (x := "range") b_range bb_range kb_range ?_
    refine vl_cons ?_
    refine ve_cell c_many W.cm ?_
    refine vl_nil ?_
    refine vc_range1 fun rg hrg => ?_
    refine vit_range (ins_self hrg) (by decide) (by decide) (by omega) (by omega) ?_
    replace W := W.ext (Ext.ins (o := .rng 0 m) hrg)
    replace EE := EE.ext (Ext.ins (o := .rng 0 m) hrg)
    generalize (σa.ins rg (.rng 0 m)) = σ1 at W EE ⊢
    intro D C cenv hD hC hce hE2
    have k_b := kc_same hce (x := "b") (k := .local) rfl (by decide)
    have k_a := kc_same hce (x := "a") (k := .local) rfl (by decide)
    have k_range := kc_same hce (x := "range") (k := .globalImplicit) rfl (by decide)
    have k_edges' := kc_own hce hE' (x := "edges") rfl k_edges
    have c_edges' : cenv.cells.lookup (Str.ofString "edges") = some (L + 1 + 1 + 1) := cl_comp hce (by rfl)
    clear hce
    have eD : Ext σ1 (pushA (σ1.ins D (.list [])) (C + 1) [(".0", .local), ("b", .local), ("a", .local), ("range", .globalImplicit), ("edges", .free)]) := (Ext.ins hD).trans (pushA_ext _ hC.succ)
    have dD : (pushA (σ1.ins D (.list [])) (C + 1) [(".0", .local), ("b", .local), ("a", .local), ("range", .globalImplicit), ("edges", .free)]).f D = some (.list []) := ins_at
    have hDS : D ≠ S := by
      obtain ⟨x, _, hs⟩ := W.s
      exact (ne_fresh hD hs).symm
    have hDe : D ≠ ea := by
      obtain ⟨us, hs, _⟩ := EE.e
      exact (ne_fresh hD hs).symm
    refine spec_range (fun j l2 σ2 => LW σ2 L S sc so m ∧ EW σ2 L ea P ∧ ∃ us M, σ2.f D = some (.list us) ∧ Prs σ2 us M ∧ M.Nodup ∧ (∀ e, e ∈ M → 0 ≤ e.1 ∧ e.1 < e.2 ∧ e.2 < (j : Int) ∧ e ∉ P) ∧ M.length ≤ 8 * j) ⟨W.ext eD, EE.ext eD, [], [], dD, rfl, .nil, by simp, Nat.zero_le _⟩ (fun j l2 σ2 hJ hj => ?_) (fun l2 σ2 hJ => ?_)
    · obtain ⟨W2, E2, us, M, hDu, hM, hMn, hMr, hMl⟩ := hJ
      rw [Int.zero_add] at hj ⊢
      refine va_local ?_
      refine vy_bodyO0 ?_
      refine ve_call_b (x := "range") b_range bb_range kb_range ?_
      refine vl_cons ?_
      refine ve_local (by first | assumption | (simp only [lk_lset, lk, ofString_inj, String.reduceEq, if_true, if_false] <;> first | rfl | assumption)) ?_
      refine vl_nil ?_
      refine vc_range1 fun rg2 hrg2 => ?_
      refine vit_range (ins_self hrg2) (by decide) (by decide) (by omega) (by omega) ?_
      replace W2 := W2.ext (Ext.ins (o := .rng 0 j) hrg2)
      replace E2 := E2.ext (Ext.ins (o := .rng 0 j) hrg2)
      replace hM := hM.of_ext (Ext.ins (o := .rng 0 j) hrg2)
      have hDu2 := ins_old (o := .rng 0 j) hrg2 hDu
      generalize (σ2.ins rg2 (.rng 0 j)) = σ3 at W2 E2 hM hDu2 ⊢
      refine spec_range (fun i l4 σ4 => lk l4 "b" = some (.int j) ∧ LW σ4 L S sc so m ∧ EW σ4 L ea P ∧ ∃ us M, σ4.f D = some (.list us) ∧ Prs σ4 us M ∧ M.Nodup ∧ (∀ e, e ∈ M → 0 ≤ e.1 ∧ e.1 < e.2 ∧ (e.2 < (j : Int) ∨ (e.2 = j ∧ e.1 < (i : Int))) ∧ e ∉ P) ∧ M.length ≤ 8 * j + i) ⟨(by first | assumption | (simp only [lk_lset, lk, ofString_inj, String.reduceEq, if_true, if_false] <;> first | rfl | assumption)), W2, E2, us, M, hDu2, hM, hMn, fun e he => ⟨(hMr e he).1, (hMr e he).2.1, .inl (hMr e he).2.2.1, (hMr e he).2.2.2⟩, hMl⟩ (fun i l4 σ4 hJ hi => ?_) (fun l4 σ4 hJ => ?_)
      · obtain ⟨lb, W4, E4, us, M, hDu, hM, hMn, hMr, hMl⟩ := hJ
        rw [Int.zero_add] at hi ⊢
        refine va_local ?_
        refine vy_bodyL1 ?_
        refine vt_cmp ?_
        refine ve_tuple ?_
        refine vl_cons ?_
        refine ve_local (by first | assumption | (simp only [lk_lset, lk, ofString_inj, String.reduceEq, if_true, if_false] <;> first | rfl | assumption)) ?_
        refine vl_cons ?_
        refine ve_local (by first | assumption | (simp only [lk_lset, lk, ofString_inj, String.reduceEq, if_true, if_false] <;> first | rfl | assumption)) ?_
        refine vl_nil ⟨by simp, fun t ht => ?_⟩
        replace W4 := W4.ext (Ext.ins (o := .tup [.int i, .int j]) ht)
        replace E4 := E4.ext (Ext.ins (o := .tup [.int i, .int j]) ht)
        replace hM := hM.of_ext (Ext.ins (o := .tup [.int i, .int j]) ht)
        have hDu := ins_old (o := (.tup [.int i, .int j])) ht hDu
        have htt := ins_self (o := .tup [.int i, .int j]) ht
        generalize (σ4.ins t (.tup [.int i, .int j])) = σ5 at W4 E4 hM hDu htt ⊢
        refine ve_cell c_edges' E4.c ?_
        obtain ⟨es, he1, he2⟩ := E4.e
        refine vo_notin_prs he1 he2 htt ?_
        refine vtr_bool ?_
        have hul := hM.length
        cases hin : P.contains ((i : Int), (j : Int)) with
        | true =>
          rw [if_neg (by simp)]
          exact ⟨(by first | assumption | (simp only [lk_lset, lk, ofString_inj, String.reduceEq, if_true, if_false] <;> first | rfl | assumption)), W4, E4, us, M, hDu, hM, hMn, fun e he => ⟨(hMr e he).1, (hMr e he).2.1, by have := (hMr e he).2.2.1; omega, (hMr e he).2.2.2⟩, by omega⟩
        | false =>
          rw [if_pos (by simp)]
          refine ve_tuple ?_
          refine vl_cons ?_
          refine ve_local (by first | assumption | (simp only [lk_lset, lk, ofString_inj, String.reduceEq, if_true, if_false] <;> first | rfl | assumption)) ?_
          refine vl_cons ?_
          refine ve_local (by first | assumption | (simp only [lk_lset, lk, ofString_inj, String.reduceEq, if_true, if_false] <;> first | rfl | assumption)) ?_
          refine vl_nil ⟨by simp, fun t2 ht2 => ?_⟩
          replace W4 := W4.ext (Ext.ins (o := .tup [.int i, .int j]) ht2)
          replace E4 := E4.ext (Ext.ins (o := .tup [.int i, .int j]) ht2)
          replace hM := hM.of_ext (Ext.ins (o := .tup [.int i, .int j]) ht2)
          have hDu := ins_old (o := (.tup [.int i, .int j])) ht2 hDu
          have htt2 := ins_self (o := .tup [.int i, .int j]) ht2
          generalize (σ5.ins t2 (.tup [.int i, .int j])) = σ6 at W4 E4 hM hDu htt2 ⊢
          refine ⟨us, hDu, by omega, (by first | assumption | (simp only [lk_lset, lk, ofString_inj, String.reduceEq, if_true, if_false] <;> first | rfl | assumption)), W4.upd hDu hDS, E4.upd hDu hDe, us ++ [.ref t2], M ++ [((i : Int), (j : Int))], upd_at, Prs.append (hM.upd hDu (by intro xs q; cases q)) (Prs.one (upd_ne (ne_obj htt2 hDu (by intro q; cases q)) htt2)), ?_, fun e he => ?_, by rw [List.length_append, List.length_singleton]; omega⟩
          · rw [List.nodup_append]
            refine ⟨hMn, by simp, fun e he e2 he2 => ?_⟩
            rw [List.mem_singleton.mp he2]
            intro q
            have := (hMr e he).2.2.1
            rw [q] at this
            dsimp only at this
            omega
          · rcases List.mem_append.mp he with q | q
            · exact ⟨(hMr e q).1, (hMr e q).2.1, by have := (hMr e q).2.2.1; omega, (hMr e q).2.2.2⟩
            · rw [List.mem_singleton.mp q]
              refine ⟨Int.natCast_nonneg _, hi, .inr ⟨rfl, by show (i : Int) < ((i + 1 : Nat) : Int); omega⟩, fun z => ?_⟩
              have : P.contains ((i : Int), (j : Int)) = true := by simpa using z
              rw [hin] at this; cases this
      · obtain ⟨lb, W4, E4, us, M, hDu, hM, hMn, hMr, hMl⟩ := hJ
        refine ⟨W4, E4, us, M, hDu, hM, hMn, fun e he => ⟨(hMr e he).1, (hMr e he).2.1, ?_, (hMr e he).2.2.2⟩, by omega⟩
        have := (hMr e he).2.2.1
        show e.2 < ((j + 1 : Nat) : Int)
        omega
    · obtain ⟨W2, E2, us, M, hDu, hM, hMn, hMr, hMl⟩ := hJ
      refine va_local ?_
      refine ⟨rfl, S, ea, D, m, P, M, W2, E2, hpar.good hPl, hPl, by omega, hm8, hSea, (by first | assumption | (simp only [lk_lset, lk, ofString_inj, String.reduceEq, if_true, if_false] <;> first | rfl | assumption)), ⟨us, hDu, hM⟩, ⟨fun e he => ⟨(hMr e he).1, (hMr e he).2.1, ?_⟩, fun e he => (hMr e he).2.2.2, hMn, by omega⟩, hDS, hDe⟩
      have := (hMr e he).2.2.1
      omega
  clear W EE hpar hPl hm8 hSea
  intro l σa hL
  obtain ⟨S, ea, ma, m, E, M, W, EE, gE, hEm, hm1, hm8, hSea, lm, mw, mk, hmS, hme⟩ := hL
  refine nba_step hr2 (Law3 L sc so) (ny_of ?_) ?_
  · refine vs_if ?_
    refine vt_cmp ?_
    refine ve_next W k_s c_s ?_
    refine ve_const_int ?_
    refine ⟨2, rfl, by decide, W, fun y r hy hr0 hr1 x hS W2 => ?_⟩
    have E2 := EE.upd (o' := .list [.int y]) hS hSea
    have M2 := mw.upd (o' := .list [.int y]) hS hmS.symm
    refine ve_const_int ?_
    refine vo_int_eq ?_
    refine vtr_bool ?_
    generalize (σa.upd S (.list [.int y])) = σ1 at W2 E2 M2 ⊢
    split
    · refine vb_cons ?_
      refine vs_while (fun i l' σ' => ∃ E M, i = M.length ∧ LW σ' L S sc so m ∧ EW σ' L ea E ∧ GoodE m E ∧ m ≤ (E.length : Int) + 1 ∧ lk l' "more" = some (.ref ma) ∧ MW σ' ma M ∧ MoreOK m E M) M.length ⟨E, M, rfl, W2, E2, gE, by omega, lm, M2, mk⟩ fun i l' σ' hI => ?_
      clear W EE gE hEm mw mk W2 E2 M2 lm E M hS
      obtain ⟨E, M, rfl, W, EE, gE, hEm, lm, ⟨us, hu, hp⟩, mk⟩ := hI
      have hul := hp.length
      have hMl := mk.ln
      have done : ∀ σ', LW σ' L S sc so m → EW σ' L ea E → MW σ' ma M → (match AF.next with | .next => VB (KK w) w (n + 8) env [] (fun f l1 σ1 => f = AF.next ∧ Law3 L sc so l1 σ1) l' σ' | f => f = AF.next ∧ Law3 L sc so l' σ') := fun σ' W' E' M' => vb_nil ⟨rfl, S, ea, ma, m, E, M, W', E', gE, hEm, hm1, hm8, hSea, lm, M', mk, hmS, hme⟩
      refine vt_bool ?_
      refine vand_cons ?_
      refine vt_value ?_
      refine ve_local (by first | assumption | (simp only [lk_lset, lk, ofString_inj, String.reduceEq, if_true, if_false] <;> first | rfl | assumption)) ?_
      refine vtr_list hu (by omega) ?_
      by_cases hemp : us = []
      · rw [if_neg (by simp [hemp]), if_neg (by simp)]
        exact done _ W EE ⟨us, hu, hp⟩
      · rw [if_pos (by simpa using hemp)]
        refine vand_cons ?_
        refine vt_cmp ?_
        refine ve_next W k_s c_s ?_
        refine ve_const_int ?_
        refine ⟨3, rfl, by decide, W, fun y r hy hr0 hr1 x hS W2 => ?_⟩
        have E2 := EE.upd (o' := .list [.int y]) hS hSea
        have hu2 := upd_ne (o := .list [.int y]) hmS hu
        have hp2 := hp.upd (o' := .list [.int y]) hS (by intro xs q; cases q)
        generalize (σ'.upd S (.list [.int y])) = σ2 at W2 E2 hu2 hp2 ⊢
        refine ve_const_int ?_
        refine vo_int_gt ?_
        refine vtr_bool ?_
        by_cases hr : (0 : Int) < r
        · rw [decide_eq_true hr, if_pos rfl]
          refine vand_nil ?_
          rw [if_pos rfl]
          clear W EE hu hp hS
          refine vb_cons ?_
          refine vs_expr ?_ (hi := hi)
          refine ve_mcall ?_
          refine ve_cell c_edges E2.c ?_
          obtain ⟨es, he1, he2⟩ := E2.e
          refine vm_list he1 PySem.F.slot_list_append PySem.F.type_list_append ?_
          refine ⟨keep_builtin, ?_⟩
          refine vl_cons ?_
          refine ve_mcall ?_
          refine ve_local (by first | assumption | (simp only [lk_lset, lk, ofString_inj, String.reduceEq, if_true, if_false] <;> first | rfl | assumption)) ?_
          refine vm_list hu2 PySem.F.slot_list_pop PySem.F.type_list_pop ?_
          refine ⟨keep_builtin, ?_⟩
          refine vl_cons ?_
          refine ve_next W2 k_s c_s ?_
          refine ve_call_b (x := "len") b_len bb_len kb_len ?_
          refine vl_cons ?_
          refine ve_local (by first | assumption | (simp only [lk_lset, lk, ofString_inj, String.reduceEq, if_true, if_false] <;> first | rfl | assumption)) ?_
          refine vl_nil ?_
          refine vc_len_list hu2 (by omega) ?_
          have hpos : 0 < us.length := List.length_pos_iff.mpr hemp
          refine ⟨_, rfl, by omega, W2, fun y2 r2 hy2 hr20 hr21 x2 hS2 W3 => ?_⟩
          have E3 := E2.upd (o' := .list [.int y2]) hS2 hSea
          have he13 := upd_ne (o := .list [.int y2]) hSea.symm he1
          have hu3 := upd_ne (o := .list [.int y2]) hmS hu2
          have hp3 := hp2.upd (o' := .list [.int y2]) hS2 (by intro xs q; cases q)
          generalize (σ2.upd S (.list [.int y2])) = σ3 at W3 E3 he13 hu3 hp3 ⊢
          refine vl_nil ?_
          have hlt : r2.toNat < us.length := by omega
          obtain ⟨t, p, hpe, hpv, hpt⟩ := hp3.get (List.getElem?_eq_getElem hlt)
          refine vc_pop hu3 (by omega) hr20 (List.getElem?_eq_getElem hlt) ?_
          rw [hpv]
          have W4 := W3.upd (o' := .list (us.eraseIdx r2.toNat)) hu3 hmS
          have E4 := E3.upd (o' := .list (us.eraseIdx r2.toNat)) hu3 hme
          have he14 := upd_ne (o := .list (us.eraseIdx r2.toNat)) hme.symm he13
          have hpt4 := upd_ne (o := .list (us.eraseIdx r2.toNat)) (ne_obj hpt hu3 (by intro q; cases q)) hpt
          have M4 : MW (σ3.upd ma (.list (us.eraseIdx r2.toNat))) ma (M.eraseIdx r2.toNat) := ⟨_, upd_at, (hp3.upd hu3 (by intro xs q; cases q)).erase _⟩
          generalize (σ3.upd ma (.list (us.eraseIdx r2.toNat))) = σ4 at W4 E4 he14 hpt4 M4 ⊢
          refine vl_nil ?_
          have hel := he2.length
          have hE28 := gE.le28 hm8
          refine vc_append he14 (by omega) ?_
          refine ⟨(by intro a q; cases q), ?_⟩
          refine vb_nil ?_
          have hpm := List.mem_of_getElem? hpe
          refine ⟨(M.eraseIdx r2.toNat).length, ?_, E ++ [p], M.eraseIdx r2.toNat, rfl, W4.upd he14 hSea.symm, E4.add he14 hpt4, gE.add (mk.rg p hpm) (mk.ni p hpm), by rw [List.length_append]; simp; omega, (by first | assumption | (simp only [lk_lset, lk, ofString_inj, String.reduceEq, if_true, if_false] <;> first | rfl | assumption)), M4.upd he14 hme.symm, mk.pop hpe⟩
          rw [List.length_eraseIdx_of_lt (by omega)]
          omega
        · rw [decide_eq_false hr, if_neg Bool.false_ne_true, if_neg Bool.false_ne_true]
          exact done _ W2 E2 ⟨us, hu2, hp2⟩
    · refine vb_nil ?_
      exact ⟨rfl, S, ea, ma, m, E, M, W2, E2, gE, by omega, hm1, hm8, hSea, lm, M2, mk, hmS, hme⟩
  clear W EE gE hEm hm1 hm8 hSea lm mw mk hmS hme
  intro l σa hL
  obtain ⟨S, ea, ma, m, E, M, W, EE, gE, hEm, hm1, hm8, hSea, lm, mw, mo, hmS, hme⟩ := hL
  have hB : LB l σa L sc so S ea ma m E M := ⟨W, EE, gE, hEm, hm1, hm8, hSea, lm, mw, mo, hmS, hme⟩
  clear W EE gE hEm hm1 hm8 hSea lm mw mo hmS hme
  refine nba_step hr2 (Law4 L sc so) (ny_of ?_) ?_
  · refine vs_assign_sw3 (sw_three hE' k_graph k_left k_order (by decide) (by decide) (by decide) rfl rfl rfl rfl rfl) k_graph k_left k_order ?_
    refine ve_tuple ?_
    refine vl_cons ?_
    refine ve_call_g (x := "Graph") g_Graph kp_Graph ?_
    refine vl_nil ?_
    refine fn_Graph fun σ1 G e1 g1 hxn => ?_
    refine vl_cons ?_
    refine ve_call_b (x := "list") b_list bb_list kb_list ?_
    refine vl_cons ?_
    refine ve_call_b (x := "range") b_range bb_range kb_range ?_
    refine vl_cons ?_
    refine ve_cell c_many ((hB.W.ext e1).cm) ?_
    refine vl_nil ?_
    refine vc_range1 fun rg hrg => ?_
    refine vl_nil ?_
    have hm1 := hB.hm1
    have hm8 := hB.hm8
    refine vc_list_range ins_at (by decide) (by decide) (by omega) (by omega) fun la hla => ?_
    refine vl_cons ?_
    refine ve_list ?_
    refine vl_nil ⟨by simp, fun oa hoa => ?_⟩
    refine vl_nil ⟨by simp, fun tp htp => ?_⟩
    have e2 := (((Ext.ins (o := .rng 0 m) hrg).add (o := .list ((rngInts 0 m).map .int)) hla).add (o := .list []) hoa).add (o := .tup [.ref G.x, .ref la, .ref oa]) htp
    have i1 := ins_old (o := .tup [.ref G.x, .ref la, .ref oa]) htp (ins_old (o := .list []) hoa (ins_self (o := .list ((rngInts 0 m).map .int)) hla))
    have i2 := ins_old (o := .tup [.ref G.x, .ref la, .ref oa]) htp (ins_self (o := .list []) hoa)
    have i3 := ins_self (o := .tup [.ref G.x, .ref la, .ref oa]) htp
    have nla : ∀ b o, σ1.f b = some o → la ≠ b := fun b o e => (ne_fresh hla (ins_old (o := .rng 0 m) hrg e)).symm
    have noa : ∀ b o, σ1.f b = some o → oa ≠ b := fun b o e => (ne_fresh hoa (ins_old (o := .list ((rngInts 0 m).map .int)) hla (ins_old (o := .rng 0 m) hrg e))).symm
    have nlo : oa ≠ la := (ne_fresh hoa (ins_self (o := .list ((rngInts 0 m).map .int)) hla)).symm
    have lm0 := hB.lm
    have hB1 := hB.kp hB.lm (Kw.of_ext e1)
    obtain ⟨x, _, hS⟩ := hB1.W.s
    obtain ⟨us, hea, _⟩ := hB1.EE.e
    obtain ⟨ms, hma, _⟩ := hB1.mw
    refine ⟨tp, _, _, _, rfl, i3, rfl, S, ea, ma, m, E, M, hB1.kp (by first | assumption | (simp only [lk_lset, lk, ofString_inj, String.reduceEq, if_true, if_false] <;> first | rfl | assumption)) (Kw.of_ext e2), G, la, oa, (by first | assumption | (simp only [lk_lset, lk, ofString_inj, String.reduceEq, if_true, if_false] <;> first | rfl | assumption)), g1.ext e2, (by first | assumption | (simp only [lk_lset, lk, ofString_inj, String.reduceEq, if_true, if_false] <;> first | rfl | assumption)), i1, (by first | assumption | (simp only [lk_lset, lk, ofString_inj, String.reduceEq, if_true, if_false] <;> first | rfl | assumption)), i2, nla _ _ hS, nla _ _ hea, nla _ _ hma, noa _ _ hS, noa _ _ hea, noa _ _ hma, nlo⟩
  clear hB
  intro l σa hL
  obtain ⟨S, ea, ma, m, E, M, hB, G, la, oa, lg, g, lla, hla, loa, hoa, n1, n2, n3, n4, n5, n6, n7⟩ := hL
  refine nba_step hr2 (Law5 L sc so) (ny_of ?_) ?_
  · have hm1 := hB.hm1
    have hm8 := hB.hm8
    have hrl : (rngInts 0 m).length ≤ 8 := by simp only [rngInts, List.length_map, List.length_range]; omega
    refine vs_while (fun i l' σ' => ∃ os ls, i = ls.length ∧ LB l' σ' L sc so S ea ma m E M ∧ lk l' "graph" = some (.ref G.x) ∧ GR σ' G [] [] (fun _ => []) none ∧ lk l' "left" = some (.ref la) ∧ σ'.f la = some (.list (ls.map .int)) ∧ lk l' "order" = some (.ref oa) ∧ σ'.f oa = some (.list (os.map .int)) ∧ (os ++ ls).Perm (rngInts 0 m)) (rngInts 0 m).length ⟨[], rngInts 0 m, rfl, hB, lg, g, lla, hla, loa, hoa, .refl _⟩ fun i l' σ' hI => ?_
    clear hB lg g lla hla loa hoa
    obtain ⟨os, ls, rfl, hB, lg, g, lla, hla, loa, hoa, hpm⟩ := hI
    have hlen := hpm.length_eq
    rw [List.length_append] at hlen
    have lmm := hB.lm
    refine vt_value ?_
    refine ve_local (by first | assumption | (simp only [lk_lset, lk, ofString_inj, String.reduceEq, if_true, if_false] <;> first | rfl | assumption)) ?_
    refine vtr_list hla (by rw [List.length_map]; omega) ?_
    by_cases hemp : ls = []
    · subst hemp
      rw [if_neg (by simp)]
      rw [List.append_nil] at hpm
      exact ⟨rfl, S, ea, ma, m, E, M, hB, G, oa, os, lg, g, loa, hoa, hpm, n4⟩
    · rw [if_pos (by simpa using hemp)]
      have hpos : 0 < ls.length := List.length_pos_iff.mpr hemp
      refine vb_cons ?_
      refine vs_expr ?_ (hi := hi)
      refine ve_mcall ?_
      refine ve_local (by first | assumption | (simp only [lk_lset, lk, ofString_inj, String.reduceEq, if_true, if_false] <;> first | rfl | assumption)) ?_
      refine vm_list hoa PySem.F.slot_list_append PySem.F.type_list_append ?_
      refine ⟨keep_builtin, ?_⟩
      refine vl_cons ?_
      refine ve_mcall ?_
      refine ve_local (by first | assumption | (simp only [lk_lset, lk, ofString_inj, String.reduceEq, if_true, if_false] <;> first | rfl | assumption)) ?_
      refine vm_list hla PySem.F.slot_list_pop PySem.F.type_list_pop ?_
      refine ⟨keep_builtin, ?_⟩
      refine vl_cons ?_
      refine ve_next hB.W k_s c_s ?_
      refine ve_call_b (x := "len") b_len bb_len kb_len ?_
      refine vl_cons ?_
      refine ve_local (by first | assumption | (simp only [lk_lset, lk, ofString_inj, String.reduceEq, if_true, if_false] <;> first | rfl | assumption)) ?_
      refine vl_nil ?_
      refine vc_len_list hla (by rw [List.length_map]; omega) ?_
      rw [List.length_map]
      refine ⟨_, rfl, by omega, hB.W, fun y r hy hr0 hr1 x hS _ => ?_⟩
      have hB2 := hB.next lmm hS hy
      have hla2 := upd_ne (o := .list [.int y]) n1 hla
      have hoa2 := upd_ne (o := .list [.int y]) n4 hoa
      have g2 := g.upd (o' := .list [.int y]) hS rfl (fun q => by have e := g.x; rw [← q, hS] at e; cases e)
      generalize (σ'.upd S (.list [.int y])) = σ2 at hB2 hla2 hoa2 g2 ⊢
      refine vl_nil ?_
      have hlt : r.toNat < ls.length := by omega
      have hget : ls[r.toNat]? = some ls[r.toNat] := List.getElem?_eq_getElem hlt
      refine vc_pop hla2 (by rw [List.length_map]; omega) hr0 (by rw [List.getElem?_map, hget]; rfl) ?_
      rw [← map_eraseIdx]
      have hB3 := hB2.upd lmm (o' := .list ((ls.eraseIdx r.toNat).map .int)) hla2 n1 n2 n3
      have g3 := g2.upd (o' := .list ((ls.eraseIdx r.toNat).map .int)) hla2 rfl (fun q => by have e := g2.x; rw [← q, hla2] at e; cases e)
      have hoa3 := upd_ne (o := .list ((ls.eraseIdx r.toNat).map .int)) n7 hoa2
      have hla3 := upd_self (o' := .list ((ls.eraseIdx r.toNat).map .int)) hla2
      generalize (σ2.upd la (.list ((ls.eraseIdx r.toNat).map .int))) = σ3 at hB3 g3 hoa3 hla3 ⊢
      refine vl_nil ?_
      refine vc_append hoa3 (by rw [List.length_map]; omega) ?_
      refine ⟨(by intro a q; cases q), ?_⟩
      refine vb_nil ?_
      refine ⟨(ls.eraseIdx r.toNat).length, ?_, os ++ [ls[r.toNat]], ls.eraseIdx r.toNat, rfl, hB3.upd (by first | assumption | (simp only [lk_lset, lk, ofString_inj, String.reduceEq, if_true, if_false] <;> first | rfl | assumption)) hoa3 n4 n5 n6, (by first | assumption | (simp only [lk_lset, lk, ofString_inj, String.reduceEq, if_true, if_false] <;> first | rfl | assumption)), ?_, (by first | assumption | (simp only [lk_lset, lk, ofString_inj, String.reduceEq, if_true, if_false] <;> first | rfl | assumption)), upd_ne n7.symm hla3, (by first | assumption | (simp only [lk_lset, lk, ofString_inj, String.reduceEq, if_true, if_false] <;> first | rfl | assumption)), ?_, perm_pop hpm hget⟩
      · rw [List.length_eraseIdx_of_lt hlt]
        omega
      · exact g3.upd hoa3 rfl (fun q => by have e := g3.x; rw [← q, hoa3] at e; cases e)
      · rw [List.map_append]
        exact upd_at
  clear hB lg g lla hla loa hoa n1 n2 n3 n4 n5 n6 n7
  intro l σa hL
  obtain ⟨S, ea, ma, m, E, M, hB, G, oa, os, lg, g, loa, hoa, hpm, n1⟩ := hL
  refine nba_step hr2 (Law6 L sc so) (ny_of ?_) ?_
  · have hm1 := hB.hm1
    have hm8 := hB.hm8
    have lmm := hB.lm
    have hol : os.length ≤ 8 := by
      rw [hpm.length_eq]
      simp only [rngInts, List.length_map, List.length_range]; omega
    refine vs_expr ?_ (hi := hi)
    refine ve_mcall ?_
    refine ve_local (by first | assumption | (simp only [lk_lset, lk, ofString_inj, String.reduceEq, if_true, if_false] <;> first | rfl | assumption)) ?_
    refine vm_fn pc_Graph g.x g.d ?_ m_add_nodes_from mt_add_nodes_from ?_
    · exact gns_none (by decide) (by decide) (by decide) (by decide)
    refine ⟨keep_ref mk_add_nodes_from, ?_⟩
    refine vl_cons ?_
    refine ve_listcomp [] (by dsimp only; (repeat (first | refine (closA_skip (by rfl)).trans ?_ | refine (closA_free (by assumption)).trans ?_)); rfl) ?_
    refine ve_local (by first | assumption | (simp only [lk_lset, lk, ofString_inj, String.reduceEq, if_true, if_false] <;> first | rfl | assumption)) ?_
    refine vit_list hoa ?_
    intro D C cenv hD hC hce hE2
    have k_v := kc_same hce (x := "v") (k := .local) rfl (by decide)
    clear hce
    refine spec_list (fun j l2 σ2 => Ext σa σ2 ∧ σ2.f D = some (.list (((os.take j).map x7).map .int))) (fun j l2 σ2 hJ => hJ.1 _ _ hoa) ⟨?_, ?_⟩ (fun j v l2 σ2 hJ hj hv => ?_) (fun l2 σ2 hJ => ?_)
    · exact (Ext.ins hD).trans (pushA_ext _ hC.succ)
    · exact pushA_ext _ hC.succ _ _ (ins_self hD)
    · obtain ⟨j1, j2⟩ := hJ
      obtain ⟨x, ex, rfl⟩ := ints_get hv
      have hxm : x ∈ rngInts 0 m := hpm.subset (List.mem_of_getElem? ex)
      have hxr : 0 ≤ x ∧ x < 8 := by
        simp only [rngInts, List.mem_map, List.mem_range] at hxm
        obtain ⟨i, hi1, hi2⟩ := hxm
        omega
      refine va_local ?_
      refine vy_bodyL0 ?_
      refine ve_int op_mul ?_
      refine ve_const_int ?_
      refine ve_local (by first | assumption | (simp only [lk_lset, lk, ofString_inj, String.reduceEq, if_true, if_false] <;> first | rfl | assumption)) ?_
      refine ⟨_, _, rfl, rfl, IntMulOk.of_right (intBits_le_64 (by omega) (by omega)), ?_⟩
      refine ⟨_, j2, by rw [List.length_map, List.length_map, List.length_take]; omega, j1.upd hD.none, ?_⟩
      rw [take_snoc ex, List.map_append, List.map_append]
      exact upd_at
    · obtain ⟨j1, j2⟩ := hJ
      rw [List.length_map, List.take_length] at j2
      refine vl_nil ?_
      have hnd : (os.map x7).Nodup := x7_nodup (hpm.nodup_iff.mpr (rng_nodup 0 m))
      refine law_add_nodes (g.ext j1) j2 hnd (fun k _ q => by cases q) (by rw [List.length_map]; simp; omega) fun σ3 G3 hx3 k3 g3 => ?_
      refine ⟨(by intro a q; cases q), rfl, S, ea, ma, m, E, M, (hB.kp lmm (Kw.of_ext j1)).kp lmm k3.weak, G3, oa, os, by rw [hx3]; exact lg, ?_, loa, k3 _ _ (j1 _ _ hoa) rfl, hpm, n1⟩
      rw [List.nil_append] at g3
      have : (fun v => if v ∈ os.map x7 then [] else (fun _ => ([] : List Int)) v) = fun _ => [] := by funext v; split <;> rfl
      rw [this] at g3
      exact g3
  clear hB lg g loa hoa hpm n1
  intro l σa hL
  obtain ⟨S, ea, ma, m, E, M, hB, G, oa, os, lg, g, loa, hoa, hpm, n1⟩ := hL
  refine nba_step hr2 (Law7 L sc so) (ny_of ?_) ?_
  · have hm1 := hB.hm1
    have hm8 := hB.hm8
    have lmm := hB.lm
    have hol : os.length ≤ 8 := by
      rw [hpm.length_eq]
      simp only [rngInts, List.length_map, List.length_range]; omega
    obtain ⟨es, hes, hep⟩ := hB.EE.e
    have hel := hep.length
    have he28 := hB.gE.le28 hm8
    refine vs_expr ?_ (hi := hi)
    refine ve_mcall ?_
    refine ve_local (by first | assumption | (simp only [lk_lset, lk, ofString_inj, String.reduceEq, if_true, if_false] <;> first | rfl | assumption)) ?_
    refine vm_fn pc_Graph g.x g.d ?_ m_add_edges_from mt_add_edges_from ?_
    · exact gns_none (by decide) (by decide) (by decide) (by decide)
    refine ⟨keep_ref mk_add_edges_from, ?_⟩
    refine vl_cons ?_
    refine ve_listcomp [] (by dsimp only; (repeat (first | refine (closA_skip (by rfl)).trans ?_ | refine (closA_free (by assumption)).trans ?_)); rfl) ?_
    refine ve_cell c_edges hB.EE.c ?_
    refine vit_list hes ?_
    intro D C cenv hD hC hce hE2
    have k_a := kc_same hce (x := "a") (k := .local) rfl (by decide)
    have k_b := kc_same hce (x := "b") (k := .local) rfl (by decide)
    clear hce
    refine spec_list (fun j l2 σ2 => Ext σa σ2 ∧ ∃ us, σ2.f D = some (.list us) ∧ Prs σ2 us ((E.take j).map e7)) (fun j l2 σ2 hJ => hJ.1 _ _ hes) ⟨?_, ?_⟩ (fun j v l2 σ2 hJ hj hv => ?_) (fun l2 σ2 hJ => ?_)
    · exact (Ext.ins hD).trans (pushA_ext _ hC.succ)
    · exact ⟨[], pushA_ext _ hC.succ _ _ (ins_self hD), rfl⟩
    · obtain ⟨j1, us, j2, j3⟩ := hJ
      obtain ⟨t, p, ep, rfl, tp⟩ := (hep.of_ext j1).get hv
      have hpr := hB.gE.rg p (List.mem_of_getElem? ep)
      refine va_tup2 tp (va_local (va_local ?_))
      refine vy_bodyL0 ?_
      refine ve_tuple ?_
      refine vl_cons ?_
      refine ve_int op_mul ?_
      refine ve_const_int ?_
      refine ve_local (by first | assumption | (simp only [lk_lset, lk, ofString_inj, String.reduceEq, if_true, if_false] <;> first | rfl | assumption)) ?_
      refine ⟨_, _, rfl, rfl, IntMulOk.of_right (intBits_le_64 (by omega) (by omega)), ?_⟩
      refine vl_cons ?_
      refine ve_int op_mul ?_
      refine ve_const_int ?_
      refine ve_local (by first | assumption | (simp only [lk_lset, lk, ofString_inj, String.reduceEq, if_true, if_false] <;> first | rfl | assumption)) ?_
      refine ⟨_, _, rfl, rfl, IntMulOk.of_right (intBits_le_64 (by omega) (by omega)), ?_⟩
      refine vl_nil ⟨by simp, fun t2 ht2 => ?_⟩
      have j4 := j1.trans (Ext.ins (o := .tup [.int (7 * p.1), .int (7 * p.2)]) ht2)
      have j5 := j3.of_ext (Ext.ins (o := .tup [.int (7 * p.1), .int (7 * p.2)]) ht2)
      have j2 := ins_old (o := (.tup [.int (7 * p.1), .int (7 * p.2)])) ht2 j2
      have htt := ins_self (o := .tup [.int (7 * p.1), .int (7 * p.2)]) ht2
      have hul := j5.length
      rw [List.length_map, List.length_take] at hul
      refine ⟨us, j2, by omega, j4.upd hD.none, us ++ [.ref t2], upd_at, ?_⟩
      rw [take_snoc ep, List.map_append]
      exact Prs.append (j5.upd j2 (by intro xs q; cases q)) (Prs.one (upd_ne (ne_obj htt j2 (by intro q; cases q)) htt))
    · obtain ⟨j1, us, j2, j3⟩ := hJ
      rw [hel, List.take_length] at j3
      refine vl_nil ?_
      refine law_add_edges (g.ext j1) j2 j3 (edges_ok hB.gE hm8 hpm) (by rw [List.length_map]; omega) fun σ3 G3 hx3 k3 g3 => ?_
      exact ⟨(by intro a q; cases q), rfl, S, ea, ma, m, E, M, (hB.kp lmm (Kw.of_ext j1)).kp lmm k3.weak, G3, oa, os, by rw [hx3]; exact lg, g3, loa, k3 _ _ (j1 _ _ hoa) rfl, hpm, n1⟩
  clear hB lg g loa hoa hpm n1
  intro l σa hL
  obtain ⟨S, ea, ma, m, E, M, hB, G, oa, os, hO⟩ := hL
  refine nba_step hr2 (Law8 L sc so) (ny_of ?_) ?_
  · have hm1 := hB.hm1
    have hm8 := hB.hm8
    have lmm := hB.lm
    obtain ⟨es, hes, hep⟩ := hB.EE.e
    have he28 := hB.gE.le28 hm8
    obtain ⟨fo, hfo⟩ := hB.W.cf
    refine vs_assign_cell k_far c_far ?_
    refine ve_listcomp _ (by dsimp only; (repeat (first | refine (closA_skip (by rfl)).trans ?_ | refine (closA_free (by assumption)).trans ?_)); rfl) ?_
    refine ve_call_b (x := "range") b_range bb_range kb_range ?_
    refine vl_cons ?_
    refine ve_cell c_many hB.W.cm ?_
    refine vl_nil ?_
    refine vc_range1 fun rg hrg => ?_
    refine vit_range (ins_self hrg) (by decide) (by decide) (by omega) (by omega) ?_
    have e0 := Ext.ins (o := .rng 0 m) hrg
    generalize (σa.ins rg (.rng 0 m)) = σ1 at e0 ⊢
    intro D C cenv hD hC hce hE2
    have k_v := kc_same hce (x := "v") (k := .local) rfl (by decide)
    have k__law_far := kc_same hce (x := "_law_far") (k := .globalImplicit) rfl (by decide)
    have k_many' := kc_own hce hE' (x := "many") rfl k_many
    have c_many' : cenv.cells.lookup (Str.ofString "many") = some (L + 1 + 1) := cl_comp hce (by rfl)
    have k_edges' := kc_own hce hE' (x := "edges") rfl k_edges
    have c_edges' : cenv.cells.lookup (Str.ofString "edges") = some (L + 1 + 1 + 1) := cl_comp hce (by rfl)
    clear hce
    have hD0 : σa.f D = none := e0.fresh hD
    refine spec_range (fun j l2 σ2 => Ext σa σ2 ∧ σ2.f D = some (.list ((((rngInts 0 m).take j).map (ff m E)).map .int))) ⟨?_, ?_⟩ (fun j l2 σ2 hJ hj => ?_) (fun l2 σ2 hJ => ?_)
    · exact e0.trans ((Ext.ins hD).trans (pushA_ext _ hC.succ))
    · exact pushA_ext _ hC.succ _ _ (ins_self hD)
    · obtain ⟨j1, j2⟩ := hJ
      rw [Int.zero_add] at hj ⊢
      refine va_local ?_
      refine vy_bodyL0 ?_
      refine ve_call_g (x := "_law_far") g__law_far kp__law_far ?_
      refine vl_cons ?_
      refine ve_cell c_many' (j1 _ _ hB.W.cm) ?_
      refine vl_cons ?_
      refine ve_cell c_edges' (j1 _ _ hB.EE.c) ?_
      refine vl_cons ?_
      refine ve_local (by first | assumption | (simp only [lk_lset, lk, ofString_inj, String.reduceEq, if_true, if_false] <;> first | rfl | assumption)) ?_
      refine vl_nil ?_
      refine law_far (j1 _ _ hes) (hep.of_ext j1) (by omega) (by omega) hm8 fun σ3 r e3 hr1 hr2' => ?_
      have hrr : r = ff m E j := lmax_of hr1 hr2' (rounds_nonneg m E j)
      subst hrr
      have hget : (rngInts 0 m)[j]? = some (j : Int) := rng_get (by omega)
      refine ⟨_, e3 _ _ j2, ?_, (j1.trans e3).upd hD0, ?_⟩
      · rw [List.length_map, List.length_map]
        have := List.length_take_le j (rngInts 0 m)
        omega
      · rw [take_snoc hget, List.map_append, List.map_append]
        exact upd_at
    · obtain ⟨j1, j2⟩ := hJ
      rw [List.take_of_length_le (by simp [rngInts])] at j2
      refine ⟨fo, j1 _ _ hfo, rfl, S, ea, ma, m, E, M, ?_, G, oa, D, os, ?_, upd_at, upd_ne (ne_obj j2 (j1 _ _ hfo) (by intro q; cases q)) j2⟩
      · exact (hB.kp lmm (Kw.of_ext j1)).cell lmm (j1 _ _ hfo) d14 d24 d34
      · exact (hO.ext j1).cell (j1 _ _ hfo)
  clear hB hO
  intro l σa hL
  obtain ⟨S, ea, ma, m, E, M, hB, G, oa, fa, os, hO, hfc, hfa⟩ := hL
  refine nba_step hr2 (Law9 L sc so) (ny_of ?_) ?_
  · have hm1 := hB.hm1
    have hm8 := hB.hm8
    have lmm := hB.lm
    have lgg := hO.lg
    have loo := hO.lo
    have hol := os_length hO.pm
    refine vs_listcomp _ (by dsimp only; (repeat (first | refine (closA_skip (by rfl)).trans ?_ | refine (closA_free (by assumption)).trans ?_)); rfl) (swaps_local hE' k_due rfl rfl rfl) ?_
    refine ve_local hO.lo ?_
    refine vit_list hO.ho ?_
    intro D C cenv hD hC hce hE2
    have k_v := kc_same hce (x := "v") (k := .local) rfl (by decide)
    have k_min := kc_same hce (x := "min") (k := .globalImplicit) rfl (by decide)
    have k_far' := kc_own hce hE' (x := "far") rfl k_far
    have c_far' : cenv.cells.lookup (Str.ofString "far") = some (L + 1 + 1 + 1 + 1) := cl_comp hce (by rfl)
    clear hce
    refine spec_list (fun j l2 σ2 => Ext σa σ2 ∧ σ2.f D = some (.list (((os.take j).filter fun v => ff m E v == lmin ((rngInts 0 m).map (ff m E))).map .int))) (fun j l2 σ2 hJ => hJ.1 _ _ hO.ho) ⟨?_, ?_⟩ (fun j v l2 σ2 hJ hj hv => ?_) (fun l2 σ2 hJ => ?_)
    · exact (Ext.ins hD).trans (pushA_ext _ hC.succ)
    · exact pushA_ext _ hC.succ _ _ (ins_self hD)
    · obtain ⟨j1, j2⟩ := hJ
      obtain ⟨x, ex, rfl⟩ := ints_get hv
      have hxr := (os_mem hO.pm).mp (List.mem_of_getElem? ex)
      refine va_local ?_
      refine vy_bodyL1 ?_
      refine vt_cmp ?_
      refine ve_sub ?_
      refine ve_cell c_far' (j1 _ _ hfc) ?_
      refine ve_local (by first | assumption | (simp only [lk_lset, lk, ofString_inj, String.reduceEq, if_true, if_false] <;> first | rfl | assumption)) ?_
      have hget : ((rngInts 0 m).map (ff m E))[x.toNat]? = some (ff m E x) := by
        rw [List.getElem?_map, rng_get (by omega)]
        simp only [Option.map_some, Option.some.injEq]
        congr 1
        omega
      refine vi_list_int (j1 _ _ hfa) hxr.1 (by omega) (by rw [List.getElem?_map, hget]; rfl) ?_
      refine ve_call_b (x := "min") b_min bb_min kb_min ?_
      refine vl_cons ?_
      refine ve_cell c_far' (j1 _ _ hfc) ?_
      refine vl_nil ?_
      refine vc_min_list (j1 _ _ hfa) (fun q => by rw [q] at hget; cases hget) fun mn h1 h2 => ?_
      have hmn := lmin_of h1 h2
      subst hmn
      refine vo_int_eq ?_
      refine vtr_bool ?_
      have hf := take_filter (fun v => ff m E v == lmin ((rngInts 0 m).map (ff m E))) os ex
      cases hin : ff m E x == lmin ((rngInts 0 m).map (ff m E)) with
      | false =>
        rw [hin] at hf
        rw [if_neg Bool.false_ne_true]
        refine ⟨j1, ?_⟩
        rw [hf]; simpa using j2
      | true =>
        rw [hin] at hf
        rw [if_pos rfl]
        refine ve_local (by first | assumption | (simp only [lk_lset, lk, ofString_inj, String.reduceEq, if_true, if_false] <;> first | rfl | assumption)) ?_
        have hl5 := List.length_filter_le (fun v => ff m E v == lmin ((rngInts 0 m).map (ff m E))) (os.take j)
        rw [List.length_take] at hl5
        refine ⟨_, j2, by rw [List.length_map]; omega, j1.upd hD.none, ?_⟩
        rw [hf, if_pos rfl, List.map_append]
        exact upd_at
    · obtain ⟨j1, j2⟩ := hJ
      rw [List.length_map, List.take_length] at j2
      refine va_local ?_
      exact ⟨rfl, S, ea, ma, m, E, M, hB.kp (by first | assumption | (simp only [lk_lset, lk, ofString_inj, String.reduceEq, if_true, if_false] <;> first | rfl | assumption)) (Kw.of_ext j1), G, oa, D, os, ⟨(by first | assumption | (simp only [lk_lset, lk, ofString_inj, String.reduceEq, if_true, if_false] <;> first | rfl | assumption)), hO.g.ext j1, (by first | assumption | (simp only [lk_lset, lk, ofString_inj, String.reduceEq, if_true, if_false] <;> first | rfl | assumption)), j1 _ _ hO.ho, hO.pm, hO.nS⟩, (by first | assumption | (simp only [lk_lset, lk, ofString_inj, String.reduceEq, if_true, if_false] <;> first | rfl | assumption)), j2⟩
  clear hB hO hfc hfa
  intro l σa hL
  obtain ⟨S, ea, ma, m, E, M, hB, G, oa, da, os, hO, lda, hda⟩ := hL
  refine nba_step hr2 (Law10 L sc so) ?_ ?_
  · have hm1 := hB.hm1
    have hm8 := hB.hm8
    have lmm := hB.lm
    have lgg := hO.lg
    have loo := hO.lo
    have hol := os_length hO.pm
    have hVl : (os.map x7).length ≤ 900 := by rw [List.length_map]; omega
    have hsub := NN_sub hB.gE hO.pm
    have hlen : ∀ v, v ∈ os.map x7 → (NN E v).length ≤ 900 := fun v _ => Nat.le_trans (NN_len hB.gE hm8 v) (by decide)
    have hdl : (duel m E os).length ≤ os.length := List.length_filter_le ..
    refine ns_if ?_
    refine nt_bool ?_
    refine nor_cons (nx_of ?_)
    refine vt_cmp ?_
    refine ve_call_g (x := "center") g_center kp_center ?_
    refine vl_cons ?_
    refine ve_local (by first | assumption | (simp only [lk_lset, lk, ofString_inj, String.reduceEq, if_true, if_false] <;> first | rfl | assumption)) ?_
    refine vl_nil ?_
    refine fn_center hO.g hsub (x7_nodup (os_nodup hO.pm)) hVl hlen fun σ1 Lc e1 hLc => ?_
    refine ve_listcomp [] (by dsimp only; (repeat (first | refine (closA_skip (by rfl)).trans ?_ | refine (closA_free (by assumption)).trans ?_)); rfl) ?_
    refine ve_local (by first | assumption | (simp only [lk_lset, lk, ofString_inj, String.reduceEq, if_true, if_false] <;> first | rfl | assumption)) ?_
    refine vit_list (e1 _ _ hda) ?_
    intro D0 C cenv hD hC hce hE2
    have k_v := kc_same hce (x := "v") (k := .local) rfl (by decide)
    clear hce
    refine spec_list (fun j l2 σ2 => Ext σ1 σ2 ∧ σ2.f D0 = some (.list ((((duel m E os).take j).map x7).map .int))) (fun j l2 σ2 hJ => hJ.1 _ _ (e1 _ _ hda)) ⟨?_, ?_⟩ (fun j v l2 σ2 hJ hj hv => ?_) (fun l2 σ2 hJ => ?_)
    · exact (Ext.ins hD).trans (pushA_ext _ hC.succ)
    · exact pushA_ext _ hC.succ _ _ (ins_self hD)
    · obtain ⟨j1, j2⟩ := hJ
      obtain ⟨x, ex, rfl⟩ := ints_get hv
      have hxm : x ∈ os := (List.mem_filter.mp (List.mem_of_getElem? ex)).1
      have hxr := (os_mem hO.pm).mp hxm
      refine va_local ?_
      refine vy_bodyL0 ?_
      refine ve_int op_mul ?_
      refine ve_const_int ?_
      refine ve_local (by first | assumption | (simp only [lk_lset, lk, ofString_inj, String.reduceEq, if_true, if_false] <;> first | rfl | assumption)) ?_
      refine ⟨_, _, rfl, rfl, IntMulOk.of_right (intBits_le_64 (by omega) (by omega)), ?_⟩
      refine ⟨_, j2, by rw [List.length_map, List.length_map, List.length_take]; omega, j1.upd hD.none, ?_⟩
      rw [take_snoc ex, List.map_append, List.map_append]
      exact upd_at
    obtain ⟨j1, j2⟩ := hJ
    rw [List.length_map, List.take_length] at j2
    refine vo_ne_ints (j1 _ _ hLc) j2 ?_
    rw [center_eq hB.gE hO.pm]
    refine vtr_bool ?_
    rw [if_neg (by simp [beqL])]
    have e2 := e1.trans j1
    have hB2 := hB.kp lmm (Kw.of_ext e2)
    have g2 := hO.g.ext e2
    obtain ⟨v0, hv0⟩ : ∃ v0, (os.map x7)[0]? = some v0 := ⟨_, List.getElem?_eq_getElem (by rw [List.length_map]; omega)⟩
    refine nor_cons ?_
    refine nt_cmp ?_
    refine ne_call_g (x := "is_tree") g_is_tree kp_is_tree (nx_of ?_)
    refine vl_cons ?_
    refine ve_local (by first | assumption | (simp only [lk_lset, lk, ofString_inj, String.reduceEq, if_true, if_false] <;> first | rfl | assumption)) ?_
    refine vl_nil ?_
    refine fn_is_tree g2 (fun D h => by cases h) hB2.W.tb hsub (fun x hx => NN_irr hB.gE x) (x7_nodup (os_nodup hO.pm)) hVl hlen hv0 fun σ3 D d b v3 g3 hE3 hb => ?_
    have hbt := tree_iff hB.gE hO.pm hm1 (List.mem_of_getElem? hv0) hb
    have k3 := kp_tree g2 hE3
    have hB3 := hB2.kp lmm k3
    obtain ⟨es, hes, hep⟩ := hB3.EE.e
    have hel := hep.length
    have he28 := hB.gE.le28 hm8
    refine ve_cmp ?_
    refine ve_call_b (x := "len") b_len bb_len kb_len ?_
    refine vl_cons ?_
    refine ve_cell c_edges hB3.EE.c ?_
    refine vl_nil ?_
    refine vc_len_list hes (by omega) ?_
    refine ve_int op_sub ?_
    refine ve_cell c_many hB3.W.cm ?_
    refine ve_const_int ?_
    refine ⟨_, 1, rfl, rfl, trivial, ?_⟩
    refine vo_int_eq ?_
    rw [hel, hbt]
    refine vo_is_bool ?_
    refine vtr_bool ?_
    rw [if_neg (by simp)]
    refine nor_nil ?_
    rw [if_neg Bool.false_ne_true]
    refine nb_nil ?_
    exact ⟨rfl, S, ea, ma, m, E, M, hB3, G, oa, da, D, d, os, ⟨lgg, g3, loo, k3 _ _ (e2 _ _ hO.ho) rfl, hO.pm, hO.nS⟩, v3, lda, k3 _ _ (e2 _ _ hda) rfl⟩
  clear hB hO lda hda
  intro l σa hL
  obtain ⟨S, ea, ma, m, E, M, hB, G, oa, da, D, d, os, hO, v1, lda, hda⟩ := hL
  refine nba_step hr2 (Law11 L sc so) ?_ ?_
  · have hm1 := hB.hm1
    have hm8 := hB.hm8
    have lmm := hB.lm
    have lgg := hO.lg
    have loo := hO.lo
    have hol := os_length hO.pm
    have hVl : (os.map x7).length ≤ 900 := by rw [List.length_map]; omega
    have hsub := NN_sub hB.gE hO.pm
    have hlen : ∀ v, v ∈ os.map x7 → (NN E v).length ≤ 900 := fun v _ => Nat.le_trans (NN_len hB.gE hm8 v) (by decide)
    have hdl : (duel m E os).length ≤ os.length := List.length_filter_le ..
    obtain ⟨es, hes, hep⟩ := hB.EE.e
    have hel := hep.length
    have he28 := hB.gE.le28 hm8
    obtain ⟨v0, hv0⟩ : ∃ v0, (os.map x7)[0]? = some v0 := ⟨_, List.getElem?_eq_getElem (by rw [List.length_map]; omega)⟩
    refine ns_if (nx_of ?_)
    refine vt_cmp ?_
    refine ve_call_b (x := "len") b_len bb_len kb_len ?_
    refine vl_cons ?_
    refine ve_cell c_edges hB.EE.c ?_
    refine vl_nil ?_
    refine vc_len_list hes (by omega) ?_
    refine ve_int op_sub ?_
    refine ve_cell c_many hB.W.cm ?_
    refine ve_const_int ?_
    refine ⟨_, 1, rfl, rfl, trivial, ?_⟩
    refine vo_int_eq ?_
    refine vtr_bool ?_
    rw [hel]
    by_cases hE1 : (E.length : Int) = m - 1
    case neg =>
      rw [if_neg (by simpa using hE1)]
      exact nb_nil ⟨rfl, hB.W.sc, hB.W.tb⟩
    rw [if_pos (by simpa using hE1)]
    obtain ⟨k, tc⟩ := tree_center hB.gE hO.pm hm1 hE1
    have hd2 := due_len tc hO.pm
    refine nb_consV (vs_if ?_)
    refine vt_bool ?_
    refine vor_cons ?_
    refine vt_cmp ?_
    refine ve_call_b (x := "sorted") b_sorted bb_sorted kb_sorted ?_
    refine vl_cons ?_
    refine ve_local (by first | assumption | (simp only [lk_lset, lk, ofString_inj, String.reduceEq, if_true, if_false] <;> first | rfl | assumption)) ?_
    refine vl_nil ?_
    refine vc_sorted hda (by omega) fun sa ns' hsa hpm' hso => ?_
    have hns := due_sorted tc hO.pm hpm' hso
    subst hns
    have e1 := Ext.ins (o := .list ((peel (rngInts 0 m) E k).1.map .int)) hsa
    have hsa1 := ins_self (o := .list ((peel (rngInts 0 m) E k).1.map .int)) hsa
    generalize (σa.ins sa (.list ((peel (rngInts 0 m) E k).1.map .int))) = σ1 at e1 hsa1 ⊢
    refine ve_call_g (x := "_law_peeled") g__law_peeled kp__law_peeled ?_
    refine vl_cons ?_
    refine ve_cell c_many (e1 _ _ hB.W.cm) ?_
    refine vl_cons ?_
    refine ve_cell c_edges (e1 _ _ hB.EE.c) ?_
    refine vl_nil ?_
    refine law_peeled (e1 _ _ hes) (hep.of_ext e1) (by omega) (by omega) hm8 k tc.hk tc.hk2 fun σ2 pb e2 hpb => ?_
    refine vo_ne_ints (e2 _ _ hsa1) hpb ?_
    refine vtr_bool ?_
    rw [if_neg (by simp [beqL])]
    have e3 := e1.trans e2
    refine vor_cons ?_
    refine vt_cmp ?_
    refine ve_call_b (x := "len") b_len bb_len kb_len ?_
    refine vl_cons ?_
    refine ve_local (by first | assumption | (simp only [lk_lset, lk, ofString_inj, String.reduceEq, if_true, if_false] <;> first | rfl | assumption)) ?_
    refine vl_nil ?_
    refine vc_len_list (e3 _ _ hda) (by rw [List.length_map]; omega) ?_
    refine ve_const_int ?_
    refine vo_int_gt ?_
    refine vtr_bool ?_
    rw [List.length_map]
    rw [if_neg (by simp; omega)]
    refine vor_nil ?_
    rw [if_neg Bool.false_ne_true]
    refine vb_nil ?_
    refine nb_step (fun l' σ' => l' = l ∧ Ext σa σ') (ny_of ?_) ?_
    · refine vs_if ?_
      refine vt_bool ?_
      refine vand_cons ?_
      refine vt_cmp ?_
      refine ve_call_b (x := "len") b_len bb_len kb_len ?_
      refine vl_cons ?_
      refine ve_local (by first | assumption | (simp only [lk_lset, lk, ofString_inj, String.reduceEq, if_true, if_false] <;> first | rfl | assumption)) ?_
      refine vl_nil ?_
      refine vc_len_list (e3 _ _ hda) (by rw [List.length_map]; omega) ?_
      refine ve_const_int ?_
      refine vo_int_eq ?_
      refine vtr_bool ?_
      rw [List.length_map]
      by_cases h2 : (duel m E os).length = 2
      · rw [if_pos (by simp [h2])]
        refine vand_cons ?_
        refine vt_cmp ?_
        refine ve_tuple ?_
        refine vl_cons ?_
        refine ve_call_b (x := "min") b_min bb_min kb_min ?_
        refine vl_cons ?_
        refine ve_local (by first | assumption | (simp only [lk_lset, lk, ofString_inj, String.reduceEq, if_true, if_false] <;> first | rfl | assumption)) ?_
        refine vl_nil ?_
        have hne : duel m E os ≠ [] := fun q => by rw [q] at h2; cases h2
        refine vc_min_list (e3 _ _ hda) hne fun mn h3 h4 => ?_
        refine vl_cons ?_
        refine ve_call_b (x := "max") b_max bb_max kb_max ?_
        refine vl_cons ?_
        refine ve_local (by first | assumption | (simp only [lk_lset, lk, ofString_inj, String.reduceEq, if_true, if_false] <;> first | rfl | assumption)) ?_
        refine vl_nil ?_
        refine vc_max_list (e3 _ _ hda) hne fun mx h5 h6 => ?_
        refine vl_nil ⟨by simp, fun t ht => ?_⟩
        have e4 := e3.trans (Ext.ins (o := .tup [.int mn, .int mx]) ht)
        have htt := ins_self (o := .tup [.int mn, .int mx]) ht
        generalize (σ2.ins t (.tup [.int mn, .int mx])) = σ3 at e4 htt ⊢
        refine ve_cell c_edges (e4 _ _ hB.EE.c) ?_
        refine vo_notin_prs (e4 _ _ hes) (hep.of_ext e4) htt ?_
        refine vtr_bool ?_
        have hin := due_edge tc hO.pm h2 h3 h4 h5 h6
        rw [if_neg (by simpa using hin), if_neg Bool.false_ne_true]
        exact vb_nil ⟨rfl, rfl, e4⟩
      · rw [if_neg (by simp; omega), if_neg Bool.false_ne_true]
        exact vb_nil ⟨rfl, rfl, e3⟩
    intro l' σ3 h3
    obtain ⟨rfl, e4⟩ := h3
    clear e1 e2 e3 hsa1 hpb hsa hpm' hso
    refine nb_step (fun l' σ' => lk l' "graph" = some (.ref G.x) ∧ σ'.f sc = some (.raw so) ∧ σ'.f 613 = some .tab ∧ ∃ (G' : GA) (D' d' : Addr), G'.x = G.x ∧ GR σ' G' (os.map x7) (os.map x7) (NN E) (some D') ∧ VW σ' D' d' G'.ad) ?_ ?_
    · have hB3 := hB.kp lmm (Kw.of_ext e4)
      have g3 := hO.g.ext e4
      have v3 := v1.ext e4
      obtain ⟨ms, hms, hmp⟩ := hB3.mw
      have hml := hmp.length
      have hM64 := hB.mo.ln
      refine ns_if (nx_of ?_)
      refine vt_value ?_
      refine ve_local (by first | assumption | (simp only [lk_lset, lk, ofString_inj, String.reduceEq, if_true, if_false] <;> first | rfl | assumption)) ?_
      refine vtr_list hms (by omega) ?_
      by_cases hemp : ms = []
      · rw [if_neg (by simp [hemp])]
        exact nb_nil ⟨rfl, lgg, hB3.W.sc, hB3.W.tb, G, D, d, rfl, g3, v3⟩
      rw [if_pos (by simpa using hemp)]
      have hpos : 0 < ms.length := List.length_pos_iff.mpr hemp
      refine nb_consV (vs_assign_tup ?_)
      refine ve_sub ?_
      refine ve_local (by first | assumption | (simp only [lk_lset, lk, ofString_inj, String.reduceEq, if_true, if_false] <;> first | rfl | assumption)) ?_
      refine ve_next hB3.W k_s c_s ?_
      refine ve_call_b (x := "len") b_len bb_len kb_len ?_
      refine vl_cons ?_
      refine ve_local (by first | assumption | (simp only [lk_lset, lk, ofString_inj, String.reduceEq, if_true, if_false] <;> first | rfl | assumption)) ?_
      refine vl_nil ?_
      refine vc_len_list hms (by omega) ?_
      refine ⟨_, rfl, by omega, hB3.W, fun y r hy hr0 hr1 x hS W4 => ?_⟩
      have hms4 := upd_ne (o := .list [.int y]) hB3.hmS hms
      have hmp4 := hmp.upd (o' := .list [.int y]) hS (by intro xs q; cases q)
      have g4 := g3.upd (o' := .list [.int y]) hS rfl (fun q => by have e := g3.x; rw [← q, hS] at e; cases e)
      have v4 : VW (σ3.upd S (.list [.int y])) D d G.ad := ⟨upd_ne (ne_obj v3.x hS (by intro q; cases q)) v3.x, upd_ne (ne_obj v3.d hS (by intro q; cases q)) v3.d⟩
      generalize (σ3.upd S (.list [.int y])) = σ4 at hms4 hmp4 g4 v4 W4 ⊢
      have hlt : r.toNat < ms.length := by omega
      obtain ⟨t, p, hpe, hpv, hpt⟩ := hmp4.get (List.getElem?_eq_getElem hlt)
      have hpm2 := List.mem_of_getElem? hpe
      have hprg := hB.mo.rg p hpm2
      have hpni := hB.mo.ni p hpm2
      obtain ⟨pa, pb2⟩ := p
      dsimp only at hprg hpt
      refine vi_list_int hms4 hr0 (by omega) (List.getElem?_eq_getElem hlt) ?_
      rw [hpv]
      refine va_tup2 hpt ?_
      refine va_local ?_
      refine va_local ?_
      have ok := edge_ok_more hB.gE hm8 hO.pm hprg.1 hprg.2.1 hprg.2.2 hpni
      have pl := plus_of ok hsub (NN_irr hB.gE) (fun v => Nat.le_trans (NN_len hB.gE hm8 v) (by decide))
      refine nb_consV ?_
      refine vs_expr ?_ (hi := hi)
      refine ve_mcall ?_
      refine ve_local (by first | assumption | (simp only [lk_lset, lk, ofString_inj, String.reduceEq, if_true, if_false] <;> first | rfl | assumption)) ?_
      refine vm_fn pc_Graph g4.x g4.d ?_ m_add_edge mt_add_edge ?_
      · exact gns_none (by decide) (by decide) (by decide) (by decide)
      refine ⟨keep_ref mk_add_edge, ?_⟩
      refine vl_cons ?_
      refine ve_int op_mul ?_
      refine ve_const_int ?_
      refine ve_local (by first | assumption | (simp only [lk_lset, lk, ofString_inj, String.reduceEq, if_true, if_false] <;> first | rfl | assumption)) ?_
      refine ⟨_, _, rfl, rfl, IntMulOk.of_right (intBits_le_64 (by omega) (by omega)), ?_⟩
      refine vl_cons ?_
      refine ve_int op_mul ?_
      refine ve_const_int ?_
      refine ve_local (by first | assumption | (simp only [lk_lset, lk, ofString_inj, String.reduceEq, if_true, if_false] <;> first | rfl | assumption)) ?_
      refine ⟨_, _, rfl, rfl, IntMulOk.of_right (intBits_le_64 (by omega) (by omega)), ?_⟩
      refine vl_nil ?_
      refine law_add_edge g4 ok hVl fun σ5 G5 hx5 k5 g5 => ?_
      refine ⟨(by intro a q; cases q), ?_⟩
      have v5 := v4.kp k5
      rw [← same_ad g4 k5 hx5 g5] at v5
      have sc5 := k5 _ _ W4.sc rfl
      have tb5 := k5 _ _ W4.tb rfl
      refine nb_cons ?_
      refine ns_if ?_
      refine nt_value ?_
      refine ne_call_g (x := "is_tree") g_is_tree kp_is_tree (nx_of ?_)
      refine vl_cons ?_
      refine ve_local (by first | assumption | (simp only [lk_lset, lk, ofString_inj, String.reduceEq, if_true, if_false] <;> first | rfl | assumption)) ?_
      refine vl_nil ?_
      rw [← hx5]
      refine fn_is_tree g5 (fun D2 h => by cases h; exact ⟨d, v5⟩) tb5 pl.sub (fun x _ => pl.irr x) (x7_nodup (os_nodup hO.pm)) hVl (fun v _ => pl.len v) hv0 fun σ6 D6 d6 b6 v6 g6 hE6 hb6 => ?_
      have hbf := not_tree_more hB.gE hO.pm hm1 hE1 ok.a ok.b hb6
      subst hbf
      refine vtr_bool ?_
      rw [if_neg Bool.false_ne_true]
      refine nb_nil ?_
      have sc6 := hE6 _ _ (ne_obj sc5 g5.d (by intro q; cases q)) sc5
      have tb6 := hE6 _ _ (ne_obj tb5 g5.d (by intro q; cases q)) tb5
      refine nb_consV ?_
      refine vs_expr ?_ (hi := hi)
      refine ve_mcall ?_
      refine ve_local (by first | assumption | (simp only [lk_lset, lk, ofString_inj, String.reduceEq, if_true, if_false] <;> first | rfl | assumption)) ?_
      rw [← hx5]
      refine vm_fn pc_Graph g6.x g6.d ?_ m_remove_edge mt_remove_edge ?_
      · exact gns_none (by decide) (by decide) (by decide) (by decide)
      refine ⟨keep_ref mk_remove_edge, ?_⟩
      refine vl_cons ?_
      refine ve_int op_mul ?_
      refine ve_const_int ?_
      refine ve_local (by first | assumption | (simp only [lk_lset, lk, ofString_inj, String.reduceEq, if_true, if_false] <;> first | rfl | assumption)) ?_
      refine ⟨_, _, rfl, rfl, IntMulOk.of_right (intBits_le_64 (by omega) (by omega)), ?_⟩
      refine vl_cons ?_
      refine ve_int op_mul ?_
      refine ve_const_int ?_
      refine ve_local (by first | assumption | (simp only [lk_lset, lk, ofString_inj, String.reduceEq, if_true, if_false] <;> first | rfl | assumption)) ?_
      refine ⟨_, _, rfl, rfl, IntMulOk.of_right (intBits_le_64 (by omega) (by omega)), ?_⟩
      refine vl_nil ?_
      refine fn_remove_edge g6 ok.a ok.b ok.ne pl.pq pl.qp hVl (pl.len _) (pl.len _) fun σ7 G7 hx7 k7 g7 => ?_
      refine ⟨(by intro a q; cases q), ?_⟩
      rw [pl.back] at g7
      have v7 := v6.kp k7
      rw [← same_ad g6 k7 hx7 g7] at v7
      exact nb_nil ⟨rfl, by rw [hx5]; exact (by first | assumption | (simp only [lk_lset, lk, ofString_inj, String.reduceEq, if_true, if_false] <;> first | rfl | assumption)), k7 _ _ sc6 rfl, k7 _ _ tb6 rfl, G7, D6, d6, hx7, g7, v7⟩
    intro l6 σ6 h6
    obtain ⟨lg6, sc6, tb6, G6, D6, d6, hx6, g6, v6⟩ := h6
    rw [← hx6] at lg6
    refine nb_consV ?_
    refine vs_expr ?_ (hi := hi)
    refine ve_mcall ?_
    refine ve_local (by first | assumption | (simp only [lk_lset, lk, ofString_inj, String.reduceEq, if_true, if_false] <;> first | rfl | assumption)) ?_
    refine vm_fn pc_Graph g6.x g6.d ?_ m_add_node mt_add_node ?_
    · exact gns_none (by decide) (by decide) (by decide) (by decide)
    refine ⟨keep_ref mk_add_node, ?_⟩
    refine vl_cons ?_
    refine ve_const_int ?_
    refine vl_nil ?_
    refine law_add_node g6 (five_new os) hVl fun σ7 G7 hx7 k7 g7 => ?_
    refine ⟨(by intro a q; cases q), ?_⟩
    have v7 := v6.kp k7
    rw [← same_ad g6 k7 hx7 g7] at v7
    have sc7 := k7 _ _ sc6 rfl
    have tb7 := k7 _ _ tb6 rfl
    refine nb_cons ?_
    refine ns_if ?_
    refine nt_value ?_
    refine ne_call_g (x := "is_tree") g_is_tree kp_is_tree (nx_of ?_)
    refine vl_cons ?_
    refine ve_local (by first | assumption | (simp only [lk_lset, lk, ofString_inj, String.reduceEq, if_true, if_false] <;> first | rfl | assumption)) ?_
    refine vl_nil ?_
    rw [← hx7]
    have hv07 : (os.map x7 ++ [5])[0]? = some v0 := by
      rw [List.getElem?_append_left (by rw [List.length_map]; omega)]
      exact hv0
    refine fn_is_tree g7 (fun D2 h => by cases h; exact ⟨d6, v7⟩) tb7 (fun v hv u hu => ?_) (fun x _ hx => ?_) ?_ (by rw [List.length_append, List.length_map]; simp; omega) (fun v _ => ?_) hv07 fun σ8 D8 d8 b8 v8 g8 hE8 hb8 => ?_
    · split at hu
      · cases hu
      · rename_i hv5
        rcases List.mem_append.mp hv with q | q
        · exact List.mem_append_left _ (hsub v q u hu)
        · exact absurd (List.mem_singleton.mp q) hv5
    · split at hx
      · cases hx
      · exact NN_irr hB.gE x hx
    · rw [List.nodup_append]
      refine ⟨x7_nodup (os_nodup hO.pm), by simp, fun a ha b hb q => ?_⟩
      rw [List.mem_singleton.mp hb] at q
      exact five_new os (q ▸ ha)
    · split
      · exact Nat.zero_le _
      · exact Nat.le_trans (NN_len hB.gE hm8 v) (by decide)
    have hbf := not_tree_five hB.gE hO.pm hm1 hE1 hb8
    subst hbf
    refine vtr_bool ?_
    rw [if_neg Bool.false_ne_true]
    refine nb_nil ?_
    refine nb_nil ?_
    exact ⟨rfl, hE8 _ _ (ne_obj sc7 g7.d (by intro q; cases q)) sc7, hE8 _ _ (ne_obj tb7 g7.d (by intro q; cases q)) tb7⟩
  clear hB hO v1 lda hda
  intro l σa hL
  obtain ⟨hsc, htb⟩ := hL
  refine nba_try (n := n + 4) hr2 hfr2 hfe hi g_is_tree kp_is_tree k_is_tree (by decide) g_NetworkXPointlessConcept k_NetworkXPointlessConcept (by decide) ?_ (fun σ2 hi2 h => h) (by rfl) (by rfl) (by rfl)
  refine ve_call_g (x := "Graph") g_Graph kp_Graph ?_
  refine vl_nil ?_
  refine fn_Graph fun σ1 G e1 g1 _ => ?_
  exact ⟨G, _, _, rfl, g1, fun σ2 e2 => ⟨rfl, e2 _ _ (e1 _ _ hsc), e2 _ _ (e1 _ _ htb)⟩⟩
end Mine
end
section
open PySem PySem.W PySem.Calls PyProof.Rows
set_option maxRecDepth 100000
set_option linter.unusedVariables false
set_option linter.unusedSimpArgs false
namespace Mine
theorem wp_guarded {M : Model} {A : Around} {f : Value} {vs : List Value} {Q : Value → Shared → Prop} {E : Value → Shared → Prop} {s : Shared} (h : wpN M A (call f vs) Q E s) (h2 : Q (.bool true) s) : wpAny M A (guarded f vs) Q E s := fun Γ p hΓ => by
  show Sem.wp _ Γ (if calmStack ((Γ.code, p) :: Γ.below) = true then _ else _) _ _ p s
  cases hc : calmStack ((Γ.code, p) :: Γ.below) with
  | false => rw [if_neg Bool.false_ne_true]; exact h2
  | true => rw [if_pos rfl]; exact h Γ p hΓ (nf_iff.mp hc)
theorem dropA_lookup {P : Addr} : ∀ {K : Frag} {a : Addr} {o : Obj}, (dropA P K).lookup a = some o → a ≠ P ∧ K.lookup a = some o
  | [], a, o, h => by cases h
  | (b, ob) :: K, a, o, h => by
    unfold dropA at h
    cases hb : Nat.beq b P with
    | true =>
      rw [hb] at h
      have h : (dropA P K).lookup a = some o := h
      obtain ⟨h1, h2⟩ := dropA_lookup h
      have e : b = P := Nat.eq_of_beq_eq_true hb
      refine ⟨h1, ?_⟩
      rw [List.lookup_cons]
      have : (a == b) = false := by rw [e]; simpa using h1
      rw [this]; exact h2
    | false =>
      rw [hb] at h
      have h : ((b, ob) :: dropA P K).lookup a = some o := h
      rw [List.lookup_cons] at h ⊢
      cases hab : a == b with
      | true =>
        rw [hab] at h
        have e : a = b := by simpa using hab
        refine ⟨fun q => ?_, h⟩
        have : b = P := e.symm.trans q
        rw [this, Nat.beq_refl] at hb
        cases hb
      | false =>
        rw [hab] at h
        exact dropA_lookup h
theorem lookup_mem : ∀ {K : Frag} {a : Addr} {o : Obj}, K.lookup a = some o → (a, o) ∈ K
  | [], a, o, h => by cases h
  | (b, ob) :: K, a, o, h => by
    rw [List.lookup_cons] at h
    cases hab : a == b with
    | true =>
      rw [hab] at h
      have e : a = b := by simpa using hab
      have h : some ob = some o := h
      cases h
      rw [e]; exact List.mem_cons_self ..
    | false => rw [hab] at h; exact List.mem_cons_of_mem _ (lookup_mem h)
theorem no_lists {w : World} : (KK w).all (fun p => p.2.cls != .type "list") = true := by kernel_rfl
theorem tab0 {w : World} : (hd.heap_39 w.params).lookup 613 = some { cls := .none, data := .fields #[] } := by kernel_rfl
theorem code0 {w : World} : ∃ o vs, (hd.heap_39 w.params).lookup 617 = some o ∧ o.cls = .type "code" ∧ o.data = .fields vs ∧ vs[11]? = some (.ref 613) := ⟨_, _, rfl, rfl, rfl, rfl⟩
theorem sysm0 {w : World} : ∃ o, (KK w).lookup sysModules = some o := ⟨_, rfl⟩
theorem nolim0 {w : World} : nsOkIn (KK w) cStatics = true ∧ nsIn (KK w) cStatics "sys.recursionlimit" = some none := ⟨by kernel_rfl, by kernel_rfl⟩
theorem glob0 {w : World} : nsOkIn (KK w) mainGlobals = true := by kernel_rfl
theorem notFreed_seq {o : Obj} {xs : Array Value} {n : Nat} (h : o.data = .seq xs n) : o.isFreed = false := by
  obtain ⟨a, b, d, e⟩ := o
  dsimp only at h
  subst h
  rfl
theorem same_tt : PySem.W.same (WData.bool true) (WData.bool true) = true := by simp [PySem.W.same]
theorem post_true (l : OpenLaw) (xs : List WData) : l.row.claim.post xs (WData.bool true) xs = true := by
  unfold OpenLaw.row RowW.claim
  dsimp only
  simp only [WTm.holds, WTm.value, WShape.has, WShape.arms, same_tt, List.any_cons, Bool.true_or, Bool.true_and]
theorem glue {w : World} {s₀ s₁ : Shared} {sc : Addr} {ns : List Int} {vs : List Value} {mb : Str → Option Value} (KX : (hd.heap_39 w.params).In s₁.heap) (hg : s₁.gens = #[]) (hb : s₁.heap.Ns builtinsNs mb) (hbt : ∀ x : Str, x ≠ "__name__" → mb x = bootBuiltins x)
    (hL : s₁.heap.IsList sc vs.toArray) (hI : IntsAre vs ns) (hlen : ns.length ≤ 63) :
    wpAny (model Challenge.rw_fq0019_01.row.prog w) callerA (guarded (.ref 709) [.ref sc])
      (fun v s' => GoodWG Challenge.rw_fq0019_01.row.claim (classAt s₀.heap) (ExcName.means s₀.heap) [ofPy (PyData.list (ns.map PyData.int))] s₁ (.ok (.ret v)) s')
      (fun e s' => GoodWG Challenge.rw_fq0019_01.row.claim (classAt s₀.heap) (ExcName.means s₀.heap) [ofPy (PyData.list (ns.map PyData.int))] s₁ (.error e) s') s₁ := by
  obtain ⟨so, hso, hcl, c, hdt⟩ := hL
  have ht0 := KX _ _ (tab0 (w := w))
  have hsc613 : sc ≠ 613 := fun q => by rw [q, ht0] at hso; cases hso; cases hcl
  have hKsc : ∀ o, (KK w).lookup sc = some o → False := fun o h => by
    have h1 := KX _ _ (dropA_lookup h).2
    rw [hso] at h1
    cases h1
    have := List.all_eq_true.mp (no_lists (w := w)) _ (lookup_mem h)
    dsimp only at this
    rw [hcl] at this
    simp at this
  obtain ⟨ob, es, ep, ho, hod, hok, hof⟩ := id hb
  have hsc0 : sc ≠ builtinsNs := fun q => by rw [q, ho] at hso; cases hso; rw [hod] at hdt; cases hdt
  have h0613 : builtinsNs ≠ 613 := by decide
  let B : Bs := ⟨fun b => if b = sc ∨ b = 613 then none else s₁.heap.get? b, fun _ => none, s₁.os⟩
  let σ : AS := ⟨fun a => if a = sc then some (.raw so) else if a = 613 then some .tab else none, s₁.heap.objs.size⟩
  have hBK : ∀ a o, (KK w).lookup a = some o → B.o a = some o := fun a o h => by
    have h1 := dropA_lookup h
    show (if a = sc ∨ a = 613 then none else s₁.heap.get? a) = some o
    rw [if_neg]
    · exact KX _ _ h1.2
    · rintro (q | q)
      · subst q; exact hKsc o h
      · exact h1.1 q
  have X : Base (KK w) B := ⟨hBK, ⟨ob, es, ep, by
    show (if builtinsNs = sc ∨ builtinsNs = 613 then none else s₁.heap.get? builtinsNs) = some ob
    rw [if_neg (by rintro (q | q); exact hsc0 q.symm; exact h0613 q)]
    exact ho, hod, hok, fun x hx => (hof x).trans (hbt x hx)⟩, nolim0, glob0, let ⟨o, h⟩ := sysm0 (w := w); ⟨o, hBK _ _ h⟩⟩
  have R : RepB w B σ s₁ := by
    refine ⟨fun b o e => ?_, fun a o e => ?_, fun a o e => ?_, fun a o e => ?_, Nat.le_refl _, rfl, ⟨fun i x e => (by cases e), fun x hx => (by rw [hg] at hx; simp at hx)⟩⟩
    · have e : (if b = sc ∨ b = 613 then none else s₁.heap.get? b) = some o := e
      split at e
      · cases e
      · exact e
    · have e : (if a = sc then some (AO.raw so) else if a = 613 then some .tab else none) = some o := e
      show (if a = sc ∨ a = 613 then none else s₁.heap.get? a) = none
      split at e
      · rename_i q; rw [if_pos (.inl q)]
      · split at e
        · rename_i q; rw [if_pos (.inr q)]
        · cases e
    · have e : (if a = sc then some (AO.raw so) else if a = 613 then some .tab else none) = some o := e
      split at e
      · rename_i q
        cases e
        exact ⟨so, q ▸ hso, rfl, notFreed_seq hdt⟩
      · split at e
        · rename_i q
          cases e
          exact ⟨_, q ▸ ht0, #[], rfl, trivial⟩
        · cases e
    · have e : (if a = sc then some (AO.raw so) else if a = 613 then some .tab else none) = some o := e
      split at e
      · rename_i q; rw [q]; exact Heap.lt_size hso
      · split at e
        · rename_i q; rw [q]; exact Heap.lt_size ht0
        · cases e
  have good : ∀ v σ' s', er v = .bool true → σ'.f sc = some (.raw so) → σ'.f 613 = some .tab → RepB w B σ' s' → GoodWG Challenge.rw_fq0019_01.row.claim (classAt s₀.heap) (ExcName.means s₀.heap) [ofPy (PyData.list (ns.map PyData.int))] s₁ (.ok (.ret v)) s' := by
    intro v σ' s' hv h1 h2 R'
    rw [er_bool hv]
    have hold : ∀ b o, s₁.heap.get? b = some o → (b = 613 ∧ ∃ ps, s'.heap.get? b = some { cls := .none, data := .fields ps }) ∨ s'.heap.get? b = some o := fun b o e => by
      by_cases q1 : b = sc
      · obtain ⟨ob', g1, g2, _⟩ := R'.objs sc _ h1
        rw [q1, hso] at e
        cases e
        rw [q1, g1, g2]; exact .inr rfl
      · by_cases q2 : b = 613
        · obtain ⟨ob', g1, ps, g2, _⟩ := R'.objs 613 _ h2
          exact .inl ⟨q2, ps, by rw [q2, g1, g2]⟩
        · refine .inr (R'.keep b o ?_)
          show (if b = sc ∨ b = 613 then none else s₁.heap.get? b) = some o
          rw [if_neg (by rintro (q | q); exact q1 q; exact q2 q)]
          exact e
    refine ⟨.inl ⟨.bool true, .bool true, [], rfl, fun _ => by rfl, .bool _, post_true _ _, fun _ => ⟨List.nodup_nil, fun a ha => by cases ha⟩⟩, ⟨fun b o e => ?_, fun b o e => ?_⟩, R'.os, R'.gens.2⟩
    · rcases hold b o e with ⟨q, ps, h⟩ | h
      · refine .inr (.inl ?_)
        subst q
        rw [ht0] at e
        cases e
        obtain ⟨oc, cv, c1, c2, c3, c4⟩ := code0 (w := w)
        exact ⟨⟨617, oc, cv, KX _ _ c1, c2, c3, c4⟩, rfl, #[], ps, rfl, by rw [h]; simp⟩
      · exact .inl h
    · rcases hold b o e with ⟨_, ps, h⟩ | h
      · exact ⟨_, h⟩
      · exact ⟨_, h⟩
  refine wp_guarded ?_ (good (.bool true) σ s₁ rfl (by show (if sc = sc then _ else _) = _; rw [if_pos rfl]) (by show (if 613 = sc then _ else if 613 = 613 then _ else _) = _; rw [if_neg (Ne.symm hsc613), if_pos rfl]) R)
  refine law_run (n := 0) (so := so) (items := vs.toArray) (c := c) (ns := ns) ⟨rfl, by decide, by decide⟩ rfl X R (by show (if sc = sc then _ else _) = _; rw [if_pos rfl]) hcl hdt (by rw [List.toList_toArray]; exact of_ints_are hI) (by unfold sizeLine; omega) (by show (if 613 = sc then _ else if 613 = 613 then _ else _) = _; rw [if_neg (Ne.symm hsc613), if_pos rfl]) rfl fun v σ' s' hv h1 h2 R' => good v σ' s' hv h1 h2 R'
end Mine
end
open PySem PySem.W PyProof.Rows
set_option maxRecDepth 100000 in
set_option maxHeartbeats 8000000 in
theorem PySem.Challenge.cw_fq0019_01_holds : PySem.Challenge.rw_fq0019_01.Holds :=
  Mine.hd (by
  w_on
  k_fill
  intro w s₀ s₁ mg mb G Y fa o pm cd doc dV kV ho hd hcd hD hmg hg args vals as hpre hlay hrd hwl hlo
  have KX := kIn_of Y
  have X := (Ground.X G).1
  have V := (Ground.X G).2
  refine Ground.open G ?_
  intro T B D TE TW
  wrow_args hpre hlay hrd hwl hlo
  all_goals (
    x_fa T KX hmg
    exact Mine.glue KX hg T.b T.builtins (by assumption) (by assumption) (by omega)))

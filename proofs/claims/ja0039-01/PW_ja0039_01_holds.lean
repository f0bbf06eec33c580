import PyProof.Rows.All
import KE.IntBitsLaws
import KE.KBoundM
import KE.KSlice
import KE.KLam
import KE.KEqSeq
import KE.KMinKey
import KE.KNestM
import KE.KOwnIter
import KE.KStar
import KE.KSuper
import KE.RegKSuper
import OpenK.XGo
import Wide.FinOn
import PySem.Challenge.RW_ja0039_01
namespace Sky
open PySem PySem.W PySem.W.X PySem.Calls PyProof.Rows
set_option Elab.async false
set_option maxRecDepth 100000
set_option compiler.extract_closed false
set_option linter.all false
set_option genInjectivity false
set_option genSizeOf false
section
local macro_rules | `(tactic| o_head $_H) => `(tactic| assumption)
set_option maxHeartbeats 0 in
theorem kHead (h : PySem.Challenge.rw_ja0039_01.row.Holds) : PySem.Challenge.rw_ja0039_01.row.Holds := by k_head
end
set_option maxHeartbeats 4000000
theorem fillHp : PySem.Challenge.rw_ja0039_01 = PySem.Challenge.rw_ja0039_01 ∧ kHead.heap_1 = kHead.heap_1 := by
  k_fill
  exact ⟨rfl, rfl⟩
noncomputable def Kept (h h' : Heap) : Prop := ∀ b o, h.get? b = some o → h'.get? b = some o
theorem nb1 {n i k : Nat} (h : n - i = k + 1) : n - 1 - k = i := by
  rw [Nat.eq_add_of_sub_eq (Nat.le_of_lt (Nat.lt_of_sub_eq_succ h)) h, Nat.sub_sub, Nat.add_comm 1 k, Nat.add_sub_cancel_left]
theorem nb2 {n i k : Nat} (h : n - i = k + 1) : n - (i + 1) = k := congrArg Nat.pred h
theorem nb5 {n i : Nat} (h : i < n) : n + 1 - (i + 1) < n + 1 - i := Nat.sub_lt_sub_left (Nat.lt_succ_of_lt h) (Nat.lt_succ_self i)
theorem nb6 {n j : Nat} (h : j < n) : n - j = n - j - 1 + 1 := (Nat.sub_add_cancel (Nat.sub_pos_of_lt h)).symm
theorem nb7 {a b j c : Nat} (e : a + j = b) (h : j < c - a) : b < c := e ▸ Nat.add_lt_of_lt_sub' h
theorem nb8 {a b c : Nat} (h : a ≤ b) (h' : b < c) : a + (c - a) = c := Nat.add_sub_of_le (Nat.le_of_lt (Nat.lt_of_le_of_lt h h'))
theorem nb9 {a b c : Nat} (h : a ≤ b) (h' : b ≤ c) : c - a + 1 = c + 1 - a := (Nat.succ_sub (Nat.le_trans h h')).symm
theorem nb10 {a b c n : Nat} (h : a ≤ b) (h' : b ≤ c) (h'' : c < n) : c - a < n - a := Nat.sub_lt_sub_right (Nat.le_trans h h') h''
theorem nb11 {a b c n : Nat} (h : a ≤ b) (h' : b ≤ c) (h'' : c < n) : a < n := Nat.lt_of_le_of_lt (Nat.le_trans h h') h''
theorem nb12 {a c j n : Nat} (h : j < min c (n - a)) : a + j < n := Nat.add_lt_of_lt_sub' (Nat.lt_of_lt_of_le h (Nat.min_le_right _ _))
theorem nb13 {i j : Nat} (h : i < j) : i + (j - i - 1) + 1 = j := by rw [Nat.sub_sub, Nat.add_assoc, Nat.add_comm _ 1, ← Nat.add_assoc]; exact Nat.add_sub_of_le h
noncomputable def upd (x : Str) (v : Value) (m : Str → Option Value) : Str → Option Value := fun y => if y = x then some v else m y
theorem Kept.refl (h : Heap) : Kept h h := fun _ _ e => e
theorem Kept.trans {a b c : Heap} (x : Kept a b) (y : Kept b c) : Kept a c := fun _ _ e => y _ _ (x _ _ e)

theorem InstAt.kept {h h' : Heap} {x C : Addr} {ox od : Obj} (I : InstAt h x ox C (some od)) (k : Kept h h') : InstAt h' x ox C (some od) := by
  obtain ⟨a, b, c, d⟩ := I
  refine ⟨k _ _ a, b, c, ?_⟩
  revert d
  cases ox.dict with
  | none => exact id
  | some dx => exact k _ _
/- an object of the class C at x, its attributes m -/
inductive NsZ (h : Heap) (a : Addr) (m : Str → Option Value) (z : Nat) : Prop
  | mk (o : _) (es : _) (ep : _) (f1 : h.get? a = some o) (f2 : o.data = .dict es ep) (f3 : StrKeys es) (f4 : (∀ name, nsFind es name = m name)) (f5 : es.size ≤ z) : NsZ h a m z
theorem NsZ.kept {h h' : Heap} {a : Addr} {m : Str → Option Value} {z : Nat} (N : NsZ h a m z) (k : Kept h h') : NsZ h' a m z := let ⟨o, es, ep, x, r, r2, r3, r4⟩ := N; ⟨o, es, ep, k _ _ x, r, r2, r3, r4⟩
theorem NsZ.ns {h : Heap} {a : Addr} {m : Str → Option Value} {z : Nat} (N : NsZ h a m z) : h.Ns a m := let ⟨o, es, ep, x, y, k, f, _⟩ := N; ⟨o, es, ep, x, y, k, f⟩
theorem nsSetZ {M : Model} {A : Around} {E : Value → Shared → Prop} {σh : Heap} {σg : Array GenState} {σd : Drawn} {σt : Nat} {σo : OsState} {a : Addr} {m : Str → Option Value} {z : Nat} {name : Str} {v : Value} {Q : Unit → Shared → Prop} (hn : NsZ σh a m z)
    (h : ∀ h', NsZ h' a (fun x => if x = name then some v else m x) (z + 1) → Heap.SameBut a σh h' → Q () ⟨h', σg, σd, σt + 1, σo⟩) : wpAny M A (nsSet a name v) Q E ⟨σh, σg, σd, σt, σo⟩ := by
  obtain ⟨o, es, ep, ho, hd, hk, hm, hz⟩ := hn
  unfold nsSet
  refine wpAny_bind (wpAny_bind (wpAny_askSetting (wpAny_pure (wpAny_bind (wpAny_mkText (wpAny_bind (wpAny_loadPart ho ?_)))))))
  have hany : es.any (·.refKey) = false := by
    rw [Array.any_eq_false']; intro e he; obtain ⟨n, t, h⟩ := hk e he; simp [DictEntry.refKey, h]
  simp only [hd, aRefKeyMayBeTheName_at, hany, Bool.and_false, Bool.false_eq_true, if_false]
  refine wpAny_updatePart ho (h _ ?_ (Heap.SameBut.update ..))
  obtain ⟨c, d, dt, sl⟩ := o
  subst hd
  cases hi : es.findIdx? (·.key.isStr name) with
  | some i =>
    refine ⟨_, _, ep, Heap.get?_update_self _ ho (by simp only [Obj.putName_eq, Obj.putNameByArray, hi]; rfl), by simp only [Obj.putName_eq, Obj.putNameByArray, hi]; rfl, hk.modify _ _, fun x => ?_, by rw [Array.size_modify]; (first | exact Nat.le_succ_of_le (by assumption) | lia)⟩
    show _ = if x = name then some v else m x
    rw [← hm]; exact findBy_modify (fun n v => v.isStr n) Value.isStr_inj es name x v i hi
  | none =>
    refine ⟨_, _, ep + 1, Heap.get?_update_self _ ho (by simp only [Obj.putName_eq, Obj.putNameByArray, hi]; rfl), by simp only [Obj.putName_eq, Obj.putNameByArray, hi]; rfl, hk.push _ _ _ _, fun x => ?_, by rw [Array.size_push]; (first | exact Nat.lt_succ_of_le (by assumption) | lia)⟩
    show _ = if x = name then some v else m x
    rw [← hm]
    exact findBy_push (fun n v => v.isStr n) es name x _ _ v (fun y => by
      show (name == y) = decide (y = name)
      by_cases q : name = y
      · subst q; simp
      · have : ¬ y = name := fun e => q e.symm
        simp [q, this]) hi
inductive Inst (h : Heap) (x C : Addr) (m : Str → Option Value) : Prop
  | mk (dx : _) (f1 : h.get? x = some (instObj C dx)) (f2 : NsZ h dx m 100) : Inst h x C m
theorem Inst.kept {h h' : Heap} {x C : Addr} {m : Str → Option Value} (I : Inst h x C m) (k : Kept h h') : Inst h' x C m := let ⟨dx, a, b⟩ := I; ⟨dx, k _ _ a, b.kept k⟩
theorem look_ns {h : Heap} {dx : Addr} {m : Str → Option Value} (N : h.Ns dx m) : ∃ o, h.get? dx = some o ∧ ∀ name, lookIn name o = some (m name) := by
  obtain ⟨o, es, ep, ho, hd, hs, hf⟩ := N
  refine ⟨o, ho, fun name => ?_⟩
  unfold lookIn
  rw [hd]
  try dsimp only
  rw [← hf name]
  unfold nsFind findBy
  rw [← Array.find?_toList]
  cases q : es.toList.find? (fun e => e.key.isStr name) with
  | some e => rfl
  | none =>
    have : es.toList.any (·.refKey) = false := by
      rw [List.any_eq_false]
      intro e he
      obtain ⟨n, t, hk⟩ := hs e (Array.mem_toList_iff.mp he)
      simp [DictEntry.refKey, hk]
    simp [this]
theorem Inst.at {h : Heap} {x C : Addr} {m : Str → Option Value} (I : Inst h x C m) : ∃ dx o, InstAt h x (instObj C dx) C (some o) ∧ ∀ name, lookIn name o = some (m name) :=
  let ⟨dx, a, b⟩ := I; let ⟨o, c, d⟩ := look_ns b.ns; ⟨dx, o, ⟨a, rfl, rfl, c⟩, d⟩

structure Wd (w : World) (h : Heap) : Prop where
  K : (kHead.heap_1 w.params).In h
  lim : h.NoLimit
  bi : ∃ mb, h.Ns builtinsNs mb ∧ ∀ x : Str, x ≠ "__name__" → mb x = bootBuiltins x
  md : ∃ ob, h.get? 4 = some ob ∧ ob.cls = .type "module" ∧ ob.dict = some builtinsNs ∧ ob.data = .plain
theorem Wd.keeps {w : World} {h h' : Heap} (W : Wd w h) (k : Kept h h') : Wd w h' :=
  ⟨fun a o e => k a o (W.K a o e), W.lim.keeps k, let ⟨mb, b, c⟩ := W.bi; ⟨mb, b.keeps k, c⟩, let ⟨o, a, r⟩ := W.md; ⟨o, k _ _ a, r⟩⟩

structure Fz (B : Heap) (L : Addr) (h : Heap) (m : Str → Option Value) : Prop where
  ns : h.Ns L m
  keep : Kept B h
  hid : B.get? L = none
theorem Fz.step {B h h' : Heap} {L : Addr} {m : Str → Option Value} (F : Fz B L h m) (k : Kept h h') : Fz B L h' m :=
  ⟨F.ns.keeps k, F.keep.trans k, F.hid⟩
theorem Fz.set {B h h' : Heap} {L : Addr} {m m' : Str → Option Value} (F : Fz B L h m) (hn : h'.Ns L m') (hs : Heap.SameBut L h h') : Fz B L h' m' :=
  ⟨hn, fun b o e => (hs.2 b (fun q => by have := F.hid; rw [← q, e] at this; cases this)).trans (F.keep b o e), F.hid⟩
theorem get?_size (h : Heap) : h.get? h.objs.size = none := by
  cases q : h.get? h.objs.size with
  | none => rfl
  | some o => exact absurd (Heap.lt_size q) (Nat.lt_irrefl _)

structure Ev (env : Env) (L : Addr) (names : List (Str × NameKind)) (cells : List (Str × Addr)) : Prop where
  k : env.scope.kind = .function
  L : env.locals = L
  g : env.globals = mainGlobals
  b : env.builtins = builtinsNs
  n : env.scope.names = names
  c : env.cells = cells
noncomputable def Rm (A : Around) (d u : Nat) : Prop := A.depth + d < recursionLimit ∧ A.units + u < cLine ∧ A.handled = none
theorem Rm.le {A : Around} {d u d' u' : Nat} (R : Rm A d u) (hd : d' ≤ d) (hu : u' ≤ u) : Rm A d' u' := ⟨by have := R.1; (first | lia | omega), by have := R.2.1; (first | lia | omega), R.2.2⟩
theorem Rm.deeper {A : Around} {d u : Nat} (R : Rm A (d + 1) (u + 3)) (env : Env) : Rm (A.deeper env) d u := ⟨by have := R.1; show A.depth + 1 + d < _; (first | lia | omega), by have := R.2.1; show A.units + 3 + u < _; (first | lia | omega), R.2.2⟩
theorem Rm.in1 {A : Around} {d u : Nat} (R : Rm A d (u + 1)) : Rm A.in1 d u := ⟨R.1, by have := R.2.1; show A.units + 1 + u < _; (first | lia | omega), R.2.2⟩

section
variable {prog : Program} {w : World} {A : Around} {E : Value → Shared → Prop} {s : Shared} {B : Heap} {L : Addr} {m : Str → Option Value} {env : Env} {names : List (Str × NameKind)} {cells : List (Str × Addr)}

theorem nm_local {x : Str} {pos : Pos} {v : Value} {Q : Value → Shared → Prop} (V : Ev env L names cells) (F : Fz B L s.heap m) (hl : (names.lookup x, x == ("__debug__" : Str)) = (some .local, false)) (hv : m x = some v) (h : Q v s)
     : wpAny (model prog w) A (eval (.Name x pos) env) Q E s :=
  wpAny_Name (wpAny_loadName_local V.k (by show env.scope.names.lookup x = _; rw [V.n]; exact (Prod.mk.inj hl).1) (V.L ▸ F.ns) hv h) (Prod.mk.inj hl).2

theorem st_local {σh : Heap} {σg : Array GenState} {σd : Drawn} {σt : Nat} {σo : OsState} {x : Str} {v : Value} {Q : Unit → Shared → Prop} (V : Ev env L names cells) (F : Fz B L σh m) (hl : names.lookup x = some .local)
    (h : ∀ h', Fz B L h' (upd x v m) → Q () ⟨h', σg, σd, σt + 1, σo⟩) : wpAny (model prog w) A (storeName env x v) Q E ⟨σh, σg, σd, σt, σo⟩ :=
  wpAny_storeName_local (by show env.scope.names.lookup x = _; rw [V.n]; exact hl) (V.L ▸ F.ns) (fun h' hn hs => h h' (F.set (V.L ▸ hn) (V.L ▸ hs))) (by rw [V.k]; rfl)

theorem ok_globals (P : Params) : nsOkIn (kHead.heap_1 P) mainGlobals = true := by kernel_rfl
theorem mg_K {h : Heap} (X : (kHead.heap_1 w.params).In h) : ∃ mg, h.Ns mainGlobals mg := ⟨_, .of_isNs (isNs_of_in X (ok_globals _))⟩

theorem nm_global {x : Str} {pos : Pos} {v : Value} {Q : Value → Shared → Prop} (F : Fz B L s.heap m) (W : Wd w B) (V : Ev env L names cells) (hl : (names.lookup x, x == ("__debug__" : Str)) = (some .globalImplicit, false))
    (e : nsIn (kHead.heap_1 w.params) mainGlobals x = some (some v)) (h : Q v s)  : wpAny (model prog w) A (eval (.Name x pos) env) Q E s := by
  obtain ⟨mg, G⟩ := mg_K W.K
  exact Calls.Name_function_global V.k (by show env.scope.names.lookup x = _; rw [V.n]; exact (Prod.mk.inj hl).1) (Calls.loadGlobal_global (env := env) (V.g ▸ G.keeps F.keep) (mg_of W.K G e) h) (Prod.mk.inj hl).2

noncomputable def bootL : List (Str × Value) := [("super", .type "super"), ("isinstance", .builtin "isinstance"), ("list", .type "list"), ("range", .type "range"), ("len", .builtin "len"), ("sorted", .builtin "sorted"), ("sum", .builtin "sum"), ("abs", .builtin "abs"), ("max", .builtin "max"), ("min", .builtin "min")]
theorem bootL_ok : (bootL.all fun p => decide (bootBuiltins p.1 = some p.2 ∧ p.1 ≠ "__name__" ∧ (p.1 == ("__debug__" : Str)) = false)) = true := by decide +kernel
theorem boot_of {x : Str} {v : Value} (h : bootL.lookup x = some v) : bootBuiltins x = some v ∧ x ≠ "__name__" ∧ (x == ("__debug__" : Str)) = false := by
  obtain ⟨a, b, e, -⟩ := List.lookup_eq_some_iff.mp h
  exact of_decide_eq_true (List.all_eq_true.mp bootL_ok (x, v) (e ▸ List.mem_append_right _ List.mem_cons_self))

theorem nm_builtin {x : Str} {pos : Pos} {v : Value} {Q : Value → Shared → Prop} (F : Fz B L s.heap m) (W : Wd w B) (V : Ev env L names cells) (hl : names.lookup x = some .globalImplicit)
    (e : nsIn (kHead.heap_1 w.params) mainGlobals x = some none) (hv : bootL.lookup x = some v) (h : Q v s)  :
    wpAny (model prog w) A (eval (.Name x pos) env) Q E s := by
  obtain ⟨mg, G⟩ := mg_K W.K
  obtain ⟨mb, b, c⟩ := W.bi
  exact Calls.Name_function_global V.k (by show env.scope.names.lookup x = _; rw [V.n]; exact hl) (Calls.loadGlobal_builtin (env := env) (V.g ▸ G.keeps F.keep) (mg_none_of W.K G e) (V.b ▸ b.keeps F.keep) ((c x (boot_of hv).2.1).trans (boot_of hv).1) h) (boot_of hv).2.2

noncomputable def retv : Flow → Value
  | .ret v => v
  | _ => .none

theorem code_fn {σh : Heap} {σg : Array GenState} {σd : Drawn} {σt : Nat} {σo : OsState} {f : Addr} {oc : Value} {od : Option Addr} {osl : Array (Option Value)} {fd : FuncData} {body : List Stmt} {pos : List Value} {kw : List (Str × Value)} {R : Result → Shared → Prop} {d u : Nat} (binds : List (Str × Value))
    (W : Wd w B) (k : Kept B σh) (Ro : Rm A (d + 1) (u + 3)) (ho : (kHead.heap_1 w.params).lookup f = some ⟨oc, od, .func fd, osl⟩) (hcd : codeIn (kHead.heap_1 w.params) fd.code fd.qualname = true) (hbody : fd.body = .stmts body) (hbind : BindsTo ⟨σh, σg, σd, σt, σo⟩ fd ⟨pos, kw⟩ binds)
    (hloc : (binds.all fun x => decide (fd.scope.names.lookup x.1 = some .local)) = true) (hcell : (fd.scope.names.all fun x => decide (x.2 ≠ .cell)) = true)
    (hco : fd.scope.isCoroutine = false) (hgen : fd.scope.isGenerator = false) (hk : fd.scope.kind = .function) (hg : fd.globals = mainGlobals) (hb : fd.builtins = builtinsNs)
    (h : ∀ A' L env h₁, Rm A' d u → Ev env L fd.scope.names fd.closure → Fz σh L h₁ (fun x => binds.reverse.lookup x) →
      wpAny (model prog w) A' (execs body env) (fun fl s' => R (.ok (.ret (retv fl))) s') (fun _ _ => False) ⟨h₁, σg, σd, σt + binds.length, σo⟩) :
    codeAny (model prog w) A (.call (.ref f) ⟨pos, kw⟩) R ⟨σh, σg, σd, σt, σo⟩ := by
  replace W := W.keeps k
  refine codeAny_call_def (by have := Ro.1; (first | lia | omega)) (W.K _ _ ho) rfl W.lim (codeRec_of W.K hcd) hbody hbind (fun x hx => of_decide_eq_true (List.all_eq_true.mp hcell x hx)) (fun x hx => of_decide_eq_true (List.all_eq_true.mp hloc x hx)) (fun h₀ hns hk₀ => ?_) hco hgen hk
  refine wpAny_mono (h _ _ (callEnv fd σh.objs.size f) h₀ (Ro.deeper _) ⟨hk, rfl, hg, hb, rfl, rfl⟩ ⟨hns, hk₀, get?_size _⟩) (fun fl s' q => ?_) fun _ _ x => x.elim
  cases fl <;> exact q

theorem callWith_b {id : String} {pos : Pos} {first : List Value} {e : Expr} {rest : List Expr} {Q : Value → Shared → Prop} (he : starEach (e :: rest) env = (false, eval e env) :: starEach rest env) (hplain : (backTo pos (starEach rest env)).any (·.1) = false)
    (h : wpAny (model prog w) A (spliced (backTo pos (starEach (e :: rest) env))) (fun vs s₁ => wpAny (model prog w) A (call (.builtin id) (first ++ vs)) Q E s₁) E s)
    :
    wpAny (model prog w) A (callWith pos (.builtin id) first (backTo pos (starEach (e :: rest) env)) []) Q E s := by
  rw [he] at h ⊢
  exact callWith_of (P := fun _ => True) (by show ((false || (backTo pos (starEach rest env)).any (·.1)) || false) = false; rw [hplain]; rfl) (fun _ _ => ⟨.machine, .inr (.inl rfl), Looks.of_pure rfl⟩)
    (evalArgs_plain (wpAny_mono h (fun _ _ z => ⟨trivial, z⟩) fun _ _ z => z))

theorem binds_eq {fd : FuncData} {args : Args} {binds : List (Str × Value)} (e : bindArgs fd args = pure binds) : BindsTo s fd args binds := fun _ _ _ _ q => by rw [e]; exact wpAny_pure q

theorem get_prop' {C p fget x : Addr} {mm : Str → Option Value} {name : Str} {rest : List Value} {expr : Bool} {Q : Value → Shared → Prop} {d u : Nat} (Ro : Rm A d (u + 1)) (W : Wd w B) (k : Kept B s.heap) (I : Inst B x C mm) (hg : plainGet (kHead.heap_1 w.params) C name = true) (hh : hasDictIn (kHead.heap_1 w.params) C = true)
    (ha : findIn (kHead.heap_1 w.params) (.ref C) name = some (some (.ref p))) (hn : specialIn (kHead.heap_1 w.params) (.ref p) "__get__" = some (some (.builtin "property.__get__"))) (ht : takesIn (kHead.heap_1 w.params) (.ref p) = some true)
    (hp : recIn (kHead.heap_1 w.params) p "property" = some (.ref fget :: rest))
    (h : ∀ A', Rm A' d u → codeAny (model prog w) A' (.call (.ref fget) ⟨[.ref x], []⟩) (fun r s' => match r with | .ok (.ret v) => handedIn v = true ∧ Q v s' | _ => False) { s with toks := s.toks + 1 }) :
    wpAny (model prog w) A (getAttr (.ref x) name expr) Q E s := by
  obtain ⟨dx, od, I, -⟩ := I.at
  refine get_bind (W.keeps k).K (InstAt.kept I k) (plainGet_of hg).1 (findObj_data (by obtain ⟨cd, hc, _⟩ := any_some hh; rw [hc]; rfl) ha hn ht) (plainGet_of hg).2 (wpAny_call (prop_get (s := { s with toks := s.toks + 1 }) (W.keeps k).K hp (codeAny_mono (h _ Ro.in1) fun r s' z => ?_)))
  match r, z with
  | .ok (.ret v), z =>
    show wpAny _ _ (handedOut v) _ _ _
    rw [handedOut_of z.1]; exact wpAny_pure z.2

theorem get_field {σh : Heap} {σg : Array GenState} {σd : Drawn} {σt : Nat} {σo : OsState} {x C : Addr} {mm : Str → Option Value} {name : Str} {v : Value} {expr : Bool} {Q : Value → Shared → Prop} (W : Wd w B) (k : Kept B σh) (I : Inst B x C mm) (hg : plainGet (kHead.heap_1 w.params) C name = true) (hh : hasDictIn (kHead.heap_1 w.params) C = true)
    (ha : findIn (kHead.heap_1 w.params) (.ref C) name = some none) (hl : mm name = some v) (hv : handedIn v = true) (h : Q v ⟨σh, σg, σd, σt + 1, σo⟩) : wpAny (model prog w) A (getAttr (.ref x) name expr) Q E ⟨σh, σg, σd, σt, σo⟩ := by
  obtain ⟨dx, o, I, n⟩ := I.at
  exact get_value (W.keeps k).K (InstAt.kept I k) (plainGet_of hg).1 (findObj_own hh ha rfl (by rw [n, hl])) hv h
theorem get_meth {C x f : Addr} {mm : Str → Option Value} {name : Str} {pl : Sem Bool} {Q : Value × List Value → Shared → Prop} (W : Wd w B) (k : Kept B s.heap) (I : Inst B x C mm) (hg : plainGet (kHead.heap_1 w.params) C name = true)
    (hf : findIn (kHead.heap_1 w.params) (.ref C) name = some (some (.ref f))) (ht : isFn (kHead.heap_1 w.params) (.ref f) = true) (hl : mm name = none) (h : Q (.ref f, [.ref x]) s) : wpAny (model prog w) A (getMethod (.ref x) name pl) Q E s := by
  obtain ⟨dx, o, I, n⟩ := I.at
  refine method_fn (W.keeps k).K (InstAt.kept I k) (plainGet_of hg).1 (plainGet_of hg).2 hf (beq_iff_eq.mp ht) ?_ h
  show (lookIn name o).map _ = _
  rw [n, hl]; rfl
end


/- a Point at p -/
inductive PtAt (h : Heap) (p : Addr) (x y : Int) : Prop
  | mk (m : _) (tx : _) (ty : _) (f1 : Inst h p 52 m) (f2 : m "x" = some (.int x tx)) (f3 : m "y" = some (.int y ty)) (f4 : ∀ n : Str, n ≠ "x" → n ≠ "y" → m n = none) : PtAt h p x y
/- an HSegment at a, from (x, y), l long -/
inductive SegAt (h : Heap) (a : Addr) (x y l : Int) : Prop
  | mk (m : _) (p : _) (q : _) (f1 : Inst h a 151 m) (f2 : m "start" = some (.ref p)) (f3 : m "end" = some (.ref q)) (f4 : PtAt h p x y) (f5 : PtAt h q (x + l) y) : SegAt h a x y l
theorem PtAt.kept {h h' : Heap} {p : Addr} {x y : Int} (P : PtAt h p x y) (k : Kept h h') : PtAt h' p x y :=
  let ⟨m, tx, ty, I, a, b, c⟩ := P; ⟨m, tx, ty, I.kept k, a, b, c⟩
theorem SegAt.kept {h h' : Heap} {a : Addr} {x y l : Int} (P : SegAt h a x y l) (k : Kept h h') : SegAt h' a x y l :=
  let ⟨m, p, q, I, a, b, P, Q⟩ := P; ⟨m, p, q, I.kept k, a, b, P.kept k, Q.kept k⟩

section
variable {prog : Program} {w : World} {A : Around} {E : Value → Shared → Prop} {s : Shared} {B : Heap}

/- a store into an object's own dict: the dict alone turns -/
theorem set_inst {x C dx : Addr} {mm : Str → Option Value} {z : Nat} {name : Str} {v : Value} {Q : Unit → Shared → Prop} (W : Wd w B) (k : Kept B s.heap) (hx : s.heap.get? x = some (instObj C dx)) (hN : NsZ s.heap dx mm z) (hz : z < 100)
    (hs : findIn (kHead.heap_1 w.params) (.ref C) "__setattr__" = some (some (.builtin "object.__setattr__"))) (hp : plainOver (kHead.heap_1 w.params) C = true) (ht : takerIn (kHead.heap_1 w.params) C name = some none) (hh : hasDictIn (kHead.heap_1 w.params) C = true)
    (h : ∀ h' tk, NsZ h' dx (fun y => if y = name then some v else mm y) (z + 1) → Heap.SameBut dx s.heap h' → Q () { s with heap := h', toks := tk }) : wpAny (model prog w) A (setAttr (.ref x) name v) Q E s := by
  replace W := W.keeps k
  obtain ⟨sh, sg, sd, st, so⟩ := s
  try dsimp only at hx hN W h
  obtain ⟨o, ho, hl⟩ := look_ns hN.ns
  have I : PySem.W.InstAt sh x (instObj C dx) C (some o) := ⟨hx, rfl, rfl, ho⟩
  refine set_plain W.K I hs (osa_open (s := ⟨sh, sg, sd, st + 1, so⟩) W.K I hp ht fun b => ?_)
  obtain ⟨cd, hc, hd'⟩ := any_some hh
  refine wpAny_bind (wpAny_pure (wpAny_bind (wpAny_bind (wpAny_loadPart (s := ⟨sh, sg, sd, st + 1, so⟩) hx (wpAny_bind ((looks_clsIn W.K hc).at ?_))))))
  rw [hd']
  refine wpAny_pure (a := some dx) (wpAny_bind (wpAny_pure (wpAny_bind (nsSetZ (σh := sh) (σg := sg) (σd := sd) (σt := st + 1) (σo := so) hN fun h' N hs' => ?_))))
  obtain ⟨o', es, ep, ho', hd'', r1, r2, r3⟩ := N
  exact wpAny_bind (wpAny_lookBehind ho' (by rw [hd'']; exact pastItsLine_dict (by rw [sizeLine_eq]; (first | lia | omega))) (wpAny_pure (h h' _ ⟨o', es, ep, ho', hd'', r1, r2, r3⟩ hs')))

theorem rm_type {d u : Nat} {C : Addr} {rest : List Value} {kw : List (Str × Value)} (R : Rm A (d + 1) (u + 6)) : Rm (A.under (.builtin "type.__call__" ⟨.ref C :: rest, kw⟩)) d u := by
  obtain ⟨a, b, c⟩ := R
  refine ⟨?_, ?_, c⟩
  · show A.depth + Code.weight _ + d < _
    have : Code.weight (.builtin "type.__call__" ⟨.ref C :: rest, kw⟩) = 1 := by rfl
    (first | lia | omega)
  · show A.units + Code.cUnits _ + u < _
    have : Code.cUnits (.builtin "type.__call__" ⟨.ref C :: rest, kw⟩) = 1 := by rfl
    (first | lia | omega)
/- a class called: its new object, the dict empty, then __init__ -/
theorem make_cls {C fI : Addr} {rest : List Value} {kw : List (Str × Value)} {R : Result → Shared → Prop} {d u : Nat} (Ro : Rm A (d + 1) (u + 6)) (W : Wd w B) (k : Kept B s.heap) (hm : makesIn (kHead.heap_1 w.params) C = true) (hi : findIn (kHead.heap_1 w.params) (.ref C) "__init__" = some (some (.ref fI)))
    (hf : isFn (kHead.heap_1 w.params) (.ref fI) = true)
    (h : ∀ A' x dx h', Rm A' d u → Kept s.heap h' → s.heap.get? x = none → s.heap.get? dx = none → dx ≠ x → h'.get? x = some (instObj C dx) → NsZ h' dx (fun _ => none) 0 →
      codeAny (model prog w) A' (.call (.ref fI) ⟨.ref x :: rest, kw⟩) (InitBack x R) { s with heap := h' }) :
    codeAny (model prog w) A (.call (.ref C) ⟨rest, kw⟩) R s := by
  replace W := W.keeps k
  obtain ⟨hh, g, dr, t, os⟩ := s
  have e1 : (hh.push emptyDict).get? hh.objs.size = some emptyDict := Heap.get?_push_size _ rfl
  have e2 : ((hh.push emptyDict).push (instObj C hh.objs.size)).get? (hh.objs.size + 1) = some (instObj C hh.objs.size) := by
    have := Heap.get?_push_size (hh.push emptyDict) (o := instObj C hh.objs.size) rfl
    rwa [Heap.size_push] at this
  refine make_core (makes_of W.K hm) (looks_findIn W.K hi) (fun self => bind_fn W.K self (beq_iff_eq.mp hf)) (.inl rfl) (h _ _ hh.objs.size _ (rm_type Ro) (fun b o e => Heap.get?_push_of_some _ (Heap.get?_push_of_some _ e)) ?_ (get?_size _) (Nat.ne_of_lt (Nat.lt_succ_self _)) e2 ?_)
  · cases q : Heap.get? hh (hh.objs.size + 1) with
    | none => rfl
    | some o => exact absurd (Heap.lt_size q) (Nat.not_lt.mpr (Nat.le_succ _))
  · exact ⟨emptyDict, #[], 0, Heap.get?_push_of_some _ e1, rfl, (fun e he => by simp at he), fun _ => rfl, Nat.le_refl _⟩
end

theorem Fz.weaken {B B' h : Heap} {L : Addr} {m : Str → Option Value} (F : Fz B L h m) (k : Kept B' B) : Fz B' L h m :=
  ⟨F.ns, k.trans F.keep, by cases q : B'.get? L with | none => rfl | some o => have := k _ _ q; rw [F.hid] at this; cases this⟩
theorem Fz.ne {B h : Heap} {L q : Addr} {m : Str → Option Value} (F : Fz B L h m) (n : h.get? q = none) : q ≠ L := by
  obtain ⟨o, es, ep, ho, r⟩ := F.ns
  intro e; rw [e, ho] at n; cases n
theorem Fz.other {B h h' : Heap} {L dx : Addr} {m : Str → Option Value} (F : Fz B L h m) (hs : Heap.SameBut dx h h') (hL : dx ≠ L) (hB : B.get? dx = none) : Fz B L h' m := by
  obtain ⟨o, es, ep, ho, r⟩ := F.ns
  exact ⟨⟨o, es, ep, (hs.2 _ (Ne.symm hL)).trans ho, r⟩, fun b o' e => (hs.2 b (fun q => by rw [q, hB] at e; cases e)).trans (F.keep b o' e), F.hid⟩
theorem NsZ.le {h : Heap} {a : Addr} {m : Str → Option Value} {z z' : Nat} (N : NsZ h a m z) (l : z ≤ z') : NsZ h a m z' := let ⟨o, es, ep, x, y, r, f, q⟩ := N; ⟨o, es, ep, x, y, r, f, Nat.le_trans q l⟩
theorem NsZ.ne {h : Heap} {a b : Addr} {m : Str → Option Value} {z : Nat} (N : NsZ h a m z) (n : h.get? b = none) : a ≠ b := by
  obtain ⟨o, es, ep, x, r⟩ := N
  intro q; rw [q, n] at x; cases x
theorem ne_of_get {h : Heap} {a b : Addr} {o : Obj} (e : h.get? a = some o) (n : h.get? b = none) : a ≠ b := fun q => by rw [q, n] at e; cases e

section
variable {prog : Program} {w : World} {A : Around} {E : Value → Shared → Prop} {s : Shared} {B : Heap} {L : Addr} {m : Str → Option Value} {env : Env}
/- a store into an object that the base does not hold -/
theorem set_new {σh : Heap} {σg : Array GenState} {σd : Drawn} {σt : Nat} {σo : OsState} {x C dx : Addr} {mm : Str → Option Value} {z : Nat} {name : Str} {v : Value} {Q : Unit → Shared → Prop} (F : Fz B L σh m) (W : Wd w B) (hx : σh.get? x = some (instObj C dx)) (hN : NsZ σh dx mm z) (hB : B.get? dx = none) (hL : dx ≠ L) (hxd : x ≠ dx) (hz : z < 100)
    (hs : findIn (kHead.heap_1 w.params) (.ref C) "__setattr__" = some (some (.builtin "object.__setattr__"))) (hp : plainOver (kHead.heap_1 w.params) C = true) (ht : takerIn (kHead.heap_1 w.params) C name = some none) (hh : hasDictIn (kHead.heap_1 w.params) C = true)
    (h : ∀ h' tk, Fz B L h' m → h'.get? x = some (instObj C dx) → NsZ h' dx (fun y => if y = name then some v else mm y) (z + 1) → Heap.SameBut dx σh h' → Q () ⟨h', σg, σd, tk, σo⟩) : wpAny (model prog w) A (setAttr (.ref x) name v) Q E ⟨σh, σg, σd, σt, σo⟩ :=
  set_inst W F.keep hx hN hz hs hp ht hh fun h' tk N sb => h h' tk (F.other sb hL hB) ((sb.2 _ hxd).trans hx) N sb

theorem callWith_f {f : Addr} {pos : Pos} {first : List Value} {e : Expr} {rest : List Expr} {Q : Value → Shared → Prop} (W : Wd w B) (hk : keepIn (kHead.heap_1 w.params) (.ref f) = true)
    (he : starEach (e :: rest) env = (false, eval e env) :: starEach rest env) (hplain : (backTo pos (starEach rest env)).any (·.1) = false)
    (h : wpAny (model prog w) A (spliced (backTo pos (starEach (e :: rest) env))) (fun vs s₁ => Kept B s₁.heap ∧ wpAny (model prog w) A (call (.ref f) (first ++ vs)) Q E s₁) E s)
    :
    wpAny (model prog w) A (callWith pos (.ref f) first (backTo pos (starEach (e :: rest) env)) []) Q E s :=
  callWith_K (h₀ := B) W.K hk (wpAny_mono h (fun _ _ z => ⟨(W.keeps z.1).K, z.2⟩) fun _ _ z => z) he hplain
theorem callWith_f0 {f : Addr} {pos : Pos} {first : List Value} {Q : Value → Shared → Prop} (W : Wd w B) (k : Kept B s.heap) (hk : keepIn (kHead.heap_1 w.params) (.ref f) = true)
    (h : wpAny (model prog w) A (call (.ref f) (first ++ [])) Q E s) : wpAny (model prog w) A (callWith pos (.ref f) first (backTo pos (starEach [] env)) []) Q E s :=
  callWith_K0 (W.keeps k).K hk h
theorem callWith_bm {id : String} {pos : Pos} {first : List Value} {e : PySem.Expr} {rest : List PySem.Expr} {Q : Value → Shared → Prop} (he : starEach (e :: rest) env = (false, eval e env) :: starEach rest env) (hplain : (backTo pos (starEach rest env)).any (·.1) = false)
    (h : wpAny (model prog w) A (spliced (backTo pos (starEach (e :: rest) env))) (fun vs s₁ => wpAny (model prog w) A (call (.builtin id) (first ++ vs)) Q E s₁) E s)
    :
    wpAny (model prog w) A (callWith pos (.builtin id) first (backTo pos (starEach (e :: rest) env)) (backToKw pos (keywordEach [] env))) Q E s := callWith_b he hplain h
theorem callWith_fm {f : Addr} {pos : Pos} {first : List Value} {e : PySem.Expr} {rest : List PySem.Expr} {Q : Value → Shared → Prop} (W : Wd w B) (hk : keepIn (kHead.heap_1 w.params) (.ref f) = true)
    (he : starEach (e :: rest) env = (false, eval e env) :: starEach rest env) (hplain : (backTo pos (starEach rest env)).any (·.1) = false)
    (h : wpAny (model prog w) A (spliced (backTo pos (starEach (e :: rest) env))) (fun vs s₁ => Kept B s₁.heap ∧ wpAny (model prog w) A (call (.ref f) (first ++ vs)) Q E s₁) E s)
    :
    wpAny (model prog w) A (callWith pos (.ref f) first (backTo pos (starEach (e :: rest) env)) (backToKw pos (keywordEach [] env))) Q E s := callWith_f W hk he hplain h
theorem callWith_fm0 {f : Addr} {pos : Pos} {first : List Value} {Q : Value → Shared → Prop} (W : Wd w B) (k : Kept B s.heap) (hk : keepIn (kHead.heap_1 w.params) (.ref f) = true)
    (h : wpAny (model prog w) A (call (.ref f) (first ++ [])) Q E s) : wpAny (model prog w) A (callWith pos (.ref f) first (backTo pos (starEach [] env)) (backToKw pos (keywordEach [] env))) Q E s :=
  callWith_f0 W k hk h
theorem isinst {C : Addr} {v : Value} {Q : Value → Shared → Prop} {t : Value} (W : Wd w B) (k : Kept B s.heap) (ht : ∀ M, Looks M s.heap (typeOf v) t) (e : isIn (kHead.heap_1 w.params) t C = true) (hx : v ≠ .builtin "__main__.__loader__#opaque") (h : Q (.bool true) s) :
    wpAny (model prog w) A (call (.builtin "isinstance") [v, .ref C]) Q E s := isi_call (W.keeps k).K ht e hx h
theorem Inst.type {h : Heap} {x C : Addr} {mm : Str → Option Value} (I : Inst h x C mm) (M : Model) : Looks M h (typeOf (.ref x)) (.ref C) := let ⟨_, _, I, _⟩ := I.at; I.type
end

theorem PtAt.type {h : Heap} {p : Addr} {x y : Int} (P : PtAt h p x y) (M : Model) : Looks M h (typeOf (.ref p)) (.ref 52) := let ⟨_, _, _, I, _, _, _⟩ := P; I.type M

theorem Inst.ne_dict {h : Heap} {x C dx : Addr} {m mm : Str → Option Value} {z : Nat} (I : Inst h x C m) (N : NsZ h dx mm z) : x ≠ dx := by
  obtain ⟨d, hx, -⟩ := I
  obtain ⟨o, es, ep, ho, hd', -⟩ := N
  intro e; rw [← e, hx] at ho; cases ho; cases hd'
theorem Inst.but {h h' : Heap} {x C dx : Addr} {m mm : Str → Option Value} {z : Nat} {n : Str} (I : Inst h x C m) (N : NsZ h dx mm z) (hn : mm n ≠ m n) (k : ∀ b o, b ≠ dx → h.get? b = some o → h'.get? b = some o) : Inst h' x C m := by
  have hne := I.ne_dict N
  obtain ⟨d, hx, o, es, ep, ho, r1, r2, r3, r4⟩ := I
  refine ⟨d, k _ _ hne hx, o, es, ep, k _ _ ?_ ho, r1, r2, r3, r4⟩
  rintro rfl
  obtain ⟨o', es', ep', ho', s1, s2, s3, s4⟩ := N
  rw [ho] at ho'; cases ho'
  rw [r1] at s1; cases s1
  exact hn ((s3 n).symm.trans (r3 n))
theorem PtAt.but {h h' : Heap} {p dx : Addr} {x y : Int} {mm : Str → Option Value} {z : Nat} (P : PtAt h p x y) (N : NsZ h dx mm z) (hn : mm "x" = none) (k : ∀ b o, b ≠ dx → h.get? b = some o → h'.get? b = some o) : PtAt h' p x y :=
  let ⟨m, tx, ty, I, a, b, c⟩ := P; ⟨m, tx, ty, I.but (n := "x") N (by rw [hn, a]; simp) k, a, b, c⟩
/- a Rectangle at r, its dict at dx -/
inductive RectAt (h : Heap) (r dx : Addr) (x y w l : Int) (rid : Value) : Prop
  | mk (f1 : h.get? r = some (instObj 300 dx)) (m : _) (tx : _) (ty : _) (tw : _) (tl : _) (f2 : NsZ h dx m 90) (f3 : m "x" = some (.int x tx)) (f4 : m "y" = some (.int y ty)) (f5 : m "width" = some (.int w tw)) (f6 : m "height" = some (.int l tl)) (f7 : m "rid" = some rid) (f8 : m "start" = none) : RectAt h r dx x y w l rid
theorem RectAt.kept {h h' : Heap} {r dx : Addr} {x y w l : Int} {rid : Value} (P : RectAt h r dx x y w l rid) (k : Kept h h') : RectAt h' r dx x y w l rid :=
  let ⟨a, m, tx, ty, tw, tl, N, b1, b2, b3, b4, b5, b6⟩ := P; ⟨k _ _ a, m, tx, ty, tw, tl, N.kept k, b1, b2, b3, b4, b5, b6⟩

/- what comes behind a statement -/
noncomputable def Next (M : Model) (A : Around) (E : Value → Shared → Prop) (env : Env) (rest : List Stmt) (Q Q' : Flow → Shared → Prop) : Prop :=
  ∀ f s', (match f with | .next => wpAny M A (execs rest env) Q E s' | f => Q f s') → Q' f s'
theorem Next.go {M : Model} {A : Around} {E : Value → Shared → Prop} {env : Env} {rest : List Stmt} {Q Q' : Flow → Shared → Prop} {f : Flow} {s' : Shared} (p : Next M A E env rest Q Q')
    (x : match f with | .next => wpAny M A (execs rest env) Q E s' | f => Q f s') : Q' f s' := p f s' x
theorem Next.next {M : Model} {A : Around} {E : Value → Shared → Prop} {env : Env} {rest : List Stmt} {Q Q' : Flow → Shared → Prop} {s' : Shared} (p : Next M A E env rest Q Q') (x : wpAny M A (execs rest env) Q E s') : Q' .next s' := p .next s' x
theorem Next.ret {M : Model} {A : Around} {E : Value → Shared → Prop} {env : Env} {rest : List Stmt} {Q Q' : Flow → Shared → Prop} {v : Value} {s' : Shared} (p : Next M A E env rest Q Q') (x : Q (.ret v) s') : Q' (.ret v) s' := p _ s' x
theorem Next.cont {M : Model} {A : Around} {E : Value → Shared → Prop} {env : Env} {rest : List Stmt} {Q Q' : Flow → Shared → Prop} {s' : Shared} (p : Next M A E env rest Q Q') (x : Q .cont s') : Q' .cont s' := p .cont s' x
theorem Next.brk {M : Model} {A : Around} {E : Value → Shared → Prop} {env : Env} {rest : List Stmt} {Q Q' : Flow → Shared → Prop} {s' : Shared} (p : Next M A E env rest Q Q') (x : Q .brk s') : Q' .brk s' := p .brk s' x
theorem execs_consG {M : Model} {A : Around} {E : Value → Shared → Prop} {env : Env} {s : Shared} {st : Stmt} {rest : List Stmt} {Q : Flow → Shared → Prop}
    (h : ∀ Q', Next M A E env rest Q Q' → wpAny M A (exec st env) Q' E s) : wpAny M A (execs (st :: rest) env) Q E s := wpAny_execs_cons (h _ fun _ _ x => x)
noncomputable def IfK (M : Model) (A : Around) (E : Value → Shared → Prop) (env : Env) (body orelse : List Stmt) (Q : Flow → Shared → Prop) (Qb : Bool → Shared → Prop) : Prop :=
  ∀ b s', (if b = true then wpAny M A (execs body env) Q E s' else wpAny M A (execs orelse env) Q E s') → Qb b s'
theorem IfK.go {M : Model} {A : Around} {E : Value → Shared → Prop} {env : Env} {body orelse : List Stmt} {Q : Flow → Shared → Prop} {Qb : Bool → Shared → Prop} {b : Bool} {s' : Shared} (p : IfK M A E env body orelse Q Qb) (x : if b = true then wpAny M A (execs body env) Q E s' else wpAny M A (execs orelse env) Q E s') : Qb b s' := p b s' x
theorem ifG {M : Model} {A : Around} {E : Value → Shared → Prop} {env : Env} {s : Shared} {test : PySem.Expr} {body orelse : List Stmt} {pos : Pos} {Q : Flow → Shared → Prop} (h : ∀ Qb, IfK M A E env body orelse Q Qb → wpAny M A (PySem.isTrue test env (eval test env)) Qb E s) : wpAny M A (exec (.If test body orelse pos) env) Q E s := wpAny_If (h _ fun _ _ x => x)
noncomputable def AsK (M : Model) (A : Around) (E : Value → Shared → Prop) (env : Env) (x : Str) (Q : Flow → Shared → Prop) (Qv : Value → Shared → Prop) : Prop := ∀ v s', wpAny M A (storeName env x v) (fun _ => Q .next) E s' → Qv v s'
theorem AsK.go {M : Model} {A : Around} {E : Value → Shared → Prop} {env : Env} {x : Str} {Q : Flow → Shared → Prop} {Qv : Value → Shared → Prop} {v : Value} {s' : Shared} (p : AsK M A E env x Q Qv) (h : wpAny M A (storeName env x v) (fun _ => Q .next) E s') : Qv v s' := p v s' h
theorem asgG {M : Model} {A : Around} {E : Value → Shared → Prop} {env : Env} {s : Shared} {x : Str} {value : PySem.Expr} {pos pos' : Pos} {Q : Flow → Shared → Prop} (h : ∀ Qv, AsK M A E env x Q Qv → wpAny M A (eval value env) Qv E s) (hs : swapsWith value (some (.Name x pos')) pos.line env = pure false) : wpAny M A (exec (.Assign [.Name x pos'] value pos) env) Q E s := wpAny_Assign_Name (h _ fun _ _ x => x) hs
theorem ite_t {p q : Prop} (h : p) : (if true = true then p else q) := h
theorem ite_f {p q : Prop} (h : q) : (if false = true then p else q) := h
theorem ite_dt {P p q : Prop} [Decidable P] (c : P) (h : p) : (if decide P = true then p else q) := by rw [decide_eq_true c]; exact h
theorem ite_df {P p q : Prop} [Decidable P] (c : ¬ P) (h : q) : (if decide P = true then p else q) := by rw [decide_eq_false c]; exact h
theorem ite_ndt {P p q : Prop} [Decidable P] (c : P) (h : q) : (if (!decide P) = true then p else q) := by rw [decide_eq_true c]; exact h
theorem ite_ndf {P p q : Prop} [Decidable P] (c : ¬ P) (h : p) : (if (!decide P) = true then p else q) := by rw [decide_eq_false c]; exact h
theorem ite_nf {p q : Prop} (h : p) : (if (!false) = true then p else q) := h
theorem ite_nt {p q : Prop} (h : q) : (if (!true) = true then p else q) := h
theorem ite_et {a b : Int} {p q : Prop} (c : a = b) (h : p) : (if (a == b) = true then p else q) := by rw [if_pos (by rw [c]; exact beq_self_eq_true b)]; exact h
theorem ite_ef {a b : Int} {p q : Prop} (c : ¬ a = b) (h : q) : (if (a == b) = true then p else q) := by rw [if_neg (by simpa using c)]; exact h
theorem ite_net {a b : Int} {p q : Prop} (c : ¬ a = b) (h : p) : (if (a != b) = true then p else q) := by rw [if_pos (by simpa using c)]; exact h
theorem ite_nef {a b : Int} {p q : Prop} (c : a = b) (h : q) : (if (a != b) = true then p else q) := by rw [if_neg (by simpa using c)]; exact h
theorem ite_e {a b : Int} {p q : Prop} (h1 : a = b → p) (h2 : ¬ a = b → q) : (if (a == b) = true then p else q) := by
  by_cases c : a = b
  · exact ite_et c (h1 c)
  · exact ite_ef c (h2 c)
theorem ite_ne {a b : Int} {p q : Prop} (h1 : ¬ a = b → p) (h2 : a = b → q) : (if (a != b) = true then p else q) := by
  by_cases c : a = b
  · exact ite_nef c (h2 c)
  · exact ite_net c (h1 c)
theorem ite_d {P p q : Prop} [Decidable P] (h1 : P → p) (h2 : ¬ P → q) : (if decide P = true then p else q) := by
  by_cases c : P
  · rw [decide_eq_true c]; exact h1 c
  · rw [decide_eq_false c]; exact h2 c
theorem ite_b {b : Bool} {p q : Prop} (h1 : b = true → p) (h2 : b = false → q) : (if b = true then p else q) := by
  cases b
  · exact h2 rfl
  · exact h1 rfl
theorem Fz.but {B h h' : Heap} {L dx : Addr} {m : Str → Option Value} (F : Fz B L h m) (k : ∀ b o, b ≠ dx → h.get? b = some o → h'.get? b = some o) (hL : dx ≠ L) (hB : B.get? dx = none) : Fz B L h' m := by
  obtain ⟨o, es, ep, ho, r⟩ := F.ns
  exact ⟨⟨o, es, ep, k _ _ (Ne.symm hL) ho, r⟩, fun b o' e => k b o' (fun q => by rw [q, hB] at e; cases e) (F.keep b o' e), F.hid⟩
theorem Fz.rebase {B h : Heap} {L : Addr} {m : Str → Option Value} (F : Fz B L h m) (Hs : List Addr) (hn : ∀ x ∈ Hs, B.get? x = none) :
    ∃ B', Fz B' L h m ∧ Kept B B' ∧ (∀ b o, h.get? b = some o → b ≠ L → b ∉ Hs → B'.get? b = some o) ∧ ∀ x ∈ Hs, B'.get? x = none := by
  refine ⟨hideAll h (L :: Hs), ⟨F.ns, fun b o e => of_hideAll _ e, hideAll_none _ (.head _)⟩, fun b o e => hideAll_get _ (F.keep b o e) fun q => ?_, fun b o e n1 n2 => hideAll_get _ e fun q => ?_, fun x hx => hideAll_none _ (.tail _ hx)⟩
  · rcases List.mem_cons.mp q with rfl | q
    · rw [F.hid] at e; cases e
    · rw [hn _ q] at e; cases e
  · rcases List.mem_cons.mp q with rfl | q
    · exact n1 rfl
    · exact n2 q

/- dx is no part of the written world -/
noncomputable def Free (w : World) (h : Heap) (dx : Addr) : Prop := ∃ B, Wd w B ∧ Kept B h ∧ B.get? dx = none
inductive Hid (w : World) (h : Heap) (dx : Addr) : Prop
  | mk (B : Heap) (W : Wd w B) (k : Kept B h) (n : B.get? dx = none) (back : ∀ b o, b ≠ dx → h.get? b = some o → B.get? b = some o) : Hid w h dx
theorem Free.hide {w : World} {h : Heap} {dx : Addr} (f : Free w h dx) : Hid w h dx := by
  obtain ⟨B, W, k, n⟩ := f
  refine ⟨hideAll h [dx], W.keeps fun b o e => hideAll_get _ (k b o e) fun q => ?_, fun b o e => of_hideAll _ e, hideAll_none _ (.head _), fun b o nb e => hideAll_get _ e fun q => ?_⟩
  · rw [List.mem_singleton.mp q, n] at e; cases e
  · exact nb (List.mem_singleton.mp q)

abbrev superObj (D x C : Addr) : Obj := { cls := .type "super", dict := none, data := .fields #[.ref D, .ref x, .ref C], slots := #[] }
section
variable {prog : Program} {w : World} {A : Around} {E : Value → Shared → Prop} {s : Shared} {B : Heap} {L : Addr} {m : Str → Option Value} {env : Env}
theorem ex_Expr {names : List (Str × NameKind)} {cells : List (Str × Addr)} {e : PySem.Expr} {pos : Pos} {Q : Flow → Shared → Prop} (V : Ev env L names cells) (h : wpAny (model prog w) A (eval e env) (fun _ => Q .next) E s)
    (hs : swapsWith e none pos.line env = pure false := by rfl) : wpAny (model prog w) A (exec (.Expr e pos) env) Q E s :=
  wpAny_Expr_any h (by unfold interactive; rw [V.k]; rfl) hs
theorem callWith_nb {f : Value} {pos : Pos} {first : List Value} {e : Expr} {rest : List Expr} {Q : Value → Shared → Prop} (hf : keeperOf f = pure .machine) (he : starEach (e :: rest) env = (false, eval e env) :: starEach rest env) (hplain : (backTo pos (starEach rest env)).any (·.1) = false)
    (h : wpAny (model prog w) A (spliced (backTo pos (starEach (e :: rest) env))) (fun vs s₁ => wpAny (model prog w) A (call f (first ++ vs)) Q E s₁) E s)
    :
    wpAny (model prog w) A (callWith pos f first (backTo pos (starEach (e :: rest) env)) []) Q E s := by
  rw [he] at h ⊢
  exact callWith_of (P := fun _ => True) (by show ((false || (backTo pos (starEach rest env)).any (·.1)) || false) = false; rw [hplain]; rfl) (fun _ _ => ⟨.machine, .inr (.inl rfl), Looks.of_pure hf⟩)
    (evalArgs_plain (wpAny_mono h (fun _ _ z => ⟨trivial, z⟩) fun _ _ z => z))
theorem mk_super {D x C dx : Addr} {oc : Value} {od : Option Addr} {cd : ClassData} {osl : Array (Option Value)} {Q : Value → Shared → Prop} (W : Wd w B) (k : Kept B s.heap) (hx : s.heap.get? x = some (instObj C dx))
    (hD : (kHead.heap_1 w.params).lookup D = some ⟨oc, od, .cls cd, osl⟩) (hs : subIn (kHead.heap_1 w.params) (.ref C) (.ref D) = some true)
    (h : ∀ so h', Kept s.heap h' → s.heap.get? so = none → h'.get? so = some (superObj D x C) → Q (.ref so) { s with heap := h' }) : wpAny (model prog w) A (call (.type "super") [.ref D, .ref x]) Q E s := by
  have X := (W.keeps k).K
  obtain ⟨sh, sg, sd, st, so⟩ := s
  exact ks_wpAny_call_super (X _ _ hD) rfl hx rfl (fun c q => by cases q) (looks_subIn X hs) fun h' e k' => h _ h' k' (get?_size _) e
theorem no_party {h : Heap} {M : Model} {C : Addr} (X : (kHead.heap_1 w.params).In h) : Looks M h (opaqueClassAbove (.ref C)) none := looks_opaque X (by kernel_rfl)
theorem super_meth {D x C dx so f2 : Addr} {name : Str} {pl : Sem Bool} {od : Option Addr} {fd : Data} {osl : Array (Option Value)} {Q : Value × List Value → Shared → Prop} (W : Wd w B) (k : Kept B s.heap) (hso : s.heap.get? so = some (superObj D x C)) (hx : s.heap.get? x = some (instObj C dx))
    (hm : ks_superIn (kHead.heap_1 w.params) C D name = some (some (.ref f2))) (ho : (kHead.heap_1 w.params).lookup f2 = some ⟨.type "function", od, fd, osl⟩) (hc : isClsIn (kHead.heap_1 w.params) C = true) (hn : (name == ("__class__" : Str)) = false)
    (h : ∀ q h' tk, Kept s.heap h' → s.heap.get? q = none → h'.get? q = some (methodObj (.ref f2) (.ref x)) → Q (.ref q, []) { s with heap := h', toks := tk }) : wpAny (model prog w) A (getMethod (.ref so) name pl) Q E s := by
  have X := (W.keeps k).K
  obtain ⟨sh, sg, sd, st, sos⟩ := s
  unfold isClsIn at hc
  obtain ⟨cd, hcd⟩ := Option.isSome_iff_exists.mp hc
  have hxC : x ≠ C := by
    intro q
    unfold clsIn at hcd
    split at hcd
    · rename_i hk
      have := X _ _ hk
      try dsimp only at hx
      rw [← q, hx] at this
      cases this
    · cases hcd
  unfold ks_superIn at hm
  rw [hcd] at hm
  refine ks_wpAny_getMethod_super hso (no_party X) (l₀ := cd.mro) (fun A Q E s k q => wpAny_bind ((looks_clsIn X hcd) A _ E s k (wpAny_pure q))) rfl X hm (X _ _ ho) rfl hxC hn ?_
  exact h _ _ _ (fun b o e => Heap.get?_push_of_some _ e) (get?_size _) (Heap.get?_push_size _ rfl)
theorem callWith_m {q g : Addr} {self : Value} {pos : Pos} {e : Expr} {rest : List Expr} {first : List Value} {Q : Value → Shared → Prop} (W : Wd w B) (hq : B.get? q = some (methodObj (.ref g) self)) (hf : fnIn (kHead.heap_1 w.params) g = true)
    (h : wpAny (model prog w) A (spliced (backTo pos (starEach (e :: rest) env))) (fun vs s₁ => Kept B s₁.heap ∧ codeAny (model prog w) A (.call (.ref g) ⟨self :: (first ++ vs), []⟩) (fun r s' => match r with | .ok (.ret v) => Q v s' | .ok _ => False | .error e => E e s') s₁) E s)
    (he : starEach (e :: rest) env = (false, eval e env) :: starEach rest env := by rfl) (hplain : (backTo pos (starEach rest env)).any (·.1) = false := by rfl) :
    wpAny (model prog w) A (callWith pos (.ref q) first (backTo pos (starEach (e :: rest) env)) []) Q E s := by
  rw [he] at h ⊢
  refine callWith_of (P := fun h => MethP (kHead.heap_1 w.params) q g self h) (by show ((false || (backTo pos (starEach rest env)).any (·.1)) || false) = false; rw [hplain]; rfl) (keeps_M hf) (evalArgs_plain (wpAny_mono h (fun vs s₁ z => ⟨⟨z.1 _ _ hq, (W.keeps z.1).K⟩, ?_⟩) fun _ _ z => z))
  exact wpAny_call (method_call (z.1 _ _ hq) z.2)
theorem callWith_m0 {q g : Addr} {self : Value} {pos : Pos} {first : List Value} {Q : Value → Shared → Prop} (W : Wd w B) (k : Kept B s.heap) (hq : s.heap.get? q = some (methodObj (.ref g) self)) (hf : fnIn (kHead.heap_1 w.params) g = true)
    (h : codeAny (model prog w) A (.call (.ref g) ⟨self :: (first ++ []), []⟩) (fun r s' => match r with | .ok (.ret v) => Q v s' | .ok _ => False | .error e => E e s') s) :
    wpAny (model prog w) A (callWith pos (.ref q) first (backTo pos (starEach [] env)) []) Q E s :=
  callWith_of (P := fun h => MethP (kHead.heap_1 w.params) q g self h) rfl (keeps_M hf) (evalArgs_nil3 ⟨⟨hq, (W.keeps k).K⟩, wpAny_call (method_call hq h)⟩)

theorem isi_no_nested {C : Addr} {n : Int} {u : Tok} {dep : Int} {tk : Tok} {Q : Fin → Shared → Prop} {K : Frag} (X : K.In s.heap) (e0 : isClsIn K C = true) (e1 : typeIn K (.ref C) = some (.type "type")) (e2 : instIn K (.ref C) (.type "type") = some true) (e3 : subIn K (.type "int") (.ref C) = some false)
    (h : ∀ tk, Q (.done (.ret (.bool false))) { s with toks := tk }) : wpAny (model prog w) A (Builtin.«isinstance.nested» ⟨[.int n u, .ref C, .int dep tk], []⟩) Q E s := by
  obtain ⟨hh, g, d, tt, os⟩ := s
  have ht : Looks (model prog w) hh (typeOf (.int n u)) (.type "int") := Looks.of_pure rfl
  unfold Builtin.«isinstance.nested»
  refine wpAny_bind (ht.at ?_)
  have hne : (Value.type "int" == Value.ref C) = false := rfl
  rw [hne]
  simp only [Bool.false_eq_true, if_false]
  have L1 := looks_typeIn (M := model prog w) X e1
  have L2 := looks_instIn (M := model prog w) X e2
  have L4 : Looks (model prog w) hh (isSubtype (.type "int") (.ref C)) false := looks_subIn X e3
  have L3 : Looks (model prog w) hh (isInstance (.int n u) (.ref C)) false := ht.andThen L4
  refine wpAny_bind (L1.at ?_)
  rw [if_pos (by decide)]
  k_delta "plainIsInstance"
  unfold isType
  unfold isClsIn clsIn at e0
  split at e0
  · rename_i hk
    refine wpAny_bind (wpAny_bind (wpAny_bind (nd_load (X _ _ hk) (nd_pure (wpAny_pure ?_)))))
    simp only [Bool.not_true, Bool.false_eq_true, if_false]
    refine wpAny_bind (L3.at ?_)
    simp only [Bool.false_eq_true, if_false]
    refine wpAny_bind (class_attr_int ?_)
    refine wpAny_bind (wpAny_pure ?_)
    simp only [Bool.not_true, Bool.false_eq_true, if_false]
    refine wpAny_bind (wpAny_rule (L4.at (wpAny_pure (h _))))
  · cases e0
theorem isi_no {C : Addr} {n : Int} {u : Tok} {Q : Value → Shared → Prop} (W : Wd w B) (k : Kept B s.heap) (e0 : isClsIn (kHead.heap_1 w.params) C = true) (e1 : typeIn (kHead.heap_1 w.params) (.ref C) = some (.type "type")) (e2 : instIn (kHead.heap_1 w.params) (.ref C) (.type "type") = some true)
    (e3 : subIn (kHead.heap_1 w.params) (.type "int") (.ref C) = some false) (h : ∀ tk, Q (.bool false) { s with toks := tk }) : wpAny (model prog w) A (call (.builtin "isinstance") [.int n u, .ref C]) Q E s :=
  call_isinstance (S := fun _ R s => (kHead.heap_1 w.params).In s.heap ∧ ∀ tk, R (.ok (.ret (.bool false))) { s with toks := tk }) (fun _ _ _ _ _ hs => isinstance_outer (isi_no_nested hs.1 e0 e1 e2 e3 hs.2) (by intro q; cases q)) ⟨(W.keeps k).K, h⟩
end
theorem callWith_bn {prog : Program} {w : World} {A : Around} {E : Value → Shared → Prop} {s : Shared} {env : Env} {pos : Pos} {e : PySem.Expr} {rest : List PySem.Expr} {Q : Value → Shared → Prop} {id : String}  (he : starEach (e :: rest) env = (false, eval e env) :: starEach rest env) (hplain : (backTo pos (starEach rest env)).any (·.1) = false)
    (h : wpAny (model prog w) A (spliced (backTo pos (starEach (e :: rest) env))) (fun vs s₁ => wpAny (model prog w) A (call (.builtin id) vs) Q E s₁) E s) : wpAny (model prog w) A (callWith pos (.builtin id) [] (backTo pos (starEach (e :: rest) env)) []) Q E s := callWith_b he hplain h
theorem callWith_bm1 {prog : Program} {w : World} {A : Around} {E : Value → Shared → Prop} {s : Shared} {env : Env} {pos : Pos} {e : PySem.Expr} {rest : List PySem.Expr} {Q : Value → Shared → Prop} {id : String} {x0 : Value}  (he : starEach (e :: rest) env = (false, eval e env) :: starEach rest env) (hplain : (backTo pos (starEach rest env)).any (·.1) = false)
    (h : wpAny (model prog w) A (spliced (backTo pos (starEach (e :: rest) env))) (fun vs s₁ => wpAny (model prog w) A (call (.builtin id) (x0 :: vs)) Q E s₁) E s) : wpAny (model prog w) A (callWith pos (.builtin id) [x0] (backTo pos (starEach (e :: rest) env)) (backToKw pos (keywordEach [] env))) Q E s := callWith_bm he hplain h
theorem callWith_nbn {prog : Program} {w : World} {A : Around} {E : Value → Shared → Prop} {s : Shared} {env : Env} {pos : Pos} {e : PySem.Expr} {rest : List PySem.Expr} {Q : Value → Shared → Prop} {f : Value} (hf : keeperOf f = pure .machine) (he : starEach (e :: rest) env = (false, eval e env) :: starEach rest env) (hplain : (backTo pos (starEach rest env)).any (·.1) = false)
    (h : wpAny (model prog w) A (spliced (backTo pos (starEach (e :: rest) env))) (fun vs s₁ => wpAny (model prog w) A (call f vs) Q E s₁) E s) : wpAny (model prog w) A (callWith pos f [] (backTo pos (starEach (e :: rest) env)) []) Q E s := callWith_nb hf he hplain h
theorem callWith_fn {prog : Program} {w : World} {A : Around} {E : Value → Shared → Prop} {s : Shared} {env : Env} {pos : Pos} {e : PySem.Expr} {rest : List PySem.Expr} {Q : Value → Shared → Prop} {f : Addr} {B : Heap} (W : Wd w B) (hk : keepIn (kHead.heap_1 w.params) (.ref f) = true) (he : starEach (e :: rest) env = (false, eval e env) :: starEach rest env) (hplain : (backTo pos (starEach rest env)).any (·.1) = false)
    (h : wpAny (model prog w) A (spliced (backTo pos (starEach (e :: rest) env))) (fun vs s₁ => Kept B s₁.heap ∧ wpAny (model prog w) A (call (.ref f) vs) Q E s₁) E s) : wpAny (model prog w) A (callWith pos (.ref f) [] (backTo pos (starEach (e :: rest) env)) []) Q E s := callWith_f W hk he hplain h
theorem callWith_fm1 {prog : Program} {w : World} {A : Around} {E : Value → Shared → Prop} {s : Shared} {env : Env} {pos : Pos} {e : PySem.Expr} {rest : List PySem.Expr} {Q : Value → Shared → Prop} {f : Addr} {B : Heap} {x0 : Value} (W : Wd w B) (hk : keepIn (kHead.heap_1 w.params) (.ref f) = true) (he : starEach (e :: rest) env = (false, eval e env) :: starEach rest env) (hplain : (backTo pos (starEach rest env)).any (·.1) = false)
    (h : wpAny (model prog w) A (spliced (backTo pos (starEach (e :: rest) env))) (fun vs s₁ => Kept B s₁.heap ∧ wpAny (model prog w) A (call (.ref f) (x0 :: vs)) Q E s₁) E s) : wpAny (model prog w) A (callWith pos (.ref f) [x0] (backTo pos (starEach (e :: rest) env)) (backToKw pos (keywordEach [] env))) Q E s := callWith_fm W hk he hplain h
theorem tv_call {M : Model} {A : Around} {E : Value → Shared → Prop} {s : Shared} {env : Env} {f : PySem.Expr} {args : List PySem.Expr} {kws : List Keyword} {pos : Pos} {whole : Sem Value} {Q : Bool → Shared → Prop} (h : wpAny M A whole (fun v s₁ => wpAny M A (truthy v) Q E s₁) E s) : wpAny M A (PySem.isTrue (.Call f args kws pos) env whole) Q E s := wpAny_isTrue_value h
theorem tv_attr {M : Model} {A : Around} {E : Value → Shared → Prop} {s : Shared} {env : Env} {o : PySem.Expr} {a : Str} {pos : Pos} {whole : Sem Value} {Q : Bool → Shared → Prop} (h : wpAny M A whole (fun v s₁ => wpAny M A (truthy v) Q E s₁) E s) : wpAny M A (PySem.isTrue (.Attribute o a pos) env whole) Q E s := wpAny_isTrue_value h
theorem tv_name {M : Model} {A : Around} {E : Value → Shared → Prop} {s : Shared} {env : Env} {a : Str} {pos : Pos} {whole : Sem Value} {Q : Bool → Shared → Prop} (h : wpAny M A whole (fun v s₁ => wpAny M A (truthy v) Q E s₁) E s) : wpAny M A (PySem.isTrue (.Name a pos) env whole) Q E s := wpAny_isTrue_value h
theorem kand_ {h h' : Heap} {q : Prop} (k : Kept h h') (x : q) : Kept h h' ∧ q := ⟨k, x⟩
theorem c_int {M : Model} {A : Around} {E : Value → Shared → Prop} {σh : Heap} {σg : Array GenState} {σd : Drawn} {σt : Nat} {σo : OsState} {env : Env} {i k pos} {Q : Value → Shared → Prop} (h : Q (.int i σt) ⟨σh, σg, σd, σt + 1, σo⟩) : wpAny M A (eval (.Constant (.int i) k pos) env) Q E ⟨σh, σg, σd, σt, σo⟩ := wpAny_Constant_int h
theorem a_int {prog : Program} {w : World} {A : Around} {E : Value → Shared → Prop} {σh : Heap} {σg : Array GenState} {σd : Drawn} {σt : Nat} {σo : OsState} {a b : Int} {t u : Tok} {Q : Value → Shared → Prop} (h : Q (.int (a + b) σt) ⟨σh, σg, σd, σt + 1, σo⟩) : wpAny (model prog w) A (binaryOp .Add (.int a t) (.int b u)) Q E ⟨σh, σg, σd, σt, σo⟩ := add_int h
theorem s_int {prog : Program} {w : World} {A : Around} {E : Value → Shared → Prop} {σh : Heap} {σg : Array GenState} {σd : Drawn} {σt : Nat} {σo : OsState} {a b : Int} {t u : Tok} {Q : Value → Shared → Prop} (h : Q (.int (a - b) σt) ⟨σh, σg, σd, σt + 1, σo⟩) : wpAny (model prog w) A (binaryOp .Sub (.int a t) (.int b u)) Q E ⟨σh, σg, σd, σt, σo⟩ := sub_int h
local macro_rules | `(tactic| walk_at "sky_sk") => `(tactic| with_reducible first
  | refine a_int ?_
  | refine wpAny_isTrue_BoolOp ?_
  | refine wpAny_allTrue_And_cons ?_
  | refine wpAny_Constant_none ?_
  | refine gt_int ?_
  | refine s_int ?_
  | refine wpAny_allTrue_Or_cons ?_
  | refine ge_int ?_
  | refine le_int ?_
  | refine wpAny_allTrue_And_nil ?_
  | refine eq_int ?_
  | refine wpAny_IfExp ?_
  | refine tv_name ?_
  | refine tv_attr ?_
  | refine wpAny_Assert_holds ?_
  | refine wpAny_allTrue_Or_nil ?_
  | refine ne_int ?_
  | refine lt_int ?_
  | refine tv_call ?_
  | refine wpAny_UnaryOp ?_
  | refine wpAny_isTrue_Not ?_
  | refine wpAny_Constant_bool ?_
  | refine wpAny_Compare1 ?_)
local macro_rules | `(tactic| walk_at "sky_sk") => `(tactic| first
  | ((with_reducible first | refine' asgG (fun _ _ => ?_) ?s | refine' plainObj_wpAny_Assign_Attribute ?_ ?s | refine' wpAny_Assign_Subscript ?_ ?s); (case s => exact rfl))
  | with_reducible first | refine wpAny_execs_cons ?_ | refine ifG fun _ _ => ?_ | refine Attribute_any_ ?_ | refine Subscript_ ?_ | refine IfK.go (by assumption) ?_ | refine AsK.go (by assumption) ?_
  | ((with_reducible first | refine' callWith_bn ?s ?p ?_ | refine' callWith_bm1 ?s ?p ?_); (case s => exact rfl); (case p => exact rfl))
  | ((with_reducible refine' callWith_nbn ?f ?s ?p ?_); (case f => exact rfl); (case s => exact rfl); (case p => exact rfl))
  | ((with_reducible refine' ex_Expr ?a ?_ ?s); (case a => assumption); (case s => exact rfl)))
local macro_rules | `(tactic| walk_at "sky_sk") => `(tactic| first
  | ((with_reducible first | refine' wpAny_items_cons ?_ ?s | refine' methodCall_KW ?_ ?s | refine' Call_ ?_ ?s); (case s => exact rfl))
  | with_reducible first | refine wpAny_items_nil ?_ | refine wpAny_truthy_bool ?_ | refine c_int ?_ | refine wpAny_BinOp ?_ | refine wpAny_isTrue_Compare1 ?_
  | (with_reducible ((first | refine wpAny_execs_nil ?_ | refine wpAny_Return_some ?_); try dsimp only)))
local macro_rules | `(tactic| walk_at "sky_ite") => `(tactic| first
  | with_reducible first | refine ite_t ?_ | refine ite_f ?_ | refine ite_nt ?_ | refine ite_nf ?_
  | ((with_reducible first | refine ite_dt ?_ ?_ | refine ite_et ?_ ?_ | refine ite_net ?_ ?_ | refine ite_ndt ?_ ?_); (first | assumption | omega))
  | ((with_reducible first | refine ite_df ?_ ?_ | refine ite_ef ?_ ?_ | refine ite_nef ?_ ?_ | refine ite_ndf ?_ ?_); (first | assumption | omega)))
section
variable {prog : Program} {w : World} {A : Around} {E : Value → Shared → Prop} {s : Shared} {B : Heap}
theorem pt_x {σh : Heap} {σg : Array GenState} {σd : Drawn} {σt : Nat} {σo : OsState} {p : Addr} {x y : Int} {expr : Bool} {Q : Value → Shared → Prop} (W : Wd w B) (k : Kept B σh) (P : PtAt B p x y) (h : ∀ t tk, Q (.int x t) ⟨σh, σg, σd, tk, σo⟩) : wpAny (model prog w) A (getAttr (.ref p) "x" expr) Q E ⟨σh, σg, σd, σt, σo⟩ := by
  obtain ⟨m, tx, ty, I, hx, hy, -⟩ := P
  (((with_reducible show wpAny _ _ (getAttr (Value.ref _) _ _) _ _ _); refine get_field (by assumption) (by (first | assumption | exact Fz.keep (by assumption) | exact Kept.refl _)) (by assumption) (by k_is) (by k_is) (by k_is) (by assumption) (by exact rfl) ?_; try dsimp only))
  exact h _ _
theorem pt_y {σh : Heap} {σg : Array GenState} {σd : Drawn} {σt : Nat} {σo : OsState} {p : Addr} {x y : Int} {expr : Bool} {Q : Value → Shared → Prop} (W : Wd w B) (k : Kept B σh) (P : PtAt B p x y) (h : ∀ t tk, Q (.int y t) ⟨σh, σg, σd, tk, σo⟩) : wpAny (model prog w) A (getAttr (.ref p) "y" expr) Q E ⟨σh, σg, σd, σt, σo⟩ := by
  obtain ⟨m, tx, ty, I, hx, hy, -⟩ := P
  (((with_reducible show wpAny _ _ (getAttr (Value.ref _) _ _) _ _ _); refine get_field (by assumption) (by (first | assumption | exact Fz.keep (by assumption) | exact Kept.refl _)) (by assumption) (by k_is) (by k_is) (by k_is) (by assumption) (by exact rfl) ?_; try dsimp only))
  exact h _ _
end
local macro_rules | `(tactic| walk_at "sky_st") => `(tactic| first
  | walk_at "sky_sk"
  | walk_at "sky_ite"
  | ((with_reducible show wpAny _ _ (eval (PySem.Expr.Name _ _) _) _ _ _); first | refine nm_local (by assumption) (by assumption) (by exact rfl) (by exact rfl) ?_ | refine nm_builtin (by assumption) (by assumption) (by assumption) (by exact rfl) (by k_is) (by exact rfl) ?_ | refine nm_global (by assumption) (by assumption) (by assumption) (by exact rfl) (by k_is) ?_)
  | ((with_reducible refine' callWith_fn ?a ?k ?s ?p ?_); (case a => assumption); (case k => k_is); (case s => exact rfl); (case p => exact rfl))
  | ((with_reducible refine' kand_ ?k ?_); (case k => (first | assumption | exact Fz.keep (by assumption) | exact Kept.refl _)))
  | (((with_reducible show wpAny _ _ (getAttr (Value.ref _) _ _) _ _ _); refine get_field (by assumption) (by (first | assumption | exact Fz.keep (by assumption) | exact Kept.refl _)) (by assumption) (by k_is) (by k_is) (by k_is) (by assumption) (by exact rfl) ?_; try dsimp only))
  | ((with_reducible first | refine' pt_x ?a ?b ?c ?_ | refine' pt_y ?a ?b ?c ?_); (case a => assumption); (case b => (first | assumption | exact Fz.keep (by assumption) | exact Kept.refl _)); (case c => assumption); intro t tk; try dsimp only)
  | with_reducible refine And.intro rfl ?_)
section
variable {prog : Program} {w : World} {A : Around} {E : Value → Shared → Prop} {s : Shared} {B : Heap}
theorem seg_left {σh : Heap} {σg : Array GenState} {σd : Drawn} {σt : Nat} {σo : OsState} {a : Addr} {x y l : Int} {expr : Bool} {Q : Value → Shared → Prop} (W : Wd w σh) (S : SegAt σh a x y l) (hl : 0 ≤ l) (R : Rm A 1 4)
    (h : ∀ h' tk t, Kept σh h' → Q (.int (x) t) ⟨h', σg, σd, tk, σo⟩) : wpAny (model prog w) A (getAttr (.ref a) "left" expr) Q E ⟨σh, σg, σd, σt, σo⟩ := by
  obtain ⟨m, p, q, I, hs, he, P, P2⟩ := S
  (((with_reducible show wpAny _ _ (getAttr (Value.ref _) _ _) _ _ _); refine get_prop' (by assumption) (by assumption) (by (first | assumption | exact Fz.keep (by assumption) | exact Kept.refl _)) (by assumption) (by k_is) (by k_is) (by k_is) (by k_is) (by k_is) (by k_is) ?_; intro A₁ R₁))
  ((refine' code_fn ([("self", .ref a)]) ?k0 ?kk ?k1 ?k2 ?k3 ?k4 ?k5 ?k6 ?k7 ?k8 ?k9 ?k10 ?k11 ?k12 ?_); (case k0 => assumption); (case kk => (first | assumption | exact Fz.keep (by assumption) | exact Kept.refl _)); (case k2 => k_is); (case k3 => k_is); (case k4 => rfl); (case k5 => exact binds_eq rfl); (case k6 => rfl); (case k7 => rfl); (case k8 => rfl); (case k9 => rfl); (case k10 => rfl); (case k11 => rfl); (case k12 => rfl); (case k1 => assumption); intro A' L env h₁ R' V F; (try dsimp only at V F); (try dsimp only))
  repeat walk_at "sky_st"
  refine min_two_ints (by (first | assumption | exact Rm.le (by assumption) (by decide) (by decide) | exact (by assumption : Rm _ _ _).2.2)) fun h₂ tk₃ k₂ => ?_
  try dsimp only [retv] at k₂ ⊢
  split
  · exfalso; (first | lia | omega)
  · exact ⟨rfl, h _ _ _ (F.keep.trans k₂)⟩
theorem seg_right {σh : Heap} {σg : Array GenState} {σd : Drawn} {σt : Nat} {σo : OsState} {a : Addr} {x y l : Int} {expr : Bool} {Q : Value → Shared → Prop} (W : Wd w σh) (S : SegAt σh a x y l) (hl : 0 ≤ l) (R : Rm A 1 4)
    (h : ∀ h' tk t, Kept σh h' → Q (.int (x + l) t) ⟨h', σg, σd, tk, σo⟩) : wpAny (model prog w) A (getAttr (.ref a) "right" expr) Q E ⟨σh, σg, σd, σt, σo⟩ := by
  obtain ⟨m, p, q, I, hs, he, P, P2⟩ := S
  (((with_reducible show wpAny _ _ (getAttr (Value.ref _) _ _) _ _ _); refine get_prop' (by assumption) (by assumption) (by (first | assumption | exact Fz.keep (by assumption) | exact Kept.refl _)) (by assumption) (by k_is) (by k_is) (by k_is) (by k_is) (by k_is) (by k_is) ?_; intro A₁ R₁))
  ((refine' code_fn ([("self", .ref a)]) ?k0 ?kk ?k1 ?k2 ?k3 ?k4 ?k5 ?k6 ?k7 ?k8 ?k9 ?k10 ?k11 ?k12 ?_); (case k0 => assumption); (case kk => (first | assumption | exact Fz.keep (by assumption) | exact Kept.refl _)); (case k2 => k_is); (case k3 => k_is); (case k4 => rfl); (case k5 => exact binds_eq rfl); (case k6 => rfl); (case k7 => rfl); (case k8 => rfl); (case k9 => rfl); (case k10 => rfl); (case k11 => rfl); (case k12 => rfl); (case k1 => assumption); intro A' L env h₁ R' V F; (try dsimp only at V F); (try dsimp only))
  repeat walk_at "sky_st"
  refine max_two_ints (by (first | assumption | exact Rm.le (by assumption) (by decide) (by decide) | exact (by assumption : Rm _ _ _).2.2)) fun h₂ tk₃ k₂ => ?_
  try dsimp only [retv] at k₂ ⊢
  split
  · exact ⟨rfl, h _ _ _ (F.keep.trans k₂)⟩
  · have e : x = x + l := by (first | lia | omega)
    rw [← e] at h
    exact ⟨rfl, h _ _ _ (F.keep.trans k₂)⟩
theorem seg_top {σh : Heap} {σg : Array GenState} {σd : Drawn} {σt : Nat} {σo : OsState} {a : Addr} {x y l : Int} {expr : Bool} {Q : Value → Shared → Prop} (W : Wd w σh) (S : SegAt σh a x y l) (hl : 0 ≤ l) (R : Rm A 1 4)
    (h : ∀ h' tk t, Kept σh h' → Q (.int (y) t) ⟨h', σg, σd, tk, σo⟩) : wpAny (model prog w) A (getAttr (.ref a) "top" expr) Q E ⟨σh, σg, σd, σt, σo⟩ := by
  obtain ⟨m, p, q, I, hs, he, P, P2⟩ := S
  (((with_reducible show wpAny _ _ (getAttr (Value.ref _) _ _) _ _ _); refine get_prop' (by assumption) (by assumption) (by (first | assumption | exact Fz.keep (by assumption) | exact Kept.refl _)) (by assumption) (by k_is) (by k_is) (by k_is) (by k_is) (by k_is) (by k_is) ?_; intro A₁ R₁))
  ((refine' code_fn ([("self", .ref a)]) ?k0 ?kk ?k1 ?k2 ?k3 ?k4 ?k5 ?k6 ?k7 ?k8 ?k9 ?k10 ?k11 ?k12 ?_); (case k0 => assumption); (case kk => (first | assumption | exact Fz.keep (by assumption) | exact Kept.refl _)); (case k2 => k_is); (case k3 => k_is); (case k4 => rfl); (case k5 => exact binds_eq rfl); (case k6 => rfl); (case k7 => rfl); (case k8 => rfl); (case k9 => rfl); (case k10 => rfl); (case k11 => rfl); (case k12 => rfl); (case k1 => assumption); intro A' L env h₁ R' V F; (try dsimp only at V F); (try dsimp only))
  repeat walk_at "sky_st"
  refine max_two_ints (by (first | assumption | exact Rm.le (by assumption) (by decide) (by decide) | exact (by assumption : Rm _ _ _).2.2)) fun h₂ tk₃ k₂ => ?_
  try dsimp only [retv] at k₂ ⊢
  rw [if_neg (Int.lt_irrefl y)]
  exact ⟨rfl, h _ _ _ (F.keep.trans k₂)⟩
end
section
variable {prog : Program} {w : World} {A : Around} {E : Value → Shared → Prop} {s : Shared} {B : Heap}
theorem new_pt {σh : Heap} {σg : Array GenState} {σd : Drawn} {σt : Nat} {σo : OsState} {x y : Int} {tx ty : Tok} {Q : Value → Shared → Prop} (W : Wd w σh) (R : Rm A 2 9)
    (h : ∀ p h' tk, Kept σh h' → σh.get? p = none → PtAt h' p x y → Q (.ref p) ⟨h', σg, σd, tk, σo⟩) : wpAny (model prog w) A (call (.ref 52) [.int x tx, .int y ty]) Q E ⟨σh, σg, σd, σt, σo⟩ := by
  ((refine wpAny_call (make_cls (by assumption) (by assumption) (by (first | assumption | exact Fz.keep (by assumption) | exact Kept.refl _)) (by k_is) (by k_is) (by k_is) ?_)))
  intro A₁ p dx h₀ R₁ k₀ hp hdx hne hx hN
  have W₀ := W.keeps k₀
  ((refine' code_fn ([("self", .ref p), ("x", .int x tx), ("y", .int y ty)]) ?k0 ?kk ?k1 ?k2 ?k3 ?k4 ?k5 ?k6 ?k7 ?k8 ?k9 ?k10 ?k11 ?k12 ?_); (case k0 => assumption); (case kk => (first | assumption | exact Fz.keep (by assumption) | exact Kept.refl _)); (case k2 => k_is); (case k3 => k_is); (case k4 => rfl); (case k5 => exact binds_eq rfl); (case k6 => rfl); (case k7 => rfl); (case k8 => rfl); (case k9 => rfl); (case k10 => rfl); (case k11 => rfl); (case k12 => rfl); (case k1 => assumption); intro A' L env h₁ R' V F; (try dsimp only at V F); (try dsimp only))
  have hx₁ := F.keep _ _ hx
  have hN₁ := hN.kept F.keep
  have hL : dx ≠ L := hN.ne F.hid
  replace F := F.weaken k₀
  have hne' : p ≠ dx := Ne.symm hne
  repeat (first | walk_at "sky_st" | (((with_reducible show wpAny _ _ (setAttr (Value.ref _) _ _) _ _ _); refine set_new (by assumption) (by assumption) (by assumption) (by assumption) (by assumption) (by assumption) (by assumption) (by first | decide | omega) (by k_is) (by exact rfl) (by k_is) (by k_is) ?_; intro h' tk F' hx' hN' sb'; try dsimp only)))
  exact ⟨rfl, h p _ _ (Fz.keep (by assumption)) hp ⟨_, tx, ty, ⟨dx, by assumption, NsZ.le (by assumption) (by decide)⟩, rfl, rfl, fun n h1 h2 => (if_neg h2).trans (if_neg h1)⟩⟩

theorem seg_init {σh : Heap} {σg : Array GenState} {σd : Drawn} {σt : Nat} {σo : OsState} {a dx p q : Addr} {mm : Str → Option Value} {z : Nat} {R : Result → Shared → Prop} {x y x' y' : Int} (W : Wd w σh) (hx : σh.get? a = some (instObj 151 dx)) (hN : NsZ σh dx mm z) (hz : z < 50) (P : PtAt σh p x y) (P' : PtAt σh q x' y')
    (hf : Free w σh dx) (Ro : Rm A 1 8)
    (h : ∀ h' tk, (∀ b o, b ≠ dx → σh.get? b = some o → h'.get? b = some o) → NsZ h' dx (fun y => if y = "end" then some (.ref q) else if y = "start" then some (.ref p) else mm y) (z + 2) → R (.ok (.ret .none)) ⟨h', σg, σd, tk, σo⟩) :
    codeAny (model prog w) A (.call (.ref 70) ⟨[.ref a, .ref p, .ref q], []⟩) R ⟨σh, σg, σd, σt, σo⟩ := by
  ((refine' code_fn ([("self", .ref a), ("start", .ref p), ("end", .ref q)]) ?k0 ?kk ?k1 ?k2 ?k3 ?k4 ?k5 ?k6 ?k7 ?k8 ?k9 ?k10 ?k11 ?k12 ?_); (case k0 => assumption); (case kk => (first | assumption | exact Fz.keep (by assumption) | exact Kept.refl _)); (case k2 => k_is); (case k3 => k_is); (case k4 => rfl); (case k5 => exact binds_eq rfl); (case k6 => rfl); (case k7 => rfl); (case k8 => rfl); (case k9 => rfl); (case k10 => rfl); (case k11 => rfl); (case k12 => rfl); (case k1 => assumption); intro A' L env h₁ R' V F; (try dsimp only at V F); (try dsimp only))
  have hx₁ := F.keep _ _ hx
  have hN₁ := hN.kept F.keep
  have hL : dx ≠ L := hN.ne F.hid
  have hne : a ≠ dx := by
    intro e; obtain ⟨o, es, ep, ho, hd', -⟩ := hN; rw [← e, hx] at ho; cases ho; cases hd'
  repeat walk_at "sky_st"
  obtain ⟨B, W, kB, hB, back⟩ := hf.hide
  have F := F.weaken kB
  repeat (first | walk_at "sky_st" | (((with_reducible show wpAny _ _ (setAttr (Value.ref _) _ _) _ _ _); refine set_new (by assumption) (by assumption) (by assumption) (by assumption) (by assumption) (by assumption) (by assumption) (by first | decide | omega) (by k_is) (by exact rfl) (by k_is) (by k_is) ?_; intro h' tk F' hx' hN' sb'; try dsimp only)) | (((with_reducible show wpAny _ _ (call (Value.builtin "isinstance") _) _ _ _); first | refine isinst (by assumption) (by (first | assumption | exact Fz.keep (by assumption) | exact Kept.refl _)) (by first | exact Inst.type (by assumption) | exact Inst.type (Inst.kept (by assumption) (by (first | assumption | exact Fz.keep (by assumption) | exact Kept.refl _))) | exact PtAt.type (by assumption) | exact PtAt.type (PtAt.kept (by assumption) (by (first | assumption | exact Fz.keep (by assumption) | exact Kept.refl _)))) (by k_is) (by intro q; cases q) ?_ | (refine isi_no (by assumption) (by (first | assumption | exact Fz.keep (by assumption) | exact Kept.refl _)) (by k_is) (by k_is) (by k_is) (by k_is) ?_; intro tk; try dsimp only))))
  exact h _ _ (fun b o hb e => Fz.keep (by assumption) _ _ (back b o hb e)) (by assumption)

theorem new_seg {σh : Heap} {σg : Array GenState} {σd : Drawn} {σt : Nat} {σo : OsState} {p : Addr} {x y l : Int} {tl : Tok} {Q : Value → Shared → Prop} (W : Wd w σh) (P : PtAt σh p x y) (R : Rm A 5 40)
    (h : ∀ a h' tk, Kept σh h' → σh.get? a = none → SegAt h' a x y l → Q (.ref a) ⟨h', σg, σd, tk, σo⟩) : wpAny (model prog w) A (call (.ref 151) [.ref p, .int l tl]) Q E ⟨σh, σg, σd, σt, σo⟩ := by
  ((refine wpAny_call (make_cls (by assumption) (by assumption) (by (first | assumption | exact Fz.keep (by assumption) | exact Kept.refl _)) (by k_is) (by k_is) (by k_is) ?_)))
  intro A₁ a dx h₀ R₁ k₀ ha hdx hne hx hN
  have W₀ := W.keeps k₀
  have P₀ := P.kept k₀
  ((refine' code_fn ([("self", .ref a), ("start", .ref p), ("length", .int l tl)]) ?k0 ?kk ?k1 ?k2 ?k3 ?k4 ?k5 ?k6 ?k7 ?k8 ?k9 ?k10 ?k11 ?k12 ?_); (case k0 => assumption); (case kk => (first | assumption | exact Fz.keep (by assumption) | exact Kept.refl _)); (case k2 => k_is); (case k3 => k_is); (case k4 => rfl); (case k5 => exact binds_eq rfl); (case k6 => rfl); (case k7 => rfl); (case k8 => rfl); (case k9 => rfl); (case k10 => rfl); (case k11 => rfl); (case k12 => rfl); (case k1 => assumption); intro A' L env h₁ R' V F; (try dsimp only at V F); (try dsimp only))
  have hx₁ := F.keep _ _ hx
  have hN₁ := hN.kept F.keep
  have hL : dx ≠ L := hN.ne F.hid
  have hne' : a ≠ dx := Ne.symm hne
  repeat (first | walk_at "sky_st" | (((with_reducible show wpAny _ _ (call (Value.builtin "isinstance") _) _ _ _); first | refine isinst (by assumption) (by (first | assumption | exact Fz.keep (by assumption) | exact Kept.refl _)) (by first | exact Inst.type (by assumption) | exact Inst.type (Inst.kept (by assumption) (by (first | assumption | exact Fz.keep (by assumption) | exact Kept.refl _))) | exact PtAt.type (by assumption) | exact PtAt.type (PtAt.kept (by assumption) (by (first | assumption | exact Fz.keep (by assumption) | exact Kept.refl _)))) (by k_is) (by intro q; cases q) ?_ | (refine isi_no (by assumption) (by (first | assumption | exact Fz.keep (by assumption) | exact Kept.refl _)) (by k_is) (by k_is) (by k_is) (by k_is) ?_; intro tk; try dsimp only))))
  (((with_reducible show wpAny _ _ (call (Value.type "super") _) _ _ _); refine mk_super (by assumption) (by (first | assumption | exact Fz.keep (by assumption) | exact Kept.refl _)) (by assumption) (by k_is) (by k_is) ?_))
  intro so h₂ k₂ nso hso
  try dsimp only at k₂ nso
  have F₂ := F.step k₂
  have hx₂ := k₂ _ _ hx₁
  have hN₂ := hN₁.kept k₂
  repeat walk_at "sky_st"
  (((with_reducible show wpAny _ _ (getMethod (Value.ref _) _ _) _ _ _); refine super_meth (by assumption) (by (first | assumption | exact Fz.keep (by assumption) | exact Kept.refl _)) (by assumption) (by assumption) (by ks_is) (by k_is) (by k_is) (by decide) ?_))
  intro q h₃ tk₃ k₃ nq hq
  try dsimp only at k₃ nq
  have F₃ := F₂.step k₃
  have hx₃ := k₃ _ _ hx₂
  have hN₃ := hN₂.kept k₃
  obtain ⟨B, FB, kB, get, -⟩ := F₃.rebase [] (fun _ h => nomatch h)
  have WB := W₀.keeps kB
  have PB := P₀.kept kB
  refine callWith_m WB (get _ _ hq (F₂.ne nq) (by simp)) (by k_is) ?_
  repeat walk_at "sky_st"
  refine new_pt (WB.keeps (by (first | assumption | exact Fz.keep (by assumption) | exact Kept.refl _))) (by (first | assumption | exact Rm.le (by assumption) (by decide) (by decide) | exact (by assumption : Rm _ _ _).2.2)) fun e h₄ tk₄ k₄ ne Pe => ?_
  try dsimp only at k₄ ⊢
  have F₄ := FB.step k₄
  have hx₄ := k₄ _ _ hx₃
  have hN₄ := hN₃.kept k₄
  repeat walk_at "sky_st"
  refine seg_init (WB.keeps (by (first | assumption | exact Fz.keep (by assumption) | exact Kept.refl _))) hx₄ hN₄ (by decide) (PB.kept (by (first | assumption | exact Fz.keep (by assumption) | exact Kept.refl _))) Pe ?_ (by (first | assumption | exact Rm.le (by assumption) (by decide) (by decide) | exact (by assumption : Rm _ _ _).2.2)) fun h₅ tk₅ k₅ hN₅ => ?_
  · exact ⟨σh, W, ((k₀.trans F₃.keep).trans k₄), hdx⟩
  repeat walk_at "sky_st"
  have kk : Kept σh h₅ := fun b o e => k₅ b o (ne_of_get e hdx) (k₄ b o (F₃.keep b o (k₀ b o e)))
  exact ⟨rfl, h a _ _ kk ha ⟨_, p, e, ⟨dx, k₅ _ _ hne' hx₄, hN₅.le (by decide)⟩, rfl, rfl, P.kept kk, Pe.but hN₄ rfl k₅⟩⟩
end
section
variable {prog : Program} {w : World} {A : Around} {E : Value → Shared → Prop} {s : Shared} {B : Heap}
theorem new_rect {σh : Heap} {σg : Array GenState} {σd : Drawn} {σt : Nat} {σo : OsState} {x y wd l : Int} {tx ty tw tl : Tok} {Q : Value → Shared → Prop} (W : Wd w σh) (hw : 0 ≤ wd) (hl : 0 ≤ l) (R : Rm A 2 12)
    (h : ∀ r dx h' tk, Kept σh h' → σh.get? r = none → σh.get? dx = none → RectAt h' r dx x y wd l .none → Q (.ref r) ⟨h', σg, σd, tk, σo⟩) :
    wpAny (model prog w) A (call (.ref 300) [.int x tx, .int y ty, .int wd tw, .int l tl]) Q E ⟨σh, σg, σd, σt, σo⟩ := by
  ((refine wpAny_call (make_cls (by assumption) (by assumption) (by (first | assumption | exact Fz.keep (by assumption) | exact Kept.refl _)) (by k_is) (by k_is) (by k_is) ?_)))
  intro A₁ r dx h₀ R₁ k₀ hr hdx hne hx hN
  have W₀ := W.keeps k₀
  ((refine' code_fn ([("self", .ref r), ("x", .int x tx), ("y", .int y ty), ("width", .int wd tw), ("height", .int l tl), ("rid", .none)]) ?k0 ?kk ?k1 ?k2 ?k3 ?k4 ?k5 ?k6 ?k7 ?k8 ?k9 ?k10 ?k11 ?k12 ?_); (case k0 => assumption); (case kk => (first | assumption | exact Fz.keep (by assumption) | exact Kept.refl _)); (case k2 => k_is); (case k3 => k_is); (case k4 => rfl); (case k5 => (refine' binds_K ?X ?d1 ?d2 ?d3 ?d4 ?d5; (case X => exact (Wd.keeps (by assumption) (by (first | assumption | exact Fz.keep (by assumption) | exact Kept.refl _))).K); (case d1 => rfl); (case d2 => k_is); (case d3 => rfl); (case d4 => rfl); (case d5 => rfl))); (case k6 => rfl); (case k7 => rfl); (case k8 => rfl); (case k9 => rfl); (case k10 => rfl); (case k11 => rfl); (case k12 => rfl); (case k1 => assumption); intro A' L env h₁ R' V F; (try dsimp only at V F); (try dsimp only))
  have hx₁ := F.keep _ _ hx
  have hN₁ := hN.kept F.keep
  have hL : dx ≠ L := hN.ne F.hid
  have hne' : r ≠ dx := Ne.symm hne
  replace F := F.weaken k₀
  repeat (first | walk_at "sky_st" | (((with_reducible show wpAny _ _ (setAttr (Value.ref _) _ _) _ _ _); refine set_new (by assumption) (by assumption) (by assumption) (by assumption) (by assumption) (by assumption) (by assumption) (by first | decide | omega) (by k_is) (by exact rfl) (by k_is) (by k_is) ?_; intro h' tk F' hx' hN' sb'; try dsimp only)))
  exact ⟨rfl, h r dx _ _ (Fz.keep (by assumption)) hr hdx ⟨by assumption, _, tx, ty, tw, tl, NsZ.le (by assumption) (by decide), rfl, rfl, rfl, rfl, rfl, rfl⟩⟩
end
section
variable {prog : Program} {w : World} {A : Around} {E : Value → Shared → Prop} {s : Shared} {B : Heap}
theorem RectAt.inst {h : Heap} {r dx : Addr} {x y wd l : Int} {rid : Value} (P : RectAt h r dx x y wd l rid) : ∃ m tx ty tw tl, Inst h r 300 m ∧ m "x" = some (.int x tx) ∧ m "y" = some (.int y ty) ∧ m "width" = some (.int wd tw) ∧ m "height" = some (.int l tl) ∧ m "rid" = some rid :=
  let ⟨a, m, tx, ty, tw, tl, N, b1, b2, b3, b4, b5, _⟩ := P; ⟨m, tx, ty, tw, tl, ⟨dx, a, N.le (by decide)⟩, b1, b2, b3, b4, b5⟩
theorem rect_x {σh : Heap} {σg : Array GenState} {σd : Drawn} {σt : Nat} {σo : OsState} {a dx : Addr} {x y wd l : Int} {rid : Value} {expr : Bool} {Q : Value → Shared → Prop} (W : Wd w B) (k : Kept B σh) (S : RectAt σh a dx x y wd l rid)
    (h : ∀ t tk, Q (.int x t) ⟨σh, σg, σd, tk, σo⟩) : wpAny (model prog w) A (getAttr (.ref a) "x" expr) Q E ⟨σh, σg, σd, σt, σo⟩ := by
  obtain ⟨m, tx, ty, tw, tl, I, hx, hy, hw, hl, hr⟩ := S.inst
  have W := W.keeps k
  (((with_reducible show wpAny _ _ (getAttr (Value.ref _) _ _) _ _ _); refine get_field (by assumption) (by (first | assumption | exact Fz.keep (by assumption) | exact Kept.refl _)) (by assumption) (by k_is) (by k_is) (by k_is) (by assumption) (by exact rfl) ?_; try dsimp only))
  exact h _ _
theorem rect_y {σh : Heap} {σg : Array GenState} {σd : Drawn} {σt : Nat} {σo : OsState} {a dx : Addr} {x y wd l : Int} {rid : Value} {expr : Bool} {Q : Value → Shared → Prop} (W : Wd w B) (k : Kept B σh) (S : RectAt σh a dx x y wd l rid)
    (h : ∀ t tk, Q (.int y t) ⟨σh, σg, σd, tk, σo⟩) : wpAny (model prog w) A (getAttr (.ref a) "y" expr) Q E ⟨σh, σg, σd, σt, σo⟩ := by
  obtain ⟨m, tx, ty, tw, tl, I, hx, hy, hw, hl, hr⟩ := S.inst
  have W := W.keeps k
  (((with_reducible show wpAny _ _ (getAttr (Value.ref _) _ _) _ _ _); refine get_field (by assumption) (by (first | assumption | exact Fz.keep (by assumption) | exact Kept.refl _)) (by assumption) (by k_is) (by k_is) (by k_is) (by assumption) (by exact rfl) ?_; try dsimp only))
  exact h _ _
theorem rect_w {σh : Heap} {σg : Array GenState} {σd : Drawn} {σt : Nat} {σo : OsState} {a dx : Addr} {x y wd l : Int} {rid : Value} {expr : Bool} {Q : Value → Shared → Prop} (W : Wd w B) (k : Kept B σh) (S : RectAt σh a dx x y wd l rid)
    (h : ∀ t tk, Q (.int wd t) ⟨σh, σg, σd, tk, σo⟩) : wpAny (model prog w) A (getAttr (.ref a) "width" expr) Q E ⟨σh, σg, σd, σt, σo⟩ := by
  obtain ⟨m, tx, ty, tw, tl, I, hx, hy, hw, hl, hr⟩ := S.inst
  have W := W.keeps k
  (((with_reducible show wpAny _ _ (getAttr (Value.ref _) _ _) _ _ _); refine get_field (by assumption) (by (first | assumption | exact Fz.keep (by assumption) | exact Kept.refl _)) (by assumption) (by k_is) (by k_is) (by k_is) (by assumption) (by exact rfl) ?_; try dsimp only))
  exact h _ _
theorem rect_h {σh : Heap} {σg : Array GenState} {σd : Drawn} {σt : Nat} {σo : OsState} {a dx : Addr} {x y wd l : Int} {rid : Value} {expr : Bool} {Q : Value → Shared → Prop} (W : Wd w B) (k : Kept B σh) (S : RectAt σh a dx x y wd l rid)
    (h : ∀ t tk, Q (.int l t) ⟨σh, σg, σd, tk, σo⟩) : wpAny (model prog w) A (getAttr (.ref a) "height" expr) Q E ⟨σh, σg, σd, σt, σo⟩ := by
  obtain ⟨m, tx, ty, tw, tl, I, hx, hy, hw, hl, hr⟩ := S.inst
  have W := W.keeps k
  (((with_reducible show wpAny _ _ (getAttr (Value.ref _) _ _) _ _ _); refine get_field (by assumption) (by (first | assumption | exact Fz.keep (by assumption) | exact Kept.refl _)) (by assumption) (by k_is) (by k_is) (by k_is) (by assumption) (by exact rfl) ?_; try dsimp only))
  exact h _ _
theorem rect_rid {σh : Heap} {σg : Array GenState} {σd : Drawn} {σt : Nat} {σo : OsState} {a dx : Addr} {x y wd l : Int} {rid : Value} {expr : Bool} {Q : Value → Shared → Prop} (W : Wd w B) (k : Kept B σh) (S : RectAt σh a dx x y wd l rid) (hv : handedIn rid = true)
    (h : ∀ tk, Q rid ⟨σh, σg, σd, tk, σo⟩) : wpAny (model prog w) A (getAttr (.ref a) "rid" expr) Q E ⟨σh, σg, σd, σt, σo⟩ := by
  obtain ⟨m, tx, ty, tw, tl, I, hx, hy, hw, hl, hr⟩ := S.inst
  have W := W.keeps k
  refine get_field W (Kept.refl _) I (by k_is) (by k_is) (by k_is) hr hv ?_
  exact h _
theorem rect_left {σh : Heap} {σg : Array GenState} {σd : Drawn} {σt : Nat} {σo : OsState} {a dx : Addr} {x y wd l : Int} {rid : Value} {expr : Bool} {Q : Value → Shared → Prop} (W : Wd w σh) (S : RectAt σh a dx x y wd l rid) (R : Rm A 1 4)
    (h : ∀ h' tk t, Kept σh h' → Q (.int x t) ⟨h', σg, σd, tk, σo⟩) : wpAny (model prog w) A (getAttr (.ref a) "left" expr) Q E ⟨σh, σg, σd, σt, σo⟩ := by
  obtain ⟨m, tx, ty, tw, tl, I, hx, hy, hw, hl, hr⟩ := S.inst
  (((with_reducible show wpAny _ _ (getAttr (Value.ref _) _ _) _ _ _); refine get_prop' (by assumption) (by assumption) (by (first | assumption | exact Fz.keep (by assumption) | exact Kept.refl _)) (by assumption) (by k_is) (by k_is) (by k_is) (by k_is) (by k_is) (by k_is) ?_; intro A₁ R₁))
  ((refine' code_fn ([("self", .ref a)]) ?k0 ?kk ?k1 ?k2 ?k3 ?k4 ?k5 ?k6 ?k7 ?k8 ?k9 ?k10 ?k11 ?k12 ?_); (case k0 => assumption); (case kk => (first | assumption | exact Fz.keep (by assumption) | exact Kept.refl _)); (case k2 => k_is); (case k3 => k_is); (case k4 => rfl); (case k5 => exact binds_eq rfl); (case k6 => rfl); (case k7 => rfl); (case k8 => rfl); (case k9 => rfl); (case k10 => rfl); (case k11 => rfl); (case k12 => rfl); (case k1 => assumption); intro A' L env h₁ R' V F; (try dsimp only at V F); (try dsimp only))
  repeat walk_at "sky_st"
  exact h _ _ _ F.keep
theorem rect_bottom {σh : Heap} {σg : Array GenState} {σd : Drawn} {σt : Nat} {σo : OsState} {a dx : Addr} {x y wd l : Int} {rid : Value} {expr : Bool} {Q : Value → Shared → Prop} (W : Wd w σh) (S : RectAt σh a dx x y wd l rid) (R : Rm A 1 4)
    (h : ∀ h' tk t, Kept σh h' → Q (.int y t) ⟨h', σg, σd, tk, σo⟩) : wpAny (model prog w) A (getAttr (.ref a) "bottom" expr) Q E ⟨σh, σg, σd, σt, σo⟩ := by
  obtain ⟨m, tx, ty, tw, tl, I, hx, hy, hw, hl, hr⟩ := S.inst
  (((with_reducible show wpAny _ _ (getAttr (Value.ref _) _ _) _ _ _); refine get_prop' (by assumption) (by assumption) (by (first | assumption | exact Fz.keep (by assumption) | exact Kept.refl _)) (by assumption) (by k_is) (by k_is) (by k_is) (by k_is) (by k_is) (by k_is) ?_; intro A₁ R₁))
  ((refine' code_fn ([("self", .ref a)]) ?k0 ?kk ?k1 ?k2 ?k3 ?k4 ?k5 ?k6 ?k7 ?k8 ?k9 ?k10 ?k11 ?k12 ?_); (case k0 => assumption); (case kk => (first | assumption | exact Fz.keep (by assumption) | exact Kept.refl _)); (case k2 => k_is); (case k3 => k_is); (case k4 => rfl); (case k5 => exact binds_eq rfl); (case k6 => rfl); (case k7 => rfl); (case k8 => rfl); (case k9 => rfl); (case k10 => rfl); (case k11 => rfl); (case k12 => rfl); (case k1 => assumption); intro A' L env h₁ R' V F; (try dsimp only at V F); (try dsimp only))
  repeat walk_at "sky_st"
  exact h _ _ _ F.keep
theorem rect_right {σh : Heap} {σg : Array GenState} {σd : Drawn} {σt : Nat} {σo : OsState} {a dx : Addr} {x y wd l : Int} {rid : Value} {expr : Bool} {Q : Value → Shared → Prop} (W : Wd w σh) (S : RectAt σh a dx x y wd l rid) (R : Rm A 1 4)
    (h : ∀ h' tk t, Kept σh h' → Q (.int (x + wd) t) ⟨h', σg, σd, tk, σo⟩) : wpAny (model prog w) A (getAttr (.ref a) "right" expr) Q E ⟨σh, σg, σd, σt, σo⟩ := by
  obtain ⟨m, tx, ty, tw, tl, I, hx, hy, hw, hl, hr⟩ := S.inst
  (((with_reducible show wpAny _ _ (getAttr (Value.ref _) _ _) _ _ _); refine get_prop' (by assumption) (by assumption) (by (first | assumption | exact Fz.keep (by assumption) | exact Kept.refl _)) (by assumption) (by k_is) (by k_is) (by k_is) (by k_is) (by k_is) (by k_is) ?_; intro A₁ R₁))
  ((refine' code_fn ([("self", .ref a)]) ?k0 ?kk ?k1 ?k2 ?k3 ?k4 ?k5 ?k6 ?k7 ?k8 ?k9 ?k10 ?k11 ?k12 ?_); (case k0 => assumption); (case kk => (first | assumption | exact Fz.keep (by assumption) | exact Kept.refl _)); (case k2 => k_is); (case k3 => k_is); (case k4 => rfl); (case k5 => exact binds_eq rfl); (case k6 => rfl); (case k7 => rfl); (case k8 => rfl); (case k9 => rfl); (case k10 => rfl); (case k11 => rfl); (case k12 => rfl); (case k1 => assumption); intro A' L env h₁ R' V F; (try dsimp only at V F); (try dsimp only))
  repeat walk_at "sky_st"
  exact h _ _ _ F.keep
theorem rect_top {σh : Heap} {σg : Array GenState} {σd : Drawn} {σt : Nat} {σo : OsState} {a dx : Addr} {x y wd l : Int} {rid : Value} {expr : Bool} {Q : Value → Shared → Prop} (W : Wd w σh) (S : RectAt σh a dx x y wd l rid) (R : Rm A 1 4)
    (h : ∀ h' tk t, Kept σh h' → Q (.int (y + l) t) ⟨h', σg, σd, tk, σo⟩) : wpAny (model prog w) A (getAttr (.ref a) "top" expr) Q E ⟨σh, σg, σd, σt, σo⟩ := by
  obtain ⟨m, tx, ty, tw, tl, I, hx, hy, hw, hl, hr⟩ := S.inst
  (((with_reducible show wpAny _ _ (getAttr (Value.ref _) _ _) _ _ _); refine get_prop' (by assumption) (by assumption) (by (first | assumption | exact Fz.keep (by assumption) | exact Kept.refl _)) (by assumption) (by k_is) (by k_is) (by k_is) (by k_is) (by k_is) (by k_is) ?_; intro A₁ R₁))
  ((refine' code_fn ([("self", .ref a)]) ?k0 ?kk ?k1 ?k2 ?k3 ?k4 ?k5 ?k6 ?k7 ?k8 ?k9 ?k10 ?k11 ?k12 ?_); (case k0 => assumption); (case kk => (first | assumption | exact Fz.keep (by assumption) | exact Kept.refl _)); (case k2 => k_is); (case k3 => k_is); (case k4 => rfl); (case k5 => exact binds_eq rfl); (case k6 => rfl); (case k7 => rfl); (case k8 => rfl); (case k9 => rfl); (case k10 => rfl); (case k11 => rfl); (case k12 => rfl); (case k1 => assumption); intro A' L env h₁ R' V F; (try dsimp only at V F); (try dsimp only))
  repeat walk_at "sky_st"
  exact h _ _ _ F.keep
theorem seg_start {σh : Heap} {σg : Array GenState} {σd : Drawn} {σt : Nat} {σo : OsState} {a : Addr} {x y l : Int} {expr : Bool} {Q : Value → Shared → Prop} (W : Wd w σh) (S : SegAt σh a x y l)
    (h : ∀ p tk, PtAt σh p x y → Q (.ref p) ⟨σh, σg, σd, tk, σo⟩) : wpAny (model prog w) A (getAttr (.ref a) "start" expr) Q E ⟨σh, σg, σd, σt, σo⟩ := by
  obtain ⟨m, p, q, I, hs, he, P, P2⟩ := S
  (((with_reducible show wpAny _ _ (getAttr (Value.ref _) _ _) _ _ _); refine get_field (by assumption) (by (first | assumption | exact Fz.keep (by assumption) | exact Kept.refl _)) (by assumption) (by k_is) (by k_is) (by k_is) (by assumption) (by exact rfl) ?_; try dsimp only))
  exact h _ _ P
theorem seg_length {σh : Heap} {σg : Array GenState} {σd : Drawn} {σt : Nat} {σo : OsState} {a : Addr} {x y l : Int} {expr : Bool} {Q : Value → Shared → Prop} (W : Wd w σh) (S : SegAt σh a x y l) (R : Rm A 1 4)
    (h : ∀ h' tk t, Kept σh h' → Q (.int l t) ⟨h', σg, σd, tk, σo⟩) : wpAny (model prog w) A (getAttr (.ref a) "length" expr) Q E ⟨σh, σg, σd, σt, σo⟩ := by
  obtain ⟨m, p, q, I, hs, he, P, P2⟩ := S
  (((with_reducible show wpAny _ _ (getAttr (Value.ref _) _ _) _ _ _); refine get_prop' (by assumption) (by assumption) (by (first | assumption | exact Fz.keep (by assumption) | exact Kept.refl _)) (by assumption) (by k_is) (by k_is) (by k_is) (by k_is) (by k_is) (by k_is) ?_; intro A₁ R₁))
  ((refine' code_fn ([("self", .ref a)]) ?k0 ?kk ?k1 ?k2 ?k3 ?k4 ?k5 ?k6 ?k7 ?k8 ?k9 ?k10 ?k11 ?k12 ?_); (case k0 => assumption); (case kk => (first | assumption | exact Fz.keep (by assumption) | exact Kept.refl _)); (case k2 => k_is); (case k3 => k_is); (case k4 => rfl); (case k5 => exact binds_eq rfl); (case k6 => rfl); (case k7 => rfl); (case k8 => rfl); (case k9 => rfl); (case k10 => rfl); (case k11 => rfl); (case k12 => rfl); (case k1 => assumption); intro A' L env h₁ R' V F; (try dsimp only at V F); (try dsimp only))
  repeat walk_at "sky_st"
  rw [show x + l - x = l by (first | lia | omega)]
  exact h _ _ _ F.keep
end
section
variable {prog : Program} {w : World} {A : Around} {E : Value → Shared → Prop} {s : Shared} {B : Heap}
theorem list_meth {l : Addr} {items : Array Value} {name : Str} {id : String} {pl : Sem Bool} {Q : Value × List Value → Shared → Prop} (hl : s.heap.PlainList l items) (sl : Slot "list" name id) (hty : typeOf (.builtin id) = pure (.type "method_descriptor"))
    (h : Q (.builtin id, [.ref l]) s) : wpAny (model prog w) A (getMethod (.ref l) name pl) Q E s :=
  getMethod_builtin hl.isList.typeIs PySem.F.plainAttrs_list sl hty (fun a q => by cases q; obtain ⟨n, e⟩ := hl; exact ⟨_, e, rfl⟩) h
theorem meth_append {l : Addr} {items : Array Value} {pl : Sem Bool} {Q : Value × List Value → Shared → Prop} (hl : s.heap.PlainList l items)
    (h : Q (.builtin "list.append", [.ref l]) s) : wpAny (model prog w) A (getMethod (.ref l) "append" pl) Q E s :=
  list_meth hl slot_list_append type_list_append h
theorem item_at {l : Addr} {items : Array Value} {i : Nat} {n : Int} {t : Tok} {x : Value} {value slice : PySem.Expr} {ops : List Value} {Q : Value → Shared → Prop} (hl : s.heap.IsList l items) (e : n = i) (hx : items[i]? = some x) (hz : items.size ≤ 100) (h : Q x s)
    (hs : subscripted slice false (.ref l) (.int n t) = operate ops (getItem (.ref l) (.int n t))) : wpAny (model prog w) A (subscriptTail value slice (.ref l) (.int n t)) Q E s := by
  subst e
  have hi : i < items.size := by
    rcases Nat.lt_or_ge i items.size with q | q
    · exact q
    · rw [Array.getElem?_eq_none q] at hx; cases hx
  exact tail_any hl.typeIs slot_list_getitem.lookup (wpAny_getItem_list hl (by (first | lia | omega)) (by (first | lia | omega)) hx h) hs
theorem item_last {l : Addr} {items : Array Value} {t : Tok} {x : Value} {value slice : PySem.Expr} {ops : List Value} {Q : Value → Shared → Prop} (hl : s.heap.IsList l items) (hx : items[items.size - 1]? = some x) (h : Q x s)
    (hs : subscripted slice false (.ref l) (.int (-1) t) = operate ops (getItem (.ref l) (.int (-1) t))) : wpAny (model prog w) A (subscriptTail value slice (.ref l) (.int (-1) t)) Q E s := by
  have hi : 0 < items.size := by
    rcases Nat.eq_zero_or_pos items.size with q | q
    · rw [Array.getElem?_eq_none (by (first | lia | omega))] at hx; cases hx
    · exact q
  exact tail_any hl.typeIs slot_list_getitem.lookup (wpAny_getItem_list_neg hl (by decide) (by (first | lia | omega)) (by decide) (by rw [show (-1 + (items.size : Int)).toNat = items.size - 1 by (first | grind | lia)]; exact hx) h) hs
theorem set_last {l : Addr} {items : Array Value} {t : Tok} {v : Value} {Q : Unit → Shared → Prop} (hl : s.heap.PlainList l items) (h0 : 0 < items.size)
    (hQ : ∀ h', h'.PlainList l (items.setIfInBounds (items.size - 1) v) → Heap.SameBut l s.heap h' → Q () { s with heap := h' }) :
    wpAny (model prog w) A (setItem (.ref l) (.int (-1) t) v) Q E s := by
  have hl' := hl.isList
  obtain ⟨n, ho⟩ := hl
  unfold setItem
  try with_reducible refine wpAny_holding ?_
  first | refine wpAny_bind (wpAny_pure ?_) | skip
  refine wpAny_bind (wpAny_sequenceKey hl'.typeIs (by decide) ?_)
  refine wpAny_bind (wpAny_callSpecial?_slot (name := Str.ofString "__setitem__") hl'.typeIs slot_list_setitem
    (wpAny_call_entry slot_list_setitem hl'.typeIs entry_list_setitem ?_ (args_list_setitem _ _ _)))
  show wpAny _ _ (Builtin.List.listSubscript? (.int (-1) t) >>= _) _ _ s
  refine wpAny_bind (wpAny_listSubscript_int (fitsIndex_neg (by decide) (by decide)) ?_)
  have hidx : seqIndex? (-1) items.size = some (-1 + (items.size : Int)).toNat := PySem.seqIndex_neg (by decide) (by (first | lia | omega))
  have e1 : (-1 + (items.size : Int)).toNat = items.size - 1 := by (first | lia | omega)
  rw [e1] at hidx
  show wpAny _ _ ((Builtin.List.listItems (.ref l) >>= fun xs => pure ((seqIndex? (-1) xs.size).bind fun i => xs[i]?.map (i, ·))) >>= _) _ _ s
  refine wpAny_bind (wpAny_bind ?_)
  show wpAny _ _ (seqItems? (.ref l) >>= _) _ _ s
  refine wpAny_bind (wpAny_seqItems ho rfl (wpAny_pure (wpAny_pure ?_)))
  rw [hidx]
  have hx' : items[items.size - 1]? = some (items[items.size - 1]'(by (first | grind | lia))) := Array.getElem?_eq_getElem _
  simp only [Option.bind_some, hx', Option.map_some]
  show wpAny _ _ (setSeqItemAt l (items.size - 1) v >>= _) _ _ s
  have hfin : (s.heap.update l (Obj.mapSeq (·.setIfInBounds (items.size - 1) v))).PlainList l (items.setIfInBounds (items.size - 1) v) := by
    refine ⟨n, ?_⟩
    rw [Heap.get?_update_self _ ho rfl]
    simp [Obj.mapSeq]
  refine wpAny_bind (wpAny_setSeqItemAt (items := items) (n := n) ho rfl ?_)
  first
    | exact wpAny_bind (wpAny_pure (wpAny_pure ⟨.none, rfl, wpAny_pure (hQ _ hfin (Heap.SameBut.update ..))⟩))
    | exact wpAny_pure ⟨.none, rfl, wpAny_pure (hQ _ hfin (Heap.SameBut.update ..))⟩
end

/- a piece of the skyline: from (x, y), l long -/
structure Sg where
  x : Int
  y : Int
  l : Int
noncomputable def Segs (h : Heap) (items : Array Value) (segs : List Sg) : Prop := items.size = segs.length ∧ ∀ (i : Nat) (sg : Sg), segs[i]? = some sg → ∃ a, items[i]? = some (Value.ref a) ∧ SegAt h a sg.x sg.y sg.l ∧ 0 ≤ sg.l
theorem Segs.kept {h h' : Heap} {items : Array Value} {segs : List Sg} (S : Segs h items segs) (k : Kept h h') : Segs h' items segs :=
  ⟨S.1, fun i sg e => let ⟨a, b, c, d⟩ := S.2 i sg e; ⟨a, b, c.kept k, d⟩⟩
noncomputable def But (a : Addr) (h h' : Heap) : Prop := ∀ b o, b ≠ a → h.get? b = some o → h'.get? b = some o
theorem But.of_kept {a : Addr} {h h' : Heap} (k : Kept h h') : But a h h' := fun b o _ e => k b o e
theorem But.of_same {a : Addr} {h h' : Heap} (k : Heap.SameBut a h h') : But a h h' := fun b o n e => (k.2 b n).trans e
theorem But.trans {a : Addr} {h h' h'' : Heap} (k : But a h h') (k' : But a h' h'') : But a h h'' := fun b o n e => k' b o n (k b o n e)
theorem But.kept {a : Addr} {B h h' : Heap} (k : But a h h') (kb : Kept B h) (n : B.get? a = none) : Kept B h' := fun b o e => k b o (fun q => by rw [q, n] at e; cases e) (kb b o e)
theorem Inst.but_list {h h' : Heap} {x C l : Addr} {m : Str → Option Value} {items : Array Value} (I : Inst h x C m) (hl : h.PlainList l items) (k : But l h h') : Inst h' x C m := by
  obtain ⟨n, e⟩ := hl
  obtain ⟨d, hx, o, es, ep, ho, r1, r2, r3, r4⟩ := I
  refine ⟨d, k _ _ ?_ hx, o, es, ep, k _ _ ?_ ho, r1, r2, r3, r4⟩
  · rintro rfl; rw [hx] at e; cases e
  · rintro rfl; rw [ho] at e; cases e; cases r1
theorem PtAt.but_list {h h' : Heap} {p l : Addr} {x y : Int} {items : Array Value} (P : PtAt h p x y) (hl : h.PlainList l items) (k : But l h h') : PtAt h' p x y :=
  let ⟨m, tx, ty, I, r, r2, r3⟩ := P; ⟨m, tx, ty, I.but_list hl k, r, r2, r3⟩
theorem SegAt.but_list {h h' : Heap} {a l : Addr} {x y n : Int} {items : Array Value} (S : SegAt h a x y n) (hl : h.PlainList l items) (k : But l h h') : SegAt h' a x y n :=
  let ⟨m, p, q, I, r1, r2, P, Q⟩ := S; ⟨m, p, q, I.but_list hl k, r1, r2, P.but_list hl k, Q.but_list hl k⟩
theorem Segs.but_list {h h' : Heap} {l : Addr} {segs : List Sg} {items its : Array Value} (S : Segs h items segs) (hl : h.PlainList l its) (k : But l h h') : Segs h' items segs :=
  ⟨S.1, fun i sg e => let ⟨a, b, c, d⟩ := S.2 i sg e; ⟨a, b, c.but_list hl k, d⟩⟩
theorem Segs.push {h : Heap} {a : Addr} {segs : List Sg} {items : Array Value} {sg : Sg} (S : Segs h items segs) (P : SegAt h a sg.x sg.y sg.l) (hl : 0 ≤ sg.l) : Segs h (items.push (.ref a)) (segs ++ [sg]) := by
  refine ⟨by rw [Array.size_push, List.length_append, S.1]; rfl, fun i s' e => ?_⟩
  rcases Nat.lt_or_ge i segs.length with q | q
  · rw [List.getElem?_append_left q] at e
    obtain ⟨b, c, d⟩ := S.2 i s' e
    exact ⟨b, by rw [Array.getElem?_push, if_neg (by have := S.1; (first | lia | omega))]; exact c, d⟩
  · rw [List.getElem?_append_right q] at e
    have : i - segs.length = 0 := by
      rcases Nat.eq_zero_or_pos (i - segs.length) with r | r
      · exact r
      · rw [List.getElem?_eq_none (by simp; (first | assumption | lia))] at e; cases e
    rw [this] at e
    cases e
    exact ⟨a, by rw [Array.getElem?_push, if_pos (by have := S.1; (first | grind | lia))], P, hl⟩
theorem Segs.setLast {h : Heap} {a : Addr} {segs : List Sg} {items : Array Value} {sg : Sg} (S : Segs h items segs) (n0 : segs ≠ []) (P : SegAt h a sg.x sg.y sg.l) (hl : 0 ≤ sg.l) : Segs h (items.setIfInBounds (items.size - 1) (.ref a)) (segs.dropLast ++ [sg]) := by
  have hpos : 0 < segs.length := List.length_pos_iff.mpr n0
  have h1 := S.1
  refine ⟨by rw [Array.size_setIfInBounds, List.length_append, List.length_dropLast]; simp; (first | lia | omega), fun i s' e => ?_⟩
  rcases Nat.lt_or_ge i (segs.length - 1) with q | q
  · rw [List.getElem?_append_left (by rw [List.length_dropLast]; exact q), List.getElem?_dropLast, if_pos q] at e
    obtain ⟨b, c, d⟩ := S.2 i s' e
    exact ⟨b, by rw [Array.getElem?_setIfInBounds, if_neg (by (first | lia | omega))]; exact c, d⟩
  · rw [List.getElem?_append_right (by rw [List.length_dropLast]; exact q), List.length_dropLast] at e
    have : i - (segs.length - 1) = 0 := by
      rcases Nat.eq_zero_or_pos (i - (segs.length - 1)) with r | r
      · exact r
      · rw [List.getElem?_eq_none (by simp; (first | assumption | lia))] at e; cases e
    rw [this] at e
    cases e
    exact ⟨a, by rw [Array.getElem?_setIfInBounds, if_pos (by (first | grind | lia)), if_pos (by (first | lia | omega))], P, hl⟩
noncomputable def mergeSeg (segs : List Sg) (g : Sg) : List Sg :=
  match segs.getLast? with
  | none => [g]
  | some t => if t.y = g.y then segs.dropLast ++ [⟨t.x, t.y, t.l + g.l⟩] else segs ++ [g]
theorem Segs.last {h : Heap} {segs : List Sg} {items : Array Value} {t : Sg} (S : Segs h items segs) (e : segs.getLast? = some t) : ∃ a, items[items.size - 1]? = some (Value.ref a) ∧ SegAt h a t.x t.y t.l ∧ 0 ≤ t.l := by
  rw [List.getLast?_eq_getElem?] at e
  rw [S.1]; exact S.2 _ _ e
section
variable {prog : Program} {w : World} {A : Around} {E : Value → Shared → Prop} {s : Shared} {B : Heap}
theorem st_localb {σh : Heap} {σg : Array GenState} {σd : Drawn} {σt : Nat} {σo : OsState} {m : Str → Option Value} {L : Addr} {env : Env} {names : List (Str × NameKind)} {cells : List (Str × Addr)} {x : Str} {v : Value} {Q : Unit → Shared → Prop} (V : Ev env L names cells) (F : Fz B L σh m) (hl : names.lookup x = some .local)
    (h : ∀ h', Fz B L h' (upd x v m) → But L σh h' → Q () ⟨h', σg, σd, σt + 1, σo⟩) : wpAny (model prog w) A (storeName env x v) Q E ⟨σh, σg, σd, σt, σo⟩ :=
  wpAny_storeName_local (by show env.scope.names.lookup x = _; rw [V.n]; exact hl) (V.L ▸ F.ns) (fun h' hn hs => h h' (F.set (V.L ▸ hn) (V.L ▸ hs)) (But.of_same (V.L ▸ hs))) (by rw [V.k]; rfl)
theorem app_plain {σh : Heap} {σg : Array GenState} {σd : Drawn} {σt : Nat} {σo : OsState} {l : Addr} {items : Array Value} {x : Value} {Q : Value → Shared → Prop} (hl : σh.PlainList l items) (hz : items.size ≤ 1000)
    (h : ∀ h', h'.PlainList l (items.push x) → But l σh h' → Q .none ⟨h', σg, σd, σt, σo⟩) : wpAny (model prog w) A (call (.builtin "list.append") [.ref l, x]) Q E ⟨σh, σg, σd, σt, σo⟩ :=
  wpAny_list_append_plain hl (fun h' a b => h h' a (But.of_same b)) (by rw [sizeLine_eq]; (first | exact Nat.le_trans (by assumption) (by decide) | lia))
end
section
variable {prog : Program} {w : World} {A : Around} {E : Value → Shared → Prop} {s : Shared} {B : Heap}
theorem mergeSeg_nil {g : Sg} : mergeSeg [] g = [g] := rfl
theorem mergeSeg_eq {segs : List Sg} {g t : Sg} (e : segs.getLast? = some t) (q : t.y = g.y) : mergeSeg segs g = segs.dropLast ++ [⟨t.x, t.y, t.l + g.l⟩] := by unfold mergeSeg; rw [e]; exact if_pos q
theorem mergeSeg_ne {segs : List Sg} {g t : Sg} (e : segs.getLast? = some t) (q : ¬ t.y = g.y) : mergeSeg segs g = segs ++ [g] := by unfold mergeSeg; rw [e]; exact if_neg q
theorem merge_call {σh : Heap} {σg : Array GenState} {σd : Drawn} {σt : Nat} {σo : OsState} {a g : Addr} {items : Array Value} {segs : List Sg} {sg : Sg} {self : Value} {R : Result → Shared → Prop} (W : Wd w σh) (hf : Free w σh a) (hl : σh.PlainList a items) (hS : Segs σh items segs) (hz : items.size ≤ 50)
    (P : SegAt σh g sg.x sg.y sg.l) (h0 : 0 ≤ sg.l) (Ro : Rm A 8 60)
    (h : ∀ h' tk items', But a σh h' → h'.PlainList a items' → Segs h' items' (mergeSeg segs sg) → items'.size ≤ items.size + 1 → R (.ok (.ret .none)) ⟨h', σg, σd, tk, σo⟩) :
    codeAny (model prog w) A (.call (.ref 617) ⟨[self, .ref a, .ref g], []⟩) R ⟨σh, σg, σd, σt, σo⟩ := by
  have Ro : Rm A (7 + 1) (50 + 3) := Ro.le (by decide) (by decide)
  ((refine' code_fn ([("self", self), ("skylineq", .ref a), ("segment", .ref g)]) ?k0 ?kk ?k1 ?k2 ?k3 ?k4 ?k5 ?k6 ?k7 ?k8 ?k9 ?k10 ?k11 ?k12 ?_); (case k0 => assumption); (case kk => (first | assumption | exact Fz.keep (by assumption) | exact Kept.refl _)); (case k2 => k_is); (case k3 => k_is); (case k4 => rfl); (case k5 => exact binds_eq rfl); (case k6 => rfl); (case k7 => rfl); (case k8 => rfl); (case k9 => rfl); (case k10 => rfl); (case k11 => rfl); (case k12 => rfl); (case k1 => assumption); intro A' L env h₁ R' V F; (try dsimp only at V F); (try dsimp only))
  obtain ⟨B, WB, kB, hB, back⟩ := hf.hide
  have k₁ := F.keep
  have F := F.weaken kB
  have hl₀ := hl
  have hS₀ := hS
  have P₀ := P
  replace hl := hl.at (k₁ _)
  replace hS := hS.kept k₁
  replace P := P.kept k₁
  have hLa : a ≠ L := by
    obtain ⟨n, e⟩ := hl; intro q; obtain ⟨o, es, ep, ho, r, -⟩ := F.ns; rw [← q, e] at ho; cases ho; cases r
  have Rp : Rm A' 1 4 := R'.le (by decide) (by decide)
  repeat walk_at "sky_st"
  refine len_list hl.isList (by (first | lia | omega)) ?_
  repeat walk_at "sky_st"
  refine ite_e (fun he => ?_) (fun he => ?_)
  · have hn : segs = [] := List.eq_nil_of_length_eq_zero (by have := hS.1; (first | lia | omega))
    subst hn
    repeat walk_at "sky_st"
    refine meth_append hl ?_
    try dsimp only
    repeat walk_at "sky_st"
    refine app_plain hl (Nat.le_trans hz (by decide)) fun h₂ hl₂ kk => ?_
    try dsimp only
    repeat walk_at "sky_st"
    refine wpAny_Return_none ?_
    refine h _ _ _ (But.trans (But.of_kept k₁) kk) hl₂ ?_ (by rw [Array.size_push]; exact Nat.le_refl _)
    exact (hS.but_list hl kk).push (P.but_list hl kk) h0
  · obtain ⟨t, ht⟩ : ∃ t, segs.getLast? = some t := by
      cases q : segs.getLast? with
      | some t => exact ⟨t, rfl⟩
      | none => rw [List.getLast?_eq_none_iff] at q; have := hS.1; rw [q] at this; exact absurd (by rw [this]; rfl) he
    obtain ⟨ta, hta, Pt, ht0⟩ := hS.last ht
    repeat walk_at "sky_st"
    refine neg_int ?_
    refine item_last hl.isList hta ?_ rfl
    have WB₁ : Wd w h₁ := WB.keeps (kB.trans k₁)
    refine seg_top WB₁ Pt ht0 Rp fun h₂ tk₂ t₂ k₂ => ?_
    try dsimp only
    have F₂ := F.step k₂
    have P₂ := P.kept k₂
    have WB₂ := WB₁.keeps k₂
    repeat walk_at "sky_st"
    refine seg_top WB₂ P₂ h0 Rp fun h₃ tk₃ t₃ k₃ => ?_
    try dsimp only
    have F₃ := F₂.step k₃
    have k₁₃ := k₂.trans k₃
    have hl₃ := hl.at (k₁₃ _)
    have hS₃ := hS.kept k₁₃
    have P₃ := P.kept k₁₃
    have Pt₃ := Pt.kept k₁₃
    have WB₃ := WB₂.keeps k₃
    clear F₂ F k₂ k₃ WB₂ WB₁ P₂
    repeat walk_at "sky_st"
    refine ite_e (fun hy => ?_) (fun hy => ?_)
    · repeat walk_at "sky_st"
      refine neg_int ?_
      refine item_last hl₃.isList hta ?_ rfl
      (((try with_reducible refine AsK.go (by assumption) ?_); (with_reducible show wpAny _ _ (storeName _ _ _) _ _ _); refine st_localb (by assumption) (by assumption) (by exact rfl) ?_))
      intro h₄ F₄ b₄
      try dsimp only at b₄ ⊢
      have hl₄ := hl₃.at (b₄ _ · hLa)
      have PB := P₀.but_list hl₀ back
      obtain ⟨ta', hta', PtB, -⟩ := (hS₀.but_list hl₀ back).last ht
      rw [hta] at hta'; cases hta'
      have kb₄ : But a σh h₄ := fun b o n e => F₄.keep _ _ (back b o n e)
      clear F₃ WB₃
      repeat walk_at "sky_st"
      refine seg_start (WB.keeps F₄.keep) (PtB.kept F₄.keep) fun p tk₅ Pp => ?_
      try dsimp only at Pp ⊢
      repeat walk_at "sky_st"
      refine seg_length (WB.keeps F₄.keep) (PtB.kept F₄.keep) Rp fun h₅ tk₅ t₅ k₅ => ?_
      try dsimp only at k₅ ⊢
      have F₅ := F₄.step k₅
      have hl₅ := hl₄.at (k₅ _)
      have Pp := Pp.kept k₅
      replace k₅ := kb₄.trans (But.of_kept k₅)
      clear F₄ kb₄ b₄ hl₄
      repeat walk_at "sky_st"
      refine seg_length (WB.keeps F₅.keep) (PB.kept F₅.keep) Rp fun h₆ tk₆ t₆ k₆ => ?_
      try dsimp only at k₆ ⊢
      have F₆ := F₅.step k₆
      have hl₆ := hl₅.at (k₆ _)
      have Pp := Pp.kept k₆
      replace k₆ := k₅.trans (But.of_kept k₆)
      clear F₅ hl₅ k₅
      repeat walk_at "sky_st"
      refine new_seg (WB.keeps F₆.keep) Pp (R'.le (by decide) (by decide)) fun n h₇ tk₇ k₇ nn Pn => ?_
      try dsimp only at k₇ nn ⊢
      have F₇ := F₆.step k₇
      have hl₇ := hl₆.at (k₇ _)
      replace k₇ := k₆.trans (But.of_kept k₇)
      clear F₆ hl₆ k₆
      repeat walk_at "sky_st"
      refine neg_int ?_
      try dsimp only
      refine set_last hl₇ (by (first | lia | omega)) fun h₈ hl₈ sb => ?_
      try dsimp only
      repeat walk_at "sky_st"
      have kk := But.of_same sb
      refine h _ _ _ (k₇.trans kk) hl₈ ?_ (by rw [Array.size_setIfInBounds]; exact Nat.le_succ _)
      rw [mergeSeg_eq ht hy]
      refine Segs.setLast ((hS₀.but_list hl₀ back).kept (kk.kept F₇.keep hB)) (by rintro rfl; cases ht) (Pn.but_list hl₇ kk) ?_
      exact Int.add_nonneg ht0 h0
    · repeat walk_at "sky_st"
      refine meth_append hl₃ ?_
      try dsimp only
      repeat walk_at "sky_st"
      refine app_plain hl₃ (Nat.le_trans hz (by decide)) fun h₄ hl₄ kk => ?_
      try dsimp only
      repeat walk_at "sky_st"
      refine h _ _ _ (But.trans (But.of_kept (k₁.trans k₁₃)) kk) hl₄ ?_ (by rw [Array.size_push]; exact Nat.le_refl _)
      rw [mergeSeg_ne ht hy]
      exact (hS₃.but_list hl₃ kk).push (P₃.but_list hl₃ kk) h0
end
/- an object that is no object of a class of Python's own and no namespace -/
noncomputable def OddO (o : Obj) : Prop := (∀ C dx, o ≠ instObj C dx) ∧ (∀ es ep, o.data ≠ .dict es ep) ∧ ∀ xs n, o ≠ { cls := .type "tuple", data := .seq xs n }
noncomputable def Odd (h : Heap) (l : Addr) : Prop := ∀ o, h.get? l = some o → OddO o
noncomputable def Has (h : Heap) (l : Addr) : Prop := ∃ o, h.get? l = some o ∧ OddO o
theorem Has.odd {h : Heap} {l : Addr} (x : Has h l) : Odd h l := fun o e => by obtain ⟨o', e', q⟩ := x; rw [e] at e'; cases e'; exact q
theorem Has.kept {h h' : Heap} {l : Addr} (x : Has h l) (k : Kept h h') : Has h' l := let ⟨o, e, q⟩ := x; ⟨o, k _ _ e, q⟩
theorem Has.plain {h : Heap} {l : Addr} {items : Array Value} (x : h.PlainList l items) : Has h l := by
  obtain ⟨n, e⟩ := x
  exact ⟨_, e, (fun _ _ q => by cases q), (fun _ _ q => by cases q), fun xs n' q => by
    have c : Value.type "list" = Value.type "tuple" := congrArg Obj.cls q
    injection c with c
    exact absurd c (by decide)⟩
theorem Odd.plain {h : Heap} {l : Addr} {items : Array Value} (x : h.PlainList l items) : Odd h l := (Has.plain x).odd
theorem Odd.none {h : Heap} {l : Addr} (x : h.get? l = none) : Odd h l := fun o e => by rw [x] at e; cases e
theorem Inst.odd {h h' : Heap} {x C l : Addr} {m : Str → Option Value} (I : Inst h x C m) (hl : Odd h l) (k : But l h h') : Inst h' x C m := by
  obtain ⟨d, hx, o, es, ep, ho, r1, r2, r3, r4⟩ := I
  refine ⟨d, k _ _ ?_ hx, o, es, ep, k _ _ ?_ ho, r1, r2, r3, r4⟩
  · rintro rfl; exact (hl _ hx).1 _ _ rfl
  · rintro rfl; exact (hl _ ho).2.1 _ _ r1
theorem PtAt.odd {h h' : Heap} {p l : Addr} {x y : Int} (P : PtAt h p x y) (hl : Odd h l) (k : But l h h') : PtAt h' p x y :=
  let ⟨m, tx, ty, I, r, r2, r3⟩ := P; ⟨m, tx, ty, I.odd hl k, r, r2, r3⟩
theorem SegAt.odd {h h' : Heap} {a l : Addr} {x y n : Int} (S : SegAt h a x y n) (hl : Odd h l) (k : But l h h') : SegAt h' a x y n :=
  let ⟨m, p, q, I, r1, r2, P, Q⟩ := S; ⟨m, p, q, I.odd hl k, r1, r2, P.odd hl k, Q.odd hl k⟩
theorem Segs.odd {h h' : Heap} {l : Addr} {segs : List Sg} {items : Array Value} (S : Segs h items segs) (hl : Odd h l) (k : But l h h') : Segs h' items segs :=
  ⟨S.1, fun i sg e => let ⟨a, b, c, d⟩ := S.2 i sg e; ⟨a, b, c.odd hl k, d⟩⟩
theorem RectAt.odd {h h' : Heap} {r dx l : Addr} {x y w n : Int} {rid : Value} (P : RectAt h r dx x y w n rid) (hl : Odd h l) (k : But l h h') : RectAt h' r dx x y w n rid := by
  obtain ⟨a, m, tx, ty, tw, tl, ⟨o, es, ep, ho, r1, r, r5, r6⟩, b1, b2, b3, b4, b5, b6⟩ := P
  refine ⟨k _ _ ?_ a, m, tx, ty, tw, tl, ⟨o, es, ep, k _ _ ?_ ho, r1, r, r5, r6⟩, b1, b2, b3, b4, b5, b6⟩
  · rintro rfl; exact (hl _ a).1 _ _ rfl
  · rintro rfl; exact (hl _ ho).2.1 _ _ r1
structure Hides (h B : Heap) (L : Addr) (Hs : List Addr) (mm : Str → Option Value) : Prop where
  ns : h.Ns L mm
  odd : ∀ x ∈ Hs, Odd h x
  get : ∀ b o, h.get? b = some o → b ≠ L → b ∉ Hs → B.get? b = some o
theorem Fz.hides {B h : Heap} {L : Addr} {m : Str → Option Value} (F : Fz B L h m) (Hs : List Addr) (hn : ∀ x ∈ Hs, B.get? x = none) (odd : ∀ x ∈ Hs, Odd h x) :
    ∃ B', Fz B' L h m ∧ Kept B B' ∧ (∀ x ∈ Hs, B'.get? x = none) ∧ Hides h B' L Hs m :=
  let ⟨B', a, b, c, d⟩ := F.rebase Hs hn; ⟨B', a, b, d, F.ns, odd, c⟩
theorem Hides.ns_ne {h B : Heap} {L dx : Addr} {Hs : List Addr} {mm m : Str → Option Value} {z : Nat} (X : Hides h B L Hs mm) (N : NsZ h dx m z) {n : Str} (hn : mm n ≠ m n) : dx ≠ L := by
  rintro rfl
  obtain ⟨o, es, ep, ho, r1, r2, r3, r4⟩ := N
  obtain ⟨o', es', ep', ho', s1, s2, s3⟩ := X.ns
  rw [ho] at ho'; cases ho'
  rw [r1] at s1; cases s1
  exact hn ((s3 n).symm.trans (r3 n))
theorem Hides.nsz {h B : Heap} {L dx : Addr} {Hs : List Addr} {mm m : Str → Option Value} {z : Nat} (X : Hides h B L Hs mm) (N : NsZ h dx m z) {n : Str} (hn : mm n ≠ m n) : NsZ B dx m z := by
  have hne := X.ns_ne N hn
  obtain ⟨o, es, ep, ho, r1, r, r5, r6⟩ := N
  exact ⟨o, es, ep, X.get _ _ ho hne fun q => (X.odd _ q _ ho).2.1 _ _ r1, r1, r, r5, r6⟩
theorem Hides.obj {h B : Heap} {L x C dx : Addr} {Hs : List Addr} {mm : Str → Option Value} (X : Hides h B L Hs mm) (hx : h.get? x = some (instObj C dx)) : B.get? x = some (instObj C dx) := by
  refine X.get _ _ hx ?_ fun q => ?_
  · rintro rfl; obtain ⟨o', es', ep', ho', s1, -⟩ := X.ns; rw [hx] at ho'; cases ho'; cases s1
  · exact (X.odd _ q _ hx).1 _ _ rfl
theorem Hides.inst {h B : Heap} {L x C : Addr} {Hs : List Addr} {mm m : Str → Option Value} (X : Hides h B L Hs mm) (I : Inst h x C m) {n : Str} (hn : mm n ≠ m n) : Inst B x C m :=
  let ⟨dx, a, N⟩ := I; ⟨dx, X.obj a, X.nsz N hn⟩
theorem Hides.pt {h B : Heap} {L p : Addr} {Hs : List Addr} {mm : Str → Option Value} {x y : Int} (X : Hides h B L Hs mm) (P : PtAt h p x y) {n : Str} (hn : mm n ≠ none) (nx : n ≠ "x" := by decide) (ny : n ≠ "y" := by decide) : PtAt B p x y :=
  let ⟨m, tx, ty, I, a, b, c⟩ := P; ⟨m, tx, ty, X.inst I (n := n) (by rw [c n nx ny]; exact hn), a, b, c⟩
theorem Hides.seg {h B : Heap} {L a : Addr} {Hs : List Addr} {mm : Str → Option Value} {x y l : Int} (X : Hides h B L Hs mm) (S : SegAt h a x y l) (hs : mm "start" = none) {n : Str} (hn : mm n ≠ none) (nx : n ≠ "x" := by decide) (ny : n ≠ "y" := by decide) : SegAt B a x y l :=
  let ⟨m, p, q, I, r1, r2, P, Q⟩ := S; ⟨m, p, q, X.inst I (n := "start") (by rw [hs, r1]; simp), r1, r2, X.pt P hn nx ny, X.pt Q hn nx ny⟩
theorem Hides.segs {h B : Heap} {L : Addr} {Hs : List Addr} {mm : Str → Option Value} {items : Array Value} {segs : List Sg} (X : Hides h B L Hs mm) (S : Segs h items segs) (hs : mm "start" = none) {n : Str} (hn : mm n ≠ none) (nx : n ≠ "x" := by decide) (ny : n ≠ "y" := by decide) : Segs B items segs :=
  ⟨S.1, fun i sg e => let ⟨a, b, c, d⟩ := S.2 i sg e; ⟨a, b, X.seg c hs hn nx ny, d⟩⟩
theorem Hides.rect {h B : Heap} {L r dx : Addr} {Hs : List Addr} {mm : Str → Option Value} {x y w l : Int} {rid : Value} (X : Hides h B L Hs mm) (P : RectAt h r dx x y w l rid) (hs : mm "rid" = none) : RectAt B r dx x y w l rid :=
  let ⟨a, m, tx, ty, tw, tl, N, b1, b2, b3, b4, b5, b6⟩ := P; ⟨X.obj a, m, tx, ty, tw, tl, X.nsz N (n := "rid") (by rw [hs, b5]; simp), b1, b2, b3, b4, b5, b6⟩
theorem Hides.list {h B : Heap} {L l : Addr} {Hs : List Addr} {mm : Str → Option Value} {items : Array Value} (X : Hides h B L Hs mm) (P : h.PlainList l items) (hl : l ∉ Hs) : B.PlainList l items := by
  obtain ⟨n, e⟩ := P
  refine ⟨n, X.get _ _ e ?_ hl⟩
  rintro rfl; obtain ⟨o', es', ep', ho', s1, -⟩ := X.ns; rw [e] at ho'; cases ho'; cases s1
section
variable {prog : Program} {w : World} {A : Around} {E : Value → Shared → Prop} {s : Shared} {B : Heap} {L : Addr} {m : Str → Option Value} {env : Env} {names : List (Str × NameKind)} {cells : List (Str × Addr)}
inductive LoopSt (gs : Array GenState) (dr : Drawn) (os : OsState) (L : Addr) (Hs : List Addr) (J : Heap → Heap → (Str → Option Value) → Prop) (B₁ : Heap) (s' : Shared) : Prop
  | mk (B₂ h' : Heap) (m' : Str → Option Value) (tk' : Nat) (f1 : s' = ⟨h', gs, dr, tk', os⟩) (f2 : Kept B₁ B₂) (f3 : Fz B₂ L h' m') (f4 : ∀ x ∈ Hs, B₂.get? x = none) (f5 : J B₂ h' m') : LoopSt gs dr os L Hs J B₁ s'
noncomputable def LoopBody (prog : Program) (w : World) (A : Around) (E : Value → Shared → Prop) (gs : Array GenState) (dr : Drawn) (os : OsState) (env : Env) (L : Addr) (Hs : List Addr) (J : Heap → Heap → (Str → Option Value) → Prop) (body : List Stmt) (Q : Flow → Shared → Prop) (B₁ h : Heap) (tk : Nat) : Prop :=
  wpAny (model prog w) A (execs body env) (fun f s' => match f with
    | .next | .cont => LoopSt gs dr os L Hs J B₁ s'
    | .brk => Q .next s'
    | .ret v => Q (.ret v) s') E ⟨h, gs, dr, tk, os⟩
theorem loop_w {σh : Heap} {σg : Array GenState} {σd : Drawn} {σt : Nat} {σo : OsState} {Q : Flow → Shared → Prop} {x : Str} {px : Pos} {body : List Stmt} {I : Addr} {fp : List Addr} {n : Nat} {P : Nat → Value → Prop} {St : Nat → Heap → Prop} {s₀ : Heap}
    (hw : Walks prog w A I fp [I] n P St) (V : Ev env L names cells) (hx : names.lookup x = some .local) (hI : s₀.get? I = none) (hL : L ∉ fp) (Hs : List Addr) (hHs : ∀ x ∈ Hs, x ∉ fp)
    (F : Fz B L σh m) (hk : Kept B s₀) (hh : ∀ x ∈ Hs, B.get? x = none) (hst : St 0 σh) (hodd : ∀ i h, St i h → Odd h I)
    (J : Nat → Heap → Heap → (Str → Option Value) → Prop) (h0 : J 0 B σh m)
    (frame : ∀ i B B' h h' m, J i B h m → Odd B I → But I B B' → (∀ b o, b ≠ I → b ≠ L → h.get? b = some o → h'.get? b = some o) → J i B' h' m)
    (step : ∀ i v B₁ h m₁ tk, i < n → P i v → J i B₁ h m₁ → Kept B B₁ → Fz B₁ L h (upd x v m₁) → (∀ x ∈ Hs, B₁.get? x = none) →
      LoopBody prog w A E σg σd σo env L Hs (J (i + 1)) body Q B₁ h tk)
    (done : ∀ B₁ h m₁ tk, J n B₁ h m₁ → Kept B B₁ → Fz B₁ L h m₁ → (∀ x ∈ Hs, B₁.get? x = none) → Q .next ⟨h, σg, σd, tk, σo⟩)
    (hE : PassesOwn (model prog w) A env E) :
    codeAny (model prog w) A (.forLoop (.Name x px) (.ref I) body [] env) (fun r s' => match r with | .ok f => Q f s' | .error e => cameBackBy (model prog w) A env E e s') ⟨σh, σg, σd, σt, σo⟩ := by
  have hBI : B.get? I = none := by
    cases q : B.get? I with
    | none => rfl
    | some o => have := hk _ _ q; rw [hI] at this; cases this
  refine codeAny_forLoop
    (fun k s' => ∃ B₁ h' tk m' i, s' = ⟨h', σg, σd, tk, σo⟩ ∧ St i h' ∧ Fz B₁ L h' m' ∧ Kept B B₁ ∧ (∀ x ∈ Hs, B₁.get? x = none) ∧ J i B₁ h' m' ∧ i ≤ n ∧ k = n + 1 - i) ?_ (n + 1)
    ⟨B, σh, σt, m, 0, rfl, hst, F, Kept.refl _, hh, h0, Nat.zero_le _, rfl⟩
  rintro k s' ⟨B₁, h', tk, m', i, rfl, hst', F', kB, hh', hJ, hi, rfl⟩
  have oddB : Odd B₁ I := fun o e => hodd _ _ hst' _ (F'.keep _ _ e)
  have hIL : I ≠ L := by
    rintro rfl
    obtain ⟨o, es, ep, ho, r, -⟩ := F'.ns
    exact (hodd _ _ hst' _ ho).2.1 _ _ r
  have hIH : ∀ x ∈ Hs, x ≠ I := fun x hx q => hHs x hx (q ▸ hw.sub I (by simp))
  -- a heap that differs at I (and L) alone: the base over it
  have up : ∀ h₂ m₂, h₂.Ns L m₂ → (∀ b o, b ≠ I → b ≠ L → h'.get? b = some o → h₂.get? b = some o) →
      But I B₁ (hideAll h₂ (L :: Hs)) ∧ Kept B (hideAll h₂ (L :: Hs)) ∧ Fz (hideAll h₂ (L :: Hs)) L h₂ m₂ ∧ (∀ x ∈ Hs, (hideAll h₂ (L :: Hs)).get? x = none) := by
    intro h₂ m₂ hn hk₂
    have b1 : But I B₁ (hideAll h₂ (L :: Hs)) := by
      intro b o nb e
      have nL : b ≠ L := fun q => by rw [q, F'.hid] at e; cases e
      refine hideAll_get _ (hk₂ b o nb nL (F'.keep _ _ e)) fun q => ?_
      rcases List.mem_cons.mp q with q | q
      · exact nL q
      · rw [hh' _ q] at e; cases e
    exact ⟨b1, fun b o e => b1 b o (fun q => by rw [q, hBI] at e; cases e) (kB b o e), ⟨hn, fun b o e => of_hideAll _ e, hideAll_none _ (.head _)⟩, fun x hx => hideAll_none _ (.tail _ hx)⟩
  by_cases hlt : i < n
  · refine hw.item i _ _ _ hlt hst' fun v h₁ tk₁ hP hst₁ hk₁ => ?_
    have ns₁ : h₁.Ns L m' := F'.ns.at' fun o e => hk₁ _ o (fun q => hIL (List.mem_singleton.mp q).symm) e
    refine wpAny_assign_Name (wpAny_storeName_local (by show env.scope.names.lookup x = _; rw [V.n]; exact hx) (V.L ▸ ns₁) (fun h₂ hn₂ hs₂ => ?_) (by rw [V.k]; rfl))
    rw [V.L] at hn₂ hs₂
    have k₂ : ∀ b o, b ≠ I → b ≠ L → h'.get? b = some o → h₂.get? b = some o := fun b o n1 n2 e => (hs₂.2 b n2).trans (hk₁ b o (fun q => n1 (List.mem_singleton.mp q)) e)
    obtain ⟨b1, b2, b3, b4⟩ := up h₂ _ hn₂ k₂
    have hst₂ : St (i + 1) h₂ := hw.frame _ _ _ hst₁ fun b hb o e => (hs₂.2 b fun q => hL (q ▸ hb)).trans e
    refine wpAny_passesOwn hE (wpAny_mono (step i v _ h₂ m' _ hlt hP (frame _ _ _ _ _ _ hJ oddB b1 k₂) b2 b3 b4) (fun f s₃ h₃ => ?_) fun _ _ e => e)
    have fin : LoopSt σg σd σo L Hs (J (i + 1)) (hideAll h₂ (L :: Hs)) s₃ →
        ∃ k', k' < n + 1 - i ∧ ∃ B₁ h' tk m' i, s₃ = ⟨h', σg, σd, tk, σo⟩ ∧ St i h' ∧ Fz B₁ L h' m' ∧ Kept B B₁ ∧ (∀ x ∈ Hs, B₁.get? x = none) ∧ J i B₁ h' m' ∧ i ≤ n ∧ k' = n + 1 - i := by
      rintro ⟨B₂, hX, m₃, tk₃, rfl, kb, F₃, hh₃, hJ₃⟩
      refine ⟨n + 1 - (i + 1), by (first | exact nb5 (by assumption) | lia), B₂, hX, tk₃, m₃, i + 1, rfl, ?_, F₃, b2.trans kb, hh₃, hJ₃, hlt, rfl⟩
      refine hw.frame _ _ _ hst₂ fun b hb o e => F₃.keep _ _ (kb _ _ (hideAll_get _ e fun q => ?_))
      rcases List.mem_cons.mp q with q | q
      · exact hL (q ▸ hb)
      · exact hHs _ q hb
    match f, h₃ with
    | .next, h₃ => exact fin h₃
    | .cont, h₃ => exact fin h₃
    | .brk, h₃ => exact h₃
    | .ret v, h₃ => exact h₃
  · have hin : i = n := by (first | exact Nat.le_antisymm (by assumption) (Nat.not_lt.mp (by assumption)) | lia)
    subst hin
    refine hw.done _ _ _ hst' fun h₁ tk₁ hk₁ => wpAny_execs_nil ?_
    have ns₁ : h₁.Ns L m' := F'.ns.at' fun o e => hk₁ _ o (fun q => hIL (List.mem_singleton.mp q).symm) e
    have k₂ : ∀ b o, b ≠ I → b ≠ L → h'.get? b = some o → h₁.get? b = some o := fun b o n1 n2 e => hk₁ b o (fun q => n1 (List.mem_singleton.mp q)) e
    obtain ⟨b1, b2, b3, b4⟩ := up h₁ _ ns₁ k₂
    exact done _ h₁ _ _ (frame _ _ _ _ _ _ hJ oddB b1 k₂) b2 b3 b4

theorem for_list {σh : Heap} {σg : Array GenState} {σd : Drawn} {σt : Nat} {σo : OsState} {Q : Flow → Shared → Prop} {x : Str} {px : Pos} {body : List Stmt} {ax : Addr} {items : Array Value}
    (V : Ev env L names cells) (hA : A.handled = none) (hx : names.lookup x = some .local) (Hs : List Addr) (F : Fz B L σh m) (hh : ∀ x ∈ Hs, B.get? x = none) (hHs : ∀ x ∈ Hs, ∃ o, σh.get? x = some o) (hl : B.IsList ax items)
    (J : Nat → Heap → Heap → (Str → Option Value) → Prop) (h0 : J 0 B σh m)
    (frame : ∀ I, σh.get? I = none → ∀ i B B' h h' m, J i B h m → Odd B I → But I B B' → (∀ b o, b ≠ I → b ≠ L → h.get? b = some o → h'.get? b = some o) → J i B' h' m)
    (step : ∀ i v B₁ h m₁ tk, items[i]? = some v → J i B₁ h m₁ → Kept B B₁ → Fz B₁ L h (upd x v m₁) → (∀ x ∈ Hs, B₁.get? x = none) →
      LoopBody prog w A E σg σd σo env L Hs (J (i + 1)) body Q B₁ h tk)
    (done : ∀ B₁ h m₁ tk, J items.size B₁ h m₁ → Kept B B₁ → Fz B₁ L h m₁ → (∀ x ∈ Hs, B₁.get? x = none) → Q .next ⟨h, σg, σd, tk, σo⟩)
    (hE : PassesOwn (model prog w) A env E) :
    wpAny (model prog w) A (pyIter (.ref ax)) (fun it s₂ => codeAny (model prog w) A (.forLoop (.Name x px) it body [] env) (fun r s' => match r with | .ok f => Q f s' | .error e => cameBackBy (model prog w) A env E e s') s₂) E ⟨σh, σg, σd, σt, σo⟩ := by
  obtain ⟨o, ho, r⟩ := id hl
  have hos := F.keep _ _ ho
  obtain ⟨oL, es, ep, hoL, -⟩ := F.ns
  have hn : ∀ b o, σh.get? b = some o → b ≠ σh.objs.size := fun b o e => Nat.ne_of_lt (Heap.lt_size e)
  refine wpAny_pyIter_list (hl.at fun o e => F.keep _ _ e) ?_
  have kp : Kept σh (σh.push { cls := .type "list_iterator", data := .fields #[.ref ax, .int 0 0] }) := fun b o e => Heap.get?_push_of_some _ e
  have hJ := frame σh.objs.size (get?_size _) 0 B B σh _ m h0 (Odd.none (by
    cases q : B.get? σh.objs.size with
    | none => rfl
    | some o => exact absurd (F.keep _ _ q) (by rw [get?_size]; simp))) (fun b o _ e => e) (fun b o _ _ e => kp b o e)
  refine loop_w (s₀ := σh) (Walks.list hA σh.objs.size ax (hn _ _ hos) items) V hx (get?_size _) (fun q => ?_) Hs (fun x hx q => ?_) (F.step kp) F.keep hh
    ⟨⟨_, Heap.get?_push_size _ rfl, rfl, rfl⟩, (hl.at fun o e => F.keep _ _ e).push _⟩ (fun i h st => ?_) J hJ (frame _ (get?_size _)) (fun i v B₁ h m₁ tk _ => step i v B₁ h m₁ tk) done hE
  · rcases List.mem_cons.mp q with q | q
    · exact hn _ _ hoL q
    · rw [← List.mem_singleton.mp q, F.hid] at ho; cases ho
  · rcases List.mem_cons.mp q with q | q
    · obtain ⟨ox, hox⟩ := hHs x hx; exact hn _ _ hox q
    · rw [← List.mem_singleton.mp q, hh _ hx] at ho; cases ho
  · obtain ⟨⟨o', ho', c, d⟩, -⟩ := st
    intro o e; rw [ho'] at e; cases e
    exact ⟨(fun C dx q => by rw [q] at c; cases c), (fun es ep q => by rw [d] at q; cases q), (fun xs n q => by rw [q] at d; cases d)⟩
end
/- a frame: the base B holds what stands, L are the locals (m), Hs are the lists that turn -/
structure Fm (w : World) (Hs : List Addr) (B : Heap) (L : Addr) (h : Heap) (m : Str → Option Value) : Prop where
  W : Wd w B
  F : Fz B L h m
  hid : ∀ x ∈ Hs, B.get? x = none
  odd : ∀ x ∈ Hs, Has h x
theorem Fm.Wh {w : World} {Hs : List Addr} {B h : Heap} {L : Addr} {m : Str → Option Value} (X : Fm w Hs B L h m) : Wd w h := X.W.keeps X.F.keep
theorem Fm.keep {w : World} {Hs : List Addr} {B h : Heap} {L : Addr} {m : Str → Option Value} (X : Fm w Hs B L h m) : Kept B h := X.F.keep
theorem Fm.step {w : World} {Hs : List Addr} {B h h' : Heap} {L : Addr} {m : Str → Option Value} (X : Fm w Hs B L h m) (k : Kept h h') : Fm w Hs B L h' m :=
  ⟨X.W, X.F.step k, X.hid, fun x hx => (X.odd x hx).kept k⟩
inductive Upd (w : World) (Hs : List Addr) (B h : Heap) (L : Addr) (m : Str → Option Value) : Prop
  | mk (B' : Heap) (X : Fm w Hs B' L h m) (k : Kept B B') (H : Hides h B' L Hs m) : Upd w Hs B h L m
theorem Fm.up {w : World} {Hs : List Addr} {B h : Heap} {L : Addr} {m : Str → Option Value} (X : Fm w Hs B L h m) : Upd w Hs B h L m := by
  obtain ⟨B', F, k, n, H⟩ := X.F.hides Hs X.hid fun x hx => (X.odd x hx).odd
  exact ⟨B', ⟨X.W.keeps k, F, n, X.odd⟩, k, H⟩
theorem Fm.neo {w : World} {Hs : List Addr} {B h : Heap} {L a : Addr} {m : Str → Option Value} (X : Fm w Hs B L h m) (hl : Has h a) : a ≠ L := by
  obtain ⟨o, e, q⟩ := hl; rintro rfl; obtain ⟨o', es, ep, ho, r, -⟩ := X.F.ns; rw [e] at ho; cases ho; exact q.2.1 _ _ r
theorem Fm.ne {w : World} {Hs : List Addr} {B h : Heap} {L a : Addr} {m : Str → Option Value} {items : Array Value} (X : Fm w Hs B L h m) (hl : h.PlainList a items) : a ≠ L := X.neo (Has.plain hl)
/- one object of Hs turns -/
theorem Fm.buto {w : World} {Hs : List Addr} {B h h' : Heap} {L a : Addr} {m : Str → Option Value} (X : Fm w Hs B L h m) (ha : a ∈ Hs) (k : But a h h') (hl' : Has h' a) : Fm w Hs B L h' m :=
  ⟨X.W, X.F.but k (X.neo (X.odd _ ha)) (X.hid _ ha), X.hid, fun x hx => by
    by_cases e : x = a
    · subst e; exact hl'
    · obtain ⟨o, p, q⟩ := X.odd x hx; exact ⟨o, k _ _ e p, q⟩⟩
theorem Fm.but {w : World} {Hs : List Addr} {B h h' : Heap} {L a : Addr} {m : Str → Option Value} {items its : Array Value} (X : Fm w Hs B L h m) (ha : a ∈ Hs) (_hl : h.PlainList a items) (k : But a h h') (hl' : h'.PlainList a its) : Fm w Hs B L h' m :=
  X.buto ha k (Has.plain hl')
theorem Fm.hideo {w : World} {Hs : List Addr} {B h : Heap} {L a : Addr} {m : Str → Option Value} (X : Fm w Hs B L h m) (hl : Has h a) (hn : B.get? a = none) : Fm w (a :: Hs) B L h m :=
  ⟨X.W, X.F, fun x hx => (List.mem_cons.mp hx).elim (fun e => e ▸ hn) (X.hid x), fun x hx => (List.mem_cons.mp hx).elim (fun e => e ▸ hl) (X.odd x)⟩
/- a list that no one else holds joins Hs -/
theorem Fm.hide {w : World} {Hs : List Addr} {B h : Heap} {L a : Addr} {m : Str → Option Value} {items : Array Value} (X : Fm w Hs B L h m) (hl : h.PlainList a items) (hn : B.get? a = none) : Fm w (a :: Hs) B L h m := X.hideo (Has.plain hl) hn
theorem Fm.fresh {w : World} {Hs : List Addr} {B h : Heap} {L : Addr} {m : Str → Option Value} (X : Fm w Hs B L h m) {a : Addr} (n : h.get? a = none) : B.get? a = none := by
  cases q : B.get? a with
  | none => rfl
  | some o => have := X.keep _ _ q; rw [n] at this; cases this
theorem push_list (h : Heap) (vs : List Value) : (h.push { cls := .type "list", data := .seq vs.toArray }).PlainList h.objs.size vs.toArray := ⟨_, Heap.get?_push_size _ rfl⟩
theorem Kept.push (h : Heap) (o : Obj) : Kept h (h.push o) := fun _ _ e => Heap.get?_push_of_some _ e
theorem Fm.of {w : World} {B h : Heap} {L : Addr} {m : Str → Option Value} (W : Wd w B) (F : Fz B L h m) : Fm w [] B L h m := ⟨W, F, (fun _ h => nomatch h), (fun _ h => nomatch h)⟩
section
variable {prog : Program} {w : World} {A : Around} {E : Value → Shared → Prop} {s : Shared} {B : Heap} {L : Addr} {m : Str → Option Value} {env : Env} {names : List (Str × NameKind)} {cells : List (Str × Addr)} {Hs : List Addr}
theorem m_local {x : Str} {pos : Pos} {v : Value} {Q : Value → Shared → Prop} (V : Ev env L names cells) (X : Fm w Hs B L s.heap m) (hl : (names.lookup x, x == ("__debug__" : Str)) = (some .local, false)) (hv : m x = some v) (h : Q v s)
     : wpAny (model prog w) A (eval (.Name x pos) env) Q E s := nm_local V X.F hl hv h
theorem m_attr {x attr : Str} {pos pos' : Pos} {v : Value} {Q : Value → Shared → Prop} (V : Ev env L names cells) (X : Fm w Hs B L s.heap m) (hl : (names.lookup x, x == ("__debug__" : Str)) = (some .local, false)) (hv : m x = some v) (h : wpAny (model prog w) A (getAttr v attr true) Q E s)
     : wpAny (model prog w) A (eval (.Attribute (.Name x pos) attr pos') env) Q E s := Attribute_any_ (m_local V X hl hv h)
theorem m_item {x : Str} {pos pos' : Pos} {v : Value} {rest : List PySem.Expr} {Q : List Value → Shared → Prop} (V : Ev env L names cells) (X : Fm w Hs B L s.heap m) (hl : (names.lookup x, x == ("__debug__" : Str)) = (some .local, false)) (hv : m x = some v)
    (h : wpAny (model prog w) A (spliced (backTo pos' (starEach rest env))) (fun vs s₂ => Q (v :: vs) s₂) E s)  :
    wpAny (model prog w) A (spliced (backTo pos' (starEach (.Name x pos :: rest) env))) Q E s := wpAny_items_cons (m_local V X hl hv h)
theorem m_item1 {x : Str} {pos pos' : Pos} {v : Value} {Q : List Value → Shared → Prop} (V : Ev env L names cells) (X : Fm w Hs B L s.heap m) (hl : (names.lookup x, x == ("__debug__" : Str)) = (some .local, false)) (hv : m x = some v)
    (h : Q [v] s)  :
    wpAny (model prog w) A (spliced (backTo pos' (starEach [.Name x pos] env))) Q E s := wpAny_items_cons (m_local V X hl hv (wpAny_items_nil h))
theorem m_store {σh : Heap} {σg : Array GenState} {σd : Drawn} {σt : Nat} {σo : OsState} {x : Str} {v : Value} {Q : Unit → Shared → Prop} (V : Ev env L names cells) (X : Fm w Hs B L σh m) (hl : names.lookup x = some .local)
    (h : ∀ h' tk, Fm w Hs B L h' (upd x v m) → (∀ a its, σh.PlainList a its → h'.PlainList a its) → But L σh h' → Q () ⟨h', σg, σd, tk, σo⟩) : wpAny (model prog w) A (storeName env x v) Q E ⟨σh, σg, σd, σt, σo⟩ :=
  st_localb V X.F hl fun h' F' b =>
    have q : ∀ a its, σh.PlainList a its → h'.PlainList a its := fun a its p => p.at fun o e => b _ _ (X.ne p) e
    h h' _ ⟨X.W, F', X.hid, fun x hx => let ⟨o, p, r⟩ := X.odd x hx; ⟨o, b _ _ (X.neo (X.odd x hx)) p, r⟩⟩ q b
theorem m_global {x : Str} {pos : Pos} {v : Value} {Q : Value → Shared → Prop} (V : Ev env L names cells) (X : Fm w Hs B L s.heap m) (hl : (names.lookup x, x == ("__debug__" : Str)) = (some .globalImplicit, false))
    (e : nsIn (kHead.heap_1 w.params) mainGlobals x = some (some v)) (h : Q v s)  : wpAny (model prog w) A (eval (.Name x pos) env) Q E s := nm_global X.F X.W V hl e h
theorem m_builtin {x : Str} {pos : Pos} {v : Value} {Q : Value → Shared → Prop} (V : Ev env L names cells) (X : Fm w Hs B L s.heap m) (hl : names.lookup x = some .globalImplicit)
    (e : nsIn (kHead.heap_1 w.params) mainGlobals x = some none) (hv : bootL.lookup x = some v) (h : Q v s)  :
    wpAny (model prog w) A (eval (.Name x pos) env) Q E s := nm_builtin X.F X.W V hl e hv h
theorem m_cf {f : Addr} {pos : Pos} {first : List Value} {e : PySem.Expr} {rest : List PySem.Expr} {Q : Value → Shared → Prop} (X : Fm w Hs B L s.heap m) (hk : keepIn (kHead.heap_1 w.params) (.ref f) = true)
    (he : starEach (e :: rest) env = (false, eval e env) :: starEach rest env) (hplain : (backTo pos (starEach rest env)).any (·.1) = false)
    (h : wpAny (model prog w) A (spliced (backTo pos (starEach (e :: rest) env))) (fun vs s₁ => Kept B s₁.heap ∧ wpAny (model prog w) A (call (.ref f) (first ++ vs)) Q E s₁) E s)
    :
    wpAny (model prog w) A (callWith pos (.ref f) first (backTo pos (starEach (e :: rest) env)) []) Q E s := callWith_f X.W hk he hplain h
theorem m_cfm {f : Addr} {pos : Pos} {first : List Value} {e : PySem.Expr} {rest : List PySem.Expr} {Q : Value → Shared → Prop} (X : Fm w Hs B L s.heap m) (hk : keepIn (kHead.heap_1 w.params) (.ref f) = true)
    (he : starEach (e :: rest) env = (false, eval e env) :: starEach rest env) (hplain : (backTo pos (starEach rest env)).any (·.1) = false)
    (h : wpAny (model prog w) A (spliced (backTo pos (starEach (e :: rest) env))) (fun vs s₁ => Kept B s₁.heap ∧ wpAny (model prog w) A (call (.ref f) (first ++ vs)) Q E s₁) E s)
    :
    wpAny (model prog w) A (callWith pos (.ref f) first (backTo pos (starEach (e :: rest) env)) (backToKw pos (keywordEach [] env))) Q E s := callWith_f X.W hk he hplain h
theorem m_cfn {prog : Program} {w : World} {A : Around} {E : Value → Shared → Prop} {s : Shared} {env : Env} {pos : Pos} {e : PySem.Expr} {rest : List PySem.Expr} {Q : Value → Shared → Prop} {f : Addr} {Hs : List Addr} {B : Heap} {L : Addr} {m : Str → Option Value} (X : Fm w Hs B L s.heap m) (hk : keepIn (kHead.heap_1 w.params) (.ref f) = true) (he : starEach (e :: rest) env = (false, eval e env) :: starEach rest env) (hplain : (backTo pos (starEach rest env)).any (·.1) = false)
    (h : wpAny (model prog w) A (spliced (backTo pos (starEach (e :: rest) env))) (fun vs s₁ => Kept B s₁.heap ∧ wpAny (model prog w) A (call (.ref f) vs) Q E s₁) E s) : wpAny (model prog w) A (callWith pos (.ref f) [] (backTo pos (starEach (e :: rest) env)) []) Q E s := callWith_f X.W hk he hplain h
theorem m_cfm1 {prog : Program} {w : World} {A : Around} {E : Value → Shared → Prop} {s : Shared} {env : Env} {pos : Pos} {e : PySem.Expr} {rest : List PySem.Expr} {Q : Value → Shared → Prop} {f : Addr} {Hs : List Addr} {B : Heap} {L : Addr} {m : Str → Option Value} {x0 : Value} (X : Fm w Hs B L s.heap m) (hk : keepIn (kHead.heap_1 w.params) (.ref f) = true) (he : starEach (e :: rest) env = (false, eval e env) :: starEach rest env) (hplain : (backTo pos (starEach rest env)).any (·.1) = false)
    (h : wpAny (model prog w) A (spliced (backTo pos (starEach (e :: rest) env))) (fun vs s₁ => Kept B s₁.heap ∧ wpAny (model prog w) A (call (.ref f) (x0 :: vs)) Q E s₁) E s) : wpAny (model prog w) A (callWith pos (.ref f) [x0] (backTo pos (starEach (e :: rest) env)) (backToKw pos (keywordEach [] env))) Q E s := callWith_fm X.W hk he hplain h
theorem m_cf0 {f : Addr} {pos : Pos} {first : List Value} {Q : Value → Shared → Prop} (X : Fm w Hs B L s.heap m) (hk : keepIn (kHead.heap_1 w.params) (.ref f) = true)
    (h : wpAny (model prog w) A (call (.ref f) (first ++ [])) Q E s) : wpAny (model prog w) A (callWith pos (.ref f) first (backTo pos (starEach [] env)) (backToKw pos (keywordEach [] env))) Q E s := callWith_f0 X.W X.keep hk h
theorem m_seg_left {σh : Heap} {σg : Array GenState} {σd : Drawn} {σt : Nat} {σo : OsState} {a : Addr} {x y l : Int} {expr : Bool} {Q : Value → Shared → Prop} (X : Fm w Hs B L σh m) (S : SegAt B a x y l) (hl : 0 ≤ l) (R : Rm A 1 4)
    (h : ∀ h' tk t, Fm w Hs B L h' m → Kept σh h' → Q (.int x t) ⟨h', σg, σd, tk, σo⟩) : wpAny (model prog w) A (getAttr (.ref a) "left" expr) Q E ⟨σh, σg, σd, σt, σo⟩ :=
  seg_left X.Wh (S.kept X.keep) hl R fun h' tk t k => h h' tk t (X.step k) k
theorem m_seg_right {σh : Heap} {σg : Array GenState} {σd : Drawn} {σt : Nat} {σo : OsState} {a : Addr} {x y l : Int} {expr : Bool} {Q : Value → Shared → Prop} (X : Fm w Hs B L σh m) (S : SegAt B a x y l) (hl : 0 ≤ l) (R : Rm A 1 4)
    (h : ∀ h' tk t, Fm w Hs B L h' m → Kept σh h' → Q (.int (x + l) t) ⟨h', σg, σd, tk, σo⟩) : wpAny (model prog w) A (getAttr (.ref a) "right" expr) Q E ⟨σh, σg, σd, σt, σo⟩ :=
  seg_right X.Wh (S.kept X.keep) hl R fun h' tk t k => h h' tk t (X.step k) k
theorem m_seg_top {σh : Heap} {σg : Array GenState} {σd : Drawn} {σt : Nat} {σo : OsState} {a : Addr} {x y l : Int} {expr : Bool} {Q : Value → Shared → Prop} (X : Fm w Hs B L σh m) (S : SegAt B a x y l) (hl : 0 ≤ l) (R : Rm A 1 4)
    (h : ∀ h' tk t, Fm w Hs B L h' m → Kept σh h' → Q (.int y t) ⟨h', σg, σd, tk, σo⟩) : wpAny (model prog w) A (getAttr (.ref a) "top" expr) Q E ⟨σh, σg, σd, σt, σo⟩ :=
  seg_top X.Wh (S.kept X.keep) hl R fun h' tk t k => h h' tk t (X.step k) k
theorem m_seg_start {σh : Heap} {σg : Array GenState} {σd : Drawn} {σt : Nat} {σo : OsState} {a : Addr} {x y l : Int} {expr : Bool} {Q : Value → Shared → Prop} (X : Fm w Hs B L σh m) (S : SegAt B a x y l)
    (h : ∀ p tk, PtAt B p x y → Q (.ref p) ⟨σh, σg, σd, tk, σo⟩) : wpAny (model prog w) A (getAttr (.ref a) "start" expr) Q E ⟨σh, σg, σd, σt, σo⟩ := by
  obtain ⟨m, p, q, I, hs, he, P, P2⟩ := S
  exact get_field X.W X.keep I (by k_is) (by k_is) (by k_is) hs rfl (h _ _ P)
theorem m_rect_left {σh : Heap} {σg : Array GenState} {σd : Drawn} {σt : Nat} {σo : OsState} {a dx : Addr} {x y wd l : Int} {rid : Value} {expr : Bool} {Q : Value → Shared → Prop} (X : Fm w Hs B L σh m) (S : RectAt B a dx x y wd l rid) (R : Rm A 1 4)
    (h : ∀ h' tk t, Fm w Hs B L h' m → Kept σh h' → Q (.int x t) ⟨h', σg, σd, tk, σo⟩) : wpAny (model prog w) A (getAttr (.ref a) "left" expr) Q E ⟨σh, σg, σd, σt, σo⟩ :=
  rect_left X.Wh (S.kept X.keep) R fun h' tk t k => h h' tk t (X.step k) k
theorem m_rect_right {σh : Heap} {σg : Array GenState} {σd : Drawn} {σt : Nat} {σo : OsState} {a dx : Addr} {x y wd l : Int} {rid : Value} {expr : Bool} {Q : Value → Shared → Prop} (X : Fm w Hs B L σh m) (S : RectAt B a dx x y wd l rid) (R : Rm A 1 4)
    (h : ∀ h' tk t, Fm w Hs B L h' m → Kept σh h' → Q (.int (x + wd) t) ⟨h', σg, σd, tk, σo⟩) : wpAny (model prog w) A (getAttr (.ref a) "right" expr) Q E ⟨σh, σg, σd, σt, σo⟩ :=
  rect_right X.Wh (S.kept X.keep) R fun h' tk t k => h h' tk t (X.step k) k
theorem m_rect_top {σh : Heap} {σg : Array GenState} {σd : Drawn} {σt : Nat} {σo : OsState} {a dx : Addr} {x y wd l : Int} {rid : Value} {expr : Bool} {Q : Value → Shared → Prop} (X : Fm w Hs B L σh m) (S : RectAt B a dx x y wd l rid) (R : Rm A 1 4)
    (h : ∀ h' tk t, Fm w Hs B L h' m → Kept σh h' → Q (.int (y + l) t) ⟨h', σg, σd, tk, σo⟩) : wpAny (model prog w) A (getAttr (.ref a) "top" expr) Q E ⟨σh, σg, σd, σt, σo⟩ :=
  rect_top X.Wh (S.kept X.keep) R fun h' tk t k => h h' tk t (X.step k) k
theorem m_rect_bottom {σh : Heap} {σg : Array GenState} {σd : Drawn} {σt : Nat} {σo : OsState} {a dx : Addr} {x y wd l : Int} {rid : Value} {expr : Bool} {Q : Value → Shared → Prop} (X : Fm w Hs B L σh m) (S : RectAt B a dx x y wd l rid) (R : Rm A 1 4)
    (h : ∀ h' tk t, Fm w Hs B L h' m → Kept σh h' → Q (.int y t) ⟨h', σg, σd, tk, σo⟩) : wpAny (model prog w) A (getAttr (.ref a) "bottom" expr) Q E ⟨σh, σg, σd, σt, σo⟩ :=
  rect_bottom X.Wh (S.kept X.keep) R fun h' tk t k => h h' tk t (X.step k) k
theorem m_rect_w {σh : Heap} {σg : Array GenState} {σd : Drawn} {σt : Nat} {σo : OsState} {a dx : Addr} {x y wd l : Int} {rid : Value} {expr : Bool} {Q : Value → Shared → Prop} (X : Fm w Hs B L σh m) (S : RectAt B a dx x y wd l rid)
    (h : ∀ t tk, Q (.int wd t) ⟨σh, σg, σd, tk, σo⟩) : wpAny (model prog w) A (getAttr (.ref a) "width" expr) Q E ⟨σh, σg, σd, σt, σo⟩ := rect_w X.W X.keep (S.kept X.keep) h
theorem m_new_pt {σh : Heap} {σg : Array GenState} {σd : Drawn} {σt : Nat} {σo : OsState} {x y : Int} {tx ty : Tok} {Q : Value → Shared → Prop} (X : Fm w Hs B L σh m) (ms : m "self" ≠ none) (R : Rm A 2 9)
    (h : ∀ p B' h' tk, Fm w Hs B' L h' m → Kept B B' → Kept σh h' → PtAt B' p x y → Q (.ref p) ⟨h', σg, σd, tk, σo⟩) : wpAny (model prog w) A (call (.ref 52) [.int x tx, .int y ty]) Q E ⟨σh, σg, σd, σt, σo⟩ :=
  new_pt X.Wh R fun p h' tk k _ P => let ⟨B', X', kB, H⟩ := (X.step k).up; h p B' h' tk X' kB k (H.pt P ms)
theorem m_new_seg {σh : Heap} {σg : Array GenState} {σd : Drawn} {σt : Nat} {σo : OsState} {p : Addr} {x y l : Int} {tl : Tok} {Q : Value → Shared → Prop} (X : Fm w Hs B L σh m) (ms : m "self" ≠ none) (mt : m "start" = none) (P : PtAt B p x y) (R : Rm A 5 40)
    (h : ∀ a B' h' tk, Fm w Hs B' L h' m → Kept B B' → Kept σh h' → SegAt B' a x y l → Q (.ref a) ⟨h', σg, σd, tk, σo⟩) : wpAny (model prog w) A (call (.ref 151) [.ref p, .int l tl]) Q E ⟨σh, σg, σd, σt, σo⟩ :=
  new_seg X.Wh (P.kept X.keep) R fun p h' tk k _ P => let ⟨B', X', kB, H⟩ := (X.step k).up; h p B' h' tk X' kB k (H.seg P mt ms)
theorem m_merge {σh : Heap} {σg : Array GenState} {σd : Drawn} {σt : Nat} {σo : OsState} {a g : Addr} {items : Array Value} {acc : List Sg} {sg : Sg} {self : Value} {Q : Value → Shared → Prop} (X : Fm w Hs B L σh m) (ms : m "self" ≠ none) (mt : m "start" = none) (ha : a ∈ Hs) (hl : σh.PlainList a items) (hS : Segs B items acc) (hz : items.size ≤ 50)
    (P : SegAt B g sg.x sg.y sg.l) (h0 : 0 ≤ sg.l) (Ro : Rm A 8 60)
    (h : ∀ B' h' tk items', Fm w Hs B' L h' m → Kept B B' → h'.PlainList a items' → Segs B' items' (mergeSeg acc sg) → items'.size ≤ items.size + 1 → Q .none ⟨h', σg, σd, tk, σo⟩) :
    wpAny (model prog w) A (call (.ref 617) [self, .ref a, .ref g]) Q E ⟨σh, σg, σd, σt, σo⟩ := by
  refine wpAny_call (merge_call X.Wh ⟨B, X.W, X.keep, X.hid _ ha⟩ hl (hS.kept X.keep) hz (P.kept X.keep) h0 Ro fun h' tk items' b l' S' z' => ?_)
  obtain ⟨B', X', kB, H⟩ := (X.but ha hl b l').up
  exact h B' h' tk items' X' kB l' (H.segs S' mt ms) z'
end
local macro_rules | `(tactic| walk_at "sky_mget") => `(tactic| first
  | ((first
      | ((with_reducible first | refine' m_seg_left ?a ?b ?c ?d ?_ | refine' m_seg_right ?a ?b ?c ?d ?_ | refine' m_seg_top ?a ?b ?c ?d ?_); (case a => assumption); (case b => assumption); (case c => assumption))
      | ((with_reducible first | refine' m_rect_left ?a ?b ?d ?_ | refine' m_rect_right ?a ?b ?d ?_ | refine' m_rect_top ?a ?b ?d ?_ | refine' m_rect_bottom ?a ?b ?d ?_ | refine' m_seg_length ?a ?b ?d ?_); (case a => assumption); (case b => assumption))); (case d => (first | assumption | exact Rm.le (by assumption) (by decide) (by decide) | exact (by assumption : Rm _ _ _).2.2)); intro h₀ tk₀ t₀ X₀ k₀; (try dsimp only at k₀ ⊢); (try have hlx := Heap.PlainList.at (by assumption) ((by assumption : Kept _ _) _)); clear k₀)
  | ((with_reducible first | refine' m_seg_start ?a ?b ?_ | refine' m_rect_w ?a ?b ?_); (case a => assumption); (case b => assumption); intros; try dsimp only))

local macro_rules | `(tactic| walk_at "sky_m0") => `(tactic| ((with_reducible refine' m_cf0 ?a ?k ?_); (case a => assumption); (case k => k_is)))
local macro_rules | `(tactic| walk_at "sky_m0") => `(tactic| walk_at "sky_ite")
local macro_rules | `(tactic| walk_at "sky_m0") => `(tactic| first
  | ((with_reducible refine' kand_ ?k ?_); (case k => first | exact Fm.keep (by assumption) | exact Kept.trans (by assumption) (Fm.keep (by assumption))))
  | ((with_reducible first | refine' m_cfn ?a ?k ?s ?p ?_ | refine' m_cfm1 ?a ?k ?s ?p ?_); (case a => assumption); (case k => k_is); (case s => exact rfl); (case p => exact rfl)))
local macro_rules | `(tactic| walk_at "sky_m0") => `(tactic| walk_at "sky_sk")
local macro_rules | `(tactic| walk_at "sky_m0") => `(tactic| ((with_reducible first | refine' m_attr ?a ?b ?c ?d ?_ | refine' m_item1 ?a ?b ?c ?d ?_ | refine' m_item ?a ?b ?c ?d ?_); (case a => assumption); (case b => assumption); (case c => exact rfl); (case d => (first | assumption | rfl | exact (if_neg (by decide)).trans (by assumption) | exact if_pos rfl))))
local macro_rules | `(tactic| walk_at "sky_m0") => `(tactic| (with_reducible first | refine Next.next (by assumption) ?_ | refine Next.ret (by assumption) ?_ | refine Next.cont (by assumption) ?_ | refine Next.brk (by assumption) ?_ | refine IfK.go (by assumption) ?_ | refine AsK.go (by assumption) ?_))
local macro_rules | `(tactic| walk_at "sky_m0") => `(tactic| first
  | with_reducible refine execs_consG fun _ _ => ?_
  | ((with_reducible show wpAny _ _ (eval (PySem.Expr.Name _ _) _) _ _ _); first | refine m_local (by assumption) (by assumption) (by exact rfl) (by (first | assumption | rfl | exact (if_neg (by decide)).trans (by assumption) | exact if_pos rfl)) ?_ | refine m_builtin (by assumption) (by assumption) (by exact rfl) (by k_is) (by exact rfl) ?_ | refine m_global (by assumption) (by assumption) (by exact rfl) (by k_is) ?_))
noncomputable def IsSky (C : Addr) : Prop := C = 690 ∨ C = 709 ∨ C = 728
noncomputable def PkNone : List Str := ["start", "rid", "_merge_skyline", "_add_skyline", "_generate_placements", "_placement_points_generator", "_rect_fitness", "_select_position", "fitness", "add_rect", "rect_list"]
/- a packer at p, its dict at dp -/
inductive Pk (h : Heap) (p dp C : Addr) (W H : Int) (turn : Bool) (sl rl : Addr) : Prop
  | mk (f1 : IsSky C) (f2 : h.get? p = some (instObj C dp)) (m : _) (tw : _) (th : _) (f3 : NsZ h dp m 90) (f4 : (∀ n ∈ PkNone, m n = none)) (f5 : m "width" = some (.int W tw)) (f6 : m "height" = some (.int H th)) (f7 : m "rot" = some (.bool turn)) (f8 : m "_waste_management" = some (.bool false)) (f9 : m "_skyline" = some (.ref sl)) (f10 : m "rectangles" = some (.ref rl)) : Pk h p dp C W H turn sl rl
theorem Pk.kept {h h' : Heap} {p dp C sl rl : Addr} {W H : Int} {turn : Bool} (P : Pk h p dp C W H turn sl rl) (k : Kept h h') : Pk h' p dp C W H turn sl rl :=
  let ⟨c, a, m, tw, th, N, b1, b2, b3, b4, b5, b6, b7⟩ := P; ⟨c, k _ _ a, m, tw, th, N.kept k, b1, b2, b3, b4, b5, b6, b7⟩
theorem Pk.odd {h h' : Heap} {p dp C sl rl l : Addr} {W H : Int} {turn : Bool} (P : Pk h p dp C W H turn sl rl) (hl : Odd h l) (k : But l h h') : Pk h' p dp C W H turn sl rl := by
  obtain ⟨c, a, m, tw, th, ⟨o, es, ep, ho, r1, r, r5, r6⟩, b1, b2, b3, b4, b5, b6, b7⟩ := P
  refine ⟨c, k _ _ ?_ a, m, tw, th, ⟨o, es, ep, k _ _ ?_ ho, r1, r, r5, r6⟩, b1, b2, b3, b4, b5, b6, b7⟩
  · rintro rfl; exact (hl _ a).1 _ _ rfl
  · rintro rfl; exact (hl _ ho).2.1 _ _ r1
theorem Hides.pk {h B : Heap} {L p dp C sl rl : Addr} {Hs : List Addr} {mm : Str → Option Value} {W H : Int} {turn : Bool} (X : Hides h B L Hs mm) (P : Pk h p dp C W H turn sl rl) (hs : mm "_skyline" = none) : Pk B p dp C W H turn sl rl :=
  let ⟨c, a, m, tw, th, N, n, b1, b2, b3, b4, b5, b6⟩ := P; ⟨c, X.obj a, m, tw, th, X.nsz N (n := "_skyline") (by rw [hs, b5]; simp), n, b1, b2, b3, b4, b5, b6⟩
section
variable {prog : Program} {w : World} {A : Around} {E : Value → Shared → Prop} {s : Shared} {B : Heap}
theorem pk_width {σh : Heap} {σg : Array GenState} {σd : Drawn} {σt : Nat} {σo : OsState} {p dp C sl rl : Addr} {W H : Int} {turn : Bool} {expr : Bool} {Q : Value → Shared → Prop} (WB : Wd w B) (k : Kept B σh) (P : Pk σh p dp C W H turn sl rl)
    (h : ∀ t tk, Q (.int W t) ⟨σh, σg, σd, tk, σo⟩) : wpAny (model prog w) A (getAttr (.ref p) "width" expr) Q E ⟨σh, σg, σd, σt, σo⟩ := by
  obtain ⟨hC, a, m, tw, th, N, b0, b1, b2, b3, b4, b5, b6⟩ := P
  have I : Inst σh p C m := ⟨dp, a, N.le (by decide)⟩
  have W := WB.keeps k
  obtain rfl | rfl | rfl := hC <;> ((((with_reducible show wpAny _ _ (getAttr (Value.ref _) _ _) _ _ _); refine get_field (by assumption) (by (first | assumption | exact Fz.keep (by assumption) | exact Kept.refl _)) (by assumption) (by k_is) (by k_is) (by k_is) (by assumption) (by exact rfl) ?_; try dsimp only)); exact h _ _)
theorem pk_height {σh : Heap} {σg : Array GenState} {σd : Drawn} {σt : Nat} {σo : OsState} {p dp C sl rl : Addr} {W H : Int} {turn : Bool} {expr : Bool} {Q : Value → Shared → Prop} (WB : Wd w B) (k : Kept B σh) (P : Pk σh p dp C W H turn sl rl)
    (h : ∀ t tk, Q (.int H t) ⟨σh, σg, σd, tk, σo⟩) : wpAny (model prog w) A (getAttr (.ref p) "height" expr) Q E ⟨σh, σg, σd, σt, σo⟩ := by
  obtain ⟨hC, a, m, tw, th, N, b0, b1, b2, b3, b4, b5, b6⟩ := P
  have I : Inst σh p C m := ⟨dp, a, N.le (by decide)⟩
  have W := WB.keeps k
  obtain rfl | rfl | rfl := hC <;> ((((with_reducible show wpAny _ _ (getAttr (Value.ref _) _ _) _ _ _); refine get_field (by assumption) (by (first | assumption | exact Fz.keep (by assumption) | exact Kept.refl _)) (by assumption) (by k_is) (by k_is) (by k_is) (by assumption) (by exact rfl) ?_; try dsimp only)); exact h _ _)
theorem pk_rot {σh : Heap} {σg : Array GenState} {σd : Drawn} {σt : Nat} {σo : OsState} {p dp C sl rl : Addr} {W H : Int} {turn : Bool} {expr : Bool} {Q : Value → Shared → Prop} (WB : Wd w B) (k : Kept B σh) (P : Pk σh p dp C W H turn sl rl)
    (h : ∀ tk, Q (.bool turn) ⟨σh, σg, σd, tk, σo⟩) : wpAny (model prog w) A (getAttr (.ref p) "rot" expr) Q E ⟨σh, σg, σd, σt, σo⟩ := by
  obtain ⟨hC, a, m, tw, th, N, b0, b1, b2, b3, b4, b5, b6⟩ := P
  have I : Inst σh p C m := ⟨dp, a, N.le (by decide)⟩
  have W := WB.keeps k
  obtain rfl | rfl | rfl := hC <;> ((((with_reducible show wpAny _ _ (getAttr (Value.ref _) _ _) _ _ _); refine get_field (by assumption) (by (first | assumption | exact Fz.keep (by assumption) | exact Kept.refl _)) (by assumption) (by k_is) (by k_is) (by k_is) (by assumption) (by exact rfl) ?_; try dsimp only)); exact h _)
theorem pk_wm {σh : Heap} {σg : Array GenState} {σd : Drawn} {σt : Nat} {σo : OsState} {p dp C sl rl : Addr} {W H : Int} {turn : Bool} {expr : Bool} {Q : Value → Shared → Prop} (WB : Wd w B) (k : Kept B σh) (P : Pk σh p dp C W H turn sl rl)
    (h : ∀ tk, Q (.bool false) ⟨σh, σg, σd, tk, σo⟩) : wpAny (model prog w) A (getAttr (.ref p) "_waste_management" expr) Q E ⟨σh, σg, σd, σt, σo⟩ := by
  obtain ⟨hC, a, m, tw, th, N, b0, b1, b2, b3, b4, b5, b6⟩ := P
  have I : Inst σh p C m := ⟨dp, a, N.le (by decide)⟩
  have W := WB.keeps k
  obtain rfl | rfl | rfl := hC <;> ((((with_reducible show wpAny _ _ (getAttr (Value.ref _) _ _) _ _ _); refine get_field (by assumption) (by (first | assumption | exact Fz.keep (by assumption) | exact Kept.refl _)) (by assumption) (by k_is) (by k_is) (by k_is) (by assumption) (by exact rfl) ?_; try dsimp only)); exact h _)
theorem pk_skyline {σh : Heap} {σg : Array GenState} {σd : Drawn} {σt : Nat} {σo : OsState} {p dp C sl rl : Addr} {W H : Int} {turn : Bool} {expr : Bool} {Q : Value → Shared → Prop} (WB : Wd w B) (k : Kept B σh) (P : Pk σh p dp C W H turn sl rl)
    (h : ∀ tk, Q (.ref sl) ⟨σh, σg, σd, tk, σo⟩) : wpAny (model prog w) A (getAttr (.ref p) "_skyline" expr) Q E ⟨σh, σg, σd, σt, σo⟩ := by
  obtain ⟨hC, a, m, tw, th, N, b0, b1, b2, b3, b4, b5, b6⟩ := P
  have I : Inst σh p C m := ⟨dp, a, N.le (by decide)⟩
  have W := WB.keeps k
  obtain rfl | rfl | rfl := hC <;> ((((with_reducible show wpAny _ _ (getAttr (Value.ref _) _ _) _ _ _); refine get_field (by assumption) (by (first | assumption | exact Fz.keep (by assumption) | exact Kept.refl _)) (by assumption) (by k_is) (by k_is) (by k_is) (by assumption) (by exact rfl) ?_; try dsimp only)); exact h _)
theorem pk_rects {σh : Heap} {σg : Array GenState} {σd : Drawn} {σt : Nat} {σo : OsState} {p dp C sl rl : Addr} {W H : Int} {turn : Bool} {expr : Bool} {Q : Value → Shared → Prop} (WB : Wd w B) (k : Kept B σh) (P : Pk σh p dp C W H turn sl rl)
    (h : ∀ tk, Q (.ref rl) ⟨σh, σg, σd, tk, σo⟩) : wpAny (model prog w) A (getAttr (.ref p) "rectangles" expr) Q E ⟨σh, σg, σd, σt, σo⟩ := by
  obtain ⟨hC, a, m, tw, th, N, b0, b1, b2, b3, b4, b5, b6⟩ := P
  have I : Inst σh p C m := ⟨dp, a, N.le (by decide)⟩
  have W := WB.keeps k
  obtain rfl | rfl | rfl := hC <;> ((((with_reducible show wpAny _ _ (getAttr (Value.ref _) _ _) _ _ _); refine get_field (by assumption) (by (first | assumption | exact Fz.keep (by assumption) | exact Kept.refl _)) (by assumption) (by k_is) (by k_is) (by k_is) (by assumption) (by exact rfl) ?_; try dsimp only)); exact h _)
theorem pk_meth {p dp C sl rl f : Addr} {W H : Int} {turn : Bool} {name : Str} {pl : Sem Bool} {Q : Value × List Value → Shared → Prop} (WB : Wd w B) (k : Kept B s.heap) (P : Pk s.heap p dp C W H turn sl rl) (hn : name ∈ PkNone)
    (hg : ∀ C, IsSky C → plainGet (kHead.heap_1 w.params) C name = true ∧ findIn (kHead.heap_1 w.params) (.ref C) name = some (some (.ref f)) ∧ isFn (kHead.heap_1 w.params) (.ref f) = true) (h : Q (.ref f, [.ref p]) s) : wpAny (model prog w) A (getMethod (.ref p) name pl) Q E s := by
  obtain ⟨hC, a, m, tw, th, N, b0, b1, b2, b3, b4, b5, b6⟩ := P
  have I : Inst s.heap p C m := ⟨dp, a, N.le (by decide)⟩
  exact get_meth (WB.keeps k) (Kept.refl _) I (hg C hC).1 (hg C hC).2.1 (hg C hC).2.2 (b0 _ hn) h
theorem pk_merge (P : Params) : ∀ C, IsSky C → plainGet (kHead.heap_1 P) C "_merge_skyline" = true ∧ findIn (kHead.heap_1 P) (.ref C) "_merge_skyline" = some (some (.ref 617)) ∧ isFn (kHead.heap_1 P) (.ref 617) = true := by
  rintro C (rfl | rfl | rfl) <;> exact ⟨by k_is, by k_is, by k_is⟩
end
noncomputable def skyStep (rx rw rt : Int) (acc : List Sg) (g : Sg) : List Sg :=
  if g.x + g.l ≤ rx ∨ rx + rw ≤ g.x then mergeSeg acc g
  else
    let p := if g.x < rx ∧ rx < g.x + g.l then (mergeSeg acc ⟨g.x, g.y, rx - g.x⟩, (⟨rx, g.y, g.x + g.l - rx⟩ : Sg)) else (acc, g)
    let q := if p.2.x < rx + rw then
        let a := if p.2.x = rx then mergeSeg p.1 ⟨rx, rt, rw⟩ else p.1
        if rx + rw < p.2.x + p.2.l then (mergeSeg a ⟨rx + rw, p.2.y, p.2.x + p.2.l - (rx + rw)⟩, (⟨p.2.x, p.2.y, rx + rw - p.2.x⟩ : Sg)) else (a, p.2)
      else p
    if rx ≤ q.2.x ∧ q.2.x + q.2.l ≤ rx + rw then q.1 else mergeSeg q.1 q.2
noncomputable def addSky (segs : List Sg) (rx rw rt : Int) : List Sg := segs.foldl (skyStep rx rw rt) []
theorem ne_of {m : Str → Option Value} {n : Str} {v : Value} (h : m n = some v) : m n ≠ none := by rw [h]; simp
section
variable {prog : Program} {w : World} {A : Around} {E : Value → Shared → Prop} {s : Shared} {B : Heap}
theorem nsSetZ1 {M : Model} {A : Around} {E : Value → Shared → Prop} {σh : Heap} {σg : Array GenState} {σd : Drawn} {σt : Nat} {σo : OsState} {a : Addr} {m : Str → Option Value} {z : Nat} {name : Str} {v v₀ : Value} {Q : Unit → Shared → Prop} (hn : NsZ σh a m z) (hx : m name = some v₀)
    (h : ∀ h', NsZ h' a (fun x => if x = name then some v else m x) z → Heap.SameBut a σh h' → Q () ⟨h', σg, σd, σt + 1, σo⟩) : wpAny M A (nsSet a name v) Q E ⟨σh, σg, σd, σt, σo⟩ := by
  obtain ⟨o, es, ep, ho, hd, hk, hm, hz⟩ := hn
  unfold nsSet
  refine wpAny_bind (wpAny_bind (wpAny_askSetting (wpAny_pure (wpAny_bind (wpAny_mkText (wpAny_bind (wpAny_loadPart ho ?_)))))))
  have hany : es.any (·.refKey) = false := by
    rw [Array.any_eq_false']; intro e he; obtain ⟨n, t, h⟩ := hk e he; simp [DictEntry.refKey, h]
  simp only [hd, aRefKeyMayBeTheName_at, hany, Bool.and_false, Bool.false_eq_true, if_false]
  refine wpAny_updatePart ho (h _ ?_ (Heap.SameBut.update ..))
  obtain ⟨c, d, dt, sl⟩ := o
  subst hd
  cases hi : es.findIdx? (·.key.isStr name) with
  | some i =>
    refine ⟨_, _, ep, Heap.get?_update_self _ ho (by simp only [Obj.putName_eq, Obj.putNameByArray, hi]; rfl), by simp only [Obj.putName_eq, Obj.putNameByArray, hi]; rfl, hk.modify _ _, fun x => ?_, by rw [Array.size_modify]; (first | omega | lia)⟩
    show _ = if x = name then some v else m x
    rw [← hm]; exact findBy_modify (fun n v => v.isStr n) Value.isStr_inj es name x v i hi
  | none =>
    exfalso
    rw [← hm name] at hx
    unfold nsFind findBy at hx
    rw [Array.findIdx?_eq_none_iff] at hi
    have : es.find? (fun e => e.key.isStr name) = none := by
      rw [Array.find?_eq_none]; intro e he; rw [hi e he]; simp
    rw [this] at hx
    cases hx
section
variable {prog : Program} {w : World} {A : Around} {E : Value → Shared → Prop} {s : Shared} {B : Heap}
/- a store over an attribute that is there: the dict alone turns, and does not grow -/
theorem set_inst1 {x C dx : Addr} {mm : Str → Option Value} {z : Nat} {name : Str} {v v₀ : Value} {Q : Unit → Shared → Prop} (W : Wd w B) (k : Kept B s.heap) (hx : s.heap.get? x = some (instObj C dx)) (hN : NsZ s.heap dx mm z) (hz : z < 100) (h0 : mm name = some v₀)
    (hs : findIn (kHead.heap_1 w.params) (.ref C) "__setattr__" = some (some (.builtin "object.__setattr__"))) (hp : plainOver (kHead.heap_1 w.params) C = true) (ht : takerIn (kHead.heap_1 w.params) C name = some none) (hh : hasDictIn (kHead.heap_1 w.params) C = true)
    (h : ∀ h' tk, NsZ h' dx (fun y => if y = name then some v else mm y) z → Heap.SameBut dx s.heap h' → Q () { s with heap := h', toks := tk }) : wpAny (model prog w) A (setAttr (.ref x) name v) Q E s := by
  replace W := W.keeps k
  obtain ⟨sh, sg, sd, st, so⟩ := s
  try dsimp only at hx hN W h
  obtain ⟨o, ho, hl⟩ := look_ns hN.ns
  have I : PySem.W.InstAt sh x (instObj C dx) C (some o) := ⟨hx, rfl, rfl, ho⟩
  refine set_plain W.K I hs (osa_open (s := ⟨sh, sg, sd, st + 1, so⟩) W.K I hp ht fun b => ?_)
  obtain ⟨cd, hc, hd'⟩ := any_some hh
  refine wpAny_bind (wpAny_pure (wpAny_bind (wpAny_bind (wpAny_loadPart (s := ⟨sh, sg, sd, st + 1, so⟩) hx (wpAny_bind ((looks_clsIn W.K hc).at ?_))))))
  rw [hd']
  refine wpAny_pure (a := some dx) (wpAny_bind (wpAny_pure (wpAny_bind (nsSetZ1 (σh := sh) (σg := sg) (σd := sd) (σt := st + 1) (σo := so) hN h0 fun h' N hs' => ?_))))
  obtain ⟨o', es, ep, ho', hd'', r1, r2, r3⟩ := N
  exact wpAny_bind (wpAny_lookBehind ho' (by rw [hd'']; exact pastItsLine_dict (by rw [sizeLine_eq]; (first | lia | omega))) (wpAny_pure (h h' _ ⟨o', es, ep, ho', hd'', r1, r2, r3⟩ hs')))
theorem sky_checks (P : Params) : ∀ C, IsSky C → findIn (kHead.heap_1 P) (.ref C) "__setattr__" = some (some (.builtin "object.__setattr__")) ∧ plainOver (kHead.heap_1 P) C = true ∧ hasDictIn (kHead.heap_1 P) C = true := by
  rintro C (rfl | rfl | rfl) <;> exact ⟨by k_is, by k_is, by k_is⟩
theorem sky_taker (P : Params) : ∀ C, IsSky C → takerIn (kHead.heap_1 P) C "_skyline" = some none := by
  rintro C (rfl | rfl | rfl) <;> k_is
/- self._skyline = .. -/
theorem pk_set_sky {σh : Heap} {σg : Array GenState} {σd : Drawn} {σt : Nat} {σo : OsState} {p dp C sl sl' rl : Addr} {Wi Hi : Int} {turn : Bool} {Q : Unit → Shared → Prop} (W : Wd w B) (k : Kept B σh) (P : Pk σh p dp C Wi Hi turn sl rl)
    (h : ∀ h' tk mm, NsZ σh dp mm 90 → mm "start" = none → mm "rid" = none → mm "_skyline" ≠ none → Pk h' p dp C Wi Hi turn sl' rl → But dp σh h' → Q () ⟨h', σg, σd, tk, σo⟩) : wpAny (model prog w) A (setAttr (.ref p) "_skyline" (.ref sl')) Q E ⟨σh, σg, σd, σt, σo⟩ := by
  obtain ⟨hC, a, m, tw, th, N, b0, b1, b2, b3, b4, b5, b6⟩ := P
  obtain ⟨c1, c2, c3⟩ := sky_checks w.params C hC
  refine set_inst1 W k a N (by decide) b5 c1 c2 (sky_taker w.params C hC) c3 fun h' tk N' sb => ?_
  have ne : p ≠ dp := Inst.ne_dict (m := m) ⟨dp, a, N.le (by decide)⟩ N
  refine h h' tk m N (b0 _ (by decide)) (b0 _ (by decide)) (ne_of b5) ⟨hC, (sb.2 _ ne).trans a, _, tw, th, N', fun n hn => ?_, ?_, ?_, ?_, ?_, ?_, ?_⟩ (But.of_same sb)
  · have : n ≠ "_skyline" := by rintro rfl; exact absurd hn (by decide)
    exact (if_neg this).trans (b0 n hn)
  · exact (if_neg (by decide)).trans b1
  · exact (if_neg (by decide)).trans b2
  · exact (if_neg (by decide)).trans b3
  · exact (if_neg (by decide)).trans b4
  · exact if_pos rfl
  · exact (if_neg (by decide)).trans b6
theorem NsZ.butd {h h' : Heap} {dx dp : Addr} {m mm : Str → Option Value} {z z' : Nat} {n : Str} (N' : NsZ h dx m z') (N : NsZ h dp mm z) (hn : mm n ≠ m n) (k : But dp h h') : NsZ h' dx m z' := by
  obtain ⟨o, es, ep, ho, r1, r2, r3, r4⟩ := N'
  refine ⟨o, es, ep, k _ _ ?_ ho, r1, r2, r3, r4⟩
  rintro rfl
  obtain ⟨o', es', ep', ho', s1, s2, s3, s4⟩ := N
  rw [ho] at ho'; cases ho'
  rw [r1] at s1; cases s1
  exact hn ((s3 n).symm.trans (r3 n))
theorem obj_butd {h h' : Heap} {x C dx dp : Addr} {mm : Str → Option Value} {z : Nat} (hx : h.get? x = some (instObj C dx)) (N : NsZ h dp mm z) (k : But dp h h') : h'.get? x = some (instObj C dx) := by
  refine k _ _ ?_ hx
  rintro rfl; obtain ⟨o', es', ep', ho', s1, -⟩ := N; rw [hx] at ho'; cases ho'; cases s1
theorem Inst.butd {h h' : Heap} {x C dp : Addr} {m mm : Str → Option Value} {z : Nat} {n : Str} (I : Inst h x C m) (N : NsZ h dp mm z) (hn : mm n ≠ m n) (k : But dp h h') : Inst h' x C m :=
  let ⟨dx, a, N'⟩ := I; ⟨dx, obj_butd a N k, N'.butd N hn k⟩
theorem PtAt.butd {h h' : Heap} {a dp : Addr} {x y : Int} {mm : Str → Option Value} {z : Nat} (S : PtAt h a x y) (N : NsZ h dp mm z) {n : Str} (hn : mm n ≠ none) (k : But dp h h') (nx : n ≠ "x" := by decide) (ny : n ≠ "y" := by decide) : PtAt h' a x y :=
  let ⟨m, tx, ty, I, r1, r2, r3⟩ := S; ⟨m, tx, ty, I.butd N (n := n) (by rw [r3 n nx ny]; exact hn) k, r1, r2, r3⟩
theorem SegAt.butd {h h' : Heap} {a dp : Addr} {x y l : Int} {mm : Str → Option Value} {z : Nat} (S : SegAt h a x y l) (N : NsZ h dp mm z) (hs : mm "start" = none) {n : Str} (hn : mm n ≠ none) (k : But dp h h') (nx : n ≠ "x" := by decide) (ny : n ≠ "y" := by decide) : SegAt h' a x y l :=
  let ⟨m, p, q, I, r1, r2, P, Q⟩ := S; ⟨m, p, q, I.butd N (n := "start") (by rw [hs, r1]; simp) k, r1, r2, P.butd N hn k nx ny, Q.butd N hn k nx ny⟩
theorem Segs.butd {h h' : Heap} {dp : Addr} {items : Array Value} {segs : List Sg} {mm : Str → Option Value} {z : Nat} (S : Segs h items segs) (N : NsZ h dp mm z) (hs : mm "start" = none) {n : Str} (hn : mm n ≠ none) (k : But dp h h') (nx : n ≠ "x" := by decide) (ny : n ≠ "y" := by decide) : Segs h' items segs :=
  ⟨S.1, fun i sg e => let ⟨a, b, c, d⟩ := S.2 i sg e; ⟨a, b, c.butd N hs hn k nx ny, d⟩⟩
theorem PlainList.butd {h h' : Heap} {l dp : Addr} {items : Array Value} {mm : Str → Option Value} {z : Nat} (P : h.PlainList l items) (N : NsZ h dp mm z) (k : But dp h h') : h'.PlainList l items := by
  refine P.at fun o e => k _ _ ?_ e
  rintro rfl; obtain ⟨n, e'⟩ := P; obtain ⟨o', es', ep', ho', s1, -⟩ := N; rw [e'] at ho'; cases ho'; cases s1
end
theorem cut {M : Model} {A : Around} {E : Value → Shared → Prop} {s : Shared} {env : Env} {st : Stmt} {rest : List Stmt} {Q : Flow → Shared → Prop} (P : Shared → Prop) (h1 : wpAny M A (exec st env) (fun f s' => f = .next ∧ P s') E s) (h2 : ∀ s', P s' → wpAny M A (execs rest env) Q E s') : wpAny M A (execs (st :: rest) env) Q E s :=
  wpAny_execs_cons (wpAny_mono h1 (fun f s' z => by obtain ⟨rfl, z⟩ := z; exact h2 s' z) fun _ _ e => e)
theorem m_pkmeth {p dp C sl rl f : Addr} {Wi Hi : Int} {turn : Bool} {name : Str} {pl : Sem Bool} {Q : Value × List Value → Shared → Prop} {Hs : List Addr} {L : Addr} {m : Str → Option Value} (X : Fm w Hs B L s.heap m) (P : Pk B p dp C Wi Hi turn sl rl) (hn : name ∈ PkNone)
    (hg : ∀ C, IsSky C → plainGet (kHead.heap_1 w.params) C name = true ∧ findIn (kHead.heap_1 w.params) (.ref C) name = some (some (.ref f)) ∧ isFn (kHead.heap_1 w.params) (.ref f) = true) (h : Q (.ref f, [.ref p]) s) : wpAny (model prog w) A (getMethod (.ref p) name pl) Q E s :=
  pk_meth X.W X.keep (P.kept X.keep) hn hg h
/- the loop of _add_skyline within a turn -/
inductive AddJ (p a r : Addr) (acc : List Sg) (n : Nat) (B h : Heap) (m : Str → Option Value) : Prop
  | mk (its : Array Value) (f1 : h.PlainList a its) (f2 : Segs B its acc) (f3 : its.size ≤ n) (f4 : m "self" = some (.ref p)) (f5 : m "rect" = some (.ref r)) (f6 : m "skylineq" = some (.ref a)) (f7 : m "start" = none) : AddJ p a r acc n B h m
inductive AddSt (w : World) (L a p r : Addr) (s : Shared) (B : Heap) (acc : List Sg) (g : Sg) (n : Nat) (s' : Shared) : Prop
  | mk (B' : _) (h' : _) (m' : _) (tk : _) (its : _) (ga : _) (f1 : s' = { s with heap := h', toks := tk }) (f2 : Fm w [a] B' L h' m') (f3 : Kept B B') (f4 : h'.PlainList a its) (f5 : Segs B' its acc) (f6 : its.size ≤ n) (f7 : SegAt B' ga g.x g.y g.l) (f8 : 0 ≤ g.l) (f9 : m' "self" = some (.ref p)) (f10 : m' "rect" = some (.ref r)) (f11 : m' "skylineq" = some (.ref a)) (f12 : m' "sky" = some (.ref ga)) (f13 : m' "start" = none) : AddSt w L a p r s B acc g n s'
theorem add_sky {p dp C sl rl r dx : Addr} {Wi Hi x y wd l : Int} {turn : Bool} {rid self : Value} {items : Array Value} {segs : List Sg} {R : Result → Shared → Prop} (W : Wd w s.heap) (hf : Free w s.heap dp) (P : Pk s.heap p dp C Wi Hi turn sl rl)
    (hl : s.heap.PlainList sl items) (hS : Segs s.heap items segs) (hz : items.size ≤ 10) (Rc : RectAt s.heap r dx x y wd l rid) (hw : 0 < wd) (Ro : Rm A 12 100)
    (h : ∀ h' tk sl' items', But dp s.heap h' → s.heap.get? sl' = none → Pk h' p dp C Wi Hi turn sl' rl → h'.PlainList sl' items' → Segs h' items' (addSky segs x wd (y + l)) → R (.ok (.ret .none)) { s with heap := h', toks := tk }) :
    codeAny (model prog w) A (.call (.ref 624) ⟨[.ref p, .ref r], []⟩) R s := by
  have Ro : Rm A (11 + 1) (90 + 3) := Ro.le (by decide) (by decide)
  ((refine' code_fn ([("self", .ref p), ("rect", .ref r)]) ?k0 ?kk ?k1 ?k2 ?k3 ?k4 ?k5 ?k6 ?k7 ?k8 ?k9 ?k10 ?k11 ?k12 ?_); (case k0 => assumption); (case kk => (first | assumption | exact Fz.keep (by assumption) | exact Kept.refl _)); (case k2 => k_is); (case k3 => k_is); (case k4 => rfl); (case k5 => exact binds_eq rfl); (case k6 => rfl); (case k7 => rfl); (case k8 => rfl); (case k9 => rfl); (case k10 => rfl); (case k11 => rfl); (case k12 => rfl); (case k1 => assumption); intro A' L env h₁ R' V F; (try dsimp only at V F); (try dsimp only))
  have X := Fm.of W F
  clear F
  repeat (first | walk_at "sky_m0" | walk_at "sky_mget")
  refine wpAny_List ?_
  repeat (first | walk_at "sky_m0" | walk_at "sky_mget")
  refine ⟨Nat.zero_le _, ?_⟩
  have hla := push_list h₁ []
  have X := (X.step (Kept.push h₁ { cls := .type "list", data := .seq #[] })).hide hla (X.fresh (get?_size _))
  generalize h₁.objs.size = a at hla X ⊢
  (((try (with_reducible first | refine Next.next (by assumption) ?_ | refine Next.ret (by assumption) ?_ | refine Next.cont (by assumption) ?_ | refine Next.brk (by assumption) ?_ | refine IfK.go (by assumption) ?_ | refine AsK.go (by assumption) ?_)); (with_reducible show wpAny _ _ (storeName _ _ _) _ _ _); refine m_store (by assumption) (by assumption) (by exact rfl) ?_))
  intro h₂ tkσ X₂ l₂ b₂
  try dsimp only at X₂ l₂ b₂ ⊢
  have hla₂ := l₂ _ _ hla
  clear X hla l₂ b₂
  repeat (first | walk_at "sky_m0" | walk_at "sky_mget")
  refine wpAny_For ?_ (by intro _; rfl)
  repeat (first | walk_at "sky_m0" | walk_at "sky_mget")
  refine pk_skyline X₂.W X₂.keep (P.kept X₂.keep) fun tk => ?_
  try dsimp only
  refine for_list V R'.2.2 rfl [a] X₂.F X₂.hid ?_ hl.isList (fun i => AddJ p a r ((segs.take i).foldl (skyStep x wd (y + l)) []) (4 * i)) ?_ ?_ ?_ ?_ ?_
  · intro b hb
    rw [List.mem_singleton.mp hb]
    obtain ⟨n, e⟩ := hla₂; exact ⟨_, e⟩
  · exact ⟨#[], hla₂, ⟨rfl, fun i sg e => by simp at e⟩, Nat.zero_le _, rfl, rfl, rfl, rfl⟩
  · rintro I hI i B₁ B₂ h₁ h' m' ⟨its, l1, S1, z1, n1, n2, n3, n4⟩ odd b1 b2
    have hla := l1
    refine ⟨its, l1.at fun o e => b2 _ _ ?_ ?_ e, S1.odd odd b1, z1, n1, n2, n3, n4⟩
    · obtain ⟨n, e⟩ := hla₂
      exact ne_of_get e hI
    · obtain ⟨n, e⟩ := hla₂
      exact X₂.ne ⟨n, e⟩
  · rintro i v B₁ h' m₁ tk₁ hv ⟨its, l1, S1, z1, n1, n2, n3, n4⟩ kB F₁ hh₁
    obtain ⟨g, hg⟩ : ∃ g, segs[i]? = some g := by
      have : i < segs.length := by
        rw [← hS.1]
        rcases Nat.lt_or_ge i items.size with q | q
        · exact q
        · rw [Array.getElem?_eq_none q] at hv; cases hv
      exact ⟨_, List.getElem?_eq_getElem this⟩
    obtain ⟨ga, hga, Pg, hg0⟩ := hS.2 _ _ hg
    rw [hv] at hga; cases hga
    have hi : i < 10 := by
      have : i < segs.length := by
        rcases Nat.lt_or_ge i segs.length with q | q
        · exact q
        · rw [List.getElem?_eq_none q] at hg; cases hg
      have := hS.1; (first | lia | omega)
    have et : (segs.take (i + 1)).foldl (skyStep x wd (y + l)) [] = skyStep x wd (y + l) ((segs.take i).foldl (skyStep x wd (y + l)) []) g := by
      rw [List.take_add_one, hg]; simp
    rw [et]
    generalize (segs.take i).foldl (skyStep x wd (y + l)) [] = acc at S1 ⊢
    have X : Fm w [a] B₁ L h' (upd "sky" (.ref ga) m₁) := ⟨X₂.W.keeps kB, F₁, hh₁, fun b hb => by rw [List.mem_singleton.mp hb]; exact Has.plain l1⟩
    have Pg := Pg.kept kB
    have Pk₁ := P.kept kB
    have Rc₁ := Rc.kept kB
    clear F₁ X₂ hla₂
    unfold LoopBody
    have ecut : ∀ (c : g.x + g.l ≤ x ∨ x + wd ≤ g.x), skyStep x wd (y + l) acc g = mergeSeg acc g := fun c => if_pos c
    by_cases c1 : g.x + g.l ≤ x
    · repeat (first | walk_at "sky_m0" | walk_at "sky_mget")
      refine m_pkmeth (by assumption) Pk₁ (by decide) (pk_merge _) ?_
      try dsimp only
      repeat (first | walk_at "sky_m0" | walk_at "sky_mget")
      refine m_merge (by assumption) (by (exact ne_of (n := "self") (by (first | assumption | rfl | exact (if_neg (by decide)).trans (by assumption) | exact if_pos rfl)))) (by (first | assumption | rfl | exact (if_neg (by decide)).trans (by assumption) | exact if_pos rfl)) (.head _) (by assumption) S1 (by (first | lia | omega)) Pg hg0 (R'.le (by decide) (by decide)) fun B' h' tk its' X' kB' l' S' z' => ?_
      try dsimp only
      repeat (first | walk_at "sky_m0" | walk_at "sky_mget")
      refine wpAny_Continue ?_
      repeat (first | walk_at "sky_m0" | walk_at "sky_mget")
      exact ⟨B', _, _, _, rfl, kB', X'.F, X'.hid, its', l', ecut (.inl c1) ▸ S', by (first | lia | omega), by (first | assumption | rfl | exact (if_neg (by decide)).trans (by assumption) | exact if_pos rfl), by (first | assumption | rfl | exact (if_neg (by decide)).trans (by assumption) | exact if_pos rfl), by (first | assumption | rfl | exact (if_neg (by decide)).trans (by assumption) | exact if_pos rfl), by (first | assumption | rfl | exact (if_neg (by decide)).trans (by assumption) | exact if_pos rfl)⟩
    by_cases c2 : x + wd ≤ g.x
    · repeat (first | walk_at "sky_m0" | walk_at "sky_mget")
      refine m_pkmeth (by assumption) Pk₁ (by decide) (pk_merge _) ?_
      try dsimp only
      repeat (first | walk_at "sky_m0" | walk_at "sky_mget")
      refine m_merge (by assumption) (by (exact ne_of (n := "self") (by (first | assumption | rfl | exact (if_neg (by decide)).trans (by assumption) | exact if_pos rfl)))) (by (first | assumption | rfl | exact (if_neg (by decide)).trans (by assumption) | exact if_pos rfl)) (.head _) (by assumption) S1 (by (first | lia | omega)) Pg hg0 (R'.le (by decide) (by decide)) fun B' h' tk its' X' kB' l' S' z' => ?_
      try dsimp only
      repeat (first | walk_at "sky_m0" | walk_at "sky_mget")
      refine wpAny_Continue ?_
      repeat (first | walk_at "sky_m0" | walk_at "sky_mget")
      exact ⟨B', _, _, _, rfl, kB', X'.F, X'.hid, its', l', ecut (.inr c2) ▸ S', by (first | lia | omega), by (first | assumption | rfl | exact (if_neg (by decide)).trans (by assumption) | exact if_pos rfl), by (first | assumption | rfl | exact (if_neg (by decide)).trans (by assumption) | exact if_pos rfl), by (first | assumption | rfl | exact (if_neg (by decide)).trans (by assumption) | exact if_pos rfl), by (first | assumption | rfl | exact (if_neg (by decide)).trans (by assumption) | exact if_pos rfl)⟩
    clear ecut
    refine cut (AddSt w L a p r s B₁ acc g (4 * i)) ?_ ?_
    · repeat (first | walk_at "sky_m0" | walk_at "sky_mget")
      exact ⟨rfl, B₁, _, _, _, its, ga, rfl, by assumption, Kept.refl _, by assumption, S1, z1, Pg, hg0, by (first | assumption | rfl | exact (if_neg (by decide)).trans (by assumption) | exact if_pos rfl), by (first | assumption | rfl | exact (if_neg (by decide)).trans (by assumption) | exact if_pos rfl), by (first | assumption | rfl | exact (if_neg (by decide)).trans (by assumption) | exact if_pos rfl), by (first | assumption | rfl | exact (if_neg (by decide)).trans (by assumption) | exact if_pos rfl), by (first | assumption | rfl | exact (if_neg (by decide)).trans (by assumption) | exact if_pos rfl)⟩
    rintro s' ⟨B₂, h₂, m₂, tk₂, its₂, ga₂, rfl, X₂, k₂, l₂, S₂, z₂, Pg₂, hg₂, e1, e2, e3, e4, e5⟩
    have Pk₂ := Pk₁.kept k₂
    have Rc₂ := Rc₁.kept k₂
    replace kB := kB.trans k₂
    clear X Pk₁ Rc₁
    generalize ep : (if g.x < x ∧ x < g.x + g.l then (mergeSeg acc ⟨g.x, g.y, x - g.x⟩, (⟨x, g.y, g.x + g.l - x⟩ : Sg)) else (acc, g)) = pr
    refine cut (AddSt w L a p r s B₂ pr.1 pr.2 (4 * i + 1)) ?_ ?_
    · by_cases c3 : g.x < x
      · have c4 : x < g.x + g.l := by (first | exact Int.not_le.mp (by assumption) | lia)
        rw [if_pos ⟨c3, c4⟩] at ep
        subst ep
        repeat (first | walk_at "sky_m0" | walk_at "sky_mget")
        refine m_pkmeth (by assumption) Pk₂ (by decide) (pk_merge _) ?_
        try dsimp only
        repeat (first | walk_at "sky_m0" | walk_at "sky_mget")
        refine m_new_seg (by assumption) (by (exact ne_of (n := "self") (by (first | assumption | rfl | exact (if_neg (by decide)).trans (by assumption) | exact if_pos rfl)))) (by (first | assumption | rfl | exact (if_neg (by decide)).trans (by assumption) | exact if_pos rfl)) (by assumption) (R'.le (by decide) (by decide)) fun n₃ B₃ h₃ tk₃ X₃ k₃ kh₃ P₃ => ?_
        try dsimp only at kh₃ ⊢
        have l₃ := Heap.PlainList.at (by assumption) (kh₃ _)
        clear kh₃
        repeat (first | walk_at "sky_m0" | walk_at "sky_mget")
        refine m_merge (by assumption) (by (exact ne_of (n := "self") (by (first | assumption | rfl | exact (if_neg (by decide)).trans (by assumption) | exact if_pos rfl)))) (by (first | assumption | rfl | exact (if_neg (by decide)).trans (by assumption) | exact if_pos rfl)) (.head _) l₃ (S₂.kept k₃) (by (first | lia | omega)) (sg := ⟨g.x, g.y, x - g.x⟩) P₃ (by dsimp only; (first | lia | omega)) (R'.le (by decide) (by decide)) fun B₄ h₄ tk₄ its₄ X₄ k₄ l₄ S₄ z₄ => ?_
        try dsimp only
        replace k₄ := k₃.trans k₄
        have Pg₄ := Pg₂.kept k₄
        have Rc₄ := Rc₂.kept k₄
        repeat (first | walk_at "sky_m0" | walk_at "sky_mget")
        refine m_new_pt (by assumption) (by (exact ne_of (n := "self") (by (first | assumption | rfl | exact (if_neg (by decide)).trans (by assumption) | exact if_pos rfl)))) (R'.le (by decide) (by decide)) fun n₅ B₅ h₅ tk₅ X₅ k₅ kh₅ P₅ => ?_
        try dsimp only at kh₅ ⊢
        have l₅ := Heap.PlainList.at (by assumption) (kh₅ _)
        have k₂₅ := k₄.trans k₅
        have Pg₅ := Pg₂.kept k₂₅
        have Rc₅ := Rc₂.kept k₂₅
        clear kh₅
        repeat (first | walk_at "sky_m0" | walk_at "sky_mget")
        refine m_new_seg (by assumption) (by (exact ne_of (n := "self") (by (first | assumption | rfl | exact (if_neg (by decide)).trans (by assumption) | exact if_pos rfl)))) (by (first | assumption | rfl | exact (if_neg (by decide)).trans (by assumption) | exact if_pos rfl)) P₅ (R'.le (by decide) (by decide)) fun n₆ B₆ h₆ tk₆ X₆ k₆ kh₆ P₆ => ?_
        try dsimp only at kh₆ ⊢
        have l₆ := Heap.PlainList.at (by assumption) (kh₆ _)
        clear kh₆
        (((try (with_reducible first | refine Next.next (by assumption) ?_ | refine Next.ret (by assumption) ?_ | refine Next.cont (by assumption) ?_ | refine Next.brk (by assumption) ?_ | refine IfK.go (by assumption) ?_ | refine AsK.go (by assumption) ?_)); (with_reducible show wpAny _ _ (storeName _ _ _) _ _ _); refine m_store (by assumption) (by assumption) (by exact rfl) ?_))
        intro h₇ tkσ X₇ l₇ b₇
        try dsimp only at l₇ ⊢
        repeat (first | walk_at "sky_m0" | walk_at "sky_mget")
        exact ⟨rfl, B₆, _, _, _, its₄, n₆, rfl, X₇, k₂₅.trans k₆, l₇ _ _ l₆, S₄.kept (k₅.trans k₆), by (first | lia | omega), P₆, by dsimp only; (first | lia | omega), by (first | assumption | rfl | exact (if_neg (by decide)).trans (by assumption) | exact if_pos rfl), by (first | assumption | rfl | exact (if_neg (by decide)).trans (by assumption) | exact if_pos rfl), by (first | assumption | rfl | exact (if_neg (by decide)).trans (by assumption) | exact if_pos rfl), by (first | assumption | rfl | exact (if_neg (by decide)).trans (by assumption) | exact if_pos rfl), by (first | assumption | rfl | exact (if_neg (by decide)).trans (by assumption) | exact if_pos rfl)⟩
      · rw [if_neg (fun q => c3 q.1)] at ep
        subst ep
        repeat (first | walk_at "sky_m0" | walk_at "sky_mget")
        exact ⟨rfl, B₂, _, _, _, its₂, ga₂, rfl, by assumption, Kept.refl _, by assumption, S₂, by (first | exact Nat.le_succ_of_le (by assumption) | lia), Pg₂, hg₂, by (first | assumption | rfl | exact (if_neg (by decide)).trans (by assumption) | exact if_pos rfl), by (first | assumption | rfl | exact (if_neg (by decide)).trans (by assumption) | exact if_pos rfl), by (first | assumption | rfl | exact (if_neg (by decide)).trans (by assumption) | exact if_pos rfl), by (first | assumption | rfl | exact (if_neg (by decide)).trans (by assumption) | exact if_pos rfl), by (first | assumption | rfl | exact (if_neg (by decide)).trans (by assumption) | exact if_pos rfl)⟩
    clear X₂ l₂ S₂ Pg₂ hg₂ e1 e2 e3 e4 e5
    rintro s' ⟨B₃, h₃, m₃, tk₃, its₃, ga₃, rfl, X₃, k₃, l₃, S₃, z₃, Pg₃, hg₃, e1, e2, e3, e4, e5⟩
    have Pk₃ := Pk₂.kept k₃
    have Rc₃ := Rc₂.kept k₃
    have kk := k₂.trans k₃
    replace kB := kB.trans k₃
    clear Pk₂ Rc₂ k₃
    obtain ⟨acc', g'⟩ := pr
    try dsimp only at S₃ Pg₃ hg₃
    generalize eq : (if g'.x < x + wd then
        let a := if g'.x = x then mergeSeg acc' ⟨x, y + l, wd⟩ else acc'
        if x + wd < g'.x + g'.l then (mergeSeg a ⟨x + wd, g'.y, g'.x + g'.l - (x + wd)⟩, (⟨g'.x, g'.y, x + wd - g'.x⟩ : Sg)) else (a, g')
      else (acc', g')) = qr
    refine cut (AddSt w L a p r s B₃ qr.1 qr.2 (4 * i + 3)) ?_ ?_
    · repeat (first | walk_at "sky_m0" | walk_at "sky_mget")
      refine ite_d (fun c5 => ?_) (fun c5 => ?_)
      · skip
        rw [if_pos c5] at eq
        generalize ea : (if g'.x = x then mergeSeg acc' ⟨x, y + l, wd⟩ else acc') = ac at eq
        refine cut (AddSt w L a p r s B₃ ac g' (4 * i + 2)) ?_ ?_
        · by_cases c6 : g'.x = x
          · rw [if_pos c6] at ea
            subst ea
            repeat (first | walk_at "sky_m0" | walk_at "sky_mget")
            refine m_pkmeth (by assumption) Pk₃ (by decide) (pk_merge _) ?_
            try dsimp only
            repeat (first | walk_at "sky_m0" | walk_at "sky_mget")
            refine m_new_pt (by assumption) (by (exact ne_of (n := "self") (by (first | assumption | rfl | exact (if_neg (by decide)).trans (by assumption) | exact if_pos rfl)))) (R'.le (by decide) (by decide)) fun n₅ B₅ h₅ tk₅ X₅ k₅ kh₅ P₅ => ?_
            try dsimp only at kh₅ ⊢
            have l₅ := Heap.PlainList.at (by assumption) (kh₅ _)
            have Rc₅ := Rc₃.kept k₅
            clear kh₅
            repeat (first | walk_at "sky_m0" | walk_at "sky_mget")
            refine m_new_seg (by assumption) (by (exact ne_of (n := "self") (by (first | assumption | rfl | exact (if_neg (by decide)).trans (by assumption) | exact if_pos rfl)))) (by (first | assumption | rfl | exact (if_neg (by decide)).trans (by assumption) | exact if_pos rfl)) P₅ (R'.le (by decide) (by decide)) fun n₆ B₆ h₆ tk₆ X₆ k₆ kh₆ P₆ => ?_
            try dsimp only at kh₆ ⊢
            have l₆ := Heap.PlainList.at (by assumption) (kh₆ _)
            have k₃₆ := k₅.trans k₆
            clear kh₆
            repeat (first | walk_at "sky_m0" | walk_at "sky_mget")
            refine m_merge (by assumption) (by (exact ne_of (n := "self") (by (first | assumption | rfl | exact (if_neg (by decide)).trans (by assumption) | exact if_pos rfl)))) (by (first | assumption | rfl | exact (if_neg (by decide)).trans (by assumption) | exact if_pos rfl)) (.head _) l₆ (S₃.kept k₃₆) (by (first | lia | omega)) (sg := ⟨x, y + l, wd⟩) P₆ (Int.le_of_lt hw) (R'.le (by decide) (by decide)) fun B₇ h₇ tk₇ its₇ X₇ k₇ l₇ S₇ z₇ => ?_
            try dsimp only
            repeat (first | walk_at "sky_m0" | walk_at "sky_mget")
            exact ⟨rfl, B₇, _, _, _, its₇, ga₃, rfl, X₇, k₃₆.trans k₇, l₇, S₇, by (first | lia | omega), Pg₃.kept (k₃₆.trans k₇), hg₃, e1, e2, e3, e4, e5⟩
          · rw [if_neg c6] at ea
            subst ea
            repeat (first | walk_at "sky_m0" | walk_at "sky_mget")
            exact ⟨rfl, B₃, _, _, _, its₃, ga₃, rfl, by assumption, Kept.refl _, by assumption, S₃, by (first | exact Nat.le_succ_of_le (by assumption) | lia), Pg₃, hg₃, e1, e2, e3, e4, e5⟩
        clear ea X₃ l₃ S₃ Pg₃ hg₃ e1 e2 e3 e4 e5
        rintro s' ⟨B₄, h₄, m₄, tk₄, its₄, ga₄, rfl, X₄, k₄, l₄, S₄, z₄, Pg₄, hg₄, e1, e2, e3, e4, e5⟩
        have Pk₄ := Pk₃.kept k₄
        have Rc₄ := Rc₃.kept k₄
        by_cases c7 : x + wd < g'.x + g'.l
        · rw [if_pos c7] at eq
          subst eq
          repeat (first | walk_at "sky_m0" | walk_at "sky_mget")
          refine m_pkmeth (by assumption) Pk₄ (by decide) (pk_merge _) ?_
          try dsimp only
          repeat (first | walk_at "sky_m0" | walk_at "sky_mget")
          refine m_new_pt (by assumption) (by (exact ne_of (n := "self") (by (first | assumption | rfl | exact (if_neg (by decide)).trans (by assumption) | exact if_pos rfl)))) (R'.le (by decide) (by decide)) fun n₅ B₅ h₅ tk₅ X₅ k₅ kh₅ P₅ => ?_
          try dsimp only at kh₅ ⊢
          have l₅ := Heap.PlainList.at (by assumption) (kh₅ _)
          have Rc₅ := Rc₄.kept k₅
          have Pg₅ := Pg₄.kept k₅
          clear kh₅
          repeat (first | walk_at "sky_m0" | walk_at "sky_mget")
          refine m_new_seg (by assumption) (by (exact ne_of (n := "self") (by (first | assumption | rfl | exact (if_neg (by decide)).trans (by assumption) | exact if_pos rfl)))) (by (first | assumption | rfl | exact (if_neg (by decide)).trans (by assumption) | exact if_pos rfl)) P₅ (R'.le (by decide) (by decide)) fun n₆ B₆ h₆ tk₆ X₆ k₆ kh₆ P₆ => ?_
          try dsimp only at kh₆ ⊢
          have l₆ := Heap.PlainList.at (by assumption) (kh₆ _)
          have k₄₆ := k₅.trans k₆
          clear kh₆
          repeat (first | walk_at "sky_m0" | walk_at "sky_mget")
          refine m_merge (by assumption) (by (exact ne_of (n := "self") (by (first | assumption | rfl | exact (if_neg (by decide)).trans (by assumption) | exact if_pos rfl)))) (by (first | assumption | rfl | exact (if_neg (by decide)).trans (by assumption) | exact if_pos rfl)) (.head _) l₆ (S₄.kept k₄₆) (by (first | lia | omega)) (sg := ⟨x + wd, g'.y, g'.x + g'.l - (x + wd)⟩) P₆ (by dsimp only; (first | lia | omega)) (R'.le (by decide) (by decide)) fun B₇ h₇ tk₇ its₇ X₇ k₇ l₇ S₇ z₇ => ?_
          try dsimp only
          have k₄₇ := k₄₆.trans k₇
          have Pg₇ := Pg₄.kept k₄₇
          have Rc₇ := Rc₄.kept k₄₇
          repeat (first | walk_at "sky_m0" | walk_at "sky_mget")
          refine m_new_seg (by assumption) (by (exact ne_of (n := "self") (by (first | assumption | rfl | exact (if_neg (by decide)).trans (by assumption) | exact if_pos rfl)))) (by (first | assumption | rfl | exact (if_neg (by decide)).trans (by assumption) | exact if_pos rfl)) (by assumption) (R'.le (by decide) (by decide)) fun n₈ B₈ h₈ tk₈ X₈ k₈ kh₈ P₈ => ?_
          try dsimp only at kh₈ ⊢
          have l₈ := Heap.PlainList.at (by assumption) (kh₈ _)
          clear kh₈
          (((try (with_reducible first | refine Next.next (by assumption) ?_ | refine Next.ret (by assumption) ?_ | refine Next.cont (by assumption) ?_ | refine Next.brk (by assumption) ?_ | refine IfK.go (by assumption) ?_ | refine AsK.go (by assumption) ?_)); (with_reducible show wpAny _ _ (storeName _ _ _) _ _ _); refine m_store (by assumption) (by assumption) (by exact rfl) ?_))
          intro h₉ tkσ X₉ l₉ b₉
          try dsimp only at l₉ ⊢
          repeat (first | walk_at "sky_m0" | walk_at "sky_mget")
          exact ⟨rfl, B₈, _, _, _, its₇, n₈, rfl, X₉, k₄.trans (k₄₇.trans k₈), l₉ _ _ l₈, S₇.kept k₈, by (first | lia | omega), P₈, by dsimp only; (first | lia | omega), by (first | assumption | rfl | exact (if_neg (by decide)).trans (by assumption) | exact if_pos rfl), by (first | assumption | rfl | exact (if_neg (by decide)).trans (by assumption) | exact if_pos rfl), by (first | assumption | rfl | exact (if_neg (by decide)).trans (by assumption) | exact if_pos rfl), by (first | assumption | rfl | exact (if_neg (by decide)).trans (by assumption) | exact if_pos rfl), by (first | assumption | rfl | exact (if_neg (by decide)).trans (by assumption) | exact if_pos rfl)⟩
        · rw [if_neg c7] at eq
          subst eq
          repeat (first | walk_at "sky_m0" | walk_at "sky_mget")
          exact ⟨rfl, B₄, _, _, _, its₄, ga₄, rfl, by assumption, k₄, by assumption, S₄, by (first | exact Nat.le_succ_of_le (by assumption) | lia), Pg₄, hg₄, e1, e2, e3, e4, e5⟩
      · rw [if_neg c5] at eq
        subst eq
        repeat (first | walk_at "sky_m0" | walk_at "sky_mget")
        exact ⟨rfl, B₃, _, _, _, its₃, ga₃, rfl, by assumption, Kept.refl _, by assumption, S₃, by (first | lia | omega), Pg₃, hg₃, e1, e2, e3, e4, e5⟩
    have fin : skyStep x wd (y + l) acc g = if x ≤ qr.2.x ∧ qr.2.x + qr.2.l ≤ x + wd then qr.1 else mergeSeg qr.1 qr.2 := by
      rw [← eq]
      unfold skyStep
      rw [if_neg (by (first | lia | omega)), ep]
    rw [fin]
    clear fin ep eq X₃ l₃ S₃ Pg₃ hg₃ e1 e2 e3 e4 e5
    rintro s' ⟨B₄, h₄, m₄, tk₄, its₄, ga₄, rfl, X₄, k₄, l₄, S₄, z₄, Pg₄, hg₄, e1, e2, e3, e4, e5⟩
    obtain ⟨acc'', g''⟩ := qr
    try dsimp only at S₄ Pg₄ hg₄
    have Pk₄ := Pk₃.kept k₄
    have Rc₄ := Rc₃.kept k₄
    have kk := kk.trans k₄
    by_cases c8 : x ≤ g''.x
    · by_cases c9 : g''.x + g''.l ≤ x + wd
      · rw [if_pos ⟨c8, c9⟩]
        repeat (first | walk_at "sky_m0" | walk_at "sky_mget")
        refine pk_wm (Fm.W (by assumption)) (Fm.keep (by assumption)) (Pk₄.kept (Fm.keep (by assumption))) fun tk => ?_
        try dsimp only
        repeat (first | walk_at "sky_m0" | walk_at "sky_mget")
        exact ⟨B₄, _, _, _, rfl, kk, Fm.F (by assumption), Fm.hid (by assumption), its₄, by assumption, S₄, by (first | exact Nat.le_succ_of_le (by assumption) | lia), e1, e2, e3, e5⟩
      · rw [if_neg (fun q => c9 q.2)]
        repeat (first | walk_at "sky_m0" | walk_at "sky_mget")
        refine m_pkmeth (by assumption) Pk₄ (by decide) (pk_merge _) ?_
        try dsimp only
        repeat (first | walk_at "sky_m0" | walk_at "sky_mget")
        refine m_merge (by assumption) (by (exact ne_of (n := "self") (by (first | assumption | rfl | exact (if_neg (by decide)).trans (by assumption) | exact if_pos rfl)))) (by (first | assumption | rfl | exact (if_neg (by decide)).trans (by assumption) | exact if_pos rfl)) (.head _) (by assumption) S₄ (by (first | lia | omega)) Pg₄ hg₄ (R'.le (by decide) (by decide)) fun B₇ h₇ tk₇ its₇ X₇ k₇ l₇ S₇ z₇ => ?_
        try dsimp only
        repeat (first | walk_at "sky_m0" | walk_at "sky_mget")
        exact ⟨B₇, _, _, _, rfl, kk.trans k₇, X₇.F, X₇.hid, its₇, l₇, S₇, by (first | lia | omega), e1, e2, e3, e5⟩
    · rw [if_neg (fun q => c8 q.1)]
      repeat (first | walk_at "sky_m0" | walk_at "sky_mget")
      refine m_pkmeth (by assumption) Pk₄ (by decide) (pk_merge _) ?_
      try dsimp only
      repeat (first | walk_at "sky_m0" | walk_at "sky_mget")
      refine m_merge (by assumption) (by (exact ne_of (n := "self") (by (first | assumption | rfl | exact (if_neg (by decide)).trans (by assumption) | exact if_pos rfl)))) (by (first | assumption | rfl | exact (if_neg (by decide)).trans (by assumption) | exact if_pos rfl)) (.head _) (by assumption) S₄ (by (first | lia | omega)) Pg₄ hg₄ (R'.le (by decide) (by decide)) fun B₇ h₇ tk₇ its₇ X₇ k₇ l₇ S₇ z₇ => ?_
      try dsimp only
      repeat (first | walk_at "sky_m0" | walk_at "sky_mget")
      exact ⟨B₇, _, _, _, rfl, kk.trans k₇, X₇.F, X₇.hid, its₇, l₇, S₇, by (first | lia | omega), e1, e2, e3, e5⟩
  · rintro B₁ h₁ m₁ tk₁ ⟨its, l₁, S₁, z₁, n1, n2, n3, n4⟩ kB F₁ hh₁
    have X₁ : Fm w [a] B₁ L h₁ m₁ := ⟨X₂.W.keeps kB, F₁, hh₁, fun b hb => by rw [List.mem_singleton.mp hb]; exact Has.plain l₁⟩
    have eall : (segs.take items.size).foldl (skyStep x wd (y + l)) [] = addSky segs x wd (y + l) := by
      rw [hS.1, List.take_length]; rfl
    rw [eall] at S₁
    have Pk₁ := P.kept kB
    clear X₂
    repeat (first | walk_at "sky_m0" | walk_at "sky_mget")
    obtain ⟨nl, el⟩ := l₁
    refine call_list_seq a (.inl rfl) el rfl rfl (fun h₂ c₂ k₂ e₂ => ?_) (by rw [sizeLine_eq]; (first | lia | omega))
    have l₂ : h₂.PlainList h₁.objs.size its := ⟨_, e₂⟩
    have X₂ := X₁.step k₂
    try dsimp only at e₂ ⊢
    have fsl : s.heap.get? h₁.objs.size = none := by
      cases q : s.heap.get? h₁.objs.size with
      | none => rfl
      | some o => have := X₁.keep _ _ (kB _ _ q); rw [get?_size] at this; cases this
    generalize h₁.objs.size = sl' at l₂ fsl ⊢
    repeat (first | walk_at "sky_m0" | walk_at "sky_mget")
    refine pk_set_sky X₂.W X₂.keep (Pk₁.kept X₂.keep) fun h₃ tk₃ mm N₃ s1 s2 s3 P₃ b₃ => ?_
    try dsimp only at N₃ b₃ ⊢
    repeat (first | walk_at "sky_m0" | walk_at "sky_mget")
    exact h h₃ _ sl' its (fun b o n e => b₃ b o n (X₂.keep b o (kB b o e))) fsl P₃ (PlainList.butd l₂ N₃ b₃) ((S₁.kept X₂.keep).butd N₃ s1 s3 b₃)
  · passes_own
end
/- the table of a code object, as it may stand -/
inductive Tab (h : Heap) (c P : Addr) : Prop
  | mk (ps : _) (f1 : h.IsCode c P ps) (f2 : h.TableAt c P ps) : Tab h c P
theorem Tab.kept {h h' : Heap} {c P : Addr} (T : Tab h c P) (k : Kept h h') : Tab h' c P := let ⟨ps, a, b⟩ := T; ⟨ps, a.keeps k, b.keeps k⟩
theorem code_at2 {h h' : Heap} {c P : Addr} {ps : Array Value} (x : h.IsCode c P ps) (kc : ∀ o, h.get? c = some o → h'.get? c = some o) (kP : ∀ o, h.get? P = some o → h'.get? P = some o) : h'.IsCode c P ps := by
  obtain ⟨o, vs, file, tf, flags, tg, inF, text, tt, op, ho, hd, h11, h2, h7, h9, h10, hop, r⟩ := x
  exact ⟨o, vs, file, tf, flags, tg, inF, text, tt, op, kc _ ho, hd, h11, h2, h7, h9, h10, kP _ hop, r⟩
theorem code_out {h : Heap} {c P : Addr} {ps : Array Value} (x : h.IsCode c P ps) : (∃ o vs, h.get? c = some o ∧ o.data = .fields vs) ∧ TriplesOk ps.toList := by
  obtain ⟨o, vs, _, _, _, _, _, _, _, _, ho, hd, _, _, _, _, _, _, _, r⟩ := x
  exact ⟨⟨o, vs, ho, hd⟩, r.1⟩
theorem table_at2 {h h' : Heap} {c P : Addr} {ps : Array Value} (x : h.TableAt c P ps) (kc : ∀ o, h.get? c = some o → h'.get? c = some o) (kP : ∀ o, h.get? P = some o → h'.get? P = some o) : h'.TableAt c P ps :=
  let ⟨⟨o, vs, e, r⟩, b⟩ := x; ⟨⟨o, vs, kc _ e, r⟩, kP _ b⟩
theorem Tab.at {h h' : Heap} {c P : Addr} (T : Tab h c P) (kc : ∀ o, h.get? c = some o → h'.get? c = some o) (kP : ∀ o, h.get? P = some o → h'.get? P = some o) : Tab h' c P :=
  let ⟨ps, a, b⟩ := T; ⟨ps, code_at2 a kc kP, table_at2 b kc kP⟩
theorem Tab.has {h : Heap} {c P : Addr} (T : Tab h c P) : Has h P := let ⟨_, _, _, b⟩ := T; ⟨_, b, (fun _ _ q => by cases q), (fun _ _ q => by cases q), (fun _ _ q => by cases q)⟩
theorem Tab.but {h h' : Heap} {c P a : Addr} (T : Tab h c P) (k : But a h h') (hc : c ≠ a) (hP : P ≠ a) : Tab h' c P := T.at (fun _ e => k _ _ hc e) fun _ e => k _ _ hP e
section
variable {M : Model} {prog : Program} {w : World} {A : Around} {E : Value → Shared → Prop} {s : Shared} {B : Heap}
theorem code_rule {σh : Heap} {σg : Array GenState} {σd : Drawn} {σt : Nat} {σo : OsState} {env : Env} {c P : Addr} {pos : Pos} {q : Str} {scope : Scope} {Q : Value → Shared → Prop} (hc : env.code = .ref c) (T : Tab σh c P)
    (h : ∀ code h' tk, But P σh h' → Tab h' c P → σh.objs.size ≤ h'.objs.size → Q code ⟨h', σg, σd, tk, σo⟩) : wpAny M A (genexprCode env pos q scope) Q E ⟨σh, σg, σd, σt, σo⟩ := by
  obtain ⟨ps, ok, tab⟩ := id T
  cases hf : codeAmong pos ps.toList with
  | some c' => exact wpAny_genexprCode_hit hc ok hf (h c' σh σt (fun _ _ _ e => e) T (Nat.le_refl _))
  | none => exact wpAny_genexprCodeX hc ok tab hf fun c' h' tk b z1 z2 ok' _ tab' _ => h _ h' tk b ⟨_, ok', tab'⟩ (Nat.le_trans z1 (Nat.le_of_lt z2))
theorem bi_mod (P : Params) : nsIn (kHead.heap_1 P) mainGlobals "__builtins__" = some (some (.ref 4)) := by k_is
theorem builtins_rule {Q : Addr → Shared → Prop} {run : Addr} (W : Wd w B) (k : Kept B s.heap) (h : Q builtinsNs s) : wpAny M A (builtinsFor mainGlobals run) Q E s := by
  obtain ⟨mg, G⟩ := mg_K W.K
  obtain ⟨ob, ho, hc, hdi, hda⟩ := W.md
  exact wpAny_builtinsFor (G.keeps k) (mg_of W.K G (bi_mod _)) (by decide) (k _ _ ho) hc hdi hda h
end
/- a generator made and not yet begun: g its place, what it keeps an eye on lies off Ex, what it turns (wr) is new since h₀ -/
structure GenR (prog : Program) (w : World) (A : Around) (a g : Nat) (Ex wr : List Addr) (h₀ : Heap) (n : Nat) (P : Nat → Value → Prop) (s : Shared) : Prop where
  ex : ∃ fp St, WalksS prog w A.in4 a fp wr (GenOnlyQ g) n P St ∧ St 0 s ∧ (∀ i s, St i s → s.TypeIs (.ref a) "generator") ∧ a ∈ fp ∧ (∀ b ∈ fp, b ≤ a) ∧ (∀ b ∈ fp, b ∉ Ex) ∧
    (∀ (s : Shared) h' tk gs dr os, St 0 s → (∀ b ∈ fp, ∀ o, s.heap.get? b = some o → h'.get? b = some o) → gs[g]? = s.gens[g]? → St 0 ⟨h', gs, dr, tk, os⟩)
  fresh : ∀ b ∈ wr, h₀.get? b = none
  here : ∀ b ∈ wr, ∃ o, s.heap.get? b = some o
section
variable {prog : Program} {w : World} {A : Around} {E : Value → Shared → Prop} {s : Shared} {B : Heap}
theorem GenR.next {a g : Nat} {Ex wr : List Addr} {h₀ : Heap} {n : Nat} {P : Nat → Value → Prop} (G : GenR prog w A a g Ex wr h₀ n P s) {h' : Heap} {tk : Nat} {gs : Array GenState} {dr : Drawn} {os : OsState}
    (k : ∀ b o, b ∉ Ex → s.heap.get? b = some o → h'.get? b = some o) (hw : ∀ b ∈ wr, b ∉ Ex) (hg : gs[g]? = s.gens[g]?) : GenR prog w A a g Ex wr h₀ n P ⟨h', gs, dr, tk, os⟩ := by
  obtain ⟨⟨fp, St, W, st, ty, ha, hle, hex, fr⟩, f, hr⟩ := G
  exact ⟨⟨fp, St, W, fr _ _ _ _ _ _ st (fun b hb o e => k b o (hex b hb) e) hg, ty, ha, hle, hex, fr⟩, f, fun b hb => let ⟨o, e⟩ := hr b hb; ⟨o, k b o (hw b hb) e⟩⟩
theorem gen_mk {env : Env} {elt iter : PySem.Expr} {x : Str} {px : Pos} {ifs : List PySem.Expr} {scope : Scope} {cl : List (Str × Addr)} {pos : Pos} {Q : Value → Shared → Prop} {ax c P : Addr} {items : Array Value} (Ex : List Addr) (pz : Nat → Bool) (F : Nat → Value → Prop)
    (hA : A.handled = none) (hroom : A.depth < recursionLimit) (hcode : env.code = .ref c) (hg : env.globals = mainGlobals)
    (hco : scope.isCoroutine = false) (hclos : closureFor scope env = pure cl) (hcell : ∀ y ∈ scope.names, y.2 ≠ .cell) (h0 : scope.names.lookup (".0" : Str) = some NameKind.local)
    (hx : scope.names.lookup x = some .local) (hkind : scope.kind = .function) (hs : ∀ x, genFold iter env x = pure x)
    (W : Wd w B) (k : Kept B s.heap) (T : Tab s.heap c P) (hl : B.IsList ax items) (hEx : ∀ b ∈ Ex, B.get? b = none) (hEx' : ∀ b ∈ Ex, ∃ o, s.heap.get? b = some o) (hP : P ∈ Ex)
    (hiter : ∀ Q' : Value → Shared → Prop, Q' (.ref ax) s → wpAny (model prog w) A (eval iter env) Q' E s)
    (tests : ∀ code C (A' : Around) E' i v (s₂ : Shared) m₂, Ev (genEnv scope cl C code builtinsNs env) C scope.names cl → A'.handled = none → A'.depth ≤ A.depth + 1 → A'.units ≤ A.units + 8 → items[i]? = some v → s₂.heap.Ns C m₂ → m₂ x = some v → s.heap.get? C = none → (∀ b o, b ∉ Ex → s.heap.get? b = some o → s₂.heap.get? b = some o) →
      wpAny (model prog w) A' (forIn ifs true fun c r => if r = true then do let ok ← isTrue c (genEnv scope cl C code builtinsNs env) (eval c (genEnv scope cl C code builtinsNs env)); pure (ForInStep.yield ok) else pure (ForInStep.yield r)) (fun ok s₃ => ok = pz i ∧ Keeps s₂ s₃) E' s₂)
    (elts : ∀ code C (A' : Around) E' i v (s₂ : Shared) m₂, Ev (genEnv scope cl C code builtinsNs env) C scope.names cl → A'.handled = none → A'.depth ≤ A.depth + 1 → A'.units ≤ A.units + 8 → items[i]? = some v → pz i = true → s₂.heap.Ns C m₂ → m₂ x = some v → s.heap.get? C = none → (∀ b o, b ∉ Ex → s.heap.get? b = some o → s₂.heap.get? b = some o) →
      wpAny (model prog w) A' (eval elt (genEnv scope cl C code builtinsNs env)) (fun y s₃ => F i y ∧ Keeps s₂ s₃) E' s₂)
    (h : ∀ a wr h' tk gs, gs.bare = true → But P s.heap h' → Tab h' c P → s.heap.get? a = none → (∀ b ∈ wr, b ∉ Ex) →
      GenR prog w A a s.gens.size Ex wr s.heap (passing pz items.size 0).length (fun j y => ∃ i, (passing pz items.size 0)[j]? = some i ∧ F i y) { s with gens := s.gens.push gs, toks := tk, heap := h' } →
      Q (.ref a) { s with gens := s.gens.push gs, toks := tk, heap := h' }) :
    wpAny (model prog w) A (eval (.GeneratorExp elt [⟨.Name x px, iter, ifs, 0⟩] scope pos) env) Q E s := by
  obtain ⟨sh, sg, sd, st, sos⟩ := s
  try dsimp only at *
  have hls : sh.IsList ax items := hl.at fun o e => k _ _ e
  obtain ⟨oax, hoax, -⟩ := id hl
  refine wpAny_GeneratorExp_make hco hclos hcell h0 hkind hroom (hiter _ (wpAny_pyIter_list hls ?_)) hs
  have kp : Kept sh (sh.push { cls := .type "list_iterator", data := .fields #[.ref ax, .int 0 0] }) := Kept.push _ _
  refine ⟨(W.keeps (k.trans kp)).lim, code_rule hcode (T.kept kp) fun code h₃ tk₃ b₃ T₃ z₃ => ?_⟩
  try dsimp only at b₃ z₃ ⊢
  rw [Heap.size_push] at z₃
  have hPB : ∀ b o, B.get? b = some o → b ≠ P := fun b o e q => by rw [q, hEx P hP] at e; cases e
  have k₃ : Kept B h₃ := fun b o e => b₃ b o (hPB b o e) (kp b o (k b o e))
  have bk : But P sh h₃ := fun b o n e => b₃ b o n (kp b o e)
  rw [hg]
  refine builtins_rule W k₃ ?_
  intro h' hn' hs'
  try dsimp only at hn' hs' ⊢
  have hI : h₃.IsListIter sh.objs.size ax 0 := by
    refine ⟨_, b₃ _ _ ?_ (Heap.get?_push_size _ rfl), rfl, rfl⟩
    obtain ⟨oP, hoP⟩ := hEx' P hP
    exact fun q => absurd (Heap.lt_size hoP) (by rw [← q]; exact Nat.lt_irrefl _)
  have hsz : h'.objs.size = h₃.objs.size + 1 := by rw [hs'.1, Heap.size_push]
  have k' : Kept h₃ h' := fun b o e => hs'.extBut b o (Nat.ne_of_lt (Heap.lt_size e)) (Heap.get?_push_of_some _ e)
  let o₅ : Obj := { cls := .type "generator", data := .fields #[.int sg.size 0, .str "<genexpr>" (tk₃ + 1), .str (env.qual ++ "<genexpr>") (tk₃ + 1 + 1)] }
  have k₅ : Kept h₃ (h'.push o₅) := k'.trans (Kept.push _ _)
  have hIlt : sh.objs.size < h₃.objs.size := by (first | assumption | lia)
  have hIEx : sh.objs.size ∉ Ex := fun q => by obtain ⟨o, e⟩ := hEx' _ q; exact absurd (Heap.lt_size e) (Nat.lt_irrefl _)
  have haxI : ax ≠ sh.objs.size := Nat.ne_of_lt (Heap.lt_size (k _ _ hoax))
  have haxEx : ax ∉ Ex := fun q => by rw [hEx _ q] at hoax; cases hoax
  let fp : List Addr := (List.range h₃.objs.size).filter (fun b => decide (b ∉ Ex))
  have mfp : ∀ b, b < h₃.objs.size → b ∉ Ex → b ∈ fp := fun b h1 h2 => List.mem_filter.mpr ⟨List.mem_range.mpr h1, decide_eq_true h2⟩
  have ofp : ∀ b, b ∈ fp → b < h₃.objs.size ∧ b ∉ Ex := fun b hb => ⟨List.mem_range.mp (List.mem_filter.mp hb).1, of_decide_eq_true (List.mem_filter.mp hb).2⟩
  have W₀ : ∀ A' : Around, A'.handled = none → Walks prog w A' sh.objs.size fp [sh.objs.size] items.size (fun i v => items[i]? = some v) (fun i h => h.IsListIter sh.objs.size ax i ∧ h.IsList ax items) := fun A' hA' =>
    (Walks.list hA' sh.objs.size ax haxI items).mono_fp fun b hb => by
      rcases List.mem_cons.mp hb with q | q
      · exact q ▸ mfp _ hIlt hIEx
      · rw [List.mem_singleton.mp q]; exact mfp _ (Heap.lt_size (k₃ _ _ hoax)) haxEx
  have hlim₅ : (h'.push o₅).NoLimit := W.lim.keeps (k₃.trans k₅)
  obtain ⟨mc, hnc, -⟩ := W.lim
  obtain ⟨oc, eoc, epc, hoc, -⟩ := hnc
  have hcs : cStatics ∈ fp := mfp _ (Heap.lt_size (k₃ _ _ hoc)) fun q => by rw [hEx _ q] at hoc; cases hoc
  have hcI : cStatics ∉ [sh.objs.size] := fun q => absurd (Heap.lt_size (k _ _ hoc)) (by rw [List.mem_singleton.mp q]; exact Nat.lt_irrefl _)
  have base : ∀ s₂ : Shared, (∀ b ∈ fp, b ∉ [sh.objs.size] → ∀ o, (h'.push o₅).get? b = some o → s₂.heap.get? b = some o) → ∀ b o, b ∉ Ex → sh.get? b = some o → s₂.heap.get? b = some o := fun s₂ hk b o hb e => by
    have hlt := Heap.lt_size e
    have zz : sh.objs.size ≤ h₃.objs.size := by (first | exact Nat.le_of_lt (by assumption) | lia)
    refine hk b (mfp b (Nat.lt_of_lt_of_le hlt zz) hb) (fun q => ?_) o (k₅ _ _ (bk b o (fun q => hb (q ▸ hP)) e))
    rw [List.mem_singleton.mp q] at hlt; exact Nat.lt_irrefl _ hlt
  have hC : sh.get? h₃.objs.size = none := by
    cases q : sh.get? h₃.objs.size with
    | none => rfl
    | some o => exact absurd (Heap.lt_size q) (Nat.not_lt.mpr (by (first | exact Nat.le_of_lt (by assumption) | lia)))
  have ha : sh.get? h'.objs.size = none := by
    cases q : sh.get? h'.objs.size with
    | none => rfl
    | some o => exact absurd (Heap.lt_size q) (Nat.not_lt.mpr (by (first | lia | omega)))
  have hEx3 : ∀ b : Nat, b ∈ Ex → b < sh.objs.size := fun b hb => let ⟨o, e⟩ := hEx' b hb; Heap.lt_size e
  refine h h'.objs.size [h₃.objs.size, sh.objs.size] _ _ _ rfl (fun b o n e => k₅ b o (bk b o n e)) (T₃.kept k₅) ha (fun b hb => ?_) ⟨⟨h'.objs.size :: h₃.objs.size :: fp, GenAt prog w A.in4 h'.objs.size sg.size h₃.objs.size fp [sh.objs.size] pz items.size F,
    WalksS.genexpQ (A := A.in4) hA _ _ _ _ [sh.objs.size] pz items.size F (Nat.ne_of_gt (by (first | exact Nat.le_of_eq (Eq.symm (by assumption)) | lia))) (fun q => absurd (ofp _ q).1 (Nat.not_lt.mpr (by (first | lia | omega)))) (fun b hb => by rw [List.mem_singleton.mp hb]; exact mfp _ hIlt hIEx) hroom hcs (Nat.ne_of_lt (ofp _ hcs).1) hcI, ?_, ?_, .head _, ?_, ?_, ?_⟩, ?_, ?_⟩
  · rcases List.mem_cons.mp hb with q | q
    · subst q; intro q; exact absurd (hEx3 _ q) (Nat.not_lt.mpr (by (first | exact Nat.le_of_lt (by assumption) | lia)))
    · rw [List.mem_singleton.mp q]; exact hIEx
  · refine GenAt.freshD (A := A.in4) (I := sh.objs.size) (n₀ := items.size) (cenv := genEnv scope cl h₃.objs.size code builtinsNs env) (m := fun y => if y = ".0" then some (.ref sh.objs.size) else none) hA W₀ pz F hx (by simp [genEnv, hkind]) hco
      (fun hm => by have := (ofp _ hm).1; exact Nat.lt_irrefl _ this) ⟨fun A' E' i v s₂ m₂ h1 h2 h3 h4 h5 h6 h7 => tests _ _ A' E' i v s₂ m₂ ⟨hkind, rfl, hg, rfl, rfl, rfl⟩ h1 h2 h3 h4 h5 h6 hC (base s₂ h7), fun A' E' i v s₂ m₂ h1 h2 h3 h4 h5 h6 h7 h8 => elts _ _ A' E' i v s₂ m₂ ⟨hkind, rfl, hg, rfl, rfl, rfl⟩ h1 h2 h3 h4 h5 h6 h7 hC (base s₂ h8)⟩
      ⟨_, _, _, Heap.get?_push_size _ rfl, rfl, rfl, rfl⟩ (Array.getElem?_push_size ..) ⟨hI.at fun o e => k₅ _ _ e, hl.at fun o e => k₅ _ _ (k₃ _ _ e)⟩ (hn'.push _) hlim₅
  · intro i s st
    obtain ⟨⟨o, nm, qn, ho, hc, -⟩, -⟩ := st
    exact ⟨o, ho, hc⟩
  · intro b hb
    rcases List.mem_cons.mp hb with q | q
    · exact Nat.le_of_eq q
    · rcases List.mem_cons.mp q with q | q
      · subst q; show (_ : Nat) ≤ _; (first | lia | omega)
      · exact Nat.le_trans (Nat.le_of_lt (ofp _ q).1) (by (first | lia | omega))
  · intro b hb
    rcases List.mem_cons.mp hb with q | q
    · subst q; intro q; exact absurd (hEx3 _ q) (Nat.not_lt.mpr (by (first | lia | omega)))
    · rcases List.mem_cons.mp q with q | q
      · subst q; intro q; exact absurd (hEx3 _ q) (Nat.not_lt.mpr (by (first | exact Nat.le_of_lt (by assumption) | lia)))
      · exact (ofp _ q).2
  · intro s₁ h₁ tk₁ gs₁ dr os st₁ hk₁ hgs₁
    obtain ⟨⟨o, nm, qn, ho, r⟩, ⟨mc, hns, hnn⟩, gs, hgs, hgo⟩ := st₁
    exact ⟨⟨o, nm, qn, hk₁ _ (.head _) o ho, r⟩, ⟨mc, hns.at' fun o e => hk₁ cStatics (List.mem_cons_of_mem _ (List.mem_cons_of_mem _ hcs)) o e, hnn⟩, gs, hgs₁.trans hgs, fun s'' hal => hgo s'' fun b hb o e => hal b hb o (hk₁ b (List.mem_cons_of_mem _ hb) o e)⟩
  · intro b hb
    rcases List.mem_cons.mp hb with q | q
    · exact q ▸ hC
    · rw [List.mem_singleton.mp q]; exact get?_size _
  · intro b hb
    rcases List.mem_cons.mp hb with q | q
    · obtain ⟨o, es, ep, ho, -⟩ := hn'
      exact ⟨o, by rw [q]; exact Heap.get?_push_of_some _ ho⟩
    · rw [List.mem_singleton.mp q]
      obtain ⟨o, ho, -⟩ := hI
      exact ⟨o, k₅ _ _ ho⟩
theorem list_gen {a g : Nat} {Ex wr : List Addr} {h₀ : Heap} {n : Nat} {P : Nat → Value → Prop} {Q : Value → Shared → Prop} (G : GenR prog w A a g Ex wr h₀ n P s) (hn : n ≤ 1000) (hb : AllBare s.gens)
    (h : ∀ l h' tk gs acc, (∀ b o, b ∉ wr → s.heap.get? b = some o → h'.get? b = some o) → AllBare gs → (∀ k, k ≠ g → gs[k]? = s.gens[k]?) → s.heap.get? l = none → h'.PlainList l acc → ItemsOf P acc n →
      Q (.ref l) { s with heap := h', toks := tk, gens := gs }) : wpAny (model prog w) A (call (.type "list") [.ref a]) Q E s := by
  obtain ⟨⟨fp, St, W, st, ty, ha, hle, hex, fr⟩, f, hr⟩ := G
  obtain ⟨oa, hoa, -⟩ := ty 0 s st
  refine call_list_gen (W.in4_2) ty st (fun b hb => Nat.lt_of_le_of_lt (hle b hb) (Heap.lt_size hoa)) ha (fun s' acc c' mv hl hi => ?_) (by rw [sizeLine_eq]; (first | exact Nat.le_trans (by assumption) (by decide) | lia))
  obtain ⟨h', gs, dr, tk, os⟩ := s'
  obtain ⟨m1, m2, m3, m4, m5⟩ := mv
  try dsimp only at m1 m2 m3 m4 hl
  subst m3 m4
  refine h _ h' tk gs acc (fun b o nb e => m1 b o (fun q => ?_) (Heap.get?_push_of_some _ e)) (fun y hy => ?_) (fun k hk => ?_) (get?_size _) ⟨c', hl⟩ hi
  · rcases List.mem_cons.mp q with q | q
    · exact absurd (Heap.lt_size e) (by rw [q]; exact Nat.lt_irrefl _)
    · exact nb q
  · rcases m2 with m2 | ⟨m2, m2'⟩
    · rw [m2] at hy; exact hb y hy
    · obtain ⟨k, hk⟩ := Array.mem_iff_getElem?.mp hy
      by_cases e : k = g
      · exact m2' y (e ▸ hk)
      · rw [m2.2 k e] at hk; exact hb y (Array.mem_iff_getElem?.mpr ⟨k, hk⟩)
  · rcases m2 with m2 | ⟨m2, -⟩
    · rw [m2]
    · exact m2.2 k hk
/- a def with cells, entered -/
theorem code_fnC {σh : Heap} {σg : Array GenState} {σd : Drawn} {σt : Nat} {σo : OsState} {f : Addr} {oc : Value} {od : Option Addr} {osl : Array (Option Value)} {fd : FuncData} {body : List Stmt} {vals : List Value} {R : Result → Shared → Prop} {d u : Nat} (binds : List (Str × Value))
    (W : Wd w B) (k : Kept B σh) (Ro : Rm A (d + 1) (u + 3)) (ho : (kHead.heap_1 w.params).lookup f = some ⟨oc, od, .func fd, osl⟩) (hcd : codeIn (kHead.heap_1 w.params) fd.code fd.qualname = true) (hbody : fd.body = .stmts body) (hbind : bindArgs fd ⟨vals, []⟩ = pure binds) (hclo : fd.closure = [])
    (hkind : ∀ x ∈ binds, fd.scope.names.lookup x.1 = some .local ∨ (fd.scope.names.lookup x.1 = some .cell ∧ ((cellsFrom (σh.objs.size + 1) fd.scope.names []).lookup x.1).isSome = true))
    (hco : fd.scope.isCoroutine = false) (hgen : fd.scope.isGenerator = false) (hk : fd.scope.kind = .function) (hg : fd.globals = mainGlobals) (hb : fd.builtins = builtinsNs)
    (h : ∀ A' L env h₁ tk, Rm A' d u → Ev env L fd.scope.names (cellsFrom (L + 1) fd.scope.names []) → env.code = fd.code ∧ env.qual = fd.qualname ++ ".<locals>." → Fz σh L h₁ (bindL (fd.scope.names.lookup ·) binds fun _ => none) →
      (∀ n c, (cellsFrom (L + 1) fd.scope.names []).lookup n = some c → h₁.IsCell c (bindC (fd.scope.names.lookup ·) binds (fun _ => none) n) ∧ σh.get? c = none ∧ c ≠ L) → (cellsFrom (L + 1) fd.scope.names []).Pairwise (fun x y => x.2 ≠ y.2) →
      wpAny (model prog w) A' (execs body env) (fun fl s' => R (.ok (.ret (retv fl))) s') (fun _ _ => False) ⟨h₁, σg, σd, tk, σo⟩) :
    codeAny (model prog w) A (.call (.ref f) ⟨vals, []⟩) R ⟨σh, σg, σd, σt, σo⟩ := by
  replace W := W.keeps k
  refine codeAny_call_cells (by have := Ro.1; (first | lia | omega)) (W.K _ _ ho) rfl W.lim (codeRec_of W.K hcd) hbody hbind hclo hkind (fun s₁ x => ?_) hco hgen hk
  obtain ⟨h₁, tk, rfl⟩ := x.toInCall.same
  have hz : ∀ c, σh.objs.size < c → σh.get? c = none := fun c hc => by
    cases q : σh.get? c with
    | none => rfl
    | some o => exact absurd (Heap.lt_size q) (Nat.not_lt.mpr (Nat.le_of_lt hc))
  refine wpAny_mono (h _ σh.objs.size (callEnvC fd σh.objs.size f) h₁ tk (Ro.deeper _) ⟨hk, rfl, hg, hb, rfl, rfl⟩ ⟨rfl, rfl⟩ ⟨x.toInCall.ns, x.toInCall.keep, get?_size _⟩ (fun n c hc => ⟨x.cell n c hc, hz c (x.above n c (mem_of_lookup hc)), Nat.ne_of_gt (x.above n c (mem_of_lookup hc))⟩) x.apart) (fun fl s' q => ?_) fun _ _ x => x.elim
  cases fl <;> exact q
theorem IsCell.has {h : Heap} {c : Addr} {v : Option Value} (x : h.IsCell c v) : Has h c := let ⟨o, a, b⟩ := x; ⟨o, a, (fun C dx q => by rw [q] at b; cases b), (fun es ep q => by rw [b] at q; cases q), (fun xs n q => by rw [q] at b; cases b)⟩
end
section
variable {prog : Program} {w : World} {A : Around} {E : Value → Shared → Prop} {s : Shared} {B : Heap} {L : Addr} {m : Str → Option Value} {env : Env} {names : List (Str × NameKind)} {cells : List (Str × Addr)} {Hs : List Addr}
theorem m_cell {x : Str} {pos : Pos} {v : Value} {c : Addr} {Q : Value → Shared → Prop} (V : Ev env L names cells) (hl : names.lookup x = some .cell) (hc : cells.lookup x = some c) (hv : s.heap.IsCell c (some v)) (h : Q v s)
    (hd : (x == ("__debug__" : Str)) = false := by decide) : wpAny (model prog w) A (eval (.Name x pos) env) Q E s :=
  wpAny_Name (wpAny_loadName_cell V.k (by show env.scope.names.lookup x = _; rw [V.n]; exact hl) (by rw [V.c]; exact hc) hv h) hd
theorem m_free {x : Str} {pos : Pos} {v : Value} {c : Addr} {Q : Value → Shared → Prop} (V : Ev env L names cells) (hl : (names.lookup x, x == ("__debug__" : Str), x == ("__classdict__" : Str)) = (some .free, false, false)) (hc : cells.lookup x = some c) (hv : s.heap.IsCell c (some v)) (h : Q v s)
      : wpAny (model prog w) A (eval (.Name x pos) env) Q E s :=
  wpAny_Name (wpAny_loadName_free V.k (by show env.scope.names.lookup x = _; rw [V.n]; exact (Prod.mk.inj hl).1) (by rw [V.c]; exact hc) hv h (Prod.mk.inj (Prod.mk.inj hl).2).2) (Prod.mk.inj (Prod.mk.inj hl).2).1
theorem m_store_cell {σh : Heap} {σg : Array GenState} {σd : Drawn} {σt : Nat} {σo : OsState} {x : Str} {v : Value} {v₀ : Option Value} {c : Addr} {Q : Unit → Shared → Prop} (V : Ev env L names cells) (X : Fm w Hs B L σh m) (hm : c ∈ Hs) (hl : names.lookup x = some .cell) (hc : cells.lookup x = some c) (hv : σh.IsCell c v₀)
    (h : ∀ h', Fm w Hs B L h' m → h'.IsCell c (some v) → But c σh h' → Q () ⟨h', σg, σd, σt, σo⟩) : wpAny (model prog w) A (storeName env x v) Q E ⟨σh, σg, σd, σt, σo⟩ :=
  wpAny_storeName_cell V.k (by show env.scope.names.lookup x = _; rw [V.n]; exact hl) (by rw [V.c]; exact hc) hv fun h' a b => h h' (X.buto hm (But.of_same b) (IsCell.has a)) a (But.of_same b)
theorem one_if {M : Model} {c : PySem.Expr} {Q : Bool → Shared → Prop} (h : wpAny M A (isTrue c env (eval c env)) Q E s) :
    wpAny M A (forIn [c] true fun c r => if r = true then do let ok ← isTrue c env (eval c env); pure (ForInStep.yield ok) else pure (ForInStep.yield r)) Q E s := by
  rw [List.forIn_cons, if_pos rfl]
  exact wpAny_bind (wpAny_bind (wpAny_mono h (fun ok s' q => wpAny_pure (by dsimp only; rw [List.forIn_nil]; exact wpAny_pure q)) fun _ _ e => e))
theorem Segs.at {h : Heap} {items : Array Value} {segs : List Sg} {i : Nat} {v : Value} (S : Segs h items segs) (hv : items[i]? = some v) : ∃ g a, segs[i]? = some g ∧ v = .ref a ∧ SegAt h a g.x g.y g.l ∧ 0 ≤ g.l := by
  have : i < segs.length := by
    rw [← S.1]
    rcases Nat.lt_or_ge i items.size with q | q
    · exact q
    · rw [Array.getElem?_eq_none q] at hv; cases hv
  obtain ⟨a, b, c, d⟩ := S.2 i _ (List.getElem?_eq_getElem this)
  rw [hv] at b; cases b
  exact ⟨_, a, List.getElem?_eq_getElem this, rfl, c, d⟩
theorem IsCell.but {h h' : Heap} {c a : Addr} {v : Option Value} (x : h.IsCell c v) (k : But a h h') (n : c ≠ a) : h'.IsCell c v := let ⟨o, e, q⟩ := x; ⟨o, k _ _ n e, q⟩
end
theorem ints_of : ∀ (vs : List Value) (ns : List Int), vs.length = ns.length → (∀ (j : Nat) (v : Value), vs[j]? = some v → ∃ n t, ns[j]? = some n ∧ v = .int n t) → IntsAre vs ns
  | [], [], _, _ => .nil
  | v :: vs, n :: ns, hl, h => by
    obtain ⟨n', t, e, rfl⟩ := h 0 v rfl
    cases e
    exact .cons _ _ (ints_of vs ns (by simpa using hl) fun j v hv => h (j + 1) v hv)
  | [], _ :: _, hl, _ => by simp at hl
  | _ :: _, [], hl, _ => by simp at hl
theorem passing_segs (segs : List Sg) (p : Sg → Bool) (n : Nat) (hn : n = segs.length) :
    (passing (fun i => match segs[i]? with | some g => p g | none => false) n 0).map (fun i => segs[i]?) = (segs.filter p).map some := by
  subst hn
  have e1 : (List.range segs.length).map (fun i => segs[i]?) = segs.map some := by
    apply List.ext_getElem? ; intro i
    rcases Nat.lt_or_ge i segs.length with q | q
    · simp [q]
    · simp [q]
  have e2 := List.filter_map (f := fun i => segs[i]?) (p := fun o : Option Sg => match o with | some g => p g | none => false) (l := List.range segs.length)
  have e3 := List.filter_map (f := fun g : Sg => some g) (p := fun o : Option Sg => match o with | some g => p g | none => false) (l := segs)
  unfold passing
  rw [List.drop_zero]
  rw [e1] at e2
  exact e2.symm.trans e3
theorem ints_segs {segs : List Sg} {p : Sg → Bool} {f : Sg → Int} {n : Nat} {acc : Array Value} (hn : n = segs.length)
    (hi : ItemsOf (fun j y => ∃ i, (passing (fun i => match segs[i]? with | some g => p g | none => false) n 0)[j]? = some i ∧ ∃ g tt, segs[i]? = some g ∧ y = .int (f g) tt) acc (passing (fun i => match segs[i]? with | some g => p g | none => false) n 0).length) :
    IntsAre acc.toList ((segs.filter p).map f) := by
  have e := passing_segs segs p n hn
  have el := congrArg List.length e
  simp only [List.length_map] at el
  refine ints_of _ _ (by rw [Array.length_toList, List.length_map, ← el]; exact hi.1) fun j v hv => ?_
  obtain ⟨i, hi1, g, tt, hg, rfl⟩ := hi.2 j v (by rw [← Array.getElem?_toList]; exact hv)
  refine ⟨f g, tt, ?_, rfl⟩
  have e2 := congrArg (fun l => l[j]?) e
  simp only [List.getElem?_map, hi1, Option.map_some, hg] at e2
  rw [List.getElem?_map]
  cases q : (segs.filter p)[j]? with
  | none => rw [q] at e2; cases e2
  | some g' => rw [q] at e2; cases e2; rfl
/- where a rectangle wd wide may begin: the pieces' left ends, the right ends less wd -/
noncomputable def lefts (segs : List Sg) (wd r : Int) : List Int := (segs.filter fun g => decide (g.x + wd ≤ r)).map (·.x)
noncomputable def rights (segs : List Sg) (wd l : Int) : List Int := (segs.filter fun g => decide (l ≤ g.x + g.l - wd)).map (fun g => g.x + g.l - wd)
theorem Fm.butl {w : World} {Hs wr : List Addr} {B h h' : Heap} {L : Addr} {m : Str → Option Value} (X : Fm w Hs B L h m) (k : ∀ b o, b ∉ wr → h.get? b = some o → h'.get? b = some o) (hB : ∀ b ∈ wr, B.get? b = none) (hL : L ∉ wr) (hH : ∀ b ∈ Hs, b ∉ wr) : Fm w Hs B L h' m := by
  obtain ⟨o, es, ep, ho, r⟩ := X.F.ns
  exact ⟨X.W, ⟨⟨o, es, ep, k _ _ hL ho, r⟩, fun b o e => k _ _ (fun q => by rw [hB b q] at e; cases e) (X.keep b o e), X.F.hid⟩, X.hid, fun x hx => let ⟨o, e, q⟩ := X.odd x hx; ⟨o, k _ _ (hH x hx) e, q⟩⟩
section
variable {prog : Program} {w : World} {A : Around} {E : Value → Shared → Prop} {s : Shared}
theorem place_points {σh : Heap} {σg : Array GenState} {σd : Drawn} {σt : Nat} {σo : OsState} {sl : Addr} {self : Value} {items : Array Value} {segs : List Sg} {wd : Int} {tw : Tok} {R : Result → Shared → Prop} (W : Wd w σh) (hf : Free w σh 598) (T : Tab σh 602 598) (hl : σh.PlainList sl items) (hS : Segs σh items segs) (hn : segs ≠ []) (hz : items.size ≤ 10)
    (hg : AllBare σg) (Ro : Rm A 8 60)
    (h : ∀ h' tk gs a vs ns, But 598 σh h' → Tab h' 602 598 → AllBare gs → h'.IsList a vs.toArray → IntsAre vs ns → (∀ f t, segs[0]? = some f → segs.getLast? = some t → ns.Perm (lefts segs wd (t.x + t.l) ++ rights segs wd f.x)) → ns.Pairwise (· ≤ ·) → (∃ vs', h'.PlainList a vs') → σh.get? a = none → R (.ok (.ret (.ref a))) ⟨h', gs, σd, tk, σo⟩) :
    codeAny (model prog w) A (.call (.ref 603) ⟨[self, .ref sl, .int wd tw], []⟩) R ⟨σh, σg, σd, σt, σo⟩ := by
  have Ro : Rm A (7 + 1) (50 + 3) := Ro.le (by decide) (by decide)
  refine' code_fnC [("self", self), ("skyline", .ref sl), ("width", .int wd tw)] ?k0 ?kk ?k1 ?k2 ?k3 ?k4 ?k5 ?kc ?ki ?k8 ?k9 ?k10 ?k11 ?k12 ?_
  case k0 => assumption
  case kk => exact Kept.refl _
  case k1 => assumption
  case k2 => k_is
  case k3 => k_is
  case k4 => rfl
  case k5 => rfl
  case kc => rfl
  case ki =>
    intro x hx
    rcases List.mem_cons.mp hx with rfl | hx
    · exact .inl rfl
    rcases List.mem_cons.mp hx with rfl | hx
    · exact .inl rfl
    rw [List.mem_singleton.mp hx]; exact .inr ⟨rfl, rfl⟩
  case k8 => rfl
  case k9 => rfl
  case k10 => rfl
  case k11 => rfl
  case k12 => rfl
  intro A' L env h₁ tk R' V hcode F hc hpw
  try dsimp only at V F hc hpw
  replace hcode : env.code = .ref 602 := hcode.1
  obtain ⟨hcw, fw, nw⟩ := hc "width" (L + 1) rfl
  obtain ⟨hcl, fl, nl⟩ := hc "skyline_l" (L + 2) rfl
  obtain ⟨hcr, fr, nr⟩ := hc "skyline_r" (L + 3) rfl
  replace hcw : h₁.IsCell (L + 1) (some (.int wd tw)) := hcw
  replace hcl : h₁.IsCell (L + 2) none := hcl
  replace hcr : h₁.IsCell (L + 3) none := hcr
  clear hc hpw
  obtain ⟨B, WB, kB, hB, back⟩ := hf.hide
  have hT₁ := T.kept F.keep
  have n598 : (598 : Addr) ≠ L := by
    obtain ⟨o, e, -⟩ := T.has
    exact ne_of_get e F.hid
  have n602 : (602 : Addr) ≠ L := by
    obtain ⟨ps, ⟨o, _, _, _, _, _, _, _, _, _, ho, -⟩, -⟩ := T
    exact ne_of_get ho F.hid
  have fb : ∀ c, σh.get? c = none → B.get? c = none := fun c hc => by
    cases q : B.get? c with
    | none => rfl
    | some o => have := kB _ _ q; rw [hc] at this; cases this
  have X : Fm w [L + 3, L + 2, L + 1, 598] B L h₁ _ := ⟨WB, F.weaken kB, fun x hx => by
    rcases List.mem_cons.mp hx with rfl | hx
    · exact fb _ fr
    rcases List.mem_cons.mp hx with rfl | hx
    · exact fb _ fl
    rcases List.mem_cons.mp hx with rfl | hx
    · exact fb _ fw
    rw [List.mem_singleton.mp hx]; exact hB, fun x hx => by
    rcases List.mem_cons.mp hx with rfl | hx
    · exact IsCell.has hcr
    rcases List.mem_cons.mp hx with rfl | hx
    · exact IsCell.has hcl
    rcases List.mem_cons.mp hx with rfl | hx
    · exact IsCell.has hcw
    rw [List.mem_singleton.mp hx]; exact hT₁.has⟩
  have hlB : B.PlainList sl items := by
    refine hl.at fun o e => back _ _ ?_ e
    rintro rfl
    obtain ⟨ps, -, -, e'⟩ := T
    rw [e] at e'; obtain ⟨n, e2⟩ := hl; rw [e] at e2; cases e2; cases e'
  have hSB : Segs B items segs := hS.odd T.has.odd back
  clear F
  obtain ⟨t, ht⟩ : ∃ t, segs.getLast? = some t := by
    cases q : segs.getLast? with
    | some t => exact ⟨t, rfl⟩
    | none => rw [List.getLast?_eq_none_iff] at q; exact absurd q hn
  obtain ⟨ta, hta, Pt, ht0⟩ := hSB.last ht
  obtain ⟨f, hf0⟩ : ∃ f, segs[0]? = some f := ⟨_, List.getElem?_eq_getElem (List.length_pos_iff.mpr hn)⟩
  obtain ⟨fa, hfa, Pf, hf00⟩ := hSB.2 0 f hf0
  repeat (first | walk_at "sky_m0" | walk_at "sky_mget")
  refine neg_int ?_
  refine item_last (hlB.at (X.keep _)).isList hta ?_ rfl
  refine m_seg_right X Pt ht0 (R'.le (by decide) (by decide)) fun h₂ tk₂ t₂ X₂ k₂ => ?_
  try dsimp only at k₂ ⊢
  replace hcw := hcw.keeps k₂
  replace hcl := hcl.keeps k₂
  replace hcr := hcr.keeps k₂
  replace hT₁ := hT₁.kept k₂
  have bT : But 598 σh h₂ := fun b o n e => X₂.keep _ _ (back b o n e)
  clear X k₂
  (try (with_reducible first | refine Next.next (by assumption) ?_ | refine Next.ret (by assumption) ?_ | refine Next.cont (by assumption) ?_ | refine Next.brk (by assumption) ?_ | refine IfK.go (by assumption) ?_ | refine AsK.go (by assumption) ?_))
  refine m_store_cell V X₂ (.head _) rfl rfl hcr fun h₃ X₃ hcr b₃ => ?_
  try dsimp only at b₃ ⊢
  have ne3 : (598 : Addr) ≠ L + 3 := fun q => by rw [← q] at fr; obtain ⟨o, e, -⟩ := T.has; rw [e] at fr; cases fr
  have ne2 : (598 : Addr) ≠ L + 2 := fun q => by rw [← q] at fl; obtain ⟨o, e, -⟩ := T.has; rw [e] at fl; cases fl
  have nec : ∀ c, σh.get? c = none → (602 : Addr) ≠ c := fun c hc q => by
    obtain ⟨ps, ⟨o, _, _, _, _, _, _, _, _, _, ho, -⟩, -⟩ := T
    rw [q, hc] at ho; cases ho
  replace hcw := IsCell.but hcw b₃ (Nat.ne_of_lt (by (first | exact Nat.le_succ _ | lia)))
  replace hcl := IsCell.but hcl b₃ (Nat.ne_of_lt (by (first | exact Nat.lt_succ_self _ | lia)))
  replace hT₁ := hT₁.but b₃ (nec _ fr) ne3
  clear X₂
  repeat (first | walk_at "sky_m0" | walk_at "sky_mget")
  refine item_at (i := 0) (hlB.at (X₃.keep _)).isList rfl hfa (by (first | exact Nat.le_trans (by assumption) (by decide) | lia)) ?_ rfl
  refine m_seg_left X₃ Pf hf00 (R'.le (by decide) (by decide)) fun h₄ tk₄ t₄ X₄ k₄ => ?_
  try dsimp only at k₄ ⊢
  replace hcw := hcw.keeps k₄
  replace hcl := hcl.keeps k₄
  replace hcr := hcr.keeps k₄
  replace hT₁ := hT₁.kept k₄
  clear X₃ k₄
  (try (with_reducible first | refine Next.next (by assumption) ?_ | refine Next.ret (by assumption) ?_ | refine Next.cont (by assumption) ?_ | refine Next.brk (by assumption) ?_ | refine IfK.go (by assumption) ?_ | refine AsK.go (by assumption) ?_))
  refine m_store_cell V X₄ (.tail _ (.head _)) rfl rfl hcl fun h₅ X₅ hcl b₅ => ?_
  try dsimp only at b₅ ⊢
  replace hcw := IsCell.but hcw b₅ (Nat.ne_of_lt (by (first | exact Nat.lt_succ_self _ | lia)))
  replace hcr := IsCell.but hcr b₅ (Nat.ne_of_gt (by (first | exact Nat.lt_succ_self _ | lia)))
  replace hT₁ := hT₁.but b₅ (nec _ fl) ne2
  clear X₄
  -- the cells stand now: into the base with them
  obtain ⟨B', F', kB', get', hid'⟩ := X₅.F.rebase [598] (fun x hx => X₅.hid x (by rw [List.mem_singleton.mp hx]; simp))
  have cellB : ∀ c v, σh.get? c = none → c ≠ L → h₅.IsCell c v → B'.IsCell c v := fun c v hc hL x => by
    obtain ⟨o, e, q⟩ := x
    refine ⟨o, get' _ _ e hL fun hm => ?_, q⟩
    rw [List.mem_singleton.mp hm] at hc; obtain ⟨o, e, -⟩ := T.has; rw [e] at hc; cases hc
  have bcw := cellB _ _ fw nw hcw
  have bcl := cellB _ _ fl nl hcl
  have bcr := cellB _ _ fr nr hcr
  have X : Fm w [598] B' L h₅ _ := ⟨WB.keeps kB', F', hid', fun x hx => by rw [List.mem_singleton.mp hx]; exact hT₁.has⟩
  have hlB' := hlB.at (kB' _)
  have hSB' := hSB.kept kB'
  clear X₅ F' get' hid' cellB hcw hcl hcr
  repeat (first | walk_at "sky_m0" | walk_at "sky_mget")
  have hEx : ∀ b ∈ [L, 598], B'.get? b = none := fun b hb => by
    rcases List.mem_cons.mp hb with rfl | hb
    · exact X.F.hid
    · exact X.hid b hb
  refine gen_mk (cl := [(("width" : Str), L + 1), (("skyline_r" : Str), L + 3)]) (B := B') (ax := sl) (c := 602) (P := 598) (items := items) [L, 598] (fun i => match segs[i]? with | some g => decide (g.x + wd ≤ t.x + t.l) | none => false) (fun i y => ∃ g tt, segs[i]? = some g ∧ y = .int g.x tt)
    R'.2.2 (by have := R'.1; (first | lia | omega)) hcode V.g rfl ?hclos (by decide) rfl rfl rfl (by intro _; rfl) X.W X.keep hT₁ hlB'.isList hEx (fun b hb => ?_) (.tail _ (.head _)) (fun Q' q => ?_) (fun code C A'' E' i v s₂ m₂ VV hA hd' hu hv hns hm hC hk => ?_) (fun code C A'' E' i v s₂ m₂ VV hA hd' hu hv _ hns hm hC hk => ?_) ?_
  case hclos => unfold closureFor cellOf; rw [V.c]; rfl
  · rcases List.mem_cons.mp hb with rfl | hb
    · obtain ⟨o, _, _, e, -⟩ := X.F.ns; exact ⟨o, e⟩
    · obtain ⟨o, e, -⟩ := X.odd b hb; exact ⟨o, e⟩
  · repeat walk_at "sky_m0"
    exact q
  · refine one_if ?_
    obtain ⟨g, ga, hgi, rfl, Pg, hg0⟩ := hSB'.at hv
    have XX : Fm w [] B' C s₂.heap m₂ := Fm.of X.W ⟨hns, fun b o e => hk b o (fun q => by rw [hEx b q] at e; cases e) (X.keep b o e), X.fresh hC⟩
    have RR : Rm A'' 1 4 := ⟨by have := R'.1; (first | lia | omega), by have := R'.2.1; (first | lia | omega), hA⟩
    repeat walk_at "sky_m0"
    refine m_seg_left XX Pg hg0 RR fun h₆ tk₆ t₆ X₆ k₆ => ?_
    try dsimp only at k₆ ⊢
    repeat first | walk_at "sky_m0" | (((with_reducible show wpAny _ _ (eval (PySem.Expr.Name _ _) _) _ _ _); refine m_free (by assumption) (by exact rfl) (by exact rfl) (Heap.IsCell.keeps (by assumption) (Fm.keep (by assumption))) ?_))
    refine ⟨by rw [hgi], _, _, rfl, k₆⟩
  · obtain ⟨g, ga, hgi, rfl, Pg, hg0⟩ := hSB'.at hv
    have XX : Fm w [] B' C s₂.heap m₂ := Fm.of X.W ⟨hns, fun b o e => hk b o (fun q => by rw [hEx b q] at e; cases e) (X.keep b o e), X.fresh hC⟩
    have RR : Rm A'' 1 4 := ⟨by have := R'.1; (first | lia | omega), by have := R'.2.1; (first | lia | omega), hA⟩
    repeat walk_at "sky_m0"
    refine m_seg_left XX Pg hg0 RR fun h₆ tk₆ t₆ X₆ k₆ => ?_
    exact ⟨⟨g, _, hgi, rfl⟩, _, _, rfl, k₆⟩
  intro a₁ wr₁ h₆ tk₆ gs₁ hgs₁ b₆ hT₆ na₁ hw₁ G₁
  try dsimp only at b₆ na₁ G₁ ⊢
  have X₆ := X.buto (.head _) b₆ hT₆.has
  (((try (with_reducible first | refine Next.next (by assumption) ?_ | refine Next.ret (by assumption) ?_ | refine Next.cont (by assumption) ?_ | refine Next.brk (by assumption) ?_ | refine IfK.go (by assumption) ?_ | refine AsK.go (by assumption) ?_)); (with_reducible show wpAny _ _ (storeName _ _ _) _ _ _); refine m_store (by assumption) (by assumption) (by exact rfl) ?_))
  intro h₇ tkσ X₇ l₇ b₇
  try dsimp only at l₇ b₇ ⊢
  have G₁ := G₁.next (h' := h₇) (tk := tkσ) (gs := σg.push gs₁) (dr := σd) (os := σo) (fun b o hb e => b₇ b o (fun q => hb (q ▸ .head _)) e) hw₁ rfl
  have hT₇ := hT₆.but b₇ n602 n598
  repeat walk_at "sky_m0"
  have fw1 : ∀ b ∈ wr₁, B'.get? b = none := fun b hb => X.fresh (G₁.fresh b hb)
  have hEx2 : ∀ b ∈ L :: 598 :: wr₁, B'.get? b = none := fun b hb => by
    rcases List.mem_cons.mp hb with rfl | hb
    · exact X.F.hid
    rcases List.mem_cons.mp hb with rfl | hb
    · exact X.hid _ (.head _)
    · exact fw1 b hb
  refine gen_mk (cl := [(("width" : Str), L + 1), (("skyline_l" : Str), L + 2)]) (B := B') (ax := sl) (c := 602) (P := 598) (items := items) (L :: 598 :: wr₁) (fun i => match segs[i]? with | some g => decide (f.x ≤ g.x + g.l - wd) | none => false) (fun i y => ∃ g tt, segs[i]? = some g ∧ y = .int (g.x + g.l - wd) tt)
    R'.2.2 (by have := R'.1; (first | lia | omega)) hcode V.g rfl ?hclos (by decide) rfl rfl rfl (by intro _; rfl) X₇.W X₇.keep hT₇ hlB'.isList hEx2 (fun b hb => ?_) (.tail _ (.head _)) (fun Q' q => ?_) (fun code C A'' E' i v s₂ m₂ VV hA hd' hu hv hns hm hC hk => ?_) (fun code C A'' E' i v s₂ m₂ VV hA hd' hu hv _ hns hm hC hk => ?_) ?_
  case hclos => unfold closureFor cellOf; rw [V.c]; rfl
  · rcases List.mem_cons.mp hb with rfl | hb
    · obtain ⟨o, _, _, e, -⟩ := X₇.F.ns; exact ⟨o, e⟩
    rcases List.mem_cons.mp hb with rfl | hb
    · obtain ⟨o, e, -⟩ := X₇.odd _ (.head _); exact ⟨o, e⟩
    · exact G₁.here b hb
  · repeat walk_at "sky_m0"
    exact q
  · refine one_if ?_
    obtain ⟨g, ga, hgi, rfl, Pg, hg0⟩ := hSB'.at hv
    have XX : Fm w [] B' C s₂.heap m₂ := Fm.of X₇.W ⟨hns, fun b o e => hk b o (fun q => by rw [hEx2 b q] at e; cases e) (X₇.keep b o e), X₇.fresh hC⟩
    have RR : Rm A'' 1 4 := ⟨by have := R'.1; (first | lia | omega), by have := R'.2.1; (first | lia | omega), hA⟩
    repeat walk_at "sky_m0"
    refine m_seg_right XX Pg hg0 RR fun h₆ tk₆ t₆ X₆ k₆ => ?_
    try dsimp only at k₆ ⊢
    repeat first | walk_at "sky_m0" | (((with_reducible show wpAny _ _ (eval (PySem.Expr.Name _ _) _) _ _ _); refine m_free (by assumption) (by exact rfl) (by exact rfl) (Heap.IsCell.keeps (by assumption) (Fm.keep (by assumption))) ?_))
    refine ⟨by rw [hgi], _, _, rfl, k₆⟩
  · obtain ⟨g, ga, hgi, rfl, Pg, hg0⟩ := hSB'.at hv
    have XX : Fm w [] B' C s₂.heap m₂ := Fm.of X₇.W ⟨hns, fun b o e => hk b o (fun q => by rw [hEx2 b q] at e; cases e) (X₇.keep b o e), X₇.fresh hC⟩
    have RR : Rm A'' 1 4 := ⟨by have := R'.1; (first | lia | omega), by have := R'.2.1; (first | lia | omega), hA⟩
    repeat walk_at "sky_m0"
    refine m_seg_right XX Pg hg0 RR fun h₆ tk₆ t₆ X₆ k₆ => ?_
    try dsimp only at k₆ ⊢
    repeat first | walk_at "sky_m0" | (((with_reducible show wpAny _ _ (eval (PySem.Expr.Name _ _) _) _ _ _); refine m_free (by assumption) (by exact rfl) (by exact rfl) (Heap.IsCell.keeps (by assumption) (Fm.keep (by assumption))) ?_))
    exact ⟨⟨g, _, hgi, rfl⟩, _, _, rfl, k₆⟩
  intro a₂ wr₂ h₈ tk₈ gs₂ hgs₂ b₈ hT₈ na₂ hw₂ G₂
  try dsimp only at b₈ na₂ G₂ ⊢
  have X₈ := X₇.buto (.head _) b₈ hT₈.has
  (((try (with_reducible first | refine Next.next (by assumption) ?_ | refine Next.ret (by assumption) ?_ | refine Next.cont (by assumption) ?_ | refine Next.brk (by assumption) ?_ | refine IfK.go (by assumption) ?_ | refine AsK.go (by assumption) ?_)); (with_reducible show wpAny _ _ (storeName _ _ _) _ _ _); refine m_store (by assumption) (by assumption) (by exact rfl) ?_))
  intro h₉ tkσ X₉ l₉ b₉
  try dsimp only at l₉ b₉ ⊢
  have k79 : ∀ b o, b ∉ [L, 598] → h₇.get? b = some o → h₉.get? b = some o := fun b o hb e => b₉ b o (fun q => hb (q ▸ .head _)) (b₈ b o (fun q => hb (q ▸ .tail _ (.head _))) e)
  have gsz : σg.size < (σg.push gs₁).size := by rw [Array.size_push]; exact Nat.lt_succ_self _
  have G₁ := G₁.next (h' := h₉) (tk := tkσ) (gs := (σg.push gs₁).push gs₂) (dr := σd) (os := σo) k79 hw₁ (by dsimp only; rw [Array.getElem?_push, if_neg (Nat.ne_of_lt gsz)])
  have G₂ := G₂.next (h' := h₉) (tk := tkσ) (gs := (σg.push gs₁).push gs₂) (dr := σd) (os := σo) (fun b o hb e => b₉ b o (fun q => hb (q ▸ .head _)) e) hw₂ rfl
  have hT₉ := hT₈.but b₉ n602 n598
  have bare₉ : AllBare ((σg.push gs₁).push gs₂) := by
    intro y hy
    rcases Array.mem_push.mp hy with hy | rfl
    · rcases Array.mem_push.mp hy with hy | rfl
      · exact hg y hy
      · exact hgs₁
    · exact hgs₂
  have fw2 : ∀ b ∈ wr₂, B'.get? b = none := fun b hb => X₇.fresh (G₂.fresh b hb)
  clear X₇ X₈ l₉
  repeat walk_at "sky_m0"
  have plen : ∀ pz : Nat → Bool, (passing pz items.size 0).length ≤ 10 := fun pz => by
    unfold passing
    rw [List.drop_zero]
    exact Nat.le_trans (List.length_filter_le _ _) (by rw [List.length_range]; exact hz)
  have B602 : ∃ o, B'.get? 602 = some o := by
    obtain ⟨ps, ⟨o, _, _, _, _, _, _, _, _, _, ho, -⟩, -⟩ := T
    exact ⟨o, kB' _ _ (back _ _ (by decide) ho)⟩
  refine list_gen G₁ (Nat.le_trans (plen _) (by decide)) bare₉ fun l₁ h₁₀ tk₁₀ gs₃ acc₁ k₁₀ bare₁₀ gk₁₀ nl₁ pl₁ io₁ => ?_
  try dsimp only at k₁₀ gk₁₀ nl₁ ⊢
  have X₁₀ := X₉.butl k₁₀ fw1 (fun q => hw₁ _ q (.head _)) (fun b hb q => hw₁ _ q (.tail _ hb))
  have hT₁₀ : Tab h₁₀ 602 598 := hT₉.at (fun o e => k₁₀ _ _ (fun q => by obtain ⟨o, e⟩ := B602; rw [fw1 _ q] at e; cases e) e) (fun o e => k₁₀ _ _ (fun q => hw₁ _ q (.tail _ (.head _))) e)
  have G₃ := G₂.next (h' := h₁₀) (tk := tk₁₀) (gs := gs₃) (dr := σd) (os := σo) (fun b o hb e => k₁₀ b o (fun q => hb (.tail _ (.tail _ q))) e) hw₂ (gk₁₀ _ (Nat.ne_of_gt gsz))
  have nw2 : l₁ ∉ wr₂ := fun q => by obtain ⟨o, e⟩ := G₂.here _ q; (try dsimp only at e); rw [nl₁] at e; cases e
  clear X₉ hT₉ G₁ G₂
  repeat walk_at "sky_m0"
  refine list_gen G₃ (Nat.le_trans (plen _) (by decide)) bare₁₀ fun l₂ h₁₁ tk₁₁ gs₄ acc₂ k₁₁ bare₁₁ gk₁₁ nl₂ pl₂ io₂ => ?_
  try dsimp only at k₁₁ gk₁₁ nl₂ ⊢
  have X₁₁ := X₁₀.butl k₁₁ fw2 (fun q => hw₂ _ q (.head _)) (fun b hb q => by rw [List.mem_singleton.mp hb] at q; exact hw₂ _ q (.tail _ (.head _)))
  have hT₁₁ : Tab h₁₁ 602 598 := hT₁₀.at (fun o e => k₁₁ _ _ (fun q => by obtain ⟨o, e⟩ := B602; rw [fw2 _ q] at e; cases e) e) (fun o e => k₁₁ _ _ (fun q => hw₂ _ q (.tail _ (.head _))) e)
  have pl₁ := pl₁.at (fun o e => k₁₁ _ _ nw2 e)
  clear X₁₀ hT₁₀
  obtain ⟨n1, e1⟩ := pl₁
  obtain ⟨n2, e2⟩ := pl₂
  have z1 : acc₁.size ≤ 10 := by rw [io₁.1]; exact plen _
  have z2 : acc₂.size ≤ 10 := by rw [io₂.1]; exact plen _
  refine P.add_list e1 e2 ?_ (by rw [sizeLine_eq]; (first | lia | omega))
  try dsimp only
  repeat walk_at "sky_m0"
  have ia : IntsAre (acc₁ ++ acc₂).toList (lefts segs wd (t.x + t.l) ++ rights segs wd f.x) := by
    rw [Array.toList_append]
    exact (ints_segs hS.1 io₁).append (ints_segs (p := fun g => decide (f.x ≤ g.x + g.l - wd)) (f := fun g => g.x + g.l - wd) hS.1 io₂)
  refine sorted_ints (vs := (acc₁ ++ acc₂).toList) ⟨_, Heap.get?_push_size _ rfl, rfl, _, rfl⟩ ia (by rw [Array.length_toList, Array.size_append]; (first | lia | omega)) fun out ns' i1 i2 i3 => ?_
  have kk : Kept h₁₁ (sortedAll (h₁₁.push { cls := .type "list", data := .seq (acc₁ ++ acc₂) }) (acc₁ ++ acc₂).toList out) := fun b o e => sortedAll_old (Heap.get?_push_of_some _ e)
  repeat (with_reducible first | refine Next.next (by assumption) ?_ | refine Next.ret (by assumption) ?_ | refine Next.cont (by assumption) ?_ | refine Next.brk (by assumption) ?_ | refine IfK.go (by assumption) ?_ | refine AsK.go (by assumption) ?_)
  obtain ⟨e, he⟩ := sortedAll_at (h₁₁.push { cls := .type "list", data := .seq (acc₁ ++ acc₂) }) (acc₁ ++ acc₂).toList out
  refine h _ _ gs₄ _ out.toList ns' (fun b o n e => kk _ _ (X₁₁.keep _ _ (kB' _ _ (back b o n e)))) (hT₁₁.kept kk) bare₁₁ ⟨_, he, rfl, e, rfl⟩ i1 (fun f' t' hf' ht' => ?_) i3 ⟨_, e, he⟩ ?_
  · rw [hf0] at hf'; cases hf'
    rw [ht] at ht'; cases ht'
    exact i2
  · cases q : σh.get? ((h₁₁.push { cls := .type "list", data := .seq (acc₁ ++ acc₂) }).objs.size + 1) with
    | none => rfl
    | some o =>
      exfalso
      by_cases c : (h₁₁.push { cls := .type "list", data := .seq (acc₁ ++ acc₂) }).objs.size + 1 = 598
      · obtain ⟨o', e', -⟩ := hT₁₁.has
        have := Heap.lt_size e'
        rw [Heap.size_push] at c
        have := Nat.lt_of_lt_of_eq this (show h₁₁.objs.size = 596 by (first | lia | omega))
        exact absurd this (by decide)
      · have := Heap.lt_size (X₁₁.keep _ _ (kB' _ _ (back _ o c q)))
        rw [Heap.size_push] at this
        exact absurd this (Nat.not_lt.mpr (by (first | lia | omega)))
end
section
variable {prog : Program} {w : World} {A : Around} {E : Value → Shared → Prop} {s : Shared} {B : Heap} {L : Addr} {m : Str → Option Value} {env : Env} {names : List (Str × NameKind)} {cells : List (Str × Addr)}
theorem for_range {σh : Heap} {σg : Array GenState} {σd : Drawn} {σt : Nat} {σo : OsState} {Q : Flow → Shared → Prop} {x : Str} {px : Pos} {body : List Stmt} {r : Addr} {a b c : Int} {t u v : Tok} {n : Nat}
    (V : Ev env L names cells) (hA : A.handled = none) (hx : names.lookup x = some .local) (Hs : List Addr) (F : Fz B L σh m) (hh : ∀ x ∈ Hs, B.get? x = none) (hHs : ∀ x ∈ Hs, ∃ o, σh.get? x = some o)
    (hr : IsRange σh r a b c t u v) (hsmall : Builtin.Range.small a b c = true) (hn : Builtin.Range.rangeSize a b c = n)
    (J : Nat → Heap → Heap → (Str → Option Value) → Prop) (h0 : J 0 B σh m)
    (frame : ∀ I, σh.get? I = none → ∀ i B B' h h' m, J i B h m → Odd B I → But I B B' → (∀ b o, b ≠ I → b ≠ L → h.get? b = some o → h'.get? b = some o) → J i B' h' m)
    (step : ∀ i v B₁ h m₁ tk, i < n → (∃ t, v = .int (a + i * c) t) → J i B₁ h m₁ → Kept B B₁ → Fz B₁ L h (upd x v m₁) → (∀ x ∈ Hs, B₁.get? x = none) →
      LoopBody prog w A E σg σd σo env L Hs (J (i + 1)) body Q B₁ h tk)
    (done : ∀ B₁ h m₁ tk, J n B₁ h m₁ → Kept B B₁ → Fz B₁ L h m₁ → (∀ x ∈ Hs, B₁.get? x = none) → Q .next ⟨h, σg, σd, tk, σo⟩)
    (hE : PassesOwn (model prog w) A env E) :
    wpAny (model prog w) A (pyIter (.ref r)) (fun it s₂ => codeAny (model prog w) A (.forLoop (.Name x px) it body [] env) (fun r s' => match r with | .ok f => Q f s' | .error e => cameBackBy (model prog w) A env E e s') s₂) E ⟨σh, σg, σd, σt, σo⟩ := by
  obtain ⟨oL, es, ep, hoL, -⟩ := F.ns
  have hne : ∀ b o, σh.get? b = some o → b ≠ σh.objs.size := fun b o e => Nat.ne_of_lt (Heap.lt_size e)
  refine wpAny_pyIter_range hr hsmall ?_
  have kp : Kept σh (σh.push { cls := .type "range_iterator", data := .fields #[rawInt a, rawInt (Builtin.Range.rangeSize a b c), rawInt c] }) := fun b o e => Heap.get?_push_of_some _ e
  have hJ := frame σh.objs.size (get?_size _) 0 B B σh _ m h0 (Odd.none (by
    cases q : B.get? σh.objs.size with
    | none => rfl
    | some o => exact absurd (F.keep _ _ q) (by rw [get?_size]; simp))) (fun b o _ e => e) (fun b o _ _ e => kp b o e)
  refine loop_w (s₀ := σh) (Walks.range hA σh.objs.size a c n) V hx (get?_size _) (fun q => ?_) Hs (fun x hx q => ?_) (F.step kp) F.keep hh ?_ (fun i h st => ?_) J hJ (frame _ (get?_size _)) step done hE
  · exact hne _ _ hoL (List.mem_singleton.mp q)
  · obtain ⟨ox, hox⟩ := hHs x hx; exact hne _ _ hox (List.mem_singleton.mp q)
  · show IsRangeIter _ _ _ _ _
    have : IsRangeIter (σh.push { cls := .type "range_iterator", data := .fields #[rawInt a, rawInt (Builtin.Range.rangeSize a b c), rawInt c] }) σh.objs.size a (Builtin.Range.rangeSize a b c) c := Heap.get?_push_size _ rfl
    simpa [hn] using this
  · intro o e
    have st : IsRangeIter h σh.objs.size _ _ _ := st
    rw [st] at e; cases e
    exact ⟨(fun C dx q => by cases q), (fun es ep q => by cases q), fun xs n q => by have c : Data.fields _ = Data.seq _ _ := congrArg Obj.data q; cases c⟩
end
structure Sc where
  li : Nat
  ri : Nat
  si : Nat
  sh : Int
structure Pt where
  x : Int
  y : Int
  w : Int
  l : Int
  li : Nat
  ri : Nat
noncomputable def sg (segs : List Sg) (j : Nat) : Sg := segs.getD j ⟨0, 0, 0⟩
noncomputable def look (segs : List Sg) (j : Nat) (s : Sc) : Sc := if s.sh ≤ (sg segs j).y then { s with si := j, sh := (sg segs j).y } else s
/- the right edge goes on until the piece reaches e -/
noncomputable def rl (segs : List Sg) (e : Int) : List Nat → Sc → Sc
  | [], s => s
  | j :: js, s => if e ≤ (sg segs j).x + (sg segs j).l then look segs j { s with ri := j } else rl segs e js (look segs j { s with ri := j })
theorem rl_cons (segs : List Sg) (e : Int) (j : Nat) (js : List Nat) (s : Sc) : rl segs e (j :: js) s = if e ≤ (sg segs j).x + (sg segs j).l then look segs j { s with ri := j } else rl segs e js (look segs j { s with ri := j }) := rfl
noncomputable def step1 (segs : List Sg) (e : Int) (s : Sc) : Sc := if (sg segs s.ri).x + (sg segs s.ri).l < e then rl segs e (List.range' (s.ri + 1) (segs.length - (s.ri + 1))) s else s
noncomputable def step2 (segs : List Sg) (p : Int) (s : Sc) : Sc := if (sg segs s.li).x + (sg segs s.li).l ≤ p then { s with li := s.li + 1 } else s
noncomputable def step3 (segs : List Sg) (s : Sc) : Sc := if s.si < s.li then (List.range' s.li (s.ri + 1 - s.li)).foldl (fun s j => look segs j s) { s with si := s.li, sh := (sg segs s.li).y } else s
noncomputable def gstep (segs : List Sg) (wd p : Int) (s : Sc) : Sc := step3 segs (step2 segs p (step1 segs (p + wd) s))
noncomputable def genPts (segs : List Sg) (wd ht Hi : Int) : List Int → Sc → List Pt
  | [], _ => []
  | p :: ps, s => if (gstep segs wd p s).sh + ht ≤ Hi then ⟨p, (gstep segs wd p s).sh, wd, ht, (gstep segs wd p s).li, (gstep segs wd p s).ri⟩ :: genPts segs wd ht Hi ps (gstep segs wd p s) else genPts segs wd ht Hi ps (gstep segs wd p s)
theorem genPts_cons (segs : List Sg) (wd ht Hi : Int) (p : Int) (ps : List Int) (s : Sc) : genPts segs wd ht Hi (p :: ps) s = if (gstep segs wd p s).sh + ht ≤ Hi then ⟨p, (gstep segs wd p s).sh, wd, ht, (gstep segs wd p s).li, (gstep segs wd p s).ri⟩ :: genPts segs wd ht Hi ps (gstep segs wd p s) else genPts segs wd ht Hi ps (gstep segs wd p s) := rfl
theorem look_li (segs : List Sg) (j : Nat) (s : Sc) : (look segs j s).li = s.li := by unfold look; split <;> rfl
theorem look_ri (segs : List Sg) (j : Nat) (s : Sc) : (look segs j s).ri = s.ri := by unfold look; split <;> rfl
theorem rl_li (segs : List Sg) (e : Int) : ∀ (js : List Nat) (s : Sc), (rl segs e js s).li = s.li
  | [], _ => rfl
  | j :: js, s => by
    rw [rl_cons]; split
    · rw [look_li]
    · rw [rl_li segs e js, look_li]
theorem rl_ri (segs : List Sg) (e : Int) (n : Nat) : ∀ (js : List Nat) (s : Sc), (∀ j ∈ js, j < n) → s.ri < n → (rl segs e js s).ri < n
  | [], _, _, h => h
  | j :: js, s, hj, _ => by
    rw [rl_cons]
    split
    · rw [look_ri]; exact hj j (.head _)
    · exact rl_ri segs e n js _ (fun k hk => hj k (.tail _ hk)) (by rw [look_ri]; exact hj j (.head _))
theorem step1_li (segs : List Sg) (e : Int) (s : Sc) : (step1 segs e s).li = s.li := by
  unfold step1; split
  · exact rl_li ..
  · rfl
theorem step1_ri (segs : List Sg) (e : Int) (s : Sc) (h : s.ri < segs.length) : (step1 segs e s).ri < segs.length := by
  unfold step1; split
  · exact rl_ri segs e _ _ _ (fun j hj => by rw [List.mem_range'] at hj; obtain ⟨i, h1, rfl⟩ := hj; (first | lia | omega)) h
  · exact h
theorem step2_ri (segs : List Sg) (p : Int) (s : Sc) : (step2 segs p s).ri = s.ri := by unfold step2; split <;> rfl
theorem sg_last {segs : List Sg} {t : Sg} (ht : segs.getLast? = some t) : sg segs (segs.length - 1) = t := by
  rw [List.getLast?_eq_getElem?] at ht
  unfold sg; rw [List.getD_eq_getElem?_getD, ht]; rfl
theorem step2_li (segs : List Sg) (p wd : Int) (s : Sc) (t : Sg) (ht : segs.getLast? = some t) (hp : p + wd ≤ t.x + t.l) (hw : 0 < wd) (h : s.li < segs.length) : (step2 segs p s).li < segs.length := by
  unfold step2
  split
  · rename_i c
    show s.li + 1 < _
    rcases Nat.lt_or_ge (s.li + 1) segs.length with q | q
    · exact q
    · exfalso
      have : s.li = segs.length - 1 := by (first | lia | omega)
      rw [this, sg_last ht] at c
      (first | lia | omega)
  · exact h
theorem fold_ri (segs : List Sg) : ∀ (js : List Nat) (s : Sc), (js.foldl (fun s j => look segs j s) s).ri = s.ri ∧ (js.foldl (fun s j => look segs j s) s).li = s.li
  | [], _ => ⟨rfl, rfl⟩
  | j :: js, s => by
    obtain ⟨a, b⟩ := fold_ri segs js (look segs j s)
    exact ⟨a.trans (look_ri ..), b.trans (look_li ..)⟩
theorem step3_ri (segs : List Sg) (s : Sc) : (step3 segs s).ri = s.ri := by
  unfold step3; split
  · exact (fold_ri ..).1
  · rfl
theorem step3_li (segs : List Sg) (s : Sc) : (step3 segs s).li = s.li := by
  unfold step3; split
  · exact (fold_ri ..).2
  · rfl
noncomputable def TupAt (h : Heap) (q : Addr) (items : Array Value) : Prop := ∃ n, h.get? q = some { cls := .type "tuple", data := .seq items n }
theorem TupAt.kept {h h' : Heap} {q : Addr} {items : Array Value} (T : TupAt h q items) (k : Kept h h') : TupAt h' q items := let ⟨n, e⟩ := T; ⟨n, k _ _ e⟩
theorem TupAt.odd {h h' : Heap} {q l : Addr} {items : Array Value} (T : TupAt h q items) (n : q ≠ l) (k : But l h h') : TupAt h' q items := let ⟨c, e⟩ := T; ⟨c, k _ _ n e⟩
noncomputable def PtsAt (h₀ h : Heap) (vals : Array Value) (pts : List Pt) : Prop :=
  vals.size = pts.length ∧ ∀ (i : Nat) (pt : Pt), pts[i]? = some pt → ∃ q r dx t1 t2, vals[i]? = some (Value.ref q) ∧ TupAt h q #[.ref r, .int pt.li t1, .int pt.ri t2] ∧ RectAt h r dx pt.x pt.y pt.w pt.l .none ∧ h₀.get? r = none ∧ h₀.get? dx = none
theorem PtsAt.kept {h₀ h h' : Heap} {vals : Array Value} {pts : List Pt} (P : PtsAt h₀ h vals pts) (k : Kept h h') : PtsAt h₀ h' vals pts :=
  ⟨P.1, fun i pt e => let ⟨q, r, dx, t1, t2, a, b, c, d⟩ := P.2 i pt e; ⟨q, r, dx, t1, t2, a, b.kept k, c.kept k, d⟩⟩
theorem PtsAt.odd {h₀ h h' : Heap} {l : Addr} {vals : Array Value} {pts : List Pt} (P : PtsAt h₀ h vals pts) (hl : Odd h l) (k : But l h h') : PtsAt h₀ h' vals pts :=
  ⟨P.1, fun i pt e => let ⟨q, r, dx, t1, t2, a, b, c, d⟩ := P.2 i pt e; ⟨q, r, dx, t1, t2, a, b.odd (by rintro rfl; obtain ⟨n, e⟩ := b; exact (hl _ e).2.2 _ _ rfl) k, c.odd hl k, d⟩⟩
theorem Hides.tup {h B : Heap} {L q : Addr} {Hs : List Addr} {mm : Str → Option Value} {items : Array Value} (X : Hides h B L Hs mm) (T : TupAt h q items) (hl : q ∉ Hs) : TupAt B q items := by
  obtain ⟨n, e⟩ := T
  refine ⟨n, X.get _ _ e ?_ hl⟩
  rintro rfl; obtain ⟨o', es', ep', ho', s1, -⟩ := X.ns; rw [e] at ho'; cases ho'; cases s1
theorem Hides.pts {h₀ h B : Heap} {L : Addr} {Hs : List Addr} {mm : Str → Option Value} {vals : Array Value} {pts : List Pt} (X : Hides h B L Hs mm) (P : PtsAt h₀ h vals pts) (hs : mm "rid" = none) : PtsAt h₀ B vals pts :=
  ⟨P.1, fun i pt e => let ⟨q, r, dx, t1, t2, a, b, c, d⟩ := P.2 i pt e; ⟨q, r, dx, t1, t2, a, X.tup b (fun hm => let ⟨_, e⟩ := b; (X.odd _ hm _ e).2.2 _ _ rfl), X.rect c hs, d⟩⟩
theorem PtsAt.push {h₀ h : Heap} {vals : Array Value} {pts : List Pt} {pt : Pt} {q r dx : Addr} {t1 t2 : Tok} (P : PtsAt h₀ h vals pts) (b : TupAt h q #[.ref r, .int pt.li t1, .int pt.ri t2]) (c : RectAt h r dx pt.x pt.y pt.w pt.l .none) (d1 : h₀.get? r = none) (d2 : h₀.get? dx = none) :
    PtsAt h₀ h (vals.push (.ref q)) (pts ++ [pt]) := by
  refine ⟨by rw [Array.size_push, List.length_append, P.1]; rfl, fun i s' e => ?_⟩
  rcases Nat.lt_or_ge i pts.length with q' | q'
  · rw [List.getElem?_append_left q'] at e
    obtain ⟨q, r, dx, t1, t2, a, b⟩ := P.2 i s' e
    exact ⟨q, r, dx, t1, t2, by rw [Array.getElem?_push, if_neg (by have := P.1; (first | lia | omega))]; exact a, b⟩
  · rw [List.getElem?_append_right q'] at e
    have : i - pts.length = 0 := by
      rcases Nat.eq_zero_or_pos (i - pts.length) with r | r
      · exact r
      · rw [List.getElem?_eq_none (by simp; (first | assumption | lia))] at e; cases e
    rw [this] at e
    cases e
    exact ⟨q, r, dx, t1, t2, by rw [Array.getElem?_push, if_pos (by have := P.1; (first | grind | lia))], b, c, d1, d2⟩
theorem Segs.sg {h : Heap} {items : Array Value} {segs : List Sg} (S : Segs h items segs) {i : Nat} (hi : i < segs.length) : ∃ a, items[i]? = some (Value.ref a) ∧ SegAt h a (Sky.sg segs i).x (Sky.sg segs i).y (Sky.sg segs i).l ∧ 0 ≤ (Sky.sg segs i).l := by
  have e : segs[i]? = some (Sky.sg segs i) := by unfold Sky.sg; rw [List.getD_eq_getElem?_getD, List.getElem?_eq_getElem hi]; rfl
  exact S.2 i _ e
/- the locals of _generate_placements -/
structure GN (m : Str → Option Value) (p sl a : Addr) (wd ht : Int) (st : Sc) : Prop where
  self : m "self" = some (.ref p)
  sky : m "skyline" = some (.ref sl)
  pts : m "points" = some (.ref a)
  rid : m "rid" = none
  width : ∃ t, m "width" = some (.int wd t)
  height : ∃ t, m "height" = some (.int ht t)
  li : ∃ t, m "left_index" = some (.int st.li t)
  ri : ∃ t, m "right_index" = some (.int st.ri t)
  si : ∃ t, m "support_index" = some (.int st.si t)
  sh : ∃ t, m "support_height" = some (.int st.sh t)
theorem GN.set {m : Str → Option Value} {p sl a : Addr} {wd ht : Int} {st : Sc} {y : Str} {v : Value} (G : GN m p sl a wd ht st) (hy : y = "p" ∨ y = "i" ∨ y = "placements") : GN (upd y v m) p sl a wd ht st := by
  obtain ⟨a1, a2, a3, a4, a5, a6, a7, a8, a9, a10⟩ := G
  rcases hy with rfl | rfl | rfl <;>
  exact ⟨(if_neg (by decide)).trans a1, (if_neg (by decide)).trans a2, (if_neg (by decide)).trans a3, (if_neg (by decide)).trans a4, let ⟨t, e⟩ := a5; ⟨t, (if_neg (by decide)).trans e⟩, let ⟨t, e⟩ := a6; ⟨t, (if_neg (by decide)).trans e⟩,
    let ⟨t, e⟩ := a7; ⟨t, (if_neg (by decide)).trans e⟩, let ⟨t, e⟩ := a8; ⟨t, (if_neg (by decide)).trans e⟩, let ⟨t, e⟩ := a9; ⟨t, (if_neg (by decide)).trans e⟩, let ⟨t, e⟩ := a10; ⟨t, (if_neg (by decide)).trans e⟩⟩
inductive GNS (m : Str → Option Value) (p sl a : Addr) (wd ht : Int) (st : Sc) : Prop
  | mk (g1 : m "self" = some (.ref p)) (g2 : m "skyline" = some (.ref sl)) (g3 : m "points" = some (.ref a)) (g4 : m "rid" = none) (u5 : Tok) (g5 : m "width" = some (.int wd u5)) (u6 : Tok) (g6 : m "height" = some (.int ht u6))
    (u7 : Tok) (g7 : m "left_index" = some (.int st.li u7)) (u8 : Tok) (g8 : m "right_index" = some (.int st.ri u8)) (u9 : Tok) (g9 : m "support_index" = some (.int st.si u9)) (u10 : Tok) (g10 : m "support_height" = some (.int st.sh u10)) : GNS m p sl a wd ht st
theorem GN.split {m : Str → Option Value} {p sl a : Addr} {wd ht : Int} {st : Sc} (G : GN m p sl a wd ht st) : GNS m p sl a wd ht st :=
  let ⟨g1, g2, g3, g4, ⟨u5, g5⟩, ⟨u6, g6⟩, ⟨u7, g7⟩, ⟨u8, g8⟩, ⟨u9, g9⟩, ⟨u10, g10⟩⟩ := G; ⟨g1, g2, g3, g4, u5, g5, u6, g6, u7, g7, u8, g8, u9, g9, u10, g10⟩
theorem GN.setRi {m : Str → Option Value} {p sl a : Addr} {wd ht : Int} {st : Sc} {j : Nat} {t : Tok} (G : GN m p sl a wd ht st) : GN (upd "right_index" (.int j t) m) p sl a wd ht { st with ri := j } := by
  obtain ⟨a1, a2, a3, a4, ⟨t5, a5⟩, ⟨t6, a6⟩, ⟨t7, a7⟩, ⟨t8, a8⟩, ⟨t9, a9⟩, ⟨t10, a10⟩⟩ := G
  exact ⟨by (first | assumption | rfl | exact (if_neg (by decide)).trans (by assumption) | exact if_pos rfl), by (first | assumption | rfl | exact (if_neg (by decide)).trans (by assumption) | exact if_pos rfl), by (first | assumption | rfl | exact (if_neg (by decide)).trans (by assumption) | exact if_pos rfl), by (first | assumption | rfl | exact (if_neg (by decide)).trans (by assumption) | exact if_pos rfl), ⟨t5, by (first | assumption | rfl | exact (if_neg (by decide)).trans (by assumption) | exact if_pos rfl)⟩, ⟨t6, by (first | assumption | rfl | exact (if_neg (by decide)).trans (by assumption) | exact if_pos rfl)⟩, ⟨t7, by (first | assumption | rfl | exact (if_neg (by decide)).trans (by assumption) | exact if_pos rfl)⟩, ⟨t, by (first | assumption | rfl | exact (if_neg (by decide)).trans (by assumption) | exact if_pos rfl)⟩, ⟨t9, by (first | assumption | rfl | exact (if_neg (by decide)).trans (by assumption) | exact if_pos rfl)⟩, ⟨t10, by (first | assumption | rfl | exact (if_neg (by decide)).trans (by assumption) | exact if_pos rfl)⟩⟩
theorem GN.setLi {m : Str → Option Value} {p sl a : Addr} {wd ht : Int} {st : Sc} {j : Nat} {t : Tok} (G : GN m p sl a wd ht st) : GN (upd "left_index" (.int j t) m) p sl a wd ht { st with li := j } := by
  obtain ⟨a1, a2, a3, a4, ⟨t5, a5⟩, ⟨t6, a6⟩, ⟨t7, a7⟩, ⟨t8, a8⟩, ⟨t9, a9⟩, ⟨t10, a10⟩⟩ := G
  exact ⟨by (first | assumption | rfl | exact (if_neg (by decide)).trans (by assumption) | exact if_pos rfl), by (first | assumption | rfl | exact (if_neg (by decide)).trans (by assumption) | exact if_pos rfl), by (first | assumption | rfl | exact (if_neg (by decide)).trans (by assumption) | exact if_pos rfl), by (first | assumption | rfl | exact (if_neg (by decide)).trans (by assumption) | exact if_pos rfl), ⟨t5, by (first | assumption | rfl | exact (if_neg (by decide)).trans (by assumption) | exact if_pos rfl)⟩, ⟨t6, by (first | assumption | rfl | exact (if_neg (by decide)).trans (by assumption) | exact if_pos rfl)⟩, ⟨t, by (first | assumption | rfl | exact (if_neg (by decide)).trans (by assumption) | exact if_pos rfl)⟩, ⟨t8, by (first | assumption | rfl | exact (if_neg (by decide)).trans (by assumption) | exact if_pos rfl)⟩, ⟨t9, by (first | assumption | rfl | exact (if_neg (by decide)).trans (by assumption) | exact if_pos rfl)⟩, ⟨t10, by (first | assumption | rfl | exact (if_neg (by decide)).trans (by assumption) | exact if_pos rfl)⟩⟩
theorem GN.setSi {m : Str → Option Value} {p sl a : Addr} {wd ht : Int} {st : Sc} {j : Nat} {t : Tok} (G : GN m p sl a wd ht st) : GN (upd "support_index" (.int j t) m) p sl a wd ht { st with si := j } := by
  obtain ⟨a1, a2, a3, a4, ⟨t5, a5⟩, ⟨t6, a6⟩, ⟨t7, a7⟩, ⟨t8, a8⟩, ⟨t9, a9⟩, ⟨t10, a10⟩⟩ := G
  exact ⟨by (first | assumption | rfl | exact (if_neg (by decide)).trans (by assumption) | exact if_pos rfl), by (first | assumption | rfl | exact (if_neg (by decide)).trans (by assumption) | exact if_pos rfl), by (first | assumption | rfl | exact (if_neg (by decide)).trans (by assumption) | exact if_pos rfl), by (first | assumption | rfl | exact (if_neg (by decide)).trans (by assumption) | exact if_pos rfl), ⟨t5, by (first | assumption | rfl | exact (if_neg (by decide)).trans (by assumption) | exact if_pos rfl)⟩, ⟨t6, by (first | assumption | rfl | exact (if_neg (by decide)).trans (by assumption) | exact if_pos rfl)⟩, ⟨t7, by (first | assumption | rfl | exact (if_neg (by decide)).trans (by assumption) | exact if_pos rfl)⟩, ⟨t8, by (first | assumption | rfl | exact (if_neg (by decide)).trans (by assumption) | exact if_pos rfl)⟩, ⟨t, by (first | assumption | rfl | exact (if_neg (by decide)).trans (by assumption) | exact if_pos rfl)⟩, ⟨t10, by (first | assumption | rfl | exact (if_neg (by decide)).trans (by assumption) | exact if_pos rfl)⟩⟩
theorem GN.setSh {m : Str → Option Value} {p sl a : Addr} {wd ht : Int} {st : Sc} {y : Int} {t : Tok} (G : GN m p sl a wd ht st) : GN (upd "support_height" (.int y t) m) p sl a wd ht { st with sh := y } := by
  obtain ⟨a1, a2, a3, a4, ⟨t5, a5⟩, ⟨t6, a6⟩, ⟨t7, a7⟩, ⟨t8, a8⟩, ⟨t9, a9⟩, ⟨t10, a10⟩⟩ := G
  exact ⟨by (first | assumption | rfl | exact (if_neg (by decide)).trans (by assumption) | exact if_pos rfl), by (first | assumption | rfl | exact (if_neg (by decide)).trans (by assumption) | exact if_pos rfl), by (first | assumption | rfl | exact (if_neg (by decide)).trans (by assumption) | exact if_pos rfl), by (first | assumption | rfl | exact (if_neg (by decide)).trans (by assumption) | exact if_pos rfl), ⟨t5, by (first | assumption | rfl | exact (if_neg (by decide)).trans (by assumption) | exact if_pos rfl)⟩, ⟨t6, by (first | assumption | rfl | exact (if_neg (by decide)).trans (by assumption) | exact if_pos rfl)⟩, ⟨t7, by (first | assumption | rfl | exact (if_neg (by decide)).trans (by assumption) | exact if_pos rfl)⟩, ⟨t8, by (first | assumption | rfl | exact (if_neg (by decide)).trans (by assumption) | exact if_pos rfl)⟩, ⟨t9, by (first | assumption | rfl | exact (if_neg (by decide)).trans (by assumption) | exact if_pos rfl)⟩, ⟨t, by (first | assumption | rfl | exact (if_neg (by decide)).trans (by assumption) | exact if_pos rfl)⟩⟩
inductive GenJ (h₀ : Heap) (a p sl : Addr) (wd ht Hi : Int) (segs : List Sg) (n : Nat) (rest : List Int) (all : List Pt) (B h : Heap) (m : Str → Option Value) : Prop
  | mk (vals : Array Value) (pts : List Pt) (st : Sc) (f1 : h.PlainList a vals) (f2 : PtsAt h₀ B vals pts) (f3 : pts ++ genPts segs wd ht Hi rest st = all) (f4 : pts.length ≤ n) (f5 : GN m p sl a wd ht st) (f6 : st.li < segs.length) (f7 : st.ri < segs.length) : GenJ h₀ a p sl wd ht Hi segs n rest all B h m
inductive RlJ (h₀ : Heap) (a p sl : Addr) (wd ht pp : Int) (segs : List Sg) (pts : List Pt) (rest : List Nat) (all : Sc) (B h : Heap) (m : Str → Option Value) : Prop
  | mk (vals : Array Value) (st : Sc) (f1 : h.PlainList a vals) (f2 : PtsAt h₀ B vals pts) (f3 : GN m p sl a wd ht st) (f4 : ∃ t, m "p" = some (.int pp t)) (f5 : rl segs (pp + wd) rest st = all) : RlJ h₀ a p sl wd ht pp segs pts rest all B h m
inductive LkJ (h₀ : Heap) (a p sl : Addr) (wd ht pp : Int) (segs : List Sg) (pts : List Pt) (rest : List Nat) (all : Sc) (B h : Heap) (m : Str → Option Value) : Prop
  | mk (vals : Array Value) (st : Sc) (f1 : h.PlainList a vals) (f2 : PtsAt h₀ B vals pts) (f3 : GN m p sl a wd ht st) (f4 : ∃ t, m "p" = some (.int pp t)) (f5 : rest.foldl (fun s j => look segs j s) st = all) : LkJ h₀ a p sl wd ht pp segs pts rest all B h m
inductive GSt (w : World) (L a p sl : Addr) (wd ht : Int) (s : Shared) (h₀ B : Heap) (pp : Int) (pts : List Pt) (st : Sc) (s' : Shared) : Prop
  | mk (B' : _) (h' : _) (m' : _) (tk : _) (vals : _) (t : _) (f1 : s' = { s with heap := h', toks := tk }) (f2 : Fm w [a] B' L h' m') (f3 : Kept B B') (f4 : h'.PlainList a vals) (f5 : PtsAt h₀ B' vals pts) (f6 : GN m' p sl a wd ht st) (f7 : m' "p" = some (.int pp t)) : GSt w L a p sl wd ht s h₀ B pp pts st s'
theorem drop_range' (s n j : Nat) (h : j < n) : (List.range' s n).drop j = (s + j) :: (List.range' s n).drop (j + 1) := by
  rw [List.drop_eq_getElem_cons (by simpa using h)]; simp
section
variable {prog : Program} {w : World} {A : Around} {E : Value → Shared → Prop} {s : Shared} {B : Heap}
theorem m_load {x : Str} {v : Value} {Hs : List Addr} {L : Addr} {m : Str → Option Value} {env : Env} {names : List (Str × NameKind)} {cells : List (Str × Addr)} {Q : Value → Shared → Prop} (V : Ev env L names cells) (X : Fm w Hs B L s.heap m) (hl : names.lookup x = some .local) (hv : m x = some v) (h : Q v s) :
    wpAny (model prog w) A (loadName env x) Q E s := wpAny_loadName_local V.k (by show env.scope.names.lookup x = _; rw [V.n]; exact hl) (V.L ▸ X.F.ns) hv h
theorem pk_place (P : Params) : ∀ C, IsSky C → plainGet (kHead.heap_1 P) C "_placement_points_generator" = true ∧ findIn (kHead.heap_1 P) (.ref C) "_placement_points_generator" = some (some (.ref 603)) ∧ isFn (kHead.heap_1 P) (.ref 603) = true := by
  rintro C (rfl | rfl | rfl) <;> exact ⟨by k_is, by k_is, by k_is⟩
theorem gen_places {p dp C sl rl' : Addr} {Wi Hi wd ht : Int} {tw th : Tok} {turn : Bool} {items : Array Value} {segs : List Sg} {t f : Sg} {R : Result → Shared → Prop} (W : Wd w s.heap) (hf : Free w s.heap 598) (T : Tab s.heap 602 598) (P : Pk s.heap p dp C Wi Hi turn sl rl') (hl : s.heap.PlainList sl items) (hS : Segs s.heap items segs)
    (hf0 : segs[0]? = some f) (ht0 : segs.getLast? = some t) (hR : ∀ g ∈ segs, g.x + g.l ≤ t.x + t.l) (hz : items.size ≤ 10) (hw : 0 < wd) (hh : 0 < ht) (hg : AllBare s.gens) (Ro : Rm A 12 100)
    (h : ∀ h' tk gs a vals ps, But 598 s.heap h' → Tab h' 602 598 → AllBare gs → h'.PlainList a vals → PtsAt s.heap h' vals (genPts segs wd ht Hi ps ⟨0, 0, 0, f.y⟩) → ps.Perm (lefts segs wd (t.x + t.l) ++ rights segs wd f.x) → ps.Pairwise (· ≤ ·) → s.heap.get? a = none →
      R (.ok (.ret (.ref a))) { s with heap := h', toks := tk, gens := gs }) :
    codeAny (model prog w) A (.call (.ref 610) ⟨[.ref p, .int wd tw, .int ht th], []⟩) R s := by
  have Ro : Rm A (11 + 1) (90 + 3) := Ro.le (by decide) (by decide)
  ((refine' code_fn ([("self", .ref p), ("width", .int wd tw), ("height", .int ht th)]) ?k0 ?kk ?k1 ?k2 ?k3 ?k4 ?k5 ?k6 ?k7 ?k8 ?k9 ?k10 ?k11 ?k12 ?_); (case k0 => assumption); (case kk => (first | assumption | exact Fz.keep (by assumption) | exact Kept.refl _)); (case k2 => k_is); (case k3 => k_is); (case k4 => rfl); (case k5 => exact binds_eq rfl); (case k6 => rfl); (case k7 => rfl); (case k8 => rfl); (case k9 => rfl); (case k10 => rfl); (case k11 => rfl); (case k12 => rfl); (case k1 => assumption); intro A' L env h₁ R' V F; (try dsimp only at V F); (try dsimp only))
  obtain ⟨B, WB, kB, hB, back⟩ := hf.hide
  have hT₁ := T.kept F.keep
  have X : Fm w [598] B L h₁ _ := ⟨WB, F.weaken kB, fun x hx => by rw [List.mem_singleton.mp hx]; exact hB, fun x hx => by rw [List.mem_singleton.mp hx]; exact hT₁.has⟩
  have hlB : B.PlainList sl items := by
    refine hl.at fun o e => back _ _ ?_ e
    rintro rfl
    obtain ⟨ps, -, -, e'⟩ := T
    rw [e] at e'; obtain ⟨n, e2⟩ := hl; rw [e] at e2; cases e2; cases e'
  have hSB : Segs B items segs := hS.odd T.has.odd back
  have PB : Pk B p dp C Wi Hi turn sl rl' := P.odd T.has.odd back
  have n598 : (598 : Addr) ≠ L := by
    obtain ⟨o, e, -⟩ := T.has
    exact ne_of_get e F.hid
  have n602 : (602 : Addr) ≠ L := by
    obtain ⟨ps, ⟨o, _, _, _, _, _, _, _, _, _, ho, -⟩, -⟩ := T
    exact ne_of_get ho F.hid
  clear F
  repeat walk_at "sky_m0"
  refine pk_skyline X.W X.keep (PB.kept X.keep) fun tk => ?_
  try dsimp only
  (((try (with_reducible first | refine Next.next (by assumption) ?_ | refine Next.ret (by assumption) ?_ | refine Next.cont (by assumption) ?_ | refine Next.brk (by assumption) ?_ | refine IfK.go (by assumption) ?_ | refine AsK.go (by assumption) ?_)); (with_reducible show wpAny _ _ (storeName _ _ _) _ _ _); refine m_store (by assumption) (by assumption) (by exact rfl) ?_))
  intro h₂ tkσ X₂ l₂ b₂
  try dsimp only at b₂ ⊢
  have hT₂ := hT₁.but b₂ n602 n598
  repeat walk_at "sky_m0"
  refine wpAny_List ?_
  repeat walk_at "sky_m0"
  refine ⟨Nat.zero_le _, ?_⟩
  try dsimp only
  have hla := push_list h₂ []
  have X₃ := (X₂.step (Kept.push h₂ { cls := .type "list", data := .seq #[] })).hide hla (X₂.fresh (get?_size _))
  have hT₃ := hT₂.kept (Kept.push h₂ { cls := .type "list", data := .seq #[] })
  have fra : s.heap.get? h₂.objs.size = none := by
    cases q : s.heap.get? h₂.objs.size with
    | none => rfl
    | some o =>
      exfalso
      by_cases c : h₂.objs.size = 598
      · obtain ⟨o', e', -⟩ := hT₂.has; rw [← c, get?_size] at e'; cases e'
      · have := X₂.keep _ _ (back _ _ c q); rw [get?_size] at this; cases this
  generalize h₂.objs.size = a at hla X₃ fra ⊢
  (((try (with_reducible first | refine Next.next (by assumption) ?_ | refine Next.ret (by assumption) ?_ | refine Next.cont (by assumption) ?_ | refine Next.brk (by assumption) ?_ | refine IfK.go (by assumption) ?_ | refine AsK.go (by assumption) ?_)); (with_reducible show wpAny _ _ (storeName _ _ _) _ _ _); refine m_store (by assumption) (by assumption) (by exact rfl) ?_))
  intro h₄ tkσ X₄ l₄ b₄
  try dsimp only at l₄ b₄ ⊢
  have hT₄ := hT₃.but b₄ n602 n598
  have hla₄ := l₄ _ _ hla
  clear X X₂ X₃ l₂ b₂ l₄ b₄ hT₂ hT₃ hT₁
  have naL : a ≠ L := X₄.ne hla₄
  have stp : ∀ h h', But L h h' → Tab h 602 598 ∧ h.PlainList a #[] → Tab h' 602 598 ∧ h'.PlainList a #[] := fun h h' k x => ⟨x.1.but k n602 n598, x.2.at (fun o e => k _ _ naL e)⟩
  have D := And.intro hT₄ hla₄
  clear hT₄ hla₄ hla
  obtain ⟨fa, hfa, Pf, hf00⟩ := hSB.2 0 f hf0
  repeat walk_at "sky_m0"
  refine wpAny_Assign_two ?_
  repeat walk_at "sky_m0"
  refine wpAny_assign_Name ?_
  (((try (with_reducible first | refine Next.next (by assumption) ?_ | refine Next.ret (by assumption) ?_ | refine Next.cont (by assumption) ?_ | refine Next.brk (by assumption) ?_ | refine IfK.go (by assumption) ?_ | refine AsK.go (by assumption) ?_)); (with_reducible show wpAny _ _ (storeName _ _ _) _ _ _); refine m_store (by assumption) (by assumption) (by exact rfl) ?_))
  intro h₅ tkσ X₅ _ b₅
  try dsimp only at b₅ ⊢
  replace D := stp _ _ b₅ D
  clear X₄ b₅
  refine wpAny_assign_Name ?_
  (((try (with_reducible first | refine Next.next (by assumption) ?_ | refine Next.ret (by assumption) ?_ | refine Next.cont (by assumption) ?_ | refine Next.brk (by assumption) ?_ | refine IfK.go (by assumption) ?_ | refine AsK.go (by assumption) ?_)); (with_reducible show wpAny _ _ (storeName _ _ _) _ _ _); refine m_store (by assumption) (by assumption) (by exact rfl) ?_))
  intro h₆ tkσ X₆ _ b₆
  try dsimp only at b₆ ⊢
  replace D := stp _ _ b₆ D
  clear X₅ b₆
  repeat walk_at "sky_m0"
  refine item_at (i := 0) (hlB.at (X₆.keep _)).isList rfl hfa (by (first | exact Nat.le_trans (by assumption) (by decide) | lia)) ?_ rfl
  refine m_seg_top X₆ Pf hf00 (R'.le (by decide) (by decide)) fun h₇ tk₇ t₇ X₇ k₇ => ?_
  try dsimp only at k₇ ⊢
  replace D : Tab h₇ 602 598 ∧ h₇.PlainList a #[] := ⟨D.1.kept k₇, D.2.at (k₇ _)⟩
  clear X₆ k₇
  (((try (with_reducible first | refine Next.next (by assumption) ?_ | refine Next.ret (by assumption) ?_ | refine Next.cont (by assumption) ?_ | refine Next.brk (by assumption) ?_ | refine IfK.go (by assumption) ?_ | refine AsK.go (by assumption) ?_)); (with_reducible show wpAny _ _ (storeName _ _ _) _ _ _); refine m_store (by assumption) (by assumption) (by exact rfl) ?_))
  intro h₈ tkσ X₈ _ b₈
  try dsimp only at b₈ ⊢
  replace D := stp _ _ b₈ D
  clear X₇ b₈
  repeat walk_at "sky_m0"
  (((try (with_reducible first | refine Next.next (by assumption) ?_ | refine Next.ret (by assumption) ?_ | refine Next.cont (by assumption) ?_ | refine Next.brk (by assumption) ?_ | refine IfK.go (by assumption) ?_ | refine AsK.go (by assumption) ?_)); (with_reducible show wpAny _ _ (storeName _ _ _) _ _ _); refine m_store (by assumption) (by assumption) (by exact rfl) ?_))
  intro h₉ tkσ X₉ _ b₉
  try dsimp only at b₉ ⊢
  replace D := stp _ _ b₉ D
  clear X₈ b₉
  repeat walk_at "sky_m0"
  refine m_pkmeth X₉ PB (by decide) (pk_place _) ?_
  try dsimp only
  repeat walk_at "sky_m0"
  refine wpAny_call (place_points (self := .ref p) X₉.Wh ⟨B, WB, X₉.keep, hB⟩ D.1 (hlB.at (X₉.keep _)) (hSB.kept X₉.keep) (by rintro rfl; cases ht0) hz hg (R'.le (by decide) (by decide)) fun h' tk' gs apl vs ns b' hT' bare hpl hns hperm hsrt hpl' hfr => ?_)
  try dsimp only at b' hfr ⊢
  have X₁₀ := X₉.buto (.tail _ (.head _)) b' hT'.has
  have hla : h'.PlainList a #[] := D.2.at fun o e => b' _ _ (by rintro rfl; obtain ⟨ps, -, -, e'⟩ := D.1; rw [e] at e'; obtain ⟨n, e2⟩ := D.2; rw [e] at e2; cases e2; cases e') e
  have hpa : apl ∉ [a] := fun q => by
    obtain ⟨n, e⟩ := D.2; rw [← List.mem_singleton.mp q, hfr] at e; cases e
  have Xa : Fm w [a] B L h' _ := ⟨X₁₀.W, X₁₀.F, (fun x hx => X₁₀.hid x (by rw [List.mem_singleton.mp hx]; exact .head _)), (fun x hx => X₁₀.odd x (by rw [List.mem_singleton.mp hx]; exact .head _))⟩
  obtain ⟨B', X₁₁, kB', Hd⟩ := Xa.up
  have n598a : (598 : Addr) ∉ [a] := fun q => by
    obtain ⟨ps, -, -, e'⟩ := D.1; obtain ⟨n, e2⟩ := D.2; rw [← List.mem_singleton.mp q] at e2; rw [e2] at e'; cases e'
  have n602a : (602 : Addr) ∉ [a] := fun q => by
    obtain ⟨ps, -, ⟨o', vs', e1, e2, -⟩, -⟩ := D.1; obtain ⟨n, e3⟩ := D.2; rw [← List.mem_singleton.mp q] at e3; rw [e3] at e1; cases e1; injection e2 with e2; exact absurd e2 (by decide)
  have TB : Tab B' 602 598 := hT'.at (fun o e => Hd.get _ _ e n602 n602a) (fun o e => Hd.get _ _ e n598 n598a)
  have hplB : B'.IsList apl vs.toArray := by
    obtain ⟨v2, hpl2⟩ := hpl'
    obtain ⟨n, e⟩ := Hd.list hpl2 hpa
    obtain ⟨o, e1, e2, n3, e3⟩ := hpl
    rw [X₁₁.keep _ _ e] at e1; cases e1
    cases e3
    exact ⟨_, e, rfl, _, rfl⟩
  have hlB' := hlB.at (kB' _)
  have hSB' := hSB.kept kB'
  have PB' := PB.kept kB'
  have fr0 : ∀ B₂ h m, Kept B' B₂ → Fm w [a] B₂ L h m → ∀ r, h.get? r = none → s.heap.get? r = none := fun B₂ h m k₂ X r hr => by
    cases q : s.heap.get? r with
    | none => rfl
    | some o =>
      exfalso
      by_cases c : r = 598
      · obtain ⟨o', e', -⟩ := TB.has; rw [c, X.keep _ _ (k₂ _ _ e')] at hr; cases hr
      · rw [X.keep _ _ (k₂ _ _ (kB' _ _ (back _ _ c q)))] at hr; cases hr
  clear Hd X₁₀ X₉ D Xa
  (((try (with_reducible first | refine Next.next (by assumption) ?_ | refine Next.ret (by assumption) ?_ | refine Next.cont (by assumption) ?_ | refine Next.brk (by assumption) ?_ | refine IfK.go (by assumption) ?_ | refine AsK.go (by assumption) ?_)); (with_reducible show wpAny _ _ (storeName _ _ _) _ _ _); refine m_store (by assumption) (by assumption) (by exact rfl) ?_))
  intro h₁₂ tkσ X₁₂ l₁₂ b₁₂
  try dsimp only at l₁₂ b₁₂ ⊢
  have hla₁₂ := l₁₂ _ _ hla
  have bb : But 598 s.heap h₁₂ := fun b o n e => X₁₂.keep _ _ (kB' _ _ (back b o n e))
  clear X₁₁ l₁₂ b₁₂ hla
  repeat walk_at "sky_m0"
  refine wpAny_For ?_ (by intro _; rfl)
  repeat walk_at "sky_m0"
  replace hperm := hperm f t hf0 ht0
  have hsl : segs.length ≤ 10 := by have := hS.1; (first | lia | omega)
  have hlen : ns.length ≤ 20 := by
    rw [hperm.length_eq, List.length_append]
    have h1 : (lefts segs wd (t.x + t.l)).length ≤ segs.length := by unfold lefts; rw [List.length_map]; exact List.length_filter_le _ _
    have h2 : (rights segs wd f.x).length ≤ segs.length := by unfold rights; rw [List.length_map]; exact List.length_filter_le _ _
    have := hS.1; (first | lia | omega)
  have hfit : ∀ q ∈ ns, q + wd ≤ t.x + t.l := fun q hq => by
    rcases List.mem_append.mp (hperm.mem_iff.mp hq) with hq | hq
    · unfold lefts at hq
      obtain ⟨g, hg, rfl⟩ := List.mem_map.mp hq
      exact of_decide_eq_true (List.mem_filter.mp hg).2
    · unfold rights at hq
      obtain ⟨g, hg, rfl⟩ := List.mem_map.mp hq
      have := hR g (List.mem_filter.mp hg).1
      (first | lia | omega)
  have hpos : 0 < segs.length := by
    rcases Nat.eq_zero_or_pos segs.length with q | q
    · rw [List.eq_nil_of_length_eq_zero q] at ht0; cases ht0
    · exact q
  have naL' : a ≠ L := naL
  refine for_list V R'.2.2 rfl [a] X₁₂.F X₁₂.hid (fun b hb => ?_) hplB (fun i => GenJ s.heap a p sl wd ht Hi segs i (ns.drop i) (genPts segs wd ht Hi ns ⟨0, 0, 0, f.y⟩)) ?_ ?_ ?_ ?_ ?_
  · rw [List.mem_singleton.mp hb]; obtain ⟨n, e⟩ := hla₁₂; exact ⟨_, e⟩
  · refine ⟨#[], [], ⟨0, 0, 0, f.y⟩, hla₁₂, ⟨rfl, fun i pt e => by simp at e⟩, rfl, Nat.le_refl _, ⟨rfl, rfl, rfl, rfl, ⟨_, rfl⟩, ⟨_, rfl⟩, ⟨_, rfl⟩, ⟨_, rfl⟩, ⟨_, rfl⟩, ⟨_, rfl⟩⟩, hpos, hpos⟩
  · rintro I hI i B₁ B₂ h₁ h' m' ⟨vals, pts, st, l1, P1, r1, r2, r3, r4, r5⟩ odd b1 b2
    refine ⟨vals, pts, st, l1.at fun o e => b2 _ _ ?_ naL' e, P1.odd odd b1, r1, r2, r3, r4, r5⟩
    obtain ⟨n, e⟩ := hla₁₂
    exact ne_of_get e hI
  · rintro i v B₁ h₁ m₁ tk₁ hv ⟨vals, pts, st, l1, P1, eq1, z1, G1, hli, hri⟩ kB₁ F₁ hh₁
    obtain ⟨pp, hpp⟩ : ∃ pp, ns[i]? = some pp := by
      have : i < vs.length := by
        rcases Nat.lt_or_ge i vs.length with q | q
        · exact q
        · rw [Array.getElem?_eq_none (by simpa using q)] at hv; cases hv
      exact ⟨_, List.getElem?_eq_getElem (by rw [← hns.length]; exact this)⟩
    obtain ⟨tp, htp⟩ := hns.get i pp hpp
    have : v = .int pp tp := by
      rw [List.getElem?_toArray, htp] at hv; cases hv; rfl
    subst this
    have ed : ns.drop i = pp :: ns.drop (i + 1) := by
      have hi : i < ns.length := by
        rcases Nat.lt_or_ge i ns.length with q | q
        · exact q
        · rw [List.getElem?_eq_none q] at hpp; cases hpp
      rw [List.drop_eq_getElem_cons hi]
      rw [List.getElem?_eq_getElem hi] at hpp; cases hpp; rfl
    have hil : i < 20 := by
      rcases Nat.lt_or_ge i ns.length with q | q
      · (first | exact Nat.lt_of_lt_of_le (by assumption) (by assumption) | lia)
      · rw [List.getElem?_eq_none q] at hpp; cases hpp
    have hppf : pp + wd ≤ t.x + t.l := hfit pp (List.mem_of_getElem? hpp)
    rw [ed] at eq1
    have X : Fm w [a] B₁ L h₁ (upd "p" (.int pp tp) m₁) := ⟨X₁₂.W.keeps kB₁, F₁, hh₁, fun b hb => by rw [List.mem_singleton.mp hb]; exact Has.plain l1⟩
    have G2 : GN (upd "p" (.int pp tp) m₁) p sl a wd ht st := G1.set (.inl rfl)
    have hlb := hlB'.at (kB₁ _)
    have hsb := hSB'.kept kB₁
    clear F₁ X₁₂ hla₁₂
    unfold LoopBody
    refine cut (GSt w L a p sl wd ht { s with gens := gs } s.heap B₁ pp pts (step1 segs (pp + wd) st)) ?_ ?_
    · obtain ⟨g1, g2, g3, g4, u5, g5, u6, g6, u7, g7, u8, g8, u9, g9, u10, g10⟩ := G2.split
      obtain ⟨ra, hra, Pr, hr0⟩ := hsb.sg hri
      repeat walk_at "sky_m0"
      refine item_at (i := st.ri) (hlb.at (X.keep _)).isList rfl hra (by (first | exact Nat.le_trans (by assumption) (by decide) | lia)) ?_ rfl
      refine m_seg_right X Pr hr0 (R'.le (by decide) (by decide)) fun h₂ tk₂ t₂ X₂ k₂ => ?_
      try dsimp only at k₂ ⊢
      have l2 := l1.at (k₂ _)
      repeat walk_at "sky_m0"
      (try (with_reducible first | refine Next.next (by assumption) ?_ | refine Next.ret (by assumption) ?_ | refine Next.cont (by assumption) ?_ | refine Next.brk (by assumption) ?_ | refine IfK.go (by assumption) ?_ | refine AsK.go (by assumption) ?_))
      refine ite_d (fun c1 => ?_) (fun c1 => ?_)
      · have e1 : step1 segs (pp + wd) st = rl segs (pp + wd) (List.range' (st.ri + 1) (segs.length - (st.ri + 1))) st := if_pos (by (first | omega | lia))
        rw [e1]
        repeat walk_at "sky_m0"
        refine wpAny_For ?_ (by intro _; rfl)
        repeat walk_at "sky_m0"
        refine len_list (hlb.at (X₂.keep _)).isList (by (first | lia | omega)) ?_
        repeat walk_at "sky_m0"
        refine call_range_2 ?_
        try dsimp only
        have kp := Kept.push h₂
        refine for_range (n := segs.length - (st.ri + 1)) V R'.2.2 rfl [a] (X₂.step (kp _)).F X₂.hid (fun b hb => ?_) (IsRange.new ..) (small_one (by (first | lia | omega)) (by (first | lia | omega)) (by (first | lia | omega)) (by (first | lia | omega))) ?_ (fun j => RlJ s.heap a p sl wd ht pp segs pts ((List.range' (st.ri + 1) (segs.length - (st.ri + 1))).drop j) (rl segs (pp + wd) (List.range' (st.ri + 1) (segs.length - (st.ri + 1))) st)) ?_ ?_ ?_ ?_ ?_
        · rw [List.mem_singleton.mp hb]; obtain ⟨n, e⟩ := l2; exact ⟨_, kp _ _ _ e⟩
        · rw [PySem.rangeSize_one]
          have := hS.1
          split <;> (first | grind | lia)
        · exact ⟨vals, st, l2.at (kp _ _), P1, G2, ⟨_, if_pos rfl⟩, rfl⟩
        · rintro I hI j B₂ B₃ h₃ h' m' ⟨vals₃, st', l3, P3, r3, r4, r5⟩ odd b1 b2
          refine ⟨vals₃, st', l3.at fun o e => b2 _ _ ?_ naL' e, P3.odd odd b1, r3, r4, r5⟩
          obtain ⟨n, e⟩ := l2
          exact ne_of_get (kp _ _ _ e) hI
        · rintro j v B₂ h₃ m₃ tk₃ hj ⟨tv, rfl⟩ ⟨vals₃, st', l3, P3, G3, ⟨tp3, hp3⟩, eq3⟩ kB₂ F₃ hh₃
          have ej : ((st.ri : Int) + 1 + (j : Int) * 1) = ((st.ri + 1 + j : Nat) : Int) := by (first | (simp; done) | lia)
          rw [ej] at F₃
          rw [drop_range' _ _ _ hj] at eq3
          generalize hjj : st.ri + 1 + j = jj at F₃ eq3
          have hjl : jj < segs.length := by (first | exact nb7 (by assumption) (by assumption) | lia)
          have X₃ : Fm w [a] B₂ L h₃ (upd "right_index" (.int jj tv) m₃) := ⟨X.W.keeps kB₂, F₃, hh₃, fun b hb => by rw [List.mem_singleton.mp hb]; exact Has.plain l3⟩
          have G4 : GN (upd "right_index" (.int jj tv) m₃) p sl a wd ht { st' with ri := jj } := G3.setRi
          have hlb₂ := hlb.at (kB₂ _)
          have hsb₂ := hsb.kept kB₂
          obtain ⟨ja, hja, Pj, hj0⟩ := hsb₂.sg hjl
          unfold LoopBody
          refine cut (GSt w L a p sl wd ht { s with gens := gs } s.heap B₂ pp pts (look segs jj { st' with ri := jj })) ?_ ?_
          · obtain ⟨g1, g2, g3, g4, u5, g5, u6, g6, u7, g7, u8, g8, u9, g9, u10, g10⟩ := G4.split
            clear g8
            repeat walk_at "sky_m0"
            refine item_at (i := jj) (hlb₂.at (X₃.keep _)).isList rfl hja (by (first | exact Nat.le_trans (by assumption) (by decide) | lia)) ?_ rfl
            refine m_seg_top X₃ Pj hj0 (R'.le (by decide) (by decide)) fun h₄ tk₄ t₄ X₄ k₄ => ?_
            try dsimp only at k₄ ⊢
            have l4 := l3.at (k₄ _)
            repeat walk_at "sky_m0"
            (try (with_reducible first | refine Next.next (by assumption) ?_ | refine Next.ret (by assumption) ?_ | refine Next.cont (by assumption) ?_ | refine Next.brk (by assumption) ?_ | refine IfK.go (by assumption) ?_ | refine AsK.go (by assumption) ?_))
            refine ite_d (fun c2 => ?_) (fun c2 => ?_)
            · have e2 : look segs jj { st' with ri := jj } = { st' with ri := jj, si := jj, sh := (sg segs jj).y } := if_pos c2
              rw [e2]
              repeat walk_at "sky_m0"
              (((try (with_reducible first | refine Next.next (by assumption) ?_ | refine Next.ret (by assumption) ?_ | refine Next.cont (by assumption) ?_ | refine Next.brk (by assumption) ?_ | refine IfK.go (by assumption) ?_ | refine AsK.go (by assumption) ?_)); (with_reducible show wpAny _ _ (storeName _ _ _) _ _ _); refine m_store (by assumption) (by assumption) (by exact rfl) ?_))
              intro h₅ tkσ X₅ l₅ _
              try dsimp only at l₅ ⊢
              have l5 := l₅ _ _ l4
              clear X₄
              repeat walk_at "sky_m0"
              refine item_at (i := jj) (hlb₂.at (X₅.keep _)).isList rfl hja (by (first | exact Nat.le_trans (by assumption) (by decide) | lia)) ?_ rfl
              refine m_seg_top X₅ Pj hj0 (R'.le (by decide) (by decide)) fun h₆ tk₆ t₆ X₆ k₆ => ?_
              try dsimp only at k₆ ⊢
              have l6 := l5.at (k₆ _)
              clear X₅
              (((try (with_reducible first | refine Next.next (by assumption) ?_ | refine Next.ret (by assumption) ?_ | refine Next.cont (by assumption) ?_ | refine Next.brk (by assumption) ?_ | refine IfK.go (by assumption) ?_ | refine AsK.go (by assumption) ?_)); (with_reducible show wpAny _ _ (storeName _ _ _) _ _ _); refine m_store (by assumption) (by assumption) (by exact rfl) ?_))
              intro h₇ tkσ X₇ l₇ _
              try dsimp only at l₇ ⊢
              repeat walk_at "sky_m0"
              exact ⟨rfl, B₂, _, _, _, vals₃, tp3, rfl, X₇, Kept.refl _, l₇ _ _ l6, P3, G4.setSi.setSh, by ((repeat (first | assumption | exact if_pos rfl | refine (if_neg (by decide)).trans ?_)))⟩
            · have e2 : look segs jj { st' with ri := jj } = { st' with ri := jj } := if_neg c2
              rw [e2]
              repeat walk_at "sky_m0"
              exact ⟨rfl, B₂, _, _, _, vals₃, tp3, rfl, X₄, Kept.refl _, l4, P3, G4, by (first | assumption | rfl | exact (if_neg (by decide)).trans (by assumption) | exact if_pos rfl)⟩
          rintro s' ⟨B₃, h₄, m₄, tk₄, vals₄, tp4, rfl, X₄, k₄, l4, P4, G5, hp4⟩
          generalize hlk : look segs jj { st' with ri := jj } = sk at G5
          have hri' : sk.ri = jj := by rw [← hlk]; unfold look; split <;> rfl
          have hsb₃ := hsb₂.kept k₄
          obtain ⟨ja, hja, Pj, hj0⟩ := hsb₃.sg hjl
          obtain ⟨g1, g2, g3, g4, u5, g5, u6, g6, u7, g7, u8, g8, u9, g9, u10, g10⟩ := G5.split
          rw [hri'] at g8
          repeat walk_at "sky_m0"
          refine item_at (i := jj) ((hlb₂.at (k₄ _)).at (X₄.keep _)).isList rfl hja (by (first | exact Nat.le_trans (by assumption) (by decide) | lia)) ?_ rfl
          refine m_seg_right X₄ Pj hj0 (R'.le (by decide) (by decide)) fun h₅ tk₅ t₅ X₅ k₅ => ?_
          try dsimp only at k₅ ⊢
          have l5 := l4.at (k₅ _)
          rw [rl_cons, hlk] at eq3
          repeat walk_at "sky_m0"
          (try (with_reducible first | refine Next.next (by assumption) ?_ | refine Next.ret (by assumption) ?_ | refine Next.cont (by assumption) ?_ | refine Next.brk (by assumption) ?_ | refine IfK.go (by assumption) ?_ | refine AsK.go (by assumption) ?_))
          refine ite_d (fun c3 => ?_) (fun c3 => ?_)
          · rw [if_pos c3] at eq3
            repeat walk_at "sky_m0"
            refine wpAny_Break ?_
            repeat walk_at "sky_m0"
            rw [← eq3]
            exact ⟨rfl, B₃, _, _, _, vals₄, tp4, rfl, X₅, kB₂.trans k₄, l5, P4, G5, hp4⟩
          · rw [if_neg c3] at eq3
            repeat walk_at "sky_m0"
            exact ⟨B₃, _, _, _, rfl, k₄, X₅.F, X₅.hid, vals₄, sk, l5, P4, G5, ⟨_, hp4⟩, eq3⟩
        · rintro B₂ h₃ m₃ tk₃ ⟨vals₃, st', l3, P3, G3, ⟨tp3, hp3⟩, eq3⟩ kB₂ F₃ hh₃
          rw [List.drop_of_length_le (by rw [List.length_range']; exact Nat.le_refl _)] at eq3
          repeat walk_at "sky_m0"
          rw [← eq3]
          exact ⟨rfl, B₂, _, _, _, vals₃, tp3, rfl, ⟨X.W.keeps kB₂, F₃, hh₃, fun b hb => by rw [List.mem_singleton.mp hb]; exact Has.plain l3⟩, kB₂, l3, P3, G3, hp3⟩
        · passes_own
      · have e1 : step1 segs (pp + wd) st = st := if_neg (by (first | omega | lia))
        rw [e1]
        repeat walk_at "sky_m0"
        exact ⟨rfl, B₁, _, _, _, vals, tp, rfl, X₂, Kept.refl _, l2, P1, G2, by (first | assumption | rfl | exact (if_neg (by decide)).trans (by assumption) | exact if_pos rfl)⟩
    clear X l1 P1 G2
    rintro s' ⟨B₂, h₂, m₂, tk₂, vals₂, tp₂, rfl, X₂, k₂, l2, P2, G2, hp2⟩
    have hli1 : (step1 segs (pp + wd) st).li < segs.length := by rw [step1_li]; exact hli
    have hri1 := step1_ri segs (pp + wd) st hri
    have eg : gstep segs wd pp st = step3 segs (step2 segs pp (step1 segs (pp + wd) st)) := rfl
    generalize step1 segs (pp + wd) st = st1 at G2 hli1 hri1 eg
    replace kB₁ := kB₁.trans k₂
    have hlb₂ := hlb.at (k₂ _)
    have hsb₂ := hsb.kept k₂
    clear hlb hsb
    refine cut (GSt w L a p sl wd ht { s with gens := gs } s.heap B₂ pp pts (step2 segs pp st1)) ?_ ?_
    · obtain ⟨g1, g2, g3, g4, u5, g5, u6, g6, u7, g7, u8, g8, u9, g9, u10, g10⟩ := G2.split
      obtain ⟨la, hla, Pl, hl0⟩ := hsb₂.sg hli1
      repeat walk_at "sky_m0"
      refine item_at (i := st1.li) (hlb₂.at (X₂.keep _)).isList rfl hla (by (first | exact Nat.le_trans (by assumption) (by decide) | lia)) ?_ rfl
      refine m_seg_right X₂ Pl hl0 (R'.le (by decide) (by decide)) fun h₃ tk₃ t₃ X₃ k₃ => ?_
      try dsimp only at k₃ ⊢
      have l3 := l2.at (k₃ _)
      repeat walk_at "sky_m0"
      (try (with_reducible first | refine Next.next (by assumption) ?_ | refine Next.ret (by assumption) ?_ | refine Next.cont (by assumption) ?_ | refine Next.brk (by assumption) ?_ | refine IfK.go (by assumption) ?_ | refine AsK.go (by assumption) ?_))
      refine ite_d (fun c1 => ?_) (fun c1 => ?_)
      · have e1 : step2 segs pp st1 = { st1 with li := st1.li + 1 } := if_pos c1
        rw [e1]
        repeat walk_at "sky_m0"
        refine wpAny_AugAssign_Name ?_
        refine m_load V X₃ rfl g7 ?_
        repeat walk_at "sky_m0"
        refine iadd_int ?_
        try dsimp only
        (((try (with_reducible first | refine Next.next (by assumption) ?_ | refine Next.ret (by assumption) ?_ | refine Next.cont (by assumption) ?_ | refine Next.brk (by assumption) ?_ | refine IfK.go (by assumption) ?_ | refine AsK.go (by assumption) ?_)); (with_reducible show wpAny _ _ (storeName _ _ _) _ _ _); refine m_store (by assumption) (by assumption) (by exact rfl) ?_))
        intro h₄ tkσ X₄ l₄ _
        try dsimp only at l₄ ⊢
        repeat walk_at "sky_m0"
        exact ⟨rfl, B₂, _, _, _, vals₂, tp₂, rfl, X₄, Kept.refl _, l₄ _ _ l3, P2, G2.setLi, by ((repeat (first | assumption | exact if_pos rfl | refine (if_neg (by decide)).trans ?_)))⟩
      · have e1 : step2 segs pp st1 = st1 := if_neg c1
        rw [e1]
        repeat walk_at "sky_m0"
        exact ⟨rfl, B₂, _, _, _, vals₂, tp₂, rfl, X₃, Kept.refl _, l3, P2, G2, hp2⟩
    rintro s' ⟨B₃, h₃, m₃, tk₃, vals₃, tp₃, rfl, X₃, k₃, l3, P3, G3, hp3⟩
    have hli2 := step2_li segs pp wd st1 t ht0 hppf hw hli1
    have hri2 : (step2 segs pp st1).ri < segs.length := by rw [step2_ri]; exact hri1
    generalize step2 segs pp st1 = st2 at G3 hli2 hri2 eg
    replace kB₁ := kB₁.trans k₃
    have hlb₃ := hlb₂.at (k₃ _)
    have hsb₃ := hsb₂.kept k₃
    clear hlb₂ hsb₂
    refine cut (GSt w L a p sl wd ht { s with gens := gs } s.heap B₃ pp pts (step3 segs st2)) ?_ ?_
    · obtain ⟨g1, g2, g3, g4, u5, g5, u6, g6, u7, g7, u8, g8, u9, g9, u10, g10⟩ := G3.split
      obtain ⟨la, hla, Pl, hl0⟩ := hsb₃.sg hli2
      repeat walk_at "sky_m0"
      (try (with_reducible first | refine Next.next (by assumption) ?_ | refine Next.ret (by assumption) ?_ | refine Next.cont (by assumption) ?_ | refine Next.brk (by assumption) ?_ | refine IfK.go (by assumption) ?_ | refine AsK.go (by assumption) ?_))
      refine ite_d (fun c1 => ?_) (fun c1 => ?_)
      · have e1 : step3 segs st2 = (List.range' st2.li (st2.ri + 1 - st2.li)).foldl (fun s j => look segs j s) { st2 with si := st2.li, sh := (sg segs st2.li).y } := if_pos (by (first | lia | omega))
        rw [e1]
        repeat walk_at "sky_m0"
        (((try (with_reducible first | refine Next.next (by assumption) ?_ | refine Next.ret (by assumption) ?_ | refine Next.cont (by assumption) ?_ | refine Next.brk (by assumption) ?_ | refine IfK.go (by assumption) ?_ | refine AsK.go (by assumption) ?_)); (with_reducible show wpAny _ _ (storeName _ _ _) _ _ _); refine m_store (by assumption) (by assumption) (by exact rfl) ?_))
        intro h₄ tkσ X₄ l₄ _
        try dsimp only at l₄ ⊢
        have l5 := l₄ _ _ l3
        clear X₃ l₄
        repeat walk_at "sky_m0"
        refine item_at (i := st2.li) (hlb₃.at (X₄.keep _)).isList rfl hla (by (first | exact Nat.le_trans (by assumption) (by decide) | lia)) ?_ rfl
        refine m_seg_top X₄ Pl hl0 (R'.le (by decide) (by decide)) fun h₅ tk₅ t₅ X₅ k₅ => ?_
        try dsimp only at k₅ ⊢
        have l6 := l5.at (k₅ _)
        clear X₄
        (((try (with_reducible first | refine Next.next (by assumption) ?_ | refine Next.ret (by assumption) ?_ | refine Next.cont (by assumption) ?_ | refine Next.brk (by assumption) ?_ | refine IfK.go (by assumption) ?_ | refine AsK.go (by assumption) ?_)); (with_reducible show wpAny _ _ (storeName _ _ _) _ _ _); refine m_store (by assumption) (by assumption) (by exact rfl) ?_))
        intro h₆ tkσ X₆ l₆ _
        try dsimp only at l₆ ⊢
        have l7 := l₆ _ _ l6
        clear X₅ l₆
        have G4 := (G3.setSi (j := st2.li) (t := u7)).setSh (y := (sg segs st2.li).y) (t := t₅)
        have hp4 : (upd "support_height" (Value.int (sg segs st2.li).y t₅) (upd "support_index" (Value.int (st2.li : Int) u7) m₃)) "p" = some (.int pp tp₃) := by ((repeat (first | assumption | exact if_pos rfl | refine (if_neg (by decide)).trans ?_)))
        generalize (upd "support_height" (Value.int (sg segs st2.li).y t₅) (upd "support_index" (Value.int (st2.li : Int) u7) m₃)) = m₇ at X₆ G4 hp4
        repeat walk_at "sky_m0"
        refine wpAny_For ?_ (by intro _; rfl)
        obtain ⟨g1, g2, g3, g4, u5, g5, u6, g6, u7, g7, u8, g8, u9, g9, u10, g10⟩ := G4.split
        repeat walk_at "sky_m0"
        refine call_range_2 ?_
        try dsimp only
        have kp := Kept.push h₆
        refine for_range (n := st2.ri + 1 - st2.li) V R'.2.2 rfl [a] (X₆.step (kp _)).F X₆.hid (fun b hb => ?_) (IsRange.new ..) (small_one (by (first | lia | omega)) (by (first | lia | omega)) (by (first | lia | omega)) (by (first | lia | omega))) ?_ (fun j => LkJ s.heap a p sl wd ht pp segs pts ((List.range' st2.li (st2.ri + 1 - st2.li)).drop j) ((List.range' st2.li (st2.ri + 1 - st2.li)).foldl (fun s j => look segs j s) { st2 with si := st2.li, sh := (sg segs st2.li).y })) ?_ ?_ ?_ ?_ ?_
        · rw [List.mem_singleton.mp hb]; obtain ⟨n, e⟩ := l7; exact ⟨_, kp _ _ _ e⟩
        · rw [PySem.rangeSize_one]
          split <;> (first | grind | lia)
        · exact ⟨vals₃, _, l7.at (kp _ _), P3, G4, ⟨_, hp4⟩, rfl⟩
        · rintro I hI j B₂ B₃ h₃ h' m' ⟨vals₃, st', l3, P3, r3, r4, r5⟩ odd b1 b2
          refine ⟨vals₃, st', l3.at fun o e => b2 _ _ ?_ naL' e, P3.odd odd b1, r3, r4, r5⟩
          obtain ⟨n, e⟩ := l7
          exact ne_of_get (kp _ _ _ e) hI
        · rintro j v B₂ h₃ m₃ tk₃ hj ⟨tv, rfl⟩ ⟨vals₃, st', l3, P3, G3, ⟨tp3, hp3⟩, eq3⟩ kB₂ F₃ hh₃
          have ej : ((st2.li : Int) + (j : Int) * 1) = ((st2.li + j : Nat) : Int) := by (first | (simp; done) | lia)
          rw [ej] at F₃
          rw [drop_range' _ _ _ hj] at eq3
          generalize hjj : st2.li + j = jj at F₃ eq3
          have hjl : jj < segs.length := by (first | lia | omega)
          have X₃ : Fm w [a] B₂ L h₃ (upd "i" (.int jj tv) m₃) := ⟨X₆.W.keeps kB₂, F₃, hh₃, fun b hb => by rw [List.mem_singleton.mp hb]; exact Has.plain l3⟩
          have G4 : GN (upd "i" (.int jj tv) m₃) p sl a wd ht st' := G3.set (.inr (.inl rfl))
          have hlb₂ := hlb₃.at (kB₂ _)
          have hsb₂ := hsb₃.kept kB₂
          obtain ⟨ja, hja, Pj, hj0⟩ := hsb₂.sg hjl
          unfold LoopBody
          obtain ⟨g1, g2, g3, g4, u5, g5, u6, g6, u7, g7, u8, g8, u9, g9, u10, g10⟩ := G4.split
          repeat walk_at "sky_m0"
          refine item_at (i := jj) (hlb₂.at (X₃.keep _)).isList rfl hja (by (first | exact Nat.le_trans (by assumption) (by decide) | lia)) ?_ rfl
          refine m_seg_top X₃ Pj hj0 (R'.le (by decide) (by decide)) fun h₄ tk₄ t₄ X₄ k₄ => ?_
          try dsimp only at k₄ ⊢
          have l4 := l3.at (k₄ _)
          rw [List.foldl_cons] at eq3
          repeat walk_at "sky_m0"
          (try (with_reducible first | refine Next.next (by assumption) ?_ | refine Next.ret (by assumption) ?_ | refine Next.cont (by assumption) ?_ | refine Next.brk (by assumption) ?_ | refine IfK.go (by assumption) ?_ | refine AsK.go (by assumption) ?_))
          refine ite_d (fun c2 => ?_) (fun c2 => ?_)
          · have e2 : look segs jj st' = { st' with si := jj, sh := (sg segs jj).y } := if_pos c2
            rw [e2] at eq3
            repeat walk_at "sky_m0"
            (((try (with_reducible first | refine Next.next (by assumption) ?_ | refine Next.ret (by assumption) ?_ | refine Next.cont (by assumption) ?_ | refine Next.brk (by assumption) ?_ | refine IfK.go (by assumption) ?_ | refine AsK.go (by assumption) ?_)); (with_reducible show wpAny _ _ (storeName _ _ _) _ _ _); refine m_store (by assumption) (by assumption) (by exact rfl) ?_))
            intro h₅ tkσ X₅ l₅ _
            try dsimp only at l₅ ⊢
            have l5 := l₅ _ _ l4
            clear X₄
            repeat walk_at "sky_m0"
            refine item_at (i := jj) (hlb₂.at (X₅.keep _)).isList rfl hja (by (first | exact Nat.le_trans (by assumption) (by decide) | lia)) ?_ rfl
            refine m_seg_top X₅ Pj hj0 (R'.le (by decide) (by decide)) fun h₆ tk₆ t₆ X₆ k₆ => ?_
            try dsimp only at k₆ ⊢
            have l6 := l5.at (k₆ _)
            clear X₅
            (((try (with_reducible first | refine Next.next (by assumption) ?_ | refine Next.ret (by assumption) ?_ | refine Next.cont (by assumption) ?_ | refine Next.brk (by assumption) ?_ | refine IfK.go (by assumption) ?_ | refine AsK.go (by assumption) ?_)); (with_reducible show wpAny _ _ (storeName _ _ _) _ _ _); refine m_store (by assumption) (by assumption) (by exact rfl) ?_))
            intro h₇ tkσ X₇ l₇ _
            try dsimp only at l₇ ⊢
            repeat walk_at "sky_m0"
            exact ⟨B₂, _, _, _, rfl, Kept.refl _, X₇.F, X₇.hid, vals₃, _, l₇ _ _ l6, P3, G4.setSi.setSh, ⟨tp3, by ((repeat (first | assumption | exact if_pos rfl | refine (if_neg (by decide)).trans ?_)))⟩, eq3⟩
          · have e2 : look segs jj st' = st' := if_neg c2
            rw [e2] at eq3
            repeat walk_at "sky_m0"
            exact ⟨B₂, _, _, _, rfl, Kept.refl _, X₄.F, X₄.hid, vals₃, st', l4, P3, G4, ⟨tp3, by ((repeat (first | assumption | exact if_pos rfl | refine (if_neg (by decide)).trans ?_)))⟩, eq3⟩
        · rintro B₂ h₃ m₃ tk₃ ⟨vals₃, st', l3, P3, G3, ⟨tp3, hp3⟩, eq3⟩ kB₂ F₃ hh₃
          rw [List.drop_of_length_le (by rw [List.length_range']; exact Nat.le_refl _)] at eq3
          repeat walk_at "sky_m0"
          rw [← eq3]
          exact ⟨rfl, B₂, _, _, _, vals₃, tp3, rfl, ⟨X₆.W.keeps kB₂, F₃, hh₃, fun b hb => by rw [List.mem_singleton.mp hb]; exact Has.plain l3⟩, kB₂, l3, P3, G3, hp3⟩
        · passes_own
      · have e1 : step3 segs st2 = st2 := if_neg (by (first | lia | omega))
        rw [e1]
        repeat walk_at "sky_m0"
        exact ⟨rfl, B₃, _, _, _, vals₃, tp₃, rfl, X₃, Kept.refl _, l3, P3, G3, hp3⟩
    rintro s' ⟨B₄, h₄, m₄, tk₄, vals₄, tp₄, rfl, X₄, k₄, l4, P4, G4, hp4⟩
    have hli3 : (step3 segs st2).li < segs.length := by rw [step3_li]; exact hli2
    have hri3 : (step3 segs st2).ri < segs.length := by rw [step3_ri]; exact hri2
    rw [← eg] at G4 hli3 hri3
    rw [genPts_cons] at eq1
    generalize gstep segs wd pp st = st3 at G4 hli3 hri3 eq1
    replace kB₁ := kB₁.trans k₄
    have Pk₄ := PB'.kept kB₁
    obtain ⟨g1, g2, g3, g4, u5, g5, u6, g6, u7, g7, u8, g8, u9, g9, u10, g10⟩ := G4.split
    have k₁₄ := k₂.trans (k₃.trans k₄)
    repeat walk_at "sky_m0"
    refine pk_height X₄.W X₄.keep (Pk₄.kept X₄.keep) fun tH tk₅ => ?_
    try dsimp only
    repeat walk_at "sky_m0"
    (try (with_reducible first | refine Next.next (by assumption) ?_ | refine Next.ret (by assumption) ?_ | refine Next.cont (by assumption) ?_ | refine Next.brk (by assumption) ?_ | refine IfK.go (by assumption) ?_ | refine AsK.go (by assumption) ?_))
    refine ite_d (fun c1 => ?_) (fun c1 => ?_)
    · rw [if_pos c1] at eq1
      repeat walk_at "sky_m0"
      refine meth_append l4 ?_
      try dsimp only
      repeat walk_at "sky_m0"
      refine wpAny_Tuple ?_
      repeat walk_at "sky_m0"
      refine new_rect X₄.Wh (Int.le_of_lt hw) (Int.le_of_lt hh) (R'.le (by decide) (by decide)) fun r dx h₅ tk₅ k₅ nr ndx Rc => ?_
      try dsimp only at k₅ nr ndx ⊢
      have fr := fr0 _ _ _ kB₁ X₄ r nr
      have fdx := fr0 _ _ _ kB₁ X₄ dx ndx
      obtain ⟨B₅, X₅, kB₅, Hd⟩ := (X₄.step k₅).up
      have Rc₅ := Hd.rect Rc g4
      have P5 := P4.kept kB₅
      have l5 := l4.at (k₅ _)
      clear Hd X₄
      repeat walk_at "sky_m0"
      refine ⟨by show 3 ≤ sizeLine; rw [sizeLine_eq]; (first | exact Nat.le_add_left _ _ | lia), ?_⟩
      try dsimp only
      have kp := Kept.push h₅ { cls := .type "tuple", data := .seq #[.ref r, .int st3.li u7, .int st3.ri u8] }
      have tp : TupAt (h₅.push { cls := .type "tuple", data := .seq #[.ref r, .int st3.li u7, .int st3.ri u8] }) h₅.objs.size #[.ref r, .int st3.li u7, .int st3.ri u8] := ⟨_, Heap.get?_push_size _ rfl⟩
      have l6 := l5.at (kp _)
      have nsz : h₅.objs.size ∉ [a] := fun q => by
        obtain ⟨n, e⟩ := l5
        have := Heap.lt_size e
        rw [← List.mem_singleton.mp q] at this
        exact Nat.lt_irrefl _ this
      obtain ⟨B₆, X₆, kB₆, Hd⟩ := (X₅.step kp).up
      have tp₆ := Hd.tup tp nsz
      have P6 := (P5.kept kB₆).push (pt := ⟨pp, st3.sh, wd, ht, st3.li, st3.ri⟩) tp₆ (Rc₅.kept kB₆) fr fdx
      clear Hd X₅
      repeat walk_at "sky_m0"
      refine app_plain l6 (by have := P4.1; (first | lia | omega)) fun h₇ l₇ b₇ => ?_
      try dsimp only
      have X₇ := X₆.but (.head _) l6 b₇ l₇
      repeat walk_at "sky_m0"
      refine ⟨B₆, _, _, _, rfl, k₁₄.trans (kB₅.trans kB₆), X₇.F, X₇.hid, _, _, st3, l₇, P6, ?_, ?_, G4, hli3, hri3⟩
      · rw [List.append_assoc]; exact eq1
      · rw [List.length_append]; show pts.length + 1 ≤ _; (first | exact Nat.lt_succ_of_le (by assumption) | lia)
    · rw [if_neg c1] at eq1
      repeat walk_at "sky_m0"
      exact ⟨B₄, _, _, _, rfl, k₁₄, X₄.F, X₄.hid, vals₄, pts, st3, l4, P4, eq1, by (first | exact Nat.le_succ_of_le (by assumption) | lia), G4, hli3, hri3⟩
  · rintro B₁ h₁ m₁ tk₁ ⟨vals, pts, st, l1, P1, eq1, z1, G1, hli, hri⟩ kB₁ F₁ hh₁
    have e0 : ns.drop vs.toArray.size = [] := List.drop_of_length_le (by rw [List.size_toArray, hns.length]; exact Nat.le_refl _)
    rw [e0] at eq1
    have eq2 : pts = genPts segs wd ht Hi ns ⟨0, 0, 0, f.y⟩ := by rw [← eq1]; exact (List.append_nil _).symm
    subst eq2
    have X : Fm w [a] B₁ L h₁ m₁ := ⟨X₁₂.W.keeps kB₁, F₁, hh₁, fun b hb => by rw [List.mem_singleton.mp hb]; exact Has.plain l1⟩
    obtain ⟨g1, g2, g3, g4, -⟩ := G1.split
    repeat walk_at "sky_m0"
    refine h h₁ _ gs a vals ns (fun b o n e => F₁.keep _ _ (kB₁ _ _ (kB' _ _ (back b o n e)))) ((TB.kept kB₁).kept F₁.keep) bare l1 (P1.kept F₁.keep) hperm hsrt fra
  · passes_own
end
noncomputable def wasteOf (segs : List Sg) (x w y : Int) (li ri : Nat) : Int :=
  ((segs.drop li).take (ri + 1 - li)).foldl (fun a g => a + (min (x + w) (g.x + g.l) - max x g.x) * (y - g.y)) 0
theorem pick_mid (items : Array Value) {a b : Nat} (h1 : a ≤ b) (h2 : b ≤ items.size) : slicePick items (some (a : Int)) (some (b : Int)) none = ((items.toList.drop a).take (b - a)).toArray := by
  refine kmk_pick_nat items ?_
  unfold sliceBounds
  have n1 : ¬ ((a : Int) < 0) := by (first | (simp; done) | lia)
  have n2 : ¬ ((b : Int) < 0) := by (first | (simp; done) | lia)
  simp only [Option.getD_none, if_neg n1, if_neg n2, show (1 : Int) > 0 by decide, if_true, Prod.mk.injEq]
  refine ⟨by (first | lia | omega), by (first | lia | omega), trivial⟩
theorem Segs.slice {h : Heap} {items : Array Value} {segs : List Sg} (S : Segs h items segs) (a n : Nat) : Segs h ((items.toList.drop a).take n).toArray ((segs.drop a).take n) := by
  refine ⟨by simp [S.1], fun i sg e => ?_⟩
  rw [List.getElem?_take] at e
  split at e
  · rename_i hi
    rw [List.getElem?_drop] at e
    obtain ⟨c, d, r⟩ := S.2 _ _ e
    refine ⟨c, ?_, r⟩
    rw [List.getElem?_toArray, List.getElem?_take, if_pos hi, List.getElem?_drop, Array.getElem?_toList]
    exact d
  · cases e
section
variable {prog : Program} {w : World} {A : Around} {E : Value → Shared → Prop} {s : Shared} {B : Heap}
theorem slice_tail {value slice : PySem.Expr} {l : Addr} {items : Array Value} {vl vu vk : Value} {lo hi st : Option Int} {ops : List Value} {Q : Value → Shared → Prop} (hl : s.heap.IsList l items) (pl : IsPart vl lo) (pu : IsPart vu hi) (pk : IsPart vk st) (h0 : st ≠ some 0) (hz : items.size ≤ 1000)
    (h : ∀ a h', Kept s.heap h' → s.heap.get? a = none → h'.PlainList a (slicePick items lo hi st) → Q (.ref a) { s with heap := h' })
    (hs : subscripted slice false (.ref l) (.ref s.heap.objs.size) = operate ops (getItem (.ref l) (.ref s.heap.objs.size))) :
    wpAny (model prog w) A (subscriptTail value slice (.ref l) (.ref s.heap.objs.size)) Q E { s with heap := s.heap.push { cls := .type "slice", data := .fields #[vl, vu, vk] } } := by
  refine tail_any (Heap.IsList.typeIs (s := { s with heap := s.heap.push { cls := .type "slice", data := .fields #[vl, vu, vk] } }) (hl.push _)) slot_list_getitem.lookup
    (wpAny_getItem_list_slice (hl.push _) (Heap.IsSliceOf.new ..) pl pu pk h0 ?_ (by rw [sizeLine_eq]; (first | exact Nat.le_trans (by assumption) (by decide) | lia))) hs
  refine h _ _ ((Kept.push _ _).trans (Kept.push _ _)) ?_ ⟨_, Heap.get?_push_size _ rfl⟩
  cases q : s.heap.get? (s.heap.push { cls := .type "slice", data := .fields #[vl, vu, vk] }).objs.size with
  | none => rfl
  | some o => exact absurd (Heap.lt_size q) (by rw [Heap.size_push]; exact Nat.not_lt.mpr (Nat.le_succ _))
theorem fit_bl {σh : Heap} {σg : Array GenState} {σd : Drawn} {σt : Nat} {σo : OsState} {r dx : Addr} {x y wd l : Int} {rid self vl vr : Value} {R : Result → Shared → Prop} (W : Wd w σh) (Rc : RectAt σh r dx x y wd l rid) (Ro : Rm A 4 30)
    (h : ∀ h' tk t, Kept σh h' → R (.ok (.ret (.int (y + l) t))) ⟨h', σg, σd, tk, σo⟩) : codeAny (model prog w) A (.call (.ref 725) ⟨[self, .ref r, vl, vr], []⟩) R ⟨σh, σg, σd, σt, σo⟩ := by
  have Ro : Rm A (3 + 1) (20 + 3) := Ro.le (by decide) (by decide)
  ((refine' code_fn ([("self", self), ("rect", .ref r), ("left_index", vl), ("right_index", vr)]) ?k0 ?kk ?k1 ?k2 ?k3 ?k4 ?k5 ?k6 ?k7 ?k8 ?k9 ?k10 ?k11 ?k12 ?_); (case k0 => assumption); (case kk => (first | assumption | exact Fz.keep (by assumption) | exact Kept.refl _)); (case k2 => k_is); (case k3 => k_is); (case k4 => rfl); (case k5 => exact binds_eq rfl); (case k6 => rfl); (case k7 => rfl); (case k8 => rfl); (case k9 => rfl); (case k10 => rfl); (case k11 => rfl); (case k12 => rfl); (case k1 => assumption); intro A' L env h₁ R' V F; (try dsimp only at V F); (try dsimp only))
  have X := Fm.of W F
  repeat walk_at "sky_m0"
  refine m_rect_top X Rc (R'.le (by decide) (by decide)) fun h₂ tk₂ t₂ X₂ k₂ => ?_
  repeat (with_reducible first | refine Next.next (by assumption) ?_ | refine Next.ret (by assumption) ?_ | refine Next.cont (by assumption) ?_ | refine Next.brk (by assumption) ?_ | refine IfK.go (by assumption) ?_ | refine AsK.go (by assumption) ?_)
  exact h _ _ _ X₂.keep
theorem fit_mwf {p dp C sl rl' r dx : Addr} {Wi Hi x y wd l : Int} {turn : Bool} {rid : Value} {items : Array Value} {segs : List Sg} {li ri : Nat} {tl tr : Tok} {R : Result → Shared → Prop} (W : Wd w s.heap) (P : Pk s.heap p dp C Wi Hi turn sl rl') (hl : s.heap.PlainList sl items) (hS : Segs s.heap items segs) (hz : items.size ≤ 10)
    (Rc : RectAt s.heap r dx x y wd l rid) (h1 : li ≤ ri + 1) (h2 : ri + 1 ≤ segs.length) (hb : ∀ g ∈ segs, -(2 ^ 40) < min (x + wd) (g.x + g.l) - max x g.x ∧ min (x + wd) (g.x + g.l) - max x g.x < 2 ^ 40) (Ro : Rm A 6 60)
    (h : ∀ h' tk t, Kept s.heap h' → R (.ok (.ret (.int (wasteOf segs x wd y li ri) t))) { s with heap := h', toks := tk }) : codeAny (model prog w) A (.call (.ref 680) ⟨[.ref p, .ref r, .int li tl, .int ri tr], []⟩) R s := by
  have Ro : Rm A (5 + 1) (50 + 3) := Ro.le (by decide) (by decide)
  ((refine' code_fn ([("self", .ref p), ("rect", .ref r), ("left_index", .int li tl), ("right_index", .int ri tr)]) ?k0 ?kk ?k1 ?k2 ?k3 ?k4 ?k5 ?k6 ?k7 ?k8 ?k9 ?k10 ?k11 ?k12 ?_); (case k0 => assumption); (case kk => (first | assumption | exact Fz.keep (by assumption) | exact Kept.refl _)); (case k2 => k_is); (case k3 => k_is); (case k4 => rfl); (case k5 => exact binds_eq rfl); (case k6 => rfl); (case k7 => rfl); (case k8 => rfl); (case k9 => rfl); (case k10 => rfl); (case k11 => rfl); (case k12 => rfl); (case k1 => assumption); intro A' L env h₁ R' V F; (try dsimp only at V F); (try dsimp only))
  have X := Fm.of W F
  clear F
  repeat walk_at "sky_m0"
  (((try (with_reducible first | refine Next.next (by assumption) ?_ | refine Next.ret (by assumption) ?_ | refine Next.cont (by assumption) ?_ | refine Next.brk (by assumption) ?_ | refine IfK.go (by assumption) ?_ | refine AsK.go (by assumption) ?_)); (with_reducible show wpAny _ _ (storeName _ _ _) _ _ _); refine m_store (by assumption) (by assumption) (by exact rfl) ?_))
  intro h₂ tkσ X₂ _ _
  try dsimp only
  clear X
  repeat walk_at "sky_m0"
  refine wpAny_For ?_ (by intro _; rfl)
  repeat walk_at "sky_m0"
  refine pk_skyline X₂.W X₂.keep (P.kept X₂.keep) fun tk => ?_
  try dsimp only
  repeat walk_at "sky_m0"
  refine wpAny_Slice ?_
  rw [evalPart_some]
  repeat walk_at "sky_m0"
  rw [evalPart_some]
  repeat walk_at "sky_m0"
  rw [evalPart_none]
  refine wpAny_pure ?_
  try dsimp only
  refine' slice_tail (s := ⟨h₂, s.gens, s.drawn, _, s.os⟩) (items := items) (hl.at (X₂.keep _)).isList (.int _ _) (.int _ _) .none (by simp) (by (first | exact Nat.le_trans (by assumption) (by decide) | lia)) ?_ ?hs
  case hs => rfl
  intro a h₃ k₃ na l₃
  try dsimp only
  have ep : slicePick items (some (li : Int)) (some ((ri : Int) + 1)) none = ((items.toList.drop li).take (ri + 1 - li)).toArray := pick_mid items (a := li) (b := ri + 1) h1 (by rw [hS.1]; exact h2)
  rw [ep] at l₃
  have X₃ := X₂.step k₃
  obtain ⟨B', X₄, kB', Hd⟩ := X₃.up
  have l₄ := Hd.list l₃ (by simp)
  have S₄ := (hS.kept kB').slice li (ri + 1 - li)
  have Rc₄ := Rc.kept kB'
  have hb' : ∀ (i : Nat) (g : Sg), ((segs.drop li).take (ri + 1 - li))[i]? = some g → -(2 ^ 40) < min (x + wd) (g.x + g.l) - max x g.x ∧ min (x + wd) (g.x + g.l) - max x g.x < 2 ^ 40 := fun i g e =>
    hb g (List.mem_of_mem_drop (List.mem_of_mem_take (List.mem_of_getElem? e)))
  unfold wasteOf at h
  generalize ((items.toList.drop li).take (ri + 1 - li)).toArray = its at l₄ S₄
  generalize (segs.drop li).take (ri + 1 - li) = sgs at S₄ hb' h
  clear Hd X₃ X₂ k₃ l₃ ep
  refine for_list V R'.2.2 rfl [] X₄.F X₄.hid (by simp) l₄.isList (fun i B₁ h' m' => ∃ t, m' "waste" = some (.int ((sgs.take i).foldl (fun a g => a + (min (x + wd) (g.x + g.l) - max x g.x) * (y - g.y)) 0) t) ∧ m' "rect" = some (.ref r) ∧ m' "self" = some (.ref p)) ?_ ?_ ?_ ?_ ?_
  · exact ⟨_, rfl, rfl, rfl⟩
  · rintro I hI i B₁ B₂ h₁ h' m' q odd b1 b2
    exact q
  · rintro i v B₁ h' m₁ tk₁ hv ⟨t, e1, e2, e3⟩ kB F₁ hh₁
    obtain ⟨g, ga, hg, rfl, Pg, hg0⟩ := S₄.at hv
    have et : (sgs.take (i + 1)).foldl (fun a g => a + (min (x + wd) (g.x + g.l) - max x g.x) * (y - g.y)) 0 = (sgs.take i).foldl (fun a g => a + (min (x + wd) (g.x + g.l) - max x g.x) * (y - g.y)) 0 + (min (x + wd) (g.x + g.l) - max x g.x) * (y - g.y) := by
      rw [List.take_add_one, hg]; simp
    rw [et]
    generalize (sgs.take i).foldl (fun a g => a + (min (x + wd) (g.x + g.l) - max x g.x) * (y - g.y)) 0 = acc at e1 ⊢
    have X : Fm w [] B₁ L h' (upd "seg" (.ref ga) m₁) := ⟨X₄.W.keeps kB, F₁, hh₁, fun _ h => nomatch h⟩
    have Pg := Pg.kept kB
    have Rc₅ := Rc₄.kept kB
    obtain ⟨hm1, hm2⟩ := hb' i g hg
    clear F₁ X₄
    unfold LoopBody
    repeat walk_at "sky_m0"
    refine wpAny_AugAssign_Name ?_
    refine m_load V X rfl (by (first | assumption | rfl | exact (if_neg (by decide)).trans (by assumption) | exact if_pos rfl)) ?_
    repeat walk_at "sky_m0"
    refine m_rect_right X Rc₅ (R'.le (by decide) (by decide)) fun h₃ tk₃ t₃ X₃ k₃ => ?_
    try dsimp only
    clear k₃
    repeat walk_at "sky_m0"
    refine m_seg_right X₃ Pg hg0 (R'.le (by decide) (by decide)) fun h₅ tk₅ t₅ X₅ k₅ => ?_
    try dsimp only
    clear k₅ X₃
    repeat walk_at "sky_m0"
    refine min_two_ints (by (first | assumption | exact Rm.le (by assumption) (by decide) (by decide) | exact (by assumption : Rm _ _ _).2.2)) fun h₆ tk₆ k₆ => ?_
    have X₆ := X₅.step k₆
    have em : (if g.x + g.l < x + wd then Value.int (g.x + g.l) t₅ else Value.int (x + wd) t₃) = .int (min (x + wd) (g.x + g.l)) (if g.x + g.l < x + wd then t₅ else t₃) := by
      split
      · rw [Int.min_eq_right (by (first | exact Int.le_of_lt (by assumption) | lia))]
      · rw [Int.min_eq_left (by (first | exact Int.not_lt.mp (by assumption) | lia))]
    rw [em]
    try dsimp only
    clear k₆ X₅ em
    repeat walk_at "sky_m0"
    refine m_rect_left X₆ Rc₅ (R'.le (by decide) (by decide)) fun h₇ tk₇ t₇ X₇ k₇ => ?_
    try dsimp only
    clear k₇ X₆
    repeat walk_at "sky_m0"
    refine m_seg_left X₇ Pg hg0 (R'.le (by decide) (by decide)) fun h₈ tk₈ t₈ X₈ k₈ => ?_
    try dsimp only
    clear k₈ X₇
    repeat walk_at "sky_m0"
    refine max_two_ints (by (first | assumption | exact Rm.le (by assumption) (by decide) (by decide) | exact (by assumption : Rm _ _ _).2.2)) fun h₉ tk₉ k₉ => ?_
    have X₉ := X₈.step k₉
    have em : (if g.x > x then Value.int g.x t₈ else Value.int x t₇) = .int (max x g.x) (if g.x > x then t₈ else t₇) := by
      split
      · rw [Int.max_eq_right (by (first | exact Int.le_of_lt (by assumption) | lia))]
      · rw [Int.max_eq_left (by (first | exact Int.not_lt.mp (by assumption) | lia))]
    rw [em]
    try dsimp only
    clear k₉ X₈ em
    repeat walk_at "sky_m0"
    refine m_rect_bottom X₉ Rc₅ (R'.le (by decide) (by decide)) fun ha tka ta Xa ka => ?_
    try dsimp only
    clear ka X₉
    repeat walk_at "sky_m0"
    refine m_seg_top Xa Pg hg0 (R'.le (by decide) (by decide)) fun hb tkb tb Xb kb => ?_
    try dsimp only
    clear kb Xa
    repeat walk_at "sky_m0"
    refine PyProof.Rows.mul_int ?_ (IntMulOk.of_left (intBits_le_64 (by (first | lia | omega)) (by (first | exact Int.lt_of_lt_of_le (by assumption) (by decide) | lia))))
    try dsimp only
    refine iadd_int ?_
    try dsimp only
    (((try (with_reducible first | refine Next.next (by assumption) ?_ | refine Next.ret (by assumption) ?_ | refine Next.cont (by assumption) ?_ | refine Next.brk (by assumption) ?_ | refine IfK.go (by assumption) ?_ | refine AsK.go (by assumption) ?_)); (with_reducible show wpAny _ _ (storeName _ _ _) _ _ _); refine m_store (by assumption) (by assumption) (by exact rfl) ?_))
    intro hc tkσ Xc _ _
    repeat walk_at "sky_m0"
    exact ⟨B₁, _, _, _, rfl, Kept.refl _, Xc.F, Xc.hid, _, if_pos rfl, by ((repeat (first | assumption | exact if_pos rfl | refine (if_neg (by decide)).trans ?_))), by ((repeat (first | assumption | exact if_pos rfl | refine (if_neg (by decide)).trans ?_)))⟩
  · rintro B₁ h' m₁ tk₁ ⟨t, e1, e2, e3⟩ kB F₁ hh₁
    have X : Fm w [] B₁ L h' m₁ := ⟨X₄.W.keeps kB, F₁, hh₁, fun _ h => nomatch h⟩
    have ex : sgs.take its.size = sgs := by rw [S₄.1, List.take_length]
    rw [ex] at e1
    try dsimp only
    repeat walk_at "sky_m0"
    exact h _ _ _ (fun b o e => F₁.keep _ _ (kB _ _ (kB' _ _ e)))
  · passes_own
theorem fit_mwfl {p dp C sl rl' r dx : Addr} {Wi Hi x y wd l : Int} {turn : Bool} {rid : Value} {items : Array Value} {segs : List Sg} {li ri : Nat} {tl tr : Tok} {R : Result → Shared → Prop} (W : Wd w s.heap) (P : Pk s.heap p dp C Wi Hi turn sl rl') (hl : s.heap.PlainList sl items) (hS : Segs s.heap items segs) (hz : items.size ≤ 10)
    (Rc : RectAt s.heap r dx x y wd l rid) (h1 : li ≤ ri + 1) (h2 : ri + 1 ≤ segs.length) (hb : ∀ g ∈ segs, -(2 ^ 40) < min (x + wd) (g.x + g.l) - max x g.x ∧ min (x + wd) (g.x + g.l) - max x g.x < 2 ^ 40) (hm1 : IntMulOk (wasteOf segs x wd y li ri) Wi) (hm2 : IntMulOk (wasteOf segs x wd y li ri * Wi) Hi) (Ro : Rm A 6 60)
    (h : ∀ h' tk t, Kept s.heap h' → R (.ok (.ret (.int (wasteOf segs x wd y li ri * Wi * Hi + (y + l)) t))) { s with heap := h', toks := tk }) : codeAny (model prog w) A (.call (.ref 706) ⟨[.ref p, .ref r, .int li tl, .int ri tr], []⟩) R s := by
  have Ro : Rm A (5 + 1) (50 + 3) := Ro.le (by decide) (by decide)
  ((refine' code_fn ([("self", .ref p), ("rect", .ref r), ("left_index", .int li tl), ("right_index", .int ri tr)]) ?k0 ?kk ?k1 ?k2 ?k3 ?k4 ?k5 ?k6 ?k7 ?k8 ?k9 ?k10 ?k11 ?k12 ?_); (case k0 => assumption); (case kk => (first | assumption | exact Fz.keep (by assumption) | exact Kept.refl _)); (case k2 => k_is); (case k3 => k_is); (case k4 => rfl); (case k5 => exact binds_eq rfl); (case k6 => rfl); (case k7 => rfl); (case k8 => rfl); (case k9 => rfl); (case k10 => rfl); (case k11 => rfl); (case k12 => rfl); (case k1 => assumption); intro A' L env h₁ R' V F; (try dsimp only at V F); (try dsimp only))
  have X := Fm.of W F
  clear F
  repeat walk_at "sky_m0"
  (((try (with_reducible first | refine Next.next (by assumption) ?_ | refine Next.ret (by assumption) ?_ | refine Next.cont (by assumption) ?_ | refine Next.brk (by assumption) ?_ | refine IfK.go (by assumption) ?_ | refine AsK.go (by assumption) ?_)); (with_reducible show wpAny _ _ (storeName _ _ _) _ _ _); refine m_store (by assumption) (by assumption) (by exact rfl) ?_))
  intro h₂ tkσ X₂ _ _
  try dsimp only
  clear X
  repeat walk_at "sky_m0"
  refine wpAny_For ?_ (by intro _; rfl)
  repeat walk_at "sky_m0"
  refine pk_skyline X₂.W X₂.keep (P.kept X₂.keep) fun tk => ?_
  try dsimp only
  repeat walk_at "sky_m0"
  refine wpAny_Slice ?_
  rw [evalPart_some]
  repeat walk_at "sky_m0"
  rw [evalPart_some]
  repeat walk_at "sky_m0"
  rw [evalPart_none]
  refine wpAny_pure ?_
  try dsimp only
  refine' slice_tail (s := ⟨h₂, s.gens, s.drawn, _, s.os⟩) (items := items) (hl.at (X₂.keep _)).isList (.int _ _) (.int _ _) .none (by simp) (by (first | exact Nat.le_trans (by assumption) (by decide) | lia)) ?_ ?hs
  case hs => rfl
  intro a h₃ k₃ na l₃
  try dsimp only
  have ep : slicePick items (some (li : Int)) (some ((ri : Int) + 1)) none = ((items.toList.drop li).take (ri + 1 - li)).toArray := pick_mid items (a := li) (b := ri + 1) h1 (by rw [hS.1]; exact h2)
  rw [ep] at l₃
  have X₃ := X₂.step k₃
  obtain ⟨B', X₄, kB', Hd⟩ := X₃.up
  have l₄ := Hd.list l₃ (by simp)
  have S₄ := (hS.kept kB').slice li (ri + 1 - li)
  have Rc₄ := Rc.kept kB'
  have hb' : ∀ (i : Nat) (g : Sg), ((segs.drop li).take (ri + 1 - li))[i]? = some g → -(2 ^ 40) < min (x + wd) (g.x + g.l) - max x g.x ∧ min (x + wd) (g.x + g.l) - max x g.x < 2 ^ 40 := fun i g e =>
    hb g (List.mem_of_mem_drop (List.mem_of_mem_take (List.mem_of_getElem? e)))
  unfold wasteOf at h hm1 hm2
  generalize ((items.toList.drop li).take (ri + 1 - li)).toArray = its at l₄ S₄
  generalize (segs.drop li).take (ri + 1 - li) = sgs at S₄ hb' h hm1 hm2
  clear Hd X₃ X₂ k₃ l₃ ep
  refine for_list V R'.2.2 rfl [] X₄.F X₄.hid (by simp) l₄.isList (fun i B₁ h' m' => ∃ t, m' "waste" = some (.int ((sgs.take i).foldl (fun a g => a + (min (x + wd) (g.x + g.l) - max x g.x) * (y - g.y)) 0) t) ∧ m' "rect" = some (.ref r) ∧ m' "self" = some (.ref p)) ?_ ?_ ?_ ?_ ?_
  · exact ⟨_, rfl, rfl, rfl⟩
  · rintro I hI i B₁ B₂ h₁ h' m' q odd b1 b2
    exact q
  · rintro i v B₁ h' m₁ tk₁ hv ⟨t, e1, e2, e3⟩ kB F₁ hh₁
    obtain ⟨g, ga, hg, rfl, Pg, hg0⟩ := S₄.at hv
    have et : (sgs.take (i + 1)).foldl (fun a g => a + (min (x + wd) (g.x + g.l) - max x g.x) * (y - g.y)) 0 = (sgs.take i).foldl (fun a g => a + (min (x + wd) (g.x + g.l) - max x g.x) * (y - g.y)) 0 + (min (x + wd) (g.x + g.l) - max x g.x) * (y - g.y) := by
      rw [List.take_add_one, hg]; simp
    rw [et]
    generalize (sgs.take i).foldl (fun a g => a + (min (x + wd) (g.x + g.l) - max x g.x) * (y - g.y)) 0 = acc at e1 ⊢
    have X : Fm w [] B₁ L h' (upd "seg" (.ref ga) m₁) := ⟨X₄.W.keeps kB, F₁, hh₁, fun _ h => nomatch h⟩
    have Pg := Pg.kept kB
    have Rc₅ := Rc₄.kept kB
    obtain ⟨hm1, hm2⟩ := hb' i g hg
    clear F₁ X₄
    unfold LoopBody
    repeat walk_at "sky_m0"
    refine wpAny_AugAssign_Name ?_
    refine m_load V X rfl (by (first | assumption | rfl | exact (if_neg (by decide)).trans (by assumption) | exact if_pos rfl)) ?_
    repeat walk_at "sky_m0"
    refine m_rect_right X Rc₅ (R'.le (by decide) (by decide)) fun h₃ tk₃ t₃ X₃ k₃ => ?_
    try dsimp only
    clear k₃
    repeat walk_at "sky_m0"
    refine m_seg_right X₃ Pg hg0 (R'.le (by decide) (by decide)) fun h₅ tk₅ t₅ X₅ k₅ => ?_
    try dsimp only
    clear k₅ X₃
    repeat walk_at "sky_m0"
    refine min_two_ints (by (first | assumption | exact Rm.le (by assumption) (by decide) (by decide) | exact (by assumption : Rm _ _ _).2.2)) fun h₆ tk₆ k₆ => ?_
    have X₆ := X₅.step k₆
    have em : (if g.x + g.l < x + wd then Value.int (g.x + g.l) t₅ else Value.int (x + wd) t₃) = .int (min (x + wd) (g.x + g.l)) (if g.x + g.l < x + wd then t₅ else t₃) := by
      split
      · rw [Int.min_eq_right (by (first | exact Int.le_of_lt (by assumption) | lia))]
      · rw [Int.min_eq_left (by (first | exact Int.not_lt.mp (by assumption) | lia))]
    rw [em]
    try dsimp only
    clear k₆ X₅ em
    repeat walk_at "sky_m0"
    refine m_rect_left X₆ Rc₅ (R'.le (by decide) (by decide)) fun h₇ tk₇ t₇ X₇ k₇ => ?_
    try dsimp only
    clear k₇ X₆
    repeat walk_at "sky_m0"
    refine m_seg_left X₇ Pg hg0 (R'.le (by decide) (by decide)) fun h₈ tk₈ t₈ X₈ k₈ => ?_
    try dsimp only
    clear k₈ X₇
    repeat walk_at "sky_m0"
    refine max_two_ints (by (first | assumption | exact Rm.le (by assumption) (by decide) (by decide) | exact (by assumption : Rm _ _ _).2.2)) fun h₉ tk₉ k₉ => ?_
    have X₉ := X₈.step k₉
    have em : (if g.x > x then Value.int g.x t₈ else Value.int x t₇) = .int (max x g.x) (if g.x > x then t₈ else t₇) := by
      split
      · rw [Int.max_eq_right (by (first | exact Int.le_of_lt (by assumption) | lia))]
      · rw [Int.max_eq_left (by (first | exact Int.not_lt.mp (by assumption) | lia))]
    rw [em]
    try dsimp only
    clear k₉ X₈ em
    repeat walk_at "sky_m0"
    refine m_rect_bottom X₉ Rc₅ (R'.le (by decide) (by decide)) fun ha tka ta Xa ka => ?_
    try dsimp only
    clear ka X₉
    repeat walk_at "sky_m0"
    refine m_seg_top Xa Pg hg0 (R'.le (by decide) (by decide)) fun hb tkb tb Xb kb => ?_
    try dsimp only
    clear kb Xa
    repeat walk_at "sky_m0"
    refine PyProof.Rows.mul_int ?_ (IntMulOk.of_left (intBits_le_64 (by (first | lia | omega)) (by (first | exact Int.lt_of_lt_of_le (by assumption) (by decide) | lia))))
    try dsimp only
    refine iadd_int ?_
    try dsimp only
    (((try (with_reducible first | refine Next.next (by assumption) ?_ | refine Next.ret (by assumption) ?_ | refine Next.cont (by assumption) ?_ | refine Next.brk (by assumption) ?_ | refine IfK.go (by assumption) ?_ | refine AsK.go (by assumption) ?_)); (with_reducible show wpAny _ _ (storeName _ _ _) _ _ _); refine m_store (by assumption) (by assumption) (by exact rfl) ?_))
    intro hc tkσ Xc _ _
    repeat walk_at "sky_m0"
    exact ⟨B₁, _, _, _, rfl, Kept.refl _, Xc.F, Xc.hid, _, if_pos rfl, by ((repeat (first | assumption | exact if_pos rfl | refine (if_neg (by decide)).trans ?_))), by ((repeat (first | assumption | exact if_pos rfl | refine (if_neg (by decide)).trans ?_)))⟩
  · rintro B₁ h' m₁ tk₁ ⟨t, e1, e2, e3⟩ kB F₁ hh₁
    have X : Fm w [] B₁ L h' m₁ := ⟨X₄.W.keeps kB, F₁, hh₁, fun _ h => nomatch h⟩
    have ex : sgs.take its.size = sgs := by rw [S₄.1, List.take_length]
    rw [ex] at e1
    try dsimp only
    have Pk₁ := (P.kept kB').kept kB
    have Rc₁ := Rc₄.kept kB
    repeat walk_at "sky_m0"
    refine pk_width X.W X.keep (Pk₁.kept X.keep) fun tW tk₂ => ?_
    try dsimp only
    refine PyProof.Rows.mul_int ?_ hm1
    try dsimp only
    repeat walk_at "sky_m0"
    refine pk_height X.W X.keep (Pk₁.kept X.keep) fun tH tk₃ => ?_
    try dsimp only
    refine PyProof.Rows.mul_int ?_ hm2
    try dsimp only
    repeat walk_at "sky_m0"
    refine m_rect_top X Rc₁ (R'.le (by decide) (by decide)) fun hd' tkd td Xd kd => ?_
    try dsimp only
    repeat walk_at "sky_m0"
    exact h _ _ _ (fun b o e => Xd.keep _ _ (kB _ _ (kB' _ _ e)))
  · passes_own
end
noncomputable def NotTup (h : Heap) (b : Addr) : Prop := ∀ o, h.get? b = some o → ∀ xs n, o ≠ { cls := .type "tuple", data := .seq xs n }
theorem NotTup.ns {h : Heap} {b : Addr} {m : Str → Option Value} (N : h.Ns b m) : NotTup h b := fun o e xs n q => by
  obtain ⟨o', es, ep, ho, r, -⟩ := N
  rw [e] at ho; cases ho; rw [q] at r; cases r
/- as genProto, for a generator without tests; what is told of a yielded value may speak of the heap -/
noncomputable def protoH (C : Addr) (fp wr : List Addr) (n₀ : Nat) (F : Nat → Value → Heap → Prop) : Protocol := fun m s₀ v s kap =>
  (F (n₀ - 1 - m) v s.heap ∧ ∀ b, b = C ∨ b ∈ wr → NotTup s.heap b) ∧ GenSince C wr s₀ s ∧ ∀ s'' : Shared, (∀ b ∈ C :: fp, ∀ o, s.heap.get? b = some o → s''.heap.get? b = some o) → kap (.send .none) s''
section
variable {prog : Program} {w : World} {A : Around}
theorem seg_loopH {elt iter : PySem.Expr} {x : Str} {px : Pos} {scope : Scope} {pos : Pos} {I : Addr} {fp wr : List Addr} {n₀ : Nat} {P : Nat → Value → Prop} {St₀ : Nat → Heap → Prop} {cenv : Env}
    (hh : A.handled = none) (W₀ : ∀ A' : Around, A'.handled = none → Walks prog w A' I fp wr n₀ P St₀) (F : Nat → Value → Heap → Prop) (href : Heap)
    (hx : cenv.kindOf x = some .local) (hp : (cenv.scope.kind == .class || (cenv.scope.kind == .module && cenv.locals != cenv.globals)) = false) (hco : cenv.scope.isCoroutine = false) (hCf : cenv.locals ∉ fp) (hN : ∀ i h, St₀ i h → ∀ b ∈ wr, NotTup h b)
    (hq : ∀ (A' : Around) E' i v (s₂ : Shared) m₂, A'.handled = none → A'.depth ≤ A.depth + 1 → A'.units ≤ A.units + 3 → P i v → s₂.heap.Ns cenv.locals m₂ → m₂ x = some v → (∀ b ∈ fp, b ∉ wr → ∀ o, href.get? b = some o → s₂.heap.get? b = some o) →
      wpAny (model prog w) A' (eval elt cenv) (fun y s₃ => F i y s₃.heap ∧ Keeps s₂ s₃) E' s₂) :
    ∀ (k i : Nat) (s₀ s : Shared) (m : Str → Option Value), n₀ - i = k → i ≤ n₀ → St₀ i s.heap → s.heap.Ns cenv.locals m → GenSince cenv.locals wr s₀ s → (∀ b ∈ fp, b ∉ wr → ∀ o, href.get? b = some o → s.heap.get? b = some o) →
      Seg (model prog w) A (fun n s₀ r s₁ => r = .ok .next ∧ (n = 0 ∧ GenSince cenv.locals wr s₀ s₁)) (protoH cenv.locals fp wr n₀ F) k s₀
        (.compLoop (.GeneratorExp elt [⟨.Name x px, iter, [], 0⟩] scope pos) 0 (.ref I) .none cenv) ((model prog w).den (.compLoop (.GeneratorExp elt [⟨.Name x px, iter, [], 0⟩] scope pos) 0 (.ref I) .none cenv)) [] s := by
  have hh' : (A.over (.compLoop (.GeneratorExp elt [⟨.Name x px, iter, [], 0⟩] scope pos) 0 (.ref I) .none cenv) []).handled = none := hh
  have hd' : (A.over (.compLoop (.GeneratorExp elt [⟨.Name x px, iter, [], 0⟩] scope pos) 0 (.ref I) .none cenv) []).depth ≤ A.depth + 1 := Nat.le_of_eq rfl
  have hu' : (A.over (.compLoop (.GeneratorExp elt [⟨.Name x px, iter, [], 0⟩] scope pos) 0 (.ref I) .none cenv) []).units ≤ A.units + 3 := Nat.le_of_eq rfl
  have hCw : cenv.locals ∉ wr := fun h => hCf ((W₀ A hh).sub _ h)
  intro k
  induction k with
  | zero =>
    intro i s₀ s m hk hi hst hn hsince hkp
    obtain rfl : i = n₀ := by (first | grind | lia)
    show Seg _ A _ _ _ s₀ _ ((compTurn (.GeneratorExp elt [⟨.Name x px, iter, [], 0⟩] scope pos) 0 (.ref I) .none cenv).onRaise (leaving cenv)) [] s
    rw [compTurn_gen, Sem.onRaise_eq_wrap]
    refine seg_bind_wrap (wpAny_standAt (seg_bind_wrap ((W₀ _ hh').done s _ _ hst fun h' tk hk' => ?_)))
    exact seg_end (.ok .next) ⟨rfl, rfl, hsince.step fun b o _ hw e => hk' b o hw e⟩
  | succ k ih =>
    intro i s₀ s m hk hi hst hn hsince hkp
    have hlt : i < n₀ := by (first | exact Nat.lt_of_sub_eq_succ (by assumption) | lia)
    show Seg _ A _ _ _ s₀ _ ((compTurn (.GeneratorExp elt [⟨.Name x px, iter, [], 0⟩] scope pos) 0 (.ref I) .none cenv).onRaise (leaving cenv)) [] s
    rw [compTurn_gen, Sem.onRaise_eq_wrap]
    refine seg_bind_wrap (wpAny_standAt (seg_bind_wrap ((W₀ _ hh').item i s _ _ hlt hst fun v h₁ tk₁ hPv hst₁ hk₁ => ?_)))
    refine seg_bind_wrap (wpAny_of_eq (rfl : letOwnedTupleGo (.Name x px) (.ref I) v = pure ()) ?_)
    refine seg_bind_wrap (wpAny_assign_Name (wpAny_storeName_local hx (hn.at' fun o e => hk₁ _ o hCw e) (fun h₂ hn₂ hs₂ => ?_) hp))
    have up : ∀ b o, b ≠ cenv.locals → b ∉ wr → s.heap.get? b = some o → h₂.get? b = some o := fun b o c1 c2 e => hs₂.extBut b o c1 (hk₁ b o c2 e)
    have hst₂ : St₀ (i + 1) h₂ := (W₀ A hh).frame _ _ _ hst₁ fun b hb o e => hs₂.extBut b o (fun q => hCf (q ▸ hb)) e
    have hkp₂ : ∀ b ∈ fp, b ∉ wr → ∀ o, href.get? b = some o → h₂.get? b = some o := fun b hb c o e => up b o (fun q => hCf (q ▸ hb)) c (hkp b hb c o e)
    have hy : ∀ v, yieldOut cenv v = yieldValue v := fun v => by simp only [yieldOut, hco, Bool.false_eq_true, if_false]
    simp only [List.forIn_nil, pure_bind, if_true, hy]
    rw [Sem.bind_eq_wrap', Sem.bind_eq_wrap', Sem.wrap_wrap, Sem.wrap_wrap]
    refine seg_wrap (wpAny_mono (hq _ _ i v _ _ hh' hd' hu' hPv hn₂ (by simp) hkp₂) (fun y s₄ h₄ => ?_) fun _ _ e => e)
    obtain ⟨hF, h₄, tk₄, rfl, hk₄⟩ := h₄
    have ei : n₀ - 1 - k = i := by (first | exact nb1 (by assumption) | lia)
    refine seg_at (seg_yield rfl rfl rfl ⟨⟨by show F (n₀ - 1 - k) y _; rw [ei]; exact hF, fun b hb => by
      rcases hb with rfl | hb
      · exact NotTup.ns (hn₂.keeps hk₄)
      · exact hN (i + 1) _ ((W₀ A hh).frame _ _ _ hst₂ fun b _ o e => hk₄ b o e) b hb⟩, hsince.step fun b o c1 c2 e => hk₄ b o (up b o c1 c2 e), fun s'' hal => ?_⟩)
    refine seg_again rfl (ih (i + 1) s'' s'' _ (by (first | exact nb2 (by assumption) | lia)) hlt ((W₀ A hh).frame _ _ _ hst₂ fun b hb o e => hal b (List.mem_cons_of_mem _ hb) o (hk₄ b o e))
      ((hn₂.keeps hk₄).at' fun o e => hal _ (List.mem_cons_self ..) o e) (GenSince.refl _ _ _) fun b hb c o e => hal b (List.mem_cons_of_mem _ hb) o (hk₄ b o (hkp₂ b hb c o e)))
theorem seg_startH {elt iter : PySem.Expr} {x : Str} {px : Pos} {scope : Scope} {pos : Pos} {I : Addr} {fp wr : List Addr} {n₀ : Nat} {P : Nat → Value → Prop} {St₀ : Nat → Heap → Prop} {cenv : Env}
    (hh : A.handled = none) (W₀ : ∀ A' : Around, A'.handled = none → Walks prog w A' I fp wr n₀ P St₀) (F : Nat → Value → Heap → Prop) (href : Heap)
    (hx : cenv.kindOf x = some .local) (hp : (cenv.scope.kind == .class || (cenv.scope.kind == .module && cenv.locals != cenv.globals)) = false) (hco : cenv.scope.isCoroutine = false) (hCf : cenv.locals ∉ fp) (hN : ∀ i h, St₀ i h → ∀ b ∈ wr, NotTup h b)
    (hq : ∀ (A' : Around) E' i v (s₂ : Shared) m₂, A'.handled = none → A'.depth ≤ A.depth + 1 → A'.units ≤ A.units + 3 → P i v → s₂.heap.Ns cenv.locals m₂ → m₂ x = some v → (∀ b ∈ fp, b ∉ wr → ∀ o, href.get? b = some o → s₂.heap.get? b = some o) →
      wpAny (model prog w) A' (eval elt cenv) (fun y s₃ => F i y s₃.heap ∧ Keeps s₂ s₃) E' s₂)
    (s : Shared) (m : Str → Option Value) (hst : St₀ 0 s.heap) (hn : s.heap.Ns cenv.locals m) (hkp : ∀ b ∈ fp, b ∉ wr → ∀ o, href.get? b = some o → s.heap.get? b = some o) :
    Seg (model prog w) A (fun n s₀ r s₁ => r = .ok .next ∧ (n = 0 ∧ GenSince cenv.locals wr s₀ s₁)) (protoH cenv.locals fp wr n₀ F) n₀ s
      (.compStart (.GeneratorExp elt [⟨.Name x px, iter, [], 0⟩] scope pos) 0 (.ref I) .none cenv) ((model prog w).den (.compStart (.GeneratorExp elt [⟨.Name x px, iter, [], 0⟩] scope pos) 0 (.ref I) .none cenv)) [] s := by
  have hh' : (A.over (.compStart (.GeneratorExp elt [⟨.Name x px, iter, [], 0⟩] scope pos) 0 (.ref I) .none cenv) []).handled = none := hh
  have loop := seg_loopH (iter := iter) (px := px) (scope := scope) (pos := pos) hh W₀ F href hx hp hco hCf hN hq n₀ 0 s s m (Nat.sub_zero _) (Nat.zero_le _) hst hn (GenSince.refl _ _ _) hkp
  show Seg _ A _ _ _ s _ ((compStart (.GeneratorExp elt [⟨.Name x px, iter, [], 0⟩] scope pos) 0 (.ref I) .none cenv).onRaise (leaving cenv)) [] s
  unfold compStart
  rw [Sem.onRaise_eq_wrap]
  show Seg _ A _ _ _ s _ ((ask >>= _).wrap _ _ _ _) [] s
  refine seg_bind_wrap (wpAny_askSetting ?_)
  split
  · exact seg_again rfl loop
  · first
      | exact seg_bind_wrap (wpAny_rule (seg_bind_wrap (wpAny_standAt (seg_bind_wrap ((W₀ _ hh').self 0 s _ _ hst (seg_again rfl loop))))))
      | (refine seg_bind_wrap (wpAny_rule ?_); show Seg _ A _ _ _ s _ ((standAt iter.pos >>= _).wrap _ _ _ _) [] s; exact seg_bind_wrap (wpAny_standAt (seg_bind_wrap ((W₀ _ hh').self 0 s _ _ hst (seg_again rfl loop)))))
/- the generator at a, j of its n₀ turns done -/
noncomputable def GenH (prog : Program) (w : World) (A : Around) (a g : Nat) (C : Addr) (fp wr : List Addr) (n₀ : Nat) (F : Nat → Value → Heap → Prop) (j : Nat) (s : Shared) : Prop :=
  s.heap.IsGen a g ∧ s.heap.NoLimit ∧ ∃ gs, s.gens[g]? = some gs ∧ ∀ s'' : Shared, (∀ b ∈ C :: fp, ∀ o, s.heap.get? b = some o → s''.heap.get? b = some o) →
    gs.Goes (model prog w) A.in1 (fun n s₀ r s₁ => r = .ok .next ∧ (n = 0 ∧ GenSince C wr s₀ s₁)) (protoH C fp wr n₀ F) (n₀ - j) (.send .none) s''
theorem GenH.keeps {a g : Nat} {C : Addr} {fp wr : List Addr} {n₀ : Nat} {F : Nat → Value → Heap → Prop} {j : Nat} {s : Shared} {h' : Heap} {gs' : Array GenState} {dr : Drawn} {tk : Nat} {os : OsState} (G : GenH prog w A a g C fp wr n₀ F j s)
    (hk : ∀ b ∈ a :: C :: fp, ∀ o, s.heap.get? b = some o → h'.get? b = some o) (hcs : cStatics ∈ fp) (hg : gs'[g]? = s.gens[g]?) : GenH prog w A a g C fp wr n₀ F j ⟨h', gs', dr, tk, os⟩ := by
  obtain ⟨⟨o, nm, qn, ho, r⟩, ⟨mc, hns, hnn⟩, gs, hgs, hgo⟩ := G
  exact ⟨⟨o, nm, qn, hk _ (.head _) o ho, r⟩, ⟨mc, hns.at' fun o e => hk cStatics (.tail _ (.tail _ hcs)) o e, hnn⟩, gs, hg.trans hgs, fun s'' hal => hgo s'' fun b hb o e => hal b hb o (hk b (.tail _ hb) o e)⟩
theorem nextH_item {a g : Nat} {C : Addr} {fp wr : List Addr} {n₀ : Nat} {F : Nat → Value → Heap → Prop} {j : Nat} {s : Shared} {Q : Option Value → Shared → Prop} {E : Value → Shared → Prop} (G : GenH prog w A a g C fp wr n₀ F j s) (hh : A.handled = none) (hroom : A.depth < recursionLimit)
    (haC : a ≠ C) (haw : a ∉ wr) (hcC : cStatics ≠ C) (hcw : cStatics ∉ wr) (hj : j < n₀)
    (hQ : ∀ v h' gs tk, F j v h' → (∀ b, b = C ∨ b ∈ wr → NotTup h' b) → GenH prog w A a g C fp wr n₀ F (j + 1) { s with heap := h', gens := gs, toks := tk } → (∀ b o, b ≠ C → b ∉ wr → s.heap.get? b = some o → h'.get? b = some o) → GenOnlyQ g s.gens gs → Q (some v) { s with heap := h', gens := gs, toks := tk }) :
    wpAny (model prog w) A (pyNext (.ref a)) Q E s := by
  obtain ⟨hg, hl, gs, hgs, hgo⟩ := G
  obtain ⟨m, hm⟩ : ∃ m, n₀ - j = m + 1 := ⟨n₀ - j - 1, by (first | exact nb6 (by assumption) | lia)⟩
  rw [hm] at hgo
  refine wpAny_pyNext_genexpQ (P := fun n s₀ s₁ => n = 0 ∧ GenSince C wr s₀ s₁) hh hl hroom hg hgs (hgo _ fun _ _ _ e => e) (fun v s₁ gs' hb hv => ?_) (fun s₁ hp h' hk => absurd hp.1 (Nat.succ_ne_zero m))
  obtain ⟨⟨hF, hNT⟩, ⟨h₁, tk₁, rfl, hk₁⟩, hkap⟩ := hv
  have hidx : n₀ - 1 - (m + 1 - 1) = j := by (first | exact nb1 (by assumption) | lia)
  rw [hidx] at hF
  have hgen := GenOnlyQ.of ((GenOnly.setGen s g .running).trans (GenOnly.setGen _ g gs')) (setGen_self (gs := .running) (setGen_self hgs)) hb
  refine hQ v h₁ _ tk₁ hF hNT ⟨let ⟨o, nm, qn, ho, r⟩ := hg; ⟨o, nm, qn, hk₁ a o haC haw ho, r⟩, (let ⟨mc, hns, hnn⟩ := hl; ⟨mc, hns.at' fun o e => hk₁ cStatics o hcC hcw e, hnn⟩), gs', setGen_self (gs := .running) (setGen_self hgs), fun s'' hal => ?_⟩ hk₁ hgen
  have e : n₀ - (j + 1) = m := by (first | exact nb2 (by assumption) | lia)
  rw [e]
  exact hkap s'' hal
theorem nextH_done {a g : Nat} {C : Addr} {fp wr : List Addr} {n₀ : Nat} {F : Nat → Value → Heap → Prop} {s : Shared} {Q : Option Value → Shared → Prop} {E : Value → Shared → Prop} (G : GenH prog w A a g C fp wr n₀ F n₀ s) (hh : A.handled = none) (hroom : A.depth < recursionLimit)
    (hQ : ∀ h' gs tk, (∀ b o, b ≠ C → b ∉ wr → s.heap.get? b = some o → h'.get? b = some o) → GenOnlyQ g s.gens gs → Q none { s with heap := h', gens := gs, toks := tk }) :
    wpAny (model prog w) A (pyNext (.ref a)) Q E s := by
  obtain ⟨hg, hl, gs, hgs, hgo⟩ := G
  rw [Nat.sub_self] at hgo
  refine wpAny_pyNext_genexpQ (P := fun n s₀ s₁ => n = 0 ∧ GenSince C wr s₀ s₁) hh hl hroom hg hgs (hgo _ fun _ _ _ e => e) (fun v s₁ gs' hb hv => ?_) (fun s₁ hp h' hk => ?_)
  · obtain ⟨_, _, hkap⟩ := hv
    exact False.elim (hkap s₁ fun _ _ _ e => e)
  · obtain ⟨_, h₁, tk₁, rfl, hk₁⟩ := hp
    exact hQ h' _ tk₁ (fun b o c1 c2 e => hk b o (hk₁ b o c1 c2 e)) (GenOnlyQ.of ((GenOnly.setGen s g .running).trans (GenOnly.setGen _ g .finished)) (setGen_self (gs := .running) (setGen_self hgs)) rfl)
end
section
variable {prog : Program} {w : World} {A : Around} {E : Value → Shared → Prop} {s : Shared} {B : Heap}
end
/- the i-th pair that the generator hands out: (rv i, kf i) -/
noncomputable def PairF (rv : Nat → Value) (kf : Nat → Int) : Nat → Value → Heap → Prop := fun i v h => ∃ T t, v = .ref T ∧ TupAt h T #[rv i, .int (kf i) t]
section
variable {prog : Program} {w : World} {A : Around} {E : Value → Shared → Prop} {s : Shared} {R : Result → Shared → Prop}
theorem minH_loop {rv : Nat → Value} {kf : Nat → Int} {a g n : Nat} {C I S q : Addr} {fp : List Addr} {B : Heap} {dr : Drawn} {os : OsState} (hh : A.handled = none) (hroom : A.depth < recursionLimit) (haC : a ≠ C) (haI : a ≠ I) (hcs : cStatics ∈ fp) (hcC : cStatics ≠ C) (hcI : cStatics ≠ I)
    (hSf : S ∉ a :: C :: fp) (hSI : S ≠ I) (hBC : B.get? C = none) (hBI : B.get? I = none) (hBS : B.get? S = none)
    (key : ∀ T t i h gs tk, Kept B h → TupAt h T #[rv i, .int (kf i) t] → wpAny (model prog w) A.in1 (call (.ref q) [.ref T]) (fun x s'' => ∃ t' h'' tk'', x = .int (kf i) t' ∧ s'' = ⟨h'', gs, dr, tk'', os⟩ ∧ Kept h h'') (fun _ _ => False) ⟨h, gs, dr, tk, os⟩)
    (hR : ∀ i T t h' gs' tk', i < n → (∀ j, j < n → kf i ≤ kf j ∧ (j < i → kf i < kf j)) → Kept B h' → TupAt h' T #[rv i, .int (kf i) t] → AllBare gs' → R (.ok (.ret (.ref T))) ⟨h', gs', dr, tk', os⟩) :
    ∀ (r j i : Nat) (h : Heap) (gs : Array GenState) (tk : Nat) (T : Addr) (t tb : Tok) (c : Nat), n - (j + 1) = r → j + 1 ≤ n → i ≤ j → Kept B h → GenH prog w A.in4 a g C fp [I] n (PairF rv kf) (j + 1) ⟨h, gs, dr, tk, os⟩ → AllBare gs →
      h.get? S = some (seqObj "list" #[.ref T, .int (kf i) tb] c) → TupAt h T #[rv i, .int (kf i) t] → T ≠ C → T ≠ I → (∀ j', j' ≤ j → kf i ≤ kf j' ∧ (j' < i → kf i < kf j')) →
      codeAny (model prog w) A (.builtin "min.loop" ⟨[.ref a, .ref q, .ref S], []⟩) R ⟨h, gs, dr, tk, os⟩ := by
  have hname : (toString "min" ++ toString ".loop" : String) = "min.loop" := by decide
  have nTS : ∀ (h : Heap) (T : Addr) (its : Array Value) (xs : Array Value) (c : Nat), TupAt h T its → h.get? S = some (seqObj "list" xs c) → T ≠ S := fun h T its xs c tp e q => by
    obtain ⟨n, e'⟩ := tp
    rw [q, e] at e'
    have c := congrArg Obj.cls (Option.some.inj e')
    have c : Value.type "list" = Value.type "tuple" := c
    injection c with c
    exact absurd c (by decide)
  intro r
  induction r with
  | zero =>
    intro j i h gs tk T t tb c hr hj hij kB G bare hS tp hTC hTI hbest
    have hin : j + 1 = n := by (first | grind | lia)
    rw [hin] at G
    refine codeAny_builtin PySem.F.entry_min_loop ?_
    rw [Around.under_plainId PySem.F.plain_min_loop _]
    show wpAny _ A.in1 (seqItems? (.ref S) >>= _) _ _ _
    refine wpAny_bind (wpAny_seqItems hS rfl ?_)
    show wpAny _ A.in1 (tryCatch (pyNext (.ref a)) _ >>= _) _ _ _
    refine wpAny_bind (wpAny_tryCatch (wpAny_of_in1 (A := A.in1) (wpAny_of_in1 (A := A.in1.in1) (wpAny_of_in1 (A := A.in1.in1.in1) (nextH_done G hh hroom fun h' gs' tk' hk hg => ?_)))))
    have hS' := hk S _ (fun q => hSf (q ▸ .tail _ (.head _))) (fun q => hSI (List.mem_singleton.mp q)) hS
    show wpAny _ A.in1 (updateSeq S (fun _ => #[]) >>= _) _ _ _
    refine wpAny_bind ?_
    refine wpAny_updateSeq hS' rfl (wpAny_bind (wpAny_letGo (wpAny_pure ?_)))
    have b1 := But.of_same (Heap.SameBut.update h' S (Obj.mapSeq fun _ => (#[] : Array Value)))
    have tp' : TupAt h' T #[rv i, .int (kf i) t] := let ⟨n, e⟩ := tp; ⟨n, hk _ _ hTC (fun q => hTI (List.mem_singleton.mp q)) e⟩
    exact hR i T t _ gs' tk' (by (first | exact Nat.lt_of_le_of_lt (by assumption) (by assumption) | lia)) (fun j' hj' => hbest j' (by (first | lia | omega))) (b1.kept (fun b o e => hk b o (fun q => by rw [q, hBC] at e; cases e) (fun q => by rw [List.mem_singleton.mp q, hBI] at e; cases e) (kB _ _ e)) hBS)
      (tp'.odd (nTS _ _ _ _ _ tp' hS') b1) (hg.bare bare)
  | succ r ih =>
    intro j i h gs tk T t tb c hr hj hij kB G bare hS tp hTC hTI hbest
    have hlt : j + 1 < n := by (first | exact Nat.lt_of_sub_eq_succ (by assumption) | lia)
    refine codeAny_builtin PySem.F.entry_min_loop ?_
    rw [Around.under_plainId PySem.F.plain_min_loop _]
    show wpAny _ A.in1 (seqItems? (.ref S) >>= _) _ _ _
    refine wpAny_bind (wpAny_seqItems hS rfl ?_)
    show wpAny _ A.in1 (tryCatch (pyNext (.ref a)) _ >>= _) _ _ _
    refine wpAny_bind (wpAny_tryCatch (wpAny_of_in1 (A := A.in1) (wpAny_of_in1 (A := A.in1.in1) (wpAny_of_in1 (A := A.in1.in1.in1) (nextH_item G hh hroom haC (fun q => haI (List.mem_singleton.mp q)) hcC (fun q => hcI (List.mem_singleton.mp q)) hlt fun v h' gs' tk' hF hNT G' hk hg => ?_)))))
    obtain ⟨T', t', rfl, tp2⟩ := hF
    have hT'C : T' ≠ C := fun q => by obtain ⟨n, e⟩ := tp2; exact hNT C (.inl rfl) _ (q ▸ e) _ _ rfl
    have hT'I : T' ≠ I := fun q => by obtain ⟨n, e⟩ := tp2; exact hNT I (.inr (.head _)) _ (q ▸ e) _ _ rfl
    have hS' := hk S _ (fun q => hSf (q ▸ .tail _ (.head _))) (fun q => hSI (List.mem_singleton.mp q)) hS
    have tp' : TupAt h' T #[rv i, .int (kf i) t] := let ⟨n, e⟩ := tp; ⟨n, hk _ _ hTC (fun q => hTI (List.mem_singleton.mp q)) e⟩
    have kB' : Kept B h' := fun b o e => hk b o (fun q => by rw [q, hBC] at e; cases e) (fun q => by rw [List.mem_singleton.mp q, hBI] at e; cases e) (kB _ _ e)
    have bare' := hg.bare bare
    show wpAny _ A.in1 (tryCatch (holding [.ref T'] (call (.ref q) [.ref T'])) _ >>= _) _ _ _
    refine wpAny_bind (wpAny_tryCatch (wpAny_holding (wpAny_mono (key T' t' (j + 1) h' gs' tk' kB' tp2) (fun x s'' he => ?_) fun _ _ hF => hF.elim)))
    obtain ⟨t2, h2, tk2, rfl, rfl, k2⟩ := he
    have hS2 := k2 _ _ hS'
    show wpAny _ A.in1 (tryCatch (holding [.ref T', .int (kf (j + 1)) t2] (richCompare .Lt (.int (kf (j + 1)) t2) (.int (kf i) tb) >>= _)) _ >>= _) _ _ _
    refine wpAny_bind (wpAny_tryCatch (wpAny_holding (wpAny_bind (CmpOf.ints_lt (prog := prog) (w := w) (A := A.in1) (P := fun i v => ∃ t, v = .int (kf i) t) kf (fun i v h => h) (j + 1) i _ _ _ _ _ ⟨t2, rfl⟩ ⟨tb, rfl⟩ ?_))))
    refine wpAny_bind (wpAny_holding (wpAny_truthy_bool ?_))
    refine wpAny_bind (wpAny_letGo (wpAny_pure ?_))
    by_cases hb' : kf (j + 1) < kf i
    · have b1 := But.of_same (Heap.SameBut.update h2 S (Obj.mapSeq fun _ => #[.ref T', .int (kf (j + 1)) t2]))
      obtain ⟨c2, hc2⟩ : ∃ c2, (h2.update S (Obj.mapSeq fun _ => #[.ref T', .int (kf (j + 1)) t2])).get? S = some (seqObj "list" #[.ref T', .int (kf (j + 1)) t2] c2) := ⟨_, get?_update_seq hS2 fun _ => #[.ref T', .int (kf (j + 1)) t2]⟩
      simp only [hb', decide_true, if_true]
      refine wpAny_bind ?_
      refine wpAny_updateSeq hS2 rfl (wpAny_bind (wpAny_letGo ?_))
      rw [hname]
      have tp3 := tp2.kept k2
      refine wpAny_pure ⟨plainId_quiet PySem.F.plain_min_loop _, ih (j + 1) (j + 1) _ gs' tk2 T' t' t2 c2 (by (first | exact nb2 (by assumption) | lia)) hlt (Nat.le_refl _) (b1.kept (kB'.trans k2) hBS) (GenH.keeps G' (fun b hb o e => b1 _ _ (fun q => hSf (q ▸ hb)) (k2 _ _ e)) hcs rfl) bare' hc2 (tp3.odd (nTS _ _ _ _ _ tp3 hS2) b1) hT'C hT'I fun j' hj' => ?_⟩
      by_cases e : j' = j + 1
      · subst e
        exact ⟨by (first | exact Int.le_refl _ | lia), fun _ => by (first | exact absurd (by assumption : _ < _) (Nat.lt_irrefl _) | lia)⟩
      · have hb1 := hbest j' (by (first | lia | omega))
        have hb2 := hb1.1
        exact ⟨by (first | exact Int.le_of_lt (Int.lt_of_lt_of_le (by assumption) (by assumption)) | lia), fun _ => by (first | exact Int.lt_of_lt_of_le (by assumption) (by assumption) | lia)⟩
    · simp only [hb', decide_false, Bool.false_eq_true, if_false]
      refine wpAny_bind (wpAny_letGo ?_)
      rw [hname]
      refine wpAny_pure ⟨plainId_quiet PySem.F.plain_min_loop _, ih (j + 1) i _ gs' tk2 T t tb c (by (first | exact nb2 (by assumption) | lia)) hlt (by (first | exact Nat.le_succ_of_le (by assumption) | lia)) (kB'.trans k2) (GenH.keeps G' (fun b _ o e => k2 _ _ e) hcs rfl) bare' hS2 (tp'.kept k2) hTC hTI fun j' hj' => ?_⟩
      by_cases e : j' = j + 1
      · subst e
        exact ⟨by (first | exact Int.not_lt.mp (by assumption) | lia), fun _ => by (first | grind | lia)⟩
      · exact hbest j' (by (first | lia | omega))
theorem minH {rv : Nat → Value} {kf : Nat → Int} {a g n : Nat} {C I q : Addr} {fp : List Addr} {B : Heap} {Q : Value → Shared → Prop} (hh : A.handled = none) (hroom : A.depth < recursionLimit) (haC : a ≠ C) (haI : a ≠ I) (hcs : cStatics ∈ fp) (hcC : cStatics ≠ C) (hcI : cStatics ≠ I)
    (hlt : ∀ b ∈ a :: C :: fp, b < s.heap.objs.size) (hIlt : ∃ o, s.heap.get? I = some o) (hBC : B.get? C = none) (hBI : B.get? I = none) (kB : Kept B s.heap) (G : GenH prog w A.in4 a g C fp [I] n (PairF rv kf) 0 s) (bare : AllBare s.gens) (hn : 0 < n)
    (key : ∀ T t i h gs tk, Kept B h → TupAt h T #[rv i, .int (kf i) t] → wpAny (model prog w) A.in1 (call (.ref q) [.ref T]) (fun x s'' => ∃ t' h'' tk'', x = .int (kf i) t' ∧ s'' = { s with heap := h'', gens := gs, toks := tk'' } ∧ Kept h h'') (fun _ _ => False) { s with heap := h, gens := gs, toks := tk })
    (hQ : ∀ i T t h' gs' tk', i < n → (∀ j, j < n → kf i ≤ kf j ∧ (j < i → kf i < kf j)) → Kept B h' → TupAt h' T #[rv i, .int (kf i) t] → AllBare gs' → Q (.ref T) { s with heap := h', gens := gs', toks := tk' }) :
    wpAny (model prog w) A (call (.builtin "min") [.ref a] [(Str.ofString "key", .ref q)]) Q E s := by
  have hname : (toString "min" ++ toString ".loop" : String) = "min.loop" := by decide
  obtain ⟨h, gs, dr, tk, os⟩ := s
  try dsimp only at *
  refine kmk_tree PySem.F.kind_min PySem.F.plain_min PySem.F.entry_min (kmk_min_key _ _) ?_
  show wpAny _ A.in1 (Builtin.Builtins.bindParams "min" ["key", "default"] 0 ⟨[], [(Str.ofString "key", .ref q)]⟩ >>= _) _ _ _
  refine wpAny_bind (wpAny_of_eq (show Builtin.Builtins.bindParams "min" ["key", "default"] 0 ⟨[], [(Str.ofString "key", .ref q)]⟩ = pure [some (.ref q), none] from rfl) ?_)
  refine wpAny_bind (wpAny_pure ?_)
  refine wpAny_bind (wpAny_pyIter_gen G.1 ?_)
  refine wpAny_bind (wpAny_newList ?_ (Nat.zero_le _))
  rw [hname]
  refine wpAny_pure ⟨plainId_quiet PySem.F.plain_min_loop _, ?_⟩
  have kp : Kept h (h.push (seqObj "list" #[] 0)) := Kept.push _ _
  have hSf : h.objs.size ∉ a :: C :: fp := fun q => Nat.lt_irrefl _ (hlt _ q)
  have hSI : h.objs.size ≠ I := fun q => by obtain ⟨o, e⟩ := hIlt; have := Heap.lt_size e; rw [← q] at this; exact Nat.lt_irrefl _ this
  have hBS : B.get? h.objs.size = none := by
    cases e : B.get? h.objs.size with
    | none => rfl
    | some o => have := kB _ _ e; rw [get?_size] at this; cases this
  have gS : (h.push (seqObj "list" #[] 0)).get? h.objs.size = some (seqObj "list" #[] 0) := Heap.get?_push_size _ rfl
  refine codeAny_builtin PySem.F.entry_min_loop ?_
  rw [Around.under_plainId PySem.F.plain_min_loop _]
  show wpAny _ A.in1 (seqItems? (.ref _) >>= _) _ _ _
  refine wpAny_bind (wpAny_seqItems gS rfl ?_)
  show wpAny _ A.in1 (tryCatch (pyNext (.ref a)) _ >>= _) _ _ _
  have G0 : GenH prog w A.in4 a g C fp [I] n (PairF rv kf) 0 ⟨h.push (seqObj "list" #[] 0), gs, dr, tk, os⟩ := GenH.keeps G (fun b _ o e => kp _ _ e) hcs rfl
  refine wpAny_bind (wpAny_tryCatch (wpAny_of_in1 (A := A.in1) (wpAny_of_in1 (A := A.in1.in1) (wpAny_of_in1 (A := A.in1.in1.in1) (nextH_item G0 hh hroom haC (fun q => haI (List.mem_singleton.mp q)) hcC (fun q => hcI (List.mem_singleton.mp q)) hn fun v h' gs' tk' hF hNT G' hk hg => ?_)))))
  obtain ⟨T', t', rfl, tp2⟩ := hF
  have hT'C : T' ≠ C := fun q => by obtain ⟨n, e⟩ := tp2; exact hNT C (.inl rfl) _ (q ▸ e) _ _ rfl
  have hT'I : T' ≠ I := fun q => by obtain ⟨n, e⟩ := tp2; exact hNT I (.inr (.head _)) _ (q ▸ e) _ _ rfl
  have hS' := hk h.objs.size _ (fun q => hSf (by rw [q]; exact .tail _ (.head _))) (fun q => hSI (List.mem_singleton.mp q)) gS
  have kB' : Kept B h' := fun b o e => hk b o (fun q => by rw [q, hBC] at e; cases e) (fun q => by rw [List.mem_singleton.mp q, hBI] at e; cases e) (kp _ _ (kB _ _ e))
  show wpAny _ A.in1 (tryCatch (holding [.ref T'] (call (.ref q) [.ref T'])) _ >>= _) _ _ _
  refine wpAny_bind (wpAny_tryCatch (wpAny_holding (wpAny_mono (key T' t' 0 h' gs' tk' kB' tp2) (fun x s'' he => ?_) fun _ _ hF => hF.elim)))
  obtain ⟨t2, h2, tk2, rfl, rfl, k2⟩ := he
  have hS2 := k2 _ _ hS'
  have b1 := But.of_same (Heap.SameBut.update h2 h.objs.size (Obj.mapSeq fun _ => #[.ref T', .int (kf 0) t2]))
  obtain ⟨c2, hc2⟩ : ∃ c2, (h2.update h.objs.size (Obj.mapSeq fun _ => #[.ref T', .int (kf 0) t2])).get? h.objs.size = some (seqObj "list" #[.ref T', .int (kf 0) t2] c2) := ⟨_, get?_update_seq hS2 fun _ => #[.ref T', .int (kf 0) t2]⟩
  show wpAny _ A.in1 (updateSeq h.objs.size (fun _ => #[.ref T', .int (kf 0) t2]) >>= _) _ _ _
  refine wpAny_bind ?_
  refine wpAny_updateSeq hS2 rfl ?_
  rw [hname]
  have tp3 := tp2.kept k2
  have nT : T' ≠ h.objs.size := fun q => by
    obtain ⟨n, e⟩ := tp3
    rw [q, hS2] at e
    have c := congrArg Obj.cls (Option.some.inj e)
    have c : Value.type "list" = Value.type "tuple" := c
    injection c with c
    exact absurd c (by decide)
  refine wpAny_pure ⟨plainId_quiet PySem.F.plain_min_loop _, minH_loop (B := B) hh hroom haC haI hcs hcC hcI hSf hSI hBC hBI hBS key (fun i T t h' gs' tk' h1 h2 h3 h4 h5 => hQ i T t h' gs' tk' h1 h2 h3 h4 h5) _ 0 0 _ gs' tk2 T' t' t2 c2 rfl hn (Nat.le_refl _) (b1.kept (kB'.trans k2) hBS) (GenH.keeps G' (fun b hb o e => b1 _ _ (fun q => hSf (q ▸ hb)) (k2 _ _ e)) hcs rfl) (hg.bare bare) hc2 (tp3.odd nT b1) hT'C hT'I fun j' hj' => ?_⟩
  have e : j' = 0 := by (first | lia | omega)
  subst e
  exact ⟨Int.le_refl _, fun h => absurd h (Nat.lt_irrefl _)⟩
end
/- a table in which the lambda at lp, if it stands there, bears its name -/
inductive TabL (h : Heap) (c P : Addr) (lp : Pos) (lq : Str) : Prop
  | mk (ps : _) (f1 : h.IsCode c P ps) (f2 : h.TableAt c P ps) (f3 : ∀ cv, codeAmong lp ps.toList = some cv → ∃ c', cv = .ref c' ∧ h.CodeRec (.ref c') lq) : TabL h c P lp lq
theorem CodeRec.kept {h h' : Heap} {cd : Value} {q : Str} (x : h.CodeRec cd q) (k : Kept h h') : h'.CodeRec cd q := let ⟨c, o, vs, t, a, b, r⟩ := x; ⟨c, o, vs, t, a, k _ _ b, r⟩
theorem TabL.tab {h : Heap} {c P : Addr} {lp : Pos} {lq : Str} (T : TabL h c P lp lq) : Tab h c P := let ⟨ps, a, b, _⟩ := T; ⟨ps, a, b⟩
theorem TabL.kept {h h' : Heap} {c P : Addr} {lp : Pos} {lq : Str} (T : TabL h c P lp lq) (k : Kept h h') : TabL h' c P lp lq :=
  let ⟨ps, a, b, d⟩ := T; ⟨ps, a.keeps k, b.keeps k, fun cv e => let ⟨c', x, y⟩ := d cv e; ⟨c', x, CodeRec.kept y k⟩⟩
theorem rec_at2 {h h' : Heap} {c' : Addr} {q : Str} (y : h.CodeRec (.ref c') q) (k : ∀ o, h.get? c' = some o → h'.get? c' = some o) : h'.CodeRec (.ref c') q := by
  obtain ⟨c2, o2, vs2, t2, a2, b2, r2⟩ := y
  cases a2
  exact ⟨_, o2, vs2, t2, rfl, k _ b2, r2⟩
theorem TabL.move {h h' : Heap} {c P : Addr} {lp : Pos} {lq : Str} (T : TabL h c P lp lq) (kc : ∀ o, h.get? c = some o → h'.get? c = some o) (kP : ∀ o, h.get? P = some o → h'.get? P = some o) (kr : ∀ c', h.CodeRec (.ref c') lq → ∀ o, h.get? c' = some o → h'.get? c' = some o) : TabL h' c P lp lq :=
  let ⟨ps, a, b, d⟩ := T; ⟨ps, code_at2 a kc kP, table_at2 b kc kP, fun cv e => let ⟨c', x, y⟩ := d cv e; ⟨c', x, rec_at2 y (kr _ y)⟩⟩
theorem TabL.but {h h' : Heap} {c P a : Addr} {lp : Pos} {lq : Str} (T : TabL h c P lp lq) (k : But a h h') (hc : c ≠ a) (hP : P ≠ a) (hcr : ∀ c', h.CodeRec (.ref c') lq → c' ≠ a) : TabL h' c P lp lq :=
  T.move (fun _ e => k _ _ hc e) (fun _ e => k _ _ hP e) fun c' y _ e => k _ _ (hcr c' y) e
theorem codeAmong_other {p : Pos} {a b : Int} {c : Value} (hne : ¬ (a = p.line ∧ b = p.col)) : ∀ (l : List Value), TriplesOk l → codeAmong p (l ++ [rawInt a, rawInt b, c]) = codeAmong p l
  | [], _ => by
    show (if (a == (p.line : Int) && b == (p.col : Int)) = true then some c else codeAmong p []) = codeAmong p []
    rw [if_neg]
    intro h
    rw [Bool.and_eq_true] at h
    exact hne ⟨by simpa using h.1, by simpa using h.2⟩
  | .int x _ :: .int y _ :: z :: rest, h => by
    have ih := codeAmong_other (c := c) hne rest h
    show (if (x == (p.line : Int) && y == (p.col : Int)) = true then some z else codeAmong p (rest ++ [rawInt a, rawInt b, c])) = (if (x == (p.line : Int) && y == (p.col : Int)) = true then some z else codeAmong p rest)
    rw [ih]
section
variable {M : Model} {prog : Program} {w : World} {A : Around} {E : Value → Shared → Prop} {s : Shared} {B : Heap}
theorem code_ruleL {σh : Heap} {σg : Array GenState} {σd : Drawn} {σt : Nat} {σo : OsState} {env : Env} {c P : Addr} {pos lp : Pos} {lq q : Str} {scope : Scope} {Q : Value → Shared → Prop} (hc : env.code = .ref c) (T : TabL σh c P lp lq) (hne : ¬ ((pos.line : Int) = lp.line ∧ (pos.col : Int) = lp.col)) (hcr : ∀ c', σh.CodeRec (.ref c') lq → c' ≠ P)
    (h : ∀ code h' tk, But P σh h' → TabL h' c P lp lq → σh.objs.size ≤ h'.objs.size → Q code ⟨h', σg, σd, tk, σo⟩) : wpAny M A (genexprCode env pos q scope) Q E ⟨σh, σg, σd, σt, σo⟩ := by
  obtain ⟨ps, ok, tab, lam⟩ := id T
  cases hf : codeAmong pos ps.toList with
  | some c' => exact wpAny_genexprCode_hit hc ok hf (h c' σh σt (fun _ _ _ e => e) T (Nat.le_refl _))
  | none =>
    have htr : TriplesOk ps.toList := by obtain ⟨_, _, _, _, _, _, _, _, _, _, _, _, _, _, _, _, _, _, _, htr, _⟩ := ok; exact htr
    refine wpAny_genexprCodeX hc ok tab hf fun c' h' tk b z1 z2 ok' _ tab' _ => h _ h' tk b ⟨_, ok', tab', fun cv e => ?_⟩ (Nat.le_trans z1 (Nat.le_of_lt z2))
    have e2 : codeAmong lp ps.toList = some cv := by
      rw [← e, Array.toList_append]
      exact (codeAmong_other hne _ htr).symm
    obtain ⟨c2, x, y⟩ := lam cv e2
    refine ⟨c2, x, ?_⟩
    obtain ⟨c3, o3, vs3, t3, a3, b3, r3⟩ := id y
    cases a3
    exact ⟨_, o3, vs3, t3, rfl, b _ _ (hcr _ y) b3, r3⟩
theorem tab_ne {h : Heap} {c P c' : Addr} {ps : Array Value} {q : Str} (ok : h.IsCode c P ps) (tab : h.TableAt c P ps) (y : h.CodeRec (.ref c') q) : c' ≠ P := by
  rintro rfl
  obtain ⟨c3, o3, vs3, t3, a3, b3, d3, r3⟩ := y
  cases a3
  rw [tab.2] at b3; cases b3
  cases d3
  have htr := (code_out ok).2
  rw [← Array.getElem?_toList] at r3
  revert htr r3
  generalize ps.toList = l
  intro r3 htr
  match l, htr, r3 with
  | .int _ _ :: .int _ _ :: _ :: _, _, r3 => cases r3
theorem lam_make {σh : Heap} {σg : Array GenState} {σd : Drawn} {σt : Nat} {σo : OsState} {env : Env} {c P : Addr} {pos : Pos} {name qual : Str} {params : Arguments} {body : PySem.Expr} {scope : Scope} {clos : List (Str × Addr)} {fl : Nat} {Q : Value → Shared → Prop} (W : Wd w B) (k : Kept B σh) (T : TabL σh c P pos qual) (hP4 : P ≠ 4) (hP3 : mainGlobals ≠ P)
    (hcl : closureFor scope env = pure clos) (hg : env.globals = mainGlobals) (hcode : env.code = .ref c)
    (h : ∀ f h' tk c' pm ctv, But P σh h' → TabL h' c P pos qual → h'.get? f = some (kla_obj name qual params body scope clos pm c' ctv) → h'.CodeRec (.ref c') qual → σh.get? f = none → σh.objs.size ≤ h'.objs.size → Q (.ref f) ⟨h', σg, σd, tk, σo⟩) :
    wpAny M A (makeFunction name qual params (.expr body) scope env [] [] [] pos fl) Q E ⟨σh, σg, σd, σt, σo⟩ := by
  obtain ⟨ps, ok, tab, lam⟩ := id T
  obtain ⟨mg, G⟩ := mg_K W.K
  obtain ⟨ob, ho, hc, hdi, hda⟩ := W.md
  have C : CodeHd σh c P := CodeHd.of ok tab
  have htr : TriplesOk ps.toList := by obtain ⟨_, _, _, _, _, _, _, _, _, _, _, _, _, _, _, _, _, _, _, htr, _⟩ := ok; exact htr
  have hb : σh.BuiltinsAt mg P := ⟨4, ob, mg_of W.K G (bi_mod _), by decide, by decide, Ne.symm hP4, k _ _ ho, hc, hdi, hda⟩
  have fresh : ∀ h' : Heap, σh.objs.size ≤ h'.objs.size → σh.get? h'.objs.size = none := fun h' hz => by
    cases q : σh.get? h'.objs.size with
    | none => rfl
    | some o => exact absurd (Heap.lt_size q) (Nat.not_lt.mpr hz)
  cases hf : codeAmong pos ps.toList with
  | some cv =>
    obtain ⟨c', rfl, hr⟩ := lam cv hf
    refine kla_makeFunctionHit hcl hg (G.keeps k) hcode C tab.2 htr hf hb fun ctv h' tk k' hz => ?_
    have kk : Kept σh (h'.push { cls := .type "function", data := .func (kla_fn name qual params body scope clos ((mg "__name__").getD .none) (.ref c') ctv) }) := fun b o e => Heap.get?_push_of_some _ (k' b o e)
    exact h _ _ tk c' _ ctv (But.of_kept kk) (T.kept kk) (Heap.get?_push_size _ rfl) (CodeRec.kept hr kk) (fresh h' hz) (by rw [Heap.size_push]; exact Nat.le_succ_of_le hz)
  | none =>
    refine kla_makeFunction hcl hg (G.keeps k) hcode C tab.2 htr hf hP3 hb fun c' ctv h' tk b z1 z2 hr htab => ?_
    have b' : But P σh (h'.push (kla_obj name qual params body scope clos ((mg "__name__").getD .none) c' ctv)) := fun b₁ o n e => Heap.get?_push_of_some _ (b b₁ o n e)
    have kp := Kept.push h' (kla_obj name qual params body scope clos ((mg "__name__").getD .none) c' ctv)
    have hr' := CodeRec.kept hr kp
    have hcP : c ≠ P := by obtain ⟨_, _, _, _, _, _, _, _, _, _, _, _, _, _, _, _, _, _, _, _, hne⟩ := ok; exact hne
    have C' : CodeHd h' c P := by
      obtain ⟨o, vs, file, tf, flags, tg, inF, text, tt, x1, x2⟩ := C
      exact ⟨o, vs, file, tf, flags, tg, inF, text, tt, b _ _ hcP x1, x2⟩
    have htr' : TriplesOk (ps ++ #[rawInt pos.line, rawInt pos.col, Value.ref c']).toList := by
      rw [Array.toList_append]; exact TriplesOk_snoc _ _ _ _ htr
    refine h _ _ tk c' _ ctv b' ⟨_, (C'.keeps kp).code (kp _ _ htab) htr', (C'.keeps kp).tab (kp _ _ htab), fun cv e => ?_⟩ (Heap.get?_push_size _ rfl) hr' (fresh h' (Nat.le_trans z1 (Nat.le_of_lt z2))) (by rw [Heap.size_push]; exact Nat.le_succ_of_le (Nat.le_trans z1 (Nat.le_of_lt z2)))
    rw [Array.toList_append] at e
    rw [show (#[rawInt pos.line, rawInt pos.col, Value.ref c'] : Array Value).toList = [rawInt pos.line, rawInt pos.col, .ref c'] from rfl, codeAmong_snoc _ htr hf] at e
    cases e
    exact ⟨c', rfl, hr'⟩
end
section
variable {prog : Program} {w : World} {A : Around} {E : Value → Shared → Prop} {s : Shared} {B : Heap}
/- a lambda without cells, entered -/
theorem lam_enter {σh : Heap} {σg : Array GenState} {σd : Drawn} {σt : Nat} {σo : OsState} {f c' : Addr} {name qual : Str} {params : Arguments} {body : PySem.Expr} {scope : Scope} {pm ctv : Value} {vals : List Value} {R : Result → Shared → Prop} {d u : Nat} (binds : List (Str × Value)) (W : Wd w B) (k : Kept B σh) (Ro : Rm A (d + 1) (u + 3))
    (hf : σh.get? f = some (kla_obj name qual params body scope [] pm c' ctv)) (hcd : σh.CodeRec (.ref c') qual) (hbind : bindArgs (kla_fn name qual params body scope [] pm (.ref c') ctv) ⟨vals, []⟩ = pure binds)
    (hloc : ∀ x ∈ binds, scope.names.lookup x.1 = some .local) (hco : scope.isCoroutine = false) (hgen : scope.isGenerator = false) (hk : scope.kind = .function)
    (h : ∀ A' L env h₁ tk, Rm A' d u → Ev env L scope.names (cellsFrom (L + 1) scope.names []) → Fz σh L h₁ (bindL (scope.names.lookup ·) binds fun _ => none) →
      wpAny (model prog w) A' (eval body env) (fun v s' => R (.ok (.ret v)) s') (fun _ _ => False) ⟨h₁, σg, σd, tk, σo⟩) :
    codeAny (model prog w) A (.call (.ref f) ⟨vals, []⟩) R ⟨σh, σg, σd, σt, σo⟩ := by
  replace W := W.keeps k
  refine kla_callFunE (fd := kla_fn name qual params body scope [] pm (.ref c') ctv) (by have := Ro.1; (first | lia | omega)) hf rfl hco hgen rfl hcd ?_
  rw [hbind]
  refine wpAny_pure (wpAny_newFunctionEnv_cells hk (fun x hx => .inl (hloc x hx)) fun env he s₁ x => ?_)
  subst he
  obtain ⟨h₁, tk, rfl⟩ := x.toInCall.same
  refine ⟨W.lim.keeps x.toInCall.keep, kla_codeExpr ?_⟩
  refine wpAny_mono (h _ σh.objs.size _ h₁ tk (Ro.deeper _) ⟨hk, rfl, rfl, rfl, rfl, rfl⟩ ⟨x.toInCall.ns, x.toInCall.keep, get?_size _⟩) (fun v s' q => q) fun _ _ x => x.elim
end
section
variable {prog : Program} {w : World} {A : Around} {E : Value → Shared → Prop} {s : Shared} {B : Heap}
theorem seq_list_iadd : seqSlot? (.type "list") (dunderI "add") = pure (some (.builtin "list.__iadd__")) := PySem.seqSlot_of PySem.F.slot_list_iadd.lookup (by decide +kernel)
/- l += b, two lists -/
theorem iadd_lists {l b : Addr} {items its2 : Array Value} {Q : Value → Shared → Prop} (hl : s.heap.PlainList l items) (hb : s.heap.PlainList b its2) (hz : items.size + its2.size ≤ 1000)
    (h : ∀ h', h'.PlainList l (items ++ its2) → But l s.heap h' → Q (.ref l) { s with heap := h' }) : wpAny (model prog w) A (inplaceOp .Add (.ref l) (.ref b)) Q E s := by
  unfold inplaceOp
  refine wpAny_holding ?_
  have hfi : fillsInplaceSlot (.type "list") "add" (Operator.Add == .Add) = pure false := by
    unfold fillsInplaceSlot
    show (typeLookup (.type "list") (dunderI "add") >>= fun fi => pure (fi.isSome && !isSeqSlot fi)) = pure false
    rw [PySem.F.slot_list_iadd.lookup]
    show pure (_ : Bool) = (pure false : Sem Bool)
    congr 1
  refine wpAny_bind (wpAny_typeOf hl.isList.typeIs (wpAny_bind (wpAny_of_eq hfi ?_)))
  show wpAny _ A (if false = true then _ else _) Q E s
  rw [if_neg Bool.false_ne_true]
  refine wpAny_bind (wpAny_binaryOp1_none (nm := "add") hl.isList.typeIs hb.isList.typeIs noFill_list_add ?_)
  refine wpAny_bind (wpAny_of_eq seq_list_iadd ?_)
  refine wpAny_bind (wpAny_rule ?_)
  have hli := hl.isList.typeIs
  obtain ⟨n, e⟩ := hl
  obtain ⟨n2, e2⟩ := hb
  refine wpAny_call_entry PySem.F.slot_list_iadd hli PySem.F.entry_list_iadd ?_ (PySem.F.args_list_iadd_2 _ _)
  show wpAny _ _ (Builtin.List.listExtendWith (.ref l) (.ref b) (.ref l)) _ _ s
  unfold Builtin.List.listExtendWith
  refine wpAny_bind (wpAny_typeOf (T := "list") ⟨_, e2, rfl⟩ ?_)
  have ht : (Value.type "list" == Value.type "list") = true := by rfl
  rw [if_pos (by rw [ht]; simp)]
  refine wpAny_bind (listItems_at e2 rfl ?_)
  refine wpAny_bind (listItems_at e rfl ?_)
  have hno : (!items.isEmpty && Builtin.List.listTooLong (items.size + its2.size)) = false := by
    have : Builtin.List.listTooLong (items.size + its2.size) = false := by
      unfold Builtin.List.listTooLong
      simp only [sizeLine_eq, decide_eq_false_iff_not]
      (first | lia | omega)
    rw [this, Bool.and_false]
  rw [hno]
  show wpAny _ _ (if false = true then _ else _) _ _ _
  rw [if_neg Bool.false_ne_true]
  refine wpAny_bind (listUpdate_at e rfl ?_ (by rw [sizeLine_eq]; (first | lia | omega)) (by rw [Array.size_append, sizeLine_eq]; (first | exact Nat.le_trans (by assumption) (by decide) | lia)))
  refine wpAny_pure ⟨_, rfl, h _ ?_ (But.of_same (Heap.SameBut.update ..))⟩
  exact ⟨_, get?_update_seq e (· ++ its2)⟩
end
theorem TabL.ne {h : Heap} {c P c' : Addr} {lp : Pos} {lq q : Str} (T : TabL h c P lp lq) (y : h.CodeRec (.ref c') q) : c' ≠ P := let ⟨_, ok, tab, _⟩ := T; tab_ne ok tab y
section
variable {prog : Program} {w : World} {A : Around} {E : Value → Shared → Prop} {s : Shared} {B : Heap}
theorem gen_mkL {lp : Pos} {lq : Str} {env : Env} {elt iter : PySem.Expr} {x : Str} {px : Pos} {scope : Scope} {cl : List (Str × Addr)} {pos : Pos} {Q : Value → Shared → Prop} {ax c P : Addr} {items : Array Value} (Ex : List Addr) (F : Nat → Value → Heap → Prop)
    (hA : A.handled = none) (hroom : A.depth < recursionLimit) (hcode : env.code = .ref c) (hg : env.globals = mainGlobals)
    (hco : scope.isCoroutine = false) (hclos : closureFor scope env = pure cl) (hcell : ∀ y ∈ scope.names, y.2 ≠ .cell) (h0 : scope.names.lookup (".0" : Str) = some NameKind.local)
    (hx : scope.names.lookup x = some .local) (hkind : scope.kind = .function) (hs : ∀ x, genFold iter env x = pure x)
    (W : Wd w B) (k : Kept B s.heap) (T : TabL s.heap c P lp lq) (hne : ¬ ((pos.line : Int) = lp.line ∧ (pos.col : Int) = lp.col)) (hl : B.IsList ax items) (hEx : ∀ b ∈ Ex, B.get? b = none) (hEx' : ∀ b ∈ Ex, ∃ o, s.heap.get? b = some o) (hP : P ∈ Ex)
    (hiter : ∀ Q' : Value → Shared → Prop, Q' (.ref ax) s → wpAny (model prog w) A (eval iter env) Q' E s)
    (elts : ∀ code C (A' : Around) E' i v (s₂ : Shared) m₂, Ev (genEnv scope cl C code builtinsNs env) C scope.names cl → A'.handled = none → A'.depth ≤ A.depth + 1 → A'.units ≤ A.units + 8 → items[i]? = some v → s₂.heap.Ns C m₂ → m₂ x = some v → s.heap.get? C = none → (∀ b o, b ∉ Ex → s.heap.get? b = some o → s₂.heap.get? b = some o) →
      wpAny (model prog w) A' (eval elt (genEnv scope cl C code builtinsNs env)) (fun y s₃ => F i y s₃.heap ∧ Keeps s₂ s₃) E' s₂)
    (h : ∀ a C fp I h' tk gs, gs.bare = true → But P s.heap h' → TabL h' c P lp lq → s.heap.get? a = none → s.heap.get? C = none → s.heap.get? I = none → a ≠ C → a ≠ I → (∃ m, h'.Ns C m) → h'.IsListIter I ax 0 → cStatics ∈ fp → cStatics ≠ C → cStatics ≠ I → (∀ b ∈ a :: C :: fp, b ∉ Ex) → (∀ b ∈ a :: C :: fp, b < h'.objs.size) →
      GenH prog w A.in4 a s.gens.size C fp [I] items.size F 0 { s with gens := s.gens.push gs, toks := tk, heap := h' } → Q (.ref a) { s with gens := s.gens.push gs, toks := tk, heap := h' }) :
    wpAny (model prog w) A (eval (.GeneratorExp elt [⟨.Name x px, iter, [], 0⟩] scope pos) env) Q E s := by
  obtain ⟨sh, sg, sd, st, sos⟩ := s
  try dsimp only at *
  have hls : sh.IsList ax items := hl.at fun o e => k _ _ e
  obtain ⟨oax, hoax, -⟩ := id hl
  refine wpAny_GeneratorExp_make hco hclos hcell h0 hkind hroom (hiter _ (wpAny_pyIter_list hls ?_)) hs
  have kp : Kept sh (sh.push { cls := .type "list_iterator", data := .fields #[.ref ax, .int 0 0] }) := Kept.push _ _
  refine ⟨(W.keeps (k.trans kp)).lim, code_ruleL hcode (T.kept kp) hne (fun c' y => (T.kept kp).ne y) fun code h₃ tk₃ b₃ T₃ z₃ => ?_⟩
  try dsimp only at b₃ z₃ ⊢
  rw [Heap.size_push] at z₃
  have hPB : ∀ b o, B.get? b = some o → b ≠ P := fun b o e q => by rw [q, hEx P hP] at e; cases e
  have k₃ : Kept B h₃ := fun b o e => b₃ b o (hPB b o e) (kp b o (k b o e))
  have bk : But P sh h₃ := fun b o n e => b₃ b o n (kp b o e)
  rw [hg]
  refine builtins_rule W k₃ ?_
  intro h' hn' hs'
  try dsimp only at hn' hs' ⊢
  have hI : h₃.IsListIter sh.objs.size ax 0 := by
    refine ⟨_, b₃ _ _ ?_ (Heap.get?_push_size _ rfl), rfl, rfl⟩
    obtain ⟨oP, hoP⟩ := hEx' P hP
    exact fun q => absurd (Heap.lt_size hoP) (by rw [← q]; exact Nat.lt_irrefl _)
  have hsz : h'.objs.size = h₃.objs.size + 1 := by rw [hs'.1, Heap.size_push]
  have k' : Kept h₃ h' := fun b o e => hs'.extBut b o (Nat.ne_of_lt (Heap.lt_size e)) (Heap.get?_push_of_some _ e)
  let o₅ : Obj := { cls := .type "generator", data := .fields #[.int sg.size 0, .str "<genexpr>" (tk₃ + 1), .str (env.qual ++ "<genexpr>") (tk₃ + 1 + 1)] }
  have k₅ : Kept h₃ (h'.push o₅) := k'.trans (Kept.push _ _)
  have hIlt : sh.objs.size < h₃.objs.size := by (first | assumption | lia)
  have hIEx : sh.objs.size ∉ Ex := fun q => by obtain ⟨o, e⟩ := hEx' _ q; exact absurd (Heap.lt_size e) (Nat.lt_irrefl _)
  have haxI : ax ≠ sh.objs.size := Nat.ne_of_lt (Heap.lt_size (k _ _ hoax))
  have haxEx : ax ∉ Ex := fun q => by rw [hEx _ q] at hoax; cases hoax
  let fp : List Addr := (List.range h₃.objs.size).filter (fun b => decide (b ∉ Ex))
  have mfp : ∀ b, b < h₃.objs.size → b ∉ Ex → b ∈ fp := fun b h1 h2 => List.mem_filter.mpr ⟨List.mem_range.mpr h1, decide_eq_true h2⟩
  have ofp : ∀ b, b ∈ fp → b < h₃.objs.size ∧ b ∉ Ex := fun b hb => ⟨List.mem_range.mp (List.mem_filter.mp hb).1, of_decide_eq_true (List.mem_filter.mp hb).2⟩
  have W₀ : ∀ A' : Around, A'.handled = none → Walks prog w A' sh.objs.size fp [sh.objs.size] items.size (fun i v => items[i]? = some v) (fun i h => h.IsListIter sh.objs.size ax i ∧ h.IsList ax items) := fun A' hA' =>
    (Walks.list hA' sh.objs.size ax haxI items).mono_fp fun b hb => by
      rcases List.mem_cons.mp hb with q | q
      · exact q ▸ mfp _ hIlt hIEx
      · rw [List.mem_singleton.mp q]; exact mfp _ (Heap.lt_size (k₃ _ _ hoax)) haxEx
  have hlim₅ : (h'.push o₅).NoLimit := W.lim.keeps (k₃.trans k₅)
  obtain ⟨mc, hnc, -⟩ := W.lim
  obtain ⟨oc, eoc, epc, hoc, -⟩ := hnc
  have hcs : cStatics ∈ fp := mfp _ (Heap.lt_size (k₃ _ _ hoc)) fun q => by rw [hEx _ q] at hoc; cases hoc
  have hcI : cStatics ∉ [sh.objs.size] := fun q => absurd (Heap.lt_size (k _ _ hoc)) (by rw [List.mem_singleton.mp q]; exact Nat.lt_irrefl _)
  have base : ∀ s₂ : Shared, (∀ b ∈ fp, b ∉ [sh.objs.size] → ∀ o, (h'.push o₅).get? b = some o → s₂.heap.get? b = some o) → ∀ b o, b ∉ Ex → sh.get? b = some o → s₂.heap.get? b = some o := fun s₂ hk b o hb e => by
    have hlt := Heap.lt_size e
    have zz : sh.objs.size ≤ h₃.objs.size := by (first | exact Nat.le_of_lt (by assumption) | lia)
    refine hk b (mfp b (Nat.lt_of_lt_of_le hlt zz) hb) (fun q => ?_) o (k₅ _ _ (bk b o (fun q => hb (q ▸ hP)) e))
    rw [List.mem_singleton.mp q] at hlt; exact Nat.lt_irrefl _ hlt
  have hC : sh.get? h₃.objs.size = none := by
    cases q : sh.get? h₃.objs.size with
    | none => rfl
    | some o => exact absurd (Heap.lt_size q) (Nat.not_lt.mpr (by (first | exact Nat.le_of_lt (by assumption) | lia)))
  have ha : sh.get? h'.objs.size = none := by
    cases q : sh.get? h'.objs.size with
    | none => rfl
    | some o => exact absurd (Heap.lt_size q) (Nat.not_lt.mpr (by (first | lia | omega)))
  have hEx3 : ∀ b : Nat, b ∈ Ex → b < sh.objs.size := fun b hb => let ⟨o, e⟩ := hEx' b hb; Heap.lt_size e
  have oex : ∀ b : Nat, sh.objs.size ≤ b → b ∉ Ex := fun b hb q => Nat.lt_irrefl _ (Nat.lt_of_lt_of_le (hEx3 b q) hb)
  refine h h'.objs.size h₃.objs.size fp sh.objs.size _ _ _ rfl (fun b o n e => k₅ b o (bk b o n e)) (T₃.kept k₅) ha hC (get?_size _) (Nat.ne_of_gt (by (first | exact Nat.le_of_eq (Eq.symm (by assumption)) | lia))) (Nat.ne_of_gt (by (first | lia | omega))) ⟨_, hn'.push _⟩ (hI.at fun o e => k₅ _ _ e) hcs (Nat.ne_of_lt (ofp _ hcs).1) (fun q => hcI (by rw [q]; exact .head _)) (fun b hb => ?_) (fun b hb => ?_) ?_
  · rcases List.mem_cons.mp hb with q | q
    · subst q; exact oex _ (by (first | lia | omega))
    · rcases List.mem_cons.mp q with q | q
      · subst q; exact oex _ (by (first | exact Nat.le_of_lt (by assumption) | lia))
      · exact (ofp _ q).2
  · rw [Heap.size_push]
    rcases List.mem_cons.mp hb with q | q
    · subst q; exact Nat.lt_succ_self _
    · rcases List.mem_cons.mp q with q | q
      · subst q; show (_ : Nat) < _; (first | lia | omega)
      · exact Nat.lt_of_lt_of_le (ofp _ q).1 (by (first | lia | omega))
  · refine ⟨⟨_, _, _, Heap.get?_push_size _ rfl, rfl, rfl, rfl⟩, hlim₅, _, Array.getElem?_push_size .., fun s'' hal => ⟨rfl, ?_⟩⟩
    have W₁ : ∀ A' : Around, A'.handled = none → Walks prog w A' sh.objs.size fp [sh.objs.size] items.size (fun i v => items[i]? = some v) (fun i h => h.IsListIter sh.objs.size ax i ∧ h.IsList ax items) := W₀
    refine seg_startH (A := A.in4.in1) (I := sh.objs.size) (fp := fp) (wr := [sh.objs.size]) (n₀ := items.size) (cenv := genEnv scope cl h₃.objs.size code builtinsNs env) (m := fun y => if y = ".0" then some (.ref sh.objs.size) else none) hA W₁ F (h'.push o₅) hx (by simp [genEnv, hkind]) hco
      (fun hm => by have := (ofp _ hm).1; exact Nat.lt_irrefl _ this) (fun i h st b hb o e xs n q => by
        obtain ⟨⟨o', ho', c, d⟩, -⟩ := st
        rw [List.mem_singleton.mp hb, ho'] at e; cases e
        rw [q] at d; cases d) (fun A' E' i v s₂ m₂ h1 h2 h3 h4 h5 h6 h8 => elts _ _ A' E' i v s₂ m₂ ⟨hkind, rfl, hg, rfl, rfl, rfl⟩ h1 h2 h3 h4 h5 h6 hC (base s₂ h8)) s''
      ((W₀ A hA).frame _ _ _ ⟨hI.at fun o e => k₅ _ _ e, hl.at fun o e => k₅ _ _ (k₃ _ _ e)⟩ fun b hb o e => hal b (List.mem_cons_of_mem _ hb) o e) ((hn'.push _).at' fun o e => hal _ (List.mem_cons_self ..) o e) fun b hb _ o e => hal b (List.mem_cons_of_mem _ hb) o e
end
theorem rl_reach (segs : List Sg) (e : Int) (hl : e ≤ (sg segs (segs.length - 1)).x + (sg segs (segs.length - 1)).l) : ∀ (k a : Nat) (s : Sc), s.ri + 1 = a → a + k = segs.length →
    e ≤ (sg segs (rl segs e (List.range' a k) s).ri).x + (sg segs (rl segs e (List.range' a k) s).ri).l ∧ s.ri ≤ (rl segs e (List.range' a k) s).ri
  | 0, a, s, h1, h2 => by
    have : s.ri = segs.length - 1 := by (first | lia | omega)
    show e ≤ (sg segs s.ri).x + (sg segs s.ri).l ∧ s.ri ≤ s.ri
    rw [this]; exact ⟨hl, Nat.le_refl _⟩
  | k + 1, a, s, h1, h2 => by
    rw [List.range'_succ, rl_cons]
    split
    · rename_i c
      rw [look_ri]
      exact ⟨c, by show s.ri ≤ a; (first | lia | omega)⟩
    · have := rl_reach segs e hl k (a + 1) (look segs a { s with ri := a }) (by rw [look_ri]) (by (first | lia | omega))
      rw [look_ri] at this
      exact ⟨this.1, Nat.le_trans (by show s.ri ≤ a; (first | lia | omega)) this.2⟩
theorem step1_reach (segs : List Sg) (e : Int) (s : Sc) (hl : e ≤ (sg segs (segs.length - 1)).x + (sg segs (segs.length - 1)).l) (h : s.ri < segs.length) :
    e ≤ (sg segs (step1 segs e s).ri).x + (sg segs (step1 segs e s).ri).l ∧ s.ri ≤ (step1 segs e s).ri := by
  unfold step1
  split
  · exact rl_reach segs e hl _ _ _ rfl (by (first | grind | lia))
  · exact ⟨by (first | exact Int.not_lt.mp (by assumption) | lia), Nat.le_refl _⟩
theorem gstep_ok (segs : List Sg) (wd p : Int) (s : Sc) (t : Sg) (ht : segs.getLast? = some t) (hp : p + wd ≤ t.x + t.l) (hw : 0 < wd) (h1 : s.li ≤ s.ri) (h2 : s.ri < segs.length) :
    (gstep segs wd p s).li ≤ (gstep segs wd p s).ri ∧ (gstep segs wd p s).ri < segs.length := by
  have hl : p + wd ≤ (sg segs (segs.length - 1)).x + (sg segs (segs.length - 1)).l := by rw [sg_last ht]; exact hp
  obtain ⟨a, b⟩ := step1_reach segs (p + wd) s hl h2
  have c := step1_ri segs (p + wd) s h2
  unfold gstep
  rw [step3_li, step3_ri, step2_ri]
  refine ⟨?_, c⟩
  have d := step1_li segs (p + wd) s
  unfold step2
  split
  · rename_i q
    show (step1 segs (p + wd) s).li + 1 ≤ _
    rw [d] at q ⊢
    rcases Nat.lt_or_ge s.li (step1 segs (p + wd) s).ri with r | r
    · exact r
    · have : s.li = (step1 segs (p + wd) s).ri := by (first | lia | omega)
      rw [← this] at a
      (first | lia | omega)
  · rw [d]; (first | exact Nat.le_trans (by assumption) (by assumption) | lia)
theorem genPts_ok (segs : List Sg) (wd ht Hi : Int) (t : Sg) (hT : segs.getLast? = some t) (hw : 0 < wd) : ∀ (ps : List Int) (s : Sc), (∀ p ∈ ps, p + wd ≤ t.x + t.l) → s.li ≤ s.ri → s.ri < segs.length →
    ∀ pt ∈ genPts segs wd ht Hi ps s, pt.li ≤ pt.ri ∧ pt.ri < segs.length ∧ pt.w = wd ∧ pt.l = ht ∧ pt.y + ht ≤ Hi ∧ pt.x ∈ ps
  | [], _, _, _, _, pt, h => by cases h
  | p :: ps, s, hp, h1, h2, pt, h => by
    obtain ⟨a, b⟩ := gstep_ok segs wd p s t hT (hp p (.head _)) hw h1 h2
    have ih := genPts_ok segs wd ht Hi t hT hw ps (gstep segs wd p s) (fun q hq => hp q (.tail _ hq)) a b pt
    rw [genPts_cons] at h
    split at h
    · rename_i c
      rcases List.mem_cons.mp h with rfl | h
      · exact ⟨a, b, rfl, rfl, c, .head _⟩
      · obtain ⟨x1, x2, x3, x4, x5, x6⟩ := ih h; exact ⟨x1, x2, x3, x4, x5, .tail _ x6⟩
    · obtain ⟨x1, x2, x3, x4, x5, x6⟩ := ih h; exact ⟨x1, x2, x3, x4, x5, .tail _ x6⟩
noncomputable def fitOf (C : Addr) (Wi Hi : Int) (segs : List Sg) (pt : Pt) : Int :=
  if C = 728 then pt.y + pt.l else if C = 690 then wasteOf segs pt.x pt.w pt.y pt.li pt.ri else wasteOf segs pt.x pt.w pt.y pt.li pt.ri * Wi * Hi + (pt.y + pt.l)
/- the pieces lie end to end from a to b -/
noncomputable def Chain : Int → List Sg → Int → Prop
  | a, [], b => a = b
  | a, g :: gs, b => g.x = a ∧ 0 < g.l ∧ Chain (a + g.l) gs b
noncomputable def Cov (H : Int → Int) (segs : List Sg) : Prop := ∀ g ∈ segs, ∀ z, g.x ≤ z → z < g.x + g.l → H z = g.y
noncomputable def Sk (H : Int → Int) (segs : List Sg) (a b : Int) : Prop := Chain a segs b ∧ Cov H segs
theorem Chain.le : ∀ {segs : List Sg} {a b : Int}, Chain a segs b → a ≤ b
  | [], _, _, h => Int.le_of_eq h
  | _ :: _, _, _, ⟨_, h2, h3⟩ => by have := Chain.le h3; (first | lia | omega)
theorem Chain.append : ∀ {s t : List Sg} {a b c : Int}, Chain a s b → Chain b t c → Chain a (s ++ t) c
  | [], _, _, _, _, h, k => by cases h; exact k
  | _ :: _, _, _, _, _, ⟨h1, h2, h3⟩, k => ⟨h1, h2, Chain.append h3 k⟩
theorem Chain.split : ∀ {s t : List Sg} {a c : Int}, Chain a (s ++ t) c → ∃ b, Chain a s b ∧ Chain b t c
  | [], _, a, _, h => ⟨a, rfl, h⟩
  | _ :: _, _, _, _, ⟨h1, h2, h3⟩ => let ⟨b, x, y⟩ := Chain.split h3; ⟨b, ⟨h1, h2, x⟩, y⟩
theorem Sk.snoc {H : Int → Int} {acc : List Sg} {g : Sg} {a c : Int} (S : Sk H acc a c) (hx : g.x = c) (hl : 0 < g.l) (hH : ∀ z, g.x ≤ z → z < g.x + g.l → H z = g.y) : Sk H (acc ++ [g]) a (c + g.l) :=
  ⟨S.1.append ⟨hx, hl, rfl⟩, fun g' hg' => by
    rcases List.mem_append.mp hg' with q | q
    · exact S.2 g' q
    · rw [List.mem_singleton.mp q]; exact hH⟩
theorem Sk.merge {H : Int → Int} {acc : List Sg} {g : Sg} {a c d : Int} (S : Sk H acc a c) (hx : g.x = c) (hl : 0 < g.l) (hd : c + g.l = d) (hH : ∀ z, g.x ≤ z → z < g.x + g.l → H z = g.y) : Sk H (mergeSeg acc g) a d := by
  subst hd
  cases e : acc.getLast? with
  | none =>
    rw [List.getLast?_eq_none_iff] at e
    subst e
    have := S.snoc hx hl hH
    exact this
  | some t =>
    by_cases q : t.y = g.y
    · rw [mergeSeg_eq e q]
      obtain ⟨pre, rfl⟩ := List.getLast?_eq_some_iff.mp e
      rw [List.dropLast_concat]
      obtain ⟨b, x1, x2, x3, x4⟩ := S.1.split
      have x4 : b + t.l = c := x4
      have St : Sk H pre a b := ⟨x1, fun g' hg' => S.2 g' (List.mem_append_left _ hg')⟩
      have h2 := S.2 t (by simp)
      have := St.snoc (g := ⟨t.x, t.y, t.l + g.l⟩) x2 (by dsimp only; (first | exact Int.le_trans (by assumption) (Int.le_of_lt (Int.lt_add_of_pos_right _ (by assumption))) | lia)) (fun z z1 z2 => by
        try dsimp only at z1 z2 ⊢
        by_cases z3 : z < t.x + t.l
        · exact h2 z z1 z3
        · rw [q]; exact hH z (by (first | lia | omega)) (by (first | exact Int.lt_of_lt_of_le (by assumption) (by lia) | lia)))
      try dsimp only at this
      rw [show b + (t.l + g.l) = c + g.l by (first | lia | omega)] at this
      exact this
    · rw [mergeSeg_ne e q]
      exact S.snoc hx hl hH
theorem skyStep_ok {H H' : Int → Int} {x w t c W : Int} {acc : List Sg} {g : Sg} {c' : Int} (hx0 : 0 ≤ x) (hw : 0 < w) (_hW : x + w ≤ W) (hH : ∀ z, H' z = if x ≤ z ∧ z < x + w then t else H z)
    (hc : g.x = c) (hl : 0 < g.l) (hg : ∀ z, g.x ≤ z → z < g.x + g.l → H z = g.y) (S : Sk H' acc 0 c') (hc' : c' = if c ≤ x then c else max c (x + w)) :
    Sk H' (skyStep x w t acc g) 0 (if c + g.l ≤ x then c + g.l else max (c + g.l) (x + w)) := by
  have hin : ∀ z, x ≤ z → z < x + w → H' z = t := fun z a b => by rw [hH, if_pos ⟨a, b⟩]
  have hout : ∀ z, ¬ (x ≤ z ∧ z < x + w) → g.x ≤ z → z < g.x + g.l → H' z = g.y := fun z a b d => by rw [hH, if_neg a]; exact hg z b d
  unfold skyStep
  by_cases q : g.x + g.l ≤ x ∨ x + w ≤ g.x
  · rw [if_pos q]
    rcases q with q | q
    · rw [if_pos (by (first | lia | omega))] at hc'
      rw [if_pos (by (first | lia | omega))]
      exact S.merge (by (first | exact Eq.trans (by assumption) (Eq.symm (by assumption)) | lia)) hl (by (first | lia | omega)) fun z z1 z2 => hout z (by (first | lia | omega)) z1 z2
    · have qc : x + w ≤ c := hc ▸ q
      rw [if_neg (by lia), Int.max_eq_left qc] at hc'
      rw [if_neg (by lia), Int.max_eq_left (Int.le_trans qc (Int.le_of_lt (Int.lt_add_of_pos_right _ hl)))]
      exact S.merge (by (first | grind | lia)) hl (by (first | lia | omega)) fun z z1 z2 => hout z (by (first | lia | omega)) z1 z2
  · rw [if_neg q]
    have q1 : x < c + g.l := by (first | lia | omega)
    have q2 : c < x + w := by (first | lia | omega)
    rw [if_neg (show ¬ c + g.l ≤ x by (first | exact Int.not_le.mpr (by assumption) | lia))]
    -- after the first cut
    have key : ∀ (acc₁ : List Sg) (s : Sg) (e₁ : Int), Sk H' acc₁ 0 e₁ → s.y = g.y → s.x + s.l = c + g.l → x ≤ s.x → s.x < x + w → c ≤ s.x → (e₁ = if s.x = x then x else x + w) →
        Sk H' (let q := if s.x < x + w then
              let a := if s.x = x then mergeSeg acc₁ ⟨x, t, w⟩ else acc₁
              if x + w < s.x + s.l then (mergeSeg a ⟨x + w, s.y, s.x + s.l - (x + w)⟩, (⟨s.x, s.y, x + w - s.x⟩ : Sg)) else (a, s)
            else (acc₁, s)
          if x ≤ q.2.x ∧ q.2.x + q.2.l ≤ x + w then q.1 else mergeSeg q.1 q.2) 0 (max (c + g.l) (x + w)) := by
      intro acc₁ s e₁ S₁ hy hs hsx hsw hcs he
      have Sa : Sk H' (if s.x = x then mergeSeg acc₁ ⟨x, t, w⟩ else acc₁) 0 (x + w) := by
        split
        · rename_i r
          rw [if_pos r] at he
          exact S₁.merge (by dsimp only; (first | exact Eq.symm (by assumption) | lia)) hw (by dsimp only; (first | lia | omega)) fun z z1 z2 => hin z z1 z2
        · rename_i r
          rw [if_neg r] at he
          rw [← he]; exact S₁
      generalize (if s.x = x then mergeSeg acc₁ ⟨x, t, w⟩ else acc₁) = a at Sa ⊢
      try dsimp only
      rw [if_pos hsw]
      by_cases r : x + w < s.x + s.l
      · rw [if_pos r]
        try dsimp only
        rw [if_pos ⟨hsx, by (first | lia | omega)⟩]
        rw [show max (c + g.l) (x + w) = c + g.l from Int.max_eq_left (Int.le_of_lt (hs ▸ r))]
        exact Sa.merge rfl (by dsimp only; (first | exact Int.sub_pos_of_lt (by assumption) | lia)) (by dsimp only; (first | lia | omega)) fun z z1 z2 => by
          try dsimp only at z1 z2 ⊢
          rw [hy]; exact hout z (by (first | lia | omega)) (by (first | lia | omega)) (by (first | exact Int.lt_of_lt_of_le (by assumption) (by lia) | lia))
      · rw [if_neg r]
        try dsimp only
        rw [if_pos ⟨hsx, by (first | exact Int.not_lt.mp (by assumption) | lia)⟩]
        rw [show max (c + g.l) (x + w) = x + w from Int.max_eq_right (hs ▸ Int.not_lt.mp r)]
        exact Sa
    by_cases r : g.x < x ∧ x < g.x + g.l
    · rw [if_pos r]
      refine key (mergeSeg acc ⟨g.x, g.y, x - g.x⟩) ⟨x, g.y, g.x + g.l - x⟩ x ?_ rfl (by dsimp only; (first | lia | omega)) (Int.le_refl _) (by dsimp only; (first | exact Int.lt_add_of_pos_right _ (by assumption) | lia)) (by dsimp only; (first | lia | omega)) (by dsimp only; rw [if_pos rfl])
      rw [if_pos (by (first | lia | omega))] at hc'
      exact S.merge (by dsimp only; (first | exact Eq.trans (by assumption) (Eq.symm (by assumption)) | lia)) (by dsimp only; (first | lia | omega)) (by dsimp only; (first | lia | omega)) fun z z1 z2 => by
        try dsimp only at z1 z2 ⊢
        exact hout z (by (first | lia | omega)) (by (first | omega | lia)) (by (first | exact Int.lt_of_lt_of_le (by assumption) (by lia) | lia))
    · rw [if_neg r]
      refine key acc g c' S rfl (by (first | lia | omega)) (by (first | grind | lia)) (by (first | lia | omega)) (by (first | exact Int.le_of_eq (Eq.symm (by assumption)) | lia)) ?_
      rw [hc', Int.max_eq_right (Int.le_of_lt q2)]
      split <;> split <;> (first | lia | omega)
theorem addSky_ok {H H' : Int → Int} {x w t W : Int} {segs : List Sg} (hx0 : 0 ≤ x) (hw : 0 < w) (hW : x + w ≤ W) (hH : ∀ z, H' z = if x ≤ z ∧ z < x + w then t else H z) (S : Sk H segs 0 W) : Sk H' (addSky segs x w t) 0 W := by
  have key : ∀ (rest acc : List Sg) (c c' : Int), Chain c rest W → Cov H rest → Sk H' acc 0 c' → (c' = if c ≤ x then c else max c (x + w)) → Sk H' (rest.foldl (skyStep x w t) acc) 0 W := by
    intro rest
    induction rest with
    | nil =>
      intro acc c c' h1 h2 h3 h4
      have h1 : c = W := h1
      rw [if_neg (by (first | lia | omega))] at h4
      rw [show W = c' by (first | grind | lia)]
      exact h3
    | cons g gs ih =>
      intro acc c c' h1 h2 h3 h4
      obtain ⟨a1, a2, a3⟩ := h1
      exact ih _ _ _ a3 (fun g' hg' => h2 g' (.tail _ hg')) (skyStep_ok hx0 hw hW hH a1 a2 (h2 g (.head _)) h3 h4) rfl
  refine key segs [] 0 0 S.1 S.2 ⟨rfl, fun _ h => nomatch h⟩ ?_
  rw [if_pos hx0]
theorem Chain.lt_len : ∀ {segs : List Sg} {a b : Int}, Chain a segs b → a < b → 0 < segs.length
  | [], _, _, h, q => absurd h (Int.ne_of_lt q)
  | _ :: _, _, _, _, _ => Nat.succ_pos _
theorem sg_zero (g : Sg) (gs : List Sg) : sg (g :: gs) 0 = g := rfl
theorem sg_succ (g : Sg) (gs : List Sg) (j : Nat) : sg (g :: gs) (j + 1) = sg gs j := by unfold sg; rw [List.getD_cons_succ]
theorem sg_mem {segs : List Sg} {j : Nat} (h : j < segs.length) : sg segs j ∈ segs := by
  unfold sg; rw [List.getD_eq_getElem?_getD, List.getElem?_eq_getElem h]; exact List.getElem_mem h
theorem Chain.next : ∀ {segs : List Sg} {a b : Int}, Chain a segs b → ∀ j, j + 1 < segs.length → (sg segs (j + 1)).x = (sg segs j).x + (sg segs j).l
  | [], _, _, _, _, h => absurd h (Nat.not_lt_zero _)
  | [g], _, _, _, j, h => by simp at h
  | g :: g' :: gs, a, b, ⟨h1, h2, h3⟩, j, h => by
    cases j with
    | zero => rw [sg_succ, sg_zero, sg_zero, h3.1, h1]
    | succ j =>
      rw [sg_succ, sg_succ]
      exact Chain.next h3 j (by simpa using h)
theorem Chain.pos : ∀ {segs : List Sg} {a b : Int}, Chain a segs b → ∀ j, j < segs.length → 0 < (sg segs j).l
  | [], _, _, _, _, h => absurd h (Nat.not_lt_zero _)
  | g :: gs, a, b, ⟨h1, h2, h3⟩, j, h => by
    cases j with
    | zero => exact h2
    | succ j => rw [sg_succ]; exact Chain.pos h3 j (by simpa using h)
theorem Chain.first {segs : List Sg} {a b : Int} (h : Chain a segs b) (hl : 0 < segs.length) : (sg segs 0).x = a := by
  cases segs with
  | nil => exact absurd hl (Nat.lt_irrefl _)
  | cons g gs => exact h.1
theorem Chain.last : ∀ {segs : List Sg} {a b : Int}, Chain a segs b → ∀ j, j + 1 = segs.length → (sg segs j).x + (sg segs j).l = b
  | [], _, _, _, _, h => by simp at h
  | [g], _, _, ⟨h1, _, h3⟩, j, h => by
    have : j = 0 := by simpa using h
    subst this
    have h3 : _ = _ := h3
    rw [sg_zero, h1]; exact h3
  | g :: g' :: gs, a, b, ⟨h1, h2, h3⟩, j, h => by
    cases j with
    | zero => simp at h
    | succ j => rw [sg_succ]; exact Chain.last h3 j (by simpa using h)
theorem Chain.mono {segs : List Sg} {a b : Int} (h : Chain a segs b) : ∀ (d i : Nat), i + d + 1 < segs.length → (sg segs i).x + (sg segs i).l ≤ (sg segs (i + d + 1)).x
  | 0, i, q => Int.le_of_eq (h.next i q).symm
  | d + 1, i, q => by
    have := Chain.mono h d i (by (first | exact Nat.lt_of_succ_lt (by assumption) | lia))
    have e := h.next (i + d + 1) (by (first | omega | lia))
    have p := h.pos (i + d + 1) (by (first | exact Nat.lt_of_succ_lt (by assumption) | lia))
    rw [show i + (d + 1) + 1 = i + d + 1 + 1 by (first | exact Nat.add_assoc _ _ _ | lia), e]
    (first | exact Int.le_trans (by assumption) (Int.le_of_lt (Int.lt_add_of_pos_right _ (by assumption))) | lia)
theorem Chain.mono' {segs : List Sg} {a b : Int} (h : Chain a segs b) {i j : Nat} (hij : i < j) (hj : j < segs.length) : (sg segs i).x + (sg segs i).l ≤ (sg segs j).x := by
  have := h.mono (j - i - 1) i (by (first | lia | omega))
  rwa [show i + (j - i - 1) + 1 = j by (first | exact nb13 (by assumption) | lia)] at this
/- the highest piece of those from li to ri is si -/
structure Mx (segs : List Sg) (s : Sc) : Prop where
  l : s.li ≤ s.si
  r : s.si ≤ s.ri
  n : s.ri < segs.length
  h : s.sh = (sg segs s.si).y
  m : ∀ j, s.li ≤ j → j ≤ s.ri → (sg segs j).y ≤ s.sh
theorem look_mx {segs : List Sg} {s : Sc} {j : Nat} (X : Mx segs s) (hj : s.ri + 1 = j) (hn : j < segs.length) : Mx segs (look segs j { s with ri := j }) := by
  obtain ⟨a1, a2, a3, a4, a5⟩ := X
  unfold look
  split
  · rename_i q
    have q : s.sh ≤ (sg segs j).y := q
    refine ⟨by show s.li ≤ j; (first | exact Nat.le_trans (by assumption) (by lia) | lia), Nat.le_refl _, hn, rfl, fun i h1 h2 => ?_⟩
    have h1 : s.li ≤ i := h1
    have h2 : i ≤ j := h2
    show (sg segs i).y ≤ (sg segs j).y
    rcases Nat.lt_or_ge i j with r | r
    · exact Int.le_trans (a5 i h1 (by (first | lia | omega))) q
    · rw [show i = j by (first | exact Nat.le_antisymm (by assumption) (by assumption) | lia)]; exact Int.le_refl _
  · rename_i q
    have q : ¬ s.sh ≤ (sg segs j).y := q
    refine ⟨a1, by show s.si ≤ j; (first | lia | omega), hn, a4, fun i h1 h2 => ?_⟩
    have h1 : s.li ≤ i := h1
    have h2 : i ≤ j := h2
    show (sg segs i).y ≤ s.sh
    rcases Nat.lt_or_ge i j with r | r
    · exact a5 i h1 (by (first | lia | omega))
    · rw [show i = j by (first | exact Nat.le_antisymm (by assumption) (by assumption) | lia)]; (first | exact Int.le_of_lt (Int.not_le.mp (by assumption)) | lia)
theorem rl_mx {segs : List Sg} {a b : Int} (C : Chain a segs b) (e : Int) : ∀ (k c : Nat) (s : Sc), s.ri + 1 = c → c + k = segs.length → Mx segs s → (sg segs s.ri).x + (sg segs s.ri).l < e → (sg segs s.ri).x < e →
    Mx segs (rl segs e (List.range' c k) s) ∧ (sg segs (rl segs e (List.range' c k) s).ri).x < e
  | 0, c, s, h1, h2, X, _, hx => ⟨X, hx⟩
  | k + 1, c, s, h1, h2, X, hr, _ => by
    rw [List.range'_succ, rl_cons]
    have X' := look_mx X h1 (by (first | lia | omega))
    have e1 : (sg segs c).x = (sg segs s.ri).x + (sg segs s.ri).l := by rw [← h1]; exact C.next _ (by (first | lia | omega))
    split
    · rw [look_ri]
      exact ⟨X', by show (sg segs c).x < e; (first | lia | omega)⟩
    · rename_i q
      exact rl_mx C e k (c + 1) _ (by rw [look_ri]) (by (first | grind | lia)) X' (by rw [look_ri]; show (sg segs c).x + (sg segs c).l < e; (first | exact Int.not_le.mp (by assumption) | lia)) (by rw [look_ri]; show (sg segs c).x < e; (first | lia | omega))
theorem step1_mx {segs : List Sg} {a b : Int} (C : Chain a segs b) (e : Int) {s : Sc} (X : Mx segs s) (hx : (sg segs s.ri).x < e) : Mx segs (step1 segs e s) ∧ (sg segs (step1 segs e s).ri).x < e := by
  unfold step1
  split
  · rename_i q
    exact rl_mx C e _ _ s rfl (by have := X.n; (first | exact Nat.add_sub_of_le (by assumption) | lia)) X q hx
  · exact ⟨X, hx⟩
theorem fold_mx {segs : List Sg} : ∀ (k a : Nat) (s : Sc), s.li ≤ a → a + k = s.ri + 1 → s.li ≤ s.si → s.si ≤ s.ri → s.ri < segs.length → s.sh = (sg segs s.si).y → (∀ j, s.li ≤ j → j < a → (sg segs j).y ≤ s.sh) →
    Mx segs ((List.range' a k).foldl (fun s j => look segs j s) s)
  | 0, a, s, h1, h2, h3, h4, h5, h6, h7 => ⟨h3, h4, h5, h6, fun j j1 j2 => h7 j j1 (by have j2 : j ≤ s.ri := j2; (first | exact Nat.lt_of_le_of_lt (by assumption) (by lia) | lia))⟩
  | k + 1, a, s, h1, h2, h3, h4, h5, h6, h7 => by
    rw [List.range'_succ, List.foldl_cons]
    refine fold_mx k (a + 1) (look segs a s) ?_ ?_ ?_ ?_ ?_ ?_ ?_
    · rw [look_li]; (first | exact Nat.le_succ_of_le (by assumption) | lia)
    · rw [look_ri]; (first | lia | omega)
    · rw [look_li]; unfold look; split
      · exact h1
      · exact h3
    · rw [look_ri]; unfold look; split
      · show a ≤ s.ri; (first | lia | omega)
      · exact h4
    · rw [look_ri]; exact h5
    · unfold look; split
      · rfl
      · exact h6
    · rw [look_li]
      intro j j1 j2
      unfold look; split
      · rename_i q
        show _ ≤ (sg segs a).y
        rcases Nat.lt_or_ge j a with r | r
        · exact Int.le_trans (h7 j j1 r) q
        · rw [show j = a by (first | lia | omega)]; exact Int.le_refl _
      · rename_i q
        rcases Nat.lt_or_ge j a with r | r
        · exact h7 j j1 r
        · rw [show j = a by (first | lia | omega)]; (first | exact Int.le_of_lt (Int.not_le.mp (by assumption)) | lia)
/- the state behind the place p -/
structure Inv (segs : List Sg) (wd p : Int) (s : Sc) : Prop where
  mx : Mx segs s
  a : (sg segs s.li).x ≤ p
  b : p < (sg segs s.li).x + (sg segs s.li).l
  c : (sg segs s.ri).x < p + wd
theorem gstep_inv {segs : List Sg} {wd p q W : Int} {s : Sc} (C : Chain 0 segs W) (hw : 0 < wd) (I : Inv segs wd p s) (hpq : p ≤ q) (hq : q + wd ≤ W) (hno : ∀ j, j < segs.length → (sg segs j).x + wd ≤ W → (sg segs j).x ≤ p ∨ q ≤ (sg segs j).x) :
    Inv segs wd q (gstep segs wd q s) ∧ q + wd ≤ (sg segs (gstep segs wd q s).ri).x + (sg segs (gstep segs wd q s).ri).l := by
  obtain ⟨X, ia, ib, ic⟩ := I
  have hn : s.ri < segs.length := X.n
  have hlast := C.last (segs.length - 1) (by (first | exact Nat.sub_add_cancel (by lia) | lia))
  obtain ⟨X1, hx1⟩ := step1_mx C (q + wd) X (by (first | exact Int.lt_of_lt_of_le (by assumption) (by lia) | lia))
  obtain ⟨r1, r2⟩ := step1_reach segs (q + wd) s (by (first | exact Int.le_trans (by assumption) (by lia) | lia)) hn
  have l1 := step1_li segs (q + wd) s
  unfold gstep
  generalize step1 segs (q + wd) s = s1 at X1 hx1 r1 r2 l1
  -- the second step
  have k2 : (step2 segs q s1).ri = s1.ri ∧ (step2 segs q s1).si = s1.si ∧ (step2 segs q s1).sh = s1.sh ∧ s1.li ≤ (step2 segs q s1).li ∧ (step2 segs q s1).li ≤ s1.ri ∧
      (sg segs (step2 segs q s1).li).x ≤ q ∧ q < (sg segs (step2 segs q s1).li).x + (sg segs (step2 segs q s1).li).l := by
    have n1 := X1.n
    have lr := Nat.le_trans X1.l X1.r
    unfold step2
    split
    · rename_i c
      have h1 : s1.li < s1.ri := by
        rcases Nat.lt_or_ge s1.li s1.ri with r | r
        · exact r
        · have : s1.li = s1.ri := by (first | exact Nat.le_antisymm (by assumption) (by assumption) | lia)
          rw [this] at c
          (first | exact Nat.lt_of_le_of_lt (by assumption) (by lia) | lia)
      have e := C.next s1.li (by (first | exact Nat.lt_of_le_of_lt (by assumption) (by assumption) | lia))
      have pp := C.pos (s1.li + 1) (by (first | exact Nat.lt_of_le_of_lt (by assumption) (by assumption) | lia))
      refine ⟨rfl, rfl, rfl, Nat.le_succ _, h1, ?_, ?_⟩
      · show (sg segs (s1.li + 1)).x ≤ q; (first | lia | omega)
      · show q < (sg segs (s1.li + 1)).x + (sg segs (s1.li + 1)).l
        rcases hno (s1.li + 1) (by (first | exact Nat.lt_of_le_of_lt (by assumption) (by assumption) | lia)) (by (first | lia | omega)) with r | r
        · rw [l1] at e r
          (first | lia | omega)
        · (first | exact Int.lt_of_le_of_lt (by assumption) (Int.lt_add_of_pos_right _ (by assumption)) | lia)
    · rename_i c
      refine ⟨rfl, rfl, rfl, Nat.le_refl _, lr, ?_, by (first | exact Int.not_le.mp (by assumption) | lia)⟩
      rw [l1]; (first | exact Int.le_trans (by assumption) (by assumption) | lia)
  generalize step2 segs q s1 = s2 at k2
  obtain ⟨c1, c2, c3, c4, c5, c6, c7⟩ := k2
  have M3 : Mx segs (step3 segs s2) := by
    unfold step3
    split
    · rename_i c
      refine fold_mx _ _ _ (Nat.le_refl _) ?_ (Nat.le_refl _) ?_ ?_ rfl (fun j j1 j2 => ?_)
      · show s2.li + (s2.ri + 1 - s2.li) = s2.ri + 1; (first | exact Nat.add_sub_cancel' (by lia) | lia)
      · show s2.li ≤ s2.ri; (first | exact Nat.le_trans (by assumption) (by lia) | lia)
      · show s2.ri < _; rw [c1]; exact X1.n
      · have j1 : s2.li ≤ j := j1
        (first | lia | omega)
    · rename_i c
      refine ⟨by (first | exact Nat.not_lt.mp (by assumption) | lia), by rw [c2, c1]; exact X1.r, by rw [c1]; exact X1.n, by rw [c3, c2]; exact X1.h, fun j j1 j2 => ?_⟩
      rw [c3]; exact X1.m j (by (first | exact Nat.le_trans (by assumption) (by assumption) | lia)) (by (first | exact Nat.le_trans (by assumption) (Nat.le_of_eq (by assumption)) | lia))
  refine ⟨⟨M3, ?_, ?_, ?_⟩, ?_⟩
  · rw [step3_li]; exact c6
  · rw [step3_li]; exact c7
  · rw [step3_ri, c1]; exact hx1
  · rw [step3_ri, c1]; exact r1
/- the highest of the w columns from x -/
noncomputable def IsBase (H : Int → Int) (x w b : Int) : Prop := (∀ z, x ≤ z → z < x + w → H z ≤ b) ∧ ∃ z, x ≤ z ∧ z < x + w ∧ H z = b
theorem IsBase.uniq {H : Int → Int} {x w b b' : Int} (h : IsBase H x w b) (h' : IsBase H x w b') : b = b' := by
  obtain ⟨h1, z, z1, z2, z3⟩ := h
  obtain ⟨h1', z', z1', z2', z3'⟩ := h'
  have := h1 z' z1' z2'
  have := h1' z z1 z2
  (first | lia | omega)
/- the piece at z -/
theorem Chain.at : ∀ {segs : List Sg} {a b : Int}, Chain a segs b → ∀ z, a ≤ z → z < b → ∃ j, j < segs.length ∧ (sg segs j).x ≤ z ∧ z < (sg segs j).x + (sg segs j).l
  | [], a, b, h, z, z1, z2 => by have h : a = b := h; (first | grind | lia)
  | g :: gs, a, b, ⟨h1, h2, h3⟩, z, z1, z2 => by
    by_cases q : z < a + g.l
    · exact ⟨0, Nat.succ_pos _, by rw [sg_zero]; (first | lia | omega), by rw [sg_zero]; (first | exact Int.lt_of_lt_of_le (by assumption) (by lia) | lia)⟩
    · obtain ⟨j, j1, j2, j3⟩ := Chain.at h3 z (by (first | exact Int.not_lt.mp (by assumption) | lia)) z2
      exact ⟨j + 1, Nat.succ_lt_succ j1, by rw [sg_succ]; exact j2, by rw [sg_succ]; exact j3⟩
theorem Inv.base {H : Int → Int} {segs : List Sg} {wd q W : Int} {s : Sc} (S : Sk H segs 0 W) (hw : 0 < wd) (I : Inv segs wd q s) (hr : q + wd ≤ (sg segs s.ri).x + (sg segs s.ri).l) : IsBase H q wd s.sh := by
  obtain ⟨⟨m1, m2, m3, m4, m5⟩, ia, ib, ic⟩ := I
  have C := S.1
  have hH : ∀ j, j < segs.length → ∀ z, (sg segs j).x ≤ z → z < (sg segs j).x + (sg segs j).l → H z = (sg segs j).y := fun j hj z z1 z2 => S.2 _ (sg_mem hj) z z1 z2
  have hp := C.pos s.si (by (first | exact Nat.lt_of_le_of_lt (by assumption) (by assumption) | lia))
  refine ⟨fun z z1 z2 => ?_, ?_⟩
  · have hlast := C.last (segs.length - 1) (by (first | exact Nat.sub_add_cancel (by lia) | lia))
    have h0 := C.first (by (first | lia | omega))
    have hz : z < W := by
      rcases Nat.lt_or_ge s.ri (segs.length - 1) with r | r
      · have := C.mono' r (by (first | exact Nat.sub_one_lt_of_lt (by assumption) | lia))
        have := C.pos (segs.length - 1) (by (first | exact Nat.sub_one_lt_of_lt (by assumption) | lia))
        (first | exact Int.lt_of_lt_of_le (by assumption) (by lia) | lia)
      · have : s.ri = segs.length - 1 := by (first | lia | omega)
        rw [this] at hr; (first | exact Int.lt_of_lt_of_le (by assumption) (by lia) | lia)
    have hq0 : 0 ≤ q := by
      rcases Nat.eq_zero_or_pos s.li with r | r
      · rw [r] at ia; (first | lia | omega)
      · have := C.mono' r (by (first | exact nb11 (by assumption) (by assumption) (by assumption) | lia))
        have := C.pos 0 (by (first | exact Nat.lt_of_lt_of_le (by assumption) (by lia) | lia))
        (first | lia | omega)
    obtain ⟨j, j1, j2, j3⟩ := C.at z (by (first | exact Int.le_trans (by assumption) (by assumption) | lia)) hz
    rw [hH j j1 z j2 j3]
    refine m5 j ?_ ?_
    · rcases Nat.lt_or_ge j s.li with r | r
      · have := C.mono' r (by (first | exact nb11 (by assumption) (by assumption) (by assumption) | lia)); (first | lia | omega)
      · exact r
    · rcases Nat.lt_or_ge s.ri j with r | r
      · have := C.mono' r j1; (first | lia | omega)
      · exact r
  · refine ⟨max q (sg segs s.si).x, by (first | exact Int.le_max_left _ _ | lia), ?_, ?_⟩
    · rcases Nat.lt_or_ge s.si s.ri with r | r
      · have := C.mono' r m3; exact Int.max_lt.mpr ⟨by lia, by lia⟩
      · have : s.si = s.ri := by (first | exact Nat.le_antisymm (by assumption) (by assumption) | lia)
        rw [this]; exact Int.max_lt.mpr ⟨by lia, by lia⟩
    · rw [m4]
      refine hH _ (by (first | exact Nat.lt_of_le_of_lt (by assumption) (by assumption) | lia)) _ (by (first | exact Int.le_max_right _ _ | lia)) ?_
      rcases Nat.lt_or_ge s.li s.si with r | r
      · have := C.mono' r (by (first | exact Nat.lt_of_le_of_lt (by assumption) (by assumption) | lia)); exact Int.max_lt.mpr ⟨by lia, by lia⟩
      · have : s.si = s.li := by (first | exact Nat.le_antisymm (by assumption) (by assumption) | lia)
        rw [this] at hp ⊢; exact Int.max_lt.mpr ⟨by lia, by lia⟩
/- the sum of the columns from a to b -/
noncomputable def Rs (H : Int → Int) (a : Int) (n : Nat) : Int := ((List.range n).map fun i : Nat => H (a + (i : Int))).sum
theorem Rs_zero (H : Int → Int) (a : Int) : Rs H a 0 = 0 := rfl
theorem Rs_succ (H : Int → Int) (a : Int) (n : Nat) : Rs H a (n + 1) = Rs H a n + H (a + n) := by
  unfold Rs; rw [List.range_succ, List.map_append, List.sum_append]; simp
theorem Rs_add (H : Int → Int) (a : Int) (n : Nat) : ∀ m, Rs H a (n + m) = Rs H a n + Rs H (a + n) m
  | 0 => by rw [Rs_zero]; simp
  | m + 1 => by
    rw [show n + (m + 1) = (n + m) + 1 by (first | exact Nat.add_zero _ | lia), Rs_succ, Rs_succ, Rs_add H a n m, show a + (((n + m : Nat)) : Int) = a + (n : Int) + (m : Int) by (first | lia | omega)]
    (first | exact Int.add_assoc _ _ _ | lia)
theorem Rs_const (H : Int → Int) (a y : Int) : ∀ n : Nat, (∀ z, a ≤ z → z < a + n → H z = y) → Rs H a n = n * y
  | 0, _ => by rw [Rs_zero]; simp
  | n + 1, h => by
    rw [Rs_succ, Rs_const H a y n (fun z z1 z2 => h z z1 (by (first | exact Int.lt_of_lt_of_le (by assumption) (by lia) | lia))), h (a + n) (by (first | lia | omega)) (by (first | lia | omega))]
    have : ((n + 1 : Nat) : Int) = (n : Int) + 1 := by (first | rfl | lia)
    rw [this, Int.add_mul]; (first | (simp; done) | lia)
theorem waste_go {H : Int → Int} {x w y : Int} (hw : 0 < w) : ∀ (gs : List Sg) (c d acc : Int), Chain c gs d → Cov H gs → gs ≠ [] → (x < c + (sg gs 0).l) → (∀ g ∈ gs, g.x < x + w) →
    gs.foldl (fun a g => a + (min (x + w) (g.x + g.l) - max x g.x) * (y - g.y)) acc = acc + (min (x + w) d - max x c) * y - Rs H (max x c) (min (x + w) d - max x c).toNat
  | [], _, _, _, _, _, h, _, _ => absurd rfl h
  | [g], c, d, acc, ⟨h1, h2, h3⟩, hc, _, hx, hg => by
    have h3 : c + g.l = d := h3
    rw [sg_zero] at hx
    have hgx := hg g (.head _)
    subst h3
    rw [h1] at hgx
    have hM : max x c ≤ min (x + w) (c + g.l) := Int.max_le.mpr ⟨Int.le_min.mpr ⟨Int.le_of_lt (Int.lt_add_of_pos_right _ hw), Int.le_of_lt hx⟩, Int.le_min.mpr ⟨Int.le_of_lt hgx, Int.le_of_lt (Int.lt_add_of_pos_right _ h2)⟩⟩
    have hm := Int.min_le_right (x + w) (c + g.l)
    have hc' := Int.le_max_right x c
    rw [List.foldl_cons, List.foldl_nil, h1]
    generalize max x c = M at *
    generalize min (x + w) (c + g.l) = T at *
    have hn := Int.toNat_of_nonneg (Int.sub_nonneg_of_le hM)
    rw [Rs_const H M g.y _ (fun z z1 z2 => hc g (.head _) z (h1 ▸ Int.le_trans hc' z1) (by rw [hn] at z2; lia)), hn, Int.mul_sub]
    lia
  | g :: g' :: gs, c, d, acc, ⟨h1, h2, h3⟩, hc, _, hx, hg => by
    rw [sg_zero] at hx
    have hgx' := hg g' (.tail _ (.head _))
    have e' := h3.1
    have p' := h3.2.1
    have hle := h3.2.2.le
    rw [e'] at hgx'
    rw [List.foldl_cons]
    rw [waste_go hw (g' :: gs) (c + g.l) d _ h3 (fun q hq => hc q (.tail _ hq)) (by simp) (by rw [sg_zero]; lia) (fun q hq => hg q (.tail _ hq))]
    rw [h1, Int.min_eq_right (Int.le_of_lt hgx'), Int.max_eq_right (Int.le_of_lt hx)]
    have hA : max x c ≤ c + g.l := Int.max_le.mpr ⟨Int.le_of_lt hx, Int.le_of_lt (Int.lt_add_of_pos_right _ h2)⟩
    have hB : c + g.l ≤ min (x + w) d := Int.le_min.mpr ⟨Int.le_of_lt hgx', Int.le_trans (Int.le_of_lt (Int.lt_add_of_pos_right _ p')) hle⟩
    have hc' := Int.le_max_right x c
    generalize max x c = M at *
    generalize min (x + w) d = T at *
    have hn := Int.toNat_of_nonneg (Int.sub_nonneg_of_le hA)
    have hs : T - M = (c + g.l - M) + (T - (c + g.l)) := by lia
    have e3 : (T - M).toNat = (c + g.l - M).toNat + (T - (c + g.l)).toNat := by
      rw [← Int.toNat_add (Int.sub_nonneg_of_le hA) (Int.sub_nonneg_of_le hB), ← hs]
    rw [e3, Rs_add]
    rw [Rs_const H M g.y _ (fun z z1 z2 => hc g (.head _) z (h1 ▸ Int.le_trans hc' z1) (by rw [hn] at z2; lia)), hn]
    rw [show M + (c + g.l - M) = c + g.l by lia, hs, Int.add_mul, Int.mul_sub]
    lia
theorem Chain.drop : ∀ {segs : List Sg} {a b : Int}, Chain a segs b → ∀ k, k < segs.length → Chain (sg segs k).x (segs.drop k) b
  | [], _, _, _, _, h => absurd h (Nat.not_lt_zero _)
  | g :: gs, a, b, ⟨h1, h2, h3⟩, 0, _ => by rw [sg_zero, h1]; exact ⟨h1, h2, h3⟩
  | g :: gs, a, b, ⟨h1, h2, h3⟩, k + 1, h => by rw [sg_succ, List.drop_succ_cons]; exact Chain.drop h3 k (by simpa using h)
theorem Chain.take : ∀ {segs : List Sg} {a b : Int}, Chain a segs b → ∀ k, k < segs.length → Chain a (segs.take (k + 1)) ((sg segs k).x + (sg segs k).l)
  | [], _, _, _, _, h => absurd h (Nat.not_lt_zero _)
  | g :: gs, a, b, ⟨h1, h2, h3⟩, 0, _ => by rw [sg_zero]; exact ⟨h1, h2, by rw [h1]; rfl⟩
  | g :: gs, a, b, ⟨h1, h2, h3⟩, k + 1, h => by rw [sg_succ]; exact ⟨h1, h2, Chain.take h3 k (by simpa using h)⟩
theorem sg_drop (segs : List Sg) (k j : Nat) : sg (segs.drop k) j = sg segs (k + j) := by
  unfold sg; rw [List.getD_eq_getElem?_getD, List.getD_eq_getElem?_getD, List.getElem?_drop]
theorem Inv.waste {H : Int → Int} {segs : List Sg} {wd q W y : Int} {s : Sc} (S : Sk H segs 0 W) (hw : 0 < wd) (I : Inv segs wd q s) (hr : q + wd ≤ (sg segs s.ri).x + (sg segs s.ri).l) :
    wasteOf segs q wd y s.li s.ri = wd * y - Rs H q wd.toNat := by
  obtain ⟨⟨m1, m2, m3, m4, m5⟩, ia, ib, ic⟩ := I
  have C := S.1
  have lr : s.li ≤ s.ri := Nat.le_trans m1 m2
  have c1 := C.drop s.li (by (first | exact Nat.lt_of_le_of_lt (by assumption) (by assumption) | lia))
  have len : s.ri - s.li < (segs.drop s.li).length := by rw [List.length_drop]; (first | exact Nat.sub_lt_sub_right (by assumption) (by assumption) | lia)
  have c2 := c1.take (s.ri - s.li) len
  rw [sg_drop, show s.li + (s.ri - s.li) = s.ri by (first | exact Nat.add_sub_of_le (by assumption) | lia), show s.ri - s.li + 1 = s.ri + 1 - s.li by (first | exact (Nat.succ_sub (by assumption)).symm | lia)] at c2
  unfold wasteOf
  have hne : (segs.drop s.li).take (s.ri + 1 - s.li) ≠ [] := by
    intro e
    have := congrArg List.length e
    rw [List.length_take, List.length_drop, List.length_nil] at this
    (first | grind | lia)
  have h0 : sg ((segs.drop s.li).take (s.ri + 1 - s.li)) 0 = sg segs s.li := by
    unfold sg
    rw [List.getD_eq_getElem?_getD, List.getD_eq_getElem?_getD, List.getElem?_take, if_pos (by (first | lia | omega)), List.getElem?_drop]
    rfl
  rw [waste_go (H := H) hw _ _ _ 0 c2 (fun g hg => S.2 g (List.mem_of_mem_drop (List.mem_of_mem_take hg))) hne (by rw [h0]; exact ib) ?_]
  · rw [show min (q + wd) ((sg segs s.ri).x + (sg segs s.ri).l) = q + wd by (first | exact Int.min_eq_left (by assumption) | lia), show max q (sg segs s.li).x = q by (first | exact Int.max_eq_left (by assumption) | lia), show q + wd - q = wd by (first | lia | omega)]
    (first | (simp; done) | lia)
  · intro g hg
    obtain ⟨j, hj, e⟩ := List.getElem_of_mem hg
    rw [List.length_take, List.length_drop] at hj
    have e2 : g = sg segs (s.li + j) := by
      rw [← e, List.getElem_take, List.getElem_drop]
      unfold sg; rw [List.getD_eq_getElem?_getD, List.getElem?_eq_getElem (by (first | exact nb12 (by assumption) | lia))]; rfl
    rw [e2]
    rcases Nat.lt_or_ge (s.li + j) s.ri with r | r
    · have := C.mono' r m3
      have := C.pos (s.li + j) (by (first | exact Nat.lt_trans (by assumption) (by assumption) | lia))
      (first | lia | omega)
    · rw [show s.li + j = s.ri by (first | grind | lia)]; exact ic
theorem genPts_spec {H : Int → Int} {segs : List Sg} {wd ht Hi W : Int} (S : Sk H segs 0 W) (hw : 0 < wd) : ∀ (ps : List Int) (p : Int) (s : Sc), Inv segs wd p s → (∀ q ∈ ps, p ≤ q ∧ q + wd ≤ W) → ps.Pairwise (· ≤ ·) →
    (∀ j, j < segs.length → (sg segs j).x + wd ≤ W → (sg segs j).x ≤ p ∨ (sg segs j).x ∈ ps) →
    (∀ pt ∈ genPts segs wd ht Hi ps s, pt.w = wd ∧ pt.l = ht ∧ pt.x ∈ ps ∧ pt.y + ht ≤ Hi ∧ IsBase H pt.x wd pt.y ∧ wasteOf segs pt.x wd pt.y pt.li pt.ri = wd * pt.y - Rs H pt.x wd.toNat) ∧
    (∀ q ∈ ps, ∀ b, IsBase H q wd b → b + ht ≤ Hi → ∃ pt ∈ genPts segs wd ht Hi ps s, pt.x = q) ∧ ((genPts segs wd ht Hi ps s).map (·.x)).Pairwise (· ≤ ·)
  | [], _, _, _, _, _, _ => ⟨fun _ h => (nomatch h), fun _ h => (nomatch h), List.Pairwise.nil⟩
  | q :: ps, p, s, I, hq, hs, hf => by
    obtain ⟨hq1, hq2⟩ := hq q (.head _)
    have hs1 := List.pairwise_cons.mp hs
    obtain ⟨I', hr⟩ := gstep_inv S.1 hw I hq1 hq2 fun j hj h => by
      rcases hf j hj h with r | r
      · exact .inl r
      · rcases List.mem_cons.mp r with r | r
        · exact .inr (Int.le_of_eq r.symm)
        · exact .inr (hs1.1 _ r)
    have hb := I'.base S hw hr
    have hwa := I'.waste (y := (gstep segs wd q s).sh) S hw hr
    obtain ⟨g1, g2, g3⟩ := genPts_spec (ht := ht) (Hi := Hi) S hw ps q (gstep segs wd q s) I' (fun r hr => ⟨hs1.1 r hr, (hq r (.tail _ hr)).2⟩) hs1.2 fun j hj h => by
      rcases hf j hj h with r | r
      · exact .inl (by (first | exact Int.le_trans (by assumption) (by assumption) | lia))
      · rcases List.mem_cons.mp r with r | r
        · exact .inl (Int.le_of_eq r)
        · exact .inr r
    rw [genPts_cons]
    split
    · rename_i c
      refine ⟨fun pt hpt => ?_, fun r hr b hb' hle => ?_, ?_⟩
      · rcases List.mem_cons.mp hpt with rfl | hpt
        · exact ⟨rfl, rfl, .head _, c, hb, hwa⟩
        · obtain ⟨a1, a2, a3, a4⟩ := g1 pt hpt
          exact ⟨a1, a2, .tail _ a3, a4⟩
      · rcases List.mem_cons.mp hr with rfl | hr
        · exact ⟨_, .head _, rfl⟩
        · obtain ⟨pt, a, e⟩ := g2 r hr b hb' hle
          exact ⟨pt, .tail _ a, e⟩
      · rw [List.map_cons]
        refine List.pairwise_cons.mpr ⟨fun z hz => ?_, g3⟩
        obtain ⟨pt, hpt, rfl⟩ := List.mem_map.mp hz
        exact hs1.1 _ (g1 pt hpt).2.2.1
    · rename_i c
      refine ⟨fun pt hpt => ?_, fun r hr b hb' hle => ?_, g3⟩
      · obtain ⟨a1, a2, a3, a4⟩ := g1 pt hpt
        exact ⟨a1, a2, .tail _ a3, a4⟩
      · rcases List.mem_cons.mp hr with rfl | hr
        · exact absurd (by rw [hb.uniq hb']; exact hle) c
        · exact g2 r hr b hb' hle
noncomputable def IsLeft (segs : List Sg) (x : Int) : Prop := ∃ j, j < segs.length ∧ (sg segs j).x = x
noncomputable def IsRight (segs : List Sg) (x : Int) : Prop := ∃ j, j < segs.length ∧ (sg segs j).x + (sg segs j).l = x
/- what _generate_placements owes -/
structure Places (H : Int → Int) (W Hi : Int) (segs : List Sg) (wd ht : Int) (pts : List Pt) : Prop where
  ok : ∀ pt ∈ pts, pt.w = wd ∧ pt.l = ht ∧ 0 ≤ pt.x ∧ pt.x + wd ≤ W ∧ pt.y + ht ≤ Hi ∧ IsBase H pt.x wd pt.y ∧ wasteOf segs pt.x wd pt.y pt.li pt.ri = wd * pt.y - Rs H pt.x wd.toNat
  full : ∀ x, 0 ≤ x → x + wd ≤ W → IsLeft segs x ∨ IsRight segs (x + wd) → ∀ b, IsBase H x wd b → b + ht ≤ Hi → ∃ pt ∈ pts, pt.x = x
  srt : (pts.map (·.x)).Pairwise (· ≤ ·)
  idx : ∀ pt ∈ pts, pt.li ≤ pt.ri ∧ pt.ri < segs.length
theorem Chain.bounds {segs : List Sg} {W : Int} (C : Chain 0 segs W) {j : Nat} (hj : j < segs.length) : 0 ≤ (sg segs j).x ∧ 0 < (sg segs j).l ∧ (sg segs j).x + (sg segs j).l ≤ W := by
  have h0 := C.first (by (first | lia | omega))
  have hl := C.last (segs.length - 1) (by (first | exact Nat.sub_add_cancel (by lia) | lia))
  have p := C.pos j hj
  have p0 := C.pos 0 (by (first | lia | omega))
  have pl := C.pos (segs.length - 1) (by (first | exact Nat.sub_one_lt_of_lt (by assumption) | lia))
  refine ⟨?_, p, ?_⟩
  · rcases Nat.eq_zero_or_pos j with r | r
    · rw [r]; (first | exact Int.le_of_eq (Eq.symm (by assumption)) | lia)
    · have := C.mono' r hj; (first | lia | omega)
  · rcases Nat.lt_or_ge j (segs.length - 1) with r | r
    · have := C.mono' r (by (first | exact Nat.sub_one_lt_of_lt (by assumption) | lia)); (first | exact Int.le_trans (by assumption) (by lia) | lia)
    · rw [show j = segs.length - 1 by (first | lia | omega)]; (first | exact Int.le_of_eq (by assumption) | lia)
theorem mem_sg {segs : List Sg} {g : Sg} (h : g ∈ segs) : ∃ j, j < segs.length ∧ sg segs j = g := by
  obtain ⟨j, hj, e⟩ := List.getElem_of_mem h
  exact ⟨j, hj, by unfold sg; rw [List.getD_eq_getElem?_getD, List.getElem?_eq_getElem hj]; exact e⟩
theorem places_ok {H : Int → Int} {segs : List Sg} {wd ht Hi W : Int} {ps : List Int} {f t : Sg} (S : Sk H segs 0 W) (hw : 0 < wd) (hf : segs[0]? = some f) (ht0 : segs.getLast? = some t)
    (hp : ps.Perm (lefts segs wd (t.x + t.l) ++ rights segs wd f.x)) (hs : ps.Pairwise (· ≤ ·)) : Places H W Hi segs wd ht (genPts segs wd ht Hi ps ⟨0, 0, 0, f.y⟩) := by
  have C := S.1
  have hn : 0 < segs.length := by
    rcases Nat.eq_zero_or_pos segs.length with q | q
    · rw [List.getElem?_eq_none (by (first | exact Nat.le_of_eq (by assumption) | lia))] at hf; cases hf
    · exact q
  have ef : sg segs 0 = f := by unfold sg; rw [List.getD_eq_getElem?_getD, hf]; rfl
  have et := sg_last ht0
  have hlast := C.last (segs.length - 1) (by (first | exact Nat.sub_add_cancel (by assumption) | lia))
  rw [et] at hlast
  have h0 := C.first hn
  have p0 := C.pos 0 hn
  rw [hlast] at hp
  have hfx : f.x = 0 := by rw [← ef]; exact h0
  rw [hfx] at hp
  have inl : ∀ j, j < segs.length → (sg segs j).x + wd ≤ W → (sg segs j).x ∈ ps := fun j hj h => by
    rw [hp.mem_iff]
    refine List.mem_append_left _ (List.mem_map.mpr ⟨sg segs j, List.mem_filter.mpr ⟨sg_mem hj, by simpa using h⟩, rfl⟩)
  have inr : ∀ j, j < segs.length → 0 ≤ (sg segs j).x + (sg segs j).l - wd → (sg segs j).x + (sg segs j).l - wd ∈ ps := fun j hj h => by
    rw [hp.mem_iff]
    refine List.mem_append_right _ (List.mem_map.mpr ⟨sg segs j, List.mem_filter.mpr ⟨sg_mem hj, by simpa using h⟩, rfl⟩)
  have hq : ∀ q ∈ ps, 0 ≤ q ∧ q + wd ≤ W := fun q hq => by
    rw [hp.mem_iff] at hq
    rcases List.mem_append.mp hq with hq | hq
    · obtain ⟨g, hg, rfl⟩ := List.mem_map.mp hq
      obtain ⟨hg, c⟩ := List.mem_filter.mp hg
      obtain ⟨j, hj, rfl⟩ := mem_sg hg
      exact ⟨(C.bounds hj).1, by simpa using c⟩
    · obtain ⟨g, hg, rfl⟩ := List.mem_map.mp hq
      obtain ⟨hg, c⟩ := List.mem_filter.mp hg
      obtain ⟨j, hj, rfl⟩ := mem_sg hg
      have := (C.bounds hj).2.2
      exact ⟨by simpa using c, by (first | grind | lia)⟩
  have I : Inv segs wd 0 ⟨0, 0, 0, f.y⟩ := by
    refine ⟨⟨Nat.le_refl _, Nat.le_refl _, hn, by show f.y = (sg segs 0).y; rw [ef], fun j _ j2 => ?_⟩, ?_, ?_, ?_⟩
    · have j2 : j ≤ 0 := j2
      show (sg segs j).y ≤ f.y
      rw [show j = 0 by (first | exact Nat.le_antisymm (by assumption) (by assumption) | lia), ef]; exact Int.le_refl _
    · show (sg segs 0).x ≤ 0; (first | exact Int.le_of_eq (by assumption) | lia)
    · show 0 < (sg segs 0).x + (sg segs 0).l; (first | exact Int.lt_of_lt_of_le (by assumption) (by lia) | lia)
    · show (sg segs 0).x < 0 + wd; (first | lia | omega)
  obtain ⟨g1, g2, g3⟩ := genPts_spec (ht := ht) (Hi := Hi) S hw ps 0 ⟨0, 0, 0, f.y⟩ I hq hs fun j hj h => .inr (inl j hj h)
  refine ⟨fun pt hpt => ?_, fun x x1 x2 hx b hb hle => ?_, g3, fun pt hpt => ?_⟩
  · obtain ⟨a1, a2, a3, a4⟩ := g1 pt hpt
    exact ⟨a1, a2, (hq _ a3).1, (hq _ a3).2, a4⟩
  · refine g2 x ?_ b hb hle
    rcases hx with ⟨j, hj, e⟩ | ⟨j, hj, e⟩
    · rw [← e]; exact inl j hj (by (first | lia | omega))
    · have := inr j hj (by (first | lia | omega))
      rwa [show (sg segs j).x + (sg segs j).l - wd = x by (first | lia | omega)] at this
  · obtain ⟨b1, b2, -⟩ := genPts_ok segs wd ht Hi t ht0 hw ps ⟨0, 0, 0, f.y⟩ (fun q h => by rw [hlast]; exact (hq q h).2) (Nat.le_refl _) hn pt hpt
    exact ⟨b1, b2⟩
theorem Sk.left {H : Int → Int} {segs : List Sg} {W x : Int} (S : Sk H segs 0 W) (h0 : 0 ≤ x) (hx : x < W) (n : ¬ IsLeft segs x) : 0 < x ∧ H (x - 1) = H x := by
  obtain ⟨j, hj, j1, j2⟩ := S.1.at x h0 hx
  have hne : (sg segs j).x ≠ x := fun e => n ⟨j, hj, e⟩
  have hb := S.1.bounds hj
  refine ⟨by (first | lia | omega), ?_⟩
  rw [S.2 _ (sg_mem hj) x j1 j2, S.2 _ (sg_mem hj) (x - 1) (by (first | lia | omega)) (by (first | lia | omega))]
theorem Sk.right {H : Int → Int} {segs : List Sg} {W x : Int} (S : Sk H segs 0 W) (h0 : 0 < x) (hx : x ≤ W) (n : ¬ IsRight segs x) : x < W ∧ H (x - 1) = H x := by
  obtain ⟨j, hj, j1, j2⟩ := S.1.at (x - 1) (by (first | exact Int.sub_nonneg_of_le (by assumption) | lia)) (by (first | lia | omega))
  have hne : (sg segs j).x + (sg segs j).l ≠ x := fun e => n ⟨j, hj, e⟩
  have hb := S.1.bounds hj
  refine ⟨by (first | lia | omega), ?_⟩
  rw [S.2 _ (sg_mem hj) x (by (first | exact Int.le_trans (by assumption) (by lia) | lia)) (by (first | lia | omega)), S.2 _ (sg_mem hj) (x - 1) (by (first | omega | lia)) (by (first | omega | lia))]
theorem Rs_shift (H : Int → Int) (a : Int) : ∀ n : Nat, Rs H (a + 1) n = Rs H a n + H (a + n) - H a
  | 0 => by rw [Rs_zero, Rs_zero]; simp
  | n + 1 => by
    rw [Rs_succ, Rs_succ, Rs_shift H a n, show a + ((n + 1 : Nat) : Int) = a + 1 + (n : Int) by (first | lia | omega)]
    (first | lia | omega)
/- the law's two measures of a place; way 0: the top; 1: the waste; 2: the waste, then the top -/
noncomputable def m1 (way : Nat) (b h w r : Int) : Int := if way = 0 then b + h else b * w - r
noncomputable def m2 (way : Nat) (b h : Int) : Int := if way = 2 then b + h else 0
/- the packer's measure -/
noncomputable def mu (way : Nat) (N b h w r : Int) : Int := if way = 2 then m1 way b h w r * N + m2 way b h else m1 way b h w r
noncomputable def Lex2 (a b a' b' : Int) : Prop := a < a' ∨ (a = a' ∧ b ≤ b')
theorem mul_step {a a' N : Int} (h : a + 1 ≤ a') (hN : 0 ≤ N) : a * N + N ≤ a' * N := by
  have h2 : 0 ≤ a' - (a + 1) := by (first | exact Int.sub_nonneg_of_le (by assumption) | lia)
  have := Int.mul_nonneg h2 hN
  rw [Int.sub_mul, Int.add_mul, Int.one_mul] at this
  (first | grind | lia)
theorem mu_le {way : Nat} {N b h w r b' h' w' r' : Int} (h0 : 0 < b + h) (h1 : b + h ≤ N) (h0' : 0 < b' + h') (h1' : b' + h' ≤ N) :
    (mu way N b h w r ≤ mu way N b' h' w' r' → Lex2 (m1 way b h w r) (m2 way b h) (m1 way b' h' w' r') (m2 way b' h')) ∧ (Lex2 (m1 way b h w r) (m2 way b h) (m1 way b' h' w' r') (m2 way b' h') → mu way N b h w r ≤ mu way N b' h' w' r') := by
  unfold mu Lex2
  split
  · rename_i hway
    have e1 : m2 way b h = b + h := if_pos hway
    have e2 : m2 way b' h' = b' + h' := if_pos hway
    rw [e1, e2]
    generalize m1 way b h w r = a
    generalize m1 way b' h' w' r' = a'
    constructor
    · intro q
      rcases Int.lt_trichotomy a a' with c | c | c
      · exact .inl c
      · subst c; exact .inr ⟨rfl, by (first | lia | omega)⟩
      · have := mul_step (a := a') (a' := a) (N := N) (by (first | assumption | lia)) (by (first | exact Int.le_of_lt (Int.lt_of_lt_of_le (by assumption) (by assumption)) | lia))
        (first | exact Or.inl (by lia) | lia)
    · rintro (c | ⟨c, d⟩)
      · have := mul_step (a := a) (a' := a') (N := N) (by (first | assumption | lia)) (by (first | exact Int.le_of_lt (Int.lt_of_lt_of_le (by assumption) (by assumption)) | lia))
        (first | lia | omega)
      · subst c; (first | lia | omega)
  · rename_i hway
    have e1 : m2 way b h = 0 := if_neg hway
    have e2 : m2 way b' h' = 0 := if_neg hway
    rw [e1, e2]
    exact ⟨fun q => by (first | lia | omega), fun q => by (first | lia | omega)⟩
/- a column that the left side can take: side k at x, upon b -/
noncomputable def Col (H : Int → Int) (W Hi : Int) (sides : List (Int × Int)) (k : Nat) (x b : Int) : Prop :=
  ∃ w h, sides[k]? = some (w, h) ∧ 0 ≤ x ∧ x + w ≤ W ∧ IsBase H x w b ∧ b + h ≤ Hi
noncomputable def Key (way : Nat) (H : Int → Int) (sides : List (Int × Int)) (k : Nat) (x b : Int) : Int × Int :=
  match sides[k]? with
  | some (w, h) => (m1 way b h w (Rs H x w.toNat), m2 way b h)
  | none => (0, 0)
noncomputable def LexLe (p q : Int × Int) (k k' : Nat) (x x' : Int) : Prop := p.1 < q.1 ∨ (p.1 = q.1 ∧ (p.2 < q.2 ∨ (p.2 = q.2 ∧ (k < k' ∨ (k = k' ∧ x ≤ x')))))
/- the law's place -/
noncomputable def IsDue (way : Nat) (H : Int → Int) (W Hi : Int) (sides : List (Int × Int)) (k : Nat) (x b : Int) : Prop :=
  Col H W Hi sides k x b ∧ ∀ k' x' b', Col H W Hi sides k' x' b' → LexLe (Key way H sides k x b) (Key way H sides k' x' b') k k' x x'
theorem shift_left {H : Int → Int} {x w b : Int} (hw : 0 < w) (hb : IsBase H x w b) (e : H (x - 1) = H x) : ∃ b', b' ≤ b ∧ IsBase H (x - 1) w b' := by
  -- the highest of the new window
  have hall : ∀ z, x - 1 ≤ z → z < x - 1 + w → H z ≤ b := fun z z1 z2 => by
    rcases Int.lt_or_le z x with q | q
    · rw [show z = x - 1 by (first | lia | omega), e]; exact hb.1 x (Int.le_refl _) (by (first | exact Int.lt_add_of_pos_right _ (by assumption) | lia))
    · exact hb.1 z q (by (first | exact Int.lt_of_lt_of_le (by assumption) (by lia) | lia))
  have ex : ∀ (n : Nat) (a : Int), 0 < n → ∃ b', IsBase H a n b' := by
    intro n
    induction n with
    | zero => intro a h; exact absurd h (Nat.lt_irrefl _)
    | succ n ih =>
      intro a _
      rcases Nat.eq_zero_or_pos n with q | q
      · subst q
        exact ⟨H a, fun z z1 z2 => by rw [show z = a by (first | lia | omega)]; exact Int.le_refl _, a, Int.le_refl _, by (first | exact Int.le_refl _ | lia), rfl⟩
      · obtain ⟨b', h1, z, z1, z2, z3⟩ := ih a q
        rcases Int.lt_or_le b' (H (a + n)) with r | r
        · exact ⟨H (a + n), fun y y1 y2 => by
            rcases Int.lt_or_le y (a + n) with t | t
            · have := h1 y y1 t; (first | exact Int.le_of_lt (Int.lt_of_le_of_lt (by assumption) (by assumption)) | lia)
            · rw [show y = a + n by (first | lia | omega)]; exact Int.le_refl _, a + n, by (first | exact Int.le_of_lt (Int.lt_of_le_of_lt (by assumption) (by assumption)) | lia), by (first | lia | omega), rfl⟩
        · exact ⟨b', fun y y1 y2 => by
            rcases Int.lt_or_le y (a + n) with t | t
            · exact h1 y y1 t
            · rw [show y = a + n by (first | lia | omega)]; exact r, z, z1, by (first | exact Int.lt_of_lt_of_le (by assumption) (by lia) | lia), z3⟩
  obtain ⟨b', hb'⟩ := ex w.toNat (x - 1) (by (first | lia | omega))
  rw [Int.toNat_of_nonneg (by (first | exact Int.le_of_lt (by assumption) | lia))] at hb'
  obtain ⟨_, z, z1, z2, z3⟩ := id hb'
  exact ⟨b', by rw [← z3]; exact hall z z1 z2, hb'⟩
theorem key_of {way : Nat} {H : Int → Int} {sides : List (Int × Int)} {k : Nat} {x b w h : Int} (e : sides[k]? = some (w, h)) : Key way H sides k x b = (m1 way b h w (Rs H x w.toNat), m2 way b h) := by unfold Key; rw [e]
/- the law's place is an end of a piece -/
theorem due_end {way : Nat} {H : Int → Int} {segs : List Sg} {W Hi : Int} {sides : List (Int × Int)} {k : Nat} {x b w h : Int} (S : Sk H segs 0 W) (e : sides[k]? = some (w, h)) (hw : 0 < w) (D : IsDue way H W Hi sides k x b) : IsLeft segs x ∨ IsRight segs (x + w) := by
  obtain ⟨⟨w', h', e', x0, x1, hb, hle⟩, D⟩ := D
  rw [e] at e'; cases e'
  apply Classical.byContradiction
  intro n
  have nl : ¬ IsLeft segs x := fun q => n (.inl q)
  have nr : ¬ IsRight segs (x + w) := fun q => n (.inr q)
  obtain ⟨x2, e1⟩ := S.left x0 (by (first | exact Int.lt_of_lt_of_le (Int.lt_add_of_pos_right _ (by assumption)) (by assumption) | lia)) nl
  obtain ⟨x3, e2⟩ := S.right (by (first | exact Int.lt_of_le_of_lt (by assumption) (Int.lt_add_of_pos_right _ (by assumption)) | lia)) x1 nr
  have kx := key_of (way := way) (H := H) (x := x) (b := b) e
  have hn : ((w.toNat : Nat) : Int) = w := Int.toNat_of_nonneg (by (first | exact Int.le_of_lt (by assumption) | lia))
  have r1 := Rs_shift H (x - 1) w.toNat
  have r2 := Rs_shift H x w.toNat
  rw [hn, show x - 1 + 1 = x by (first | exact Int.sub_add_cancel _ _ | lia)] at r1
  rw [hn] at r2
  rw [show x - 1 + w = x + w - 1 by (first | lia | omega)] at r1
  by_cases hway : way = 0
  · obtain ⟨b', hb1, hb2⟩ := shift_left hw hb e1
    have q := D k (x - 1) b' ⟨w, h, e, by (first | exact Int.sub_nonneg_of_le (by assumption) | lia), by (first | lia | omega), hb2, by (first | lia | omega)⟩
    rw [kx, key_of e] at q
    unfold LexLe m1 m2 at q
    try dsimp only at q
    rw [if_pos hway, if_pos hway, if_neg (by rw [hway]; decide)] at q
    rcases q with q | ⟨-, q | ⟨-, q | ⟨-, q⟩⟩⟩ <;> first | exact absurd q (Int.lt_irrefl _) | exact absurd q (Nat.lt_irrefl _) | lia
  have keep : ∀ x' r, Rs H x' w.toNat = r → 0 ≤ x' → x' + w ≤ W → IsBase H x' w b → (Rs H x w.toNat < r ∨ (Rs H x w.toNat = r ∧ x' < x)) → False := by
    intro x' r hr y0 y1 hb' c
    have q := D k x' b ⟨w, h, e, y0, y1, hb', hle⟩
    rw [kx, key_of e, hr] at q
    unfold LexLe m1 m2 at q
    try dsimp only at q
    rw [if_neg hway, if_neg hway] at q
    generalize (if way = 2 then b + h else 0) = M at q
    generalize b * w = N at q
    lia
  obtain ⟨b1, z, z1, z2, z3⟩ := id hb
  rcases Int.lt_trichotomy (H x) (H (x + w - 1)) with c | c | c
  · refine keep (x + 1) _ rfl (by (first | exact Int.le_trans (by assumption) (by lia) | lia)) (by (first | lia | omega)) ⟨fun y y1 y2 => ?_, z, ?_, by (first | exact Int.lt_of_lt_of_le (by assumption) (by lia) | lia), z3⟩ (.inl (by (first | lia | omega)))
    · rcases Int.lt_or_le y (x + w) with t | t
      · exact b1 y (by (first | exact Int.le_of_lt (by assumption) | lia)) t
      · rw [show y = x + w by (first | lia | omega), ← e2]; exact b1 _ (by (first | lia | omega)) (by (first | lia | omega))
    · have := b1 (x + w - 1) (by (first | lia | omega)) (by (first | lia | omega))
      have : z ≠ x := fun q => by rw [q] at z3; (first | grind | lia)
      (first | lia | omega)
  · refine keep (x - 1) _ rfl (by (first | exact Int.sub_nonneg_of_le (by assumption) | lia)) (by (first | lia | omega)) ⟨fun y y1 y2 => ?_, ?_⟩ (.inr ⟨by (first | lia | omega), by (first | lia | omega)⟩)
    · rcases Int.lt_or_le y x with t | t
      · rw [show y = x - 1 by (first | lia | omega), e1]; exact b1 _ (by (first | exact Int.le_refl _ | lia)) (by (first | exact Int.lt_add_of_pos_right _ (by assumption) | lia))
      · exact b1 y t (by (first | exact Int.lt_of_lt_of_le (by assumption) (by lia) | lia))
    · by_cases q : z = x + w - 1
      · exact ⟨x - 1, by (first | exact Int.le_refl _ | lia), by (first | exact Int.lt_add_of_pos_right _ (by assumption) | lia), by rw [e1, c, ← q]; exact z3⟩
      · exact ⟨z, by (first | lia | omega), by (first | lia | omega), z3⟩
  · refine keep (x - 1) _ rfl (by (first | exact Int.sub_nonneg_of_le (by assumption) | lia)) (by (first | lia | omega)) ⟨fun y y1 y2 => ?_, z, by (first | lia | omega), ?_, z3⟩ (.inl (by (first | lia | omega)))
    · rcases Int.lt_or_le y x with t | t
      · rw [show y = x - 1 by (first | lia | omega), e1]; exact b1 _ (by (first | exact Int.le_refl _ | lia)) (by (first | exact Int.lt_add_of_pos_right _ (by assumption) | lia))
      · exact b1 y t (by (first | exact Int.lt_of_lt_of_le (by assumption) (by lia) | lia))
    · have := b1 x (by (first | exact Int.le_refl _ | lia)) (by (first | exact Int.lt_add_of_pos_right _ (by assumption) | lia))
      have : z ≠ x + w - 1 := fun q => by rw [q] at z3; (first | grind | lia)
      (first | lia | omega)
noncomputable def wayOf (C : Nat) : Nat := if C = 728 then 0 else if C = 690 then 1 else 2
theorem fit_mu {C : Addr} {H : Int → Int} {W Hi : Int} {segs : List Sg} {wd ht : Int} {pts : List Pt} (P : Places H W Hi segs wd ht pts) {pt : Pt} (h : pt ∈ pts) : fitOf C W Hi segs pt = mu (wayOf C) (W * Hi) pt.y ht wd (Rs H pt.x wd.toNat) := by
  obtain ⟨a1, a2, -, -, -, -, a3⟩ := P.ok pt h
  unfold fitOf mu wayOf
  by_cases c1 : C = 728
  · rw [if_pos c1, if_pos c1, if_neg (by decide)]
    unfold m1; rw [if_pos rfl, a2]
  · rw [if_neg c1, if_neg c1]
    by_cases c2 : C = 690
    · rw [if_pos c2, if_pos c2, if_neg (by decide)]
      unfold m1; rw [if_neg (by decide), a1, a3, Int.mul_comm]
    · rw [if_neg c2, if_neg c2, if_pos rfl]
      unfold m1 m2; rw [if_neg (by decide), if_pos rfl, a1, a2, a3, Int.mul_comm wd, Int.mul_assoc]
noncomputable def sidesOf (turn : Bool) (a b : Int) : List (Int × Int) := if turn = true then [(a, b), (b, a)] else [(a, b)]
theorem sides_cases {turn : Bool} {a b w h : Int} {k : Nat} (e : (sidesOf turn a b)[k]? = some (w, h)) : (k = 0 ∧ w = a ∧ h = b) ∨ (k = 1 ∧ turn = true ∧ w = b ∧ h = a) := by
  unfold sidesOf at e
  cases turn with
  | false =>
    match k, e with
    | 0, e => cases e; exact .inl ⟨rfl, rfl, rfl⟩
  | true =>
    match k, e with
    | 0, e => cases e; exact .inl ⟨rfl, rfl, rfl⟩
    | 1, e => cases e; exact .inr ⟨rfl, rfl, rfl, rfl⟩
theorem sides_zero (turn : Bool) (a b : Int) : (sidesOf turn a b)[0]? = some (a, b) := by unfold sidesOf; cases turn <;> rfl
theorem srt_lt {pts : List Pt} (h : (pts.map (·.x)).Pairwise (· ≤ ·)) {i j : Nat} {p q : Pt} (hi : pts[i]? = some p) (hj : pts[j]? = some q) (hlt : p.x < q.x) : i < j := by
  rcases Nat.lt_or_ge i j with c | c
  · exact c
  · exfalso
    have hi' : i < pts.length := by
      rcases Nat.lt_or_ge i pts.length with r | r
      · exact r
      · rw [List.getElem?_eq_none r] at hi; cases hi
    rw [List.getElem?_eq_getElem hi'] at hi
    rw [List.getElem?_eq_getElem (by (first | exact Nat.lt_of_le_of_lt (by assumption) (by assumption) | lia))] at hj
    rcases Nat.eq_or_lt_of_le c with c | c
    · subst c; rw [hi] at hj; cases hj; (first | exact absurd (by assumption : _ < _) (Int.lt_irrefl _) | lia)
    · have := List.pairwise_iff_getElem.mp h j i (by simp; (first | exact Nat.lt_of_le_of_lt (by assumption) (by assumption) | lia)) (by simp; (first | omega | lia)) c
      simp only [List.getElem_map] at this
      have e1 := Option.some.inj hi
      have e2 := Option.some.inj hj
      rw [e1, e2] at this
      (first | lia | omega)
inductive SideAt (C : Addr) (H : Int → Int) (W Hi a b : Int) (turn : Bool) (segs : List Sg) (g0 g1 : List Pt) (i : Nat) (pt : Pt) : Prop
  | mk (k : Nat) (w h : Int) (e : (sidesOf turn a b)[k]? = some (w, h)) (w0 : 0 < w) (h0 : 0 < h) (pw : pt.w = w) (pl : pt.l = h) (x0 : 0 ≤ pt.x) (x1 : pt.x + w ≤ W) (y1 : pt.y + h ≤ Hi) (bs : IsBase H pt.x w pt.y)
    (fi : fitOf C W Hi segs pt = mu (wayOf C) (W * Hi) pt.y h w (Rs H pt.x w.toNat)) (ci : (k = 0 ∧ i < g0.length ∧ g0[i]? = some pt) ∨ (k = 1 ∧ g0.length ≤ i ∧ g1[i - g0.length]? = some pt ∧ turn = true ∧ a ≠ b)) : SideAt C H W Hi a b turn segs g0 g1 i pt
inductive FindAt (g0 g1 : List Pt) (k : Nat) (x : Int) : Prop
  | mk (j : Nat) (pt : Pt) (e : (g0 ++ g1)[j]? = some pt) (ex : pt.x = x) (ck : (k = 0 ∧ j < g0.length ∧ g0[j]? = some pt) ∨ (k = 1 ∧ g0.length ≤ j ∧ g1[j - g0.length]? = some pt)) : FindAt g0 g1 k x
theorem lex_eq {a a' b b' : Int} {P : Prop} (lx : a < a' ∨ (a = a' ∧ b ≤ b')) (le : a' < a ∨ (a' = a ∧ (b' < b ∨ (b' = b ∧ P)))) : a' = a ∧ b' = b ∧ P :=
  le.elim (fun l => lx.elim (fun r => absurd (Int.lt_trans l r) (Int.lt_irrefl _)) fun r => absurd (r.1 ▸ l) (Int.lt_irrefl _)) fun l =>
    lx.elim (fun r => absurd (l.1 ▸ r) (Int.lt_irrefl _)) fun r => l.2.elim (fun q => absurd (Int.lt_of_lt_of_le q r.2) (Int.lt_irrefl _)) fun q => ⟨l.1, q.1, q.2⟩
theorem choice {C : Addr} {H : Int → Int} {W Hi a b : Int} {turn : Bool} {segs : List Sg} {g0 g1 : List Pt} (S : Sk H segs 0 W) (ha : 0 < a) (hb : 0 < b) (hW : 1 ≤ W) (hH : ∀ z, 0 ≤ z → z < W → 0 ≤ H z)
    (P0 : Places H W Hi segs a b g0) (P1 : turn = true → a ≠ b → Places H W Hi segs b a g1) (P1' : ¬ (turn = true ∧ a ≠ b) → g1 = []) :
    (∀ pt ∈ g0 ++ g1, ∃ k, Col H W Hi (sidesOf turn a b) k pt.x pt.y) ∧ (g0 ++ g1 = [] → ∀ k x b', ¬ IsDue (wayOf C) H W Hi (sidesOf turn a b) k x b') ∧
    ∀ (i : Nat) (pt : Pt), (g0 ++ g1)[i]? = some pt → (∀ (j : Nat) (pt' : Pt), (g0 ++ g1)[j]? = some pt' → fitOf C W Hi segs pt ≤ fitOf C W Hi segs pt' ∧ (j < i → fitOf C W Hi segs pt < fitOf C W Hi segs pt')) →
      ∀ (k : Nat) (x b' : Int), IsDue (wayOf C) H W Hi (sidesOf turn a b) k x b' → (sidesOf turn a b)[k]? = some (pt.w, pt.l) ∧ pt.x = x ∧ pt.y = b' ∧
        fitOf C W Hi segs pt = (if wayOf C = 2 then (Key (wayOf C) H (sidesOf turn a b) k x b').1 * W * Hi + (Key (wayOf C) H (sidesOf turn a b) k x b').2 else (Key (wayOf C) H (sidesOf turn a b) k x b').1) := by
  -- a point of the list: its side, its column
  have side : ∀ i pt, (g0 ++ g1)[i]? = some pt → SideAt C H W Hi a b turn segs g0 g1 i pt := by
    intro i pt hi
    rcases Nat.lt_or_ge i g0.length with c | c
    · rw [List.getElem?_append_left c] at hi
      have hm := List.mem_of_getElem? hi
      obtain ⟨a1, a2, a3, a4, a5, a6, a7⟩ := P0.ok pt hm
      exact ⟨0, a, b, sides_zero .., ha, hb, a1, a2, a3, a4, a5, a6, fit_mu P0 hm, .inl ⟨rfl, c, hi⟩⟩
    · rw [List.getElem?_append_right c] at hi
      have hm := List.mem_of_getElem? hi
      by_cases q : turn = true ∧ a ≠ b
      · obtain ⟨q1, q2⟩ := q
        have PP := P1 q1 q2
        subst q1
        obtain ⟨a1, a2, a3, a4, a5, a6, a7⟩ := PP.ok pt hm
        exact ⟨1, b, a, rfl, hb, ha, a1, a2, a3, a4, a5, a6, fit_mu PP hm, .inr ⟨rfl, c, hi, rfl, q2⟩⟩
      · rw [P1' q] at hm; cases hm
  -- the law's place is a point of the list
  have find : ∀ k x b', IsDue (wayOf C) H W Hi (sidesOf turn a b) k x b' → FindAt g0 g1 k x := by
    intro k x b' D
    obtain ⟨⟨w, h, e, x0, x1, hbs, hle⟩, Dl⟩ := id D
    rcases sides_cases e with ⟨rfl, rfl, rfl⟩ | ⟨rfl, ht, rfl, rfl⟩
    · have en := due_end S e ha D
      obtain ⟨pt, hm, hx⟩ := P0.full x x0 x1 en b' hbs hle
      obtain ⟨j, hj⟩ := List.mem_iff_getElem?.mp hm
      have hj' : j < g0.length := by
        rcases Nat.lt_or_ge j g0.length with r | r
        · exact r
        · rw [List.getElem?_eq_none r] at hj; cases hj
      exact ⟨j, pt, by rw [List.getElem?_append_left hj']; exact hj, hx, .inl ⟨rfl, hj', hj⟩⟩
    · have en := due_end S e hb D
      by_cases q : h = w
      · exfalso
        subst q
        have := Dl 0 x b' ⟨h, h, sides_zero .., x0, x1, hbs, hle⟩
        rw [key_of e, key_of (sides_zero ..)] at this
        unfold LexLe at this
        try dsimp only at this
        rcases this with h | ⟨-, h | ⟨-, h | ⟨h, -⟩⟩⟩ <;> first | exact absurd h (Int.lt_irrefl _) | exact absurd h (by decide)
      · have P1 := P1 ht q
        obtain ⟨pt, hm, hx⟩ := P1.full x x0 x1 en b' hbs hle
        obtain ⟨j, hj⟩ := List.mem_iff_getElem?.mp hm
        exact ⟨g0.length + j, pt, by rw [List.getElem?_append_right (by (first | exact Nat.le_add_right _ _ | lia)), Nat.add_sub_cancel_left]; exact hj, hx, .inr ⟨rfl, by (first | exact Nat.le_add_right _ _ | lia), by rw [Nat.add_sub_cancel_left]; exact hj⟩⟩
  refine ⟨fun pt hpt => ?_, fun e k x b' D => ?_, fun i pt hi hmin k x b' D => ?_⟩
  · obtain ⟨i, hi⟩ := List.mem_iff_getElem?.mp hpt
    obtain ⟨k, w, h, e, w0, h0, pw, pl, x0, x1, y1, bs, -, -⟩ := side i pt hi
    exact ⟨k, w, h, e, x0, x1, bs, y1⟩
  · obtain ⟨j, pt, hj, -⟩ := find k x b' D
    rw [e] at hj; simp at hj
  · obtain ⟨j, pt', hj, hx, hk⟩ := find k x b' D
    obtain ⟨ki, w, h, e, w0, h0, pw, pl, x0, x1, y1, bs, fi, ci⟩ := side i pt hi
    obtain ⟨kj, w', h', e', w0', h0', pw', pl', x0', x1', y1', bs', fj, cj⟩ := side j pt' hj
    obtain ⟨⟨wd, hd', ed, xd0, xd1, bd, ld⟩, Dl⟩ := id D
    have hkj : k = kj := by
      rcases hk with ⟨q1, q2, -⟩ | ⟨q1, q2, -⟩ <;> rcases cj with ⟨r1, r2, -⟩ | ⟨r1, r2, -⟩ <;> first | exact q1.trans r1.symm | exact absurd r2 (Nat.not_le.mpr q2) | exact absurd q2 (Nat.not_le.mpr r2) | lia
    subst hkj
    rw [ed] at e'
    injection e' with e'
    injection e' with ew eh
    subst ew eh
    subst hx
    have eb : pt'.y = b' := bs'.uniq bd
    subst eb
    obtain ⟨hm, hm'⟩ := hmin j pt' hj
    have lex := Dl ki pt.x pt.y ⟨w, h, e, x0, x1, bs, y1⟩
    have base0 : ∀ x w b, 0 < w → 0 ≤ x → x + w ≤ W → IsBase H x w b → 0 ≤ b := fun x w b hw hx hxw hb => by
      obtain ⟨h1, -⟩ := hb
      have := h1 x (Int.le_refl _) (by (first | exact Int.lt_add_of_pos_right _ (by assumption) | lia))
      have := hH x hx (by (first | exact Int.lt_of_lt_of_le (Int.lt_add_of_pos_right _ (by assumption)) (by assumption) | lia))
      (first | exact Int.le_trans (by assumption) (by assumption) | lia)
    have q1 := base0 _ _ _ w0 x0 x1 bs
    have q2 := base0 _ _ _ w0' x0' x1' bs'
    have hN : Hi ≤ W * Hi := by
      have := Int.mul_le_mul_of_nonneg_right hW (show (0 : Int) ≤ Hi by (first | lia | omega))
      rw [Int.one_mul] at this
      exact this
    obtain ⟨l1, l2⟩ := mu_le (way := wayOf C) (N := W * Hi) (b := pt.y) (h := h) (w := w) (r := Rs H pt.x w.toNat) (b' := pt'.y) (h' := hd') (w' := wd) (r' := Rs H pt'.x wd.toNat) (by (first | exact Int.lt_of_le_of_lt (by assumption) (Int.lt_add_of_pos_right _ (by assumption)) | lia)) (by (first | exact Int.le_trans (by assumption) (by assumption) | lia)) (by (first | exact Int.lt_of_le_of_lt (by assumption) (Int.lt_add_of_pos_right _ (by assumption)) | lia)) (by (first | exact Int.le_trans (by assumption) (by assumption) | lia))
    rw [fi, fj] at hm
    have lx := l1 hm
    rw [key_of ed, key_of e] at lex
    unfold LexLe at lex
    unfold Lex2 at lx
    try dsimp only at lex
    obtain ⟨e1, e2, hkk⟩ := lex_eq lx lex
    have fe : mu (wayOf C) (W * Hi) pt.y h w (Rs H pt.x w.toNat) = mu (wayOf C) (W * Hi) pt'.y hd' wd (Rs H pt'.x wd.toNat) := by unfold mu; rw [e1, e2]
    have nlt : ¬ j < i := fun q => by
      have := hm' q
      rw [fi, fj, fe] at this
      exact Int.lt_irrefl _ this
    have same : k = ki ∧ pt'.x = pt.x := by
      rcases hkk with c | ⟨c, d⟩
      · exfalso
        rcases ci with ⟨r1, r2, r3⟩ | ⟨r1, r2, r3⟩
        · (first | exact absurd (r1 ▸ c) (Nat.not_lt_zero _) | lia)
        · rcases cj with ⟨s1, s2, s3⟩ | ⟨s1, s2, s3⟩
          · exact nlt (by (first | exact Nat.lt_of_lt_of_le (by assumption) (by assumption) | lia))
          · (first | exact absurd c (by rw [s1, r1]; exact Nat.lt_irrefl _) | lia)
      · refine ⟨c, ?_⟩
        rcases Int.lt_or_le pt'.x pt.x with r | r
        · exfalso
          rcases ci with ⟨r1, r2, r3⟩ | ⟨r1, r2, r3, r4, r5⟩
          · rcases cj with ⟨s1, s2, s3⟩ | ⟨s1, s2, s3⟩
            · exact nlt (srt_lt P0.srt s3 r3 r)
            · (first | exact absurd (s1.symm.trans (c.trans r1)) (by decide) | lia)
          · rcases cj with ⟨s1, s2, s3⟩ | ⟨s1, s2, s3, s4⟩
            · (first | exact absurd (s1.symm.trans (c.trans r1)) (by decide) | lia)
            · have := srt_lt (P1 r4 r5).srt s3 r3 r
              exact nlt (by (first | grind | lia))
        · (first | exact Int.le_antisymm (by assumption) (by assumption) | lia)
    obtain ⟨rfl, sx⟩ := same
    rw [ed] at e
    injection e with e
    injection e with ew eh
    subst ew eh
    refine ⟨by rw [pw, pl]; exact ed, sx.symm, ?_, ?_⟩
    · rw [← sx] at bs; exact bs.uniq bd
    · rw [fi, fe, key_of ed]
      unfold mu
      try dsimp only
      rw [Int.mul_assoc]
theorem Rs_nonneg {H : Int → Int} {a : Int} : ∀ n : Nat, (∀ z, a ≤ z → z < a + n → 0 ≤ H z) → 0 ≤ Rs H a n
  | 0, _ => by rw [Rs_zero]; exact Int.le_refl _
  | n + 1, h => by
    rw [Rs_succ]
    have := Rs_nonneg n (fun z z1 z2 => h z z1 (by (first | exact Int.lt_of_lt_of_le (by assumption) (by lia) | lia)))
    have := h (a + n) (by (first | lia | omega)) (by (first | lia | omega))
    (first | exact Int.add_nonneg (by assumption) (by assumption) | lia)
theorem Rs_le {H : Int → Int} {a y : Int} : ∀ n : Nat, (∀ z, a ≤ z → z < a + n → H z ≤ y) → Rs H a n ≤ n * y
  | 0, _ => by rw [Rs_zero]; simp
  | n + 1, h => by
    rw [Rs_succ]
    have := Rs_le n (fun z z1 z2 => h z z1 (by (first | exact Int.lt_of_lt_of_le (by assumption) (by lia) | lia)))
    have := h (a + n) (by (first | lia | omega)) (by (first | lia | omega))
    have : ((n + 1 : Nat) : Int) = (n : Int) + 1 := by (first | rfl | lia)
    rw [this, Int.add_mul]; (first | lia | omega)
/- the waste of a place: from 0 to eight times the bin's height -/
theorem Places.waste {H : Int → Int} {W Hi : Int} {segs : List Sg} {wd ht : Int} {pts : List Pt} (P : Places H W Hi segs wd ht pts) (hw : 0 < wd) (hh : 0 < ht) (hW : W ≤ 8) (hH : ∀ z, 0 ≤ z → z < W → 0 ≤ H z) {pt : Pt} (h : pt ∈ pts) :
    0 ≤ wasteOf segs pt.x pt.w pt.y pt.li pt.ri ∧ wasteOf segs pt.x pt.w pt.y pt.li pt.ri ≤ 8 * Hi := by
  obtain ⟨a1, a2, a3, a4, a5, a6, a7⟩ := P.ok pt h
  rw [a1, a7]
  have e : ((wd.toNat : Nat) : Int) = wd := Int.toNat_of_nonneg (by (first | exact Int.le_of_lt (by assumption) | lia))
  have q1 := Rs_nonneg (H := H) (a := pt.x) wd.toNat (fun z z1 z2 => hH z (by (first | exact Int.le_trans (by assumption) (by assumption) | lia)) (by (first | exact Int.lt_of_lt_of_le (by assumption) (by lia) | lia)))
  have q2 := Rs_le (H := H) (a := pt.x) (y := pt.y) wd.toNat (fun z z1 z2 => a6.1 z z1 (by (first | exact Int.lt_of_lt_of_le (by assumption) (by lia) | lia)))
  rw [e] at q2
  have y0 : 0 ≤ pt.y := by
    have := a6.1 pt.x (Int.le_refl _) (by (first | exact Int.lt_add_of_pos_right _ (by assumption) | lia))
    have := hH pt.x a3 (by (first | lia | omega))
    (first | exact Int.le_trans (by assumption) (by assumption) | lia)
  have q3 : wd * pt.y ≤ 8 * Hi := Int.le_trans (Int.mul_le_mul_of_nonneg_right (show wd ≤ 8 by (first | lia | omega)) y0) (by (first | lia | omega))
  (first | lia | omega)
/- the addresses of l are no part of the written world -/
noncomputable def FreeL (w : World) (h : Heap) (l : List Addr) : Prop := ∃ B, Wd w B ∧ Kept B h ∧ ∀ x ∈ l, B.get? x = none
inductive HidL (w : World) (h : Heap) (l : List Addr) : Prop
  | mk (B : Heap) (W : Wd w B) (k : Kept B h) (n : ∀ x ∈ l, B.get? x = none) (back : ∀ b o, b ∉ l → h.get? b = some o → B.get? b = some o) : HidL w h l
theorem FreeL.hide {w : World} {h : Heap} {l : List Addr} (f : FreeL w h l) : HidL w h l := by
  obtain ⟨B, W, k, n⟩ := f
  refine ⟨hideAll h l, W.keeps fun b o e => hideAll_get _ (k b o e) fun q => ?_, fun b o e => of_hideAll _ e, fun x hx => hideAll_none _ hx, fun b o nb e => hideAll_get _ e nb⟩
  rw [n _ q] at e; cases e
theorem Fm.sub {w : World} {Hs Hs' : List Addr} {B h : Heap} {L : Addr} {m : Str → Option Value} (X : Fm w Hs B L h m) (k : ∀ x ∈ Hs', x ∈ Hs) : Fm w Hs' B L h m := ⟨X.W, X.F, fun x hx => X.hid x (k x hx), fun x hx => X.odd x (k x hx)⟩
noncomputable def ButL (l : List Addr) (h h' : Heap) : Prop := ∀ b o, b ∉ l → h.get? b = some o → h'.get? b = some o
/- an object that is no record of fields -/
noncomputable def NoFields (h : Heap) (a : Addr) : Prop := ∀ o, h.get? a = some o → ∀ vs, o.data ≠ .fields vs
theorem NoFields.ns {h : Heap} {a : Addr} {m : Str → Option Value} (N : h.Ns a m) : NoFields h a := fun o e vs q => by
  obtain ⟨o', es, ep, ho, r, -⟩ := N; rw [e] at ho; cases ho; rw [q] at r; cases r
theorem NoFields.list {h : Heap} {a : Addr} {items : Array Value} (N : h.PlainList a items) : NoFields h a := fun o e vs q => by
  obtain ⟨n, ho⟩ := N; rw [e] at ho; cases ho; cases q
theorem NoFields.nsz {h : Heap} {a : Addr} {m : Str → Option Value} {z : Nat} (N : NsZ h a m z) : NoFields h a := .ns N.ns
theorem Tab.butd {h h' : Heap} {c P a : Addr} (T : Tab h c P) (k : But a h h') (n : NoFields h a) : Tab h' c P := by
  refine T.but k ?_ ?_
  · rintro rfl
    obtain ⟨ps, x, -⟩ := T
    obtain ⟨⟨o, vs, ho, hd⟩, -⟩ := code_out x
    exact n _ ho _ hd
  · rintro rfl
    obtain ⟨ps, -, -, b⟩ := T
    exact n _ b _ rfl
theorem TabL.butd {h h' : Heap} {c P a : Addr} {lp : Pos} {lq : Str} (T : TabL h c P lp lq) (k : But a h h') (n : NoFields h a) : TabL h' c P lp lq := by
  refine T.but k ?_ ?_ fun c' y => ?_
  · rintro rfl
    obtain ⟨ps, x, -⟩ := T
    obtain ⟨⟨o, vs, ho, hd⟩, -⟩ := code_out x
    exact n _ ho _ hd
  · rintro rfl
    obtain ⟨ps, -, ⟨-, b⟩, -⟩ := T
    exact n _ b _ rfl
  · rintro rfl
    obtain ⟨c2, o2, vs2, t2, a2, b2, d2, r2⟩ := y
    cases a2
    exact n _ b2 _ d2
theorem Tab.ne {h : Heap} {c P c' : Addr} {q : Str} (T : Tab h c P) (y : h.CodeRec (.ref c') q) : c' ≠ P := let ⟨_, ok, tab⟩ := T; tab_ne ok tab y
theorem Tab.butT' {h h' : Heap} {c P P₂ : Addr} (T : Tab h c P) (k : But P₂ h h') (n1 : c ≠ P₂) (n2 : P ≠ P₂) : Tab h' c P := T.but k n1 n2
/- another table turns -/
theorem TabL.butT {h h' : Heap} {c P c₂ P₂ : Addr} {lp : Pos} {lq : Str} (T : TabL h c P lp lq) (k : But P₂ h h') (T₂ : Tab h c₂ P₂) (n1 : c ≠ P₂) (n2 : P ≠ P₂) : TabL h' c P lp lq := T.but k n1 n2 fun _ y => T₂.ne y
noncomputable def lamQual : Str := "Skyline._select_position.<locals>.<lambda>"
noncomputable def lamPos : Pos := ⟨391, 76, 391, 94⟩
theorem PtsAt.weaken {h₀ h₁ h : Heap} {vals : Array Value} {pts : List Pt} (P : PtsAt h₁ h vals pts) (k : ∀ b, h₁.get? b = none → h₀.get? b = none) : PtsAt h₀ h vals pts :=
  ⟨P.1, fun i pt e => let ⟨q, r, dx, t1, t2, a, b, c, d1, d2⟩ := P.2 i pt e; ⟨q, r, dx, t1, t2, a, b, c, k _ d1, k _ d2⟩⟩
theorem PtsAt.append {h₀ h : Heap} {v1 v2 : Array Value} {p1 p2 : List Pt} (P : PtsAt h₀ h v1 p1) (P' : PtsAt h₀ h v2 p2) : PtsAt h₀ h (v1 ++ v2) (p1 ++ p2) := by
  refine ⟨by rw [Array.size_append, List.length_append, P.1, P'.1], fun i pt e => ?_⟩
  rcases Nat.lt_or_ge i p1.length with q | q
  · rw [List.getElem?_append_left q] at e
    obtain ⟨q', r, dx, t1, t2, a, b⟩ := P.2 i pt e
    exact ⟨q', r, dx, t1, t2, by rw [Array.getElem?_append_left (by have := P.1; (first | lia | omega))]; exact a, b⟩
  · rw [List.getElem?_append_right q] at e
    obtain ⟨q', r, dx, t1, t2, a, b⟩ := P'.2 _ pt e
    exact ⟨q', r, dx, t1, t2, by rw [Array.getElem?_append_right (by have := P.1; (first | lia | omega)), P.1]; exact a, b⟩
/- what _select_position gives back -/
noncomputable def Chosen (C : Addr) (Wi Hi : Int) (segs : List Sg) (pts : List Pt) (h₀ h : Heap) (T : Addr) : Prop :=
  (pts = [] ∧ TupAt h T #[.none, .none]) ∨ ∃ (i : Nat) (pt : Pt) (r dx : Addr) (t : Tok), pts[i]? = some pt ∧ (∀ (j : Nat) (pt' : Pt), pts[j]? = some pt' → fitOf C Wi Hi segs pt ≤ fitOf C Wi Hi segs pt' ∧ (j < i → fitOf C Wi Hi segs pt < fitOf C Wi Hi segs pt')) ∧
    TupAt h T #[.ref r, .int (fitOf C Wi Hi segs pt) t] ∧ RectAt h r dx pt.x pt.y pt.w pt.l .none ∧ h₀.get? r = none ∧ h₀.get? dx = none
section
variable {prog : Program} {w : World} {A : Around} {E : Value → Shared → Prop} {s : Shared}
theorem tup_item {t : Addr} {items : Array Value} {i : Nat} {n : Int} {u : Tok} {x : Value} {value slice : PySem.Expr} {Q : Value → Shared → Prop} (ht : TupAt s.heap t items) (e : n = i) (hx : items[i]? = some x) (hz : items.size ≤ 100) (h : Q x s)
    (hs : subscripted slice false (.ref t) (.int n u) = operate [.ref t, .int n u] (getItem (.ref t) (.int n u)) := by rfl) : wpAny (model prog w) A (subscriptTail value slice (.ref t) (.int n u)) Q E s := by
  subst e
  have hi : i < items.size := by
    rcases Nat.lt_or_ge i items.size with q | q
    · exact q
    · rw [Array.getElem?_eq_none q] at hx; cases hx
  obtain ⟨m, ht⟩ := ht
  refine item_tupleT (l := items.toList) (j := i) ⟨_, ht, rfl, m, by rw [Array.toArray_toList]⟩ (by (first | lia | omega)) (by (first | lia | omega)) ?_ (by rw [Array.getElem?_toList]; exact hx) h hs
  rw [Array.length_toList]
  unfold seqIndex?
  simp
  rw [if_neg (Int.not_lt.mpr (Int.natCast_nonneg _))]
  exact ⟨⟨Int.natCast_nonneg _, Int.ofNat_lt.mpr hi⟩, Int.toNat_natCast _⟩
theorem star_tup {t : Addr} {items : Array Value} {Q : List Value → Shared → Prop} (ht : TupAt s.heap t items) (hz : items.size ≤ 100) (h : ∀ h', Kept s.heap h' → Q items.toList { s with heap := h' }) : StarOf (model prog w) A E (.ref t) Q s := by
  obtain ⟨m, D⟩ := ht
  have hT' : s.TypeIs (.ref t) "tuple" := ⟨_, D, rfl⟩
  unfold StarOf notIterableAtAll
  exact wpAny_bind (wpAny_specialOf hT' PySem.F.slot_tuple_iter.lookup (wpAny_pure ⟨rfl, wpAny_collect_seq t (.inr rfl) D rfl rfl (fun h' hk => h h' hk) (by rw [sizeLine_eq]; (first | exact Nat.le_trans (by assumption) (by decide) | lia))⟩))
/- a _rect_fitness of the class C -/
noncomputable def FitC (prog : Program) (w : World) (C f : Addr) : Prop := ∀ {A : Around} {s : Shared} {p dp sl rl' r dx : Addr} {Wi Hi x y wd l : Int} {turn : Bool} {rid : Value} {items : Array Value} {segs : List Sg} {li ri : Nat} {tl tr : Tok} {R : Result → Shared → Prop}, Wd w s.heap → Pk s.heap p dp C Wi Hi turn sl rl' →
  s.heap.PlainList sl items → Segs s.heap items segs → items.size ≤ 10 → RectAt s.heap r dx x y wd l rid → li ≤ ri + 1 → ri + 1 ≤ segs.length → (∀ g ∈ segs, -(2 ^ 40) < min (x + wd) (g.x + g.l) - max x g.x ∧ min (x + wd) (g.x + g.l) - max x g.x < 2 ^ 40) →
  IntMulOk (wasteOf segs x wd y li ri) Wi → IntMulOk (wasteOf segs x wd y li ri * Wi) Hi → Rm A 6 60 →
  (∀ h' tk t, Kept s.heap h' → R (.ok (.ret (.int (fitOf C Wi Hi segs ⟨x, y, wd, l, li, ri⟩) t))) { s with heap := h', toks := tk }) → codeAny (model prog w) A (.call (.ref f) ⟨[.ref p, .ref r, .int li tl, .int ri tr], []⟩) R s
theorem star_call {M : Model} {A : Around} {E : Value → Shared → Prop} {s : Shared} {env : Env} {o : PySem.Expr} {name : Str} {apos pos : Pos} {args : List PySem.Expr} {Q : Value → Shared → Prop}
    (h : wpAny M A (eval o env) (fun ov s₁ => wpAny M A (getAttr ov name true) (fun f s₂ => wpAny M A (callWith pos f [] (backTo pos (starEach args env)) []) Q E s₂) E s₁) E s)
    (he : eval (.Call (.Attribute o name apos) args [] pos) env = (do
      let ov ← eval o env
      standAt apos.atName
      let (f, first) ← holding [ov] (do pure (← getAttr ov name true, []))
      let callPos ← pure pos
      callWith callPos f first (backTo pos (starEach args env)) []) := by rfl) :
    wpAny M A (eval (.Call (.Attribute o name apos) args [] pos) env) Q E s := by
  rw [he]
  refine wpAny_bind (wpAny_mono h (fun ov s₁ h₁ => wpAny_bind (wpAny_standAt (wpAny_bind (wpAny_holding (wpAny_bind (wpAny_mono h₁ (fun fx s₂ h₂ => ?_) fun _ _ x => x)))))) fun _ _ x => x)
  exact wpAny_pure (wpAny_bind (wpAny_pure h₂))
theorem callWith_SM {env : Env} {pos p : Pos} {q g : Addr} {self : Value} {first : List Value} {e : PySem.Expr} {Q : Value → Shared → Prop} (hf : fnIn (kHead.heap_1 w.params) g = true)
    (h : wpAny (model prog w) A (eval e env) (fun v s₁ => StarOf (model prog w) A E v (fun vs s₂ => MethP (kHead.heap_1 w.params) q g self s₂.heap ∧ wpAny (model prog w) A (call (.ref q) (first ++ vs)) Q E s₂) s₁) E s)
    (he : starEach [.Starred e p] env = [(true, eval e env)] := by rfl) :
    wpAny (model prog w) A (callWith pos (.ref q) first (backTo pos (starEach [.Starred e p] env)) []) Q E s := by
  rw [he]
  exact ks_call (P := fun h => MethP (kHead.heap_1 w.params) q g self h) rfl (keeps_M hf) (ks_lone h)
/- a method of an object, bound -/
theorem inst_bound {B : Heap} {x C f : Addr} {mm : Str → Option Value} {name : Str} {expr : Bool} {Q : Value → Shared → Prop} (W : Wd w B) (k : Kept B s.heap) (I : Inst s.heap x C mm) (hg : plainGet (kHead.heap_1 w.params) C name = true) (hh : hasDictIn (kHead.heap_1 w.params) C = true)
    (ha : findIn (kHead.heap_1 w.params) (.ref C) name = some (some (.ref f))) (hf : isFn (kHead.heap_1 w.params) (.ref f) = true) (hgf : specialIn (kHead.heap_1 w.params) (.ref f) "__get__" = some (some (.builtin "function.__get__"))) (ht : takesIn (kHead.heap_1 w.params) (.ref f) = some false)
    (hc : copiedNames.contains name = false) (hl : mm name = none) (h : Q (.ref s.heap.objs.size) { s with heap := s.heap.push (methodObj (.ref f) (.ref x)), toks := s.toks + 1 }) : wpAny (model prog w) A (getAttr (.ref x) name expr) Q E s := by
  obtain ⟨dx, o, I, n⟩ := I.at
  exact get_bind (W.keeps k).K I (plainGet_of hg).1 (findObj_fn hh ha hgf ht hc (by rw [n, hl])) (plainGet_of hg).2
    (wpAny_call (fn_get (s := { s with toks := s.toks + 1 }) (W.keeps k).K (beq_iff_eq.mp hf) (by show wpAny _ _ (handedOut _) _ _ _; rw [handedOut_of rfl]; exact wpAny_pure h)))
theorem fit_any (C : Addr) (hC : IsSky C) : ∃ f, FitC prog w C f ∧ fnIn (kHead.heap_1 w.params) f = true ∧ plainGet (kHead.heap_1 w.params) C "_rect_fitness" = true ∧ hasDictIn (kHead.heap_1 w.params) C = true ∧ findIn (kHead.heap_1 w.params) (.ref C) "_rect_fitness" = some (some (.ref f)) ∧ isFn (kHead.heap_1 w.params) (.ref f) = true ∧
    specialIn (kHead.heap_1 w.params) (.ref f) "__get__" = some (some (.builtin "function.__get__")) ∧ takesIn (kHead.heap_1 w.params) (.ref f) = some false := by
  obtain rfl | rfl | rfl := hC
  · refine ⟨680, ?_, by k_is, by k_is, by k_is, by k_is, by k_is, by k_is, by k_is⟩
    intro A s p dp sl rl' r dx Wi Hi x y wd l turn rid items segs li ri tl tr R W P hl hS hz Rc h1 h2 hb m1 m2 Ro h
    exact fit_mwf W P hl hS hz Rc h1 h2 hb Ro h
  · refine ⟨706, ?_, by k_is, by k_is, by k_is, by k_is, by k_is, by k_is, by k_is⟩
    intro A s p dp sl rl' r dx Wi Hi x y wd l turn rid items segs li ri tl tr R W P hl hS hz Rc h1 h2 hb m1 m2 Ro h
    exact fit_mwfl W P hl hS hz Rc h1 h2 hb m1 m2 Ro h
  · refine ⟨725, ?_, by k_is, by k_is, by k_is, by k_is, by k_is, by k_is, by k_is⟩
    intro A s p dp sl rl' r dx Wi Hi x y wd l turn rid items segs li ri tl tr R W P hl hS hz Rc h1 h2 hb m1 m2 Ro h
    exact fit_bl W Rc (Ro.le (by decide) (by decide)) h
theorem pk_fit_bound {σh : Heap} {σg : Array GenState} {σd : Drawn} {σt : Nat} {σo : OsState} {B : Heap} {p dp C sl rl f : Addr} {W H : Int} {turn : Bool} {expr : Bool} {Q : Value → Shared → Prop} (WB : Wd w B) (k : Kept B σh) (P : Pk σh p dp C W H turn sl rl)
    (h1 : plainGet (kHead.heap_1 w.params) C "_rect_fitness" = true) (h2 : hasDictIn (kHead.heap_1 w.params) C = true) (h3 : findIn (kHead.heap_1 w.params) (.ref C) "_rect_fitness" = some (some (.ref f))) (h4 : isFn (kHead.heap_1 w.params) (.ref f) = true)
    (h5 : specialIn (kHead.heap_1 w.params) (.ref f) "__get__" = some (some (.builtin "function.__get__"))) (h6 : takesIn (kHead.heap_1 w.params) (.ref f) = some false)
    (h : Q (.ref σh.objs.size) ⟨σh.push (methodObj (.ref f) (.ref p)), σg, σd, σt + 1, σo⟩) : wpAny (model prog w) A (getAttr (.ref p) "_rect_fitness" expr) Q E ⟨σh, σg, σd, σt, σo⟩ := by
  obtain ⟨hC, a, m, tw, th, N, b0, b1, b2, b3, b4, b5, b6⟩ := P
  have I : Inst σh p C m := ⟨dp, a, N.le (by decide)⟩
  exact inst_bound WB k I h1 h2 h3 h4 h5 h6 (by decide) (b0 _ (by decide)) h
end
/- _select_position once the positions stand -/
inductive TwoPts (H : Int → Int) (Wi Hi : Int) (segs : List Sg) (wd ht : Int) (turn : Bool) (pts : List Pt) : Prop
  | mk (g0 g1 : List Pt) (e : pts = g0 ++ g1) (p0 : Places H Wi Hi segs wd ht g0) (p1 : turn = true → wd ≠ ht → Places H Wi Hi segs ht wd g1) (p2 : ¬ (turn = true ∧ wd ≠ ht) → g1 = []) : TwoPts H Wi Hi segs wd ht turn pts
inductive PosSt (w : World) (L a p : Addr) (s : Shared) (h₀ B : Heap) (ok : List Pt → Prop) (s' : Shared) : Prop
  | mk (B' : _) (h' : _) (m' : _) (tk : _) (gs : _) (vals : _) (pts : _) (f1 : s' = { s with heap := h', toks := tk, gens := gs }) (f2 : Fm w [a, 598, 633] B' L h' m') (f3 : Kept B B') (f4 : Tab h' 602 598) (f5 : TabL h' 637 633 lamPos lamQual) (f6 : AllBare gs) (f7 : h'.PlainList a vals) (f8 : PtsAt h₀ B' vals pts) (f9 : m' "positions" = some (.ref a)) (f10 : m' "rid" = none) (f11 : pts.length ≤ 1000) (f12 : ok pts) : PosSt w L a p s h₀ B ok s'
theorem genPts_len (segs : List Sg) (wd ht Hi : Int) : ∀ (ps : List Int) (s : Sc), (genPts segs wd ht Hi ps s).length ≤ ps.length
  | [], _ => Nat.le_refl _
  | p :: ps, s => by
    rw [genPts_cons]
    have := genPts_len segs wd ht Hi ps (gstep segs wd p s)
    split
    · rw [List.length_cons, List.length_cons]; (first | exact Nat.lt_succ_of_le (by assumption) | lia)
    · rw [List.length_cons]; (first | exact Nat.le_succ_of_le (by assumption) | lia)
theorem mul_ok {v Wi Hi : Int} (h0 : 0 ≤ v) (h1 : v ≤ 8 * Hi) (hW : 0 ≤ Wi) (hWi : Wi ≤ 8) (hbits : Builtin.Int.intBits Hi ≤ 2 ^ 21) : IntMulOk v Wi ∧ IntMulOk (v * Wi) Hi := by
  refine ⟨IntMulOk.of_right (intBits_le_iff.mpr (by (first | lia | omega))), ?_⟩
  have hm : Builtin.Int.intBits (64 * Hi) ≤ 7 + 2 ^ 21 := intBits_mul_le (intBits_le_iff.mpr (by decide)) hbits
  have hv : v * Wi ≤ 64 * Hi := by
    have := Int.mul_le_mul h1 hWi hW (by (first | lia | omega))
    (first | exact Int.le_trans (by assumption) (by lia) | lia)
  have hv0 : 0 ≤ v * Wi := Int.mul_nonneg h0 hW
  exact IntMulOk.of_le (intBits_le_of_natAbs (by (first | grind | lia)) hm) hbits (by decide)
section
variable {prog : Program} {w : World} {A : Around} {E : Value → Shared → Prop} {s : Shared}
theorem pk_gen (P : Params) : ∀ C, IsSky C → plainGet (kHead.heap_1 P) C "_generate_placements" = true ∧ findIn (kHead.heap_1 P) (.ref C) "_generate_placements" = some (some (.ref 610)) ∧ isFn (kHead.heap_1 P) (.ref 610) = true := by
  rintro C (rfl | rfl | rfl) <;> exact ⟨by k_is, by k_is, by k_is⟩
theorem select_pos {p dp C sl rl' : Addr} {Wi Hi wd ht : Int} {tw th : Tok} {turn : Bool} {items : Array Value} {segs : List Sg} {t f : Sg} {H : Int → Int} {R : Result → Shared → Prop} (W : Wd w s.heap) (hf : FreeL w s.heap [598, 633]) (T : Tab s.heap 602 598) (TL : TabL s.heap 637 633 lamPos lamQual) (P : Pk s.heap p dp C Wi Hi turn sl rl') (hl : s.heap.PlainList sl items) (hS : Segs s.heap items segs)
    (hf0 : segs[0]? = some f) (ht0 : segs.getLast? = some t) (S : Sk H segs 0 Wi) (hWi : Wi ≤ 8) (hH : ∀ z, 0 ≤ z → z < Wi → 0 ≤ H z) (hbits : Builtin.Int.intBits Hi ≤ 2 ^ 21) (hz : items.size ≤ 10) (hw : 0 < wd) (hh : 0 < ht) (hg : AllBare s.gens) (Ro : Rm A 20 200)
    (h : ∀ h' tk gs v pts, ButL [598, 633] s.heap h' → Tab h' 602 598 → TabL h' 637 633 lamPos lamQual → AllBare gs →
      TwoPts H Wi Hi segs wd ht turn pts → Chosen C Wi Hi segs pts s.heap h' v → R (.ok (.ret (.ref v))) { s with heap := h', toks := tk, gens := gs }) :
    codeAny (model prog w) A (.call (.ref 638) ⟨[.ref p, .int wd tw, .int ht th], []⟩) R s := by
  have Ro : Rm A (19 + 1) (190 + 3) := Ro.le (by decide) (by decide)
  have hR : ∀ g ∈ segs, g.x + g.l ≤ t.x + t.l := by
    intro g hg
    obtain ⟨j, hj, rfl⟩ := mem_sg hg
    have b1 := (S.1.bounds hj).2.2
    have e := S.1.last (segs.length - 1) (by (first | exact Nat.sub_add_cancel (by lia) | lia))
    rw [sg_last ht0] at e
    (first | exact Int.le_trans (by assumption) (by lia) | lia)
  refine' code_fnC [("self", .ref p), ("width", .int wd tw), ("height", .int ht th)] ?k0 ?kk ?k1 ?k2 ?k3 ?k4 ?k5 ?kc ?ki ?k8 ?k9 ?k10 ?k11 ?k12 ?_
  case k0 => assumption
  case kk => exact Kept.refl _
  case k1 => assumption
  case k2 => k_is
  case k3 => k_is
  case k4 => rfl
  case k5 => rfl
  case kc => rfl
  case ki =>
    intro x hx
    rcases List.mem_cons.mp hx with rfl | hx
    · exact .inr ⟨rfl, rfl⟩
    rcases List.mem_cons.mp hx with rfl | hx
    · exact .inl rfl
    rw [List.mem_singleton.mp hx]; exact .inl rfl
  case k8 => rfl
  case k9 => rfl
  case k10 => rfl
  case k11 => rfl
  case k12 => rfl
  intro A' L env h₁ tk R' V hcode F hc hpw
  try dsimp only at V F hc hpw
  obtain ⟨hcode, hqual⟩ := hcode
  change env.code = .ref 637 at hcode
  obtain ⟨hcs, fs, ns⟩ := hc "self" (L + 1) rfl
  replace hcs : h₁.IsCell (L + 1) (some (.ref p)) := hcs
  clear hc hpw
  obtain ⟨B, WB, kB, hB, back⟩ := hf.hide
  have hT₁ := T.kept F.keep
  have hTL₁ := TL.kept F.keep
  have n0 : ∀ x, (∃ o, s.heap.get? x = some o) → ∀ y, s.heap.get? y = none → x ≠ y := fun x hx y hy q => by obtain ⟨o, e⟩ := hx; rw [q, hy] at e; cases e
  have X0 : Fm w [598, 633] B L h₁ _ := ⟨WB, F.weaken kB, hB, fun x hx => by
    rcases List.mem_cons.mp hx with rfl | hx
    · exact hT₁.has
    · rw [List.mem_singleton.mp hx]; exact hTL₁.tab.has⟩
  have hc598 : (598 : Addr) ≠ L + 1 := n0 _ (let ⟨o, e, _⟩ := T.has; ⟨o, e⟩) _ fs
  have hc633 : (633 : Addr) ≠ L + 1 := n0 _ (let ⟨o, e, _⟩ := TL.tab.has; ⟨o, e⟩) _ fs
  obtain ⟨B₁, X₁, kB₁, Hd₁⟩ := X0.up
  have P₁ := Hd₁.pk (P.kept F.keep) rfl
  have hl₁ : B₁.PlainList sl items := Hd₁.list (hl.at (F.keep _)) fun hm => by
    obtain ⟨n, e⟩ := hl
    rcases List.mem_cons.mp hm with hm | hm
    · obtain ⟨ps, -, -, e'⟩ := T; rw [← hm, e] at e'; cases e'
    · obtain ⟨ps, -, -, e'⟩ := TL.tab; rw [← List.mem_singleton.mp hm, e] at e'; cases e'
  have hS₁ : Segs B₁ items segs := Hd₁.segs (hS.kept F.keep) rfl (n := "width") (fun q => by have q : some (Value.int wd tw) = none := q; cases q)
  have hcB : B₁.IsCell (L + 1) (some (.ref p)) := by
    obtain ⟨o, e, q⟩ := hcs
    refine ⟨o, Hd₁.get _ _ e ns fun hm => ?_, q⟩
    rcases List.mem_cons.mp hm with hm | hm
    · exact hc598 hm.symm
    · exact hc633 (List.mem_singleton.mp hm).symm
  have gone : ∀ b, h₁.get? b = none → s.heap.get? b = none := fun b e => by
    cases q : s.heap.get? b with
    | none => rfl
    | some o => rw [F.keep _ _ q] at e; cases e
  have WB₁ := X₁.W
  clear X0 Hd₁
  walk_at "sky_m0"
  walk_at "sky_m0"
  walk_at "sky_m0"
  refine m_cell V rfl rfl hcs ?_
  refine m_pkmeth X₁ P₁ (by decide) (pk_gen _) ?_
  try dsimp only
  repeat walk_at "sky_m0"
  refine wpAny_call (gen_places X₁.Wh ⟨B₁, X₁.W, X₁.keep, X₁.hid _ (.head _)⟩ hT₁ (P₁.kept X₁.keep) (hl₁.at (X₁.keep _)) (hS₁.kept X₁.keep) hf0 ht0 hR hz hw hh hg (R'.le (by decide) (by decide)) fun h₂ tk₂ gs₂ a vals ps b₂ T₂ bare₂ hla pts₂ perm₂ srt₂ na₂ => ?_)
  try dsimp only at b₂ na₂ ⊢
  have PL₂ : Places H Wi Hi segs wd ht (genPts segs wd ht Hi ps ⟨0, 0, 0, f.y⟩) := places_ok S hw hf0 ht0 perm₂ srt₂
  have gl₂ : (genPts segs wd ht Hi ps ⟨0, 0, 0, f.y⟩).length ≤ 50 := by
    have h1 := genPts_len segs wd ht Hi ps ⟨0, 0, 0, f.y⟩
    have h2 := perm₂.length_eq
    have h3 := hS.1
    have h4 : (lefts segs wd (t.x + t.l) ++ rights segs wd f.x).length ≤ segs.length + segs.length := by
      rw [List.length_append]
      unfold lefts rights
      rw [List.length_map, List.length_map]
      exact Nat.add_le_add (List.length_filter_le ..) (List.length_filter_le ..)
    (first | exact Nat.le_trans (by assumption) (by lia) | lia)
  have TL₂ := hTL₁.butT b₂ hT₁ (by decide) (by decide)
  have X₂ := ((X₁.buto (.head _) b₂ T₂.has).hide hla (X₁.fresh na₂))
  obtain ⟨B₂, X₂', kB₂, Hd⟩ := X₂.up
  have ptsB := Hd.pts (pts₂.weaken gone) rfl
  clear Hd X₂ X₁ perm₂ srt₂ pts₂
  generalize genPts segs wd ht Hi ps ⟨0, 0, 0, f.y⟩ = g0 at PL₂ ptsB gl₂
  (((try (with_reducible first | refine Next.next (by assumption) ?_ | refine Next.ret (by assumption) ?_ | refine Next.cont (by assumption) ?_ | refine Next.brk (by assumption) ?_ | refine IfK.go (by assumption) ?_ | refine AsK.go (by assumption) ?_)); (with_reducible show wpAny _ _ (storeName _ _ _) _ _ _); refine m_store (by assumption) (by assumption) (by exact rfl) ?_))
  intro h₃ tkσ X₃ l₃ b₃
  try dsimp only at l₃ b₃ ⊢
  have hla₃ := l₃ _ _ hla
  have T₃ := T₂.butd b₃ (.ns X₂'.F.ns)
  have TL₃ := TL₂.butd b₃ (.ns X₂'.F.ns)
  clear X₂' T₂ TL₂ hla b₂ l₃ b₃ na₂
  repeat (with_reducible first | refine Next.next (by assumption) ?_ | refine Next.ret (by assumption) ?_ | refine Next.cont (by assumption) ?_ | refine Next.brk (by assumption) ?_ | refine IfK.go (by assumption) ?_ | refine AsK.go (by assumption) ?_)
  refine cut (PosSt w L a p s s.heap B₂ (TwoPts H Wi Hi segs wd ht turn)) ?_ ?_
  · repeat walk_at "sky_m0"
    refine m_cell V rfl rfl ((hcB.keeps kB₂).keeps X₃.keep) ?_
    refine pk_rot X₃.W X₃.keep ((P₁.kept kB₂).kept X₃.keep) fun tk₄ => ?_
    try dsimp only
    have stop : ¬ (turn = true ∧ wd ≠ ht) → ∀ tk : Nat, PosSt w L a p s s.heap B₂ (TwoPts H Wi Hi segs wd ht turn) (⟨h₃, gs₂, s.drawn, tk, s.os⟩ : Shared) := fun c tk =>
      ⟨B₂, h₃, _, tk, gs₂, vals, g0, rfl, X₃, Kept.refl _, T₃, TL₃, bare₂, hla₃, ptsB, if_pos rfl, rfl, by (first | exact Nat.le_trans (by assumption) (by decide) | lia), g0, [], (List.append_nil _).symm, PL₂, fun c1 c2 => absurd ⟨c1, c2⟩ c, fun _ => rfl⟩
    cases turn with
    | false =>
      repeat walk_at "sky_m0"
      exact ⟨rfl, stop (by simp) _⟩
    | true =>
      by_cases c : wd = ht
      · repeat walk_at "sky_m0"
        exact ⟨rfl, stop (by simp [c]) _⟩
      · repeat walk_at "sky_m0"
        refine wpAny_AugAssign_Name ?_
        refine m_load V X₃ rfl (if_pos rfl) ?_
        try dsimp only
        repeat walk_at "sky_m0"
        refine m_cell V rfl rfl ((hcB.keeps kB₂).keeps X₃.keep) ?_
        refine m_pkmeth X₃ (P₁.kept kB₂) (by decide) (pk_gen _) ?_
        try dsimp only
        repeat walk_at "sky_m0"
        refine wpAny_call (gen_places X₃.Wh ⟨B₂, X₃.W, X₃.keep, X₃.hid _ (.tail _ (.head _))⟩ T₃ ((P₁.kept kB₂).kept X₃.keep) ((hl₁.at (kB₂ _)).at (X₃.keep _)) ((hS₁.kept kB₂).kept X₃.keep) hf0 ht0 hR hz hh hw bare₂ (R'.le (by decide) (by decide)) fun h₅ tk₅ gs₅ a₅ vals₅ ps₅ b₅ T₅ bare₅ hla₅ pts₅ perm₅ srt₅ na₅ => ?_)
        try dsimp only at b₅ na₅ ⊢
        have PL₅ : Places H Wi Hi segs ht wd (genPts segs ht wd Hi ps₅ ⟨0, 0, 0, f.y⟩) := places_ok S hh hf0 ht0 perm₅ srt₅
        have gl₅ : (genPts segs ht wd Hi ps₅ ⟨0, 0, 0, f.y⟩).length ≤ 50 := by
          have h1 := genPts_len segs ht wd Hi ps₅ ⟨0, 0, 0, f.y⟩
          have h2 := perm₅.length_eq
          have h3 := hS.1
          have h4 : (lefts segs ht (t.x + t.l) ++ rights segs ht f.x).length ≤ segs.length + segs.length := by
            rw [List.length_append]
            unfold lefts rights
            rw [List.length_map, List.length_map]
            exact Nat.add_le_add (List.length_filter_le ..) (List.length_filter_le ..)
          (first | exact Nat.le_trans (by assumption) (by lia) | lia)
        have gone₃ : ∀ b, h₃.get? b = none → s.heap.get? b = none := fun b e => by
          cases q : s.heap.get? b with
          | none => rfl
          | some o =>
            exfalso
            by_cases c1 : b = 598
            · obtain ⟨o', e', -⟩ := T₃.has; rw [c1, e'] at e; cases e
            by_cases c2 : b = 633
            · obtain ⟨o', e', -⟩ := TL₃.tab.has; rw [c2, e'] at e; cases e
            rw [X₃.keep _ _ (kB₂ _ _ (kB₁ _ _ (back _ _ (by simp [c1, c2]) q)))] at e; cases e
        have na598 : a ≠ 598 := fun q => by obtain ⟨n, e⟩ := hla₃; obtain ⟨ps, -, -, e'⟩ := T₃; rw [q, e'] at e; cases e
        have hla5 := hla₃.at (fun o e => b₅ a o na598 e)
        have TL₅ := TL₃.butT b₅ T₃ (by decide) (by decide)
        obtain ⟨B₅, X₅, kB₅, Hd⟩ := ((X₃.buto (.tail _ (.head _)) b₅ T₅.has).hide hla₅ (X₃.fresh na₅)).up
        have pB := (ptsB.kept kB₅).append (Hd.pts (pts₅.weaken gone₃) rfl)
        have X₅ := X₅.sub (Hs' := [a, 598, 633]) fun x hx => .tail _ hx
        clear Hd X₃ perm₅ srt₅ pts₅ T₃ TL₃ stop
        generalize genPts segs ht wd Hi ps₅ ⟨0, 0, 0, f.y⟩ = g1 at PL₅ pB gl₅
        refine iadd_lists hla5 hla₅ ?_ fun h₆ hla₆ b₆ => ?_
        · have e1 := ptsB.1
          have e2 := pB.1
          rw [Array.size_append, List.length_append] at e2
          (first | lia | omega)
        try dsimp only at b₆ ⊢
        have T₆ := T₅.butd b₆ (.list hla5)
        have TL₆ := TL₅.butd b₆ (.list hla5)
        have X₆ := X₅.but (.head _) hla5 b₆ hla₆
        clear X₅
        (((try (with_reducible first | refine Next.next (by assumption) ?_ | refine Next.ret (by assumption) ?_ | refine Next.cont (by assumption) ?_ | refine Next.brk (by assumption) ?_ | refine IfK.go (by assumption) ?_ | refine AsK.go (by assumption) ?_)); (with_reducible show wpAny _ _ (storeName _ _ _) _ _ _); refine m_store (by assumption) (by assumption) (by exact rfl) ?_))
        intro h₇ tkσ X₇ l₇ b₇
        try dsimp only at l₇ b₇ ⊢
        repeat walk_at "sky_m0"
        exact ⟨rfl, B₅, h₇, _, _, gs₅, _, g0 ++ g1, rfl, X₇, kB₅, T₆.butd b₇ (.ns X₆.F.ns), TL₆.butd b₇ (.ns X₆.F.ns), bare₅, l₇ _ _ hla₆, pB, if_pos rfl, rfl, by rw [List.length_append]; (first | lia | omega), g0, g1, rfl, PL₂, fun _ _ => PL₅, fun q => absurd ⟨rfl, c⟩ q⟩
  have kB₁₂ := kB₁.trans kB₂
  have P₂ := P₁.kept kB₂
  have hl₂ := hl₁.at (kB₂ _)
  have hS₂ := hS₁.kept kB₂
  have hc₂ := hcB.keeps kB₂
  clear X₃ hla₃ T₃ TL₃ ptsB gl₂ P₁ hl₁ hS₁ hcB kB₁ kB₂ hcs hT₁ hTL₁ PL₂ gone bare₂ WB₁ F n0 hc598 hc633 ns
  rintro s' ⟨B₃, h₃, m₃, tk₃, gs₃, vals, pts, rfl, X₃, k₃, T₃, TL₃, bare₃, hla₃, ptsB, hpos, hrid, hlen, hok⟩
  have P₃ := P₂.kept k₃
  have hl₃ := hl₂.at (k₃ _)
  have hS₃ := hS₂.kept k₃
  have hc₃ := hc₂.keeps k₃
  have back₃ : ButL [598, 633] s.heap B₃ := fun b o n e => k₃ _ _ (kB₁₂ _ _ (back b o n e))
  clear P₂ hl₂ hS₂ hc₂ k₃ kB₁₂ back kB WB hB
  repeat walk_at "sky_m0"
  refine wpAny_truthy_list hla₃.isList (by have := ptsB.1; (first | lia | omega)) ?_
  try dsimp only
  by_cases hemp : vals = #[]
  · subst hemp
    have hp0 : pts = [] := List.eq_nil_of_length_eq_zero ptsB.1.symm
    subst hp0
    (try (with_reducible first | refine Next.next (by assumption) ?_ | refine Next.ret (by assumption) ?_ | refine Next.cont (by assumption) ?_ | refine Next.brk (by assumption) ?_ | refine IfK.go (by assumption) ?_ | refine AsK.go (by assumption) ?_))
    refine ite_t ?_
    repeat walk_at "sky_m0"
    refine wpAny_Tuple ?_
    repeat walk_at "sky_m0"
    refine ⟨by show 2 ≤ sizeLine; rw [sizeLine_eq]; (first | exact Nat.le_add_left _ _ | lia), ?_⟩
    try dsimp only
    have kp := Kept.push h₃ { cls := .type "tuple", data := .seq #[.none, .none] }
    repeat (with_reducible first | refine Next.next (by assumption) ?_ | refine Next.ret (by assumption) ?_ | refine Next.cont (by assumption) ?_ | refine Next.brk (by assumption) ?_ | refine IfK.go (by assumption) ?_ | refine AsK.go (by assumption) ?_)
    exact h _ _ gs₃ _ [] (fun b o n e => kp _ _ (X₃.keep _ _ (back₃ b o n e))) (T₃.kept kp) (TL₃.kept kp) bare₃ hok (.inl ⟨rfl, _, Heap.get?_push_size _ rfl⟩)
  have hne : 0 < vals.size := Nat.pos_of_ne_zero fun q => hemp (Array.eq_empty_of_size_eq_zero q)
  have e0 : vals.isEmpty = false := by rw [Array.isEmpty_eq_false_iff]; exact hemp
  rw [e0]
  (try (with_reducible first | refine Next.next (by assumption) ?_ | refine Next.ret (by assumption) ?_ | refine Next.cont (by assumption) ?_ | refine Next.brk (by assumption) ?_ | refine IfK.go (by assumption) ?_ | refine AsK.go (by assumption) ?_))
  refine ite_f ?_
  -- the list of positions goes into the base
  obtain ⟨B', F', kB', get', hid'⟩ := X₃.F.rebase [598, 633] (fun x hx => X₃.hid x (.tail _ hx))
  have X : Fm w [598, 633] B' L h₃ m₃ := ⟨X₃.W.keeps kB', F', hid', fun x hx => X₃.odd x (.tail _ hx)⟩
  have haB : B'.PlainList a vals := hla₃.at fun o e => get' _ _ e (X₃.ne hla₃) fun hm => by
    obtain ⟨n, e⟩ := hla₃
    rcases List.mem_cons.mp hm with hm | hm
    · obtain ⟨ps, -, -, e'⟩ := T₃; rw [← hm, e] at e'; cases e'
    · obtain ⟨ps, -, -, e'⟩ := TL₃.tab; rw [← List.mem_singleton.mp hm, e] at e'; cases e'
  replace ptsB := ptsB.kept kB'
  replace P₃ := P₃.kept kB'
  replace hl₃ := hl₃.at (kB' _)
  replace hS₃ := hS₃.kept kB'
  replace hc₃ := hc₃.keeps kB'
  replace back₃ : ButL [598, 633] s.heap B' := fun b o n e => kB' _ _ (back₃ b o n e)
  clear X₃ F' get' hid' kB'
  obtain ⟨fa, hfit, fk, f1, f2, f3, f4, f5, f6⟩ := fit_any (prog := prog) (w := w) C P₃.1
  obtain ⟨rf, hrf⟩ := Classical.axiomOfChoice (r := fun (i : Nat) (r : Addr) => ∀ pt, pts[i]? = some pt → ∃ q dx t1 t2, vals[i]? = some (Value.ref q) ∧ TupAt B' q #[.ref r, .int pt.li t1, .int pt.ri t2] ∧ RectAt B' r dx pt.x pt.y pt.w pt.l .none ∧ s.heap.get? r = none ∧ s.heap.get? dx = none) (fun i => by
    cases e : pts[i]? with
    | none => exact ⟨0, fun pt q => by cases q⟩
    | some pt =>
      obtain ⟨q, r, dx, t1, t2, r1⟩ := ptsB.2 i pt e
      exact ⟨r, fun pt' q' => by cases q'; exact ⟨q, dx, t1, t2, r1⟩⟩)
  have kfe : ∀ i pt, pts[i]? = some pt → fitOf C Wi Hi segs (pts.getD i ⟨0, 0, 0, 0, 0, 0⟩) = fitOf C Wi Hi segs pt := fun i pt e => by rw [List.getD_eq_getElem?_getD, e]; rfl
  have inpts : ∀ pt ∈ pts, 0 ≤ pt.x ∧ pt.x + pt.w ≤ Wi ∧ 0 < pt.w ∧ pt.li ≤ pt.ri ∧ pt.ri < segs.length ∧ 0 ≤ wasteOf segs pt.x pt.w pt.y pt.li pt.ri ∧ wasteOf segs pt.x pt.w pt.y pt.li pt.ri ≤ 8 * Hi := by
    obtain ⟨g0, g1, rfl, q0, q1, q2⟩ := hok
    intro pt hpt
    rcases List.mem_append.mp hpt with hm | hm
    · obtain ⟨a1, a2, a3, a4, -⟩ := q0.ok pt hm
      obtain ⟨b1, b2⟩ := q0.idx pt hm
      obtain ⟨c1, c2⟩ := q0.waste hw hh hWi hH hm
      exact ⟨a3, by rw [a1]; exact a4, by rw [a1]; exact hw, b1, b2, c1, c2⟩
    · by_cases c : turn = true ∧ wd ≠ ht
      · have q1 := q1 c.1 c.2
        obtain ⟨a1, a2, a3, a4, -⟩ := q1.ok pt hm
        obtain ⟨b1, b2⟩ := q1.idx pt hm
        obtain ⟨c1, c2⟩ := q1.waste hh hw hWi hH hm
        exact ⟨a3, by rw [a1]; exact a4, by rw [a1]; exact hh, b1, b2, c1, c2⟩
      · rw [q2 c] at hm; cases hm
  repeat walk_at "sky_m0"
  refine wpAny_Call_Name_kw ?_
  repeat walk_at "sky_m0"
  refine callWith_kw ?_
  repeat walk_at "sky_m0"
  have hEx : ∀ b ∈ [L, 598, 633], B'.get? b = none := fun b hb => by
    rcases List.mem_cons.mp hb with rfl | hb
    · exact X.F.hid
    · exact X.hid b hb
  refine gen_mkL (lp := lamPos) (lq := lamQual) (cl := [(("self" : Str), L + 1)]) (B := B') (ax := a) (c := 637) (P := 633) (items := vals) [L, 598, 633] (PairF (fun i => .ref (rf i)) (fun i => fitOf C Wi Hi segs (pts.getD i ⟨0, 0, 0, 0, 0, 0⟩)))
    R'.2.2 (by have := R'.1; (first | lia | omega)) hcode V.g rfl ?hclos (by decide) rfl rfl rfl (by intro _; rfl) X.W X.keep TL₃ (by decide) haB.isList hEx (fun b hb => ?_) (.tail _ (.tail _ (.head _))) (fun Q' q => ?_) (fun code C' A'' E' i v s₂ m₂ VV hA hd' hu hv hns hm hC hk => ?_) ?_
  case hclos => unfold closureFor cellOf; rw [V.c]; rfl
  · rcases List.mem_cons.mp hb with rfl | hb
    · obtain ⟨o, _, _, e, -⟩ := X.F.ns; exact ⟨o, e⟩
    · obtain ⟨o, e, -⟩ := X.odd b hb; exact ⟨o, e⟩
  · repeat walk_at "sky_m0"
    exact q
  · have XX : Fm w [] B' C' s₂.heap m₂ := Fm.of X.W ⟨hns, fun b o e => hk b o (fun q => by rw [hEx b q] at e; cases e) (X.keep b o e), X.fresh hC⟩
    have RR : Rm A'' 17 170 := ⟨by have := R'.1; (first | lia | omega), by have := R'.2.1; (first | lia | omega), hA⟩
    have hil : i < pts.length := by
      rw [← ptsB.1]
      rcases Nat.lt_or_ge i vals.size with q | q
      · exact q
      · rw [Array.getElem?_eq_none q] at hv; cases hv
    have hpt := List.getElem?_eq_getElem hil
    obtain ⟨pq, dx, t1, t2, hvq, tpq, rcq, -, -⟩ := hrf i _ hpt
    rw [hvq] at hv; cases hv
    have hkf := kfe i _ hpt
    obtain ⟨i0, i1, i2, i3, i4, i5, i6⟩ := inpts _ (List.getElem_mem hil)
    generalize pts[i] = pt at hpt tpq rcq hkf i0 i1 i2 i3 i4 i5 i6
    generalize genEnv _ [(("self" : Str), L + 1)] C' code builtinsNs env = ge at VV ⊢
    refine wpAny_Tuple ?_
    repeat walk_at "sky_m0"
    refine tup_item (i := 0) (x := .ref (rf i)) (tpq.kept XX.keep) rfl rfl (show 3 ≤ 100 by (first | exact Nat.le_add_left _ _ | lia)) ?_
    repeat walk_at "sky_m0"
    refine star_call ?_
    (((with_reducible show wpAny _ _ (eval (PySem.Expr.Name _ _) _) _ _ _); refine m_free (by assumption) (by exact rfl) (by exact rfl) (Heap.IsCell.keeps (by assumption) (Fm.keep (by assumption))) ?_))
    refine pk_fit_bound XX.W XX.keep (P₃.kept XX.keep) f1 f2 f3 f4 f5 f6 ?_
    try dsimp only
    have hq := Heap.get?_push_size s₂.heap (o := methodObj (.ref fa) (.ref p)) rfl
    have XX₁ := XX.step (Kept.push s₂.heap (methodObj (.ref fa) (.ref p)))
    have kp₁ := Kept.push s₂.heap (methodObj (.ref fa) (.ref p))
    generalize s₂.heap.push (methodObj (.ref fa) (.ref p)) = hA₁ at hq XX₁ kp₁ ⊢
    generalize s₂.heap.objs.size = mq at hq ⊢
    clear XX
    refine callWith_SM (g := fa) (self := .ref p) fk ?_
    repeat walk_at "sky_m0"
    refine star_tup (tpq.kept XX₁.keep) (show 3 ≤ 100 by (first | exact Nat.le_add_left _ _ | lia)) fun h₄ k₄ => ?_
    have XX₄ := XX₁.step k₄
    try dsimp only at k₄ ⊢
    refine ⟨⟨k₄ _ _ hq, XX₄.Wh.K⟩, ?_⟩
    refine wpAny_call (method_call (k₄ _ _ hq) ?_)
    refine (hfit XX₄.Wh (P₃.kept XX₄.keep) (hl₃.at (XX₄.keep _)) (hS₃.kept XX₄.keep) hz (rcq.kept XX₄.keep) ?_ ?_ ?_ ?_ ?_ (RR.le (by decide) (by decide)) fun h₅ tk₅ t₅ k₅ => ?_)
    · have := i3; (first | exact Nat.le_succ_of_le (by assumption) | lia)
    · exact i4
    · intro g hg
      obtain ⟨j, hj, rfl⟩ := mem_sg hg
      have := S.1.bounds hj
      have a1 : 0 < min (pt.x + pt.w) ((sg segs j).x + (sg segs j).l) := Int.lt_min.mpr ⟨by lia, by lia⟩
      have a2 := Int.min_le_left (pt.x + pt.w) ((sg segs j).x + (sg segs j).l)
      have a3 := Int.le_max_left pt.x (sg segs j).x
      have a4 : max pt.x (sg segs j).x ≤ 8 := Int.max_le.mpr ⟨by lia, by lia⟩
      generalize min (pt.x + pt.w) ((sg segs j).x + (sg segs j).l) = m' at *
      generalize max pt.x (sg segs j).x = M' at *
      exact ⟨by lia, by lia⟩
    · exact (mul_ok i5 i6 (by (first | lia | omega)) hWi hbits).1
    · exact (mul_ok i5 i6 (by (first | lia | omega)) hWi hbits).2
    try dsimp only at k₅ ⊢
    repeat walk_at "sky_m0"
    refine ⟨by show 2 ≤ sizeLine; rw [sizeLine_eq]; (first | exact Nat.le_add_left _ _ | lia), ⟨_, t₅, rfl, ?_⟩, _, _, rfl, fun b o e => Heap.get?_push_of_some _ (k₅ _ _ (k₄ _ _ (kp₁ _ _ e)))⟩
    try dsimp only
    rw [hkf]
    exact ⟨_, Heap.get?_push_size _ rfl⟩
  intro ga C' fp I h₄ tk₄ gs₄ hgs₄ b₄ TL₄ na nC nI naC naI nsC itI hcs hcC hcI hex hlt G
  try dsimp only at b₄ na nC nI hlt G ⊢
  have X₄ := X.buto (.tail _ (.head _)) b₄ TL₄.tab.has
  have T₄ := T₃.butT' b₄ (by decide) (by decide)
  have nx : ∀ b, (∃ o, h₃.get? b = some o) → b ≠ C' ∧ b ≠ I := fun b ⟨o, e⟩ => ⟨ne_of_get e nC, ne_of_get e nI⟩
  have kB3 := X.keep
  clear X
  repeat walk_at "sky_m0"
  refine kws_cons ?_
  refine kla_eval rfl ?_
  rw [show env.qual ++ ("<lambda>" : Str) = lamQual by rw [hqual]; rfl]
  refine lam_make X₄.W X₄.keep TL₄ (by decide) (by decide) rfl V.g hcode fun fl h₅ tk₅ c' pm ctv b₅ TL₅ hfl hcr nfl z₅ => ?_
  try dsimp only at b₅ nfl z₅ ⊢
  have X₅ := X₄.buto (.tail _ (.head _)) b₅ TL₅.tab.has
  have T₅ := T₄.butT' b₅ (by decide) (by decide)
  have nsC₅ : ∃ m, h₅.Ns C' m := by
    obtain ⟨m, o, es, ep, e, q⟩ := nsC
    refine ⟨m, o, es, ep, b₅ _ _ (fun r => ?_) e, q⟩
    obtain ⟨o', e', -⟩ := TL₃.tab.has; rw [r, e'] at nC; cases nC
  have itI₅ : h₅.IsListIter I a 0 := itI.at fun o e => b₅ _ _ (fun r => by obtain ⟨o', e', -⟩ := TL₃.tab.has; rw [r, e'] at nI; cases nI) e
  have G₅ := GenH.keeps (h' := h₅) (gs' := gs₃.push gs₄) (dr := s.drawn) (tk := tk₅) (os := s.os) G (fun b hb o e => b₅ _ _ (fun r => hex b hb (by rw [r]; simp)) e) hcs rfl
  have hfC : fl ≠ C' := by
    rintro rfl; obtain ⟨m, o, es, ep, e, q, -⟩ := nsC₅; rw [hfl] at e; cases e; cases q
  have hfI : fl ≠ I := by
    rintro rfl; obtain ⟨o, e, -, q⟩ := itI₅; rw [hfl] at e; cases e; cases q
  have hrec : ∀ c'', h₅.CodeRec (.ref c'') lamQual → c'' ≠ C' ∧ c'' ≠ I := by
    intro c'' y
    obtain ⟨c3, o3, vs3, t3, a3, b3, d3, r3⟩ := y
    cases a3
    constructor
    · rintro rfl; obtain ⟨m, o, es, ep, e, q, -⟩ := nsC₅; rw [e] at b3; cases b3; rw [q] at d3; cases d3
    · rintro rfl; obtain ⟨o, e, -, q⟩ := itI₅; rw [e] at b3; cases b3; rw [q] at d3; cases d3; cases r3
  have hcr' := hrec _ hcr
  clear nsC itI G b₄ X₄ T₄ TL₄ hex
  refine kws_nil ?_
  show wpAny (model prog w) A' (call (.builtin "min") [.ref ga] [(Str.ofString "key", .ref fl)]) _ _ _
  have notC : ∀ b, b ≠ C' → b ≠ I → b ∉ [C', I] := fun b n1 n2 q => by
    rcases List.mem_cons.mp q with q | q
    · exact n1 q
    · exact n2 (List.mem_singleton.mp q)
  have kBB : Kept B' (hideAll h₅ [C', I]) := fun b o e => by
    obtain ⟨n1, n2⟩ := nx b ⟨o, kB3 _ _ e⟩
    exact hideAll_get _ (X₅.keep _ _ e) (notC b n1 n2)
  refine minH (B := hideAll h₅ [C', I]) (C := C') (I := I) (a := ga) (g := gs₃.size) (fp := fp) (n := vals.size) (rv := fun i => .ref (rf i)) (kf := fun i => fitOf C Wi Hi segs (pts.getD i ⟨0, 0, 0, 0, 0, 0⟩)) R'.2.2 (by have := R'.1; (first | lia | omega)) naC naI hcs hcC hcI (fun b hb => Nat.lt_of_lt_of_le (hlt b hb) z₅) (let ⟨o, e, _⟩ := itI₅; ⟨o, e⟩)
    (hideAll_none _ (.head _)) (hideAll_none _ (.tail _ (.head _))) (fun b o e => of_hideAll _ e) G₅ (fun y hy => ?_) hne (fun T' t' i h₆ gs₆ tk₆ kB₆ tp₆ => ?_) fun i T' t' h₆ gs₆ tk₆ hi hbest kB₆ tp₆ bare₆ => ?_
  · rcases Array.mem_push.mp hy with hy | rfl
    · exact bare₃ y hy
    · exact hgs₄
  · have Ro₆ : Rm A'.in1 (10 + 1) (100 + 3) := Rm.in1 (R'.le (by decide) (by decide))
    refine wpAny_call (lam_enter [("one", .ref T')] (X₅.W.keeps kBB) kB₆ Ro₆ (kB₆ _ _ (hideAll_get _ hfl (notC _ hfC hfI))) ?_ rfl ?_ rfl rfl rfl fun A'' L' env' h₇ tk₇ RR VV FF => ?_)
    · obtain ⟨c3, o3, vs3, t3, a3, b3, d3, r3⟩ := hcr
      cases a3
      exact ⟨_, o3, vs3, t3, rfl, kB₆ _ _ (hideAll_get _ b3 (notC _ hcr'.1 hcr'.2)), d3, r3⟩
    · intro x hx; rw [List.mem_singleton.mp hx]; rfl
    have XX := Fm.of (X₅.W.keeps (kBB.trans kB₆)) FF
    repeat walk_at "sky_m0"
    refine tup_item (i := 1) (tp₆.kept FF.keep) rfl rfl (show 2 ≤ 100 by (first | exact Nat.le_add_left _ _ | lia)) ?_
    exact ⟨_, _, _, rfl, rfl, FF.keep⟩
  · have hil : i < pts.length := by rw [← ptsB.1]; exact hi
    have hpt := List.getElem?_eq_getElem hil
    obtain ⟨pq, dx, t1, t2, -, -, rcq, n1, n2⟩ := hrf i _ hpt
    have k56 : ∀ b o, b ≠ C' → b ≠ I → h₅.get? b = some o → h₆.get? b = some o := fun b o n1 n2 e => kB₆ _ _ (hideAll_get _ e (notC _ n1 n2))
    have hin : ∀ b, (∃ o, h₃.get? b = some o) → ∀ o, h₅.get? b = some o → h₆.get? b = some o := fun b hb o e => k56 b o (nx b hb).1 (nx b hb).2 e
    have x602 : ∃ o, h₃.get? 602 = some o := by obtain ⟨ps, ⟨o, _, _, _, _, _, _, _, _, _, ho, -⟩, -⟩ := T₃; exact ⟨o, ho⟩
    have x637 : ∃ o, h₃.get? 637 = some o := by obtain ⟨ps, ⟨o, _, _, _, _, _, _, _, _, _, ho, -⟩, -⟩ := TL₃; exact ⟨o, ho⟩
    have x598 : ∃ o, h₃.get? 598 = some o := by obtain ⟨o, e, -⟩ := T₃.has; exact ⟨o, e⟩
    have x633 : ∃ o, h₃.get? 633 = some o := by obtain ⟨o, e, -⟩ := TL₃.tab.has; exact ⟨o, e⟩
    repeat walk_at "sky_m0"
    refine h h₆ _ gs₆ T' pts (fun b o nb e => kB₆ _ _ (kBB _ _ (back₃ b o nb e))) (T₅.at (hin _ x602) (hin _ x598)) (TL₅.move (hin _ x637) (hin _ x633) fun c'' y o e => k56 _ _ (hrec _ y).1 (hrec _ y).2 e) bare₆ hok (.inr ⟨i, pts[i], rf i, dx, t', hpt, fun j pt' hj => ?_, ?_, rcq.kept (kBB.trans kB₆), n1, n2⟩)
    · have hjl : j < vals.size := by
        rw [ptsB.1]
        rcases Nat.lt_or_ge j pts.length with q | q
        · exact q
        · rw [List.getElem?_eq_none q] at hj; cases hj
      have := hbest j hjl
      rw [kfe i _ hpt, kfe j _ hj] at this
      exact this
    · rw [kfe i _ hpt] at tp₆; exact tp₆
end
theorem no_col_big {H : Int → Int} {Wi Hi wd ht : Int} {turn : Bool} (hw : 0 < wd) (hh : 0 < ht) (hH : ∀ z, 0 ≤ z → z < Wi → 0 ≤ H z) (c : max Wi Hi < wd ∨ max Hi Wi < ht) (k : Nat) (x b : Int) : ¬ Col H Wi Hi (sidesOf turn wd ht) k x b := by
  rintro ⟨w, h, e, x0, x1, ⟨h1, -⟩, hle⟩
  have key : w ≤ Wi ∧ h ≤ Hi ∧ 0 < w := by
    rcases sides_cases e with ⟨-, rfl, rfl⟩ | ⟨-, -, rfl, rfl⟩
    · have := h1 x (Int.le_refl _) (by (first | exact Int.lt_add_of_pos_right _ (by assumption) | lia))
      have := hH x x0 (by (first | lia | omega))
      (first | lia | omega)
    · have := h1 x (Int.le_refl _) (by (first | exact Int.lt_add_of_pos_right _ (by assumption) | lia))
      have := hH x x0 (by (first | lia | omega))
      (first | lia | omega)
  rcases sides_cases e with ⟨-, rfl, rfl⟩ | ⟨-, -, rfl, rfl⟩ <;> (have m1 := Int.le_max_left Wi Hi; have m2 := Int.le_max_right Wi Hi; have m3 := Int.le_max_left Hi Wi; have m4 := Int.le_max_right Hi Wi; generalize max Wi Hi = M1 at *; generalize max Hi Wi = M2 at *; rcases c with c | c <;> lia)
theorem Chain.len : ∀ {segs : List Sg} {a b : Int}, Chain a segs b → (segs.length : Int) ≤ b - a
  | [], a, b, h => by have h : a = b := h; rw [List.length_nil]; (first | lia | omega)
  | g :: gs, a, b, ⟨h1, h2, h3⟩ => by have := Chain.len h3; rw [List.length_cons]; (first | lia | omega)
theorem Sk.ends {H : Int → Int} {segs : List Sg} {Wi : Int} (S : Sk H segs 0 Wi) (hW : 1 ≤ Wi) : ∃ f t, segs[0]? = some f ∧ segs.getLast? = some t := by
  have hn : 0 < segs.length := S.1.lt_len (by (first | assumption | lia))
  refine ⟨segs[0], segs[segs.length - 1], List.getElem?_eq_getElem hn, ?_⟩
  rw [List.getLast?_eq_getElem?]
  exact List.getElem?_eq_getElem _
/- the measure that the law foretells -/
noncomputable def toldOf (way : Nat) (Wi Hi : Int) (key : Int × Int) : Int := if way = 2 then key.1 * Wi * Hi + key.2 else key.1
/- what fitness gives back -/
inductive FitRes (C : Addr) (H : Int → Int) (Wi Hi : Int) (sides : List (Int × Int)) (v : Value) : Prop
  | inl (f1 : v = .none) (f2 : ∀ k x b, ¬ IsDue (wayOf C) H Wi Hi sides k x b) : FitRes C H Wi Hi sides v
  | inr (n : Int) (t : Tok) (f1 : v = .int n t) (f2 : ∃ k x b, Col H Wi Hi sides k x b) (f3 : ∀ k x b, IsDue (wayOf C) H Wi Hi sides k x b → n = toldOf (wayOf C) Wi Hi (Key (wayOf C) H sides k x b)) : FitRes C H Wi Hi sides v
theorem Pk.butl {h h' : Heap} {p dp C sl rl : Addr} {W H : Int} {turn : Bool} {l : List Addr} (P : Pk h p dp C W H turn sl rl) (hl : ∀ x ∈ l, Odd h x) (k : ButL l h h') : Pk h' p dp C W H turn sl rl := by
  obtain ⟨c, a, m, tw, th, ⟨o, es, ep, ho, r1, r, r5, r6⟩, b1, b2, b3, b4, b5, b6, b7⟩ := P
  refine ⟨c, k _ _ (fun q => ?_) a, m, tw, th, ⟨o, es, ep, k _ _ (fun q => ?_) ho, r1, r, r5, r6⟩, b1, b2, b3, b4, b5, b6, b7⟩
  · exact (hl _ q _ a).1 _ _ rfl
  · exact (hl _ q _ ho).2.1 _ _ r1
theorem Inst.butl {h h' : Heap} {x C : Addr} {l : List Addr} {m : Str → Option Value} (I : Inst h x C m) (hl : ∀ x ∈ l, Odd h x) (k : ButL l h h') : Inst h' x C m := by
  obtain ⟨d, hx, o, es, ep, ho, r1, r2, r3, r4⟩ := I
  refine ⟨d, k _ _ (fun q => ?_) hx, o, es, ep, k _ _ (fun q => ?_) ho, r1, r2, r3, r4⟩
  · exact (hl _ q _ hx).1 _ _ rfl
  · exact (hl _ q _ ho).2.1 _ _ r1
theorem PtAt.butl {h h' : Heap} {p : Addr} {x y : Int} {l : List Addr} (P : PtAt h p x y) (hl : ∀ x ∈ l, Odd h x) (k : ButL l h h') : PtAt h' p x y :=
  let ⟨m, tx, ty, I, r, r2, r3⟩ := P; ⟨m, tx, ty, I.butl hl k, r, r2, r3⟩
theorem SegAt.butl {h h' : Heap} {a : Addr} {x y n : Int} {l : List Addr} (S : SegAt h a x y n) (hl : ∀ x ∈ l, Odd h x) (k : ButL l h h') : SegAt h' a x y n :=
  let ⟨m, p, q, I, r1, r2, P, Q⟩ := S; ⟨m, p, q, I.butl hl k, r1, r2, P.butl hl k, Q.butl hl k⟩
theorem Segs.butl {h h' : Heap} {l : List Addr} {segs : List Sg} {items : Array Value} (S : Segs h items segs) (hl : ∀ x ∈ l, Odd h x) (k : ButL l h h') : Segs h' items segs :=
  ⟨S.1, fun i sg e => let ⟨a, b, c, d⟩ := S.2 i sg e; ⟨a, b, c.butl hl k, d⟩⟩
theorem tab_odds {h : Heap} (T : Tab h 602 598) (TL : TabL h 637 633 lamPos lamQual) : ∀ x ∈ [598, 633], Odd h x := fun x hx => by
  rcases List.mem_cons.mp hx with rfl | hx
  · exact T.has.odd
  · rw [List.mem_singleton.mp hx]; exact TL.tab.has.odd
theorem PlainList.butl {h h' : Heap} {a : Addr} {items : Array Value} (P : h.PlainList a items) (T : Tab h 602 598) (TL : TabL h 637 633 lamPos lamQual) (k : ButL [598, 633] h h') : h'.PlainList a items := by
  refine P.at fun o e => k _ _ (fun hm => ?_) e
  obtain ⟨n, e⟩ := P
  rcases List.mem_cons.mp hm with hm | hm
  · obtain ⟨ps, -, -, e'⟩ := T; rw [← hm, e] at e'; cases e'
  · obtain ⟨ps, -, -, e'⟩ := TL.tab; rw [← List.mem_singleton.mp hm, e] at e'; cases e'
section
variable {prog : Program} {w : World} {A : Around} {E : Value → Shared → Prop} {s : Shared} {B : Heap} {L : Addr} {m : Str → Option Value} {env : Env} {names : List (Str × NameKind)} {cells : List (Str × Addr)} {Hs : List Addr}
theorem truthy_inst {x C : Addr} {mm : Str → Option Value} {Q : Bool → Shared → Prop} (W : Wd w B) (k : Kept B s.heap) (I : Inst s.heap x C mm) (hs : findIn (kHead.heap_1 w.params) (.ref C) "__bool__" = some none) (hl : findIn (kHead.heap_1 w.params) (.ref C) "__len__" = some none)
    (h : Q true s) : wpAny (model prog w) A (truthy (.ref x)) Q E s := by
  obtain ⟨dx, o, I, -⟩ := I.at
  have X := (W.keeps k).K
  unfold truthy
  refine wpAny_bind (m := callSpecial? (.ref x) (Str.ofString "__bool__")) (wpAny_bind (wpAny_bind (I.type.here ((looks_findIn X hs).here (wpAny_pure ?_)))))
  refine wpAny_bind (wpAny_bind (I.type.here ((looks_findIn X hl).here ?_)))
  exact wpAny_pure h
theorem truthy_none {Q : Bool → Shared → Prop} (h : Q false s) : wpAny (model prog w) A (truthy .none) Q E s := by
  unfold truthy
  exact wpAny_pure h
/- x, y = a pair -/
theorem m_unpack2 {σh : Heap} {σg : Array GenState} {σd : Drawn} {σt : Nat} {σo : OsState} {x y : Str} {px py pos : Pos} {kk : Nat} {t : Addr} {v1 v2 : Value} {Q : Unit → Shared → Prop} (V : Ev env L names cells) (X : Fm w Hs B L σh m) (hA : A.handled = none) (ht : TupAt σh t #[v1, v2]) (hl1 : names.lookup x = some .local) (hl2 : names.lookup y = some .local)
    (h : ∀ h' tk, Fm w Hs B L h' (upd y v2 (upd x v1 m)) → (∀ a its, σh.PlainList a its → h'.PlainList a its) → But L σh h' → Q () ⟨h', σg, σd, tk, σo⟩) :
    wpAny (model prog w) A (assign (.Tuple [.Name x px, .Name y py] kk pos) env (.ref t)) Q E ⟨σh, σg, σd, σt, σo⟩ := by
  obtain ⟨n, ht⟩ := ht
  refine assign_Tuple_tuple hA ⟨_, ht, rfl, n, rfl⟩ rfl rfl fun h₁ he => ?_
  have k₁ : Kept σh h₁ := fun b o e => he b o (Nat.ne_of_lt (Heap.lt_size e)) e
  show wpAny (model prog w) A (do holding [v2] (assign (.Name x px) env v1); assignInOrder [assign (.Name y py) env] [v2]) Q E _
  refine wpAny_bind (wpAny_holding (wpAny_assign_Name (m_store V (X.step k₁) hl1 fun h₂ tkσ X₂ l₂ b₂ => ?_)))
  show wpAny (model prog w) A (do holding [] (assign (.Name y py) env v2); assignInOrder [] []) Q E _
  refine wpAny_bind (wpAny_holding (wpAny_assign_Name (m_store V X₂ hl2 fun h₃ tkσ X₃ l₃ b₃ => ?_)))
  refine wpAny_pure ?_
  exact h h₃ _ X₃ (fun a its p => l₃ a its (l₂ a its (p.at (k₁ _)))) ((But.of_kept k₁).trans (b₂.trans b₃))
end
/- a frame upon a new base: all that stands now, but L and Hs -/
theorem Fm.moveT {w : World} {B h h' : Heap} {L : Addr} {m : Str → Option Value} (X : Fm w [598, 633] B L h m) (k : ButL [598, 633] h h') (T : Tab h' 602 598) (TL : TabL h' 637 633 lamPos lamQual) : Fm w [598, 633] B L h' m := by
  have n1 : L ≠ 598 := fun q => X.neo (X.odd _ (.head _)) q.symm
  have n2 : L ≠ 633 := fun q => X.neo (X.odd _ (.tail _ (.head _))) q.symm
  obtain ⟨o, es, ep, ho, r⟩ := X.F.ns
  refine ⟨X.W, ⟨⟨o, es, ep, k _ _ (by simp [n1, n2]) ho, r⟩, fun b o e => k _ _ (fun q => ?_) (X.keep b o e), X.F.hid⟩, X.hid, fun x hx => ?_⟩
  · rw [X.hid b q] at e; cases e
  · rcases List.mem_cons.mp hx with rfl | hx
    · exact T.has
    · rw [List.mem_singleton.mp hx]; exact TL.tab.has
section
variable {prog : Program} {w : World} {A : Around} {E : Value → Shared → Prop} {s : Shared} {B : Heap} {L : Addr} {m : Str → Option Value} {Hs : List Addr}
theorem m_max {σh : Heap} {σg : Array GenState} {σd : Drawn} {σt : Nat} {σo : OsState} {a b : Int} {t u : Tok} {Q : Value → Shared → Prop} (X : Fm w Hs B L σh m) (hh : A.handled = none)
    (h : ∀ h' tk t, Fm w Hs B L h' m → Kept σh h' → Q (.int (max a b) t) ⟨h', σg, σd, tk, σo⟩) : wpAny (model prog w) A (call (.builtin "max") [.int a t, .int b u]) Q E ⟨σh, σg, σd, σt, σo⟩ := by
  refine max_two_ints hh fun h' tk k => ?_
  by_cases c : b > a
  · rw [if_pos c]
    have := h h' tk u (X.step k) k
    rwa [show max a b = b by (first | lia | omega)] at this
  · rw [if_neg c]
    have := h h' tk t (X.step k) k
    rwa [show max a b = a by (first | grind | lia)] at this
theorem pk_select (P : Params) : ∀ C, IsSky C → plainGet (kHead.heap_1 P) C "_select_position" = true ∧ findIn (kHead.heap_1 P) (.ref C) "_select_position" = some (some (.ref 638)) ∧ isFn (kHead.heap_1 P) (.ref 638) = true := by
  rintro C (rfl | rfl | rfl) <;> exact ⟨by k_is, by k_is, by k_is⟩
theorem pk_addsky (P : Params) : ∀ C, IsSky C → plainGet (kHead.heap_1 P) C "_add_skyline" = true ∧ findIn (kHead.heap_1 P) (.ref C) "_add_skyline" = some (some (.ref 624)) ∧ isFn (kHead.heap_1 P) (.ref 624) = true := by
  rintro C (rfl | rfl | rfl) <;> exact ⟨by k_is, by k_is, by k_is⟩
theorem fitness_call {σh : Heap} {σg : Array GenState} {σd : Drawn} {σt : Nat} {σo : OsState} {p dp C sl rl' : Addr} {Wi Hi wd ht : Int} {tw th : Tok} {turn : Bool} {items : Array Value} {segs : List Sg} {H : Int → Int} {R : Result → Shared → Prop} (W : Wd w σh) (hf : FreeL w σh [598, 633]) (T : Tab σh 602 598) (TL : TabL σh 637 633 lamPos lamQual) (P : Pk σh p dp C Wi Hi turn sl rl') (hl : σh.PlainList sl items) (hS : Segs σh items segs)
    (S : Sk H segs 0 Wi) (hW1 : 1 ≤ Wi) (hWi : Wi ≤ 8) (hH : ∀ z, 0 ≤ z → z < Wi → 0 ≤ H z) (hbits : Builtin.Int.intBits Hi ≤ 2 ^ 21) (hw : 0 < wd) (hh : 0 < ht) (hg : AllBare σg) (Ro : Rm A 24 240)
    (h : ∀ h' tk gs v, ButL [598, 633] σh h' → Tab h' 602 598 → TabL h' 637 633 lamPos lamQual → AllBare gs → FitRes C H Wi Hi (sidesOf turn wd ht) v → R (.ok (.ret v)) ⟨h', gs, σd, tk, σo⟩) :
    codeAny (model prog w) A (.call (.ref 645) ⟨[.ref p, .int wd tw, .int ht th], []⟩) R ⟨σh, σg, σd, σt, σo⟩ := by
  have Ro : Rm A (23 + 1) (230 + 3) := Ro.le (by decide) (by decide)
  ((refine' code_fn ([("self", .ref p), ("width", .int wd tw), ("height", .int ht th)]) ?k0 ?kk ?k1 ?k2 ?k3 ?k4 ?k5 ?k6 ?k7 ?k8 ?k9 ?k10 ?k11 ?k12 ?_); (case k0 => assumption); (case kk => (first | assumption | exact Fz.keep (by assumption) | exact Kept.refl _)); (case k2 => k_is); (case k3 => k_is); (case k4 => rfl); (case k5 => exact binds_eq rfl); (case k6 => rfl); (case k7 => rfl); (case k8 => rfl); (case k9 => rfl); (case k10 => rfl); (case k11 => rfl); (case k12 => rfl); (case k1 => assumption); intro A' L env h₁ R' V F; (try dsimp only at V F); (try dsimp only))
  obtain ⟨B, WB, kB, hB, back⟩ := hf.hide
  have hz : items.size ≤ 10 := by have := S.1.len; have := hS.1; (first | lia | omega)
  have T₁ := T.kept F.keep
  have TL₁ := TL.kept F.keep
  have X : Fm w [598, 633] B L h₁ _ := ⟨WB, F.weaken kB, hB, fun x hx => by
    rcases List.mem_cons.mp hx with rfl | hx
    · exact T₁.has
    · rw [List.mem_singleton.mp hx]; exact TL₁.tab.has⟩
  have odds := tab_odds T TL
  have PB := P.butl odds back
  have lB := PlainList.butl hl T TL back
  have SB := hS.butl odds back
  clear F
  repeat walk_at "sky_m0"
  refine ⟨rfl, ?_⟩
  repeat walk_at "sky_m0"
  refine pk_width X.W X.keep (PB.kept X.keep) fun tW tkW => ?_
  try dsimp only
  repeat walk_at "sky_m0"
  refine pk_height X.W X.keep (PB.kept X.keep) fun tH tkH => ?_
  try dsimp only
  repeat walk_at "sky_m0"
  refine m_max X R'.2.2 fun h₂ tk₂ t₂ X₂ k₂ => ?_
  try dsimp only at k₂ ⊢
  replace T₁ := T₁.kept k₂
  replace TL₁ := TL₁.kept k₂
  clear X k₂
  have nocol := no_col_big (Hi := Hi) (turn := turn) hw hh hH
  have early : (max Wi Hi < wd ∨ max Hi Wi < ht) → ∀ h' tk, Kept B h' → Tab h' 602 598 → TabL h' 637 633 lamPos lamQual → R (.ok (.ret .none)) ⟨h', σg, σd, tk, σo⟩ := fun c h' tk k T' TL' =>
    h h' tk σg .none (fun b o n e => k b o (back b o n e)) T' TL' hg (.inl rfl fun k x b D => nocol c k x b D.1)
  repeat walk_at "sky_m0"
  (try (with_reducible first | refine Next.next (by assumption) ?_ | refine Next.ret (by assumption) ?_ | refine Next.cont (by assumption) ?_ | refine Next.brk (by assumption) ?_ | refine IfK.go (by assumption) ?_ | refine AsK.go (by assumption) ?_))
  refine ite_d (fun c1 => ?_) (fun c1 => ?_)
  · repeat walk_at "sky_m0"
    exact early (.inl c1) _ _ X₂.keep T₁ TL₁
  repeat walk_at "sky_m0"
  refine pk_height X₂.W X₂.keep (PB.kept X₂.keep) fun tH tkH => ?_
  try dsimp only
  repeat walk_at "sky_m0"
  refine pk_width X₂.W X₂.keep (PB.kept X₂.keep) fun tW tkW => ?_
  try dsimp only
  repeat walk_at "sky_m0"
  refine m_max X₂ R'.2.2 fun h₃ tk₃ t₃ X₃ k₃ => ?_
  try dsimp only at k₃ ⊢
  replace T₁ := T₁.kept k₃
  replace TL₁ := TL₁.kept k₃
  clear X₂ k₃
  repeat walk_at "sky_m0"
  (try (with_reducible first | refine Next.next (by assumption) ?_ | refine Next.ret (by assumption) ?_ | refine Next.cont (by assumption) ?_ | refine Next.brk (by assumption) ?_ | refine IfK.go (by assumption) ?_ | refine AsK.go (by assumption) ?_))
  refine ite_d (fun c2 => ?_) (fun c2 => ?_)
  · repeat walk_at "sky_m0"
    exact early (.inr c2) _ _ X₃.keep T₁ TL₁
  clear early nocol
  repeat walk_at "sky_m0"
  refine pk_wm X₃.W X₃.keep (PB.kept X₃.keep) fun tk₄ => ?_
  try dsimp only
  repeat walk_at "sky_m0"
  refine Assign_Tuple ?_
  repeat walk_at "sky_m0"
  refine m_pkmeth X₃ PB (by decide) (pk_select _) ?_
  try dsimp only
  repeat walk_at "sky_m0"
  obtain ⟨f, t, hf0, ht0⟩ := S.ends hW1
  refine wpAny_call (select_pos X₃.Wh ⟨B, X₃.W, X₃.keep, X₃.hid⟩ T₁ TL₁ (PB.kept X₃.keep) (lB.at (X₃.keep _)) (SB.kept X₃.keep) hf0 ht0 S hWi hH hbits hz hw hh hg (R'.le (by decide) (by decide)) fun h₅ tk₅ gs₅ v pts b₅ T₅ TL₅ bare₅ hok hch => ?_)
  try dsimp only at b₅ hch ⊢
  have X₅ := X₃.moveT b₅ T₅ TL₅
  obtain ⟨g0, g1, rfl, PL0, PL1, PL1'⟩ := hok
  obtain ⟨q1, q2, q3⟩ := choice (C := C) S hw hh hW1 hH PL0 PL1 PL1'
  have fin : ∀ h' tk v, FitRes C H Wi Hi (sidesOf turn wd ht) v → Kept B h' → Tab h' 602 598 → TabL h' 637 633 lamPos lamQual → R (.ok (.ret v)) ⟨h', gs₅, σd, tk, σo⟩ := fun h' tk v hv k T' TL' =>
    h h' tk gs₅ v (fun b o n e => k b o (back b o n e)) T' TL' bare₅ hv
  clear X₃
  rcases hch with ⟨e0, tp⟩ | ⟨i, pt, r, dx, tt, hpt, hmin, tp, -⟩
  · refine m_unpack2 V X₅ R'.2.2 tp rfl rfl fun h₆ tk₆ X₆ l₆ b₆ => ?_
    try dsimp only at l₆ b₆ ⊢
    repeat walk_at "sky_m0"
    exact fin _ _ _ (.inl rfl (q2 e0)) X₆.keep (T₅.butd b₆ (.ns X₅.F.ns)) (TL₅.butd b₆ (.ns X₅.F.ns))
  · refine m_unpack2 V X₅ R'.2.2 tp rfl rfl fun h₆ tk₆ X₆ l₆ b₆ => ?_
    try dsimp only at l₆ b₆ ⊢
    repeat walk_at "sky_m0"
    refine fin _ _ _ (.inr _ tt rfl ?_ fun k x b D => (q3 i pt hpt hmin k x b D).2.2.2) X₆.keep (T₅.butd b₆ (.ns X₅.F.ns)) (TL₅.butd b₆ (.ns X₅.F.ns))
    obtain ⟨k, c⟩ := q1 pt (List.mem_of_getElem? hpt)
    exact ⟨k, _, _, c⟩
end
theorem RectAt.bute {h h' : Heap} {r dx a : Addr} {x y w l : Int} {rid : Value} (P : RectAt h r dx x y w l rid) (k : But a h h') (n1 : r ≠ a) (n2 : dx ≠ a) : RectAt h' r dx x y w l rid :=
  let ⟨a1, m, tx, ty, tw, tl, ⟨o, es, ep, ho, q, q2, q3, q4⟩, b1, b2, b3, b4, b5, b6⟩ := P; ⟨k _ _ n1 a1, m, tx, ty, tw, tl, ⟨o, es, ep, k _ _ n2 ho, q, q2, q3, q4⟩, b1, b2, b3, b4, b5, b6⟩
theorem Pk.bute {h h' : Heap} {p dp C sl rl a : Addr} {W H : Int} {turn : Bool} (P : Pk h p dp C W H turn sl rl) (k : But a h h') (n1 : p ≠ a) (n2 : dp ≠ a) : Pk h' p dp C W H turn sl rl :=
  let ⟨c, a1, m, tw, th, ⟨o, es, ep, ho, q, q2, q3, q4⟩, b1, b2, b3, b4, b5, b6, b7⟩ := P; ⟨c, k _ _ n1 a1, m, tw, th, ⟨o, es, ep, k _ _ n2 ho, q, q2, q3, q4⟩, b1, b2, b3, b4, b5, b6, b7⟩
/- an object off the base turns -/
theorem Fm.bute {w : World} {B h h' : Heap} {L a : Addr} {m : Str → Option Value} (X : Fm w [] B L h m) (k : But a h h') (hL : a ≠ L) (hB : B.get? a = none) : Fm w [] B L h' m :=
  ⟨X.W, X.F.but k hL hB, (fun _ h => nomatch h), (fun _ h => nomatch h)⟩
theorem NsZ.butl' {h h' : Heap} {a : Addr} {m : Str → Option Value} {z : Nat} {l : List Addr} (N : NsZ h a m z) (hl : ∀ x ∈ l, Odd h x) (k : ButL l h h') : NsZ h' a m z := by
  obtain ⟨o, es, ep, ho, r1, r, r5, r6⟩ := N
  exact ⟨o, es, ep, k _ _ (fun q => (hl _ q _ ho).2.1 _ _ r1) ho, r1, r, r5, r6⟩
section
variable {prog : Program} {w : World} {A : Around} {E : Value → Shared → Prop} {s : Shared}
theorem add_rect_call {σh : Heap} {σg : Array GenState} {σd : Drawn} {σt : Nat} {σo : OsState} {p dp C sl rl : Addr} {Wi Hi wd ht : Int} {tw th : Tok} {turn : Bool} {rid : Value} {items ritems : Array Value} {segs : List Sg} {H : Int → Int} {R : Result → Shared → Prop} (W : Wd w σh) (hf : FreeL w σh [598, 633, dp, rl]) (T : Tab σh 602 598) (TL : TabL σh 637 633 lamPos lamQual) (P : Pk σh p dp C Wi Hi turn sl rl) (hl : σh.PlainList sl items) (hS : Segs σh items segs)
    (hr : σh.PlainList rl ritems) (hrz : ritems.size ≤ 100) (S : Sk H segs 0 Wi) (hW1 : 1 ≤ Wi) (hWi : Wi ≤ 8) (hH : ∀ z, 0 ≤ z → z < Wi → 0 ≤ H z) (hbits : Builtin.Int.intBits Hi ≤ 2 ^ 21) (hw : 0 < wd) (hh : 0 < ht) (hg : AllBare σg) (Ro : Rm A 24 240)
    (hnone : ∀ h' tk gs, ButL [598, 633] σh h' → Tab h' 602 598 → TabL h' 637 633 lamPos lamQual → AllBare gs → (∀ k x b, ¬ IsDue (wayOf C) H Wi Hi (sidesOf turn wd ht) k x b) → R (.ok (.ret .none)) ⟨h', gs, σd, tk, σo⟩)
    (hsome : ∀ (h' : Heap) (tk : Nat) (gs : Array GenState) (r dx : Addr) (pt : Pt) (sl' : Addr) (items' : Array Value), ButL [598, 633, dp, rl] σh h' → Tab h' 602 598 → TabL h' 637 633 lamPos lamQual → AllBare gs → (∃ k, Col H Wi Hi (sidesOf turn wd ht) k pt.x pt.y) →
      (∀ k x b, IsDue (wayOf C) H Wi Hi (sidesOf turn wd ht) k x b → (sidesOf turn wd ht)[k]? = some (pt.w, pt.l) ∧ pt.x = x ∧ pt.y = b) → 0 ≤ pt.x → 0 < pt.w → pt.x + pt.w ≤ Wi → Pk h' p dp C Wi Hi turn sl' rl → h'.PlainList sl' items' → Segs h' items' (addSky segs pt.x pt.w (pt.y + pt.l)) →
      h'.PlainList rl (ritems.push (.ref r)) → RectAt h' r dx pt.x pt.y pt.w pt.l rid → σh.get? r = none → σh.get? dx = none → (∀ b o, b ∉ [598, 633] → σh.get? b = some o → sl' ≠ b) → R (.ok (.ret (.ref r))) ⟨h', gs, σd, tk, σo⟩) :
    codeAny (model prog w) A (.call (.ref 653) ⟨[.ref p, .int wd tw, .int ht th, rid], []⟩) R ⟨σh, σg, σd, σt, σo⟩ := by
  have Ro : Rm A (23 + 1) (230 + 3) := Ro.le (by decide) (by decide)
  ((refine' code_fn ([("self", .ref p), ("width", .int wd tw), ("height", .int ht th), ("rid", rid)]) ?k0 ?kk ?k1 ?k2 ?k3 ?k4 ?k5 ?k6 ?k7 ?k8 ?k9 ?k10 ?k11 ?k12 ?_); (case k0 => assumption); (case kk => (first | assumption | exact Fz.keep (by assumption) | exact Kept.refl _)); (case k2 => k_is); (case k3 => k_is); (case k4 => rfl); (case k5 => (refine' binds_K ?X ?d1 ?d2 ?d3 ?d4 ?d5; (case X => exact (Wd.keeps (by assumption) (by (first | assumption | exact Fz.keep (by assumption) | exact Kept.refl _))).K); (case d1 => rfl); (case d2 => k_is); (case d3 => rfl); (case d4 => rfl); (case d5 => rfl))); (case k6 => rfl); (case k7 => rfl); (case k8 => rfl); (case k9 => rfl); (case k10 => rfl); (case k11 => rfl); (case k12 => rfl); (case k1 => assumption); intro A' L env h₁ R' V F; (try dsimp only at V F); (try dsimp only))
  obtain ⟨B₄, WB₄, kB₄, hB₄, -⟩ := hf.hide
  have hf2 : FreeL w σh [598, 633] := ⟨B₄, WB₄, kB₄, fun x hx => hB₄ x (by
    rcases List.mem_cons.mp hx with rfl | hx
    · exact .head _
    · rw [List.mem_singleton.mp hx]; exact .tail _ (.head _))⟩
  obtain ⟨B, WB, kB, hB, back⟩ := hf2.hide
  have kBB : Kept B₄ B := fun b o e => back b o (fun q => by
    rw [hB₄ b (by
      rcases List.mem_cons.mp q with rfl | q
      · exact .head _
      · rw [List.mem_singleton.mp q]; exact .tail _ (.head _))] at e
    cases e) (kB₄ b o e)
  have hz : items.size ≤ 10 := by have := S.1.len; have := hS.1; (first | lia | omega)
  have T₁ := T.kept F.keep
  have TL₁ := TL.kept F.keep
  have X : Fm w [598, 633] B L h₁ _ := ⟨WB, F.weaken kB, hB, fun x hx => by
    rcases List.mem_cons.mp hx with rfl | hx
    · exact T₁.has
    · rw [List.mem_singleton.mp hx]; exact TL₁.tab.has⟩
  have odds := tab_odds T TL
  have PB := P.butl odds back
  have lB := PlainList.butl hl T TL back
  have rB := PlainList.butl hr T TL back
  have SB := hS.butl odds back
  have hLs : σh.get? L = none := F.hid
  clear F
  repeat walk_at "sky_m0"
  refine ⟨rfl, ?_⟩
  repeat walk_at "sky_m0"
  refine pk_width X.W X.keep (PB.kept X.keep) fun tW tkW => ?_
  try dsimp only
  repeat walk_at "sky_m0"
  refine pk_height X.W X.keep (PB.kept X.keep) fun tH tkH => ?_
  try dsimp only
  repeat walk_at "sky_m0"
  refine m_max X R'.2.2 fun h₂ tk₂ t₂ X₂ k₂ => ?_
  try dsimp only at k₂ ⊢
  replace T₁ := T₁.kept k₂
  replace TL₁ := TL₁.kept k₂
  clear X k₂
  have nocol := no_col_big (Hi := Hi) (turn := turn) hw hh hH
  have early : (max Wi Hi < wd ∨ max Hi Wi < ht) → ∀ h' tk, Kept B h' → Tab h' 602 598 → TabL h' 637 633 lamPos lamQual → R (.ok (.ret .none)) ⟨h', σg, σd, tk, σo⟩ := fun c h' tk k T' TL' =>
    hnone h' tk σg (fun b o n e => k b o (back b o n e)) T' TL' hg (fun k x b D => nocol c k x b D.1)
  repeat walk_at "sky_m0"
  (try (with_reducible first | refine Next.next (by assumption) ?_ | refine Next.ret (by assumption) ?_ | refine Next.cont (by assumption) ?_ | refine Next.brk (by assumption) ?_ | refine IfK.go (by assumption) ?_ | refine AsK.go (by assumption) ?_))
  refine ite_d (fun c1 => ?_) (fun c1 => ?_)
  · repeat walk_at "sky_m0"
    exact early (.inl c1) _ _ X₂.keep T₁ TL₁
  repeat walk_at "sky_m0"
  refine pk_height X₂.W X₂.keep (PB.kept X₂.keep) fun tH tkH => ?_
  try dsimp only
  repeat walk_at "sky_m0"
  refine pk_width X₂.W X₂.keep (PB.kept X₂.keep) fun tW tkW => ?_
  try dsimp only
  repeat walk_at "sky_m0"
  refine m_max X₂ R'.2.2 fun h₃ tk₃ t₃ X₃ k₃ => ?_
  try dsimp only at k₃ ⊢
  replace T₁ := T₁.kept k₃
  replace TL₁ := TL₁.kept k₃
  clear X₂ k₃
  repeat walk_at "sky_m0"
  (try (with_reducible first | refine Next.next (by assumption) ?_ | refine Next.ret (by assumption) ?_ | refine Next.cont (by assumption) ?_ | refine Next.brk (by assumption) ?_ | refine IfK.go (by assumption) ?_ | refine AsK.go (by assumption) ?_))
  refine ite_d (fun c2 => ?_) (fun c2 => ?_)
  · repeat walk_at "sky_m0"
    exact early (.inr c2) _ _ X₃.keep T₁ TL₁
  clear early nocol
  repeat walk_at "sky_m0"
  (((try (with_reducible first | refine Next.next (by assumption) ?_ | refine Next.ret (by assumption) ?_ | refine Next.cont (by assumption) ?_ | refine Next.brk (by assumption) ?_ | refine IfK.go (by assumption) ?_ | refine AsK.go (by assumption) ?_)); (with_reducible show wpAny _ _ (storeName _ _ _) _ _ _); refine m_store (by assumption) (by assumption) (by exact rfl) ?_))
  intro h₄ tkσ X₄ _ b₄
  try dsimp only at b₄ ⊢
  replace T₁ := T₁.butd b₄ (.ns X₃.F.ns)
  replace TL₁ := TL₁.butd b₄ (.ns X₃.F.ns)
  clear X₃ b₄
  repeat walk_at "sky_m0"
  refine pk_wm X₄.W X₄.keep (PB.kept X₄.keep) fun tk₄ => ?_
  try dsimp only
  repeat walk_at "sky_m0"
  refine truthy_none ?_
  repeat walk_at "sky_m0"
  refine Assign_Tuple ?_
  repeat walk_at "sky_m0"
  refine m_pkmeth X₄ PB (by decide) (pk_select _) ?_
  try dsimp only
  repeat walk_at "sky_m0"
  obtain ⟨f, t, hf0, ht0⟩ := S.ends hW1
  refine wpAny_call (select_pos X₄.Wh ⟨B, X₄.W, X₄.keep, X₄.hid⟩ T₁ TL₁ (PB.kept X₄.keep) (lB.at (X₄.keep _)) (SB.kept X₄.keep) hf0 ht0 S hWi hH hbits hz hw hh hg (R'.le (by decide) (by decide)) fun h₅ tk₅ gs₅ v pts b₅ T₅ TL₅ bare₅ hok hch => ?_)
  try dsimp only at b₅ hch ⊢
  have X₅ := X₄.moveT b₅ T₅ TL₅
  obtain ⟨g0, g1, rfl, PL0, PL1, PL1'⟩ := hok
  obtain ⟨q1, q2, q3⟩ := choice (C := C) S hw hh hW1 hH PL0 PL1 PL1'
  rcases hch with ⟨e0, tp⟩ | ⟨i, pt, r, dx, tt, hpt, hmin, tp, Rc, nr, ndx⟩
  · clear X₄
    refine m_unpack2 V X₅ R'.2.2 tp rfl rfl fun h₆ tk₆ X₆ l₆ b₆ => ?_
    try dsimp only at l₆ b₆ ⊢
    repeat walk_at "sky_m0"
    refine truthy_none ?_
    repeat walk_at "sky_m0"
    refine wpAny_is_self rfl ?_
    repeat walk_at "sky_m0"
    exact hnone _ _ gs₅ (fun b o n e => X₆.keep b o (back b o n e)) (T₅.butd b₆ (.ns X₅.F.ns)) (TL₅.butd b₆ (.ns X₅.F.ns)) bare₅ (q2 e0)
  · have nrL := X₄.F.ne nr
    have ndL := X₄.F.ne ndx
    have gone : ∀ b, h₄.get? b = none → σh.get? b = none := fun b e => by
      cases q : σh.get? b with
      | none => rfl
      | some o =>
        exfalso
        by_cases c1 : b = 598
        · obtain ⟨o', e', -⟩ := T₁.has; rw [c1, e'] at e; cases e
        by_cases c2 : b = 633
        · obtain ⟨o', e', -⟩ := TL₁.tab.has; rw [c2, e'] at e; cases e
        rw [X₄.keep _ _ (back _ _ (by simp [c1, c2]) q)] at e; cases e
    replace nr := gone _ nr
    replace ndx := gone _ ndx
    clear X₄ gone T₁ TL₁
    refine m_unpack2 V X₅ R'.2.2 tp rfl rfl fun h₆ tk₆ X₆ l₆ b₆ => ?_
    try dsimp only at l₆ b₆ ⊢
    replace Rc := Rc.bute b₆ nrL ndL
    have T₆ := T₅.butd b₆ (.ns X₅.F.ns)
    have TL₆ := TL₅.butd b₆ (.ns X₅.F.ns)
    clear X₅ b₆ l₆ b₅ T₅ TL₅
    obtain ⟨k₀, hcol⟩ := q1 pt (List.mem_of_getElem? hpt)
    have hin : 0 ≤ pt.x ∧ 0 < pt.w ∧ pt.x + pt.w ≤ Wi := by
      rcases List.mem_append.mp (List.mem_of_getElem? hpt) with hm | hm
      · obtain ⟨a1, a2, a3, a4, -⟩ := PL0.ok pt hm
        exact ⟨a3, by rw [a1]; exact hw, by rw [a1]; exact a4⟩
      · by_cases c : turn = true ∧ wd ≠ ht
        · obtain ⟨a1, a2, a3, a4, -⟩ := (PL1 c.1 c.2).ok pt hm
          exact ⟨a3, by rw [a1]; exact hh, by rw [a1]; exact a4⟩
        · rw [PL1' c] at hm; cases hm
    repeat walk_at "sky_m0"
    obtain ⟨mI, txI, tyI, twI, tlI, I, -⟩ := Rc.inst
    refine truthy_inst X₆.W X₆.keep I (by k_is) (by k_is) ?_
    repeat walk_at "sky_m0"
    refine m_pkmeth X₆ PB (by decide) (pk_addsky _) ?_
    try dsimp only
    repeat walk_at "sky_m0"
    have kB46 := kBB.trans X₆.keep
    refine wpAny_call (add_sky (self := .none) X₆.Wh ⟨B₄, WB₄, kB46, hB₄ _ (by simp)⟩ (PB.kept X₆.keep) (lB.at (X₆.keep _)) (SB.kept X₆.keep) hz Rc hin.2.1 (R'.le (by decide) (by decide)) fun h₇ tk₇ sl' items' b₇ fsl P₇ l₇ S₇ => ?_)
    try dsimp only at b₇ fsl ⊢
    have fnew : ∀ b o, b ∉ [598, 633] → σh.get? b = some o → sl' ≠ b := fun b o n e q => by
      have := X₆.keep b o (back b o n e)
      rw [← q, fsl] at this; cases this
    have slr : sl' ≠ rl := fun q => by
      rw [q] at fsl
      obtain ⟨n, e⟩ := (rB.at (X₆.keep _))
      rw [e] at fsl; cases fsl
    -- what turns from here on: dp, dx, rl
    obtain ⟨hC, pa, mp, tpw, tph, Np, -⟩ := id P
    have inS : ∀ b, (∃ o, σh.get? b = some o) → ∀ y, σh.get? y = none → b ≠ y := fun b hb y hy q => by obtain ⟨o, e⟩ := hb; rw [q, hy] at e; cases e
    have eP : ∃ o, σh.get? p = some o := ⟨_, pa⟩
    have eD : ∃ o, σh.get? dp = some o := let ⟨o, _, _, e, _, _, _, _⟩ := Np; ⟨o, e⟩
    have eR : ∃ o, σh.get? rl = some o := let ⟨n, e⟩ := hr; ⟨_, e⟩
    have rx : r ≠ dp := Ne.symm (inS _ eD _ nr)
    have dxp : dx ≠ dp := Ne.symm (inS _ eD _ ndx)
    have Rc₇ := Rc.bute b₇ rx dxp
    have NoD : NoFields h₆ dp := .nsz ((Np.butl' odds back).kept X₆.keep)
    have T₇ := T₆.butd b₇ NoD
    have TL₇ := TL₆.butd b₇ NoD
    have Ld : L ≠ dp := Ne.symm (inS _ eD _ hLs)
    have Lr : L ≠ rl := Ne.symm (inS _ eR _ hLs)
    have rlp : rl ≠ dp := fun q => by
      obtain ⟨n, e⟩ := hr; obtain ⟨o, _, _, e', d, -⟩ := Np; rw [q, e'] at e; cases e; cases d
    have r₇ := (rB.at (X₆.keep _)).at fun o e => b₇ _ o rlp e
    have X₇ : Fm w [] (hideAll h₇ [L, dp, dx, rl]) L h₇ _ := ⟨WB₄.keeps fun b o e => hideAll_get _ (b₇ b o (fun q => by rw [q, hB₄ dp (by simp)] at e; cases e) (kB46 b o e)) (fun q => by
      rcases List.mem_cons.mp q with rfl | q
      · rw [kB₄ _ _ e] at hLs; cases hLs
      rcases List.mem_cons.mp q with rfl | q
      · rw [hB₄ _ (by simp)] at e; cases e
      rcases List.mem_cons.mp q with rfl | q
      · rw [kB₄ _ _ e] at ndx; cases ndx
      · rw [List.mem_singleton.mp q, hB₄ rl (by simp)] at e; cases e), ⟨X₆.F.ns.at' fun o e => b₇ _ o Ld e, fun b o e => of_hideAll _ e, hideAll_none _ (.head _)⟩, (fun _ h => nomatch h), (fun _ h => nomatch h)⟩
    have k7 : ∀ b o, b ∉ [598, 633] → b ≠ dp → σh.get? b = some o → h₇.get? b = some o := fun b o n1 n2 e => b₇ b o n2 (X₆.keep b o (back b o n1 e))
    clear X₆ T₆ TL₆ I Rc
    repeat walk_at "sky_m0"
    refine is_ref_none ?_
    repeat walk_at "sky_m0"
    -- rect.rid = rid
    obtain ⟨rh, mR, xR, yR, wR, lR, NR, e1, e2, e3, e4, e5, e6⟩ := id Rc₇
    have rne : r ≠ dx := Inst.ne_dict (m := mR) ⟨dx, rh, NR.le (by decide)⟩ NR
    refine set_inst1 X₇.W X₇.keep rh NR (by decide) e5 (by k_is) (by k_is) (by k_is) (by k_is) fun h₈ tk₈ N₈ sb₈ => ?_
    try dsimp only at N₈ sb₈ ⊢
    have b₈ := But.of_same sb₈
    have Rc₈ : RectAt h₈ r dx pt.x pt.y pt.w pt.l rid := ⟨b₈ _ _ rne rh, _, xR, yR, wR, lR, N₈, (if_neg (by decide)).trans e1, (if_neg (by decide)).trans e2, (if_neg (by decide)).trans e3, (if_neg (by decide)).trans e4, if_pos rfl, (if_neg (by decide)).trans e6⟩
    have P₈ := P₇.bute b₈ (inS _ eP _ ndx) (Ne.symm dxp)
    have l₈ := PlainList.butd l₇ NR b₈
    have r₈ := PlainList.butd r₇ NR b₈
    have S₈ := S₇.butd NR e6 (n := "rid") (by rw [e5]; simp) b₈
    have T₈ := T₇.butd b₈ (.nsz NR)
    have TL₈ := TL₇.butd b₈ (.nsz NR)
    have X₈ := X₇.bute b₈ ndL (hideAll_none _ (by simp))
    clear X₇ Rc₇ P₇ l₇ r₇ S₇ T₇ TL₇ e1 e2 e3 e4 e5 e6
    repeat walk_at "sky_m0"
    refine pk_rects X₈.W X₈.keep P₈ fun tk₉ => ?_
    try dsimp only
    refine meth_append r₈ ?_
    try dsimp only
    repeat walk_at "sky_m0"
    refine app_plain r₈ (by (first | exact Nat.le_trans (by assumption) (by decide) | lia)) fun h₉ r₉ b₉ => ?_
    try dsimp only at b₉ ⊢
    have X₉ := X₈.bute b₉ (Ne.symm Lr) (hideAll_none _ (by simp))
    have od := Odd.plain r₈
    have P₉ := P₈.odd od b₉
    have l₉ := l₈.at fun o e => b₉ _ o slr e
    have S₉ := S₈.odd od b₉
    have Rc₉ := Rc₈.odd od b₉
    have T₉ := T₈.butd b₉ (.list r₈)
    have TL₉ := TL₈.butd b₉ (.list r₈)
    clear X₈ P₈ l₈ S₈ Rc₈ T₈ TL₈
    repeat walk_at "sky_m0"
    refine hsome h₉ _ gs₅ r dx pt sl' items' (fun b o nb e => ?_) T₉ TL₉ bare₅ ⟨k₀, hcol⟩ (fun k x b D => ?_) hin.1 hin.2.1 hin.2.2 P₉ l₉ S₉ r₉ Rc₉ nr ndx fnew
    · have n1 : b ∉ [598, 633] := fun q => nb (by
        rcases List.mem_cons.mp q with rfl | q
        · exact .head _
        · rw [List.mem_singleton.mp q]; exact .tail _ (.head _))
      have n2 : b ≠ dp := fun q => nb (by rw [q]; simp)
      have n3 : b ≠ rl := fun q => nb (by rw [q]; simp)
      exact b₉ b o n3 (b₈ b o (inS b ⟨o, e⟩ _ ndx) (k7 b o n1 n2 e))
    · obtain ⟨z1, z2, z3, -⟩ := q3 i pt hpt hmin k x b D
      exact ⟨z1, z2, z3⟩
end
/- the protocol of a def that yields a list's items: C its frame, I its list's iterator -/
noncomputable def protoF (C I : Addr) (fp : List Addr) (n₀ : Nat) (F : Nat → Value → Prop) : Protocol := fun m s₀ v s kap =>
  (F (n₀ - 1 - m) v ∧ (∃ o, s.heap.get? C = some o) ∧ ∃ o, s.heap.get? I = some o) ∧ GenSince C [I] s₀ s ∧ ∀ s'' : Shared, (∀ b ∈ C :: I :: fp, ∀ o, s.heap.get? b = some o → s''.heap.get? b = some o) → kap (.send .none) s''
noncomputable def EndF (C I : Addr) : GenEnd := fun n s₀ r s₁ => r = .ok (.ret .none) ∧ (n = 0 ∧ GenSince C [I] s₀ s₁)
section
variable {prog : Program} {w : World} {A : Around}
theorem seg_loopF {x : Str} {px p1 p2 p3 : Pos} {env : Env} {I rl : Addr} {fp : List Addr} {items : Array Value} {F : Nat → Value → Prop} {fs : List Frame} {R : GenEnd} (hA : ∀ c, (A.over c fs).handled = none) (hfs : splitAtGen fs = none) (hfg : fs.any Frame.guarded = false)
    (hk : env.scope.kind = .function) (hx : env.scope.names.lookup x = some .local) (hd : (x == ("__debug__" : Str)) = false) (hco : env.scope.isCoroutine = false) (hCI : env.locals ≠ I) (hne : rl ≠ I) (hrC : rl ≠ env.locals) (hrf : rl ∈ fp) (hF : ∀ i v, items[i]? = some v → F i v)
    (hend : ∀ s₀ s₁ c, GenSince env.locals [I] s₀ s₁ → Seg (model prog w) A R (protoF env.locals I fp items.size F) 0 s₀ c (leafOf (.ok .next)) fs s₁) :
    ∀ (k i : Nat) (s₀ s : Shared) (m : Str → Option Value), items.size - i = k → i ≤ items.size → s.heap.IsListIter I rl i → s.heap.IsList rl items → s.heap.Ns env.locals m → GenSince env.locals [I] s₀ s →
      Seg (model prog w) A R (protoF env.locals I fp items.size F) k s₀ (.forLoop (.Name x px) (.ref I) [.Expr (.Yield (some (.Name x p1)) p2) p3] [] env) ((model prog w).den (.forLoop (.Name x px) (.ref I) [.Expr (.Yield (some (.Name x p1)) p2) p3] [] env)) fs s := by
  have hp : (env.scope.kind == .class || (env.scope.kind == .module && env.locals != env.globals)) = false := by rw [hk]; rfl
  have hin : interactive env = false := by unfold interactive; rw [hk]; rfl
  intro k
  induction k with
  | zero =>
    intro i s₀ s m hki hi hit hl hn hsince
    obtain rfl : i = items.size := by (first | grind | lia)
    have W := Walks.list (prog := prog) (w := w) (A := A.over (.forLoop (.Name x px) (.ref I) [.Expr (.Yield (some (.Name x p1)) p2) p3] [] env) fs) (hA _) I rl hne items
    show Seg _ A _ _ _ s₀ _ ((forTurn (.Name x px) (.ref I) [.Expr (.Yield (some (.Name x p1)) p2) p3] [] env).onRaise (fun x => do noteFrame x env; theTreesLotGoes x)) fs s
    unfold forTurn
    rw [Sem.onRaise_eq_wrap]
    refine seg_bind_wrap (wpAny_standAt (seg_bind_wrap (wpAny_onRaise (W.done s _ _ ⟨hit, hl⟩ fun h' tk hk' => ?_))))
    refine seg_again rfl ?_
    refine hend _ _ _ (hsince.step fun b o _ hw e => hk' b o hw e)
  | succ k ih =>
    intro i s₀ s m hki hi hit hl hn hsince
    have hlt : i < items.size := by (first | exact Nat.lt_of_sub_eq_succ (by assumption) | lia)
    have W := Walks.list (prog := prog) (w := w) (A := A.over (.forLoop (.Name x px) (.ref I) [.Expr (.Yield (some (.Name x p1)) p2) p3] [] env) fs) (hA _) I rl hne items
    show Seg _ A _ _ _ s₀ _ ((forTurn (.Name x px) (.ref I) [.Expr (.Yield (some (.Name x p1)) p2) p3] [] env).onRaise (fun x => do noteFrame x env; theTreesLotGoes x)) fs s
    unfold forTurn
    rw [Sem.onRaise_eq_wrap]
    refine seg_bind_wrap (wpAny_standAt (seg_bind_wrap (wpAny_onRaise (W.item i s _ _ hlt ⟨hit, hl⟩ fun v h₁ tk₁ hPv hst₁ hk₁ => ?_))))
    refine seg_bind_wrap (wpAny_of_eq (rfl : letOwnedTupleGo (.Name x px) (.ref I) v = pure ()) ?_)
    have hxk : env.kindOf x = some .local := hx
    refine seg_bind_wrap (wpAny_assign_Name (wpAny_storeName_local hxk (hn.at' fun o e => hk₁ _ o (fun q => hCI (List.mem_singleton.mp q)) e) (fun h₂ hn₂ hs₂ => ?_) hp))
    have up : ∀ b o, b ≠ env.locals → b ∉ [I] → s.heap.get? b = some o → h₂.get? b = some o := fun b o c1 c2 e => hs₂.extBut b o c1 (hk₁ b o c2 e)
    have hst₂ : h₂.IsListIter I rl (i + 1) ∧ h₂.IsList rl items := ⟨hst₁.1.at fun o e => hs₂.extBut _ o (Ne.symm hCI) e, hst₁.2.at fun o e => hs₂.extBut _ o hrC e⟩
    rw [Sem.bind_eq_wrap', Sem.wrap_wrap]
    refine seg_execs_cons ?_
    refine seg_Expr_Yield hfs rfl hfg ?_ hco hin
    refine wpAny_Name (wpAny_loadName_local hk hx hn₂ (if_pos rfl) fun kap hkap => ?_) hd
    have ei : items.size - 1 - k = i := by (first | exact nb1 (by assumption) | lia)
    refine ⟨⟨by show F (items.size - 1 - k) v; rw [ei]; exact hF i v hPv, let ⟨o, _, _, e, _⟩ := hn₂; ⟨o, e⟩, let ⟨o, e, _⟩ := hst₂.1; ⟨o, e⟩⟩, hsince.step fun b o c1 c2 e => up b o c1 c2 e, fun s'' hal => hkap _ _ ?_⟩
    refine seg_again rfl (ih (i + 1) s'' s'' _ (by (first | exact nb2 (by assumption) | lia)) hlt (hst₂.1.at fun o e => hal _ (by simp) o e) (hst₂.2.at fun o e => hal _ (.tail _ (.tail _ hrf)) o e) (hn₂.at' fun o e => hal _ (List.mem_cons_self ..) o e) (GenSince.refl _ _ _))
theorem seg_genF {x : Str} {px p1 p2 p3 pos : Pos} {iter : PySem.Expr} {env : Env} {rl : Addr} {fp : List Addr} {items : Array Value} {F : Nat → Value → Prop} {σh : Heap} {σg : Array GenState} {σd : Drawn} {σt : Nat} {σo : OsState} {m : Str → Option Value} (hA : A.handled = none)
    (hk : env.scope.kind = .function) (hx : env.scope.names.lookup x = some .local) (hd : (x == ("__debug__" : Str)) = false) (hco : env.scope.isCoroutine = false) (hrC : rl ≠ env.locals) (hrf : rl ∈ fp) (hF : ∀ i v, items[i]? = some v → F i v)
    (hl : σh.IsList rl items) (hn : σh.Ns env.locals m) (hs : ∀ x, foldedSetIterable iter env x = pure x)
    (hiter : ∀ (A' : Around) (Q' : Value → Shared → Prop) (E' : Value → Shared → Prop) , (∀ tk, Q' (.ref rl) ⟨σh, σg, σd, tk, σo⟩) → wpAny (model prog w) A' (eval iter env) Q' E' ⟨σh, σg, σd, σt, σo⟩) :
    Seg (model prog w) A (EndF env.locals σh.objs.size) (protoF env.locals σh.objs.size fp items.size F) items.size ⟨σh, σg, σd, σt, σo⟩ (.func [.For (.Name x px) iter [.Expr (.Yield (some (.Name x p1)) p2) p3] [] pos] env)
      ((model prog w).den (.func [.For (.Name x px) iter [.Expr (.Yield (some (.Name x p1)) p2) p3] [] pos] env)) [] ⟨σh, σg, σd, σt, σo⟩ := by
  obtain ⟨oC, es, ep, hoC, -⟩ := id hn
  obtain ⟨oR, hoR, -⟩ := id hl
  have hCI : env.locals ≠ σh.objs.size := Nat.ne_of_lt (Heap.lt_size hoC)
  have hne : rl ≠ σh.objs.size := Nat.ne_of_lt (Heap.lt_size hoR)
  refine seg_func ?_
  refine seg_execs_cons ?_
  rw [exec_For]
  refine seg_bind_wrap (wpAny_standAt ?_)
  refine seg_bind_wrap (hiter _ _ _ fun tk => ?_)
  refine seg_bind_wrap (wpAny_of_eq (hs _) ?_)
  refine seg_bind_wrap (wpAny_standAt ?_)
  refine seg_bind_wrap (wpAny_holding (wpAny_pyIter_list hl ?_))
  refine seg_call fun p => ?_
  have kp := Kept.push σh { cls := .type "list_iterator", data := .fields #[.ref rl, .int 0 0] }
  refine seg_loopF (fun c => by show (marksOver _ (A.handled, A.handled)).1 = none; rw [hA]; rfl) rfl rfl hk hx hd hco hCI hne hrC hrf hF (fun s₀ s₁ c hsn => ?_) items.size 0 _ _ m (Nat.sub_zero _) (Nat.zero_le _) ⟨_, Heap.get?_push_size _ rfl, rfl, rfl⟩ (hl.at fun o e => kp _ _ e) (hn.push _) ?_
  · exact seg_leaf (.ok .next) (seg_end (.ok (.ret .none)) ⟨rfl, rfl, hsn⟩)
  · exact ⟨_, _, rfl, fun b o _ _ e => kp b o e⟩
/- the generator at a, j of its items handed out -/
noncomputable def GenF (prog : Program) (w : World) (A : Around) (a g : Nat) (C I : Addr) (fp : List Addr) (n₀ : Nat) (F : Nat → Value → Prop) (j : Nat) (s : Shared) : Prop :=
  s.heap.IsGen a g ∧ s.heap.NoLimit ∧ ∃ gs, s.gens[g]? = some gs ∧ ∀ s'' : Shared, (if j = 0 then s''.heap = s.heap else ∀ b ∈ C :: I :: fp, ∀ o, s.heap.get? b = some o → s''.heap.get? b = some o) →
    gs.Goes (model prog w) A.in1 (EndF C I) (protoF C I fp n₀ F) (n₀ - j) (.send .none) s''
theorem nextF_item {a g : Nat} {C I : Addr} {fp : List Addr} {n₀ : Nat} {F : Nat → Value → Prop} {j : Nat} {s : Shared} {Q : Option Value → Shared → Prop} {E : Value → Shared → Prop} (G : GenF prog w A a g C I fp n₀ F j s) (hh : A.handled = none) (hroom : A.depth < recursionLimit)
    (haC : a ≠ C) (haI : a ≠ I) (hcC : cStatics ≠ C) (hcI : cStatics ≠ I) (hj : j < n₀)
    (hQ : ∀ v h' gs tk, F j v → (∃ o, h'.get? C = some o) → (∃ o, h'.get? I = some o) → GenF prog w A a g C I fp n₀ F (j + 1) { s with heap := h', gens := gs, toks := tk } → (∀ b o, b ≠ C → b ≠ I → s.heap.get? b = some o → h'.get? b = some o) → gs.size = s.gens.size → (∀ k, k ≠ g → gs[k]? = s.gens[k]?) → Q (some v) { s with heap := h', gens := gs, toks := tk }) :
    wpAny (model prog w) A (pyNext (.ref a)) Q E s := by
  obtain ⟨hg, hl, gs, hgs, hgo⟩ := G
  obtain ⟨m, hm⟩ : ∃ m, n₀ - j = m + 1 := ⟨n₀ - j - 1, by (first | exact nb6 (by assumption) | lia)⟩
  rw [hm] at hgo
  refine wpAny_pyNext_gen (P := fun n s₀ s₁ => n = 0 ∧ GenSince C [I] s₀ s₁) hh hl hroom hg hgs (hgo _ (by split; rfl; exact fun _ _ _ e => e)) (fun v s₁ gs' hv => ?_) (fun s₁ hp h' hk => absurd hp.1 (Nat.succ_ne_zero m))
  obtain ⟨⟨hF, eC, eI⟩, ⟨h₁, tk₁, rfl, hk₁⟩, hkap⟩ := hv
  have hidx : n₀ - 1 - (m + 1 - 1) = j := by (first | exact nb1 (by assumption) | lia)
  rw [hidx] at hF
  have hgen := (GenOnly.setGen s g .running).trans (GenOnly.setGen _ g gs')
  refine hQ v h₁ _ tk₁ hF eC eI ⟨let ⟨o, nm, qn, ho, r⟩ := hg; ⟨o, nm, qn, hk₁ a o haC (by simpa using haI) ho, r⟩, (let ⟨mc, hns, hnn⟩ := hl; ⟨mc, hns.at' fun o e => hk₁ cStatics o hcC (by simpa using hcI) e, hnn⟩), gs', setGen_self (gs := .running) (setGen_self hgs), fun s'' hal => ?_⟩
    (fun b o c1 c2 e => hk₁ b o c1 (by simpa using c2) e) hgen.1 hgen.2
  have e : n₀ - (j + 1) = m := by (first | exact nb2 (by assumption) | lia)
  rw [e]
  rw [if_neg (Nat.succ_ne_zero j)] at hal
  exact hkap s'' hal
theorem nextF_done {a g : Nat} {C I : Addr} {fp : List Addr} {n₀ : Nat} {F : Nat → Value → Prop} {s : Shared} {Q : Option Value → Shared → Prop} {E : Value → Shared → Prop} (G : GenF prog w A a g C I fp n₀ F n₀ s) (hh : A.handled = none) (hroom : A.depth < recursionLimit)
    (hQ : ∀ h' gs tk, (∀ b o, b ≠ C → b ≠ I → s.heap.get? b = some o → h'.get? b = some o) → (∀ k, k ≠ g → gs[k]? = s.gens[k]?) → (∀ y, gs[g]? = some y → y.bare = true) → Q none { s with heap := h', gens := gs, toks := tk }) :
    wpAny (model prog w) A (pyNext (.ref a)) Q E s := by
  obtain ⟨hg, hl, gs, hgs, hgo⟩ := G
  rw [Nat.sub_self] at hgo
  refine wpAny_pyNext_gen (P := fun n s₀ s₁ => n = 0 ∧ GenSince C [I] s₀ s₁) hh hl hroom hg hgs (hgo _ (by split; rfl; exact fun _ _ _ e => e)) (fun v s₁ gs' hv => ?_) (fun s₁ hp h' hk => ?_)
  · obtain ⟨_, ⟨h₁, tk₁, rfl, hk₁⟩, hkap⟩ := hv
    exact (hkap _ fun _ _ _ e => e).elim
  · obtain ⟨_, h₁, tk₁, rfl, hk₁⟩ := hp
    have hgen := (GenOnly.setGen s g .running).trans (GenOnly.setGen _ g .finished)
    refine hQ h' _ tk₁ (fun b o c1 c2 e => hk b o (hk₁ b o c1 (by simpa using c2) e)) hgen.2 fun y hy => ?_
    have e := setGen_self (s := { s.setGen g .running with heap := h₁, toks := tk₁ }) (gs := .running) (x := .finished) (setGen_self hgs)
    have e2 := e.symm.trans hy
    cases e2
    rfl
/- an object whose class has an __iter__ of its own -/
theorem iter_own {E : Value → Shared → Prop} {s : Shared} {B : Heap} {x C f : Addr} {mm : Str → Option Value} {Q : Value → Shared → Prop} (W : Wd w B) (k : Kept B s.heap) (I : Inst s.heap x C mm) (hs : findIn (kHead.heap_1 w.params) (.ref C) "__iter__" = some (some (.ref f))) (hf : isFn (kHead.heap_1 w.params) (.ref f) = true)
    (h : wpAny (model prog w) A (call (.ref f) [.ref x]) (OwitIt (model prog w) A Q E) E s) : wpAny (model prog w) A (pyIter (.ref x)) Q E s := by
  obtain ⟨dx, o, I, -⟩ := I.at
  have X := (W.keeps k).K
  have J := bind_fn (M := model prog w) X (.ref x) (beq_iff_eq.mp hf)
  have tail : ∀ refuse : Sem Value, wpAny (model prog w) A (if (Value.ref f == Value.none) = true then (refuse >>= fun v => pure (some v)) else (call (.ref f) [.ref x] >>= fun v => pure (some v))) (fun r s' => ∃ v, r = some v ∧ OwitIt (model prog w) A Q E v s') E s := fun refuse => by
    rw [if_neg (show ¬ ((Value.ref f == Value.none) = true) from Bool.false_ne_true)]
    exact wpAny_bind (wpAny_mono h (fun v s' z => wpAny_pure ⟨v, rfl, z⟩) fun _ _ z => z)
  unfold pyIter
  refine wpAny_bind (wpAny_bind (I.type.here ((looks_findIn X hs).here ?_)))
  show wpAny _ A (callSpecialIfBoundUnlessNone? (.ref x) "__iter__" _ >>= _) Q E s
  refine wpAny_bind (wpAny_mono (Q := fun r s' => ∃ v, r = some v ∧ OwitIt (model prog w) A Q E v s') ?_ (fun r s' z => ?_) fun _ _ z => z)
  · simp only [callSpecialIfBoundUnlessNone?, bindSpecialIfBound?]
    refine wpAny_holding (wpAny_bind (wpAny_bind (wpAny_bind (I.type.here ((looks_findIn X hs).here ?_)))))
    refine wpAny_bind (wpAny_askSetting (wpAny_ite ?_))
    split
    · exact wpAny_bind (J.here (wpAny_pure (tail _)))
    · exact wpAny_tryCatch (wpAny_bind (J.here (wpAny_pure (tail _))))
  · obtain ⟨v, rfl, z⟩ := z
    refine wpAny_bind (wpAny_mono z (fun r s₂ q => ?_) fun _ _ z => z)
    cases r with
    | none => exact q.elim
    | some g => exact wpAny_pure q
theorem GenF.keeps {a g : Nat} {C I : Addr} {fp : List Addr} {n₀ : Nat} {F : Nat → Value → Prop} {j : Nat} {s : Shared} {h' : Heap} {gs' : Array GenState} {dr : Drawn} {tk : Nat} {os : OsState} (G : GenF prog w A a g C I fp n₀ F (j + 1) s)
    (hk : ∀ b, b = a ∨ b = C ∨ b = I ∨ b = cStatics ∨ b ∈ fp → ∀ o, s.heap.get? b = some o → h'.get? b = some o) (hg : gs'[g]? = s.gens[g]?) : GenF prog w A a g C I fp n₀ F (j + 1) ⟨h', gs', dr, tk, os⟩ := by
  obtain ⟨⟨o, nm, qn, ho, r⟩, ⟨mc, hns, hnn⟩, gs, hgs, hgo⟩ := G
  refine ⟨⟨o, nm, qn, hk _ (.inl rfl) o ho, r⟩, ⟨mc, hns.at' fun o e => hk cStatics (.inr (.inr (.inr (.inl rfl)))) o e, hnn⟩, gs, hg.trans hgs, fun s'' hal => hgo s'' ?_⟩
  rw [if_neg (Nat.succ_ne_zero j)] at hal ⊢
  intro b hb o e
  refine hal b hb o (hk b ?_ o e)
  rcases List.mem_cons.mp hb with q | q
  · exact .inr (.inl q)
  rcases List.mem_cons.mp q with q | q
  · exact .inr (.inr (.inl q))
  · exact .inr (.inr (.inr (.inr q)))
/- a def with a yield, called -/
theorem code_gen {f : Addr} {oc : Value} {od : Option Addr} {osl : Array (Option Value)} {fd : FuncData} {body : List Stmt} {vals : List Value} {σh : Heap} {σg : Array GenState} {σd : Drawn} {σt : Nat} {σo : OsState} {R : Result → Shared → Prop} (binds : List (Str × Value))
    (W : Wd w σh) (hroom : A.depth < recursionLimit) (ho : (kHead.heap_1 w.params).lookup f = some ⟨oc, od, .func fd, osl⟩) (hcd : codeIn (kHead.heap_1 w.params) fd.code fd.qualname = true) (hbody : fd.body = .stmts body) (hbind : bindArgs fd ⟨vals, []⟩ = pure binds) (hclo : fd.closure = [])
    (hloc : ∀ x ∈ binds, fd.scope.names.lookup x.1 = some .local) (hcell : ∀ x ∈ fd.scope.names, x.2 ≠ .cell)
    (hco : fd.scope.isCoroutine = false) (hgen : fd.scope.isGenerator = true) (hk : fd.scope.kind = .function) (hg : fd.globals = mainGlobals) (hb : fd.builtins = builtinsNs)
    (h : ∀ env h' tk o, Ev env σh.objs.size fd.scope.names [] → env.scope = fd.scope → h'.Ns σh.objs.size (fun x => binds.reverse.lookup x) → Kept σh h' → o.cls = .type "generator" → (∃ nm qn, o.data = .fields #[.int σg.size 0, nm, qn]) → o.slots = #[] → (h'.push o).get? h'.objs.size = some o →
      R (.ok (.ret (.ref h'.objs.size))) ⟨h'.push o, σg.push (.fresh (.func body env)), σd, tk, σo⟩) :
    codeAny (model prog w) A (.call (.ref f) ⟨vals, []⟩) R ⟨σh, σg, σd, σt, σo⟩ := by
  refine codeAny_call_generator hroom (W.K _ _ ho) rfl hco hgen hbody (codeRec_of W.K hcd) ?_
  rw [hbind, hclo]
  refine wpAny_pure (wpAny_newFunctionEnv hcell hloc (fun h' hn hs => ?_) hk)
  have k' : Kept σh h' := fun b o e => hs.extBut b o (Nat.ne_of_lt (Heap.lt_size e)) (Heap.get?_push_of_some _ e)
  exact ⟨W.lim.keeps k', h _ h' _ _ ⟨hk, rfl, hg, hb, rfl, rfl⟩ rfl hn k' rfl ⟨_, _, rfl⟩ rfl (Heap.get?_push_size _ rfl)⟩
end
structure Row where
  x : Int
  y : Int
  w : Int
  l : Int
  id : Int
noncomputable def RowsAt (h : Heap) (items : Array Value) (rows : List Row) : Prop := items.size = rows.length ∧ ∀ (i : Nat) (row : Row), rows[i]? = some row → ∃ r dx t, items[i]? = some (Value.ref r) ∧ RectAt h r dx row.x row.y row.w row.l (.int row.id t)
theorem RowsAt.kept {h h' : Heap} {items : Array Value} {rows : List Row} (R : RowsAt h items rows) (k : Kept h h') : RowsAt h' items rows := ⟨R.1, fun i row e => let ⟨r, dx, t, a, b⟩ := R.2 i row e; ⟨r, dx, t, a, b.kept k⟩⟩
noncomputable def TupsAt (h : Heap) (items : Array Value) (rows : List Row) : Prop := items.size = rows.length ∧ ∀ (i : Nat) (row : Row), rows[i]? = some row → ∃ q t1 t2 t3 t4 t5, items[i]? = some (Value.ref q) ∧ TupAt h q #[.int row.x t1, .int row.y t2, .int row.w t3, .int row.l t4, .int row.id t5]
/- what the loop has made: tuples off the generator's own objects -/
noncomputable def TupsOff (h : Heap) (items : Array Value) (rows : List Row) (C I : Addr) : Prop := items.size = rows.length ∧ ∀ (i : Nat) (row : Row), rows[i]? = some row → ∃ q t1 t2 t3 t4 t5, items[i]? = some (Value.ref q) ∧ TupAt h q #[.int row.x t1, .int row.y t2, .int row.w t3, .int row.l t4, .int row.id t5] ∧ q ≠ C ∧ q ≠ I
theorem TupsOff.tups {h : Heap} {items : Array Value} {rows : List Row} {C I : Addr} (T : TupsOff h items rows C I) : TupsAt h items rows := ⟨T.1, fun i row e => let ⟨q, t1, t2, t3, t4, t5, a, b, _⟩ := T.2 i row e; ⟨q, t1, t2, t3, t4, t5, a, b⟩⟩
theorem TupsOff.kept {h h' : Heap} {items : Array Value} {rows : List Row} {C I : Addr} (T : TupsOff h items rows C I) (k : ∀ q its, TupAt h q its → q ≠ C → q ≠ I → TupAt h' q its) : TupsOff h' items rows C I :=
  ⟨T.1, fun i row e => let ⟨q, t1, t2, t3, t4, t5, a, b, c, d⟩ := T.2 i row e; ⟨q, t1, t2, t3, t4, t5, a, k _ _ b c d, c, d⟩⟩
theorem TupsOff.push {h : Heap} {items : Array Value} {rows : List Row} {C I q : Addr} {row : Row} {t1 t2 t3 t4 t5 : Tok} (T : TupsOff h items rows C I) (tp : TupAt h q #[.int row.x t1, .int row.y t2, .int row.w t3, .int row.l t4, .int row.id t5]) (n1 : q ≠ C) (n2 : q ≠ I) :
    TupsOff h (items.push (.ref q)) (rows ++ [row]) C I := by
  refine ⟨by rw [Array.size_push, List.length_append, T.1]; rfl, fun i r e => ?_⟩
  rcases Nat.lt_or_ge i rows.length with c | c
  · rw [List.getElem?_append_left c] at e
    obtain ⟨q', u1, u2, u3, u4, u5, a, b⟩ := T.2 i r e
    exact ⟨q', u1, u2, u3, u4, u5, by rw [Array.getElem?_push, if_neg (by have := T.1; (first | lia | omega))]; exact a, b⟩
  · rw [List.getElem?_append_right c] at e
    have : i - rows.length = 0 := by
      rcases Nat.eq_zero_or_pos (i - rows.length) with r | r
      · exact r
      · rw [List.getElem?_eq_none (by simp; (first | assumption | lia))] at e; cases e
    rw [this] at e
    cases e
    exact ⟨q, t1, t2, t3, t4, t5, by rw [Array.getElem?_push, if_pos (by have := T.1; (first | grind | lia))], tp, n1, n2⟩
section
variable {prog : Program} {w : World} {A : Around} {E : Value → Shared → Prop} {s : Shared}
theorem iter_call {p dp C sl rl : Addr} {Wi Hi : Int} {turn : Bool} {ritems : Array Value} {R : Result → Shared → Prop} (W : Wd w s.heap) (P : Pk s.heap p dp C Wi Hi turn sl rl) (hr : s.heap.PlainList rl ritems) (hroom : A.depth < recursionLimit)
    (h : ∀ a Cf I h' tk gs, Kept s.heap h' → s.heap.get? a = none → s.heap.get? Cf = none → s.heap.get? I = none → h'.get? I = none → (∃ o, h'.get? a = some o ∧ o.cls = .type "generator" ∧ ∃ vs, o.data = .fields vs) → (∃ m, h'.Ns Cf m) →
      (∀ A' : Around, A'.handled = none → GenF prog w A' a s.gens.size Cf I [rl] ritems.size (fun i v => ritems[i]? = some v) 0 { s with heap := h', toks := tk, gens := s.gens.push gs }) → R (.ok (.ret (.ref a))) { s with heap := h', toks := tk, gens := s.gens.push gs }) :
    codeAny (model prog w) A (.call (.ref 333) ⟨[.ref p], []⟩) R s := by
  have X := (W.K)
  refine' code_gen [("self", .ref p)] W hroom ?k1 ?k2 ?k3 ?k4 ?k5 ?kl ?kc ?k8 ?k9 ?k10 ?k11 ?k12 ?_
  case k1 => k_is
  case k2 => k_is
  case k3 => rfl
  case k4 => rfl
  case k5 => rfl
  case kl => intro x hx; rw [List.mem_singleton.mp hx]; rfl
  case kc => intro x hx; revert x; decide
  case k8 => rfl
  case k9 => rfl
  case k10 => rfl
  case k11 => rfl
  case k12 => rfl
  intro env h' tk o V hscope hn k' hocls hodata hoslots go
  try dsimp only at V hscope
  obtain ⟨nm, qn, hod⟩ := hodata
  have kp : Kept s.heap (h'.push o) := k'.trans (Kept.push _ _)
  have hL : s.heap.objs.size < h'.objs.size := by obtain ⟨o', _, _, e, _⟩ := hn; exact Heap.lt_size e
  have fr : ∀ b : Nat, s.heap.objs.size ≤ b → s.heap.get? b = none := fun b hb => by
    cases q : s.heap.get? b with
    | none => rfl
    | some o => exact absurd (Heap.lt_size q) (Nat.not_lt.mpr hb)
  refine h h'.objs.size s.heap.objs.size (h'.push o).objs.size (h'.push o) tk _ kp (fr _ (Nat.le_of_lt hL)) (fr _ (Nat.le_refl _)) (fr _ (by rw [Heap.size_push]; (first | lia | omega))) (get?_size _) ⟨o, go, hocls, _, hod⟩ ⟨_, hn.push _⟩ fun A' hA' => ?_
  refine ⟨⟨o, nm, qn, go, hocls, hod, hoslots⟩, W.lim.keeps kp, _, Array.getElem?_push_size .., fun s'' hs'' => ?_⟩
  rw [if_pos rfl] at hs''
  obtain ⟨hh, gs, dr, tk', os⟩ := s''
  try dsimp only at hs''
  subst hs''
  refine ⟨rfl, ?_⟩
  have hrl := (hr.at (kp _)).isList
  rw [← V.L]
  refine seg_genF (σh := h'.push o) (σg := gs) (σd := dr) (σt := tk') (σo := os) (A := A'.in1) (x := "r") (m := fun x => List.lookup x [(("self" : Str), Value.ref p)]) hA' ?_ ?_ (by decide) ?_ ?_ (.head _) (fun i v e => e) hrl ?_ ?_ (fun A'' Q' E' hq => ?_)
  · rw [hscope]
  · rw [hscope]; rfl
  · rw [hscope]
  · rw [V.L]
    obtain ⟨n, e⟩ := hr
    exact Nat.ne_of_lt (Heap.lt_size e)
  · rw [V.L]; exact hn.push _
  · intro _; rfl
  · have F : Fz s.heap s.heap.objs.size (h'.push o) (fun x => List.lookup x [(("self" : Str), Value.ref p)]) := ⟨hn.push _, kp, get?_size _⟩
    refine Attribute_any_ ?_
    refine nm_local V F rfl rfl ?_
    exact pk_rects W kp (P.kept kp) fun tk => hq _
theorem pk_iter (P : Params) : ∀ C, IsSky C → findIn (kHead.heap_1 P) (.ref C) "__iter__" = some (some (.ref 333)) := by
  rintro C (rfl | rfl | rfl) <;> k_is
theorem fn_333 (P : Params) : isFn (kHead.heap_1 P) (.ref 333) = true := by k_is
theorem rect_list_call {σh : Heap} {σg : Array GenState} {σd : Drawn} {σt : Nat} {σo : OsState} {p dp C sl rl : Addr} {Wi Hi : Int} {turn : Bool} {ritems : Array Value} {rows : List Row} {R : Result → Shared → Prop} (W : Wd w σh) (P : Pk σh p dp C Wi Hi turn sl rl) (hr : σh.PlainList rl ritems) (hR : RowsAt σh ritems rows) (hz : ritems.size ≤ 100) (hg : AllBare σg) (Ro : Rm A 6 60)
    (h : ∀ a h' tk gs items', Kept σh h' → AllBare gs → σh.get? a = none → h'.PlainList a items' → TupsAt h' items' rows → R (.ok (.ret (.ref a))) ⟨h', gs, σd, tk, σo⟩) :
    codeAny (model prog w) A (.call (.ref 377) ⟨[.ref p], []⟩) R ⟨σh, σg, σd, σt, σo⟩ := by
  have Ro : Rm A (5 + 1) (50 + 3) := Ro.le (by decide) (by decide)
  ((refine' code_fn ([("self", .ref p)]) ?k0 ?kk ?k1 ?k2 ?k3 ?k4 ?k5 ?k6 ?k7 ?k8 ?k9 ?k10 ?k11 ?k12 ?_); (case k0 => assumption); (case kk => (first | assumption | exact Fz.keep (by assumption) | exact Kept.refl _)); (case k2 => k_is); (case k3 => k_is); (case k4 => rfl); (case k5 => exact binds_eq rfl); (case k6 => rfl); (case k7 => rfl); (case k8 => rfl); (case k9 => rfl); (case k10 => rfl); (case k11 => rfl); (case k12 => rfl); (case k1 => assumption); intro A' L env h₁ R' V F; (try dsimp only at V F); (try dsimp only))
  have X := Fm.of W F
  have hLs : σh.get? L = none := F.hid
  clear F
  repeat walk_at "sky_m0"
  refine wpAny_List ?_
  repeat walk_at "sky_m0"
  refine ⟨Nat.zero_le _, ?_⟩
  have hla := push_list h₁ []
  have fa : σh.get? h₁.objs.size = none := X.fresh (get?_size _)
  have X := (X.step (Kept.push h₁ { cls := .type "list", data := .seq #[] })).hide hla fa
  generalize h₁.objs.size = a at hla X fa ⊢
  (((try (with_reducible first | refine Next.next (by assumption) ?_ | refine Next.ret (by assumption) ?_ | refine Next.cont (by assumption) ?_ | refine Next.brk (by assumption) ?_ | refine IfK.go (by assumption) ?_ | refine AsK.go (by assumption) ?_)); (with_reducible show wpAny _ _ (storeName _ _ _) _ _ _); refine m_store (by assumption) (by assumption) (by exact rfl) ?_))
  intro h₂ tkσ X₂ l₂ b₂
  try dsimp only at X₂ l₂ b₂ ⊢
  have hla₂ := l₂ _ _ hla
  clear X hla l₂ b₂
  repeat walk_at "sky_m0"
  refine wpAny_For ?_ (by intro _; rfl)
  repeat walk_at "sky_m0"
  obtain ⟨hC, pa, mp, tpw, tph, Np, -⟩ := id P
  have I₀ : Inst σh p C mp := ⟨dp, pa, Np.le (by decide)⟩
  refine iter_own X₂.W X₂.keep (I₀.kept X₂.keep) (pk_iter _ C hC) (fn_333 _) ?_
  refine wpAny_call (iter_call X₂.Wh (P.kept X₂.keep) (hr.at (X₂.keep _)) (by have := R'.1; (first | lia | omega)) fun ga Cf I h₃ tk₃ gs₃ k₃ na nC nI nI' ega nsC hG => ?_)
  try dsimp only at k₃ na nC nI hG ⊢
  obtain ⟨og, e1, e2, vsg, e3⟩ := ega
  refine wpAny_specialOf (T := "generator") ⟨og, e1, e2⟩ slot_gen_next.lookup ?_
  show codeAny _ _ _ _ _
  have neL : ∀ b, h₂.get? b = none → b ≠ L := fun b hb => X₂.F.ne hb
  have nea : ∀ b, h₂.get? b = none → b ≠ a := fun b hb q => by obtain ⟨n, e⟩ := hla₂; rw [q, e] at hb; cases hb
  have old : ∀ b o, σh.get? b = some o → b ≠ L ∧ b ≠ a ∧ b ≠ Cf ∧ b ≠ I ∧ b ≠ ga := fun b o e =>
    ⟨ne_of_get e hLs, ne_of_get e fa, ne_of_get (X₂.keep _ _ e) nC, ne_of_get (X₂.keep _ _ e) nI, ne_of_get (X₂.keep _ _ e) na⟩
  have X₃ := X₂.step k₃
  have hla₃ := hla₂.at (k₃ _)
  have hCL := neL _ nC
  have hIL := neL _ nI
  have hgL := neL _ na
  have hCa := nea _ nC
  have hIa := nea _ nI
  have hga := nea _ na
  clear X₂ hla₂ neL nea
  have hgC : ga ≠ Cf := fun q => by
    obtain ⟨m, o, es, ep, e, d, -⟩ := nsC; rw [← q, e1] at e; cases e; rw [e3] at d; cases d
  have hgI : ga ≠ I := ne_of_get e1 nI'
  obtain ⟨mcs, hcs, -⟩ := id W.lim
  obtain ⟨ocs, _, _, hocs, -⟩ := hcs
  obtain ⟨nrl, erl⟩ := id hr
  have o1 := old _ _ hocs
  have o2 := old _ _ erl
  have hsz := hR.1
  -- what holds behind i turns
  refine codeAny_forLoop (fun k s' => ∃ i h' tk gs m' its, k = ritems.size + 1 - i ∧ i ≤ ritems.size ∧ s' = ⟨h', gs, σd, tk, σo⟩ ∧
    GenF prog w A' ga σg.size Cf I [rl] ritems.size (fun i v => ritems[i]? = some v) i s' ∧ Fm w [a] σh L h' m' ∧ h'.PlainList a its ∧ TupsOff h' its (rows.take i) Cf I ∧
    (∀ k, k ≠ σg.size → gs[k]? = (σg.push gs₃)[k]?) ∧ m' "rectangle_list" = some (.ref a)) ?_ (ritems.size + 1) ⟨0, h₃, tk₃, _, _, _, rfl, Nat.zero_le _, rfl, hG _ R'.2.2, X₃, hla₃, ⟨rfl, fun i row e => by simp at e⟩, fun _ _ => rfl, by ((repeat (first | assumption | exact if_pos rfl | refine (if_neg (by decide)).trans ?_)))⟩
  clear hG X₃ hla₃ nsC k₃ e1 e2 e3 na nC nI nI'
  rintro k s' ⟨i, h₄, tk₄, gs₄, m₄, its, rfl, hi, rfl, G₄, X₄, l₄, T₄, gk₄, hm₄⟩
  have moved : ∀ h', (∀ b o, b ≠ Cf → b ≠ I → h₄.get? b = some o → h'.get? b = some o) → Fm w [a] σh L h' m₄ ∧ h'.PlainList a its ∧ TupsOff h' its (rows.take i) Cf I := fun h' hk =>
    ⟨X₄.butl (wr := [Cf, I]) (fun b o nb e => hk b o (fun q => nb (by rw [q]; simp)) (fun q => nb (by rw [q]; simp)) e) (fun b hb => by
      cases q : σh.get? b with
      | none => rfl
      | some o =>
        have := old _ _ q
        rcases List.mem_cons.mp hb with r | r
        · exact absurd r this.2.2.1
        · exact absurd (List.mem_singleton.mp r) this.2.2.2.1) (fun q => by
      rcases List.mem_cons.mp q with r | r
      · exact hCL r.symm
      · exact hIL (List.mem_singleton.mp r).symm) (fun b hb q => by
      rw [List.mem_singleton.mp hb] at q
      rcases List.mem_cons.mp q with r | r
      · exact hCa r.symm
      · exact hIa (List.mem_singleton.mp r).symm), l₄.at fun o e => hk _ _ (Ne.symm hCa) (Ne.symm hIa) e, T₄.kept fun q its ⟨n, e⟩ n1 n2 => ⟨n, hk _ _ n1 n2 e⟩⟩
  by_cases hlt : i < ritems.size
  · refine nextF_item G₄ R'.2.2 (by have := R'.1; (first | lia | omega)) ?_ ?_ (Ne.symm ?_) (Ne.symm ?_) hlt fun v h₅ gs₅ tk₅ hv eC eI G₅ k₅ z₅ gk₅ => ?_
    · exact hgC
    · exact hgI
    · exact Ne.symm o1.2.2.1
    · exact Ne.symm o1.2.2.2.1
    obtain ⟨X₅, l₅, T₅⟩ := moved _ k₅
    clear moved X₄ l₄ T₄ G₄
    obtain ⟨row, hrow⟩ : ∃ row, rows[i]? = some row := ⟨_, List.getElem?_eq_getElem (by (first | exact Nat.lt_of_lt_of_eq (by assumption) (by assumption) | lia))⟩
    obtain ⟨r, dx, tr, hri, Rc⟩ := hR.2 i row hrow
    rw [hri] at hv; cases hv
    have hex : (∃ o, h₅.get? Cf = some o) ∧ ∃ o, h₅.get? I = some o := ⟨eC, eI⟩
    have gkeep : ∀ (x : Addr) (h' h'' : Heap) (tk' tk'' : Nat), x ≠ ga → x ≠ Cf → x ≠ I → σh.get? x = none → But x h' h'' → GenF prog w A' ga σg.size Cf I [rl] ritems.size (fun i v => ritems[i]? = some v) (i + 1) ⟨h', gs₅, σd, tk', σo⟩ →
        GenF prog w A' ga σg.size Cf I [rl] ritems.size (fun i v => ritems[i]? = some v) (i + 1) ⟨h'', gs₅, σd, tk'', σo⟩ := fun x h' h'' tk' tk'' n1 n2 n3 hx k G => GenF.keeps G (fun b hb o e => k b o (by
      rcases hb with rfl | rfl | rfl | rfl | hb
      · exact Ne.symm n1
      · exact Ne.symm n2
      · exact Ne.symm n3
      · exact ne_of_get hocs hx
      · rw [List.mem_singleton.mp hb]; exact ne_of_get erl hx) e) rfl
    refine wpAny_assign_Name (m_store V X₅ rfl fun h₆ tkσ X₆ l₆' b₆ => ?_)
    try dsimp only at l₆' b₆ ⊢
    have l₆ := l₆' _ _ l₅
    have T₆ : TupsOff h₆ its (rows.take i) Cf I := T₅.kept fun q its' tp n1 n2 => by
      obtain ⟨n, e⟩ := tp
      refine ⟨n, b₆ _ _ (fun z => ?_) e⟩
      obtain ⟨o', es, ep, e', d, -⟩ := X₅.F.ns
      rw [z, e'] at e; cases e; cases d
    have G₆ := gkeep L h₅ h₆ _ tkσ (Ne.symm hgL) (Ne.symm hCL) (Ne.symm hIL) hLs b₆ G₅
    have ex₆ : (∃ o, h₆.get? Cf = some o) ∧ ∃ o, h₆.get? I = some o := ⟨let ⟨o, e⟩ := hex.1; ⟨o, b₆ _ _ hCL e⟩, let ⟨o, e⟩ := hex.2; ⟨o, b₆ _ _ hIL e⟩⟩
    clear X₅ l₅ T₅ G₅ hex l₆' b₆
    generalize notedBy (model prog w) A' env _ = EE
    repeat walk_at "sky_m0"
    refine meth_append l₆ ?_
    try dsimp only
    repeat walk_at "sky_m0"
    refine wpAny_Tuple ?_
    repeat walk_at "sky_m0"
    have Rc₆ := Rc.kept X₆.keep
    refine rect_x X₆.W X₆.keep Rc₆ fun u1 tk₇ => ?_
    try dsimp only
    repeat walk_at "sky_m0"
    refine rect_y X₆.W X₆.keep Rc₆ fun u2 tk₇ => ?_
    try dsimp only
    repeat walk_at "sky_m0"
    refine rect_w X₆.W X₆.keep Rc₆ fun u3 tk₇ => ?_
    try dsimp only
    repeat walk_at "sky_m0"
    refine rect_h X₆.W X₆.keep Rc₆ fun u4 tk₇ => ?_
    try dsimp only
    repeat walk_at "sky_m0"
    refine rect_rid X₆.W X₆.keep Rc₆ rfl fun tk₇ => ?_
    try dsimp only
    repeat walk_at "sky_m0"
    refine ⟨by show 5 ≤ sizeLine; rw [sizeLine_eq]; (first | exact Nat.le_add_left _ _ | lia), ?_⟩
    try dsimp only
    let ot : Obj := { cls := .type "tuple", data := .seq #[.int row.x u1, .int row.y u2, .int row.w u3, .int row.l u4, .int row.id tr] }
    have kp : Kept h₆ (h₆.push ot) := Kept.push _ _
    have tq : TupAt (h₆.push ot) h₆.objs.size #[.int row.x u1, .int row.y u2, .int row.w u3, .int row.l u4, .int row.id tr] := ⟨_, Heap.get?_push_size _ rfl⟩
    have nq1 : h₆.objs.size ≠ Cf := by obtain ⟨o, e⟩ := ex₆.1; exact Nat.ne_of_gt (Heap.lt_size e)
    have nq2 : h₆.objs.size ≠ I := by obtain ⟨o, e⟩ := ex₆.2; exact Nat.ne_of_gt (Heap.lt_size e)
    have T₇ := (T₆.kept fun q its' tp _ _ => tp.kept kp).push tq nq1 nq2
    have X₇ := X₆.step kp
    have l₇ := l₆.at (kp _)
    have G₇ := GenF.keeps (h' := h₆.push ot) (gs' := gs₅) (dr := σd) (tk := tk₅) (os := σo) G₆ (fun b _ o e => kp _ _ e) rfl
    clear T₆ X₆ l₆ G₆ Rc₆
    show wpAny _ _ _ _ _ ⟨h₆.push ot, _, _, _, _⟩
    generalize h₆.push ot = h₇ at kp tq T₇ X₇ l₇ G₇ ⊢
    generalize h₆.objs.size = q at tq nq1 nq2 T₇ ⊢
    repeat walk_at "sky_m0"
    refine app_plain l₇ (by have := T₇.1; rw [Array.size_push, List.length_append, List.length_take] at this; simp at this; (first | lia | omega)) fun h₈ l₈ b₈ => ?_
    try dsimp only at b₈ ⊢
    have X₈ := X₇.but (.head _) l₇ b₈ l₈
    have T₈ : TupsOff h₈ _ _ Cf I := T₇.kept fun q its' tp _ _ => by
      obtain ⟨n, e⟩ := tp
      refine ⟨n, b₈ _ _ (fun z => ?_) e⟩
      obtain ⟨n', e'⟩ := l₇
      rw [z, e'] at e
      have c := congrArg Obj.cls (Option.some.inj e)
      have c : Value.type "list" = Value.type "tuple" := c
      injection c with c
      exact absurd c (by decide)
    repeat walk_at "sky_m0"
    have et : rows.take (i + 1) = rows.take i ++ [row] := by rw [List.take_add_one, hrow]; rfl
    refine ⟨ritems.size + 1 - (i + 1), by (first | exact nb5 (by assumption) | lia), i + 1, h₈, _, gs₅, _, _, rfl, hlt, rfl, gkeep a h₇ h₈ tk₅ _ (Ne.symm hga) (Ne.symm hCa) (Ne.symm hIa) fa b₈ G₇, X₈, l₈, et ▸ T₈, fun k hk => (gk₅ k hk).trans (gk₄ k hk), by ((repeat (first | assumption | exact if_pos rfl | refine (if_neg (by decide)).trans ?_)))⟩
  · have hin : i = ritems.size := by (first | exact Nat.le_antisymm (by assumption) (Nat.not_lt.mp (by assumption)) | lia)
    subst hin
    refine nextF_done G₄ R'.2.2 (by have := R'.1; (first | lia | omega)) fun h₅ gs₅ tk₅ k₅ gk₅ hb₅ => wpAny_execs_nil ?_
    obtain ⟨X₅, l₅, T₅⟩ := moved _ k₅
    have bare₅ : AllBare gs₅ := fun y hy => by
      obtain ⟨k, hk⟩ := Array.mem_iff_getElem?.mp hy
      by_cases c : k = σg.size
      · exact hb₅ y (c ▸ hk)
      · have e := (gk₅ k c).symm.trans hk
        try dsimp only at e
        rw [gk₄ k c, Array.getElem?_push, if_neg c] at e
        exact hg y (Array.mem_iff_getElem?.mpr ⟨k, e⟩)
    have eall : rows.take ritems.size = rows := by rw [hsz]; exact List.take_length
    rw [eall] at T₅
    try dsimp only
    repeat walk_at "sky_m0"
    exact h a h₅ _ gs₅ its X₅.keep bare₅ fa l₅ T₅.tups
end
/- the entries of a dict of names -/
noncomputable def Ents : List DictEntry → List (Str × Value) → Prop
  | [], [] => True
  | e :: es, (k, v) :: kvs => (∃ t, e.key = .str k t) ∧ e.val = v ∧ Ents es kvs
  | _, _ => False
/- a dict of names at d -/
noncomputable def Sd (h : Heap) (d : Addr) (kvs : List (Str × Value)) : Prop := ∃ es ep, h.get? d = some { cls := .type "dict", data := .dict es ep } ∧ Ents es.toList kvs
theorem Sd.kept {h h' : Heap} {d : Addr} {kvs : List (Str × Value)} (S : Sd h d kvs) (k : Kept h h') : Sd h' d kvs := let ⟨es, ep, a, b⟩ := S; ⟨es, ep, k _ _ a, b⟩
theorem Sd.but {h h' : Heap} {d a : Addr} {kvs : List (Str × Value)} (S : Sd h d kvs) (k : But a h h') (n : d ≠ a) : Sd h' d kvs := let ⟨es, ep, e, b⟩ := S; ⟨es, ep, k _ _ n e, b⟩
theorem Ents.snoc : ∀ {es : List DictEntry} {kvs : List (Str × Value)} {e : DictEntry} {k : Str} {t : Tok} {v : Value}, Ents es kvs → e.key = .str k t → e.val = v → Ents (es ++ [e]) (kvs ++ [(k, v)])
  | [], [], _, _, t, _, _, h1, h2 => ⟨⟨t, h1⟩, h2, trivial⟩
  | _ :: _, (_, _) :: _, _, _, _, _, ⟨a, b, c⟩, h1, h2 => ⟨a, b, Ents.snoc c h1 h2⟩
  | [], _ :: _, _, _, _, _, h, _, _ => h.elim
  | _ :: _, [], _, _, _, _, h, _, _ => h.elim
theorem Ents.length : ∀ {es : List DictEntry} {kvs : List (Str × Value)}, Ents es kvs → es.length = kvs.length
  | [], [], _ => rfl
  | _ :: _, (_, _) :: _, ⟨_, _, c⟩ => congrArg (· + 1) (Ents.length c)
  | [], _ :: _, h => h.elim
  | _ :: _, [], h => h.elim
theorem Ents.key : ∀ {es : List DictEntry} {kvs : List (Str × Value)}, Ents es kvs → ∀ e ∈ es, ∃ k t, e.key = .str k t ∧ k ∈ kvs.map (·.1)
  | [], [], _, _, h => nomatch h
  | _ :: _, (k, _) :: _, ⟨⟨t, a⟩, _, c⟩, e, h => by
    rcases List.mem_cons.mp h with rfl | h
    · exact ⟨k, t, a, .head _⟩
    · obtain ⟨k', t', x, y⟩ := Ents.key c e h; exact ⟨k', t', x, .tail _ y⟩
  | [], _ :: _, h, _, _ => h.elim
  | _ :: _, [], h, _, _ => h.elim
theorem Ents.get : ∀ {es : List DictEntry} {kvs : List (Str × Value)} {i : Nat} {k : Str} {v : Value}, Ents es kvs → kvs[i]? = some (k, v) → ∃ e t, es[i]? = some e ∧ e.key = .str k t ∧ e.val = v
  | [], [], _, _, _, _, h => by simp at h
  | e :: _, (_, _) :: _, 0, _, _, ⟨⟨t, a⟩, b, _⟩, h => by cases h; exact ⟨e, t, rfl, a, b⟩
  | _ :: es, (_, _) :: kvs, i + 1, k, v, ⟨_, _, c⟩, h => by
    have h : kvs[i]? = some (k, v) := h
    obtain ⟨e, t, x, y⟩ := Ents.get c h
    exact ⟨e, t, x, y⟩
  | [], _ :: _, _, _, _, h, _ => h.elim
  | _ :: _, [], _, _, _, h, _ => h.elim
section
variable {prog : Program} {w : World} {A : Around} {E : Value → Shared → Prop} {s : Shared}
theorem sd_find {d : Addr} {kvs : List (Str × Value)} {k : Str} {t : Tok} {hash : Int} {Q : Option Nat → Shared → Prop} (S : Sd s.heap d kvs) (hn : k ∉ kvs.map (·.1)) (h : Q none s) : wpAny (model prog w) A (dictFind d (.str k t) hash) Q E s := by
  obtain ⟨es, ep, hd, he⟩ := S
  unfold dictFind
  refine wpAny_holding (wpAny_bind (wpAny_dictEntries hd rfl ?_))
  have hall : (es.all fun e => isExactStrKey e.key) = true := by
    rw [Array.all_eq_true']
    intro e hm
    obtain ⟨k', t', e1, -⟩ := he.key e (Array.mem_toList_iff.mpr hm)
    rw [e1]; rfl
  have hnone : es.findIdx? (fun e => e.key.isStr k) = none := by
    rw [Array.findIdx?_eq_none_iff]
    intro e hm
    obtain ⟨k', t', e1, hk'⟩ := he.key e (Array.mem_toList_iff.mpr hm)
    rw [e1]
    show (k' == k) = false
    exact beq_eq_false_iff_ne.mpr fun q => hn (q ▸ hk')
  try dsimp only
  rw [if_pos hall]
  unfold foundByValue
  rw [hnone]
  exact wpAny_bind (wpAny_pure (wpAny_pure h))
theorem sd_nsSet {σh : Heap} {σg : Array GenState} {σd : Drawn} {σt : Nat} {σo : OsState} {d : Addr} {kvs : List (Str × Value)} {k : Str} {v : Value} {Q : Unit → Shared → Prop} (S : Sd σh d kvs) (hn : k ∉ kvs.map (·.1)) (h : ∀ h', Sd h' d (kvs ++ [(k, v)]) → But d σh h' → Q () ⟨h', σg, σd, σt + 1, σo⟩) : wpAny (model prog w) A (nsSet d k v) Q E ⟨σh, σg, σd, σt, σo⟩ := by
  obtain ⟨es, ep, hd, he⟩ := S
  unfold nsSet
  refine wpAny_bind (wpAny_bind (wpAny_askSetting (wpAny_pure (wpAny_bind (wpAny_mkText (wpAny_bind (wpAny_loadPart hd ?_)))))))
  have hany : es.any (·.refKey) = false := by
    rw [Array.any_eq_false']
    intro e hm
    obtain ⟨k', t', e1, -⟩ := he.key e (Array.mem_toList_iff.mpr hm)
    simp [DictEntry.refKey, e1]
  have hnone : es.findIdx? (fun e => e.key.isStr k) = none := by
    rw [Array.findIdx?_eq_none_iff]
    intro e hm
    obtain ⟨k', t', e1, hk'⟩ := he.key e (Array.mem_toList_iff.mpr hm)
    rw [e1]
    show (k' == k) = false
    exact beq_eq_false_iff_ne.mpr fun q => hn (q ▸ hk')
  simp only [aRefKeyMayBeTheName_at, hany, Bool.and_false, Bool.false_eq_true, if_false]
  refine wpAny_updatePart hd (h _ ?_ (But.of_same (Heap.SameBut.update ..)))
  refine ⟨_, ep + 1, Heap.get?_update_self _ hd (by simp only [Obj.putName_eq, Obj.putNameByArray, hnone]; rfl) |>.trans (by simp only [Obj.putName_eq, Obj.putNameByArray, hnone]; rfl), ?_⟩
  rw [Array.toList_push]
  exact he.snoc rfl rfl
theorem sd_put {σh : Heap} {σg : Array GenState} {σd : Drawn} {σt : Nat} {σo : OsState} {d : Addr} {kvs : List (Str × Value)} {k : Str} {t : Tok} {hash : Int} {v : Value} {Q : Unit → Shared → Prop} (S : Sd σh d kvs) (hn : k ∉ kvs.map (·.1)) (hz : kvs.length ≤ 50) (h : ∀ h', Sd h' d (kvs ++ [(k, v)]) → But d σh h' → Q () ⟨h', σg, σd, σt, σo⟩) : wpAny (model prog w) A (dictPut d hash (.str k t) v) Q E ⟨σh, σg, σd, σt, σo⟩ := by
  unfold dictPut
  refine wpAny_bind (sd_find S hn ?_)
  obtain ⟨es, ep, hd, he⟩ := S
  have hl := he.length
  rw [Array.length_toList] at hl
  refine wpAny_updateDictKeys (hz := by rw [sizeLine_eq]; (first | lia | omega)) (hf := by rw [Array.size_push]; exact Nat.le_refl _) hd rfl (h _ ?_ (But.of_same (Heap.SameBut.update ..)))
  refine ⟨es.push ⟨hash, .str k t, v⟩, ep + 1, Heap.get?_update_self _ hd rfl, ?_⟩
  rw [Array.toList_push]
  exact he.snoc rfl rfl
theorem for_pure {α : Type} {f : α → PUnit → Sem (ForInStep PUnit)} {Q : PUnit → Shared → Prop} (h : Q ⟨⟩ s) : ∀ (l : List α), (∀ e ∈ l, f e ⟨⟩ = pure (.yield ⟨⟩)) → wpAny (model prog w) A (forIn l PUnit.unit f) Q E s
  | [], _ => by rw [List.forIn_nil]; exact wpAny_pure h
  | e :: l, hf => by
    rw [List.forIn_cons]
    have e1 := hf e (.head _)
    refine wpAny_bind (wpAny_of_eq e1 ?_)
    exact for_pure h l fun e' he' => hf e' (.tail _ he')
theorem for_inv {f : Nat → PUnit → Sem (ForInStep PUnit)} {Q : PUnit → Shared → Prop} (I : Nat → Shared → Prop) {n : Nat} (step : ∀ i s, i < n → I i s → wpAny (model prog w) A (f i ⟨⟩) (fun r s' => r = .yield ⟨⟩ ∧ I (i + 1) s') E s) (done : ∀ s, I n s → Q ⟨⟩ s) :
    ∀ (k i : Nat) (s : Shared), i + k = n → I i s → wpAny (model prog w) A (forIn (List.range' i k) PUnit.unit f) Q E s
  | 0, i, s, hi, h => by
    rw [List.range'_zero, List.forIn_nil]
    exact wpAny_pure (done s (by rw [← hi]; exact h))
  | k + 1, i, s, hi, h => by
    rw [List.range'_succ, List.forIn_cons]
    refine wpAny_bind (wpAny_mono (step i s (by (first | lia | omega)) h) (fun r s' q => ?_) fun _ _ e => e)
    obtain ⟨rfl, q⟩ := q
    exact for_inv I step done k (i + 1) s' (by (first | grind | lia)) q
theorem sub_dict : isSubtype (.type "dict") (.type "dict") = pure true := by rw [isSubtype_type]; kernel_rfl
theorem sd_merge {d a : Addr} {k2 : List (Str × Value)} {Q : Unit → Shared → Prop} (S1 : Sd s.heap d []) (S2 : Sd s.heap a k2) (hda : a ≠ d) (hm : a ≠ sysModules) (hnd : (k2.map (·.1)).Nodup) (hz : k2.length ≤ 50) (h : ∀ h', Sd h' d k2 → But d s.heap h' → Q () { s with heap := h' }) :
    wpAny (model prog w) A (mergeMapping d (.ref a) true) Q E s := by
  obtain ⟨es, ep, ha, he⟩ := id S2
  obtain ⟨es1, ep1, hd, he1⟩ := id S1
  have e1 : es1 = #[] := by
    have := he1.length
    simpa using this
  subst e1
  have hT : s.TypeIs (.ref a) "dict" := ⟨_, ha, rfl⟩
  unfold mergeMapping
  refine wpAny_bind (wpAny_isInstance hT sub_dict ?_)
  rw [if_pos rfl]
  refine wpAny_bind (wpAny_specialOf hT PySem.F.slot_dict_iter.lookup (wpAny_bind (wpAny_pure ?_)))
  show wpAny _ A (if (a == sysModules) = true then _ else _) Q E s
  rw [if_neg (by simpa using hm)]
  refine wpAny_bind (wpAny_dictEntries hd rfl ?_)
  show wpAny _ A (if Array.isEmpty (#[] : Array DictEntry) = true then _ else _) Q E s
  rw [if_pos (show Array.isEmpty (#[] : Array DictEntry) = true from rfl)]
  refine wpAny_bind (wpAny_dictEntries ha rfl ?_)
  rw [← Array.forIn_toList]
  refine wpAny_bind (for_pure ?_ es.toList fun e hm => ?_)
  · refine wpAny_bind (wpAny_dictEntries ha rfl ?_)
    refine wpAny_bind (wpAny_dictEpoch ha rfl ?_)
    rw [List.range_eq_range']
    have hl := he.length
    rw [Array.length_toList] at hl
    refine wpAny_bind (for_inv (n := es.size) (fun i s' => ∃ h', s' = { s with heap := h' } ∧ Sd h' d (k2.take i) ∧ But d s.heap h') (fun i s' hi hs' => ?_) (fun s' hs' => ?_) es.size 0 s (by (first | exact Nat.zero_add _ | lia)) ⟨s.heap, rfl, S1, fun _ _ _ e => e⟩)
    · obtain ⟨h', rfl, S', b'⟩ := hs'
      have ha' := b' _ _ hda ha
      refine wpAny_bind (wpAny_dictEntries ha' rfl ?_)
      obtain ⟨⟨k, v⟩, hkv⟩ : ∃ kv, k2[i]? = some kv := ⟨_, List.getElem?_eq_getElem (by (first | lia | omega))⟩
      obtain ⟨e, t, g1, g2, g3⟩ := he.get hkv
      rw [Array.getElem?_toList] at g1
      rw [g1]
      have hnk : k ∉ (k2.take i).map (·.1) := by
        intro q
        have hi' : i < k2.length := by (first | lia | omega)
        have e3 : k2 = k2.take i ++ (k, v) :: k2.drop (i + 1) := by
          have := List.take_append_drop i k2
          rw [List.drop_eq_getElem_cons hi', show k2[i] = (k, v) by rw [List.getElem?_eq_getElem hi'] at hkv; exact Option.some.inj hkv] at this
          exact this.symm
        rw [e3, List.map_append, List.map_cons, List.nodup_append] at hnd
        exact hnd.2.2 _ q _ (.head _) rfl
      have e2 : k2.take (i + 1) = k2.take i ++ [(k, v)] := by rw [List.take_add_one, hkv]; rfl
      refine wpAny_bind (wpAny_holding ?_)
      show wpAny _ A (if true = true then _ else _) _ _ _
      rw [if_pos rfl, g2]
      refine wpAny_bind (sd_find S' hnk ?_)
      rw [if_neg (by simp), g3]
      refine sd_put S' hnk (by rw [List.length_take]; (first | grind | lia)) fun h'' S'' b'' => ?_
      refine wpAny_bind (wpAny_dictEpoch (b'' _ _ hda ha') rfl ?_)
      rw [if_neg (by simp)]
      exact wpAny_pure ⟨rfl, h'', rfl, e2 ▸ S'', b'.trans b''⟩
    · obtain ⟨h', rfl, S', b'⟩ := hs'
      refine wpAny_pure (h h' ?_ b')
      rw [hl, List.take_length] at S'; exact S'
  · obtain ⟨k', t', e1, -⟩ := he.key e hm
    rw [e1]
theorem sd_merge0 {d a : Addr} {k1 : List (Str × Value)} {Q : Unit → Shared → Prop} (S1 : Sd s.heap d k1) (S2 : Sd s.heap a []) (hm : a ≠ sysModules) (h : Q () s) : wpAny (model prog w) A (mergeMapping d (.ref a) true) Q E s := by
  obtain ⟨es, ep, ha, he⟩ := id S2
  obtain ⟨es1, ep1, hd, he1⟩ := id S1
  have e1 : es = #[] := by
    have := he.length
    simpa using this
  subst e1
  have hT : s.TypeIs (.ref a) "dict" := ⟨_, ha, rfl⟩
  unfold mergeMapping
  refine wpAny_bind (wpAny_isInstance hT sub_dict ?_)
  rw [if_pos rfl]
  refine wpAny_bind (wpAny_specialOf hT PySem.F.slot_dict_iter.lookup (wpAny_bind (wpAny_pure ?_)))
  show wpAny _ A (if (a == sysModules) = true then _ else _) Q E s
  rw [if_neg (by simpa using hm)]
  refine wpAny_bind (wpAny_dictEntries hd rfl ?_)
  show wpAny _ A (if es1.isEmpty = true then _ else _) Q E s
  split
  · refine wpAny_bind (wpAny_dictEntries ha rfl ?_)
    refine wpAny_bind (wpAny_pure ?_)
    refine wpAny_bind (wpAny_dictEntries ha rfl ?_)
    refine wpAny_bind (wpAny_dictEpoch ha rfl ?_)
    exact wpAny_bind (wpAny_pure (wpAny_pure h))
  · refine wpAny_bind (wpAny_dictEntries ha rfl ?_)
    refine wpAny_bind (wpAny_dictEpoch ha rfl ?_)
    exact wpAny_bind (wpAny_pure (wpAny_pure h))
theorem sd_keywords {d : Addr} {kvs : List (Str × Value)} {f : Value} {Q : List (Str × Value) → Shared → Prop} (S : Sd s.heap d kvs) (h : Q kvs s) : wpAny (model prog w) A (keywordsIn f d) Q E s := by
  obtain ⟨es, ep, hd, he⟩ := S
  unfold keywordsIn
  refine wpAny_bind (wpAny_dictEntries hd rfl ?_)
  rw [← Array.forIn_toList]
  have go : ∀ (l : List DictEntry) (k2 acc : List (Str × Value)) (g : DictEntry → List (Str × Value) → Sem (ForInStep (List (Str × Value)))) (_ : ∀ e k t acc, e.key = .str k t → g e acc = pure (.yield (acc ++ [(k, e.val)]))), Ents l k2 → ∀ Q' : List (Str × Value) → Shared → Prop, Q' (acc ++ k2) s → wpAny (model prog w) A (forIn l acc g) Q' E s := by
    intro l
    induction l with
    | nil =>
      intro k2 acc g hg hE Q' hQ
      cases k2 with
      | nil => rw [List.forIn_nil]; rw [List.append_nil] at hQ; exact wpAny_pure hQ
      | cons => exact hE.elim
    | cons e l ih =>
      intro k2 acc g hg hE Q' hQ
      cases k2 with
      | nil => exact hE.elim
      | cons kv k2 =>
        obtain ⟨⟨t, e1⟩, e2, e3⟩ := hE
        rw [List.forIn_cons]
        refine wpAny_bind (wpAny_of_eq (hg e kv.1 t acc e1) ?_)
        refine ih k2 _ g hg e3 Q' ?_
        rw [List.append_assoc, e2]
        exact hQ
  refine wpAny_bind (go es.toList kvs [] _ (fun e k t acc hk => ?_) he _ (wpAny_pure h))
  try dsimp only
  rw [hk]
/- **kwargs alone, an empty one -/
theorem merged_0 {σh : Heap} {σg : Array GenState} {σd : Drawn} {σt : Nat} {σo : OsState} {f : Value} {x : Sem Value} {a : Addr} {Q : Addr → Shared → Prop} (hx : ∀ h' tk' (Q' : Value → Shared → Prop) E', Kept σh h' → (∀ tk, Q' (.ref a) ⟨h', σg, σd, tk, σo⟩) → wpAny (model prog w) A x Q' E' ⟨h', σg, σd, tk', σo⟩) (S : Sd σh a []) (hm : a ≠ sysModules)
    (h : ∀ d h' tk, Kept σh h' → Sd h' d [] → Q d ⟨h', σg, σd, tk, σo⟩) : wpAny (model prog w) A (mergedKeywords f [(none, x)]) Q E ⟨σh, σg, σd, σt, σo⟩ := by
  unfold mergedKeywords
  refine wpAny_bind (wpAny_alloc ?_)
  have kp := Kept.push σh { cls := .type "dict", data := .dict #[] }
  have Sd₁ : Sd (σh.push { cls := .type "dict", data := .dict #[] }) σh.objs.size [] := ⟨#[], 0, Heap.get?_push_size _ rfl, trivial⟩
  refine wpAny_bind (wpAny_holding ?_)
  try dsimp only
  rw [List.forIn_cons]
  refine wpAny_bind (wpAny_bind (wpAny_bind ?_))
  rw [if_pos (show List.isEmpty ([] : List (Str × Sem Value)) = true from rfl)]
  refine wpAny_pure ?_
  refine wpAny_bind (hx _ _ _ _ kp fun tk => ?_)
  refine wpAny_bind (wpAny_onRaise (wpAny_holding (wpAny_tryCatch (wpAny_onRaise (sd_merge0 Sd₁ (S.kept kp) hm ?_)))))
  refine wpAny_pure ?_
  try dsimp only
  rw [List.forIn_nil]
  refine wpAny_pure ?_
  rw [if_pos (show List.isEmpty ([] : List (Str × Sem Value)) = true from rfl)]
  refine wpAny_pure (wpAny_pure ?_)
  exact h _ _ _ kp Sd₁
theorem kw_gather {g : Option Str × Sem Value → List (Str × Sem Value) → Sem (ForInStep (List (Str × Sem Value)))} {last : List (Option Str × Sem Value)} {Q : List (Str × Sem Value) → Shared → Prop} (hg : ∀ n x acc, g (some n, x) acc = pure (.yield (acc ++ [(n, x)]))) :
    ∀ (kws acc : List (Str × Sem Value)), wpAny (model prog w) A (forIn last (acc ++ kws) g) Q E s → wpAny (model prog w) A (forIn (kws.map (fun p => (some p.1, p.2)) ++ last) acc g) Q E s
  | [], acc, h => by rw [List.append_nil] at h; exact h
  | (n, x) :: kws, acc, h => by
    rw [List.map_cons, List.cons_append, List.forIn_cons]
    refine wpAny_bind (wpAny_of_eq (hg n x acc) ?_)
    refine kw_gather hg kws (acc ++ [(n, x)]) ?_
    rw [List.append_assoc]
    exact h
theorem kw_store {d : Addr} {Q : PUnit → Shared → Prop} : ∀ (kws : List (Str × Sem Value)) (vs : List Value) (kvs : List (Str × Value)) (s : Shared), Sd s.heap d kvs → vs.length = kws.length → (kvs.map (·.1) ++ kws.map (·.1)).Nodup →
    (∀ h' tk, Sd h' d (kvs ++ (kws.map (·.1)).zip vs) → But d s.heap h' → Q ⟨⟩ { s with heap := h', toks := tk }) →
    wpAny (model prog w) A (forIn (kws.zip vs) PUnit.unit fun x _ => do nsSet d x.1.1 x.2; pure (ForInStep.yield PUnit.unit)) Q E s
  | [], vs, kvs, s, S, hl, _, h => by
    show wpAny _ _ (forIn [] _ _) _ _ _
    rw [List.forIn_nil]
    exact wpAny_pure (h s.heap s.toks (by simpa using S) fun _ _ _ e => e)
  | (n, x) :: kws, [], kvs, s, S, hl, _, h => by simp at hl
  | (n, x) :: kws, v :: vs, kvs, s, S, hl, hnd, h => by
    rw [List.zip_cons_cons, List.forIn_cons]
    have hn : n ∉ kvs.map (·.1) := fun q => by
      rw [List.nodup_append] at hnd
      exact hnd.2.2 _ q _ (.head _) rfl
    refine wpAny_bind (wpAny_bind (sd_nsSet S hn fun h' S' b' => wpAny_pure ?_))
    refine kw_store kws vs (kvs ++ [(n, v)]) _ S' (by simpa using hl) (by rw [List.map_append, List.append_assoc]; exact hnd) fun h'' tk S'' b'' => ?_
    refine h h'' tk ?_ (b'.trans b'')
    rw [List.append_assoc] at S''
    exact S''
/- name=value .., **kwargs, an empty one -/
theorem merged_kw {σh : Heap} {σg : Array GenState} {σd : Drawn} {σt : Nat} {σo : OsState} {f : Value} {x : Sem Value} {a : Addr} {Q : Addr → Shared → Prop} (kws : List (Str × Sem Value)) (vs : List Value) (hne : kws.isEmpty = false) (hl : vs.length = kws.length) (hnd : (kws.map (·.1)).Nodup) (hz : kws.length ≤ 50)
    (hev : ∀ h' tk' (Q' : List Value → Shared → Prop) E', Kept σh h' → (∀ tk, Q' vs ⟨h', σg, σd, tk, σo⟩) → wpAny (model prog w) A (evalAll (kws.map (·.2))) Q' E' ⟨h', σg, σd, tk', σo⟩)
    (hx : ∀ h' tk' (Q' : Value → Shared → Prop) E', Kept σh h' → (∀ tk, Q' (.ref a) ⟨h', σg, σd, tk, σo⟩) → wpAny (model prog w) A x Q' E' ⟨h', σg, σd, tk', σo⟩) (S : Sd σh a []) (hm : a ≠ sysModules) (hsz : 1 < σh.objs.size)
    (h : ∀ d h' tk, Kept σh h' → Sd h' d ((kws.map (·.1)).zip vs) → Q d ⟨h', σg, σd, tk, σo⟩) : wpAny (model prog w) A (mergedKeywords f (kws.map (fun p => (some p.1, p.2)) ++ [(none, x)])) Q E ⟨σh, σg, σd, σt, σo⟩ := by
  unfold mergedKeywords
  refine wpAny_bind (wpAny_alloc ?_)
  have kp := Kept.push σh { cls := .type "dict", data := .dict #[] }
  have Sd₁ : Sd (σh.push { cls := .type "dict", data := .dict #[] }) σh.objs.size [] := ⟨#[], 0, Heap.get?_push_size _ rfl, trivial⟩
  have hd1 : σh.objs.size < (σh.push { cls := .type "dict", data := .dict #[] }).objs.size := by rw [Heap.size_push]; exact Nat.lt_succ_self _
  have fr : σh.get? σh.objs.size = none := get?_size _
  generalize σh.push { cls := .type "dict", data := .dict #[] } = h₁ at kp Sd₁ hd1 ⊢
  generalize hdd : σh.objs.size = d at Sd₁ hd1 fr ⊢
  refine wpAny_bind (wpAny_holding ?_)
  try dsimp only
  refine wpAny_bind (kw_gather (fun n x acc => rfl) kws [] ?_)
  rw [List.nil_append, List.forIn_cons]
  refine wpAny_bind (wpAny_bind ?_)
  rw [if_neg (by rw [hne]; decide)]
  refine wpAny_bind (hev _ _ _ _ kp fun tk₂ => ?_)
  refine wpAny_bind (wpAny_alloc ?_)
  have kp₂ := Kept.push h₁ { cls := .type "dict", data := .dict #[] }
  have Sd₂ : Sd (h₁.push { cls := .type "dict", data := .dict #[] }) h₁.objs.size [] := ⟨#[], 0, Heap.get?_push_size _ rfl, trivial⟩
  have fr₂ : h₁.get? h₁.objs.size = none := get?_size _
  have hds : d ≠ h₁.objs.size := Nat.ne_of_lt hd1
  have hsm : h₁.objs.size ≠ sysModules := by
    intro q
    have q : h₁.objs.size = 1 := q
    (first | lia | omega)
  generalize h₁.push { cls := .type "dict", data := .dict #[] } = h₂ at kp₂ Sd₂ ⊢
  generalize h₁.objs.size = sub at Sd₂ fr₂ hds hsm ⊢
  refine wpAny_bind (kw_store kws vs [] _ Sd₂ hl (by simpa using hnd) fun h₃ tk₃ S₃ b₃ => ?_)
  try dsimp only at b₃
  rw [List.nil_append] at S₃
  have Sd₃ : Sd h₃ d [] := (Sd₁.kept kp₂).but b₃ hds
  have hlz : ((kws.map (·.1)).zip vs).length = kws.length := by rw [List.length_zip, List.length_map, hl]; (first | (simp; done) | lia)
  have hfst : ((kws.map (·.1)).zip vs).map (·.1) = kws.map (·.1) := by
    rw [← List.unzip_fst, List.unzip_zip (by rw [List.length_map, hl])]
  refine wpAny_onRaise (wpAny_holding (wpAny_tryCatch (wpAny_onRaise (sd_merge Sd₃ S₃ (Ne.symm hds) hsm (by rw [hfst]; exact hnd) (by (first | lia | omega)) fun h₄ S₄ b₄ => ?_))))
  have k₄ : Kept σh h₄ := fun b o e => b₄ b o (ne_of_get e fr) (b₃ b o (fun q => by rw [q] at e; rw [kp _ _ e] at fr₂; cases fr₂) (kp₂ _ _ (kp _ _ e)))
  refine wpAny_bind (hx _ _ _ _ k₄ fun tk => ?_)
  refine wpAny_bind (wpAny_onRaise (wpAny_holding (wpAny_tryCatch (wpAny_onRaise (sd_merge0 S₄ (S.kept k₄) hm ?_)))))
  refine wpAny_pure ?_
  try dsimp only
  rw [List.forIn_nil]
  refine wpAny_pure ?_
  rw [if_pos (show List.isEmpty ([] : List (Str × Sem Value)) = true from rfl)]
  refine wpAny_pure (wpAny_pure ?_)
  exact h _ _ _ k₄ S₄
/- a call with **kwargs -/
theorem call_kwstar {pos : Pos} {f : Value} {first : List Value} {x0 : Sem Value} {rest : List (Bool × Sem Value)} {kwl : List (Option Str × Sem Value)} {P : Heap → Prop} {Q : Value → Shared → Prop} (hno : kwl.all (·.1.isSome) = false) (hst : (((false, x0) :: rest).any (·.1) || kwl.any (·.1.isNone)) = true)
    (hk : ∀ h, P h → ∃ k, (k = Keeper.frame ∨ k = Keeper.machine ∨ k = Keeper.boundFrame) ∧ Looks (model prog w) h (keeperOf f) k)
    (h : wpAny (model prog w) A (spliced ((false, x0) :: rest)) (fun vs s₁ => wpAny (model prog w) A (mergedKeywords f kwl) (fun d s₂ => ∃ kvs, Sd s₂.heap d kvs ∧ P s₂.heap ∧ wpAny (model prog w) A (call f (first ++ vs) kvs) Q E s₂) E s₁) E s) :
    wpAny (model prog w) A (callWith pos f first ((false, x0) :: rest) kwl) Q E s := by
  have ev : wpAny (model prog w) A (evalArgs f true ((false, x0) :: rest) kwl) (fun a s₁ => P s₁.heap ∧ wpAny (model prog w) A (call f (first ++ a.pos) a.kw) Q E s₁) E s := by
    unfold evalArgs
    show wpAny _ A (spliced ((false, x0) :: rest) >>= _) _ E s
    refine wpAny_bind (wpAny_mono h (fun vs s₁ h₁ => ?_) fun _ _ e => e)
    refine wpAny_holding ?_
    rw [hno]
    refine wpAny_bind (wpAny_mono h₁ (fun d s₂ h₂ => ?_) fun _ _ e => e)
    obtain ⟨kvs, S, p, hc⟩ := h₂
    refine wpAny_bind (wpAny_pure ?_)
    refine wpAny_bind (wpAny_holding (sd_keywords S ?_))
    exact wpAny_pure ⟨p, hc⟩
  unfold callWith
  refine wpAny_bind (wpAny_holding (wpAny_mono ev (fun a s₁ h₁ => wpAny_bind (wpAny_standAt ?_)) fun _ _ e => e))
  obtain ⟨k, hk', L⟩ := hk _ h₁.1
  simp only [hst]
  refine wpAny_bind (L.here ?_)
  have tail : ∀ {t : Sem Value}, wpAny (model prog w) A t Q E s₁ → wpAny (model prog w) A (t >>= fun r => holding [r] point >>= fun _ => pure r) Q E s₁ :=
    fun ht => wpAny_bind (wpAny_mono ht (fun r s₂ hr => wpAny_bind (wpAny_holding (wpAny_point (wpAny_pure hr)))) fun _ _ e => e)
  have marked (mk : Value) : wpAny (model prog w) A (callMarked mk f (first ++ a.pos) a.kw) Q E s₁ := by unfold callMarked; exact Calls.wpAny_keep h₁.2
  rcases hk' with rfl | rfl | rfl <;> dsimp only <;> first | exact tail (marked _) | exact tail (wpAny_operating h₁.2)
theorem sd_fill {d : Addr} {Q : PUnit → Shared → Prop} : ∀ (ex kvs : List (Str × Value)) (s : Shared), Sd s.heap d kvs → (kvs.map (·.1) ++ ex.map (·.1)).Nodup → (∀ h' tk, Sd h' d (kvs ++ ex) → But d s.heap h' → Q ⟨⟩ { s with heap := h', toks := tk }) →
    wpAny (model prog w) A (forIn ex PUnit.unit fun x _ => nsSet d x.1 x.2 >>= fun _ => pure (ForInStep.yield PUnit.unit)) Q E s
  | [], kvs, s, S, _, h => by
    rw [List.forIn_nil]
    exact wpAny_pure (h s.heap s.toks (by simpa using S) fun _ _ _ e => e)
  | (n, v) :: ex, kvs, s, S, hnd, h => by
    rw [List.forIn_cons]
    have hn : n ∉ kvs.map (·.1) := fun q => by
      rw [List.nodup_append] at hnd
      exact hnd.2.2 _ q _ (.head _) rfl
    refine wpAny_bind (wpAny_bind (sd_nsSet S hn fun h' S' b' => wpAny_pure ?_))
    refine sd_fill ex (kvs ++ [(n, v)]) _ S' (by rw [List.map_append, List.append_assoc]; exact hnd) fun h'' tk S'' b'' => ?_
    refine h h'' tk ?_ (b'.trans b'')
    rw [List.append_assoc] at S''
    exact S''
/- a def with *args and **kwargs, entered -/
theorem code_fnV {σh : Heap} {σg : Array GenState} {σd : Drawn} {σt : Nat} {σo : OsState} {B : Heap} {f T : Addr} {oc : Value} {od : Option Addr} {osl : Array (Option Value)} {fd : FuncData} {body : List Stmt} {pos : List Value} {kw : List (Str × Value)} {R : Result → Shared → Prop} {d u : Nat} {oT : Obj} {dfl : Array Value} {nT : Nat}
    (front : List (Str × Value)) (rest : List Value) (ex : List (Str × Value)) (nr nm : Str)
    (W : Wd w B) (k : Kept B σh) (Ro : Rm A (d + 1) (u + 3)) (ho : (kHead.heap_1 w.params).lookup f = some ⟨oc, od, .func fd, osl⟩) (hcd : codeIn (kHead.heap_1 w.params) fd.code fd.qualname = true) (hbody : fd.body = .stmts body) (hT : fd.defaults = .ref T) (hTo : (kHead.heap_1 w.params).lookup T = some oT) (hTd : oT.data = .seq dfl nT)
    (hbk : ∃ kk, bindArgs fd ⟨pos, kw⟩ = seqItems? fd.defaults >>= kk ∧ kk (some dfl) = (newTuple rest >>= fun c => alloc { cls := .type "dict", data := .dict #[] } >>= fun d => forIn ex PUnit.unit (fun x _ => nsSet d x.1 x.2 >>= fun _ => pure (ForInStep.yield PUnit.unit)) >>= fun _ => pure (front ++ [(nr, c)] ++ [(nm, Value.ref d)])))
    (hex : (ex.map (·.1)).Nodup) (hz : rest.length ≤ 50) (hloc : ((front.map (·.1) ++ [nr, nm]).all fun n => decide (fd.scope.names.lookup n = some .local)) = true) (hcell : ∀ x ∈ fd.scope.names, x.2 ≠ .cell)
    (hco : fd.scope.isCoroutine = false) (hgen : fd.scope.isGenerator = false) (hk : fd.scope.kind = .function) (hg : fd.globals = mainGlobals) (hb : fd.builtins = builtinsNs)
    (h : ∀ A' L env h₁ tk c d', Rm A' d u → Ev env L fd.scope.names fd.closure → Fz σh L h₁ (fun x => (front ++ [(nr, Value.ref c)] ++ [(nm, Value.ref d')]).reverse.lookup x) → TupAt h₁ c rest.toArray → Sd h₁ d' ex → d' ≠ L → c ≠ L → σh.get? c = none → σh.get? d' = none → d' ≠ sysModules →
      wpAny (model prog w) A' (execs body env) (fun fl s' => R (.ok (.ret (retv fl))) s') (fun _ _ => False) ⟨h₁, σg, σd, tk, σo⟩) :
    codeAny (model prog w) A (.call (.ref f) ⟨pos, kw⟩) R ⟨σh, σg, σd, σt, σo⟩ := by
  replace W := W.keeps k
  refine codeAny_call_function (by have := Ro.1; (first | lia | omega)) (W.K _ _ ho) rfl hco hgen hbody (codeRec_of W.K hcd) ?_
  obtain ⟨kk, hb1, hb2⟩ := hbk
  rw [hb1, hT]
  refine wpAny_bind (wpAny_seqItems (W.K _ _ hTo) hTd ?_)
  rw [hb2]
  refine wpAny_bind (wpAny_newTuple ?_ (by rw [sizeLine_eq]; (first | exact Nat.le_trans (by assumption) (by decide) | lia)))
  refine wpAny_bind (wpAny_alloc ?_)
  have k₁ := Kept.push σh { cls := .type "tuple", data := .seq rest.toArray }
  have k₂ := Kept.push (σh.push { cls := .type "tuple", data := .seq rest.toArray }) { cls := .type "dict", data := .dict #[] }
  have T₁ : TupAt (σh.push { cls := .type "tuple", data := .seq rest.toArray }) σh.objs.size rest.toArray := ⟨_, Heap.get?_push_size _ rfl⟩
  have S₂ : Sd ((σh.push { cls := .type "tuple", data := .seq rest.toArray }).push { cls := .type "dict", data := .dict #[] }) (σh.push { cls := .type "tuple", data := .seq rest.toArray }).objs.size [] := ⟨#[], 0, Heap.get?_push_size _ rfl, trivial⟩
  have n₁ : σh.get? σh.objs.size = none := get?_size _
  have n₂ : (σh.push { cls := .type "tuple", data := .seq rest.toArray }).get? (σh.push { cls := .type "tuple", data := .seq rest.toArray }).objs.size = none := get?_size _
  have h1 : 1 < σh.objs.size := by
    obtain ⟨mc, ⟨oc, _, _, hoc, -⟩, -⟩ := W.lim
    exact Nat.lt_of_le_of_lt (show 1 ≤ 2 by decide) (Heap.lt_size hoc)
  have dm : (σh.push { cls := .type "tuple", data := .seq rest.toArray }).objs.size ≠ sysModules := by
    rw [Heap.size_push]
    intro q
    have q : σh.objs.size + 1 = 1 := q
    (first | lia | omega)
  clear h1
  try dsimp only
  generalize σh.push { cls := .type "tuple", data := .seq rest.toArray } = h₁ at k₁ k₂ T₁ S₂ n₂ dm ⊢
  generalize σh.objs.size = c at T₁ n₁ ⊢
  replace T₁ := T₁.kept k₂
  generalize h₁.push { cls := .type "dict", data := .dict #[] } = h₂ at k₂ T₁ S₂ ⊢
  generalize h₁.objs.size = d' at S₂ n₂ dm ⊢
  refine wpAny_bind (sd_fill ex [] _ S₂ (by simpa using hex) fun h₃ tk₃ S₃ b₃ => wpAny_pure ?_)
  try dsimp only at b₃
  rw [List.nil_append] at S₃
  have hcd' : c ≠ d' := by
    rintro rfl
    obtain ⟨n, e⟩ := T₁
    obtain ⟨es, ep, e', -⟩ := S₂
    rw [e] at e'
    have c := congrArg Obj.data (Option.some.inj e')
    cases c
  have T₃ : TupAt h₃ c rest.toArray := let ⟨n, e⟩ := T₁; ⟨n, b₃ _ _ hcd' e⟩
  have n₂' : σh.get? d' = none := by
    cases q : σh.get? d' with
    | none => rfl
    | some o => rw [k₁ _ _ q] at n₂; cases n₂
  have k₃ : Kept σh h₃ := fun b o e => b₃ b o (ne_of_get e n₂') (k₂ _ _ (k₁ _ _ e))
  refine wpAny_newFunctionEnv hcell (fun x hx => ?_) (fun h₀ hns hsb => ?_) hk
  · refine of_decide_eq_true (List.all_eq_true.mp hloc x.1 ?_)
    rcases List.mem_append.mp hx with hx | hx
    · rcases List.mem_append.mp hx with hx | hx
      · exact List.mem_append_left _ (List.mem_map_of_mem hx)
      · rw [List.mem_singleton.mp hx]; simp
    · rw [List.mem_singleton.mp hx]; simp
  have k₄ : Kept h₃ h₀ := fun b o e => hsb.extBut b o (Nat.ne_of_lt (Heap.lt_size e)) (Heap.get?_push_of_some _ e)
  refine ⟨W.lim.keeps (k₃.trans k₄), codeAny_func ?_⟩
  have hLs : σh.get? h₃.objs.size = none := by
    cases q : σh.get? h₃.objs.size with
    | none => rfl
    | some o => have := k₃ _ _ q; rw [get?_size] at this; cases this
  refine wpAny_mono (h _ h₃.objs.size _ h₀ _ c d' (Ro.deeper _) ⟨hk, rfl, hg, hb, rfl, rfl⟩ ⟨hns, k₃.trans k₄, hLs⟩ (T₃.kept k₄) (S₃.kept k₄) ?_ ?_ n₁ n₂' dm) (fun fl s' q => ?_) fun _ _ x => x.elim
  · obtain ⟨es, ep, e, -⟩ := S₃; exact Nat.ne_of_lt (Heap.lt_size e)
  · obtain ⟨n, e⟩ := T₃; exact Nat.ne_of_lt (Heap.lt_size e)
  · cases fl <;> exact q
theorem call_kwstar' {env : Env} {pos : Pos} {f : Value} {first : List Value} {e : PySem.Expr} {rest : List PySem.Expr} {kwl : List (Option Str × Sem Value)} {P : Heap → Prop} {Q : Value → Shared → Prop} (hno : kwl.all (·.1.isSome) = false) (hst : kwl.any (·.1.isNone) = true)
    (hk : ∀ h, P h → ∃ k, (k = Keeper.frame ∨ k = Keeper.machine ∨ k = Keeper.boundFrame) ∧ Looks (model prog w) h (keeperOf f) k)
    (h : wpAny (model prog w) A (spliced (backTo pos (starEach (e :: rest) env))) (fun vs s₁ => wpAny (model prog w) A (mergedKeywords f kwl) (fun d s₂ => ∃ kvs, Sd s₂.heap d kvs ∧ P s₂.heap ∧ wpAny (model prog w) A (call f (first ++ vs) kvs) Q E s₂) E s₁) E s)
    (he : starEach (e :: rest) env = (false, eval e env) :: starEach rest env := by rfl) :
    wpAny (model prog w) A (callWith pos f first (backTo pos (starEach (e :: rest) env)) kwl) Q E s := by
  rw [he] at h ⊢
  exact call_kwstar hno (by rw [hst, Bool.or_true]) hk h
end
/- an object with its dict: m its attributes, z a bound on their number -/
noncomputable def Ob (h : Heap) (x C dx : Addr) (m : Str → Option Value) (z : Nat) : Prop := h.get? x = some (instObj C dx) ∧ NsZ h dx m z
theorem Ob.kept {h h' : Heap} {x C dx : Addr} {m : Str → Option Value} {z : Nat} (O : Ob h x C dx m z) (k : Kept h h') : Ob h' x C dx m z := ⟨k _ _ O.1, O.2.kept k⟩
theorem Ob.bute {h h' : Heap} {x C dx a : Addr} {m : Str → Option Value} {z : Nat} (O : Ob h x C dx m z) (k : But a h h') (n1 : x ≠ a) (n2 : dx ≠ a) : Ob h' x C dx m z :=
  ⟨k _ _ n1 O.1, let ⟨o, es, ep, a, b, b2, b3, b4⟩ := O.2; ⟨o, es, ep, k _ _ n2 a, b, b2, b3, b4⟩⟩
theorem Ob.inst {h : Heap} {x C dx : Addr} {m : Str → Option Value} {z : Nat} (O : Ob h x C dx m z) (hz : z ≤ 100) : Inst h x C m := ⟨dx, O.1, O.2.le hz⟩
theorem Ob.ne {h : Heap} {x C dx : Addr} {m : Str → Option Value} {z : Nat} (O : Ob h x C dx m z) : x ≠ dx := by
  obtain ⟨a, o, es, ep, e, d, -⟩ := O
  rintro rfl; rw [a] at e; cases e; cases d
theorem Ob.le {h : Heap} {x C dx : Addr} {m : Str → Option Value} {z z' : Nat} (O : Ob h x C dx m z) (l : z ≤ z') : Ob h x C dx m z' := ⟨O.1, O.2.le l⟩
noncomputable def MadeC (C : Addr) : Prop := C = 577 ∨ IsSky C
noncomputable def MadeN : List Str := ["_merge", "_sections", "_waste_management", "_waste", "width", "height", "rot", "rectangles", "bid", "_surface", "_skyline"]
theorem made_checks (P : Params) : ∀ C, MadeC C → findIn (kHead.heap_1 P) (.ref C) "__setattr__" = some (some (.builtin "object.__setattr__")) ∧ plainOver (kHead.heap_1 P) C = true ∧ hasDictIn (kHead.heap_1 P) C = true := by
  rintro C (rfl | h)
  · exact ⟨by k_is, by k_is, by k_is⟩
  · exact sky_checks P C h
theorem made_taker (P : Params) : ∀ C, MadeC C → ∀ n ∈ MadeN, takerIn (kHead.heap_1 P) C n = some none := by
  rintro C (rfl | rfl | rfl | rfl) n hn <;>
  (unfold MadeN at hn
   rcases List.mem_cons.mp hn with rfl | hn
   · k_is
   rcases List.mem_cons.mp hn with rfl | hn
   · k_is
   rcases List.mem_cons.mp hn with rfl | hn
   · k_is
   rcases List.mem_cons.mp hn with rfl | hn
   · k_is
   rcases List.mem_cons.mp hn with rfl | hn
   · k_is
   rcases List.mem_cons.mp hn with rfl | hn
   · k_is
   rcases List.mem_cons.mp hn with rfl | hn
   · k_is
   rcases List.mem_cons.mp hn with rfl | hn
   · k_is
   rcases List.mem_cons.mp hn with rfl | hn
   · k_is
   rcases List.mem_cons.mp hn with rfl | hn
   · k_is
   rw [List.mem_singleton.mp hn]; k_is)
theorem made_plain (P : Params) : ∀ C, MadeC C → ∀ n, plainGet (kHead.heap_1 P) C n = true := by
  rintro C (rfl | rfl | rfl | rfl) n <;> (show plainGet (kHead.heap_1 P) _ "x" = true; k_is)
section
variable {prog : Program} {w : World} {A : Around} {E : Value → Shared → Prop} {s : Shared} {B : Heap} {L : Addr} {m : Str → Option Value}
theorem ob_set {σh : Heap} {σg : Array GenState} {σd : Drawn} {σt : Nat} {σo : OsState} {x C dx : Addr} {mm : Str → Option Value} {z : Nat} {name : Str} {v : Value} {Q : Unit → Shared → Prop} (X : Fm w [] B L σh m) (O : Ob σh x C dx mm z) (hC : MadeC C) (hn : name ∈ MadeN) (hz : z < 90) (hB : B.get? dx = none) (hL : dx ≠ L)
    (h : ∀ h' tk, Fm w [] B L h' m → Ob h' x C dx (fun y => if y = name then some v else mm y) (z + 1) → But dx σh h' → Q () ⟨h', σg, σd, tk, σo⟩) : wpAny (model prog w) A (setAttr (.ref x) name v) Q E ⟨σh, σg, σd, σt, σo⟩ := by
  obtain ⟨c1, c2, c3⟩ := made_checks w.params C hC
  refine set_inst X.W X.keep O.1 O.2 (by (first | exact Nat.lt_of_lt_of_le (by assumption) (by decide) | lia)) c1 c2 (made_taker w.params C hC name hn) c3 fun h' tk N sb => ?_
  have b := But.of_same sb
  exact h h' tk (X.bute b hL hB) ⟨b _ _ O.ne O.1, N⟩ b
theorem Free.frame {w : World} {h h₁ : Heap} {dx L : Addr} {m : Str → Option Value} (f : Free w h dx) (F : Fz h L h₁ m) : ∃ B, Fm w [] B L h₁ m ∧ B.get? dx = none ∧ ButL [dx] h B := by
  obtain ⟨B, W, k, n, back⟩ := f.hide
  exact ⟨B, Fm.of W (F.weaken k), n, fun b o nb e => back b o (fun q => nb (by rw [q]; simp)) e⟩
theorem reset_398 {σh : Heap} {σg : Array GenState} {σd : Drawn} {σt : Nat} {σo : OsState} {x C dx : Addr} {mm : Str → Option Value} {z : Nat} {R : Result → Shared → Prop} (hC : MadeC C) (W : Wd w σh) (hf : Free w σh dx) (O : Ob σh x C dx mm z) (hz : z < 80) (Ro : Rm A 2 20)
    (h : ∀ h' tk l, But dx σh h' → σh.get? l = none → h'.PlainList l #[] → Ob h' x C dx (upd "rectangles" (.ref l) mm) (z + 1) → R (.ok (.ret .none)) ⟨h', σg, σd, tk, σo⟩) :
    codeAny (model prog w) A (.call (.ref 398) ⟨[.ref x], []⟩) R ⟨σh, σg, σd, σt, σo⟩ := by
  have Ro : Rm A (1 + 1) (10 + 3) := Ro.le (by decide) (by decide)
  ((refine' code_fn ([("self", .ref x)]) ?k0 ?kk ?k1 ?k2 ?k3 ?k4 ?k5 ?k6 ?k7 ?k8 ?k9 ?k10 ?k11 ?k12 ?_); (case k0 => assumption); (case kk => (first | assumption | exact Fz.keep (by assumption) | exact Kept.refl _)); (case k2 => k_is); (case k3 => k_is); (case k4 => rfl); (case k5 => exact binds_eq rfl); (case k6 => rfl); (case k7 => rfl); (case k8 => rfl); (case k9 => rfl); (case k10 => rfl); (case k11 => rfl); (case k12 => rfl); (case k1 => assumption); intro A' L env h₁ R' V F; (try dsimp only at V F); (try dsimp only))
  obtain ⟨B, X, hB, back⟩ := hf.frame F
  have k₁ := F.keep
  have hdL : dx ≠ L := O.2.ne F.hid
  have O₀ := O
  replace O := O.kept k₁
  clear F
  repeat walk_at "sky_m0"
  refine wpAny_List ?_
  repeat walk_at "sky_m0"
  refine ⟨Nat.zero_le _, ?_⟩
  have kp := Kept.push h₁ { cls := .type "list", data := .seq #[] }
  have hla := push_list h₁ []
  have fl : σh.get? h₁.objs.size = none := by
    cases q : σh.get? h₁.objs.size with
    | none => rfl
    | some o => have := k₁ _ _ q; rw [get?_size] at this; cases this
  have fl1 : h₁.get? h₁.objs.size = none := get?_size _
  have X := X.step kp
  have O := O.kept kp
  have hdl : dx ≠ h₁.objs.size := O₀.2.ne fl
  clear fl1
  generalize h₁.objs.size = l at hla fl hdl ⊢
  repeat walk_at "sky_m0"
  refine ob_set X O hC (by decide) (by (first | exact Nat.lt_of_lt_of_le (by assumption) (by decide) | lia)) hB hdL fun h₂ tk₂ X₂ O₂ b₂ => ?_
  try dsimp only at b₂ ⊢
  repeat walk_at "sky_m0"
  refine h _ _ l (fun b o n e => b₂ b o n (kp _ _ (k₁ _ _ e))) fl (hla.at fun o e => b₂ _ _ (Ne.symm hdl) e) O₂
end
theorem Ob.butl {h h' : Heap} {x C dx : Addr} {m : Str → Option Value} {z : Nat} {l : List Addr} (O : Ob h x C dx m z) (k : ButL l h h') (n1 : x ∉ l) (n2 : dx ∉ l) : Ob h' x C dx m z :=
  ⟨k _ _ n1 O.1, let ⟨o, es, ep, a, b, b2, b3, b4⟩ := O.2; ⟨o, es, ep, k _ _ n2 a, b, b2, b3, b4⟩⟩
theorem FreeL.frame {w : World} {h h₁ : Heap} {l : List Addr} {L : Addr} {m : Str → Option Value} (f : FreeL w h l) (F : Fz h L h₁ m) : ∃ B, Fm w [] B L h₁ m ∧ (∀ x ∈ l, B.get? x = none) ∧ ButL l h B := by
  obtain ⟨B, W, k, n, back⟩ := f.hide
  exact ⟨B, Fm.of W (F.weaken k), n, back⟩
section
variable {prog : Program} {w : World} {A : Around} {E : Value → Shared → Prop} {s : Shared} {B : Heap} {L : Addr} {m : Str → Option Value}
theorem wm_field {σh : Heap} {σg : Array GenState} {σd : Drawn} {σt : Nat} {σo : OsState} {x dx : Addr} {mm : Str → Option Value} {z : Nat} {name : Str} {v : Value} {expr : Bool} {Q : Value → Shared → Prop} (X : Fm w [] B L σh m) (O : Ob σh x 577 dx mm z) (hz : z ≤ 90) (hf : findIn (kHead.heap_1 w.params) (.ref 577) name = some none) (hl : mm name = some v) (hv : handedIn v = true) (h : ∀ tk, Q v ⟨σh, σg, σd, tk, σo⟩) :
    wpAny (model prog w) A (getAttr (.ref x) name expr) Q E ⟨σh, σg, σd, σt, σo⟩ :=
  get_field X.Wh (Kept.refl _) (O.inst (by (first | exact Nat.le_trans (by assumption) (by decide) | lia))) (made_plain w.params 577 (.inl rfl) name) (made_checks w.params 577 (.inl rfl)).2.2 hf hl hv (h _)
theorem add_section {σh : Heap} {σg : Array GenState} {σd : Drawn} {σt : Nat} {σo : OsState} {x dx ls r dr : Addr} {mm : Str → Option Value} {z : Nat} {b : Bool} {rx ry rw rl : Int} {rid : Value} {R : Result → Shared → Prop} (W : Wd w σh) (hf : FreeL w σh [dr, ls]) (O : Ob σh x 577 dx mm z) (hz : z ≤ 90) (hm : mm "_merge" = some (.bool b)) (hs : mm "_sections" = some (.ref ls)) (hl : σh.PlainList ls #[])
    (Rc : RectAt σh r dr rx ry rw rl rid) (hdd : dx ≠ dr) (hxd : x ≠ dr) (Ro : Rm A 4 40) (h : ∀ h' tk, ButL [dr, ls] σh h' → R (.ok (.ret .none)) ⟨h', σg, σd, tk, σo⟩) :
    codeAny (model prog w) A (.call (.ref 427) ⟨[.ref x, .ref r], []⟩) R ⟨σh, σg, σd, σt, σo⟩ := by
  have Ro : Rm A (3 + 1) (30 + 3) := Ro.le (by decide) (by decide)
  refine' code_fnC [("self", .ref x), ("section", .ref r)] ?k0 ?kk ?k1 ?k2 ?k3 ?k4 ?k5 ?kc ?ki ?k8 ?k9 ?k10 ?k11 ?k12 ?_
  case k0 => assumption
  case kk => exact Kept.refl _
  case k1 => assumption
  case k2 => k_is
  case k3 => k_is
  case k4 => rfl
  case k5 => rfl
  case kc => rfl
  case ki =>
    intro x hx
    rcases List.mem_cons.mp hx with rfl | hx
    · exact .inl rfl
    rw [List.mem_singleton.mp hx]; exact .inr ⟨rfl, rfl⟩
  case k8 => rfl
  case k9 => rfl
  case k10 => rfl
  case k11 => rfl
  case k12 => rfl
  intro A' L env h₁ tk R' V hcode F hc hpw
  try dsimp only at V F hc hpw
  obtain ⟨hcs, fs, ns⟩ := hc "section" (L + 1) rfl
  replace hcs : h₁.IsCell (L + 1) (some (.ref r)) := hcs
  clear hc hpw hcode
  obtain ⟨B, X, hB, back⟩ := hf.frame F
  have k₁ := F.keep
  have hLs : σh.get? L = none := F.hid
  have old : ∀ b o, σh.get? b = some o → b ≠ L ∧ b ≠ L + 1 := fun b o e => ⟨ne_of_get e hLs, ne_of_get e fs⟩
  clear F
  obtain ⟨rh, mR, xR, yR, wR, lR, NR, e1, e2, e3, e4, e5, e6⟩ := id Rc
  obtain ⟨oR, esR, epR, hoR, -⟩ := id NR
  obtain ⟨nl, el⟩ := id hl
  have drL := (old _ _ hoR).1
  have lsL := (old _ _ el).1
  repeat walk_at "sky_m0"
  refine m_cell V rfl rfl hcs ?_
  refine set_inst1 X.W X.keep (k₁ _ _ rh) (NR.kept k₁) (by decide) e5 (by k_is) (by k_is) (by k_is) (by k_is) fun h₂ tk₂ N₂ sb₂ => ?_
  try dsimp only at N₂ sb₂ ⊢
  have b₂ := But.of_same sb₂
  have X₂ := X.bute b₂ drL (hB _ (.head _))
  have hcs₂ := IsCell.but hcs b₂ (Ne.symm (old _ _ hoR).2)
  have O₂ := (O.kept k₁).bute b₂ hxd hdd
  have dsl : ls ≠ dr := fun q => by rw [q, hoR] at el; cases el; obtain ⟨o, _, _, e, d, -⟩ := NR; rw [hoR] at e; cases e; cases d
  have l₂ := (hl.at (k₁ _)).at fun o e => b₂ _ o dsl e
  clear X hcs
  repeat walk_at "sky_m0"
  (((try (with_reducible first | refine Next.next (by assumption) ?_ | refine Next.ret (by assumption) ?_ | refine Next.cont (by assumption) ?_ | refine Next.brk (by assumption) ?_ | refine IfK.go (by assumption) ?_ | refine AsK.go (by assumption) ?_)); (with_reducible show wpAny _ _ (storeName _ _ _) _ _ _); refine m_store (by assumption) (by assumption) (by exact rfl) ?_))
  intro h₃ tkσ X₃ l₃' b₃
  try dsimp only at l₃' b₃ ⊢
  obtain ⟨odx, _, _, hodx, -⟩ := id O.2
  have O₃ := O₂.bute b₃ (old _ _ O.1).1 (old _ _ hodx).1
  have l₃ := l₃' _ _ l₂
  have hcs₃ := IsCell.but hcs₂ b₃ ns
  have dxr := hdd
  clear X₂ hcs₂ O₂ l₂ l₃'
  have fin : ∀ h₄, But ls h₃ h₄ → ButL [dr, ls] σh h₄ := fun h₄ b₄ b o nb e =>
    b₄ b o (fun q => nb (by rw [q]; simp)) (b₃ b o (old b o e).1 (b₂ b o (fun q => nb (by rw [q]; simp)) (k₁ b o e)))
  repeat (with_reducible first | refine Next.next (by assumption) ?_ | refine Next.ret (by assumption) ?_ | refine Next.cont (by assumption) ?_ | refine Next.brk (by assumption) ?_ | refine IfK.go (by assumption) ?_ | refine AsK.go (by assumption) ?_)
  refine wpAny_execs_cons (wpAny_While ?_)
  refine codeAny_whileLoop (fun _ s' => ∃ tk, s' = ⟨h₃, σg, σd, tk, σo⟩) ?_ 0 ⟨_, rfl⟩
  rintro n s' ⟨tk₃, rfl⟩
  generalize notedBy (model prog w) A' env _ = EE
  repeat walk_at "sky_m0"
  refine wm_field X₃ O₃ hz (by k_is) hm rfl fun tk₄ => ?_
  try dsimp only
  repeat walk_at "sky_m0"
  cases b with
  | false =>
    repeat walk_at "sky_m0"
    refine wm_field X₃ O₃ hz (by k_is) hs rfl fun tk₆ => ?_
    try dsimp only
    refine meth_append l₃ ?_
    try dsimp only
    repeat walk_at "sky_m0"
    refine m_cell V rfl rfl hcs₃ ?_
    repeat walk_at "sky_m0"
    refine app_plain l₃ (by decide) fun h₄ l₄ b₄ => ?_
    try dsimp only at b₄ ⊢
    have X₄ := X₃.bute b₄ lsL (hB _ (.tail _ (.head _)))
    repeat walk_at "sky_m0"
    exact h h₄ _ (fin h₄ b₄)
  | true =>
    repeat walk_at "sky_m0"
    refine wm_field X₃ O₃ hz (by k_is) hs rfl fun tk₅ => ?_
    try dsimp only
    refine wpAny_truthy_list l₃.isList (by decide) ?_
    try dsimp only
    (try (with_reducible first | refine Next.next (by assumption) ?_ | refine Next.ret (by assumption) ?_ | refine Next.cont (by assumption) ?_ | refine Next.brk (by assumption) ?_ | refine IfK.go (by assumption) ?_ | refine AsK.go (by assumption) ?_))
    refine ite_f ?_
    repeat walk_at "sky_m0"
    refine wm_field X₃ O₃ hz (by k_is) hs rfl fun tk₆ => ?_
    try dsimp only
    refine meth_append l₃ ?_
    try dsimp only
    repeat walk_at "sky_m0"
    refine m_cell V rfl rfl hcs₃ ?_
    repeat walk_at "sky_m0"
    refine app_plain l₃ (by decide) fun h₄ l₄ b₄ => ?_
    try dsimp only at b₄ ⊢
    have X₄ := X₃.bute b₄ lsL (hB _ (.tail _ (.head _)))
    repeat walk_at "sky_m0"
    exact h h₄ _ (fin h₄ b₄)
end
section
variable {prog : Program} {w : World} {A : Around} {E : Value → Shared → Prop} {s : Shared}
theorem wm_meth {B : Heap} {L : Addr} {m : Str → Option Value} {x dx f : Addr} {mm : Str → Option Value} {z : Nat} {name : Str} {pl : Sem Bool} {Q : Value × List Value → Shared → Prop} (X : Fm w [] B L s.heap m) (O : Ob s.heap x 577 dx mm z) (hz : z ≤ 90) (hf : findIn (kHead.heap_1 w.params) (.ref 577) name = some (some (.ref f))) (ht : isFn (kHead.heap_1 w.params) (.ref f) = true)
    (hl : mm name = none) (h : Q (.ref f, [.ref x]) s) : wpAny (model prog w) A (getMethod (.ref x) name pl) Q E s :=
  get_meth X.Wh (Kept.refl _) (O.inst (by (first | exact Nat.le_trans (by assumption) (by decide) | lia))) (made_plain w.params 577 (.inl rfl) name) hf ht hl h
theorem reset_485 {σh : Heap} {σg : Array GenState} {σd : Drawn} {σt : Nat} {σo : OsState} {x dx : Addr} {mm : Str → Option Value} {z : Nat} {b : Bool} {tw th : Tok} {R : Result → Shared → Prop} (W : Wd w σh) (hf : Free w σh dx) (O : Ob σh x 577 dx mm z) (hz : z < 70) (hm : mm "_merge" = some (.bool b)) (hw : mm "width" = some (.int 1 tw)) (hh : mm "height" = some (.int 1 th)) (hn : mm "_add_section" = none) (Ro : Rm A 8 80)
    (h : ∀ h' tk mm', But dx σh h' → Ob h' x 577 dx mm' (z + 2) → (∀ n : Str, n ≠ "rectangles" → n ≠ "_sections" → mm' n = mm n) → R (.ok (.ret .none)) ⟨h', σg, σd, tk, σo⟩) :
    codeAny (model prog w) A (.call (.ref 485) ⟨[.ref x], []⟩) R ⟨σh, σg, σd, σt, σo⟩ := by
  have Ro : Rm A (7 + 1) (70 + 3) := Ro.le (by decide) (by decide)
  ((refine' code_fn ([("self", .ref x)]) ?k0 ?kk ?k1 ?k2 ?k3 ?k4 ?k5 ?k6 ?k7 ?k8 ?k9 ?k10 ?k11 ?k12 ?_); (case k0 => assumption); (case kk => (first | assumption | exact Fz.keep (by assumption) | exact Kept.refl _)); (case k2 => k_is); (case k3 => k_is); (case k4 => rfl); (case k5 => exact binds_eq rfl); (case k6 => rfl); (case k7 => rfl); (case k8 => rfl); (case k9 => rfl); (case k10 => rfl); (case k11 => rfl); (case k12 => rfl); (case k1 => assumption); intro A' L env h₁ R' V F; (try dsimp only at V F); (try dsimp only))
  obtain ⟨B, X, hB, back⟩ := hf.frame F
  have k₁ := F.keep
  have hdL : dx ≠ L := O.2.ne F.hid
  have hxL : x ≠ L := ne_of_get O.1 F.hid
  have O₀ := O
  replace O := O.kept k₁
  clear F
  repeat walk_at "sky_m0"
  refine mk_super X.W X.keep O.1 (by k_is) (by k_is) fun so h₂ k₂ nso hso => ?_
  try dsimp only at k₂ nso ⊢
  have X₂ := X.step k₂
  have O₂ := O.kept k₂
  clear X O nso
  repeat walk_at "sky_m0"
  refine super_meth X₂.W X₂.keep hso O₂.1 (by ks_is) (by k_is) (by k_is) (by decide) fun q h₃ tk₃ k₃ nq hq => ?_
  try dsimp only at k₃ nq ⊢
  have X₃ := X₂.step k₃
  have O₃ := O₂.kept k₃
  clear X₂ O₂ hso
  refine callWith_m0 X₃.W X₃.keep hq (by k_is) ?_
  refine reset_398 (.inl rfl) X₃.Wh ⟨B, X₃.W, X₃.keep, hB⟩ O₃ (by (first | exact Nat.lt_of_lt_of_le (by assumption) (by decide) | lia)) (R'.le (by decide) (by decide)) fun h₄ tk₄ l b₄ nl hl O₄ => ?_
  try dsimp only at b₄ nl ⊢
  have X₄ := X₃.bute b₄ hdL hB
  clear X₃ O₃ hq nq hl nl
  repeat walk_at "sky_m0"
  refine wpAny_List ?_
  repeat walk_at "sky_m0"
  refine ⟨Nat.zero_le _, ?_⟩
  have kp := Kept.push h₄ { cls := .type "list", data := .seq #[] }
  have hla := push_list h₄ []
  have fl : h₄.get? h₄.objs.size = none := get?_size _
  have X₅ := X₄.step kp
  have O₅ := O₄.kept kp
  have hdl : dx ≠ h₄.objs.size := O₄.2.ne fl
  have hxl : x ≠ h₄.objs.size := ne_of_get O₄.1 fl
  have hLl : h₄.objs.size ≠ L := X₄.F.ne fl
  have fB : B.get? h₄.objs.size = none := X₄.fresh fl
  clear X₄ O₄ fl
  generalize h₄.objs.size = ls at hla hdl hxl hLl fB ⊢
  generalize h₄.push { cls := .type "list", data := .seq #[] } = h₅ at kp hla X₅ O₅ ⊢
  repeat walk_at "sky_m0"
  refine ob_set X₅ O₅ (.inl rfl) (by decide) (by (first | lia | omega)) hB hdL fun h₆ tk₆ X₆ O₆ b₆ => ?_
  try dsimp only at b₆ ⊢
  have l₆ := hla.at fun o e => b₆ _ o (Ne.symm hdl) e
  clear X₅ O₅ hla
  repeat walk_at "sky_m0"
  refine wm_meth X₆ O₆ (by (first | lia | omega)) (f := 427) (by k_is) (by k_is) ?_ ?_
  · exact hn
  try dsimp only
  repeat walk_at "sky_m0"
  refine wm_field X₆ O₆ (by (first | lia | omega)) (by k_is) (v := .int 1 tw) ?_ rfl fun tk₇ => ?_
  · exact hw
  try dsimp only
  repeat walk_at "sky_m0"
  refine wm_field X₆ O₆ (by (first | lia | omega)) (by k_is) (v := .int 1 th) ?_ rfl fun tk₈ => ?_
  · exact hh
  try dsimp only
  repeat walk_at "sky_m0"
  refine new_rect X₆.Wh (by decide) (by decide) (R'.le (by decide) (by decide)) fun r dr h₇ tk₉ k₇ nr ndr Rc => ?_
  try dsimp only at k₇ nr ndr ⊢
  have X₇ := X₆.step k₇
  have O₇ := O₆.kept k₇
  have l₇ := l₆.at (k₇ _)
  have hdr : dx ≠ dr := O₆.2.ne ndr
  have hxr : x ≠ dr := ne_of_get O₆.1 ndr
  have hlr : ls ≠ dr := by obtain ⟨n, e⟩ := l₆; exact ne_of_get e ndr
  have hLr : dr ≠ L := X₆.F.ne ndr
  have fr : B.get? dr = none := X₆.fresh ndr
  clear X₆ O₆ l₆ nr ndr
  repeat walk_at "sky_m0"
  refine wpAny_call (add_section X₇.Wh ⟨B, X₇.W, X₇.keep, fun y hy => ?_⟩ O₇ (by (first | lia | omega)) (b := b) ?_ ?_ l₇ Rc hdr hxr (R'.le (by decide) (by decide)) fun h₈ tk₁₀ b₈ => ?_)
  · rcases List.mem_cons.mp hy with rfl | hy
    · exact fr
    · rw [List.mem_singleton.mp hy]; exact fB
  · exact hm
  · exact if_pos rfl
  try dsimp only at b₈ ⊢
  have O₈ := O₇.butl b₈ (by simp [hxr, hxl]) (by simp [hdr, hdl])
  repeat walk_at "sky_m0"
  refine h h₈ _ _ (fun b' o n e => ?_) O₈ (fun n n1 n2 => (if_neg n2).trans (if_neg n1))
  have e4 := kp _ _ (b₄ b' o n (k₃ _ _ (k₂ _ _ (k₁ _ _ e))))
  refine b₈ b' o (fun q => ?_) (k₇ _ _ (b₆ b' o n e4))
  have e5 := back b' o (by simpa using n) e
  rcases List.mem_cons.mp q with q | q
  · rw [q, fr] at e5; cases e5
  · rw [List.mem_singleton.mp q, fB] at e5; cases e5
/- what a waste manager is to the skyline -/
inductive WmAt (h : Heap) (x dx : Addr) (z : Nat) : Prop
  | mk (mm : _) (b : _) (tw : _) (th : _) (f1 : Ob h x 577 dx mm z) (f2 : mm "_merge" = some (.bool b)) (f3 : mm "width" = some (.int 1 tw)) (f4 : mm "height" = some (.int 1 th)) (f5 : mm "_add_section" = none) (f6 : mm "reset" = none) (f7 : mm "_skyline" = none) (f8 : mm "start" = none) : WmAt h x dx z
theorem WmAt.kept {h h' : Heap} {x dx : Addr} {z : Nat} (O : WmAt h x dx z) (k : Kept h h') : WmAt h' x dx z := let ⟨mm, b, tw, th, a, r1, r2, r3, r4, r5, r6, r7⟩ := O; ⟨mm, b, tw, th, a.kept k, r1, r2, r3, r4, r5, r6, r7⟩
theorem WmAt.bute {h h' : Heap} {x dx a : Addr} {z : Nat} (O : WmAt h x dx z) (k : But a h h') (n1 : x ≠ a) (n2 : dx ≠ a) : WmAt h' x dx z := let ⟨mm, b, tw, th, o, r1, r2, r3, r4, r5, r6, r7⟩ := O; ⟨mm, b, tw, th, o.bute k n1 n2, r1, r2, r3, r4, r5, r6, r7⟩
theorem WmAt.has {h : Heap} {x dx : Addr} {z : Nat} (O : WmAt h x dx z) : (∃ o, h.get? x = some o) ∧ ∃ o, h.get? dx = some o := let ⟨_, _, _, _, o, _, _, _, _, _, _, _⟩ := O; ⟨⟨_, o.1⟩, let ⟨o, _, _, e, _, _, _, _⟩ := o.2; ⟨o, e⟩⟩
theorem reset_574 {σh : Heap} {σg : Array GenState} {σd : Drawn} {σt : Nat} {σo : OsState} {x dx : Addr} {z : Nat} {R : Result → Shared → Prop} (W : Wd w σh) (hf : Free w σh dx) (O : WmAt σh x dx z) (hz : z < 60) (Ro : Rm A 10 100)
    (h : ∀ h' tk, But dx σh h' → WmAt h' x dx (z + 3) → R (.ok (.ret .none)) ⟨h', σg, σd, tk, σo⟩) :
    codeAny (model prog w) A (.call (.ref 574) ⟨[.ref x], []⟩) R ⟨σh, σg, σd, σt, σo⟩ := by
  have Ro : Rm A (9 + 1) (90 + 3) := Ro.le (by decide) (by decide)
  obtain ⟨mm, b, tw, th, O, hm, hw, hh, hn, hn2, hn3, hn4⟩ := O
  ((refine' code_fn ([("self", .ref x)]) ?k0 ?kk ?k1 ?k2 ?k3 ?k4 ?k5 ?k6 ?k7 ?k8 ?k9 ?k10 ?k11 ?k12 ?_); (case k0 => assumption); (case kk => (first | assumption | exact Fz.keep (by assumption) | exact Kept.refl _)); (case k2 => k_is); (case k3 => k_is); (case k4 => rfl); (case k5 => exact binds_eq rfl); (case k6 => rfl); (case k7 => rfl); (case k8 => rfl); (case k9 => rfl); (case k10 => rfl); (case k11 => rfl); (case k12 => rfl); (case k1 => assumption); intro A' L env h₁ R' V F; (try dsimp only at V F); (try dsimp only))
  obtain ⟨B, X, hB, back⟩ := hf.frame F
  have k₁ := F.keep
  have hdL : dx ≠ L := O.2.ne F.hid
  replace O := O.kept k₁
  clear F
  repeat walk_at "sky_m0"
  refine mk_super X.W X.keep O.1 (by k_is) (by k_is) fun so h₂ k₂ nso hso => ?_
  try dsimp only at k₂ nso ⊢
  have X₂ := X.step k₂
  have O₂ := O.kept k₂
  clear X O nso
  repeat walk_at "sky_m0"
  refine super_meth X₂.W X₂.keep hso O₂.1 (by ks_is) (by k_is) (by k_is) (by decide) fun q h₃ tk₃ k₃ nq hq => ?_
  try dsimp only at k₃ nq ⊢
  have X₃ := X₂.step k₃
  have O₃ := O₂.kept k₃
  clear X₂ O₂ hso
  refine callWith_m0 X₃.W X₃.keep hq (by k_is) ?_
  refine reset_485 X₃.Wh ⟨B, X₃.W, X₃.keep, hB⟩ O₃ (by (first | exact Nat.lt_of_lt_of_le (by assumption) (by decide) | lia)) hm hw hh hn (R'.le (by decide) (by decide)) fun h₄ tk₄ m₄ b₄ O₄ hm₄ => ?_
  try dsimp only at b₄ ⊢
  have X₄ := X₃.bute b₄ hdL hB
  clear X₃ O₃ hq nq
  repeat walk_at "sky_m0"
  refine wpAny_List ?_
  repeat walk_at "sky_m0"
  refine ⟨Nat.zero_le _, ?_⟩
  have kp := Kept.push h₄ { cls := .type "list", data := .seq #[] }
  have X₅ := X₄.step kp
  have O₅ := O₄.kept kp
  clear X₄ O₄
  generalize h₄.objs.size = ls
  generalize h₄.push { cls := .type "list", data := .seq #[] } = h₅ at kp X₅ O₅ ⊢
  repeat walk_at "sky_m0"
  refine ob_set X₅ O₅ (.inl rfl) (by decide) (by (first | lia | omega)) hB hdL fun h₆ tk₆ X₆ O₆ b₆ => ?_
  try dsimp only at b₆ ⊢
  repeat walk_at "sky_m0"
  refine h h₆ _ (fun b' o n e => b₆ b' o n (kp _ _ (b₄ b' o n (k₃ _ _ (k₂ _ _ (k₁ _ _ e)))))) ⟨_, b, tw, th, O₆, ?_, ?_, ?_, ?_, ?_, ?_, ?_⟩
  · exact (if_neg (by decide)).trans ((hm₄ _ (by decide) (by decide)).trans hm)
  · exact (if_neg (by decide)).trans ((hm₄ _ (by decide) (by decide)).trans hw)
  · exact (if_neg (by decide)).trans ((hm₄ _ (by decide) (by decide)).trans hh)
  · exact (if_neg (by decide)).trans ((hm₄ _ (by decide) (by decide)).trans hn)
  · exact (if_neg (by decide)).trans ((hm₄ _ (by decide) (by decide)).trans hn2)
  · exact (if_neg (by decide)).trans ((hm₄ _ (by decide) (by decide)).trans hn3)
  · exact (if_neg (by decide)).trans ((hm₄ _ (by decide) (by decide)).trans hn4)
end
section
variable {prog : Program} {w : World} {A : Around} {E : Value → Shared → Prop} {s : Shared} {B : Heap}
/- super(..).name, bound -/
theorem super_attr {D x C dx so f2 : Addr} {name : Str} {expr : Bool} {od : Option Addr} {fd : Data} {osl : Array (Option Value)} {Q : Value → Shared → Prop} (W : Wd w B) (k : Kept B s.heap) (hso : s.heap.get? so = some (superObj D x C)) (hx : s.heap.get? x = some (instObj C dx))
    (hm : ks_superIn (kHead.heap_1 w.params) C D name = some (some (.ref f2))) (ho : (kHead.heap_1 w.params).lookup f2 = some ⟨.type "function", od, fd, osl⟩) (hc : isClsIn (kHead.heap_1 w.params) C = true) (hn : (name == ("__class__" : Str)) = false)
    (h : ∀ q h' tk, Kept s.heap h' → s.heap.get? q = none → h'.get? q = some (methodObj (.ref f2) (.ref x)) → Q (.ref q) { s with heap := h', toks := tk }) : wpAny (model prog w) A (getAttr (.ref so) name expr) Q E s := by
  have X := (W.keeps k).K
  obtain ⟨sh, sg, sd, st, sos⟩ := s
  unfold isClsIn at hc
  obtain ⟨cd, hcd⟩ := Option.isSome_iff_exists.mp hc
  have hxC : x ≠ C := by
    intro q
    unfold clsIn at hcd
    split at hcd
    · rename_i hk
      have := X _ _ hk
      try dsimp only at hx
      rw [← q, hx] at this
      cases this
    · cases hcd
  unfold ks_superIn at hm
  rw [hcd] at hm
  have hT : ∀ t', (⟨sh, sg, sd, t', sos⟩ : Shared).TypeIs (.ref so) "super" := fun _ => ⟨_, hso, rfl⟩
  unfold getAttr getAttrBy
  refine wpAny_bind (wpAny_mkText (wpAny_holding (wpAny_bind (wpAny_typeOf (hT _) (wpAny_bind (wpAny_of_eq F.ks_slot_super_ga.lookup ?_))))))
  show wpAny _ _ (getAttrByItsOwn (.ref so) (.str name st) (.type "super") (.builtin "super.__getattribute__") true expr) _ _ _
  unfold getAttrByItsOwn hookBefore callGetattribute boundAndCalled
  refine wpAny_bind (wpAny_of_eq (show (if onTheHeap (.type "super") then typeLookup (.type "super") "__getattr__" else pure none) = pure none from rfl) ?_)
  refine wpAny_bind (wpAny_attempt (wpAny_holding ?_))
  rw [if_neg (show ¬ ((expr && onTheHeap (.builtin "super.__getattribute__")) = true) by rw [show onTheHeap (.builtin "super.__getattribute__") = false from rfl, Bool.and_false]; decide)]
  show wpAny _ _ (bindSpecial (.builtin "super.__getattribute__") (.ref so) >>= _) _ _ _
  refine wpAny_bind (wpAny_of_eq (F.ks_slot_super_ga.bind _) ?_)
  refine wpAny_mono (Q := fun v s' => v = .ref sh.objs.size ∧ s' = ⟨sh.push { cls := .type "method", data := .fields #[.ref f2, .ref x] }, sg, sd, st + 1, sos⟩) (E := fun _ _ => False)
    (wpAny_call_entry F.ks_slot_super_ga (hT _) F.ks_entry_super_ga (ks_wpAny_super_ga hso (no_party X) (l₀ := cd.mro) (fun A Q E s k q => wpAny_bind ((looks_clsIn X hcd) A _ E s k (wpAny_pure q))) rfl X hm (X _ _ ho) rfl hxC hn ⟨_, rfl, rfl, rfl⟩) (F.ks_gaArgs_super _ _)) (fun v s' hv => ?_) fun _ _ z => z.elim
  obtain ⟨rfl, rfl⟩ := hv
  exact wpAny_pure (h _ _ _ (fun b o e => Heap.get?_push_of_some _ e) (get?_size _) (Heap.get?_push_size _ rfl))
theorem star_callK {M : Model} {A : Around} {E : Value → Shared → Prop} {s : Shared} {env : Env} {o : PySem.Expr} {name : Str} {apos pos : Pos} {args : List PySem.Expr} {kws : List Keyword} {Q : Value → Shared → Prop}
    (h : wpAny M A (eval o env) (fun ov s₁ => wpAny M A (getAttr ov name true) (fun f s₂ => wpAny M A (callWith pos f [] (backTo pos (starEach args env)) (backToKw pos (keywordEach kws env))) Q E s₂) E s₁) E s)
    (he : eval (.Call (.Attribute o name apos) args kws pos) env = (do
      let ov ← eval o env
      standAt apos.atName
      let (f, first) ← holding [ov] (do pure (← getAttr ov name true, []))
      let callPos ← pure pos
      callWith callPos f first (backTo pos (starEach args env)) (backToKw pos (keywordEach kws env))) := by rfl) :
    wpAny M A (eval (.Call (.Attribute o name apos) args kws pos) env) Q E s := by
  rw [he]
  refine wpAny_bind (wpAny_mono h (fun ov s₁ h₁ => wpAny_bind (wpAny_standAt (wpAny_bind (wpAny_holding (wpAny_bind (wpAny_mono h₁ (fun fx s₂ h₂ => ?_) fun _ _ x => x)))))) fun _ _ x => x)
  exact wpAny_pure (wpAny_bind (wpAny_pure h₂))
end
section
variable {prog : Program} {w : World} {A : Around} {E : Value → Shared → Prop} {s : Shared}
theorem init_319 {σh : Heap} {σg : Array GenState} {σd : Drawn} {σt : Nat} {σo : OsState} {x C dx fr : Addr} {mm : Str → Option Value} {z : Nat} {wv hv : Int} {tw th : Tok} {rot : Bool} {ex : List (Str × Value)} {R : Result → Shared → Prop} (hex : ex = [] ∨ ∃ v, ex = [(("merge" : Str), v)]) (hC : MadeC C) (W : Wd w σh) (hf : Free w σh dx) (O : Ob σh x C dx mm z) (hz : z < 60) (hw0 : 0 ≤ wv) (hh0 : 0 ≤ hv)
    (hr1 : findIn (kHead.heap_1 w.params) (.ref C) "reset" = some (some (.ref fr))) (hr2 : isFn (kHead.heap_1 w.params) (.ref fr) = true) (hr3 : mm "reset" = none) (hr4 : keepIn (kHead.heap_1 w.params) (.ref fr) = true) (Ro : Rm A 14 140)
    (h : ∀ A' h' tk mm', Rm A' 13 130 → But dx σh h' → Ob h' x C dx mm' (z + 6) → (∃ t, mm' "width" = some (.int wv t)) → (∃ t, mm' "height" = some (.int hv t)) → mm' "rot" = some (.bool rot) → (∀ n : Str, n ∉ (["width", "height", "rot", "rectangles", "bid", "_surface"] : List Str) → mm' n = mm n) →
      codeAny (model prog w) A' (.call (.ref fr) ⟨[.ref x], []⟩) (fun r s' => match r with | .ok (.ret _) => R (.ok (.ret .none)) s' | _ => False) ⟨h', σg, σd, tk, σo⟩) :
    codeAny (model prog w) A (.call (.ref 319) ⟨[.ref x, .int wv tw, .int hv th, .bool rot], ex⟩) R ⟨σh, σg, σd, σt, σo⟩ := by
  have Ro : Rm A (13 + 1) (130 + 3) := Ro.le (by decide) (by decide)
  refine' code_fnV [("self", .ref x), ("width", .int wv tw), ("height", .int hv th), ("rot", .bool rot), ("bid", .none)] [] ex "args" "kwargs" ?k0 ?kk ?k1 ?k2 ?k3 ?k4 ?k5 ?k6 ?k7 ?kb ?kx ?kz ?kl ?kc ?k8 ?k9 ?k10 ?k11 ?k12 ?_
  case k0 => assumption
  case kk => exact Kept.refl _
  case k1 => assumption
  case k2 => k_is
  case k3 => k_is
  case k4 => rfl
  case k5 => rfl
  case k6 => k_is
  case k7 => rfl
  case kb => rcases hex with rfl | ⟨v, rfl⟩ <;> exact ⟨_, rfl, rfl⟩
  case kx => rcases hex with rfl | ⟨v, rfl⟩ <;> simp
  case kz => decide
  case kl => rfl
  case kc => decide
  case k8 => rfl
  case k9 => rfl
  case k10 => rfl
  case k11 => rfl
  case k12 => rfl
  intro A' L env h₁ tk c d' R' V F hTc hSd hdL hcL nc nd _
  try dsimp only at V F
  obtain ⟨B, X, hB, back⟩ := hf.frame F
  have k₁ := F.keep
  have hdxL : dx ≠ L := O.2.ne F.hid
  replace O := O.kept k₁
  clear F hTc hSd
  repeat walk_at "sky_m0"
  refine ob_set X O hC (by decide) (by (first | exact Nat.lt_of_lt_of_le (by assumption) (by decide) | lia)) hB hdxL fun h₂ tk₂ X₂ O₂ b₂ => ?_
  try dsimp only at b₂ ⊢
  clear X O
  repeat walk_at "sky_m0"
  refine ob_set X₂ O₂ hC (by decide) (by (first | lia | omega)) hB hdxL fun h₃ tk₃ X₃ O₃ b₃ => ?_
  try dsimp only at b₃ ⊢
  clear X₂ O₂
  repeat walk_at "sky_m0"
  refine ob_set X₃ O₃ hC (by decide) (by (first | lia | omega)) hB hdxL fun h₄ tk₄ X₄ O₄ b₄ => ?_
  try dsimp only at b₄ ⊢
  clear X₃ O₃
  repeat walk_at "sky_m0"
  refine wpAny_List ?_
  repeat walk_at "sky_m0"
  refine ⟨Nat.zero_le _, ?_⟩
  have kp := Kept.push h₄ { cls := .type "list", data := .seq #[] }
  have X₅ := X₄.step kp
  have O₅ := O₄.kept kp
  clear X₄ O₄
  generalize h₄.objs.size = ls
  generalize h₄.push { cls := .type "list", data := .seq #[] } = h₅ at kp X₅ O₅ ⊢
  repeat walk_at "sky_m0"
  refine ob_set X₅ O₅ hC (by decide) (by (first | lia | omega)) hB hdxL fun h₆ tk₆ X₆ O₆ b₆ => ?_
  try dsimp only at b₆ ⊢
  clear X₅ O₅
  repeat walk_at "sky_m0"
  refine ob_set X₆ O₆ hC (by decide) (by (first | lia | omega)) hB hdxL fun h₇ tk₇ X₇ O₇ b₇ => ?_
  try dsimp only at b₇ ⊢
  clear X₆ O₆
  repeat walk_at "sky_m0"
  refine new_rect X₇.Wh hw0 hh0 (R'.le (by decide) (by decide)) fun r dr h₈ tk₈ k₈ nr ndr Rc => ?_
  try dsimp only at k₈ nr ndr ⊢
  have X₈ := X₇.step k₈
  have O₈ := O₇.kept k₈
  clear X₇ O₇ nr ndr Rc
  repeat walk_at "sky_m0"
  refine ob_set X₈ O₈ hC (by decide) (by (first | lia | omega)) hB hdxL fun h₉ tk₉ X₉ O₉ b₉ => ?_
  try dsimp only at b₉ ⊢
  clear X₈ O₈
  repeat walk_at "sky_m0"
  refine get_meth X₉.Wh (Kept.refl _) (O₉.inst (by (first | lia | omega))) (made_plain w.params C hC _) hr1 hr2 hr3 ?_
  try dsimp only
  have kall : But dx σh h₉ := fun b o n e => b₉ b o n (k₈ _ _ (b₇ b o n (b₆ b o n (kp _ _ (b₄ b o n (b₃ b o n (b₂ b o n (k₁ _ _ e))))))))
  refine m_cf0 X₉ hr4 ?_
  refine wpAny_call (codeAny_mono (h A' h₉ tk₉ _ R' kall O₉ ⟨tw, ?_⟩ ⟨th, ?_⟩ ?_ fun n hn => ?_) fun r s' z => ?_)
  · ((repeat (first | assumption | exact if_pos rfl | refine (if_neg (by decide)).trans ?_)))
  · ((repeat (first | assumption | exact if_pos rfl | refine (if_neg (by decide)).trans ?_)))
  · ((repeat (first | assumption | exact if_pos rfl | refine (if_neg (by decide)).trans ?_)))
  · simp only [List.mem_cons, List.not_mem_nil, or_false, not_or] at hn
    obtain ⟨n1, n2, n3, n4, n5, n6⟩ := hn
    exact (if_neg n6).trans ((if_neg n5).trans ((if_neg n4).trans ((if_neg n3).trans ((if_neg n2).trans (if_neg n1)))))
  · match r, z with
    | .ok (.ret v), z =>
      repeat walk_at "sky_m0"
      exact z
theorem init_422 {σh : Heap} {σg : Array GenState} {σd : Drawn} {σt : Nat} {σo : OsState} {x dx : Addr} {mm : Str → Option Value} {z : Nat} {t1 t2 : Tok} {rv mv : Bool} {R : Result → Shared → Prop} (W : Wd w σh) (hf : Free w σh dx) (O : Ob σh x 577 dx mm z) (hz : z < 40) (hn1 : mm "reset" = none) (hn2 : mm "_add_section" = none) (hn3 : mm "_skyline" = none) (hn4 : mm "start" = none) (Ro : Rm A 18 180)
    (h : ∀ h' tk, But dx σh h' → WmAt h' x dx (z + 10) → R (.ok (.ret .none)) ⟨h', σg, σd, tk, σo⟩) :
    codeAny (model prog w) A (.call (.ref 422) ⟨[.ref x, .int 1 t1, .int 1 t2], [(("rot" : Str), .bool rv), (("merge" : Str), .bool mv)]⟩) R ⟨σh, σg, σd, σt, σo⟩ := by
  have Ro : Rm A (17 + 1) (170 + 3) := Ro.le (by decide) (by decide)
  refine' code_fnV [("self", .ref x), ("width", .int 1 t1), ("height", .int 1 t2), ("rot", .bool rv), ("merge", .bool mv)] [] [] "args" "kwargs" ?k0 ?kk ?k1 ?k2 ?k3 ?k4 ?k5 ?k6 ?k7 ?kb ?kx ?kz ?kl ?kc ?k8 ?k9 ?k10 ?k11 ?k12 ?_
  case k0 => assumption
  case kk => exact Kept.refl _
  case k1 => assumption
  case k2 => k_is
  case k3 => k_is
  case k4 => rfl
  case k5 => rfl
  case k6 => k_is
  case k7 => rfl
  case kb => exact ⟨_, rfl, rfl⟩
  case kx => simp
  case kz => decide
  case kl => rfl
  case kc => decide
  case k8 => rfl
  case k9 => rfl
  case k10 => rfl
  case k11 => rfl
  case k12 => rfl
  intro A' L env h₁ tk c d' R' V F hTc hSd hdL hcL nc nd dm
  try dsimp only at V F
  obtain ⟨B, X, hB, back⟩ := hf.frame F
  have k₁ := F.keep
  have hdxL : dx ≠ L := O.2.ne F.hid
  have hdc : c ≠ dx := Ne.symm (O.2.ne nc)
  have hdd : d' ≠ dx := Ne.symm (O.2.ne nd)
  replace O := O.kept k₁
  clear F
  repeat walk_at "sky_m0"
  refine ob_set X O (.inl rfl) (by decide) (by (first | exact Nat.lt_of_lt_of_le (by assumption) (by decide) | lia)) hB hdxL fun h₂ tk₂ X₂ O₂ b₂ => ?_
  try dsimp only at b₂ ⊢
  have Tc₂ : TupAt h₂ c #[] := let ⟨n, e⟩ := hTc; ⟨n, b₂ _ _ hdc e⟩
  have Sd₂ := hSd.but b₂ hdd
  clear X O hTc hSd
  repeat walk_at "sky_m0"
  refine star_callK ?_
  repeat walk_at "sky_m0"
  refine mk_super X₂.W X₂.keep O₂.1 (by k_is) (by k_is) fun so h₃ k₃ nso hso => ?_
  try dsimp only at k₃ nso ⊢
  have X₃ := X₂.step k₃
  have O₃ := O₂.kept k₃
  clear X₂ O₂ nso
  repeat walk_at "sky_m0"
  refine super_attr X₃.W X₃.keep hso O₃.1 (by ks_is) (by k_is) (by k_is) (by decide) fun q h₄ tk₄ k₄ nq hq => ?_
  try dsimp only at k₄ nq ⊢
  have X₄ := X₃.step k₄
  have O₄ := O₃.kept k₄
  have Tc₄ := (Tc₂.kept k₃).kept k₄
  have Sd₄ := (Sd₂.kept k₃).kept k₄
  clear X₃ O₃ hso Tc₂ Sd₂
  refine call_kwstar' (P := fun h => MethP (kHead.heap_1 w.params) q 319 (.ref x) h) rfl rfl (keeps_M (by k_is)) ?_
  repeat walk_at "sky_m0"
  refine items_star ?_
  repeat walk_at "sky_m0"
  refine star_tup Tc₄ (by decide) fun h₅ k₅ => ?_
  try dsimp only at k₅ ⊢
  have X₅ := X₄.step k₅
  have O₅ := O₄.kept k₅
  have hq₅ := k₅ _ _ hq
  have Sd₅ := Sd₄.kept k₅
  clear X₄ O₄ Tc₄ Sd₄ hq
  repeat walk_at "sky_m0"
  refine merged_0 (a := d') (fun h' tk' Q' E' kk hq' => ?_) Sd₅ dm fun d₆ h₆ tk₆ k₆ Sd₆ => ?_
  · have X' := X₅.step kk
    refine wpAny_bind ?_
    repeat walk_at "sky_m0"
    exact wpAny_bind (wpAny_standAt (wpAny_pure (hq' _)))
  try dsimp only at k₆ ⊢
  have X₆ := X₅.step k₆
  have O₆ := O₅.kept k₆
  have hq₆ := k₆ _ _ hq₅
  clear X₅ O₅ hq₅ Sd₅
  refine ⟨[], Sd₆, ⟨hq₆, X₆.Wh.K⟩, ?_⟩
  refine wpAny_call (method_call hq₆ ?_)
  refine init_319 (C := 577) (fr := 574) (rot := rv) (.inl rfl) (.inl rfl) X₆.Wh ⟨B, X₆.W, X₆.keep, hB⟩ O₆ (by (first | lia | omega)) (by decide) (by decide) (by k_is) (by k_is) ?_ (by k_is) (R'.le (by decide) (by decide)) fun A₇ h₇ tk₇ m₇ R₇ b₇ O₇ hw₇ hh₇ hr₇ hm₇ => ?_
  · exact (if_neg (by decide)).trans hn1
  try dsimp only at b₇ ⊢
  obtain ⟨tw₇, hw₇⟩ := hw₇
  obtain ⟨th₇, hh₇⟩ := hh₇
  have X₇ := X₆.bute b₇ hdxL hB
  refine reset_574 X₇.Wh ⟨B, X₇.W, X₇.keep, hB⟩ ⟨m₇, mv, tw₇, th₇, O₇, ?_, hw₇, hh₇, ?_, ?_, ?_, ?_⟩ (by (first | lia | omega)) (R₇.le (by decide) (by decide)) fun h₈ tk₈ b₈ W₈ => ?_
  · exact (hm₇ _ (by decide)).trans (if_pos rfl)
  · exact (hm₇ _ (by decide)).trans ((if_neg (by decide)).trans hn2)
  · exact (hm₇ _ (by decide)).trans ((if_neg (by decide)).trans hn1)
  · exact (hm₇ _ (by decide)).trans ((if_neg (by decide)).trans hn3)
  · exact (hm₇ _ (by decide)).trans ((if_neg (by decide)).trans hn4)
  try dsimp only at b₈ ⊢
  repeat walk_at "sky_m0"
  refine h h₈ _ (fun b o n e => b₈ b o n (b₇ b o n (k₆ _ _ (k₅ _ _ (k₄ _ _ (k₃ _ _ (b₂ b o n (k₁ _ _ e)))))))) ?_
  obtain ⟨m8, b8, t8, u8, O8, r81, r82, r83, r84, r85, r86, r87⟩ := W₈
  exact ⟨m8, b8, t8, u8, O8.le (by (first | exact Nat.lt_succ_self _ | lia)), r81, r82, r83, r84, r85, r86, r87⟩
end
section
variable {prog : Program} {w : World} {A : Around} {E : Value → Shared → Prop} {s : Shared}
theorem init_545 {σh : Heap} {σg : Array GenState} {σd : Drawn} {σt : Nat} {σo : OsState} {x dx : Addr} {mm : Str → Option Value} {z : Nat} {rv : Bool} {R : Result → Shared → Prop} (W : Wd w σh) (hf : Free w σh dx) (O : Ob σh x 577 dx mm z) (hz : z < 30) (hn1 : mm "reset" = none) (hn2 : mm "_add_section" = none) (hn3 : mm "_skyline" = none) (hn4 : mm "start" = none) (Ro : Rm A 22 220)
    (h : ∀ h' tk, But dx σh h' → WmAt h' x dx (z + 10) → R (.ok (.ret .none)) ⟨h', σg, σd, tk, σo⟩) :
    codeAny (model prog w) A (.call (.ref 545) ⟨[.ref x], [(("rot" : Str), .bool rv)]⟩) R ⟨σh, σg, σd, σt, σo⟩ := by
  have Ro : Rm A (21 + 1) (210 + 3) := Ro.le (by decide) (by decide)
  have hsz : 1 < σh.objs.size := by
    obtain ⟨mc, ⟨oc, _, _, hoc, -⟩, -⟩ := W.lim
    exact Nat.lt_of_le_of_lt (show 1 ≤ 2 by decide) (Heap.lt_size hoc)
  refine' code_fnV [("self", .ref x), ("rot", .bool rv), ("merge", .bool true)] [] [] "args" "kwargs" ?k0 ?kk ?k1 ?k2 ?k3 ?k4 ?k5 ?k6 ?k7 ?kb ?kx ?kz ?kl ?kc ?k8 ?k9 ?k10 ?k11 ?k12 ?_
  case k0 => assumption
  case kk => exact Kept.refl _
  case k1 => assumption
  case k2 => k_is
  case k3 => k_is
  case k4 => rfl
  case k5 => rfl
  case k6 => k_is
  case k7 => rfl
  case kb => exact ⟨_, rfl, rfl⟩
  case kx => simp
  case kz => decide
  case kl => rfl
  case kc => decide
  case k8 => rfl
  case k9 => rfl
  case k10 => rfl
  case k11 => rfl
  case k12 => rfl
  intro A' L env h₁ tk c d' R' V F hTc hSd hdL hcL nc nd dm
  try dsimp only at V F
  obtain ⟨B, X, hB, back⟩ := hf.frame F
  have k₁ := F.keep
  have hdxL : dx ≠ L := O.2.ne F.hid
  replace O := O.kept k₁
  have hsz₁ : 1 < h₁.objs.size := by
    obtain ⟨mc, ⟨oc, _, _, hoc, -⟩, -⟩ := (W.keeps k₁).lim
    exact Nat.lt_of_le_of_lt (show 1 ≤ 2 by decide) (Heap.lt_size hoc)
  clear F
  repeat walk_at "sky_m0"
  refine star_callK ?_
  repeat walk_at "sky_m0"
  refine mk_super X.W X.keep O.1 (by k_is) (by k_is) fun so h₃ k₃ nso hso => ?_
  try dsimp only at k₃ nso ⊢
  have X₃ := X.step k₃
  have O₃ := O.kept k₃
  clear X O nso
  repeat walk_at "sky_m0"
  refine super_attr X₃.W X₃.keep hso O₃.1 (by ks_is) (by k_is) (by k_is) (by decide) fun q h₄ tk₄ k₄ nq hq => ?_
  try dsimp only at k₄ nq ⊢
  have X₄ := X₃.step k₄
  have O₄ := O₃.kept k₄
  have Tc₄ := (hTc.kept k₃).kept k₄
  have Sd₄ := (hSd.kept k₃).kept k₄
  clear X₃ O₃ hso hTc hSd
  refine call_kwstar' (P := fun h => MethP (kHead.heap_1 w.params) q 422 (.ref x) h) rfl rfl (keeps_M (by k_is)) ?_
  repeat walk_at "sky_m0"
  refine items_star ?_
  repeat walk_at "sky_m0"
  refine star_tup Tc₄ (by decide) fun h₅ k₅ => ?_
  try dsimp only at k₅ ⊢
  have X₅ := X₄.step k₅
  have O₅ := O₄.kept k₅
  have hq₅ := k₅ _ _ hq
  have Sd₅ := Sd₄.kept k₅
  clear X₄ O₄ Tc₄ Sd₄ hq
  have hsz₅ : 1 < h₅.objs.size := by
    obtain ⟨mc, ⟨oc, _, _, hoc, -⟩, -⟩ := X₅.Wh.lim
    exact Nat.lt_of_le_of_lt (show 1 ≤ 2 by decide) (Heap.lt_size hoc)
  repeat walk_at "sky_m0"
  refine merged_kw (a := d') [("rot", _), ("merge", _)] [.bool rv, .bool true] rfl rfl (show [Str.ofString "rot", Str.ofString "merge"].Nodup by decide) (show 2 ≤ 50 by decide) (fun h' tk' Q' E' kk hq' => ?_) (fun h' tk' Q' E' kk hq' => ?_) Sd₅ dm hsz₅ fun d₆ h₆ tk₆ k₆ Sd₆ => ?_
  · have X' := X₅.step kk
    show wpAny _ _ (evalAll [_, _]) _ _ _
    refine evalAll_cons (wpAny_bind ?_)
    repeat walk_at "sky_m0"
    refine wpAny_bind (wpAny_standAt (wpAny_pure ?_))
    refine evalAll_cons (wpAny_bind ?_)
    repeat walk_at "sky_m0"
    refine wpAny_bind (wpAny_standAt (wpAny_pure ?_))
    exact evalAll_nil (hq' _)
  · have X' := X₅.step kk
    refine wpAny_bind ?_
    repeat walk_at "sky_m0"
    exact wpAny_bind (wpAny_standAt (wpAny_pure (hq' _)))
  try dsimp only at k₆ ⊢
  have X₆ := X₅.step k₆
  have O₆ := O₅.kept k₆
  have hq₆ := k₆ _ _ hq₅
  clear X₅ O₅ hq₅ Sd₅
  refine ⟨_, Sd₆, ⟨hq₆, X₆.Wh.K⟩, ?_⟩
  refine wpAny_call (method_call hq₆ ?_)
  refine init_422 (rv := rv) (mv := true) X₆.Wh ⟨B, X₆.W, X₆.keep, hB⟩ O₆ (by (first | exact Nat.lt_of_lt_of_le (by assumption) (by decide) | lia)) hn1 hn2 hn3 hn4 (R'.le (by decide) (by decide)) fun h₇ tk₇ b₇ W₇ => ?_
  try dsimp only at b₇ ⊢
  repeat walk_at "sky_m0"
  exact h h₇ _ (fun b o n e => b₇ b o n (k₆ _ _ (k₅ _ _ (k₄ _ _ (k₃ _ _ (k₁ _ _ e)))))) W₇
theorem new_waste {σh : Heap} {σg : Array GenState} {σd : Drawn} {σt : Nat} {σo : OsState} {rv : Bool} {Q : Value → Shared → Prop} (W : Wd w σh) (R : Rm A 26 260)
    (h : ∀ x dx h' tk, Kept σh h' → σh.get? x = none → σh.get? dx = none → WmAt h' x dx 10 → Q (.ref x) ⟨h', σg, σd, tk, σo⟩) : wpAny (model prog w) A (call (.ref 577) [] [(("rot" : Str), .bool rv)]) Q E ⟨σh, σg, σd, σt, σo⟩ := by
  have R : Rm A (25 + 1) (250 + 6) := R.le (by decide) (by decide)
  ((refine wpAny_call (make_cls (by assumption) (by assumption) (by (first | assumption | exact Fz.keep (by assumption) | exact Kept.refl _)) (by k_is) (by k_is) (by k_is) ?_)))
  intro A₁ x dx h₀ R₁ k₀ hx0 hdx hne hx hN
  refine init_545 (rv := rv) (W.keeps k₀) ⟨σh, W, k₀, hdx⟩ ⟨hx, hN⟩ (by decide) rfl rfl rfl rfl (R₁.le (by decide) (by decide)) fun h' tk b' W' => ?_
  exact ⟨rfl, h x dx h' tk (fun b o e => b' b o (ne_of_get e hdx) (k₀ _ _ e)) hx0 hdx W'⟩
end
section
variable {prog : Program} {w : World} {A : Around} {E : Value → Shared → Prop} {s : Shared}
theorem sky_super (P : Params) : ∀ C, IsSky C → subIn (kHead.heap_1 P) (.ref C) (.ref 664) = some true ∧ ks_superIn (kHead.heap_1 P) C 664 "reset" = some (some (.ref 398)) ∧ ks_superIn (kHead.heap_1 P) C 664 "__init__" = some (some (.ref 319)) ∧ isClsIn (kHead.heap_1 P) C = true := by
  rintro C (rfl | rfl | rfl) <;> exact ⟨by k_is, by ks_is, by ks_is, by k_is⟩
theorem sky_names (P : Params) : ∀ C, IsSky C → findIn (kHead.heap_1 P) (.ref C) "width" = some none ∧ findIn (kHead.heap_1 P) (.ref C) "_waste" = some none ∧ findIn (kHead.heap_1 P) (.ref C) "reset" = some (some (.ref 661)) := by
  rintro C (rfl | rfl | rfl) <;> exact ⟨by k_is, by k_is, by k_is⟩
theorem reset_661 {σh : Heap} {σg : Array GenState} {σd : Drawn} {σt : Nat} {σo : OsState} {x C dx wx dwx : Addr} {mm : Str → Option Value} {z zw : Nat} {Wi : Int} {tw : Tok} {R : Result → Shared → Prop} (hC : IsSky C) (W : Wd w σh) (hf : FreeL w σh [dx, dwx]) (O : Ob σh x C dx mm z) (hz : z < 60) (hw : mm "width" = some (.int Wi tw)) (hwm : mm "_waste" = some (.ref wx)) (hst : mm "start" = none)
    (hW : WmAt σh wx dwx zw) (hzw : zw < 50) (h1 : wx ≠ dx) (h2 : dwx ≠ dx) (Ro : Rm A 12 120)
    (h : ∀ h' tk mm' rl sl a, ButL [dx, dwx] σh h' → Ob h' x C dx mm' (z + 2) → mm' "rectangles" = some (.ref rl) → mm' "_skyline" = some (.ref sl) → (∀ n : Str, n ≠ "rectangles" → n ≠ "_skyline" → mm' n = mm n) → h'.PlainList rl #[] → h'.PlainList sl #[.ref a] → SegAt h' a 0 0 Wi →
      σh.get? rl = none → σh.get? sl = none → rl ≠ sl → R (.ok (.ret .none)) ⟨h', σg, σd, tk, σo⟩) :
    codeAny (model prog w) A (.call (.ref 661) ⟨[.ref x], []⟩) R ⟨σh, σg, σd, σt, σo⟩ := by
  have Ro : Rm A (11 + 1) (110 + 3) := Ro.le (by decide) (by decide)
  ((refine' code_fn ([("self", .ref x)]) ?k0 ?kk ?k1 ?k2 ?k3 ?k4 ?k5 ?k6 ?k7 ?k8 ?k9 ?k10 ?k11 ?k12 ?_); (case k0 => assumption); (case kk => (first | assumption | exact Fz.keep (by assumption) | exact Kept.refl _)); (case k2 => k_is); (case k3 => k_is); (case k4 => rfl); (case k5 => exact binds_eq rfl); (case k6 => rfl); (case k7 => rfl); (case k8 => rfl); (case k9 => rfl); (case k10 => rfl); (case k11 => rfl); (case k12 => rfl); (case k1 => assumption); intro A' L env h₁ R' V F; (try dsimp only at V F); (try dsimp only))
  obtain ⟨B, X, hB, back⟩ := hf.frame F
  obtain ⟨c1, c2, -, c4⟩ := sky_super w.params C hC
  obtain ⟨c5, c6, -⟩ := sky_names w.params C hC
  have k₁ := F.keep
  have hdL : dx ≠ L := O.2.ne F.hid
  have hwL : dwx ≠ L := by obtain ⟨o, e⟩ := hW.has.2; exact ne_of_get e F.hid
  have hxw : x ≠ dwx := by
    obtain ⟨m2, _, _, _, O2, _⟩ := hW
    rintro rfl
    obtain ⟨o, _, _, e, d, _⟩ := O2.2
    rw [O.1] at e; cases e; cases d
  have oldW := hW.has
  have oldd : ∃ o, σh.get? dx = some o := let ⟨o, _, _, e, _, _, _, _⟩ := O.2; ⟨o, e⟩
  have back2 : ∀ b o, b ≠ dx → b ≠ dwx → σh.get? b = some o → B.get? b = some o := fun b o n1 n2 e => back b o (by simp [n1, n2]) e
  replace O := O.kept k₁
  replace hW := hW.kept k₁
  have hB1 := hB dx (.head _)
  have hB2 := hB dwx (.tail _ (.head _))
  clear F
  repeat walk_at "sky_m0"
  refine mk_super X.W X.keep O.1 (by k_is) c1 fun so h₂ k₂ nso hso => ?_
  try dsimp only at k₂ nso ⊢
  have X₂ := X.step k₂
  have O₂ := O.kept k₂
  have W₂ := hW.kept k₂
  clear X O hW nso
  repeat walk_at "sky_m0"
  refine super_meth X₂.W X₂.keep hso O₂.1 c2 (by k_is) c4 (by decide) fun q h₃ tk₃ k₃ nq hq => ?_
  try dsimp only at k₃ nq ⊢
  have X₃ := X₂.step k₃
  have O₃ := O₂.kept k₃
  have W₃ := W₂.kept k₃
  clear X₂ O₂ W₂ hso
  refine callWith_m0 X₃.W X₃.keep hq (by k_is) ?_
  refine reset_398 (.inr hC) X₃.Wh ⟨B, X₃.W, X₃.keep, hB1⟩ O₃ (by (first | exact Nat.lt_of_lt_of_le (by assumption) (by decide) | lia)) (R'.le (by decide) (by decide)) fun h₄ tk₄ rl b₄ nl hl O₄ => ?_
  try dsimp only at b₄ nl ⊢
  have X₄ := X₃.bute b₄ hdL hB1
  have W₄ := W₃.bute b₄ h1 h2
  have k13 := (k₁.trans k₂).trans k₃
  have frl : σh.get? rl = none := by
    cases q : σh.get? rl with
    | none => rfl
    | some o => rw [k13 _ _ q] at nl; cases nl
  have rdx : rl ≠ dx := fun q => by obtain ⟨o, e⟩ := oldd; rw [q, e] at frl; cases frl
  have rdw : rl ≠ dwx := fun q => by obtain ⟨o, e⟩ := oldW.2; rw [q, e] at frl; cases frl
  have rL : rl ≠ L := X₄.ne hl
  clear X₃ O₃ W₃ hq nq
  repeat walk_at "sky_m0"
  refine wpAny_List ?_
  repeat walk_at "sky_m0"
  refine new_pt X₄.Wh (R'.le (by decide) (by decide)) fun p h₅ tk₅ k₅ np Pp => ?_
  try dsimp only at k₅ np ⊢
  have X₅ := X₄.step k₅
  have O₅ := O₄.kept k₅
  repeat walk_at "sky_m0"
  refine get_field X₅.Wh (Kept.refl _) (O₅.inst (by (first | exact Nat.lt_of_lt_of_le (by assumption) (by decide) | lia))) (made_plain w.params C (.inr hC) _) (made_checks w.params C (.inr hC)).2.2 c5 (v := .int Wi tw) ?_ rfl ?_
  · exact (if_neg (by decide)).trans hw
  try dsimp only
  repeat walk_at "sky_m0"
  refine new_seg X₅.Wh Pp (R'.le (by decide) (by decide)) fun a h₆ tk₆ k₆ na Sa => ?_
  try dsimp only at k₆ na ⊢
  have X₆ := X₅.step k₆
  have O₆ := O₅.kept k₆
  have W₆ := (W₄.kept k₅).kept k₆
  have r₆ := (hl.at (k₅ _)).at (k₆ _)
  clear X₄ X₅ O₄ O₅ W₄ hl
  repeat walk_at "sky_m0"
  refine ⟨by show 1 ≤ sizeLine; rw [sizeLine_eq]; (first | exact Nat.succ_pos _ | lia), ?_⟩
  have kp := Kept.push h₆ { cls := .type "list", data := .seq #[.ref a] }
  have hla := push_list h₆ [.ref a]
  have fl6 : h₆.get? h₆.objs.size = none := get?_size _
  have X₇ := X₆.step kp
  have O₇ := O₆.kept kp
  have W₇ := W₆.kept kp
  have r₇ := r₆.at (kp _)
  have S₇ := Sa.kept kp
  have nrs : rl ≠ h₆.objs.size := by obtain ⟨n, e⟩ := r₆; exact ne_of_get e fl6
  have nds : h₆.objs.size ≠ dx := Ne.symm (O₆.2.ne fl6)
  have nws : h₆.objs.size ≠ dwx := by obtain ⟨o, e⟩ := W₆.has.2; exact Ne.symm (ne_of_get e fl6)
  have fsl : σh.get? h₆.objs.size = none := by
    cases q : σh.get? h₆.objs.size with
    | none => rfl
    | some o =>
      exfalso
      have := X₆.keep _ _ (back2 _ _ nds nws q)
      rw [fl6] at this; cases this
  clear X₆ O₆ W₆ r₆ Sa fl6 Pp
  generalize h₆.objs.size = sl at hla nrs nds nws fsl ⊢
  repeat walk_at "sky_m0"
  refine ob_set X₇ O₇ (.inr hC) (by decide) (by (first | lia | omega)) hB1 hdL fun h₈ tk₈ X₈ O₈ b₈ => ?_
  try dsimp only at b₈ ⊢
  have W₈ := W₇.bute b₈ h1 h2
  have r₈ := r₇.at fun o e => b₈ _ o rdx e
  have l₈ := hla.at fun o e => b₈ _ o nds e
  have S₈ := S₇.butd O₇.2 (by exact (if_neg (by decide)).trans hst) (n := "width") (by intro q; have q := ((if_neg (by decide)).trans hw).symm.trans q; cases q) b₈
  clear X₇ O₇ W₇ r₇ hla S₇
  repeat walk_at "sky_m0"
  refine get_field X₈.Wh (Kept.refl _) (O₈.inst (by (first | lia | omega))) (made_plain w.params C (.inr hC) _) (made_checks w.params C (.inr hC)).2.2 c6 (v := .ref wx) ?_ rfl ?_
  · exact (if_neg (by decide)).trans ((if_neg (by decide)).trans hwm)
  try dsimp only
  obtain ⟨mw, bw, tw1, tw2, Ow, w1, w2, w3, w4, w5, w6, w7⟩ := id W₈
  refine wm_meth X₈ Ow (by (first | lia | omega)) (f := 574) (by k_is) (by k_is) w5 ?_
  try dsimp only
  refine m_cf0 X₈ (by k_is) ?_
  refine wpAny_call (reset_574 X₈.Wh ⟨B, X₈.W, X₈.keep, hB2⟩ W₈ (by (first | exact Nat.lt_of_lt_of_le (by assumption) (by decide) | lia)) (R'.le (by decide) (by decide)) fun h₉ tk₉ b₉ W₉ => ?_)
  try dsimp only at b₉ ⊢
  have O₉ := O₈.bute b₉ hxw (Ne.symm h2)
  have r₉ := r₈.at fun o e => b₉ _ o rdw e
  have l₉ := l₈.at fun o e => b₉ _ o nws e
  have S₉ := S₈.butd Ow.2 w7 (n := "width") (by rw [w2]; simp) b₉
  repeat walk_at "sky_m0"
  refine h h₉ _ _ rl sl a (fun b o nb e => ?_) O₉ ((if_neg (by decide)).trans (if_pos rfl)) (if_pos rfl) (fun n n1 n2 => (if_neg n2).trans (if_neg n1)) r₉ l₉ S₉ frl fsl nrs
  have n1 : b ≠ dx := fun q => nb (by rw [q]; simp)
  have n2 : b ≠ dwx := fun q => nb (by rw [q]; simp)
  exact b₉ b o n2 (b₈ b o n1 (kp _ _ (k₆ _ _ (k₅ _ _ (b₄ b o n1 (k13 _ _ e))))))
end
section
variable {prog : Program} {w : World} {A : Around} {E : Value → Shared → Prop} {s : Shared}
theorem init_596 {σh : Heap} {σg : Array GenState} {σd : Drawn} {σt : Nat} {σo : OsState} {x C dx : Addr} {mm : Str → Option Value} {z : Nat} {Wi Hi : Int} {tw th : Tok} {turn : Bool} {R : Result → Shared → Prop} (hC : IsSky C) (W : Wd w σh) (hf : Free w σh dx) (O : Ob σh x C dx mm z) (hz : z < 20) (hw0 : 0 ≤ Wi) (hh0 : 0 ≤ Hi) (hn1 : mm "reset" = none) (hn2 : mm "start" = none) (Ro : Rm A 32 320)
    (h : ∀ h' tk mm' rl sl a tw th, But dx σh h' → Ob h' x C dx mm' 40 → mm' "width" = some (.int Wi tw) → mm' "height" = some (.int Hi th) → mm' "rot" = some (.bool turn) → mm' "_waste_management" = some (.bool false) → mm' "rectangles" = some (.ref rl) → mm' "_skyline" = some (.ref sl) → (∀ n : Str, n ∉ MadeN → mm' n = mm n) → h'.PlainList rl #[] → h'.PlainList sl #[.ref a] → SegAt h' a 0 0 Wi →
      σh.get? rl = none → σh.get? sl = none → rl ≠ sl → R (.ok (.ret .none)) ⟨h', σg, σd, tk, σo⟩) :
    codeAny (model prog w) A (.call (.ref 596) ⟨[.ref x, .int Wi tw, .int Hi th, .bool turn], []⟩) R ⟨σh, σg, σd, σt, σo⟩ := by
  have Ro : Rm A (31 + 1) (310 + 3) := Ro.le (by decide) (by decide)
  refine' code_fnV [("self", .ref x), ("width", .int Wi tw), ("height", .int Hi th), ("rot", .bool turn)] [] [] "args" "kwargs" ?k0 ?kk ?k1 ?k2 ?k3 ?k4 ?k5 ?k6 ?k7 ?kb ?kx ?kz ?kl ?kc ?k8 ?k9 ?k10 ?k11 ?k12 ?_
  case k0 => assumption
  case kk => exact Kept.refl _
  case k1 => assumption
  case k2 => k_is
  case k3 => k_is
  case k4 => rfl
  case k5 => rfl
  case k6 => k_is
  case k7 => rfl
  case kb => exact ⟨_, rfl, rfl⟩
  case kx => simp
  case kz => decide
  case kl => rfl
  case kc => decide
  case k8 => rfl
  case k9 => rfl
  case k10 => rfl
  case k11 => rfl
  case k12 => rfl
  intro A' L env h₁ tk c d' R' V F hTc hSd hdL hcL nc nd dm
  try dsimp only at V F
  obtain ⟨B, X, hB, back⟩ := hf.frame F
  obtain ⟨c1, -, c3, c4⟩ := sky_super w.params C hC
  obtain ⟨-, -, c7⟩ := sky_names w.params C hC
  have k₁ := F.keep
  have hdxL : dx ≠ L := O.2.ne F.hid
  have hdc : c ≠ dx := Ne.symm (O.2.ne nc)
  have hdd : d' ≠ dx := Ne.symm (O.2.ne nd)
  replace O := O.kept k₁
  clear F
  repeat walk_at "sky_m0"
  refine ob_set X O (.inr hC) (by decide) (by (first | exact Nat.lt_of_lt_of_le (by assumption) (by decide) | lia)) hB hdxL fun h₂ tk₂ X₂ O₂ b₂ => ?_
  try dsimp only at b₂ ⊢
  have Tc₂ : TupAt h₂ c #[] := let ⟨n, e⟩ := hTc; ⟨n, b₂ _ _ hdc e⟩
  have Sd₂ := hSd.but b₂ hdd
  clear X O hTc hSd
  repeat walk_at "sky_m0"
  refine wpAny_Call_Name_kw ?_
  repeat walk_at "sky_m0"
  refine callWith_KW0 X₂.Wh.K (by k_is) rfl ?_
  refine kws_cons ?_
  repeat walk_at "sky_m0"
  refine kws_nil ⟨X₂.Wh.K, ?_⟩
  show wpAny _ _ (call (.ref 577) [] [(("rot" : Str), .bool turn)]) _ _ _
  refine new_waste X₂.Wh (R'.le (by decide) (by decide)) fun wx dwx h₃ tk₃ k₃ nwx ndwx Wm₃ => ?_
  try dsimp only at k₃ nwx ndwx ⊢
  have X₃ := X₂.step k₃
  have O₃ := O₂.kept k₃
  have Tc₃ := Tc₂.kept k₃
  have Sd₃ := Sd₂.kept k₃
  have h1 : wx ≠ dx := Ne.symm (O₂.2.ne nwx)
  have h2 : dwx ≠ dx := Ne.symm (O₂.2.ne ndwx)
  have hBw : B.get? dwx = none := X₂.fresh ndwx
  clear X₂ O₂ Tc₂ Sd₂
  repeat walk_at "sky_m0"
  refine ob_set X₃ O₃ (.inr hC) (by decide) (by (first | lia | omega)) hB hdxL fun h₄ tk₄ X₄ O₄ b₄ => ?_
  try dsimp only at b₄ ⊢
  have Tc₄ : TupAt h₄ c #[] := let ⟨n, e⟩ := Tc₃; ⟨n, b₄ _ _ hdc e⟩
  have Sd₄ := Sd₃.but b₄ hdd
  have Wm₄ := Wm₃.bute b₄ h1 h2
  clear X₃ O₃ Tc₃ Sd₃ Wm₃
  repeat walk_at "sky_m0"
  refine star_callK ?_
  repeat walk_at "sky_m0"
  refine mk_super X₄.W X₄.keep O₄.1 (by k_is) c1 fun so h₅ k₅ nso hso => ?_
  try dsimp only at k₅ nso ⊢
  have X₅ := X₄.step k₅
  have O₅ := O₄.kept k₅
  clear X₄ O₄ nso
  repeat walk_at "sky_m0"
  refine super_attr X₅.W X₅.keep hso O₅.1 c3 (by k_is) c4 (by decide) fun q h₆ tk₆ k₆ nq hq => ?_
  try dsimp only at k₆ nq ⊢
  have X₆ := X₅.step k₆
  have O₆ := O₅.kept k₆
  have Tc₆ := (Tc₄.kept k₅).kept k₆
  have Sd₆ := (Sd₄.kept k₅).kept k₆
  have Wm₆ := (Wm₄.kept k₅).kept k₆
  clear X₅ O₅ hso Tc₄ Sd₄ Wm₄
  refine call_kwstar' (P := fun h => MethP (kHead.heap_1 w.params) q 319 (.ref x) h) rfl rfl (keeps_M (by k_is)) ?_
  repeat walk_at "sky_m0"
  refine items_star ?_
  repeat walk_at "sky_m0"
  refine star_tup Tc₆ (by decide) fun h₇ k₇ => ?_
  try dsimp only at k₇ ⊢
  have X₇ := X₆.step k₇
  have O₇ := O₆.kept k₇
  have hq₇ := k₇ _ _ hq
  have Sd₇ := Sd₆.kept k₇
  have Wm₇ := Wm₆.kept k₇
  clear X₆ O₆ Tc₆ Sd₆ hq Wm₆
  have hsz₇ : 1 < h₇.objs.size := by
    obtain ⟨mc, ⟨oc, _, _, hoc, -⟩, -⟩ := X₇.Wh.lim
    exact Nat.lt_of_le_of_lt (show 1 ≤ 2 by decide) (Heap.lt_size hoc)
  repeat walk_at "sky_m0"
  refine merged_kw (a := d') [("merge", _)] [.bool false] rfl rfl (show [Str.ofString "merge"].Nodup by decide) (show 1 ≤ 50 by decide) (fun h' tk' Q' E' kk hq' => ?_) (fun h' tk' Q' E' kk hq' => ?_) Sd₇ dm hsz₇ fun d₈ h₈ tk₈ k₈ Sd₈ => ?_
  · show wpAny _ _ (evalAll [_]) _ _ _
    refine evalAll_cons (wpAny_bind ?_)
    repeat walk_at "sky_m0"
    refine wpAny_bind (wpAny_standAt (wpAny_pure ?_))
    exact evalAll_nil (hq' _)
  · have X' := X₇.step kk
    refine wpAny_bind ?_
    repeat walk_at "sky_m0"
    exact wpAny_bind (wpAny_standAt (wpAny_pure (hq' _)))
  try dsimp only at k₈ ⊢
  have X₈ := X₇.step k₈
  have O₈ := O₇.kept k₈
  have hq₈ := k₈ _ _ hq₇
  have Wm₈ := Wm₇.kept k₈
  clear X₇ O₇ hq₇ Sd₇ Wm₇
  refine ⟨_, Sd₈, ⟨hq₈, X₈.Wh.K⟩, ?_⟩
  refine wpAny_call (method_call hq₈ ?_)
  refine init_319 (C := C) (fr := 661) (rot := turn) (.inr ⟨_, rfl⟩) (.inr hC) X₈.Wh ⟨B, X₈.W, X₈.keep, hB⟩ O₈ (by (first | lia | omega)) hw0 hh0 c7 (by k_is) ?_ (by k_is) (R'.le (by decide) (by decide)) fun A₉ h₉ tk₉ m₉ R₉ b₉ O₉ hw₉ hh₉ hr₉ hm₉ => ?_
  · exact (if_neg (by decide)).trans ((if_neg (by decide)).trans hn1)
  try dsimp only at b₉ ⊢
  obtain ⟨tw₉, hw₉⟩ := hw₉
  obtain ⟨th₉, hh₉⟩ := hh₉
  have X₉ := X₈.bute b₉ hdxL hB
  have Wm₉ := Wm₈.bute b₉ h1 h2
  clear X₈ O₈ Wm₈
  have m1 : m₉ "_waste" = some (.ref wx) := (hm₉ _ (by decide)).trans (if_pos rfl)
  have m2 : m₉ "start" = none := (hm₉ _ (by decide)).trans ((if_neg (by decide)).trans ((if_neg (by decide)).trans hn2))
  have m3 : m₉ "_waste_management" = some (.bool false) := (hm₉ _ (by decide)).trans ((if_neg (by decide)).trans (if_pos rfl))
  refine reset_661 hC X₉.Wh ⟨B, X₉.W, X₉.keep, fun y hy => ?_⟩ O₉ (by (first | lia | omega)) hw₉ m1 m2 Wm₉ (by decide) h1 h2 (R₉.le (by decide) (by decide)) fun h₁₀ tk₁₀ m₁₀ rl sl a b₁₀ O₁₀ e1 e2 e3 r₁₀ l₁₀ S₁₀ frl fsl nrs => ?_
  · rcases List.mem_cons.mp hy with rfl | hy
    · exact hB
    · rw [List.mem_singleton.mp hy]; exact hBw
  try dsimp only at b₁₀ frl fsl ⊢
  repeat walk_at "sky_m0"
  have kB9 : ∀ b o, b ≠ dx → σh.get? b = some o → h₉.get? b = some o := fun b o n e => b₉ b o n (k₈ _ _ (k₇ _ _ (k₆ _ _ (k₅ _ _ (b₄ b o n (k₃ _ _ (b₂ b o n (k₁ _ _ e))))))))
  have fr9 : ∀ b, h₉.get? b = none → σh.get? b = none := fun b e => by
    cases q : σh.get? b with
    | none => rfl
    | some o =>
      exfalso
      by_cases c : b = dx
      · subst c; obtain ⟨o', _, _, e', _⟩ := O₉.2; rw [e'] at e; cases e
      · rw [kB9 b o c q] at e; cases e
  refine h h₁₀ _ m₁₀ rl sl a tw₉ th₉ (fun b o n e => b₁₀ b o (fun q => ?_) (kB9 b o n e)) (O₁₀.le (by (first | lia | omega))) ((e3 _ (by decide) (by decide)).trans hw₉) ((e3 _ (by decide) (by decide)).trans hh₉) ((e3 _ (by decide) (by decide)).trans hr₉) ((e3 _ (by decide) (by decide)).trans m3) e1 e2 (fun n hn => ?_) r₁₀ l₁₀ S₁₀ (fr9 _ frl) (fr9 _ fsl) nrs
  · rcases List.mem_cons.mp q with q | q
    · exact n q
    · have e4 := back b o (by simpa using n) e
      rw [List.mem_singleton.mp q, hBw] at e4; cases e4
  · simp only [MadeN, List.mem_cons, List.not_mem_nil, or_false, not_or] at hn
    obtain ⟨n1, n2, n3, n4, n5, n6, n7, n8, n9, n10, n11⟩ := hn
    exact (e3 n n8 n11).trans ((hm₉ n (by simp [n5, n6, n7, n8, n9, n10])).trans ((if_neg n4).trans (if_neg n3)))
theorem pk_made : ∀ n ∈ PkNone, n ∉ MadeN := by decide
theorem sky_makes (P : Params) : ∀ C, IsSky C → makesIn (kHead.heap_1 P) C = true ∧ findIn (kHead.heap_1 P) (.ref C) "__init__" = some (some (.ref 596)) := by
  rintro C (rfl | rfl | rfl) <;> exact ⟨by k_is, by k_is⟩
theorem fn_596 (P : Params) : isFn (kHead.heap_1 P) (.ref 596) = true := by k_is
theorem new_pack {σh : Heap} {σg : Array GenState} {σd : Drawn} {σt : Nat} {σo : OsState} {C : Addr} {Wi Hi : Int} {tw th : Tok} {turn : Bool} {Q : Value → Shared → Prop} (hC : IsSky C) (W : Wd w σh) (hw0 : 0 ≤ Wi) (hh0 : 0 ≤ Hi) (R : Rm A 36 360)
    (h : ∀ p dp sl rl a h' tk, Kept σh h' → σh.get? p = none → σh.get? dp = none → σh.get? sl = none → σh.get? rl = none → Pk h' p dp C Wi Hi turn sl rl → h'.PlainList sl #[.ref a] → SegAt h' a 0 0 Wi → h'.PlainList rl #[] → rl ≠ sl → Q (.ref p) ⟨h', σg, σd, tk, σo⟩) :
    wpAny (model prog w) A (call (.ref C) [.int Wi tw, .int Hi th, .bool turn]) Q E ⟨σh, σg, σd, σt, σo⟩ := by
  have R : Rm A (35 + 1) (350 + 6) := R.le (by decide) (by decide)
  obtain ⟨c1, c2⟩ := sky_makes w.params C hC
  refine wpAny_call (make_cls R W (Kept.refl _) c1 c2 (fn_596 _) ?_)
  intro A₁ x dx h₀ R₁ k₀ hx0 hdx hne hx hN
  have gone : ∀ b, h₀.get? b = none → σh.get? b = none := fun b e => by
    cases q : σh.get? b with
    | none => rfl
    | some o => rw [k₀ _ _ q] at e; cases e
  refine init_596 (turn := turn) hC (W.keeps k₀) ⟨σh, W, k₀, hdx⟩ ⟨hx, hN⟩ (by decide) hw0 hh0 rfl rfl (R₁.le (by decide) (by decide)) fun h' tk mm' rl sl a tw' th' b' O' e1 e2 e3 e4 e5 e6 e7 r' l' S' frl fsl nrs => ?_
  try dsimp only at b' frl fsl
  refine ⟨rfl, h x dx sl rl a h' tk (fun b o e => b' b o (ne_of_get e hdx) (k₀ _ _ e)) hx0 hdx (gone _ fsl) (gone _ frl) ⟨hC, O'.1, mm', tw', th', O'.2.le (by decide), fun n hn => ?_, e1, e2, e3, e4, e6, e5⟩ l' S' r' nrs⟩
  exact e7 n (pk_made n hn)
end
theorem Tab.olds {h : Heap} {c P : Addr} (T : Tab h c P) : (∃ o, h.get? c = some o) ∧ ∃ o, h.get? P = some o :=
  let ⟨_, x, y⟩ := T; let ⟨⟨o, _, ho, _⟩, _⟩ := code_out x; ⟨⟨o, ho⟩, ⟨_, y.2⟩⟩
theorem gen2 {α : Type} {G : Prop} {m : α} (p0 p1 : α → Prop) (h0 : p0 m) (h1 : p1 m) (k : ∀ m, p0 m → p1 m → G) : G := k m h0 h1
theorem gen3 {α : Type} {G : Prop} {m : α} (p0 p1 p2 : α → Prop) (h0 : p0 m) (h1 : p1 m) (h2 : p2 m) (k : ∀ m, p0 m → p1 m → p2 m → G) : G := k m h0 h1 h2
theorem gen4 {α : Type} {G : Prop} {m : α} (p0 p1 p2 p3 : α → Prop) (h0 : p0 m) (h1 : p1 m) (h2 : p2 m) (h3 : p3 m) (k : ∀ m, p0 m → p1 m → p2 m → p3 m → G) : G := k m h0 h1 h2 h3
theorem gen5 {α : Type} {G : Prop} {m : α} (p0 p1 p2 p3 p4 : α → Prop) (h0 : p0 m) (h1 : p1 m) (h2 : p2 m) (h3 : p3 m) (h4 : p4 m) (k : ∀ m, p0 m → p1 m → p2 m → p3 m → p4 m → G) : G := k m h0 h1 h2 h3 h4
theorem gen6 {α : Type} {G : Prop} {m : α} (p0 p1 p2 p3 p4 p5 : α → Prop) (h0 : p0 m) (h1 : p1 m) (h2 : p2 m) (h3 : p3 m) (h4 : p4 m) (h5 : p5 m) (k : ∀ m, p0 m → p1 m → p2 m → p3 m → p4 m → p5 m → G) : G := k m h0 h1 h2 h3 h4 h5
theorem gen7 {α : Type} {G : Prop} {m : α} (p0 p1 p2 p3 p4 p5 p6 : α → Prop) (h0 : p0 m) (h1 : p1 m) (h2 : p2 m) (h3 : p3 m) (h4 : p4 m) (h5 : p5 m) (h6 : p6 m) (k : ∀ m, p0 m → p1 m → p2 m → p3 m → p4 m → p5 m → p6 m → G) : G := k m h0 h1 h2 h3 h4 h5 h6
theorem gen8 {α : Type} {G : Prop} {m : α} (p0 p1 p2 p3 p4 p5 p6 p7 : α → Prop) (h0 : p0 m) (h1 : p1 m) (h2 : p2 m) (h3 : p3 m) (h4 : p4 m) (h5 : p5 m) (h6 : p6 m) (h7 : p7 m) (k : ∀ m, p0 m → p1 m → p2 m → p3 m → p4 m → p5 m → p6 m → p7 m → G) : G := k m h0 h1 h2 h3 h4 h5 h6 h7
theorem gen9 {α : Type} {G : Prop} {m : α} (p0 p1 p2 p3 p4 p5 p6 p7 p8 : α → Prop) (h0 : p0 m) (h1 : p1 m) (h2 : p2 m) (h3 : p3 m) (h4 : p4 m) (h5 : p5 m) (h6 : p6 m) (h7 : p7 m) (h8 : p8 m) (k : ∀ m, p0 m → p1 m → p2 m → p3 m → p4 m → p5 m → p6 m → p7 m → p8 m → G) : G := k m h0 h1 h2 h3 h4 h5 h6 h7 h8
theorem gen10 {α : Type} {G : Prop} {m : α} (p0 p1 p2 p3 p4 p5 p6 p7 p8 p9 : α → Prop) (h0 : p0 m) (h1 : p1 m) (h2 : p2 m) (h3 : p3 m) (h4 : p4 m) (h5 : p5 m) (h6 : p6 m) (h7 : p7 m) (h8 : p8 m) (h9 : p9 m) (k : ∀ m, p0 m → p1 m → p2 m → p3 m → p4 m → p5 m → p6 m → p7 m → p8 m → p9 m → G) : G := k m h0 h1 h2 h3 h4 h5 h6 h7 h8 h9
theorem gen11 {α : Type} {G : Prop} {m : α} (p0 p1 p2 p3 p4 p5 p6 p7 p8 p9 p10 : α → Prop) (h0 : p0 m) (h1 : p1 m) (h2 : p2 m) (h3 : p3 m) (h4 : p4 m) (h5 : p5 m) (h6 : p6 m) (h7 : p7 m) (h8 : p8 m) (h9 : p9 m) (h10 : p10 m) (k : ∀ m, p0 m → p1 m → p2 m → p3 m → p4 m → p5 m → p6 m → p7 m → p8 m → p9 m → p10 m → G) : G := k m h0 h1 h2 h3 h4 h5 h6 h7 h8 h9 h10
theorem gen12 {α : Type} {G : Prop} {m : α} (p0 p1 p2 p3 p4 p5 p6 p7 p8 p9 p10 p11 : α → Prop) (h0 : p0 m) (h1 : p1 m) (h2 : p2 m) (h3 : p3 m) (h4 : p4 m) (h5 : p5 m) (h6 : p6 m) (h7 : p7 m) (h8 : p8 m) (h9 : p9 m) (h10 : p10 m) (h11 : p11 m) (k : ∀ m, p0 m → p1 m → p2 m → p3 m → p4 m → p5 m → p6 m → p7 m → p8 m → p9 m → p10 m → p11 m → G) : G := k m h0 h1 h2 h3 h4 h5 h6 h7 h8 h9 h10 h11
section
variable {prog : Program} {w : World} {A : Around} {E : Value → Shared → Prop} {s : Shared} {B : Heap} {L : Addr} {m : Str → Option Value} {env : Env} {names : List (Str × NameKind)} {cells : List (Str × Addr)}
/- a for statement over a range, whatever the size of its bounds -/
theorem for_rangeA {σh : Heap} {σg : Array GenState} {σd : Drawn} {σt : Nat} {σo : OsState} {Q : Flow → Shared → Prop} {x : Str} {px : Pos} {body : List Stmt} {r : Addr} {a b c : Int} {t u v : Tok} {n : Nat}
    (V : Ev env L names cells) (hA : A.handled = none) (hx : names.lookup x = some .local) (Hs : List Addr) (F : Fz B L σh m) (hh : ∀ x ∈ Hs, B.get? x = none) (hHs : ∀ x ∈ Hs, ∃ o, σh.get? x = some o)
    (hr : IsRange σh r a b c t u v) (hn : Builtin.Range.rangeSize a b c = n)
    (J : Nat → Heap → Heap → (Str → Option Value) → Prop) (h0 : J 0 B σh m)
    (frame : ∀ I, σh.get? I = none → ∀ i B B' h h' m, J i B h m → Odd B I → But I B B' → (∀ b o, b ≠ I → b ≠ L → h.get? b = some o → h'.get? b = some o) → J i B' h' m)
    (step : ∀ i v B₁ h m₁ tk, i < n → (∃ t, v = .int (a + i * c) t) → J i B₁ h m₁ → Kept B B₁ → Fz B₁ L h (upd x v m₁) → (∀ x ∈ Hs, B₁.get? x = none) →
      LoopBody prog w A E σg σd σo env L Hs (J (i + 1)) body Q B₁ h tk)
    (done : ∀ B₁ h m₁ tk, J n B₁ h m₁ → Kept B B₁ → Fz B₁ L h m₁ → (∀ x ∈ Hs, B₁.get? x = none) → Q .next ⟨h, σg, σd, tk, σo⟩)
    (hE : PassesOwn (model prog w) A env E) :
    wpAny (model prog w) A (pyIter (.ref r)) (fun it s₂ => codeAny (model prog w) A (.forLoop (.Name x px) it body [] env) (fun r s' => match r with | .ok f => Q f s' | .error e => cameBackBy (model prog w) A env E e s') s₂) E ⟨σh, σg, σd, σt, σo⟩ := by
  cases hs : Builtin.Range.small a b c with
  | true => exact for_range V hA hx Hs F hh hHs hr hs hn J h0 frame step done hE
  | false =>
    obtain ⟨oL, es, ep, hoL, -⟩ := F.ns
    have hne : ∀ b o, σh.get? b = some o → b ≠ σh.objs.size := fun b o e => Nat.ne_of_lt (Heap.lt_size e)
    refine wpAny_pyIter_longrange hr hs ?_
    have kp : Kept σh (σh.push { cls := .type "longrange_iterator", data := .fields #[rawInt a, rawInt (Builtin.Range.rangeSize a b c), rawInt c] }) := fun b o e => Heap.get?_push_of_some _ e
    have hJ := frame σh.objs.size (get?_size _) 0 B B σh _ m h0 (Odd.none (by
      cases q : B.get? σh.objs.size with
      | none => rfl
      | some o => exact absurd (F.keep _ _ q) (by rw [get?_size]; simp))) (fun b o _ e => e) (fun b o _ _ e => kp b o e)
    refine loop_w (s₀ := σh) (Walks.longrange hA σh.objs.size a c n) V hx (get?_size _) (fun q => ?_) Hs (fun x hx q => ?_) (F.step kp) F.keep hh ?_ (fun i h st => ?_) J hJ (frame _ (get?_size _)) step done hE
    · exact hne _ _ hoL (List.mem_singleton.mp q)
    · obtain ⟨ox, hox⟩ := hHs x hx; exact hne _ _ hox (List.mem_singleton.mp q)
    · show IsLongIter _ _ _ _ _
      have : IsLongIter (σh.push { cls := .type "longrange_iterator", data := .fields #[rawInt a, rawInt (Builtin.Range.rangeSize a b c), rawInt c] }) σh.objs.size a (Builtin.Range.rangeSize a b c) c := Heap.get?_push_size _ rfl
      simpa [hn] using this
    · intro o e
      have st : IsLongIter h σh.objs.size _ _ _ := st
      rw [st] at e; cases e
      exact ⟨(fun C dx q => by cases q), (fun es ep q => by cases q), fun xs n q => by have c : Data.fields _ = Data.seq _ _ := congrArg Obj.data q; cases c⟩
end
noncomputable def absI (n : Int) : Int := if n < 0 then -n else n
theorem absI_nonneg (n : Int) : 0 ≤ absI n := by unfold absI; split <;> (first | lia | omega)
noncomputable def lawSide (n m : Int) : Int := 1 + (((absI n).fdiv 3).fmod (m + 1)).fdiv (1 + (absI n).fmod 3)
theorem lawSide_ok {n m : Int} (hm : 0 ≤ m) : 1 ≤ lawSide n m ∧ lawSide n m ≤ 1 + m := by
  have h0 := absI_nonneg n
  unfold lawSide
  generalize absI n = a at h0 ⊢
  have e1 : a.fmod 3 = a % 3 := Int.fmod_eq_emod_of_nonneg _ (by decide)
  have e2 : a.fdiv 3 = a / 3 := Int.fdiv_eq_ediv_of_nonneg _ (by decide)
  rw [e1, e2, Int.fmod_eq_emod_of_nonneg _ (by (first | lia | omega)), Int.fdiv_eq_ediv_of_nonneg _ (by (first | grind | lia))]
  have h1 : 0 ≤ (a / 3) % (m + 1) := Int.emod_nonneg _ (by (first | lia | omega))
  have h2 : (a / 3) % (m + 1) < m + 1 := Int.emod_lt_of_pos _ (by (first | exact Int.lt_add_one_of_le (by assumption) | lia))
  have h3 : 0 ≤ (a / 3) % (m + 1) / (1 + a % 3) := Int.ediv_nonneg h1 (by (first | lia | omega))
  have h4 : (a / 3) % (m + 1) / (1 + a % 3) ≤ (a / 3) % (m + 1) := Int.ediv_le_self _ h1
  (first | lia | omega)
section
variable {prog : Program} {w : World} {A : Around} {E : Value → Shared → Prop} {s : Shared} {B : Heap}
theorem law_at {σh : Heap} {σg : Array GenState} {σd : Drawn} {σt : Nat} {σo : OsState} {a : Addr} {vs : List Value} {ns : List Int} {k : Nat} {o : Int} {tk0 to : Tok} {R : Result → Shared → Prop} (W : Wd w σh) (hl : σh.IsList a vs.toArray) (hi : IntsAre vs ns) (hz : ns.length ≤ 100) (Ro : Rm A 4 30)
    (h : ∀ h' tk t, Kept σh h' → R (.ok (.ret (.int (ns.getD k o) t))) ⟨h', σg, σd, tk, σo⟩) : codeAny (model prog w) A (.call (.ref 737) ⟨[.ref a, .int (k : Int) tk0, .int o to], []⟩) R ⟨σh, σg, σd, σt, σo⟩ := by
  have Ro : Rm A (3 + 1) (20 + 3) := Ro.le (by decide) (by decide)
  ((refine' code_fn ([("script", .ref a), ("k", .int (k : Int) tk0), ("other", .int o to)]) ?k0 ?kk ?k1 ?k2 ?k3 ?k4 ?k5 ?k6 ?k7 ?k8 ?k9 ?k10 ?k11 ?k12 ?_); (case k0 => assumption); (case kk => (first | assumption | exact Fz.keep (by assumption) | exact Kept.refl _)); (case k2 => k_is); (case k3 => k_is); (case k4 => rfl); (case k5 => exact binds_eq rfl); (case k6 => rfl); (case k7 => rfl); (case k8 => rfl); (case k9 => rfl); (case k10 => rfl); (case k11 => rfl); (case k12 => rfl); (case k1 => assumption); intro A' L env h₁ R' V F; (try dsimp only at V F); (try dsimp only))
  have X := Fm.of W F
  clear F
  have hlen : vs.length = ns.length := PyProof.Rows.ints_len_eq hi
  have hl₁ : h₁.IsList a vs.toArray := hl.at (X.keep _)
  repeat walk_at "sky_m0"
  refine len_list hl₁ (by rw [List.size_toArray]; (first | lia | omega)) ?_
  repeat walk_at "sky_m0"
  rw [List.size_toArray, hlen]
  rcases Nat.lt_or_ge k ns.length with c | c
  · rw [if_pos (decide_eq_true (by (first | exact Int.ofNat_lt.mpr (by assumption) | lia)))]
    repeat walk_at "sky_m0"
    obtain ⟨n, t, hv, hn⟩ := hi.at k (vs[k]'(by (first | lia | omega))) (List.getElem?_eq_getElem _)
    have ht : vs.toArray[k]? = some (.int n t) := by rw [List.getElem?_toArray, List.getElem?_eq_getElem (by (first | lia | omega)), hv]
    refine item_at hl₁ rfl ht (by rw [List.size_toArray]; (first | lia | omega)) ?_ rfl
    have e : ns.getD k o = n := by rw [List.getD_eq_getElem?_getD, hn]; rfl
    rw [e] at h
    repeat (with_reducible first | refine Next.next (by assumption) ?_ | refine Next.ret (by assumption) ?_ | refine Next.cont (by assumption) ?_ | refine Next.brk (by assumption) ?_ | refine IfK.go (by assumption) ?_ | refine AsK.go (by assumption) ?_)
    exact h _ _ _ X.keep
  · rw [if_neg (by rw [decide_eq_true_iff]; (first | lia | omega))]
    repeat walk_at "sky_m0"
    rw [List.getD_eq_getElem?_getD, List.getElem?_eq_none c] at h
    repeat (with_reducible first | refine Next.next (by assumption) ?_ | refine Next.ret (by assumption) ?_ | refine Next.cont (by assumption) ?_ | refine Next.brk (by assumption) ?_ | refine IfK.go (by assumption) ?_ | refine AsK.go (by assumption) ?_)
    exact h _ _ _ X.keep
theorem law_side {σh : Heap} {σg : Array GenState} {σd : Drawn} {σt : Nat} {σo : OsState} {n m : Int} {tn tm : Tok} {R : Result → Shared → Prop} (W : Wd w σh) (hm : 0 ≤ m) (Ro : Rm A 4 30)
    (h : ∀ h' tk t, Kept σh h' → R (.ok (.ret (.int (lawSide n m) t))) ⟨h', σg, σd, tk, σo⟩) : codeAny (model prog w) A (.call (.ref 744) ⟨[.int n tn, .int m tm], []⟩) R ⟨σh, σg, σd, σt, σo⟩ := by
  have Ro : Rm A (3 + 1) (20 + 3) := Ro.le (by decide) (by decide)
  ((refine' code_fn ([("number", .int n tn), ("most", .int m tm)]) ?k0 ?kk ?k1 ?k2 ?k3 ?k4 ?k5 ?k6 ?k7 ?k8 ?k9 ?k10 ?k11 ?k12 ?_); (case k0 => assumption); (case kk => (first | assumption | exact Fz.keep (by assumption) | exact Kept.refl _)); (case k2 => k_is); (case k3 => k_is); (case k4 => rfl); (case k5 => exact binds_eq rfl); (case k6 => rfl); (case k7 => rfl); (case k8 => rfl); (case k9 => rfl); (case k10 => rfl); (case k11 => rfl); (case k12 => rfl); (case k1 => assumption); intro A' L env h₁ R' V F; (try dsimp only at V F); (try dsimp only))
  have X := Fm.of W F
  clear F
  repeat walk_at "sky_m0"
  refine PyProof.Rows.call_abs_int fun u tk => ?_
  (((try (with_reducible first | refine Next.next (by assumption) ?_ | refine Next.ret (by assumption) ?_ | refine Next.cont (by assumption) ?_ | refine Next.brk (by assumption) ?_ | refine IfK.go (by assumption) ?_ | refine AsK.go (by assumption) ?_)); (with_reducible show wpAny _ _ (storeName _ _ _) _ _ _); refine m_store (by assumption) (by assumption) (by exact rfl) ?_))
  intro h₂ tkσ X₂ _ _
  try dsimp only at X₂ ⊢
  clear X
  have h0 := absI_nonneg n
  change Fm _ _ _ _ _ (fun y => if y = _ then some (.int (absI n) u) else _) at X₂
  repeat walk_at "sky_m0"
  refine PyProof.Rows.floordiv_int (by decide) ?_
  repeat walk_at "sky_m0"
  refine PyProof.Rows.mod_int' (by (first | lia | omega)) ?_
  repeat walk_at "sky_m0"
  refine PyProof.Rows.mod_int' (by decide) ?_
  repeat walk_at "sky_m0"
  have e3 : (absI n).fmod 3 = absI n % 3 := Int.fmod_eq_emod_of_nonneg _ (by decide)
  refine PyProof.Rows.floordiv_int (by (first | lia | omega)) ?_ (.inl (PyProof.noPylong_small (by (first | lia | omega))))
  repeat walk_at "sky_m0"
  exact h _ _ _ X₂.keep
end
section
variable {prog : Program} {w : World} {A : Around} {E : Value → Shared → Prop} {s : Shared} {B : Heap}
theorem law_bin {σh : Heap} {σg : Array GenState} {σd : Drawn} {σt : Nat} {σo : OsState} {way : Nat} {Wi Hi : Int} {tw th ty : Tok} {turn : Bool} {R : Result → Shared → Prop} (W : Wd w σh) (hw0 : 0 ≤ Wi) (hh0 : 0 ≤ Hi) (hway : way < 3) (Ro : Rm A 38 370)
    (h : ∀ C p dp sl rl a h' tk, IsSky C → wayOf C = way → Kept σh h' → σh.get? p = none → σh.get? dp = none → σh.get? sl = none → σh.get? rl = none → Pk h' p dp C Wi Hi turn sl rl → h'.PlainList sl #[.ref a] → SegAt h' a 0 0 Wi → h'.PlainList rl #[] → rl ≠ sl →
      R (.ok (.ret (.ref p))) ⟨h', σg, σd, tk, σo⟩) :
    codeAny (model prog w) A (.call (.ref 751) ⟨[.int (way : Int) ty, .int Wi tw, .int Hi th, .bool turn], []⟩) R ⟨σh, σg, σd, σt, σo⟩ := by
  have Ro : Rm A (36 + 1) (360 + 3) := Ro.le (by decide) (by decide)
  ((refine' code_fn ([("way", .int (way : Int) ty), ("wide", .int Wi tw), ("high", .int Hi th), ("turn", .bool turn)]) ?k0 ?kk ?k1 ?k2 ?k3 ?k4 ?k5 ?k6 ?k7 ?k8 ?k9 ?k10 ?k11 ?k12 ?_); (case k0 => assumption); (case kk => (first | assumption | exact Fz.keep (by assumption) | exact Kept.refl _)); (case k2 => k_is); (case k3 => k_is); (case k4 => rfl); (case k5 => exact binds_eq rfl); (case k6 => rfl); (case k7 => rfl); (case k8 => rfl); (case k9 => rfl); (case k10 => rfl); (case k11 => rfl); (case k12 => rfl); (case k1 => assumption); intro A' L env h₁ R' V F; (try dsimp only at V F); (try dsimp only))
  have X := Fm.of W F
  have hLs : σh.get? L = none := F.hid
  clear F
  have back : ∀ h', Kept h₁ h' → Kept σh h' := fun h' k => X.keep.trans k
  have nn : ∀ x, h₁.get? x = none → σh.get? x = none := fun x hx => by
    cases q : σh.get? x with
    | none => rfl
    | some o => have := X.keep _ _ q; rw [hx] at this; cases this
  have fin : ∀ C, IsSky C → wayOf C = way → ∀ tk, wpAny (model prog w) A' (call (.ref C) [.int Wi tw, .int Hi th, .bool turn]) (fun v s' => R (.ok (.ret v)) s') (fun _ _ => False) ⟨h₁, σg, σd, tk, σo⟩ := fun C hC hw tk =>
    new_pack hC X.Wh hw0 hh0 (R'.le (by decide) (by decide)) fun p dp sl rl a h' tk' k n1 n2 n3 n4 P l1 sg l2 ne => h C p dp sl rl a h' tk' hC hw (back _ k) (nn _ n1) (nn _ n2) (nn _ n3) (nn _ n4) P l1 sg l2 ne
  repeat (first | walk_at "sky_sk" | walk_at "sky_m0")
  by_cases c0 : way = 0
  · rw [if_pos (by rw [beq_iff_eq]; (first | grind | lia))]
    repeat (first | walk_at "sky_sk" | walk_at "sky_m0")
    exact fin 728 (.inr (.inr rfl)) (by rw [c0]; rfl) _
  · rw [if_neg (by rw [beq_iff_eq]; (first | lia | omega))]
    repeat (first | walk_at "sky_sk" | walk_at "sky_m0")
    by_cases c1 : way = 1
    · rw [if_pos (by rw [beq_iff_eq]; (first | grind | lia))]
      repeat (first | walk_at "sky_sk" | walk_at "sky_m0")
      exact fin 690 (.inl rfl) (by rw [c1]; rfl) _
    · rw [if_neg (by rw [beq_iff_eq]; (first | lia | omega))]
      repeat (first | walk_at "sky_sk" | walk_at "sky_m0")
      exact fin 709 (.inr (.inl rfl)) (by rw [show way = 2 by (first | lia | omega)]; rfl) _
end
/- the order of tuples of integers -/
noncomputable def ltL : List Int → List Int → Bool
  | a :: as, b :: bs => if a = b then ltL as bs else decide (a < b)
  | _, _ => false
theorem ltL_cons (a b : Int) (as bs : List Int) : ltL (a :: as) (b :: bs) = if a = b then ltL as bs else decide (a < b) := rfl
theorem ltL_irrefl : ∀ x : List Int, ltL x x = false
  | [] => rfl
  | a :: as => by unfold ltL; rw [if_pos rfl]; exact ltL_irrefl as
theorem ltL_trans' : ∀ {x y z : List Int}, x.length = y.length → y.length = z.length → ltL y x = false → ltL z y = false → ltL z x = false
  | [], y, z, h1, h2, _, _ => by
    obtain rfl := List.length_eq_zero_iff.mp h1.symm
    obtain rfl := List.length_eq_zero_iff.mp h2.symm
    rfl
  | a :: as, [], z, h1, _, _, _ => by cases h1
  | a :: as, b :: bs, [], _, h2, _, _ => by cases h2
  | a :: as, b :: bs, c :: cs, h1, h2, h3, h4 => by
    unfold ltL at h3 h4 ⊢
    by_cases e1 : b = a
    · rw [if_pos e1] at h3
      by_cases e2 : c = b
      · rw [if_pos e2] at h4
        rw [if_pos (e2.trans e1)]
        exact ltL_trans' (Nat.succ.inj h1) (Nat.succ.inj h2) h3 h4
      · rw [if_neg e2] at h4
        rw [if_neg (by (first | lia | omega))]
        simp only [decide_eq_false_iff_not] at h4 ⊢; (first | lia | omega)
    · rw [if_neg e1] at h3
      simp only [decide_eq_false_iff_not] at h3
      by_cases e2 : c = b
      · rw [if_neg (by (first | lia | omega))]
        simp only [decide_eq_false_iff_not]; (first | lia | omega)
      · rw [if_neg e2] at h4
        simp only [decide_eq_false_iff_not] at h4
        rw [if_neg (by (first | lia | omega))]
        simp only [decide_eq_false_iff_not]; (first | lia | omega)
theorem ltL_asymm : ∀ {x y : List Int}, ltL x y = true → ltL y x = false
  | [], _, h => by unfold ltL at h; cases h
  | a :: as, [], h => by unfold ltL at h; cases h
  | a :: as, b :: bs, h => by
    unfold ltL at h ⊢
    by_cases e : a = b
    · rw [if_pos e] at h; rw [if_pos e.symm]; exact ltL_asymm h
    · rw [if_neg e] at h; rw [if_neg (Ne.symm e)]
      simp only [decide_eq_true_eq] at h
      simp only [decide_eq_false_iff_not]; (first | lia | omega)
theorem argBest_ltL (num : Nat → List Int) {z : Nat} : ∀ k, (∀ i, i ≤ k → (num i).length = z) → argBest (fun i j => ltL (num i) (num j)) k ≤ k ∧ ∀ j, j ≤ k → ltL (num j) (num (argBest (fun i j => ltL (num i) (num j)) k)) = false
  | 0, _ => ⟨Nat.le_refl _, fun j hj => by
      obtain rfl : j = 0 := by (first | lia | omega)
      exact ltL_irrefl _⟩
  | k + 1, hz => by
    obtain ⟨h1, h2⟩ := argBest_ltL num k fun i hi => hz i (by (first | exact Nat.le_succ_of_le (by assumption) | lia))
    simp only [argBest]
    by_cases c : ltL (num (k + 1)) (num (argBest (fun i j => ltL (num i) (num j)) k)) = true
    · rw [if_pos c]
      refine ⟨Nat.le_refl _, fun j hj => ?_⟩
      by_cases e : j = k + 1
      · rw [e]; exact ltL_irrefl _
      · exact ltL_trans' ((hz _ (Nat.le_refl _)).trans (hz _ (by (first | exact Nat.le_succ_of_le (by assumption) | lia))).symm) ((hz _ (by (first | exact Nat.le_succ_of_le (by assumption) | lia))).trans (hz _ (by (first | omega | lia))).symm) (ltL_asymm c) (h2 j (by (first | lia | omega)))
    · rw [if_neg c]
      refine ⟨by (first | exact Nat.le_succ_of_le (by assumption) | lia), fun j hj => ?_⟩
      by_cases e : j = k + 1
      · rw [e]; simpa using c
      · exact h2 j (by (first | lia | omega))
section
variable {prog : Program} {w : World} {A : Around} {E : Value → Shared → Prop} {s : Shared} {B : Heap}
theorem max_ints {σh : Heap} {σg : Array GenState} {σd : Drawn} {σt : Nat} {σo : OsState} {l : Addr} {vs : List Value} {ns : List Int} {Q : Value → Shared → Prop} (hh : A.handled = none) (hl : σh.IsList l vs.toArray) (hi : IntsAre vs ns) (hne : 0 < ns.length)
    (h : ∀ h' M (t : Tok) tk, Kept σh h' → M ∈ ns → (∀ a, a ∈ ns → a ≤ M) → Q (.int M t) ⟨h', σg, σd, tk, σo⟩) :
    wpAny (model prog w) A (call (.builtin "max") [.ref l]) Q E ⟨σh, σg, σd, σt, σo⟩ := by
  obtain ⟨xs, e⟩ := hi.allInts.items
  have hns : ns = xs.toList.map (·.1) := by rw [← hi.numsOf, ← nums_intItems, ← e]
  have hsz : 0 < xs.size := by
    have h3 := hne; rw [hns, List.length_map, Array.length_toList] at h3; exact h3
  rw [e] at hl
  refine max_intList hh hl hsz fun v h' tk hv hk => ?_
  obtain ⟨t, rfl⟩ := intItems_at hv
  obtain ⟨h1, h2⟩ := argBest_gt (numAt xs) (xs.size - 1)
  refine h _ _ t tk hk ?_ fun a ha => ?_
  · rw [hns, numAt_eq]; exact getD_mem (by rw [List.length_map, Array.length_toList]; (first | lia | omega))
  · rw [hns] at ha
    obtain ⟨j, hj, rfl⟩ := mem_getD ha
    rw [List.length_map, Array.length_toList] at hj
    rw [← numAt_eq]; exact h2 j (by (first | lia | omega))
theorem sum_ints {σh : Heap} {σg : Array GenState} {σd : Drawn} {σt : Nat} {σo : OsState} {l : Addr} {vs : List Value} {ns : List Int} {Q : Value → Shared → Prop} (hh : A.handled = none) (hl : σh.IsList l vs.toArray) (hi : IntsAre vs ns)
    (h : ∀ h' (t : Tok) tk, Kept σh h' → Q (.int ns.sum t) ⟨h', σg, σd, tk, σo⟩) :
    wpAny (model prog w) A (call (.builtin "sum") [.ref l]) Q E ⟨σh, σg, σd, σt, σo⟩ := by
  obtain ⟨xs, e⟩ := hi.allInts.items
  have hns : ns = xs.toList.map (·.1) := by rw [← hi.numsOf, ← nums_intItems, ← e]
  rw [e] at hl
  refine sum_intListG hh hl fun h' tk t' hk => ?_
  have := h h' t' tk hk
  rw [preSum_eq, List.take_of_length_le (by simp), ← hns]
  exact this
/- a tuple of integers -/
inductive TupInts (h : Heap) (q : Addr) (ns : List Int) : Prop
  | mk (vs : _) (f1 : TupAt h q vs.toArray) (f2 : IntsAre vs ns) : TupInts h q ns
theorem TupInts.kept {h h' : Heap} {q : Addr} {ns : List Int} (T : TupInts h q ns) (k : Kept h h') : TupInts h' q ns := let ⟨vs, a, b⟩ := T; ⟨vs, a.kept k, b⟩
theorem TupInts.typeIs {q : Addr} {ns : List Int} (T : TupInts s.heap q ns) : s.TypeIs (.ref q) "tuple" := let ⟨_, ⟨_, e⟩, _⟩ := T; ⟨_, e, rfl⟩
theorem tup_lt_tree {x y : List Int} {a b : Addr} {P : PySem.Fin → Shared → Prop} (hx : TupInts s.heap a x) (hy : TupInts s.heap b y) (hlen : x.length = y.length) (h : P (.done (.ret (.bool (ltL x y)))) s) :
    wpAny (model prog w) A (Builtin.«tuple.__lt__» ⟨[.ref a, .ref b], []⟩) P E s := by
  have hTb := hy.typeIs
  obtain ⟨xs, ⟨na, hoa⟩, hia⟩ := hx
  obtain ⟨ys, ⟨nb, hob⟩, hib⟩ := hy
  show wpAny _ _ (isInstance (.ref b) (.type "tuple") >>= _) _ _ s
  refine wpAny_bind (wpAny_isInstance hTb isSubtype_tuple_tuple ?_)
  simp only [Bool.not_true, Bool.false_eq_true, if_false]
  refine wpAny_bind (wpAny_tupleItemsOf hoa rfl ?_)
  refine wpAny_bind (wpAny_tupleItemsOf hob rfl ?_)
  refine wpAny_bind ?_
  refine wpAny_forIn_list _
    (fun rest r s' => r.1 = none ∧ s' = s ∧ ∃ x' y' xs' ys', rest = List.zip xs' ys' ∧ IntsAre xs' x' ∧ IntsAre ys' y' ∧ ltL x' y' = ltL x y ∧ x'.length = y'.length)
    _ ?_ ?_ _ _ ⟨rfl, rfl, x, y, xs, ys, rfl, hia, hib, rfl, hlen⟩
  · rintro ⟨u, v⟩ rest r s' ⟨hr, rfl, x', y', xs', ys', hz, hx', hy', hdec, hl⟩
    cases hx' with
    | nil => simp at hz
    | cons k1 t1 hx'' =>
      cases hy' with
      | nil => simp at hz
      | cons k2 t2 hy'' =>
        simp only [List.zip_cons_cons, List.cons.injEq, Prod.mk.injEq] at hz
        obtain ⟨⟨rfl, rfl⟩, rfl⟩ := hz
        refine wpAny_bind (wpAny_eqBool_int ?_)
        rw [ltL_cons] at hdec
        by_cases hk : k1 = k2
        · rw [if_pos hk] at hdec
          rw [show (k1 == k2) = true by simpa using hk]
          simp only [Bool.not_true, Bool.false_eq_true, if_false]
          exact wpAny_pure ⟨rfl, rfl, _, _, _, _, rfl, hx'', hy'', hdec, Nat.succ.inj hl⟩
        · rw [if_neg hk] at hdec
          rw [show (k1 == k2) = false by simpa using hk]
          simp only [Bool.not_false, if_true]
          rw [← hdec] at h
          refine wpAny_bind (wpAny_rule ?_)
          show wpAny _ _ (compareOp .Lt _ _ >>= _) _ _ _
          refine wpAny_bind (wpAny_lt_int ?_)
          refine wpAny_bind (wpAny_pure ?_)
          exact wpAny_pure (wpAny_pure h)
  · rintro ⟨r1, r2⟩ s' ⟨hr, rfl, x', y', xs', ys', hz, hx', hy', hdec, hl⟩
    simp only at hr
    subst hr
    refine wpAny_pure ?_
    have e : ltL x y = false := by
      rw [← hdec]
      cases hx' with
      | nil => cases y' <;> rfl
      | cons _ _ _ =>
        cases hy' with
        | nil => rfl
        | cons _ _ _ => simp at hz
    have hs : xs.length = ys.length := by rw [PyProof.Rows.ints_len_eq hia, PyProof.Rows.ints_len_eq hib, hlen]
    show P (.done (.ret (.bool (decide (xs.toArray.size < ys.toArray.size))))) s'
    rw [show decide (xs.toArray.size < ys.toArray.size) = ltL x y by rw [e, List.size_toArray, List.size_toArray, hs]; simp]
    exact h
theorem tup_lt {x y : List Int} {a b : Addr} {Q : Value → Shared → Prop} (hx : TupInts s.heap a x) (hy : TupInts s.heap b y) (hlen : x.length = y.length) (hu : A.units < cLine) (h : Q (.bool (ltL x y)) s) :
    wpAny (model prog w) A (richCompare .Lt (.ref a) (.ref b)) Q E s :=
  wpAny_richCompare_same_room (op := .Lt) hx.typeIs hy.typeIs F.slot_tuple_lt
    (wpAny_call_entry F.slot_tuple_lt hx.typeIs F.entry_tuple_lt (tup_lt_tree hx hy hlen ⟨_, rfl, (fun e => nomatch e), h⟩) (F.args_tuple_lt_2 _ _)) hu
end
section
variable {prog : Program} {w : World} {A : Around} {R : Result → Shared → Prop} {I : Addr} {fp wr : List Addr} {n : Nat} {P : Nat → Value → Prop} {St : Nat → Heap → Prop} {h₀ : Heap}
/- a comparison that may look at the objects of h₀ -/
noncomputable def CmpK (prog : Program) (w : World) (A : Around) (h₀ : Heap) (P : Nat → Value → Prop) (bt : Nat → Nat → Bool) : Prop :=
  ∀ i j vi vj (s : Shared) (Q : Value → Shared → Prop) (E : Value → Shared → Prop), Kept h₀ s.heap → P i vi → P j vj → Q (.bool (bt i j)) s → wpAny (model prog w) A (richCompare .Lt vi vj) Q E s
theorem min_loopK (W : Walks prog w A.in1 I fp wr n P St) (bt : Nat → Nat → Bool) (hcmp : CmpK prog w A.in1 h₀ P bt) (S : Addr) (hSf : S ∉ fp) (hS0 : h₀.get? S = none) (hw0 : ∀ b ∈ wr, h₀.get? b = none) :
    ∀ (k j : Nat) (s : Shared) (vb : Value) (c : Nat), n - (j + 1) = k → j + 1 ≤ n → Kept h₀ s.heap → St (j + 1) s.heap → P (argBest bt j) vb →
    s.heap.get? S = some { cls := .type "list", dict := none, data := .seq #[vb, vb] c, slots := #[] } →
    (∀ v h' tk, P (argBest bt (n - 1)) v → Kept h₀ h' → R (.ok (.ret v)) { s with heap := h', toks := tk }) →
    codeAny (model prog w) A (.builtin "min.loop" ⟨[.ref I, .none, .ref S], []⟩) R s := by
  have hSw : S ∉ wr := fun h => hSf (W.sub _ h)
  have hname : (toString "min" ++ toString ".loop" : String) = "min.loop" := by decide
  have keepW : ∀ {h h' : Heap}, Kept h₀ h → (∀ b, b ∉ wr → ∀ o, h.get? b = some o → h'.get? b = some o) → Kept h₀ h' := fun k hk b o e =>
    hk b (fun q => by rw [hw0 _ q] at e; cases e) o (k _ _ e)
  have keepS : ∀ {h : Heap} (f : Obj → Obj), Kept h₀ h → Kept h₀ (h.update S f) := fun f k b o e =>
    (Heap.get?_update_other _ _ (fun q : S = b => by rw [← q, hS0] at e; cases e)).trans (k _ _ e)
  intro k
  induction k with
  | zero =>
    intro j s vb c hk hj hk₀ hst hPb hS hR
    have hin : j + 1 = n := by (first | grind | lia)
    refine codeAny_builtin F.entry_min_loop ?_
    rw [Around.under_plainId F.plain_min_loop _]
    show wpAny _ A.in1 (seqItems? (.ref S) >>= _) _ _ s
    refine wpAny_bind (wpAny_seqItems hS rfl ?_)
    show wpAny _ A.in1 (tryCatch (pyNext (.ref I)) _ >>= _) _ _ s
    refine wpAny_bind (wpAny_tryCatch (W.done s _ _ (hin ▸ hst) fun h' tk hk' => ?_))
    have hS' := hk' S _ hSw hS
    show wpAny _ A.in1 (updateSeq S (fun _ => #[]) >>= _) _ _ _
    refine wpAny_bind ?_
    refine wpAny_updateSeq hS' rfl (wpAny_bind (wpAny_letGo (wpAny_pure ?_)))
    exact hR vb _ tk (by rw [← hin]; exact hPb) (keepS _ (keepW hk₀ fun b hb o e => hk' b o hb e))
  | succ k ih =>
    intro j s vb c hk hj hk₀ hst hPb hS hR
    have hlt : j + 1 < n := by (first | exact Nat.lt_of_sub_eq_succ (by assumption) | lia)
    refine codeAny_builtin F.entry_min_loop ?_
    rw [Around.under_plainId F.plain_min_loop _]
    show wpAny _ A.in1 (seqItems? (.ref S) >>= _) _ _ s
    refine wpAny_bind (wpAny_seqItems hS rfl ?_)
    show wpAny _ A.in1 (tryCatch (pyNext (.ref I)) _ >>= _) _ _ s
    refine wpAny_bind (wpAny_tryCatch (W.item (j + 1) s _ _ hlt hst fun v h' tk hP hst' hk' => ?_))
    have hS' := hk' S _ hSw hS
    have k₁ : Kept h₀ h' := keepW hk₀ fun b hb o e => hk' b o hb e
    show wpAny _ A.in1 (tryCatch (holding [v, v] (richCompare .Lt v vb >>= _)) _ >>= _) _ _ _
    refine wpAny_bind (wpAny_tryCatch (wpAny_holding (wpAny_bind (hcmp (j + 1) (argBest bt j) v vb _ _ _ k₁ hP hPb ?_))))
    refine wpAny_bind (wpAny_holding (wpAny_truthy_bool ?_))
    refine wpAny_bind (wpAny_letGo (wpAny_pure ?_))
    cases hb : bt (j + 1) (argBest bt j) with
    | true =>
      simp only [if_true]
      refine wpAny_bind ?_
      refine wpAny_updateSeq hS' rfl (wpAny_bind (wpAny_letGo ?_))
      rw [hname]
      refine wpAny_pure ⟨plainId_quiet F.plain_min_loop _, ih (j + 1) _ v _ (by (first | exact nb2 (by assumption) | lia)) hlt (keepS _ k₁) (W.frame _ _ _ hst' fun b hbf o e => ?_) (by simp only [argBest, hb, if_true]; exact hP) (Heap.get?_update_self _ hS' rfl)
        fun v' h'' tk'' hP' hk'' => hR v' h'' tk'' hP' hk''⟩
      exact (Heap.get?_update_other _ _ (fun h : S = b => hSf (by rw [h]; exact hbf))).trans e
    | false =>
      simp only [Bool.false_eq_true, if_false]
      refine wpAny_bind (wpAny_letGo ?_)
      rw [hname]
      exact wpAny_pure ⟨plainId_quiet F.plain_min_loop _, ih (j + 1) _ vb c (by (first | exact nb2 (by assumption) | lia)) hlt k₁ hst' (by simp only [argBest, hb, Bool.false_eq_true, if_false]; exact hPb) hS' fun v' h'' tk'' hP' hk'' => hR v' h'' tk'' hP' hk''⟩
theorem min_loopK_first (W : Walks prog w A.in1 I fp wr n P St) (bt : Nat → Nat → Bool) (hcmp : CmpK prog w A.in1 h₀ P bt) (S : Addr) (hSf : S ∉ fp) (hS0 : h₀.get? S = none) (hw0 : ∀ b ∈ wr, h₀.get? b = none) (hn : 0 < n) {s : Shared} {c : Nat} (hk₀ : Kept h₀ s.heap) (hst : St 0 s.heap)
    (hS : s.heap.get? S = some { cls := .type "list", dict := none, data := .seq #[] c, slots := #[] })
    (hR : ∀ v h' tk, P (argBest bt (n - 1)) v → Kept h₀ h' → R (.ok (.ret v)) { s with heap := h', toks := tk }) :
    codeAny (model prog w) A (.builtin "min.loop" ⟨[.ref I, .none, .ref S], []⟩) R s := by
  have hSw : S ∉ wr := fun h => hSf (W.sub _ h)
  have hname : (toString "min" ++ toString ".loop" : String) = "min.loop" := by decide
  refine codeAny_builtin F.entry_min_loop ?_
  rw [Around.under_plainId F.plain_min_loop _]
  show wpAny _ A.in1 (seqItems? (.ref S) >>= _) _ _ s
  refine wpAny_bind (wpAny_seqItems hS rfl ?_)
  show wpAny _ A.in1 (tryCatch (pyNext (.ref I)) _ >>= _) _ _ s
  refine wpAny_bind (wpAny_tryCatch (W.item 0 s _ _ hn hst fun v h' tk hP hst' hk' => ?_))
  have hS' := hk' S _ hSw hS
  have k₁ : Kept h₀ h' := fun b o e => hk' b o (fun q => by rw [hw0 _ q] at e; cases e) (hk₀ _ _ e)
  show wpAny _ A.in1 (updateSeq S (fun _ => #[v, v]) >>= _) _ _ _
  refine wpAny_bind ?_
  refine wpAny_updateSeq hS' rfl ?_
  rw [hname]
  refine wpAny_pure ⟨plainId_quiet F.plain_min_loop _, min_loopK W bt hcmp S hSf hS0 hw0 _ 0 _ v _ rfl hn (fun b o e => ?_) (W.frame _ _ _ hst' fun b hbf o e => ?_) hP (Heap.get?_update_self _ hS' rfl) fun v' h'' tk'' hP' hk'' => hR v' h'' tk'' hP' hk''⟩
  · exact (Heap.get?_update_other _ _ (fun q : S = b => by rw [← q, hS0] at e; cases e)).trans (k₁ _ _ e)
  · exact (Heap.get?_update_other _ _ (fun h : S = b => hSf (by rw [h]; exact hbf))).trans e
end
section
variable {prog : Program} {w : World} {A : Around} {E : Value → Shared → Prop} {s : Shared} {B : Heap}
/- the least of a list of tuples of integers, all of one length -/
theorem min_tups {l : Addr} {items : Array Value} {rows : List (List Int)} {z : Nat} {Q : Value → Shared → Prop} (hl : s.heap.PlainList l items) (hz : items.size = rows.length) (hi : ∀ (i : Nat) (r : List Int), rows[i]? = some r → ∃ q, items[i]? = some (.ref q) ∧ TupInts s.heap q r)
    (hlen : ∀ r ∈ rows, r.length = z) (hne : 0 < rows.length) (Ro : Rm A 1 10)
    (h : ∀ (h' : Heap) (tk i : Nat) (r : List Int) (q : Addr), Kept s.heap h' → rows[i]? = some r → (∀ r' ∈ rows, ltL r' r = false) → TupInts h' q r → Q (.ref q) { s with heap := h', toks := tk }) :
    wpAny (model prog w) A (call (.builtin "min") [.ref l]) Q E s := by
  have hname : (toString "min" ++ toString ".loop" : String) = "min.loop" := by decide
  refine call_function_tree F.kind_min F.plain_min F.entry_min (F.args_min1 _) ?_
  show wpAny _ A.in1 (Builtin.Builtins.bindParams "min" ["key", "default"] 0 ⟨[], []⟩ >>= _) _ _ s
  refine wpAny_bind (wpAny_of_eq (show Builtin.Builtins.bindParams "min" ["key", "default"] 0 ⟨[], []⟩ = pure [none, none] from rfl) ?_)
  refine wpAny_bind (wpAny_pure ?_)
  have hlt : l < s.heap.objs.size := by obtain ⟨_, e⟩ := id hl; exact Heap.lt_size e
  refine wpAny_bind (wpAny_pyIter_list hl.isList ?_)
  refine wpAny_bind (wpAny_newObj_type ?_)
  have kI : Kept s.heap (s.heap.push { cls := .type "list_iterator", data := .fields #[.ref l, .int 0 0] }) := fun b o e => Heap.get?_push_of_some _ e
  have hz1 : (s.heap.push { cls := .type "list_iterator", data := .fields #[.ref l, .int 0 0] }).objs.size = s.heap.objs.size + 1 := Heap.size_push _ _
  have W := Walks.list (prog := prog) (w := w) (A := A.in1) Ro.2.2 s.heap.objs.size l (Nat.ne_of_lt hlt) items
  rw [hname]
  refine wpAny_pure ⟨plainId_quiet F.plain_min_loop _, min_loopK_first (h₀ := s.heap) W (fun i j => ltL (rows.getD i []) (rows.getD j [])) (fun i j vi vj s' Q' E' k' h1 h2 hq => ?_) _ (fun q => ?_) ?_ (fun b hb => ?_) (by (first | exact Nat.lt_of_lt_of_eq (by assumption) (Eq.symm (by assumption)) | lia)) (fun b o e => Heap.get?_push_of_some _ (kI _ _ e)) ?_ (Heap.get?_push_size _ rfl) fun v h' tk hv hk => ?_⟩
  · have key : ∀ {i : Nat} {v : Value}, items[i]? = some v → ∃ q, v = .ref q ∧ TupInts s'.heap q (rows.getD i []) ∧ (rows.getD i []).length = z := fun {i v} e => by
      have hlt : i < rows.length := by
        rcases Nat.lt_or_ge i items.size with c | c
        · (first | exact Nat.lt_of_lt_of_eq (by assumption) (by assumption) | lia)
        · rw [Array.getElem?_eq_none c] at e; cases e
      obtain ⟨q, e1, T⟩ := hi i _ (List.getElem?_eq_getElem hlt)
      rw [e1] at e; cases e
      rw [List.getD_eq_getElem?_getD, List.getElem?_eq_getElem hlt]
      exact ⟨q, rfl, T.kept k', hlen _ (List.getElem_mem hlt)⟩
    obtain ⟨q1, rfl, T1, z1⟩ := key h1
    obtain ⟨q2, rfl, T2, z2⟩ := key h2
    exact tup_lt T1 T2 (z1.trans z2.symm) (by have := Ro.2.1; show A.units + 1 < _; (first | lia | omega)) hq
  · rw [hz1] at q
    rcases List.mem_cons.mp q with q | q
    · exact absurd q (Nat.succ_ne_self _)
    · exact absurd (List.mem_singleton.mp q) (Nat.ne_of_gt (Nat.lt_succ_of_lt hlt))
  · rw [hz1]
    cases q : s.heap.get? (s.heap.objs.size + 1) with
    | none => rfl
    | some o => exact absurd (Heap.lt_size q) (Nat.not_lt.mpr (Nat.le_succ _))
  · rw [List.mem_singleton.mp hb]; exact get?_size _
  · refine ⟨⟨_, Heap.get?_push_of_some _ (Heap.get?_push_size _ rfl), rfl, rfl⟩, ((hl.at (kI _)).isList).push _⟩
  · obtain ⟨b1, b2⟩ := argBest_ltL (fun i => rows.getD i []) (z := z) (items.size - 1) (fun i hi => by
      rw [List.getD_eq_getElem?_getD, List.getElem?_eq_getElem (by (first | lia | omega))]
      exact hlen _ (List.getElem_mem _))
    generalize hg : argBest (fun i j => ltL (rows.getD i []) (rows.getD j [])) (items.size - 1) = g at hv b1 b2
    have hgl : g < rows.length := by (first | lia | omega)
    obtain ⟨q, e1, T⟩ := hi g _ (List.getElem?_eq_getElem hgl)
    rw [e1] at hv; cases hv
    refine h h' tk g _ q hk (List.getElem?_eq_getElem hgl) (fun r' hr => ?_) (T.kept hk)
    obtain ⟨j, hj, rfl⟩ := List.getElem_of_mem hr
    have := b2 j (by (first | grind | lia))
    rw [List.getD_eq_getElem?_getD, List.getElem?_eq_getElem hj, List.getD_eq_getElem?_getD, List.getElem?_eq_getElem hgl] at this
    exact this
end
noncomputable def colRow (way : Nat) (H : Int → Int) (sides : List (Int × Int)) (k : Nat) (x b : Int) : List Int := [(Key way H sides k x b).1, (Key way H sides k x b).2, (k : Int), x, b]
structure RowsOk (way : Nat) (H : Int → Int) (W Hi : Int) (sides : List (Int × Int)) (i : Nat) (j : Int) (rows : List (List Int)) : Prop where
  only : ∀ r ∈ rows, ∃ k x b, Col H W Hi sides k x b ∧ r = colRow way H sides k x b
  all : ∀ k x b, k < i ∨ (k = i ∧ x < j) → Col H W Hi sides k x b → colRow way H sides k x b ∈ rows
theorem Col.uniq {H : Int → Int} {W Hi : Int} {sides : List (Int × Int)} {k : Nat} {x b b' : Int} (h : Col H W Hi sides k x b) (h' : Col H W Hi sides k x b') : b = b' := by
  obtain ⟨w, l, e, _, _, B, _⟩ := h
  obtain ⟨w', l', e', _, _, B', _⟩ := h'
  rw [e] at e'; cases e'
  exact B.uniq B'
theorem RowsOk.nil {way : Nat} {H : Int → Int} {W Hi : Int} {sides : List (Int × Int)} : RowsOk way H W Hi sides 0 0 [] where
  only := fun r h => by cases h
  all := fun k x b h c => by
    obtain ⟨w, l, _, h0, _⟩ := c
    rcases h with h | h
    · cases h
    · (first | lia | omega)
theorem RowsOk.skip {way : Nat} {H : Int → Int} {W Hi : Int} {sides : List (Int × Int)} {i : Nat} {j : Int} {rows : List (List Int)} (R : RowsOk way H W Hi sides i j rows) (h : ∀ b, ¬ Col H W Hi sides i j b) : RowsOk way H W Hi sides i (j + 1) rows where
  only := R.only
  all := fun k x b d c => by
    rcases d with d | ⟨rfl, d⟩
    · exact R.all k x b (.inl d) c
    · by_cases e : x = j
      · rw [e] at c; exact absurd c (h b)
      · exact R.all k x b (.inr ⟨rfl, by (first | lia | omega)⟩) c
theorem RowsOk.add {way : Nat} {H : Int → Int} {W Hi : Int} {sides : List (Int × Int)} {i : Nat} {j b : Int} {rows : List (List Int)} (R : RowsOk way H W Hi sides i j rows) (h : Col H W Hi sides i j b) : RowsOk way H W Hi sides i (j + 1) (rows ++ [colRow way H sides i j b]) where
  only := fun r hr => by
    rcases List.mem_append.mp hr with q | q
    · exact R.only r q
    · exact ⟨i, j, b, h, List.mem_singleton.mp q⟩
  all := fun k x b' d c => by
    rcases d with d | ⟨rfl, d⟩
    · exact List.mem_append_left _ (R.all k x b' (.inl d) c)
    · by_cases e : x = j
      · subst e
        rw [c.uniq h]
        exact List.mem_append_right _ (.head _)
      · exact List.mem_append_left _ (R.all k x b' (.inr ⟨rfl, by (first | lia | omega)⟩) c)
theorem RowsOk.next {way : Nat} {H : Int → Int} {W Hi w l : Int} {sides : List (Int × Int)} {i : Nat} {j : Int} {rows : List (List Int)} (R : RowsOk way H W Hi sides i j rows) (e : sides[i]? = some (w, l)) (hj : W - w < j) : RowsOk way H W Hi sides (i + 1) 0 rows where
  only := R.only
  all := fun k x b d c => by
    rcases d with d | ⟨_, d⟩
    · rcases Nat.lt_or_ge k i with q | q
      · exact R.all k x b (.inl q) c
      · have ek : k = i := by (first | lia | omega)
        subst ek
        refine R.all k x b (.inr ⟨rfl, ?_⟩) c
        obtain ⟨w', l', e', _, h1, _⟩ := c
        rw [e] at e'; cases e'
        (first | lia | omega)
    · obtain ⟨w', l', e', h0, _⟩ := c
      (first | lia | omega)
theorem Key.lt5 {a b c d e a' b' c' d' e' : Int} (h : ltL [a', b', c', d', e'] [a, b, c, d, e] = false) : a < a' ∨ (a = a' ∧ (b < b' ∨ (b = b' ∧ (c < c' ∨ (c = c' ∧ d ≤ d'))))) := by
  rw [ltL_cons] at h
  by_cases e1 : a' = a
  · rw [if_pos e1, ltL_cons] at h
    refine .inr ⟨e1.symm, ?_⟩
    by_cases e2 : b' = b
    · rw [if_pos e2, ltL_cons] at h
      refine .inr ⟨e2.symm, ?_⟩
      by_cases e3 : c' = c
      · rw [if_pos e3, ltL_cons] at h
        refine .inr ⟨e3.symm, ?_⟩
        by_cases e4 : d' = d
        · (first | exact Int.le_of_eq (Eq.symm (by assumption)) | lia)
        · rw [if_neg e4] at h; simp only [decide_eq_false_iff_not] at h; (first | exact Int.not_lt.mp (by assumption) | lia)
      · rw [if_neg e3] at h; simp only [decide_eq_false_iff_not] at h; (first | exact Or.inl (by lia) | lia)
    · rw [if_neg e2] at h; simp only [decide_eq_false_iff_not] at h; (first | exact Or.inl (by lia) | lia)
  · rw [if_neg e1] at h; simp only [decide_eq_false_iff_not] at h; (first | exact Or.inl (by lia) | lia)
theorem RowsOk.due {way : Nat} {H : Int → Int} {W Hi : Int} {sides : List (Int × Int)} {rows : List (List Int)} (R : RowsOk way H W Hi sides sides.length 0 rows) {r : List Int} (hr : r ∈ rows) (hm : ∀ r' ∈ rows, ltL r' r = false) : ∃ k x b, r = colRow way H sides k x b ∧ IsDue way H W Hi sides k x b := by
  obtain ⟨k, x, b, C, rfl⟩ := R.only r hr
  refine ⟨k, x, b, rfl, C, fun k' x' b' C' => ?_⟩
  have hk : k' < sides.length := by
    obtain ⟨w, l, e, _⟩ := C'
    rcases Nat.lt_or_ge k' sides.length with q | q
    · exact q
    · rw [List.getElem?_eq_none q] at e; cases e
  have := Key.lt5 (hm _ (R.all k' x' b' (.inl hk) C'))
  unfold LexLe
  simp only [Int.ofNat_lt, Int.ofNat_inj] at this
  exact this
theorem RowsOk.none {way : Nat} {H : Int → Int} {W Hi : Int} {sides : List (Int × Int)} (R : RowsOk way H W Hi sides sides.length 0 []) (k : Nat) (x b : Int) : ¬ Col H W Hi sides k x b := fun C => by
  have hk : k < sides.length := by
    obtain ⟨w, l, e, _⟩ := C
    rcases Nat.lt_or_ge k sides.length with q | q
    · exact q
    · rw [List.getElem?_eq_none q] at e; cases e
  have := R.all k x b (.inl hk) C
  cases this
/- the column tops -/
noncomputable def Tops (H : Int → Int) (W : Nat) : List Int := (List.range W).map fun i : Nat => H i
theorem Tops.len (H : Int → Int) (W : Nat) : (Tops H W).length = W := by unfold Tops; simp
theorem Tops.cut (H : Int → Int) {W x w : Nat} (h : x + w ≤ W) : ((Tops H W).drop x).take w = (List.range w).map fun i : Nat => H ((x : Int) + (i : Int)) := by
  refine List.ext_getElem? fun i => ?_
  unfold Tops
  rw [List.getElem?_take, List.getElem?_drop, List.getElem?_map, List.getElem?_map]
  split
  · rename_i hi
    rw [List.getElem?_range (by (first | lia | omega)), List.getElem?_range (by (first | omega | lia))]
    simp
  · rename_i hi
    rw [List.getElem?_eq_none (l := List.range w) (by simpa using Nat.le_of_not_lt hi)]; rfl
theorem Tops.base {H : Int → Int} {x w : Nat} {M : Int} (h1 : M ∈ (List.range w).map fun i : Nat => H ((x : Int) + (i : Int))) (h2 : ∀ a, a ∈ ((List.range w).map fun i : Nat => H ((x : Int) + (i : Int))) → a ≤ M) : IsBase H x w M := by
  obtain ⟨i, hi, e⟩ := List.mem_map.mp h1
  rw [List.mem_range] at hi
  refine ⟨fun z h3 h4 => h2 _ (List.mem_map.mpr ⟨(z - x).toNat, by rw [List.mem_range]; (first | lia | omega), ?_⟩), x + i, by (first | lia | omega), by (first | lia | omega), e⟩
  rw [show (x : Int) + ((z - x).toNat : Nat) = z by (first | grind | lia)]
theorem Tops.sum (H : Int → Int) (x w : Nat) : ((List.range w).map fun i : Nat => H ((x : Int) + (i : Int))).sum = Rs H x w := rfl
noncomputable def RowsIn (h : Heap) (items : Array Value) (rows : List (List Int)) : Prop := items.size = rows.length ∧ ∀ (i : Nat) (r : List Int), rows[i]? = some r → ∃ q, items[i]? = some (Value.ref q) ∧ TupInts h q r
theorem RowsIn.kept {h h' : Heap} {items : Array Value} {rows : List (List Int)} (R : RowsIn h items rows) (k : Kept h h') : RowsIn h' items rows := ⟨R.1, fun i r e => let ⟨q, a, b⟩ := R.2 i r e; ⟨q, a, b.kept k⟩⟩
theorem RowsIn.push {h : Heap} {items : Array Value} {rows : List (List Int)} {q : Addr} {r : List Int} (R : RowsIn h items rows) (T : TupInts h q r) : RowsIn h (items.push (.ref q)) (rows ++ [r]) := by
  refine ⟨by rw [Array.size_push, List.length_append, R.1]; rfl, fun i r' e => ?_⟩
  rcases Nat.lt_or_ge i rows.length with c | c
  · rw [List.getElem?_append_left c] at e
    obtain ⟨q', a, b⟩ := R.2 i r' e
    exact ⟨q', by rw [Array.getElem?_push, if_neg (by have := R.1; (first | lia | omega))]; exact a, b⟩
  · rw [List.getElem?_append_right c] at e
    have hi : i = rows.length := by
      rcases Nat.lt_or_ge (i - rows.length) 1 with q | q
      · (first | grind | lia)
      · rw [List.getElem?_eq_none (by simpa using q)] at e; cases e
    subst hi
    rw [Nat.sub_self] at e
    cases e
    exact ⟨q, by rw [Array.getElem?_push, if_pos R.1.symm], T⟩
theorem RowsIn.odd {h h' : Heap} {items : Array Value} {rows : List (List Int)} {l : Addr} (R : RowsIn h items rows) (hl : Odd h l) (k : But l h h') : RowsIn h' items rows := ⟨R.1, fun i r e => by
  obtain ⟨q, a, vs, ⟨n, T⟩, c⟩ := R.2 i r e
  refine ⟨q, a, vs, ⟨n, k _ _ ?_ T⟩, c⟩
  rintro rfl
  exact (hl _ T).2.2 _ _ rfl⟩
/- the sides -/
noncomputable def SidesAt (h : Heap) (items : Array Value) (sides : List (Int × Int)) : Prop := items.size = sides.length ∧ ∀ (i : Nat) (p : Int × Int), sides[i]? = some p → ∃ q t1 t2, items[i]? = some (Value.ref q) ∧ TupAt h q #[.int p.1 t1, .int p.2 t2]
theorem SidesAt.kept {h h' : Heap} {items : Array Value} {sides : List (Int × Int)} (R : SidesAt h items sides) (k : Kept h h') : SidesAt h' items sides := ⟨R.1, fun i r e => let ⟨q, t1, t2, a, b⟩ := R.2 i r e; ⟨q, t1, t2, a, b.kept k⟩⟩
section
variable {prog : Program} {w : World} {A : Around} {E : Value → Shared → Prop} {s : Shared} {B : Heap}
theorem m_tuple {M : Model} {env : Env} {elts : List PySem.Expr} {k : Nat} {pos : Pos} {Q : Value → Shared → Prop}
    (h : wpAny M A (spliced (backTo pos (starEach elts env))) (fun vs s₁ => vs.length ≤ 100 ∧ ∀ (q : Addr) (h' : Heap), Kept s₁.heap h' → s₁.heap.get? q = none → TupAt h' q vs.toArray → Q (.ref q) { s₁ with heap := h' }) E s) : wpAny M A (eval (.Tuple elts k pos) env) Q E s :=
  wpAny_Tuple (wpAny_mono h (fun vs s₁ z => ⟨by rw [sizeLine_eq]; (first | lia | omega), z.2 _ _ (Kept.push _ _) (get?_size _) ⟨_, Heap.get?_push_size _ rfl⟩⟩) fun _ _ z => z)
theorem m_list {M : Model} {env : Env} {elts : List PySem.Expr} {pos : Pos} {Q : Value → Shared → Prop}
    (h : wpAny M A (spliced (backTo pos (starEach elts env))) (fun vs s₁ => vs.length ≤ 100 ∧ ∀ (q : Addr) (h' : Heap), Kept s₁.heap h' → s₁.heap.get? q = none → h'.PlainList q vs.toArray → Q (.ref q) { s₁ with heap := h' }) E s) : wpAny M A (eval (.List elts pos) env) Q E s :=
  wpAny_List (wpAny_mono h (fun vs s₁ z => ⟨by rw [sizeLine_eq]; (first | lia | omega), z.2 _ _ (Kept.push _ _) (get?_size _) ⟨_, Heap.get?_push_size _ rfl⟩⟩) fun _ _ z => z)
structure PlM (m : Str → Option Value) (a ta sa : Addr) (way : Nat) (ty : Tok) (Hi : Int) (th : Tok) : Prop where
  f : m "found" = some (.ref a)
  y : m "way" = some (.int (way : Int) ty)
  t : m "tops" = some (.ref ta)
  h : m "high" = some (.int Hi th)
  s : m "sides" = some (.ref sa)
inductive PlJ (a ta sa : Addr) (way : Nat) (H : Int → Int) (W : Nat) (Hi : Int) (sides : List (Int × Int)) (ty th : Tok) (i : Nat) (B h : Heap) (m : Str → Option Value) : Prop
  | mk (items : Array Value) (rows : List (List Int)) (f1 : h.PlainList a items) (f2 : RowsIn B items rows) (f3 : RowsOk way H W Hi sides i 0 rows) (f4 : rows.length ≤ 9 * i) (f5 : PlM m a ta sa way ty Hi th) : PlJ a ta sa way H W Hi sides ty th i B h m
inductive PlK (a ta sa : Addr) (way : Nat) (H : Int → Int) (W : Nat) (Hi : Int) (sides : List (Int × Int)) (ty th : Tok) (i : Nat) (wd lg : Int) (tv tw tl : Tok) (j : Nat) (B h : Heap) (m : Str → Option Value) : Prop
  | mk (items : Array Value) (rows : List (List Int)) (f1 : h.PlainList a items) (f2 : RowsIn B items rows) (f3 : RowsOk way H W Hi sides i j rows) (f4 : rows.length ≤ 9 * i + j) (f5 : PlM m a ta sa way ty Hi th) (f6 : m "k" = some (.int (i : Int) tv)) (f7 : m "w" = some (.int wd tw)) (f8 : m "h" = some (.int lg tl)) : PlK a ta sa way H W Hi sides ty th i wd lg tv tw tl j B h m
theorem law_place {ta sa : Addr} {way W : Nat} {Hi : Int} {ty th : Tok} {H : Int → Int} {vs : List Value} {its : Array Value} {sides : List (Int × Int)} {R : Result → Shared → Prop} (Wk : Wd w s.heap) (ht : s.heap.PlainList ta vs.toArray) (hi : IntsAre vs (Tops H W)) (hW : W ≤ 8) (hway : way < 3)
    (hs : s.heap.PlainList sa its) (hS : SidesAt s.heap its sides) (hsz : sides.length ≤ 2) (hpos : ∀ p ∈ sides, 0 < p.1) (Ro : Rm A 6 80)
    (hnone : ∀ h' tk, Kept s.heap h' → (∀ k x b, ¬ Col H W Hi sides k x b) → R (.ok (.ret .none)) { s with heap := h', toks := tk })
    (hsome : ∀ h' tk q k x b, Kept s.heap h' → TupInts h' q (colRow way H sides k x b) → IsDue way H W Hi sides k x b → R (.ok (.ret (.ref q))) { s with heap := h', toks := tk }) :
    codeAny (model prog w) A (.call (.ref 758) ⟨[.int (way : Int) ty, .ref ta, .int Hi th, .ref sa], []⟩) R s := by
  have Ro : Rm A (5 + 1) (70 + 3) := Ro.le (by decide) (by decide)
  ((refine' code_fn ([("way", .int (way : Int) ty), ("tops", .ref ta), ("high", .int Hi th), ("sides", .ref sa)]) ?k0 ?kk ?k1 ?k2 ?k3 ?k4 ?k5 ?k6 ?k7 ?k8 ?k9 ?k10 ?k11 ?k12 ?_); (case k0 => assumption); (case kk => (first | assumption | exact Fz.keep (by assumption) | exact Kept.refl _)); (case k2 => k_is); (case k3 => k_is); (case k4 => rfl); (case k5 => exact binds_eq rfl); (case k6 => rfl); (case k7 => rfl); (case k8 => rfl); (case k9 => rfl); (case k10 => rfl); (case k11 => rfl); (case k12 => rfl); (case k1 => assumption); intro A' L env h₁ R' V F; (try dsimp only at V F); (try dsimp only))
  have X := Fm.of Wk F
  clear F
  repeat walk_at "sky_m0"
  refine wpAny_List ?_
  repeat walk_at "sky_m0"
  refine ⟨Nat.zero_le _, ?_⟩
  have hla := push_list h₁ []
  have fa : s.heap.get? h₁.objs.size = none := X.fresh (get?_size _)
  have X := (X.step (Kept.push h₁ { cls := .type "list", data := .seq #[] })).hide hla fa
  generalize h₁.objs.size = a at hla X fa ⊢
  (((try (with_reducible first | refine Next.next (by assumption) ?_ | refine Next.ret (by assumption) ?_ | refine Next.cont (by assumption) ?_ | refine Next.brk (by assumption) ?_ | refine IfK.go (by assumption) ?_ | refine AsK.go (by assumption) ?_)); (with_reducible show wpAny _ _ (storeName _ _ _) _ _ _); refine m_store (by assumption) (by assumption) (by exact rfl) ?_))
  intro h₂ tkσ X₂ l₂ b₂
  try dsimp only at X₂ l₂ b₂ ⊢
  have hla₂ := l₂ _ _ hla
  clear X hla l₂ b₂
  repeat walk_at "sky_m0"
  refine wpAny_For ?_ (by intro _; rfl)
  repeat walk_at "sky_m0"
  refine len_list (hs.at (X₂.keep _)).isList (by have := hS.1; (first | lia | omega)) ?_
  repeat walk_at "sky_m0"
  refine call_range_1 ?_
  try dsimp only
  have naL := X₂.ne hla₂
  have kp := Kept.push h₂
  let J : Nat → Heap → Heap → (Str → Option Value) → Prop := PlJ a ta sa way H W Hi sides ty th
  refine for_rangeA (n := sides.length) V R'.2.2 rfl [a] (X₂.step (kp _)).F X₂.hid (fun b hb => ?_) (IsRange.new ..) ?_ J ?_ ?_ ?_ ?_ ?_
  · rw [List.mem_singleton.mp hb]; obtain ⟨n, e⟩ := hla₂; exact ⟨_, kp _ _ _ e⟩
  · rw [PySem.rangeSize_one]
    have := hS.1
    split <;> (first | lia | omega)
  · exact ⟨_, [], hla₂.at (kp _ _), ⟨rfl, fun i r e => by simp at e⟩, RowsOk.nil, Nat.zero_le _, ⟨by ((repeat (first | assumption | exact if_pos rfl | refine (if_neg (by decide)).trans ?_))), (by ((repeat (first | assumption | exact if_pos rfl | refine (if_neg (by decide)).trans ?_))); rfl), (by ((repeat (first | assumption | exact if_pos rfl | refine (if_neg (by decide)).trans ?_))); rfl), (by ((repeat (first | assumption | exact if_pos rfl | refine (if_neg (by decide)).trans ?_))); rfl), (by ((repeat (first | assumption | exact if_pos rfl | refine (if_neg (by decide)).trans ?_))); rfl)⟩⟩
  · rintro I hI i B₂ B₃ h₃ h' m' ⟨items, rows, l3, P3, r3, r4, r5⟩ odd b1 b2
    refine ⟨items, rows, l3.at fun o e => b2 _ _ ?_ naL e, P3.odd odd b1, r3, r4, r5⟩
    obtain ⟨n, e⟩ := hla₂
    exact ne_of_get (kp _ _ _ e) hI
  · rintro i v B₁ h₃ m₁ tk₃ hi₁ ⟨tv, rfl⟩ ⟨items, rows, l3, RI, RO, hz, G⟩ kB₁ F₃ hh₃
    have ej : ((0 : Int) + (i : Int) * 1) = (i : Int) := by (first | (simp; done) | lia)
    rw [ej] at F₃
    have X₃ : Fm w [a] B₁ L h₃ (upd "k" (.int (i : Int) tv) m₁) := ⟨X₂.W.keeps kB₁, F₃, hh₃, fun b hb => by rw [List.mem_singleton.mp hb]; exact Has.plain l3⟩
    obtain ⟨g1, g2, g3, g4, g5⟩ := G
    obtain ⟨⟨wd, lg⟩, hp⟩ : ∃ p, sides[i]? = some p := ⟨_, List.getElem?_eq_getElem hi₁⟩
    obtain ⟨tq, tw, tl, hq, Tq⟩ := hS.2 i _ hp
    have hwd : 0 < wd := hpos _ (List.mem_of_getElem? hp)
    try dsimp only at Tq
    unfold LoopBody
    clear X₂ F₃
    repeat walk_at "sky_m0"
    refine Assign_Tuple ?_
    repeat walk_at "sky_m0"
    refine item_at (i := i) ((hs.at (kB₁ _)).at (X₃.keep _)).isList rfl hq (by have := hS.1; (first | lia | omega)) ?_ rfl
    refine m_unpack2 V X₃ R'.2.2 ((Tq.kept kB₁).kept X₃.keep) rfl rfl fun h₄ tk₄ X₄ l₄ b₄ => ?_
    try dsimp only at l₄ b₄ ⊢
    have l4 := l₄ _ _ l3
    clear X₃ l₄ b₄ l3
    refine gen5 (fun m₄ => Fm w [a] B₁ L h₄ m₄) (fun m₄ => PlM m₄ a ta sa way ty Hi th) (fun m₄ => m₄ "k" = some (.int (i : Int) tv)) (fun m₄ => m₄ "w" = some (.int wd tw)) (fun m₄ => m₄ "h" = some (.int lg tl))
      X₄ ⟨by ((repeat (first | assumption | exact if_pos rfl | refine (if_neg (by decide)).trans ?_))), by ((repeat (first | assumption | exact if_pos rfl | refine (if_neg (by decide)).trans ?_))), by ((repeat (first | assumption | exact if_pos rfl | refine (if_neg (by decide)).trans ?_))), by ((repeat (first | assumption | exact if_pos rfl | refine (if_neg (by decide)).trans ?_))), by ((repeat (first | assumption | exact if_pos rfl | refine (if_neg (by decide)).trans ?_)))⟩ (by ((repeat (first | assumption | exact if_pos rfl | refine (if_neg (by decide)).trans ?_)))) (by ((repeat (first | assumption | exact if_pos rfl | refine (if_neg (by decide)).trans ?_)))) (by ((repeat (first | assumption | exact if_pos rfl | refine (if_neg (by decide)).trans ?_))))
      (fun m₄ X₄ G₄ ek ew eh => ?_)
    clear g1 g2 g3 g4 g5
    obtain ⟨g1, g2, g3, g4, g5⟩ := G₄
    have hvl : vs.length = W := (PyProof.Rows.ints_len_eq hi).trans (Tops.len H W)
    have htB := ht.at (kB₁ _)
    repeat walk_at "sky_m0"
    refine wpAny_For ?_ (by intro _; rfl)
    repeat walk_at "sky_m0"
    refine len_list (htB.at (X₄.keep _)).isList (by rw [List.size_toArray]; (first | lia | omega)) ?_
    repeat walk_at "sky_m0"
    refine call_range_1 ?_
    try dsimp only
    rw [show vs.toArray.size = W by rw [List.size_toArray, hvl]]
    have kp₄ := Kept.push h₄
    let J' : Nat → Heap → Heap → (Str → Option Value) → Prop := PlK a ta sa way H W Hi sides ty th i wd lg tv tw tl
    refine for_rangeA (n := ((W : Int) - wd + 1).toNat) V R'.2.2 rfl [a] (X₄.step (kp₄ _)).F X₄.hid (fun b hb => ?_) (IsRange.new ..) ?_ J' ?_ ?_ ?_ ?_ ?_
    · rw [List.mem_singleton.mp hb]; obtain ⟨n, e⟩ := l4; exact ⟨_, kp₄ _ _ _ e⟩
    · rw [PySem.rangeSize_one]
      split <;> (first | grind | lia)
    · exact ⟨items, rows, l4.at (kp₄ _ _), RI, RO, by (first | omega | lia), ⟨g1, g2, g3, g4, g5⟩, ek, ew, eh⟩
    · rintro I hI j B₂ B₃ h₃ h' m' ⟨items, rows, l5, P5, r5, r6, r7, r8, r9, r10⟩ odd b1 b2
      refine ⟨items, rows, l5.at fun o e => b2 _ _ ?_ naL e, P5.odd odd b1, r5, r6, r7, r8, r9, r10⟩
      obtain ⟨n, e⟩ := l4
      exact ne_of_get (kp₄ _ _ _ e) hI
    · clear l4 RI RO hz rows items
      rintro j v B₂ h₅ m₅ tk₅ hj ⟨tx, rfl⟩ ⟨items, rows, l5, RI, RO, hz, ⟨g1, g2, g3, g4, g5⟩, ek, ew, eh⟩ kB₂ F₅ hh₅
      have ej : ((0 : Int) + (j : Int) * 1) = (j : Int) := by (first | (simp; done) | lia)
      rw [ej] at F₅
      obtain ⟨wn, rfl⟩ : ∃ wn : Nat, wd = (wn : Int) := ⟨wd.toNat, by (first | grind | lia)⟩
      have hxw : j + wn ≤ W := by (first | lia | omega)
      have X₅ : Fm w [a] B₂ L h₅ (upd "x" (.int (j : Int) tx) m₅) := ⟨X₄.W.keeps kB₂, F₅, hh₅, fun b hb => by rw [List.mem_singleton.mp hb]; exact Has.plain l5⟩
      refine gen6 (fun m₆ => Fm w [a] B₂ L h₅ m₆) (fun m₆ => PlM m₆ a ta sa way ty Hi th) (fun m₆ => m₆ "k" = some (.int (i : Int) tv)) (fun m₆ => m₆ "w" = some (.int (wn : Int) tw)) (fun m₆ => m₆ "h" = some (.int lg tl)) (fun m₆ => m₆ "x" = some (.int (j : Int) tx))
        X₅ ⟨by ((repeat (first | assumption | exact if_pos rfl | refine (if_neg (by decide)).trans ?_))), by ((repeat (first | assumption | exact if_pos rfl | refine (if_neg (by decide)).trans ?_))), by ((repeat (first | assumption | exact if_pos rfl | refine (if_neg (by decide)).trans ?_))), by ((repeat (first | assumption | exact if_pos rfl | refine (if_neg (by decide)).trans ?_))), by ((repeat (first | assumption | exact if_pos rfl | refine (if_neg (by decide)).trans ?_)))⟩ (by ((repeat (first | assumption | exact if_pos rfl | refine (if_neg (by decide)).trans ?_)))) (by ((repeat (first | assumption | exact if_pos rfl | refine (if_neg (by decide)).trans ?_)))) (by ((repeat (first | assumption | exact if_pos rfl | refine (if_neg (by decide)).trans ?_)))) (by ((repeat (first | assumption | exact if_pos rfl | refine (if_neg (by decide)).trans ?_))))
        (fun m₆ X₅ G₆ ek ew eh ex => ?_)
      clear g1 g2 g3 g4 g5
      obtain ⟨g1, g2, g3, g4, g5⟩ := G₆
      have htB₂ := htB.at (kB₂ _)
      have hcut : IntsAre ((vs.drop j).take wn) ((List.range wn).map fun i : Nat => H ((j : Int) + (i : Int))) := by
        rw [← Tops.cut H hxw]; exact (hi.drop j).take wn
      have ep : slicePick vs.toArray (some (j : Int)) (some ((j : Int) + (wn : Int))) none = ((vs.drop j).take wn).toArray := by
        have := pick_mid vs.toArray (a := j) (b := j + wn) (by (first | exact Nat.le_add_right _ _ | lia)) (by rw [List.size_toArray]; (first | exact Nat.le_trans (by assumption) (by lia) | lia))
        rw [show ((j + wn : Nat) : Int) = (j : Int) + (wn : Int) by (first | rfl | lia), show j + wn - j = wn by (first | (simp; done) | lia)] at this
        exact this
      unfold LoopBody
      repeat walk_at "sky_m0"
      refine wpAny_Slice ?_
      rw [evalPart_some]
      repeat walk_at "sky_m0"
      rw [evalPart_some]
      repeat walk_at "sky_m0"
      rw [evalPart_none]
      refine wpAny_pure ?_
      try dsimp only
      have hz100 : vs.toArray.size ≤ 1000 := by rw [List.size_toArray, hvl]; (first | exact Nat.le_trans (by assumption) (by decide) | lia)
      refine' slice_tail (s := ⟨h₅, s.gens, s.drawn, _, s.os⟩) (items := vs.toArray) (htB₂.at (X₅.keep _)).isList (.int _ _) (.int _ _) .none (by simp) hz100 ?_ ?hs
      case hs => rfl
      intro a₁ h₆ k₆ na₁ l₆
      try dsimp only at l₆ k₆ ⊢
      rw [ep] at l₆
      have X₆ := X₅.step k₆
      have l6 := l5.at (k₆ _)
      clear X₅ k₆ l5
      repeat walk_at "sky_m0"
      refine max_ints R'.2.2 l₆.isList hcut (by rw [List.length_map, List.length_range]; (first | lia | omega)) fun h₇ M tM tk₇ k₇ hM1 hM2 => ?_
      try dsimp only at k₇ ⊢
      have hbase := Tops.base hM1 hM2
      have X₇ := X₆.step k₇
      have l7 := l6.at (k₇ _)
      clear X₆ k₇ l₆ l6 hM1 hM2
      (((try (with_reducible first | refine Next.next (by assumption) ?_ | refine Next.ret (by assumption) ?_ | refine Next.cont (by assumption) ?_ | refine Next.brk (by assumption) ?_ | refine IfK.go (by assumption) ?_ | refine AsK.go (by assumption) ?_)); (with_reducible show wpAny _ _ (storeName _ _ _) _ _ _); refine m_store (by assumption) (by assumption) (by exact rfl) ?_))
      intro h₈ tkσ X₈ l₈ _
      try dsimp only at l₈ ⊢
      have l8 := l₈ _ _ l7
      clear X₇ l₈ l7
      repeat walk_at "sky_m0"
      refine PyProof.Rows.mul_int ?_ (IntMulOk.of_right (intBits_le_64 (by (first | lia | omega)) (by (first | lia | omega))))
      repeat walk_at "sky_m0"
      refine wpAny_Slice ?_
      rw [evalPart_some]
      repeat walk_at "sky_m0"
      rw [evalPart_some]
      repeat walk_at "sky_m0"
      rw [evalPart_none]
      refine wpAny_pure ?_
      try dsimp only
      refine' slice_tail (s := ⟨h₈, s.gens, s.drawn, _, s.os⟩) (items := vs.toArray) (htB₂.at (X₈.keep _)).isList (.int _ _) (.int _ _) .none (by simp) hz100 ?_ ?hs
      case hs => rfl
      intro a₂ h₉ k₉ na₂ l₉
      try dsimp only at l₉ k₉ ⊢
      rw [ep] at l₉
      have X₉ := X₈.step k₉
      have l9 := l8.at (k₉ _)
      clear X₈ k₉ l8
      repeat walk_at "sky_m0"
      refine sum_ints R'.2.2 l₉.isList hcut fun hA tA tkA kA => ?_
      rw [Tops.sum]
      try dsimp only at kA ⊢
      have XA := X₉.step kA
      have lA := l9.at (kA _)
      clear X₉ kA l₉ l9
      repeat walk_at "sky_m0"
      (((try (with_reducible first | refine Next.next (by assumption) ?_ | refine Next.ret (by assumption) ?_ | refine Next.cont (by assumption) ?_ | refine Next.brk (by assumption) ?_ | refine IfK.go (by assumption) ?_ | refine AsK.go (by assumption) ?_)); (with_reducible show wpAny _ _ (storeName _ _ _) _ _ _); refine m_store (by assumption) (by assumption) (by exact rfl) ?_))
      intro hB tkσ XB lB _
      try dsimp only at lB ⊢
      have l10 := lB _ _ lA
      clear XA lB lA
      refine gen8 (fun mB => Fm w [a] B₂ L hB mB) (fun mB => PlM mB a ta sa way ty Hi th) (fun mB => mB "k" = some (.int (i : Int) tv)) (fun mB => mB "w" = some (.int (wn : Int) tw)) (fun mB => mB "h" = some (.int lg tl)) (fun mB => mB "x" = some (.int (j : Int) tx)) (fun mB => (∃ t, mB "base" = some (.int M t))) (fun mB => ∃ t, mB "waste" = some (.int (M * (wn : Int) - Rs H j wn) t))
        XB ⟨by ((repeat (first | assumption | exact if_pos rfl | refine (if_neg (by decide)).trans ?_))), by ((repeat (first | assumption | exact if_pos rfl | refine (if_neg (by decide)).trans ?_))), by ((repeat (first | assumption | exact if_pos rfl | refine (if_neg (by decide)).trans ?_))), by ((repeat (first | assumption | exact if_pos rfl | refine (if_neg (by decide)).trans ?_))), by ((repeat (first | assumption | exact if_pos rfl | refine (if_neg (by decide)).trans ?_)))⟩ (by ((repeat (first | assumption | exact if_pos rfl | refine (if_neg (by decide)).trans ?_)))) (by ((repeat (first | assumption | exact if_pos rfl | refine (if_neg (by decide)).trans ?_)))) (by ((repeat (first | assumption | exact if_pos rfl | refine (if_neg (by decide)).trans ?_)))) (by ((repeat (first | assumption | exact if_pos rfl | refine (if_neg (by decide)).trans ?_)))) ⟨_, by ((repeat (first | assumption | exact if_pos rfl | refine (if_neg (by decide)).trans ?_)))⟩ ⟨_, by ((repeat (first | assumption | exact if_pos rfl | refine (if_neg (by decide)).trans ?_)))⟩
        (fun mB XB GB ek ew eh ex q7_ q8_ => ?_)
      obtain ⟨tb, eb⟩ := q7_
      obtain ⟨tws, ews⟩ := q8_
      clear g1 g2 g3 g4 g5
      obtain ⟨g1, g2, g3, g4, g5⟩ := GB
      repeat walk_at "sky_m0"
      (try (with_reducible first | refine Next.next (by assumption) ?_ | refine Next.ret (by assumption) ?_ | refine Next.cont (by assumption) ?_ | refine Next.brk (by assumption) ?_ | refine IfK.go (by assumption) ?_ | refine AsK.go (by assumption) ?_))
      refine ite_d (fun c1 => ?_) (fun c1 => ?_)
      · have hcol : Col H W Hi sides i j M := ⟨wn, lg, hp, by (first | lia | omega), by (first | exact Int.ofNat_le.mpr (by assumption) | lia), hbase, c1⟩
        repeat walk_at "sky_m0"
        refine Assign_Tuple ?_
        repeat walk_at "sky_m0"
        refine m_list ?_
        repeat walk_at "sky_m0"
        refine m_tuple ?_
        repeat walk_at "sky_m0"
        refine ⟨by show 2 ≤ 100; decide, fun q₁ hC kC nC T₁ => ?_⟩
        try dsimp only [List.nil_append, List.cons_append] at kC nC T₁ ⊢
        have XC := XB.step kC
        have l11 := l10.at (kC _)
        clear XB kC nC l10
        repeat walk_at "sky_m0"
        refine m_tuple ?_
        repeat walk_at "sky_m0"
        refine ⟨by show 2 ≤ 100; decide, fun q₂ hD kD nD T₂ => ?_⟩
        try dsimp only [List.nil_append, List.cons_append] at kD nD T₂ ⊢
        have XD := XC.step kD
        have l12 := l11.at (kD _)
        have T₁ := T₁.kept kD
        clear XC kD nD l11
        repeat walk_at "sky_m0"
        refine m_tuple ?_
        repeat walk_at "sky_m0"
        refine ⟨by show 2 ≤ 100; decide, fun q₃ hE kE nE T₃ => ?_⟩
        try dsimp only [List.nil_append, List.cons_append] at kE nE T₃ ⊢
        have XE := XD.step kE
        have l13 := l12.at (kE _)
        have T₁ := T₁.kept kE
        have T₂ := T₂.kept kE
        clear XD kE nE l12
        repeat walk_at "sky_m0"
        refine ⟨by show 3 ≤ 100; decide, fun a₃ hF kF nF LF => ?_⟩
        try dsimp only [List.nil_append, List.cons_append] at kF nF LF ⊢
        have XF := XE.step kF
        have l14 := l13.at (kF _)
        have T₁ := T₁.kept kF
        have T₂ := T₂.kept kF
        have T₃ := T₃.kept kF
        clear XE kF nF l13
        repeat walk_at "sky_m0"
        obtain ⟨qp, t₁, t₂, hqp, Tp⟩ : ∃ qp t₁ t₂, #[Value.ref q₁, Value.ref q₂, Value.ref q₃][way]? = some (Value.ref qp) ∧ TupAt hF qp #[.int (m1 way M lg wn (Rs H j wn)) t₁, .int (m2 way M lg) t₂] := by
          rcases (show way = 0 ∨ way = 1 ∨ way = 2 by (first | lia | omega)) with rfl | rfl | rfl
          · exact ⟨q₁, _, _, rfl, T₁⟩
          · exact ⟨q₂, _, _, rfl, T₂⟩
          · exact ⟨q₃, _, _, rfl, T₃⟩
        refine item_at (i := way) LF.isList rfl hqp (by show 3 ≤ 100; decide) ?_ rfl
        clear T₁ T₂ T₃ LF
        refine m_unpack2 V XF R'.2.2 Tp rfl rfl fun hG tkG XG lG bG => ?_
        try dsimp only at lG bG ⊢
        have l15 := lG _ _ l14
        clear XF lG bG l14 Tp
        refine gen9 (fun mG => Fm w [a] B₂ L hG mG) (fun mG => PlM mG a ta sa way ty Hi th) (fun mG => mG "k" = some (.int (i : Int) tv)) (fun mG => mG "w" = some (.int (wn : Int) tw)) (fun mG => mG "h" = some (.int lg tl)) (fun mG => mG "x" = some (.int (j : Int) tx)) (fun mG => mG "base" = some (.int M tb)) (fun mG => mG "first" = some (.int (m1 way M lg wn (Rs H j wn)) t₁)) (fun mG => mG "second" = some (.int (m2 way M lg) t₂))
          XG ⟨by ((repeat (first | assumption | exact if_pos rfl | refine (if_neg (by decide)).trans ?_))), by ((repeat (first | assumption | exact if_pos rfl | refine (if_neg (by decide)).trans ?_))), by ((repeat (first | assumption | exact if_pos rfl | refine (if_neg (by decide)).trans ?_))), by ((repeat (first | assumption | exact if_pos rfl | refine (if_neg (by decide)).trans ?_))), by ((repeat (first | assumption | exact if_pos rfl | refine (if_neg (by decide)).trans ?_)))⟩ (by ((repeat (first | assumption | exact if_pos rfl | refine (if_neg (by decide)).trans ?_)))) (by ((repeat (first | assumption | exact if_pos rfl | refine (if_neg (by decide)).trans ?_)))) (by ((repeat (first | assumption | exact if_pos rfl | refine (if_neg (by decide)).trans ?_)))) (by ((repeat (first | assumption | exact if_pos rfl | refine (if_neg (by decide)).trans ?_)))) (by ((repeat (first | assumption | exact if_pos rfl | refine (if_neg (by decide)).trans ?_)))) (by ((repeat (first | assumption | exact if_pos rfl | refine (if_neg (by decide)).trans ?_)))) (by ((repeat (first | assumption | exact if_pos rfl | refine (if_neg (by decide)).trans ?_))))
          (fun mG XG GG ek ew eh ex eb ef es => ?_)
        clear g1 g2 g3 g4 g5
        obtain ⟨g1, g2, g3, g4, g5⟩ := GG
        repeat walk_at "sky_m0"
        refine meth_append l15 ?_
        try dsimp only
        repeat walk_at "sky_m0"
        refine m_tuple ?_
        repeat walk_at "sky_m0"
        refine ⟨by show 5 ≤ 100; decide, fun q₅ hI kI nI T₅ => ?_⟩
        try dsimp only [List.nil_append, List.cons_append] at kI nI T₅ ⊢
        obtain ⟨B₅, X₅, kB₅, Hd⟩ := (XG.step kI).up
        have T₅ := Hd.tup T₅ (fun q => by obtain ⟨n, e⟩ := l15; rw [List.mem_singleton.mp q, e] at nI; cases nI)
        have l16 := l15.at (kI _)
        have RI₅ : RowsIn B₅ (items.push (.ref q₅)) (rows ++ [colRow way H sides i j M]) := (RI.kept kB₅).push ⟨_, T₅, by
          unfold colRow
          rw [key_of hp, Int.toNat_natCast]
          exact .cons _ _ (.cons _ _ (.cons _ _ (.cons _ _ (.cons _ _ .nil))))⟩
        clear Hd XG kI nI l15
        repeat walk_at "sky_m0"
        refine app_plain l16 (by have := RI.1; (first | lia | omega)) fun hJ lJ bJ => ?_
        try dsimp only at bJ ⊢
        have XJ := X₅.but (.head _) l16 bJ lJ
        repeat walk_at "sky_m0"
        exact ⟨B₅, _, _, _, rfl, kB₅, XJ.F, XJ.hid, _, _, lJ, RI₅, RO.add hcol, by rw [List.length_append, List.length_singleton]; (first | exact Nat.lt_succ_of_le (by assumption) | lia), ⟨g1, g2, g3, g4, g5⟩, ek, ew, eh⟩
      · repeat walk_at "sky_m0"
        have hno : ∀ b, ¬ Col H W Hi sides i j b := fun b C => by
          obtain ⟨w', l', e', _, _, hb', hle⟩ := C
          rw [hp] at e'; cases e'
          rw [hb'.uniq hbase] at hle
          exact c1 hle
        exact ⟨B₂, _, _, _, rfl, Kept.refl _, XB.F, XB.hid, items, rows, l10, RI, RO.skip hno, by (first | exact Nat.le_succ_of_le (by assumption) | lia), ⟨g1, g2, g3, g4, g5⟩, ek, ew, eh⟩
    · clear l4 RI RO hz rows items
      rintro B₂ h₅ m₅ tk₅ ⟨items, rows, l5, RI, RO, hz, GP, ek, ew, eh⟩ kB₂ F₅ hh₅
      have X₅ : Fm w [a] B₂ L h₅ m₅ := ⟨X₄.W.keeps kB₂, F₅, hh₅, fun b hb => by rw [List.mem_singleton.mp hb]; exact Has.plain l5⟩
      repeat walk_at "sky_m0"
      exact ⟨B₂, _, _, _, rfl, kB₂, X₅.F, X₅.hid, items, rows, l5, RI, RO.next hp (by (first | lia | omega)), by (first | exact Nat.le_trans (by assumption) (by lia) | lia), GP⟩
    · passes_own
  · rintro B₁ h₃ m₁ tk₃ ⟨items, rows, l3, RI, RO, hz, G⟩ kB₁ F₃ hh₃
    have X₃ : Fm w [a] B₁ L h₃ m₁ := ⟨X₂.W.keeps kB₁, F₃, hh₃, fun b hb => by rw [List.mem_singleton.mp hb]; exact Has.plain l3⟩
    obtain ⟨g1, g2, g3, g4, g5⟩ := G
    clear X₂ F₃
    repeat walk_at "sky_m0"
    refine m_list ?_
    repeat walk_at "sky_m0"
    refine ⟨by show 0 ≤ 100; decide, fun a₃ h₄ k₄ n₄ L₄ => ?_⟩
    try dsimp only at k₄ n₄ L₄ ⊢
    have X₄ := X₃.step k₄
    have l4 := l3.at (k₄ _)
    have RI₄ := (RI.kept X₃.keep).kept k₄
    have kA : Kept s.heap h₄ := kB₁.trans X₄.keep
    clear X₃ k₄ n₄ l3 RI
    cases rows with
    | nil =>
      have e0 : items = #[] := Array.eq_empty_of_size_eq_zero (by rw [RI₄.1]; rfl)
      subst e0
      have hcmp : ∀ {Q : Value → Shared → Prop} {E : Value → Shared → Prop} {s' : Shared}, s'.heap = h₄ → Q (.bool false) s' → wpAny (model prog w) A' (compareOp .NotEq (.ref a) (.ref a₃)) Q E s' := fun {Q E s'} e hq => by
        have ha : s'.heap.IsList a ([] : List Value).toArray := by rw [e]; exact l4.isList
        have hb : s'.heap.IsList a₃ ([] : List Value).toArray := by rw [e]; exact L₄.isList
        exact ke_ne_ints ha hb .nil .nil (by have := R'.2.1; (first | lia | omega)) hq
      refine hcmp rfl ?_
      repeat walk_at "sky_m0"
      exact hnone _ _ kA (RO.none)
    | cons r rows =>
      refine PySem.SeqAt.RcNeAt.lists_lengths l4.isList L₄.isList (by rw [RI₄.1]; simp) (by have := R'.2.1; (first | lia | omega)) _ _ _ _ ?_
      repeat walk_at "sky_m0"
      refine min_tups l4 RI₄.1 RI₄.2 (z := 5) (fun r' hr => ?_) (by simp) (R'.le (by decide) (by decide)) fun h' tk i r' q k hi hm T => ?_
      · obtain ⟨k, x, b, _, rfl⟩ := RO.only r' hr
        rfl
      · obtain ⟨k', x, b, rfl, D⟩ := RO.due (List.mem_of_getElem? hi) hm
        repeat (with_reducible first | refine Next.next (by assumption) ?_ | refine Next.ret (by assumption) ?_ | refine Next.cont (by assumption) ?_ | refine Next.brk (by assumption) ?_ | refine IfK.go (by assumption) ?_ | refine AsK.go (by assumption) ?_)
        exact hsome _ _ _ _ _ _ (kA.trans k) T D
  · passes_own
end
/- what may stand at I: nothing, or a range's iterator -/
noncomputable def IterAt (h : Heap) (I : Addr) (c : Int) : Prop := ∀ o, h.get? I = some o → ∃ x y, o = { cls := .type "range_iterator", data := .fields #[rawInt x, rawInt y, rawInt c] }
theorem IterAt.none {h : Heap} {I : Addr} {c : Int} (e : h.get? I = none) : IterAt h I c := fun o q => by rw [e] at q; cases q
theorem IterAt.of {h : Heap} {I : Addr} {x y c : Int} (e : IsRangeIter h I x y c) : IterAt h I c := fun o q => by
  have e : h.get? I = _ := e
  rw [e] at q; cases q; exact ⟨_, _, rfl⟩
theorem IterAt.sub {h h' : Heap} {I : Addr} {c : Int} (e : IterAt h' I c) (k : Kept h h') : IterAt h I c := fun o q => e o (k _ _ q)
theorem IterAt.odd {h : Heap} {I : Addr} {c : Int} (e : IterAt h I c) : Odd h I := fun o q => by
  obtain ⟨x, y, rfl⟩ := e o q
  exact ⟨(fun C dx q => by cases q), (fun es ep q => by cases q), fun xs n q => by have c : Data.fields _ = Data.seq _ _ := congrArg Obj.data q; cases c⟩
theorem IterAt.list {h : Heap} {I l : Addr} {c : Int} {items : Array Value} (e : IterAt h I c) (p : h.PlainList l items) : l ≠ I := by
  rintro rfl
  obtain ⟨n, q⟩ := p
  obtain ⟨x, y, r⟩ := e _ q
  have : Data.seq items n = Data.fields _ := congrArg Obj.data r
  cases this
theorem IterAt.tup {h : Heap} {I l : Addr} {c : Int} {items : Array Value} (e : IterAt h I c) (p : TupAt h l items) : l ≠ I := by
  rintro rfl
  obtain ⟨n, q⟩ := p
  obtain ⟨x, y, r⟩ := e _ q
  have : Data.seq items n = Data.fields _ := congrArg Obj.data r
  cases this
theorem IterAt.code {h : Heap} {I c' : Addr} {c : Int} {q : Str} (e : IterAt h I c) (y : h.CodeRec (.ref c') q) : c' ≠ I := by
  rintro rfl
  obtain ⟨c3, o3, vs3, t3, a3, b3, d3, r3⟩ := y
  cases a3
  obtain ⟨x, y, r⟩ := e _ b3
  rw [r] at d3
  cases d3
  simp [rawInt] at r3
section
variable {prog : Program} {w : World} {A : Around} {E : Value → Shared → Prop} {s : Shared} {B : Heap} {L : Addr} {m : Str → Option Value} {env : Env} {names : List (Str × NameKind)} {cells : List (Str × Addr)}
inductive LoopStG (dr : Drawn) (os : OsState) (L : Addr) (Hs : List Addr) (J : Heap → Heap → (Str → Option Value) → Array GenState → Prop) (B₁ : Heap) (s' : Shared) : Prop
  | mk (B₂ h' : Heap) (m' : Str → Option Value) (tk' : Nat) (gs' : Array GenState) (f1 : s' = ⟨h', gs', dr, tk', os⟩) (f2 : Kept B₁ B₂) (f3 : Fz B₂ L h' m') (f4 : ∀ x ∈ Hs, B₂.get? x = none) (f5 : J B₂ h' m' gs') : LoopStG dr os L Hs J B₁ s'
noncomputable def LoopBodyG (prog : Program) (w : World) (A : Around) (E : Value → Shared → Prop) (dr : Drawn) (os : OsState) (env : Env) (L : Addr) (Hs : List Addr) (J : Heap → Heap → (Str → Option Value) → Array GenState → Prop) (body : List Stmt) (Q : Flow → Shared → Prop) (B₁ h : Heap) (tk : Nat) (gs : Array GenState) : Prop :=
  wpAny (model prog w) A (execs body env) (fun f s' => match f with
    | .next | .cont => LoopStG dr os L Hs J B₁ s'
    | .brk => Q .next s'
    | .ret v => Q (.ret v) s') E ⟨h, gs, dr, tk, os⟩
/- a for statement over a small range whose body may make generators -/
theorem for_rangeG {σh : Heap} {σg : Array GenState} {σd : Drawn} {σt : Nat} {σo : OsState} {Q : Flow → Shared → Prop} {x : Str} {px : Pos} {body : List Stmt} {r : Addr} {a b c : Int} {t u v : Tok} {n : Nat}
    (V : Ev env L names cells) (hA : A.handled = none) (hx : names.lookup x = some .local) (Hs : List Addr) (F : Fz B L σh m) (hh : ∀ x ∈ Hs, B.get? x = none) (hHs : ∀ x ∈ Hs, ∃ o, σh.get? x = some o)
    (hr : IsRange σh r a b c t u v) (hsmall : Builtin.Range.small a b c = true) (hn : Builtin.Range.rangeSize a b c = n)
    (J : Nat → Heap → Heap → (Str → Option Value) → Array GenState → Prop) (h0 : J 0 B σh m σg)
    (frame : ∀ I, σh.get? I = none → ∀ i B B' h h' m gs, J i B h m gs → IterAt B I c → IterAt h I c → NoFields h L → But I B B' → (∀ b o, b ≠ I → b ≠ L → h.get? b = some o → h'.get? b = some o) → J i B' h' m gs)
    (step : ∀ i v B₁ h m₁ tk gs, i < n → (∃ t, v = .int (a + i * c) t) → J i B₁ h m₁ gs → Kept B B₁ → Fz B₁ L h (upd x v m₁) → (∀ x ∈ Hs, B₁.get? x = none) →
      LoopBodyG prog w A E σd σo env L Hs (J (i + 1)) body Q B₁ h tk gs)
    (done : ∀ B₁ h m₁ tk gs, J n B₁ h m₁ gs → Kept B B₁ → Fz B₁ L h m₁ → (∀ x ∈ Hs, B₁.get? x = none) → Q .next ⟨h, gs, σd, tk, σo⟩)
    (hE : PassesOwn (model prog w) A env E) :
    wpAny (model prog w) A (pyIter (.ref r)) (fun it s₂ => codeAny (model prog w) A (.forLoop (.Name x px) it body [] env) (fun r s' => match r with | .ok f => Q f s' | .error e => cameBackBy (model prog w) A env E e s') s₂) E ⟨σh, σg, σd, σt, σo⟩ := by
  obtain ⟨oL, es, ep, hoL, -⟩ := F.ns
  have hne : ∀ b o, σh.get? b = some o → b ≠ σh.objs.size := fun b o e => Nat.ne_of_lt (Heap.lt_size e)
  refine wpAny_pyIter_range hr hsmall ?_
  have kp : Kept σh (σh.push { cls := .type "range_iterator", data := .fields #[rawInt a, rawInt (Builtin.Range.rangeSize a b c), rawInt c] }) := fun b o e => Heap.get?_push_of_some _ e
  have hBn : B.get? σh.objs.size = none := by
    cases q : B.get? σh.objs.size with
    | none => rfl
    | some o => exact absurd (F.keep _ _ q) (by rw [get?_size]; simp)
  have hsn := get?_size σh
  have hJ := frame σh.objs.size (get?_size _) 0 B B σh _ m σg h0 (.none hBn) (.none hsn) (.ns F.ns) (fun b o _ e => e) (fun b o _ _ e => kp b o e)
  have hst : IsRangeIter (σh.push { cls := .type "range_iterator", data := .fields #[rawInt a, rawInt (Builtin.Range.rangeSize a b c), rawInt c] }) σh.objs.size (a + ((0 : Nat) : Int) * c) ((n : Int) - ((0 : Nat) : Int)) c := by
    have : IsRangeIter (σh.push { cls := .type "range_iterator", data := .fields #[rawInt a, rawInt (Builtin.Range.rangeSize a b c), rawInt c] }) σh.objs.size a (Builtin.Range.rangeSize a b c) c := Heap.get?_push_size _ rfl
    simpa [hn] using this
  have hIL : σh.objs.size ≠ L := Ne.symm (hne _ _ hoL)
  have hIH : ∀ x ∈ Hs, x ≠ σh.objs.size := fun x hx => by obtain ⟨ox, hox⟩ := hHs x hx; exact hne _ _ hox
  have F₀ := F.step kp
  replace frame := frame σh.objs.size (get?_size _)
  generalize hp : σh.push { cls := .type "range_iterator", data := .fields #[rawInt a, rawInt (Builtin.Range.rangeSize a b c), rawInt c] } = hp₀ at *
  generalize σh.objs.size = I at *
  have hw := Walks.range (prog := prog) (w := w) hA I a c n
  refine codeAny_forLoop
    (fun k s' => ∃ B₁ h' tk gs m' i, s' = ⟨h', gs, σd, tk, σo⟩ ∧ IsRangeIter h' I (a + (i : Nat) * c) ((n : Int) - (i : Nat)) c ∧ Fz B₁ L h' m' ∧ Kept B B₁ ∧ (∀ x ∈ Hs, B₁.get? x = none) ∧ J i B₁ h' m' gs ∧ i ≤ n ∧ k = n + 1 - i) ?_ (n + 1)
    ⟨B, hp₀, σt, σg, m, 0, rfl, hst, F₀, Kept.refl _, hh, hJ, Nat.zero_le _, rfl⟩
  rintro k s' ⟨B₁, h', tk, gs, m', i, rfl, hst', F', kB, hh', hJ, hi, rfl⟩
  have itB : IterAt B₁ I c := (IterAt.of hst').sub F'.keep
  have ith : IterAt h' I c := IterAt.of hst'
  have nfL : NoFields h' L := .ns F'.ns
  -- a heap that differs at I (and L) alone: the base over it
  have up : ∀ h₂ m₂, h₂.Ns L m₂ → (∀ b o, b ≠ I → b ≠ L → h'.get? b = some o → h₂.get? b = some o) →
      But I B₁ (hideAll h₂ (L :: Hs)) ∧ Kept B (hideAll h₂ (L :: Hs)) ∧ Fz (hideAll h₂ (L :: Hs)) L h₂ m₂ ∧ (∀ x ∈ Hs, (hideAll h₂ (L :: Hs)).get? x = none) := by
    intro h₂ m₂ hn hk₂
    have b1 : But I B₁ (hideAll h₂ (L :: Hs)) := by
      intro b o nb e
      have nL : b ≠ L := fun q => by rw [q, F'.hid] at e; cases e
      refine hideAll_get _ (hk₂ b o nb nL (F'.keep _ _ e)) fun q => ?_
      rcases List.mem_cons.mp q with q | q
      · exact nL q
      · rw [hh' _ q] at e; cases e
    exact ⟨b1, fun b o e => b1 b o (fun q => by rw [q, hBn] at e; cases e) (kB b o e), ⟨hn, fun b o e => of_hideAll _ e, hideAll_none _ (.head _)⟩, fun x hx => hideAll_none _ (.tail _ hx)⟩
  by_cases hlt : i < n
  · refine hw.item i _ _ _ hlt hst' fun v h₁ tk₁ hP hst₁ hk₁ => ?_
    have ns₁ : h₁.Ns L m' := F'.ns.at' fun o e => hk₁ _ o (fun q => hIL (List.mem_singleton.mp q).symm) e
    refine wpAny_assign_Name (wpAny_storeName_local (by show env.scope.names.lookup x = _; rw [V.n]; exact hx) (V.L ▸ ns₁) (fun h₂ hn₂ hs₂ => ?_) (by rw [V.k]; rfl))
    rw [V.L] at hn₂ hs₂
    have k₂ : ∀ b o, b ≠ I → b ≠ L → h'.get? b = some o → h₂.get? b = some o := fun b o n1 n2 e => (hs₂.2 b n2).trans (hk₁ b o (fun q => n1 (List.mem_singleton.mp q)) e)
    obtain ⟨b1, b2, b3, b4⟩ := up h₂ _ hn₂ k₂
    have hst₂ : IsRangeIter h₂ I (a + ((i + 1 : Nat) : Int) * c) ((n : Int) - ((i + 1 : Nat) : Int)) c := hw.frame _ _ _ hst₁ fun b hb o e => (hs₂.2 b fun q => hIL (by rw [← q]; exact (List.mem_singleton.mp hb).symm)).trans e
    refine wpAny_passesOwn hE (wpAny_mono (step i v _ h₂ m' _ gs hlt hP (frame _ _ _ _ _ _ _ hJ itB ith nfL b1 k₂) b2 b3 b4) (fun f s₃ h₃ => ?_) fun _ _ e => e)
    have fin : LoopStG σd σo L Hs (J (i + 1)) (hideAll h₂ (L :: Hs)) s₃ →
        ∃ k', k' < n + 1 - i ∧ ∃ B₁ h' tk gs m' i, s₃ = ⟨h', gs, σd, tk, σo⟩ ∧ IsRangeIter h' I (a + (i : Nat) * c) ((n : Int) - (i : Nat)) c ∧ Fz B₁ L h' m' ∧ Kept B B₁ ∧ (∀ x ∈ Hs, B₁.get? x = none) ∧ J i B₁ h' m' gs ∧ i ≤ n ∧ k' = n + 1 - i := by
      rintro ⟨B₂, hX, m₃, tk₃, gs₃, rfl, kb, F₃, hh₃, hJ₃⟩
      refine ⟨n + 1 - (i + 1), by (first | exact nb5 (by assumption) | lia), B₂, hX, tk₃, gs₃, m₃, i + 1, rfl, ?_, F₃, b2.trans kb, hh₃, hJ₃, hlt, rfl⟩
      refine hw.frame _ _ _ hst₂ fun b hb o e => F₃.keep _ _ (kb _ _ (hideAll_get _ e fun q => ?_))
      rw [List.mem_singleton.mp hb] at q
      rcases List.mem_cons.mp q with q | q
      · exact hIL q
      · exact hIH _ q rfl
    match f, h₃ with
    | .next, h₃ => exact fin h₃
    | .cont, h₃ => exact fin h₃
    | .brk, h₃ => exact h₃
    | .ret v, h₃ => exact h₃
  · have hin : i = n := by (first | exact Nat.le_antisymm (by assumption) (Nat.not_lt.mp (by assumption)) | lia)
    subst hin
    refine hw.done _ _ _ hst' fun h₁ tk₁ hk₁ => wpAny_execs_nil ?_
    have ns₁ : h₁.Ns L m' := F'.ns.at' fun o e => hk₁ _ o (fun q => hIL (List.mem_singleton.mp q).symm) e
    have k₂ : ∀ b o, b ≠ I → b ≠ L → h'.get? b = some o → h₁.get? b = some o := fun b o n1 n2 e => hk₁ b o (fun q => n1 (List.mem_singleton.mp q)) e
    obtain ⟨b1, b2, b3, b4⟩ := up h₁ _ ns₁ k₂
    exact done _ h₁ _ _ _ (frame _ _ _ _ _ _ _ hJ itB ith nfL b1 k₂) b2 b3 b4
end
noncomputable def rowData (r : Row) : PyData := .tuple [.int r.x, .int r.y, .int r.w, .int r.l, .int r.id]
theorem canLay_row (r : Row) : (rowData r).canLay0 = true := by simp [rowData, PyData.canLay0, PyData.canLayAll0]
theorem depth_row (r : Row) : (rowData r).depth = 1 := by simp [rowData, PyData.depth, PyData.depthAll]
theorem canLay_rows : ∀ rows : List Row, PyData.canLayAll0 (rows.map rowData) = true
  | [] => rfl
  | r :: rows => by rw [List.map_cons, PyData.canLayAll0, canLay_row, canLay_rows rows]; rfl
theorem depth_rows : ∀ rows : List Row, PyData.depthAll (rows.map rowData) ≤ 1
  | [] => Nat.zero_le _
  | r :: rows => by
    rw [List.map_cons, PyData.depthAll, depth_row]
    have := depth_rows rows
    (first | lia | omega)
theorem shaped_row (r : Row) : SeqAt.shaped (rowData r) = true := by
  rw [SeqAt.shaped, canLay_row, depth_row]; rfl
theorem shaped_rows (rows : List Row) : SeqAt.shaped (.list (rows.map rowData)) = true := by
  rw [SeqAt.shaped, PyData.canLay0, canLay_rows, PyData.depth, Bool.true_and]
  have := depth_rows rows
  exact decide_eq_true (by (first | lia | omega))
theorem reads_row {h : Heap} {q : Addr} {r : Row} {t1 t2 t3 t4 t5 : Tok} (T : TupAt h q #[.int r.x t1, .int r.y t2, .int r.w t3, .int r.l t4, .int r.id t5]) : Reads h (.ref q) (rowData r) [] := by
  obtain ⟨n, e⟩ := T
  exact .tuple e rfl rfl (.cons (as := []) (bs := []) (.int _ _) (.cons (as := []) (bs := []) (.int _ _) (.cons (as := []) (bs := []) (.int _ _) (.cons (as := []) (bs := []) (.int _ _) (.cons (as := []) (bs := []) (.int _ _) .nil)))))
theorem reads_rows {h : Heap} : ∀ (vals : List Value) (rows : List Row), vals.length = rows.length → (∀ (i : Nat) (row : Row), rows[i]? = some row → ∃ q t1 t2 t3 t4 t5, vals[i]? = some (Value.ref q) ∧ TupAt h q #[.int row.x t1, .int row.y t2, .int row.w t3, .int row.l t4, .int row.id t5]) →
    ReadsAll h vals (rows.map rowData) []
  | [], [], _, _ => .nil
  | [], _ :: _, e, _ => by cases e
  | _ :: _, [], e, _ => by cases e
  | v :: vals, r :: rows, e, f => by
    obtain ⟨q, t1, t2, t3, t4, t5, hv, T⟩ := f 0 r rfl
    cases hv
    exact .cons (as := []) (bs := []) (reads_row T) (reads_rows vals rows (Nat.succ.inj e) fun i row hi => f (i + 1) row hi)
theorem TupsAt.reads {h : Heap} {a : Addr} {items : Array Value} {rows : List Row} (T : TupsAt h items rows) (l : h.PlainList a items) : Reads h (.ref a) (.list (rows.map rowData)) [a] := by
  obtain ⟨n, e⟩ := l
  exact .list (as := []) e rfl rfl (reads_rows items.toList rows (by rw [Array.length_toList]; exact T.1) fun i row hi => by
    obtain ⟨q, t1, t2, t3, t4, t5, hv, T'⟩ := T.2 i row hi
    exact ⟨q, t1, t2, t3, t4, t5, by rw [Array.getElem?_toList]; exact hv, T'⟩)
section
variable {prog : Program} {w : World} {A : Around} {E : Value → Shared → Prop} {s : Shared} {B : Heap}
theorem ne_same {a b : Value} {d : PyData} {as bs : List Addr} {Q : Value → Shared → Prop} (ra : Reads s.heap a d as) (rb : Reads s.heap b d bs) (hs : SeqAt.shaped d = true) (hu : A.units + 64 < cLine) (h : Q (.bool false) s) :
    wpAny (model prog w) A (compareOp .NotEq a b) Q E s :=
  PyProof.Rows.ne_dataH ra rb hs hs hu (by rw [show PyData.eqv d d = true from PySem.SeqAt.eqv_refl d (SeqAt.canLay_of_shaped hs)]; exact h)
end
theorem TupsAt.kept {h h' : Heap} {items : Array Value} {rows : List Row} (T : TupsAt h items rows) (k : Kept h h') : TupsAt h' items rows := ⟨T.1, fun i r e => let ⟨q, t1, t2, t3, t4, t5, a, b⟩ := T.2 i r e; ⟨q, t1, t2, t3, t4, t5, a, b.kept k⟩⟩
theorem TupsAt.move {h h' : Heap} {items : Array Value} {rows : List Row} (T : TupsAt h items rows) (k : ∀ q its, TupAt h q its → TupAt h' q its) : TupsAt h' items rows := ⟨T.1, fun i r e => let ⟨q, t1, t2, t3, t4, t5, a, b⟩ := T.2 i r e; ⟨q, t1, t2, t3, t4, t5, a, k _ _ b⟩⟩
theorem TupsAt.push {h : Heap} {items : Array Value} {rows : List Row} {q : Addr} {row : Row} {t1 t2 t3 t4 t5 : Tok} (T : TupsAt h items rows) (tp : TupAt h q #[.int row.x t1, .int row.y t2, .int row.w t3, .int row.l t4, .int row.id t5]) : TupsAt h (items.push (.ref q)) (rows ++ [row]) := by
  refine ⟨by rw [Array.size_push, List.length_append, T.1]; rfl, fun i r e => ?_⟩
  rcases Nat.lt_or_ge i rows.length with c | c
  · rw [List.getElem?_append_left c] at e
    obtain ⟨q', u1, u2, u3, u4, u5, a, b⟩ := T.2 i r e
    exact ⟨q', u1, u2, u3, u4, u5, by rw [Array.getElem?_push, if_neg (by have := T.1; (first | lia | omega))]; exact a, b⟩
  · rw [List.getElem?_append_right c] at e
    have hi : i = rows.length := by
      rcases Nat.lt_or_ge (i - rows.length) 1 with q | q
      · (first | grind | lia)
      · rw [List.getElem?_eq_none (by simpa using q)] at e; cases e
    subst hi
    rw [Nat.sub_self] at e
    cases e
    exact ⟨q, t1, t2, t3, t4, t5, by rw [Array.getElem?_push, if_pos T.1.symm], tp⟩
theorem RowsAt.push {h : Heap} {items : Array Value} {rows : List Row} {r dx : Addr} {row : Row} {t : Tok} (T : RowsAt h items rows) (tp : RectAt h r dx row.x row.y row.w row.l (.int row.id t)) : RowsAt h (items.push (.ref r)) (rows ++ [row]) := by
  refine ⟨by rw [Array.size_push, List.length_append, T.1]; rfl, fun i r' e => ?_⟩
  rcases Nat.lt_or_ge i rows.length with c | c
  · rw [List.getElem?_append_left c] at e
    obtain ⟨q', dx', t', a, b⟩ := T.2 i r' e
    exact ⟨q', dx', t', by rw [Array.getElem?_push, if_neg (by have := T.1; (first | lia | omega))]; exact a, b⟩
  · rw [List.getElem?_append_right c] at e
    have hi : i = rows.length := by
      rcases Nat.lt_or_ge (i - rows.length) 1 with q | q
      · (first | lia | omega)
      · rw [List.getElem?_eq_none (by simpa using q)] at e; cases e
    subst hi
    rw [Nat.sub_self] at e
    cases e
    exact ⟨r, dx, t, by rw [Array.getElem?_push, if_pos T.1.symm], tp⟩
theorem RowsAt.odd {h h' : Heap} {items : Array Value} {rows : List Row} {l : Addr} (R : RowsAt h items rows) (hl : Odd h l) (k : But l h h') : RowsAt h' items rows := ⟨R.1, fun i row e => let ⟨r, dx, t, a, b⟩ := R.2 i row e; ⟨r, dx, t, a, b.odd hl k⟩⟩
theorem Hides.rows {h B : Heap} {L : Addr} {Hs : List Addr} {mm : Str → Option Value} {items : Array Value} {rows : List Row} (X : Hides h B L Hs mm) (R : RowsAt h items rows) (hs : mm "rid" = none) : RowsAt B items rows := ⟨R.1, fun i row e => let ⟨r, dx, t, a, b⟩ := R.2 i row e; ⟨r, dx, t, a, X.rect b hs⟩⟩
/- the addresses whose objects the law's loop turns or leans on -/
noncomputable def hotL (p dp rl ra : Addr) : List Addr := [602, 598, 637, 633, p, dp, rl, ra]
theorem mem_skip {x a b c : Addr} {l : List Addr} (q : x ∈ a :: b :: l) : x ∈ a :: b :: c :: l :=
  (List.mem_cons.mp q).elim (fun h => h ▸ .head _) fun q => (List.mem_cons.mp q).elim (fun h => h ▸ .tail _ (.head _)) fun q => .tail _ (.tail _ (.tail _ q))
theorem mem_split {x a b c : Addr} {l : List Addr} (q : x ∈ a :: b :: c :: l) : x = c ∨ x ∈ a :: b :: l :=
  (List.mem_cons.mp q).elim (fun h => .inr (h ▸ .head _)) fun q => (List.mem_cons.mp q).elim (fun h => .inr (h ▸ .tail _ (.head _))) fun q => (List.mem_cons.mp q).elim .inl fun q => .inr (.tail _ (.tail _ q))
theorem mem_pre4 {x a b c d e : Addr} (q : x ∈ [a, b, c, d]) : x ∈ [a, b, c, d, e] := List.mem_append_left [e] q
theorem mem_pre2 {x a b c d : Addr} (q : x ∈ [a, b]) : x ∈ [a, b, c, d] := List.mem_append_left [c, d] q
theorem mem_hot {x p dp rl ra : Addr} (q : x ∈ [598, 633, dp, rl, ra]) : x ∈ hotL p dp rl ra := by
  rcases mem_split q with h | q
  · exact h ▸ .tail _ (.tail _ (.tail _ (.tail _ (.tail _ (.head _)))))
  · rcases List.mem_cons.mp q with h | q
    · exact h ▸ .tail _ (.head _)
    · rcases List.mem_cons.mp q with h | q
      · exact h ▸ .tail _ (.tail _ (.tail _ (.head _)))
      · exact .tail _ (.tail _ (.tail _ (.tail _ (.tail _ (.tail _ q)))))
structure Hot (h : Heap) (p dp C sl rl ra : Addr) (Wi Hi : Int) (turn : Bool) (ritems titems : Array Value) : Prop where
  T : Tab h 602 598
  TL : TabL h 637 633 lamPos lamQual
  P : Pk h p dp C Wi Hi turn sl rl
  lr : h.PlainList rl ritems
  la : h.PlainList ra titems
theorem Hot.move {h h' : Heap} {p dp C sl rl ra : Addr} {Wi Hi : Int} {turn : Bool} {ritems titems : Array Value} (X : Hot h p dp C sl rl ra Wi Hi turn ritems titems) (k : ∀ x ∈ hotL p dp rl ra, ∀ o, h.get? x = some o → h'.get? x = some o)
    (kr : ∀ c', h.CodeRec (.ref c') lamQual → ∀ o, h.get? c' = some o → h'.get? c' = some o) : Hot h' p dp C sl rl ra Wi Hi turn ritems titems where
  T := X.T.at (k _ (by simp [hotL])) (k _ (by simp [hotL]))
  TL := X.TL.move (k _ (by simp [hotL])) (k _ (by simp [hotL])) kr
  P := by
    obtain ⟨c, a, m, tw, th, ⟨o, es, ep, ho, r1, r, r5, r6⟩, b1, b2, b3, b4, b5, b6, b7⟩ := X.P
    exact ⟨c, k p (by simp [hotL]) _ a, m, tw, th, ⟨o, es, ep, k dp (by simp [hotL]) _ ho, r1, r, r5, r6⟩, b1, b2, b3, b4, b5, b6, b7⟩
  lr := X.lr.at (k rl (by simp [hotL]))
  la := X.la.at (k ra (by simp [hotL]))
theorem Hot.kept {h h' : Heap} {p dp C sl rl ra : Addr} {Wi Hi : Int} {turn : Bool} {ritems titems : Array Value} (X : Hot h p dp C sl rl ra Wi Hi turn ritems titems) (k : Kept h h') : Hot h' p dp C sl rl ra Wi Hi turn ritems titems :=
  X.move (fun _ _ _ e => k _ _ e) fun _ _ _ e => k _ _ e
theorem Hot.store {h h' : Heap} {p dp C sl rl ra L : Addr} {Wi Hi : Int} {turn : Bool} {ritems titems : Array Value} (X : Hot h p dp C sl rl ra Wi Hi turn ritems titems) (k : But L h h') (nf : NoFields h L) (hL : ∀ x ∈ hotL p dp rl ra, x ≠ L) : Hot h' p dp C sl rl ra Wi Hi turn ritems titems :=
  X.move (fun x hx _ e => k _ _ (hL x hx) e) fun c' y _ e => k _ _ (by
    rintro rfl
    obtain ⟨c3, o3, vs3, t3, a3, b3, d3, r3⟩ := y
    cases a3
    exact nf _ b3 _ d3) e
theorem Hot.iter {h h' : Heap} {p dp C sl rl ra L I : Addr} {Wi Hi c : Int} {turn : Bool} {ritems titems : Array Value} (X : Hot h p dp C sl rl ra Wi Hi turn ritems titems) (it : IterAt h I c) (nf : NoFields h L) (hL : ∀ x ∈ hotL p dp rl ra, x ≠ L) (hI : ∀ x ∈ hotL p dp rl ra, x ≠ I)
    (k : ∀ b o, b ≠ I → b ≠ L → h.get? b = some o → h'.get? b = some o) : Hot h' p dp C sl rl ra Wi Hi turn ritems titems :=
  X.move (fun x hx _ e => k _ _ (hI x hx) (hL x hx) e) fun c' y _ e => k _ _ (it.code y) (by
    rintro rfl
    obtain ⟨c3, o3, vs3, t3, a3, b3, d3, r3⟩ := y
    cases a3
    exact nf _ b3 _ d3) e
theorem Hot.has {h : Heap} {p dp C sl rl ra : Addr} {Wi Hi : Int} {turn : Bool} {ritems titems : Array Value} (X : Hot h p dp C sl rl ra Wi Hi turn ritems titems) : ∀ x ∈ hotL p dp rl ra, ∃ o, h.get? x = some o := by
  obtain ⟨⟨o, ho⟩, ⟨op, hop⟩⟩ := X.T.olds
  obtain ⟨⟨o', ho'⟩, ⟨op', hop'⟩⟩ := X.TL.tab.olds
  obtain ⟨n1, l1⟩ := X.lr
  obtain ⟨n2, l2⟩ := X.la
  obtain ⟨c, a, m, tw, th, ⟨od, es, ep, hod, _⟩, _⟩ := X.P
  intro x hx
  simp only [hotL, List.mem_cons, List.not_mem_nil, or_false] at hx
  rcases hx with rfl | rfl | rfl | rfl | rfl | rfl | rfl | rfl
  · exact ⟨_, ho⟩
  · exact ⟨_, hop⟩
  · exact ⟨_, ho'⟩
  · exact ⟨_, hop'⟩
  · exact ⟨_, a⟩
  · exact ⟨_, hod⟩
  · exact ⟨_, l1⟩
  · exact ⟨_, l2⟩
structure Cold (B : Heap) (sl ta : Addr) (items ritems titems : Array Value) (segs : List Sg) (rows : List Row) (tvs : List Value) : Prop where
  ls : B.PlainList sl items
  S : Segs B items segs
  R : RowsAt B ritems rows
  U : TupsAt B titems rows
  lt : B.PlainList ta tvs.toArray
theorem Cold.kept {B B' : Heap} {sl ta : Addr} {items ritems titems : Array Value} {segs : List Sg} {rows : List Row} {tvs : List Value} (X : Cold B sl ta items ritems titems segs rows tvs) (k : Kept B B') : Cold B' sl ta items ritems titems segs rows tvs :=
  ⟨X.ls.at (k _), X.S.kept k, X.R.kept k, X.U.kept k, X.lt.at (k _)⟩
theorem Cold.iter {B B' : Heap} {sl ta I : Addr} {c : Int} {items ritems titems : Array Value} {segs : List Sg} {rows : List Row} {tvs : List Value} (X : Cold B sl ta items ritems titems segs rows tvs) (it : IterAt B I c) (k : But I B B') : Cold B' sl ta items ritems titems segs rows tvs :=
  ⟨X.ls.at fun o e => k _ _ (it.list X.ls) e, X.S.odd it.odd k, X.R.odd it.odd k, X.U.move fun q its T => T.odd (it.tup T) k, X.lt.at fun o e => k _ _ (it.list X.lt) e⟩
/- the law's own names -/
structure LawM (m : Str → Option Value) (p ra ta na : Addr) (way : Nat) (turn : Bool) (Wi Hi most : Int) (ty tw th tm : Tok) : Prop where
  p : m "pack" = some (.ref p)
  r : m "rows" = some (.ref ra)
  t : m "tops" = some (.ref ta)
  n : m "numbers" = some (.ref na)
  y : m "way" = some (.int (way : Int) ty)
  u : m "turn" = some (.bool turn)
  w : m "wide" = some (.int Wi tw)
  h : m "high" = some (.int Hi th)
  o : m "most" = some (.int most tm)
  st : m "start" = none
  rid : m "rid" = none
theorem LawM.set {m : Str → Option Value} {p ra ta na : Addr} {way : Nat} {turn : Bool} {Wi Hi most : Int} {ty tw th tm : Tok} (X : LawM m p ra ta na way turn Wi Hi most ty tw th tm) {x : Str} {v : Value}
    (hx : ∀ n ∈ (["pack", "rows", "tops", "numbers", "way", "turn", "wide", "high", "most", "start", "rid"] : List Str), n ≠ x) : LawM (fun y => if y = x then some v else m y) p ra ta na way turn Wi Hi most ty tw th tm where
  p := (if_neg (hx _ (by decide))).trans X.p
  r := (if_neg (hx _ (by decide))).trans X.r
  t := (if_neg (hx _ (by decide))).trans X.t
  n := (if_neg (hx _ (by decide))).trans X.n
  y := (if_neg (hx _ (by decide))).trans X.y
  u := (if_neg (hx _ (by decide))).trans X.u
  w := (if_neg (hx _ (by decide))).trans X.w
  h := (if_neg (hx _ (by decide))).trans X.h
  o := (if_neg (hx _ (by decide))).trans X.o
  st := (if_neg (hx _ (by decide))).trans X.st
  rid := (if_neg (hx _ (by decide))).trans X.rid
/- what holds behind i turns of the law's loop -/
inductive LawJ (p dp C rl ra na : Addr) (way Wn : Nat) (turn : Bool) (Hi most : Int) (ty tw th tm : Tok) (i : Nat) (B h : Heap) (m : Str → Option Value) (gs : Array GenState) : Prop
  | mk (sl ta : Addr) (items ritems titems : Array Value) (segs : List Sg) (rows : List Row) (tvs : List Value) (H : Int → Int) (f1 : Hot h p dp C sl rl ra Wn Hi turn ritems titems) (f2 : Cold B sl ta items ritems titems segs rows tvs) (f3 : IntsAre tvs (Tops H Wn)) (f4 : Sk H segs 0 Wn) (f5 : (∀ z : Int, 0 ≤ z → z < Wn → 0 ≤ H z)) (f6 : rows.length ≤ i) (f7 : AllBare gs) (f8 : LawM m p ra ta na way turn Wn Hi most ty tw th tm) : LawJ p dp C rl ra na way Wn turn Hi most ty tw th tm i B h m gs
theorem LawJ.frame {p dp C rl ra na L I : Addr} {way Wn i : Nat} {turn : Bool} {Hi most c : Int} {ty tw th tm : Tok} {B B' h h' : Heap} {m : Str → Option Value} {gs : Array GenState} (X : LawJ p dp C rl ra na way Wn turn Hi most ty tw th tm i B h m gs)
    (hL : ∀ x ∈ hotL p dp rl ra, x ≠ L) (hI : ∀ x ∈ hotL p dp rl ra, x ≠ I) (itB : IterAt B I c) (it : IterAt h I c) (nf : NoFields h L) (b : But I B B') (k : ∀ b o, b ≠ I → b ≠ L → h.get? b = some o → h'.get? b = some o) : LawJ p dp C rl ra na way Wn turn Hi most ty tw th tm i B' h' m gs := by
  obtain ⟨sl, ta, items, ritems, titems, segs, rows, tvs, H, hot, cold, r1, r2, r3, r4, r5, r6⟩ := X
  exact ⟨sl, ta, items, ritems, titems, segs, rows, tvs, H, hot.iter it nf hL hI k, cold.iter itB b, r1, r2, r3, r4, r5, r6⟩
theorem pick_to (items : Array Value) {b : Nat} (h2 : b ≤ items.size) : slicePick items none (some (b : Int)) none = (items.toList.take b).toArray := by
  have := kmk_pick_nat (lo := none) (hi := some (b : Int)) items (a := 0) (b := b) (by
    unfold sliceBounds
    have n2 : ¬ ((b : Int) < 0) := by (first | (simp; done) | lia)
    simp only [Option.getD_none, if_neg n2, show (1 : Int) > 0 by decide, if_true, Prod.mk.injEq]
    repeat' apply And.intro
    all_goals first | trivial | (first | lia | omega))
  simpa using this
theorem pick_from (items : Array Value) {a : Nat} (h1 : a ≤ items.size) : slicePick items (some (a : Int)) none none = (items.toList.drop a).toArray := by
  have := kmk_pick_nat (lo := some (a : Int)) (hi := none) items (a := a) (b := items.size) (by
    unfold sliceBounds
    have n1 : ¬ ((a : Int) < 0) := by (first | (simp; done) | lia)
    simp only [Option.getD_none, if_neg n1, show (1 : Int) > 0 by decide, if_true, Prod.mk.injEq]
    repeat' apply And.intro
    all_goals first | trivial | (first | lia | omega))
  rw [this, List.take_of_length_le (by rw [List.length_drop, Array.length_toList]; exact Nat.le_refl _)]
theorem Tops.next {H H' : Int → Int} {W x w : Nat} {t : Int} (hxw : x + w ≤ W) (hH : ∀ z : Int, H' z = if (x : Int) ≤ z ∧ z < (x : Int) + w then t else H z) : Tops H' W = (Tops H W).take x ++ List.replicate w t ++ (Tops H W).drop (x + w) := by
  have hl := Tops.len H W
  have at' : ∀ (H : Int → Int) (i : Nat), i < W → (Tops H W)[i]? = some (H i) := fun H i hi => by
    unfold Tops; rw [List.getElem?_map, List.getElem?_range hi]; rfl
  refine List.ext_getElem? fun i => ?_
  rcases Nat.lt_or_ge i W with hi | hi
  · rw [at' H' i hi, hH]
    rcases Nat.lt_or_ge i x with c1 | c1
    · rw [if_neg (by (first | lia | omega)), List.append_assoc, List.getElem?_append_left (by rw [List.length_take]; (first | grind | lia)), List.getElem?_take, if_pos c1, at' H i hi]
    · rcases Nat.lt_or_ge i (x + w) with c2 | c2
      · rw [if_pos (by (first | lia | omega)), List.append_assoc, List.getElem?_append_right (by rw [List.length_take]; (first | exact Nat.le_trans (Nat.min_le_left _ _) (by lia) | lia)), List.getElem?_append_left (by rw [List.length_take, List.length_replicate]; (first | grind | lia))]
        rw [List.getElem?_replicate, if_pos (by rw [List.length_take]; (first | grind | lia))]
      · rw [if_neg (by (first | lia | omega)), List.getElem?_append_right (by rw [List.length_append, List.length_take, List.length_replicate]; (first | lia | omega)), List.length_append, List.length_take, List.length_replicate, List.getElem?_drop]
        rw [show x + w + (i - (min x (Tops H W).length + w)) = i by (first | grind | lia), at' H i hi]
  · rw [List.getElem?_eq_none (by rw [Tops.len]; exact hi), List.getElem?_eq_none]
    rw [List.length_append, List.length_append, List.length_take, List.length_replicate, List.length_drop]
    (first | lia | omega)
theorem Tops.zero (W : Nat) : Tops (fun _ => 0) W = List.replicate W 0 := by
  unfold Tops
  rw [show (fun i : Nat => (fun _ : Int => (0 : Int)) (i : Int)) = Function.const Nat 0 from rfl, List.map_const, List.length_range]
theorem IntsAre.rep (n : Int) (t : Tok) : ∀ k : Nat, IntsAre (List.replicate k (Value.int n t)) (List.replicate k n)
  | 0 => .nil
  | k + 1 => .cons n t (IntsAre.rep n t k)
theorem flat_one {α : Type} (v : α) : ∀ k : Nat, (List.replicate k [v]).flatten = List.replicate k v
  | 0 => rfl
  | k + 1 => by rw [List.replicate_succ, List.flatten_cons, flat_one v k, List.replicate_succ]; rfl
section
variable {prog : Program} {w : World} {A : Around} {E : Value → Shared → Prop} {s : Shared} {B : Heap} {L : Addr} {m : Str → Option Value} {Hs : List Addr}
theorem m_min {σh : Heap} {σg : Array GenState} {σd : Drawn} {σt : Nat} {σo : OsState} {a b : Int} {t u : Tok} {Q : Value → Shared → Prop} (X : Fm w Hs B L σh m) (hh : A.handled = none)
    (h : ∀ h' tk t, Fm w Hs B L h' m → Kept σh h' → Q (.int (min a b) t) ⟨h', σg, σd, tk, σo⟩) : wpAny (model prog w) A (call (.builtin "min") [.int a t, .int b u]) Q E ⟨σh, σg, σd, σt, σo⟩ := by
  refine min_two_ints hh fun h' tk k => ?_
  by_cases c : b < a
  · rw [if_pos c]
    have := h h' tk u (X.step k) k
    rwa [show min a b = b by (first | exact Int.min_eq_right (Int.le_of_lt (by assumption)) | lia)] at this
  · rw [if_neg c]
    have := h h' tk t (X.step k) k
    rwa [show min a b = a by (first | exact Int.min_eq_left (by lia) | lia)] at this
/- [v] * n -/
theorem mul_one {l : Addr} {v : Value} {n : Nat} {u : Tok} {Q : Value → Shared → Prop} (hl : s.heap.PlainList l #[v]) (hz : n ≤ 100)
    (h : ∀ (q : Addr) (h' : Heap), Kept s.heap h' → s.heap.get? q = none → h'.PlainList q (List.replicate n v).toArray → Q (.ref q) { s with heap := h' }) :
    wpAny (model prog w) A (binaryOp .Mult (.ref l) (.int (n : Int) u)) Q E s := by
  obtain ⟨vs, hv, hl1⟩ : ∃ vs : List Value, #[v] = vs.toArray ∧ vs = [v] := ⟨[v], rfl, rfl⟩
  rw [hv] at hl
  obtain ⟨k, ho⟩ := hl
  have hsz : vs.toArray.size * (n : Int).toNat ≤ 2 ^ 24 := by rw [hl1]; show 1 * (n : Int).toNat ≤ 2 ^ 24; (first | lia | omega)
  generalize hx : (n : Int) = x at hsz ⊢
  have hx2 : x.toNat = n := by (first | lia | omega)
  refine wpAny_binaryOp_repeat_ref (T := "list") (U := "int") (by decide) ⟨_, ho, rfl⟩ (fun s' => typeIs_int s' x u) noFill_list_mul F.fills_int_mul F.slot_int_rmul repeat_list F.slot_int_index.lookup
    (call_meets F.slot_int_rmul (typeIs_int s x u) F.entry_int_rmul (F.args_int_rmul_2 _ _) (lm_int_rmul_list_any x u l vs.toArray k none #[])
      ⟨ho, rfl, ⟨_, ho, rfl⟩, call_meets F.slot_list_mul ⟨_, ho, rfl⟩ F.entry_list_mul (F.args_list_mul_2 _ _)
        (lm_list_mul_any l vs.toArray k none #[] x u (by simp [Builtin.List.listFitsIndex]; (first | lia | omega)) (by (first | lia | omega)) (by simp [Builtin.List.listTooLong, sizeLine]; (first | lia | omega)))
        ⟨ho, ?_⟩⟩)
  refine h _ _ (Kept.push _ _) (get?_size _) ⟨0, ?_⟩
  have e : List.foldl (fun x1 x2 => x1 ++ x2) #[] (List.replicate (if vs.toArray.isEmpty = true then 0 else x.toNat) vs.toArray) = (List.replicate n v).toArray := by
    rw [listMul_foldl_if, hx2, hl1, flat_one]
  rw [e]
  exact Heap.get?_push_size _ rfl
theorem add_two {σh : Heap} {σg : Array GenState} {σd : Drawn} {σt : Nat} {σo : OsState} {l b : Addr} {xs ys : List Value} {Q : Value → Shared → Prop} (hl : σh.PlainList l xs.toArray) (hb : σh.PlainList b ys.toArray) (hz : xs.length + ys.length ≤ 100)
    (h : ∀ q h', Kept σh h' → σh.get? q = none → h'.PlainList q (xs ++ ys).toArray → Q (.ref q) ⟨h', σg, σd, σt, σo⟩) :
    wpAny (model prog w) A (binaryOp .Add (.ref l) (.ref b)) Q E ⟨σh, σg, σd, σt, σo⟩ := by
  obtain ⟨n1, e1⟩ := hl
  obtain ⟨n2, e2⟩ := hb
  refine P.add_list e1 e2 ?_ (by rw [sizeLine_eq, List.size_toArray, List.size_toArray]; (first | exact Nat.le_trans (by assumption) (by decide) | lia))
  refine h _ _ (Kept.push _ _) (get?_size _) ⟨0, ?_⟩
  rw [List.append_toArray]
  exact Heap.get?_push_size _ rfl
end
theorem Hot.butT {h h' : Heap} {p dp C sl rl ra : Addr} {Wi Hi : Int} {turn : Bool} {ritems titems : Array Value} (X : Hot h p dp C sl rl ra Wi Hi turn ritems titems) (k : ButL [598, 633] h h') (T' : Tab h' 602 598) (TL' : TabL h' 637 633 lamPos lamQual) : Hot h' p dp C sl rl ra Wi Hi turn ritems titems := by
  have nel : ∀ {l : Addr} {its : Array Value}, h.PlainList l its → l ∉ [598, 633] := fun {l its} x q => by
    have ne : ∀ {c P : Addr}, Tab h c P → l ≠ P := fun T => by
      rintro rfl
      obtain ⟨n, e⟩ := x
      obtain ⟨_, _, ⟨_, b⟩⟩ := T
      rw [e] at b; cases b
    rcases List.mem_cons.mp q with q | q
    · exact ne X.T q
    · exact ne X.TL.tab (List.mem_singleton.mp q)
  exact ⟨T', TL', X.P.butl (fun x hx => by
    rcases List.mem_cons.mp hx with rfl | q
    · exact X.T.has.odd
    · rw [List.mem_singleton.mp q]; exact X.TL.tab.has.odd) k, X.lr.at fun o e => k _ _ (nel X.lr) e, X.la.at fun o e => k _ _ (nel X.la) e⟩
theorem pk_fit (P : Params) : ∀ C, IsSky C → plainGet (kHead.heap_1 P) C "fitness" = true ∧ findIn (kHead.heap_1 P) (.ref C) "fitness" = some (some (.ref 645)) ∧ isFn (kHead.heap_1 P) (.ref 645) = true := by
  rintro C (rfl | rfl | rfl) <;> exact ⟨by k_is, by k_is, by k_is⟩
theorem pk_addrect (P : Params) : ∀ C, IsSky C → plainGet (kHead.heap_1 P) C "add_rect" = true ∧ findIn (kHead.heap_1 P) (.ref C) "add_rect" = some (some (.ref 653)) ∧ isFn (kHead.heap_1 P) (.ref 653) = true := by
  rintro C (rfl | rfl | rfl) <;> exact ⟨by k_is, by k_is, by k_is⟩
theorem pk_rlist (P : Params) : ∀ C, IsSky C → plainGet (kHead.heap_1 P) C "rect_list" = true ∧ findIn (kHead.heap_1 P) (.ref C) "rect_list" = some (some (.ref 377)) ∧ isFn (kHead.heap_1 P) (.ref 377) = true := by
  rintro C (rfl | rfl | rfl) <;> exact ⟨by k_is, by k_is, by k_is⟩
/- what _law_place gives -/
inductive PlaceRes (way : Nat) (H : Int → Int) (W Hi : Int) (sides : List (Int × Int)) (h : Heap) (v : Value) : Prop
  | inl (f1 : v = .none) (f2 : ∀ k x b, ¬ Col H W Hi sides k x b) : PlaceRes way H W Hi sides h v
  | inr (q : Addr) (k : Nat) (x b : Int) (f1 : v = .ref q) (f2 : TupInts h q (colRow way H sides k x b)) (f3 : IsDue way H W Hi sides k x b) : PlaceRes way H W Hi sides h v
theorem sides_len (turn : Bool) (a b : Int) : (sidesOf turn a b).length ≤ 2 := by
  unfold sidesOf
  cases turn with
  | true => exact Nat.le_refl 2
  | false => exact Nat.le_succ 1
theorem sides_pos {turn : Bool} {a b : Int} (ha : 0 < a) (hb : 0 < b) : ∀ p ∈ sidesOf turn a b, 0 < p.1 ∧ 0 < p.2 := by
  unfold sidesOf
  cases turn with
  | true =>
    intro p hp
    rcases List.mem_cons.mp hp with rfl | hp
    · exact ⟨ha, hb⟩
    · rw [List.mem_singleton.mp hp]; exact ⟨hb, ha⟩
  | false =>
    intro p hp
    rw [List.mem_singleton.mp hp]; exact ⟨ha, hb⟩
theorem told_bits {H : Int → Int} {Wn : Nat} {Hi : Int} {sides : List (Int × Int)} {k : Nat} {x b : Int} (C : Col H Wn Hi sides k x b) (hp : ∀ p ∈ sides, 0 < p.1 ∧ 0 < p.2) (hH : ∀ z : Int, 0 ≤ z → z < Wn → 0 ≤ H z) (hW : Wn ≤ 8) (hbits : Builtin.Int.intBits Hi ≤ 2 ^ 21) :
    IntMulOk (Key 2 H sides k x b).1 Wn ∧ IntMulOk ((Key 2 H sides k x b).1 * Wn) Hi := by
  obtain ⟨w, l, e, h0, h1, ⟨B1, z, B2, B3, B4⟩, h2⟩ := C
  obtain ⟨p1, p2⟩ := hp _ (List.mem_of_getElem? e)
  try dsimp only at p1 p2
  rw [key_of e]
  have hb : 0 ≤ b := by rw [← B4]; exact hH z (by (first | exact Int.le_trans (by assumption) (by assumption) | lia)) (by (first | exact Int.lt_of_lt_of_le (by assumption) (by assumption) | lia))
  have r0 : 0 ≤ Rs H x w.toNat := Rs_nonneg _ fun z h3 h4 => hH z (by (first | lia | omega)) (by (first | lia | omega))
  have r1 : Rs H x w.toNat ≤ w.toNat * b := Rs_le _ fun z h3 h4 => B1 z h3 (by (first | grind | lia))
  rw [Int.toNat_of_nonneg (by (first | exact Int.le_of_lt (by assumption) | lia))] at r1
  have r2 : b * w ≤ b * 8 := Int.mul_le_mul_of_nonneg_left (by (first | lia | omega)) hb
  have e1 : m1 2 b l w (Rs H x w.toNat) = b * w - Rs H x w.toNat := by unfold m1; rw [if_neg (by decide)]
  try dsimp only
  rw [e1]
  have r3 : w * b = b * w := Int.mul_comm _ _
  refine mul_ok (by (first | grind | lia)) (by (first | lia | omega)) (by (first | lia | omega)) (by (first | exact Int.ofNat_le.mpr (by assumption) | lia)) hbits
section
variable {prog : Program} {w : World} {A : Around} {E : Value → Shared → Prop} {s : Shared} {B : Heap} {L : Addr} {m : Str → Option Value} {env : Env} {names : List (Str × NameKind)} {cells : List (Str × Addr)} {Hs : List Addr}
theorem law_place' {σh : Heap} {σg : Array GenState} {σd : Drawn} {σt : Nat} {σo : OsState} {ta sa : Addr} {way W : Nat} {Hi : Int} {ty th : Tok} {H : Int → Int} {vs : List Value} {its : Array Value} {sides : List (Int × Int)} {R : Result → Shared → Prop} (Wk : Wd w σh) (ht : σh.PlainList ta vs.toArray) (hi : IntsAre vs (Tops H W)) (hW : W ≤ 8) (hway : way < 3)
    (hs : σh.PlainList sa its) (hS : SidesAt σh its sides) (hsz : sides.length ≤ 2) (hpos : ∀ p ∈ sides, 0 < p.1 ∧ 0 < p.2) (Ro : Rm A 6 80)
    (h : ∀ h' tk v, Kept σh h' → PlaceRes way H W Hi sides h' v → R (.ok (.ret v)) ⟨h', σg, σd, tk, σo⟩) :
    codeAny (model prog w) A (.call (.ref 758) ⟨[.int (way : Int) ty, .ref ta, .int Hi th, .ref sa], []⟩) R ⟨σh, σg, σd, σt, σo⟩ :=
  law_place Wk ht hi hW hway hs hS hsz (fun p hp => (hpos p hp).1) Ro (fun h' tk k n => h h' tk _ k (.inl rfl n)) fun h' tk q k x b kk T D => h h' tk _ kk (.inr q k x b rfl T D)
theorem m_unpack5 {σh : Heap} {σg : Array GenState} {σd : Drawn} {σt : Nat} {σo : OsState} {x1 x2 x3 x4 x5 : Str} {p1 p2 p3 p4 p5 pos : Pos} {kk : Nat} {t : Addr} {v1 v2 v3 v4 v5 : Value} {Q : Unit → Shared → Prop} (V : Ev env L names cells) (X : Fm w Hs B L σh m) (hA : A.handled = none) (ht : TupAt σh t #[v1, v2, v3, v4, v5])
    (hl1 : names.lookup x1 = some .local) (hl2 : names.lookup x2 = some .local) (hl3 : names.lookup x3 = some .local) (hl4 : names.lookup x4 = some .local) (hl5 : names.lookup x5 = some .local)
    (h : ∀ h' tk, Fm w Hs B L h' (upd x5 v5 (upd x4 v4 (upd x3 v3 (upd x2 v2 (upd x1 v1 m))))) → (∀ a its, σh.PlainList a its → h'.PlainList a its) → But L σh h' → Q () ⟨h', σg, σd, tk, σo⟩) :
    wpAny (model prog w) A (assign (.Tuple [.Name x1 p1, .Name x2 p2, .Name x3 p3, .Name x4 p4, .Name x5 p5] kk pos) env (.ref t)) Q E ⟨σh, σg, σd, σt, σo⟩ := by
  obtain ⟨n, ht⟩ := ht
  refine assign_Tuple_tuple hA ⟨_, ht, rfl, n, rfl⟩ rfl rfl fun h₁ he => ?_
  have k₁ : Kept σh h₁ := fun b o e => he b o (Nat.ne_of_lt (Heap.lt_size e)) e
  show wpAny (model prog w) A (do holding [v2, v3, v4, v5] (assign (.Name x1 p1) env v1); assignInOrder [assign (.Name x2 p2) env, assign (.Name x3 p3) env, assign (.Name x4 p4) env, assign (.Name x5 p5) env] [v2, v3, v4, v5]) Q E _
  refine wpAny_bind (wpAny_holding (wpAny_assign_Name (m_store V (X.step k₁) hl1 fun h₂ tkσ X₂ l₂ b₂ => ?_)))
  show wpAny (model prog w) A (do holding [v3, v4, v5] (assign (.Name x2 p2) env v2); assignInOrder [assign (.Name x3 p3) env, assign (.Name x4 p4) env, assign (.Name x5 p5) env] [v3, v4, v5]) Q E _
  refine wpAny_bind (wpAny_holding (wpAny_assign_Name (m_store V X₂ hl2 fun h₃ tkσ X₃ l₃ b₃ => ?_)))
  show wpAny (model prog w) A (do holding [v4, v5] (assign (.Name x3 p3) env v3); assignInOrder [assign (.Name x4 p4) env, assign (.Name x5 p5) env] [v4, v5]) Q E _
  refine wpAny_bind (wpAny_holding (wpAny_assign_Name (m_store V X₃ hl3 fun h₄ tkσ X₄ l₄ b₄ => ?_)))
  show wpAny (model prog w) A (do holding [v5] (assign (.Name x4 p4) env v4); assignInOrder [assign (.Name x5 p5) env] [v5]) Q E _
  refine wpAny_bind (wpAny_holding (wpAny_assign_Name (m_store V X₄ hl4 fun h₅ tkσ X₅ l₅ b₅ => ?_)))
  show wpAny (model prog w) A (do holding [] (assign (.Name x5 p5) env v5); assignInOrder [] []) Q E _
  refine wpAny_bind (wpAny_holding (wpAny_assign_Name (m_store V X₅ hl5 fun h₆ tkσ X₆ l₆ b₆ => ?_)))
  refine wpAny_pure ?_
  exact h h₆ _ X₆ (fun a its p => l₆ a its (l₅ a its (l₄ a its (l₃ a its (l₂ a its (p.at (k₁ _))))))) ((But.of_kept k₁).trans (b₂.trans (b₃.trans (b₄.trans (b₅.trans b₆)))))
end
theorem Hot.nin {h : Heap} {p dp C sl rl ra x : Addr} {Wi Hi : Int} {turn : Bool} {ritems titems : Array Value} (X : Hot h p dp C sl rl ra Wi Hi turn ritems titems) (n : h.get? x = none) : x ∉ [598, 633, dp, rl, ra] := fun q => by
  obtain ⟨o, e⟩ := X.has x (by
    exact mem_hot q)
  rw [n] at e; cases e
theorem PlaceRes.raise {way : Nat} {H : Int → Int} {W Hi : Int} {sides : List (Int × Int)} {h B : Heap} {v : Value} (P : PlaceRes way H W Hi sides h v) (r : ∀ q its, TupAt h q its → TupAt B q its) : PlaceRes way H W Hi sides B v := by
  rcases P with ⟨e, n⟩ | ⟨q, k, x, b, e, ⟨vs, T, I⟩, D⟩
  · exact .inl e n
  · exact .inr q k x b e ⟨vs, r _ _ T, I⟩ D
theorem PlaceRes.kept {way : Nat} {H : Int → Int} {W Hi : Int} {sides : List (Int × Int)} {h B : Heap} {v : Value} (P : PlaceRes way H W Hi sides h v) (k : Kept h B) : PlaceRes way H W Hi sides B v := P.raise fun _ _ T => T.kept k
/- what add_rect gives within the law's turn -/
inductive GotRes (h B : Heap) (p dp C sl rl ra : Addr) (Wn : Nat) (Hi : Int) (turn : Bool) (ritems titems : Array Value) (segs : List Sg) (H : Int → Int) (sides : List (Int × Int)) (id : Int) (v : Value) : Prop
  | inl (f1 : v = .none) (f2 : ∀ k x b, ¬ IsDue (wayOf C) H Wn Hi sides k x b) (f3 : Hot h p dp C sl rl ra Wn Hi turn ritems titems) : GotRes h B p dp C sl rl ra Wn Hi turn ritems titems segs H sides id v
  | inr (r : Addr) (pt : Pt) (sl' : Addr) (items' : Array Value) (f1 : v = .ref r) (f2 : Hot h p dp C sl' rl ra Wn Hi turn (ritems.push (.ref r)) titems) (f3 : B.PlainList sl' items') (f4 : Segs B items' (addSky segs pt.x pt.w (pt.y + pt.l))) (f5 : RowsAt B #[.ref r] [⟨pt.x, pt.y, pt.w, pt.l, id⟩])
    (f6 : ∃ k, Col H Wn Hi sides k pt.x pt.y) (f7 : ∀ k x b, IsDue (wayOf C) H Wn Hi sides k x b → sides[k]? = some (pt.w, pt.l) ∧ pt.x = x ∧ pt.y = b) (f8 : 0 ≤ pt.x) (f9 : 0 < pt.w) (f10 : pt.x + pt.w ≤ Wn) : GotRes h B p dp C sl rl ra Wn Hi turn ritems titems segs H sides id v
noncomputable def most12 (Wi Hi : Int) : Int := max Wi (min Hi 12)
/- the numbers that the law reads -/
noncomputable def numbersOf (ns : List Int) : List Int := if 4 < ns.length then (ns.drop 3).take 10 else [3, 0, 0, 6]
inductive CutN (w : World) (s : Shared) (L : Addr) (m₁ : Str → Option Value) (ns : List Int) (s' : Shared) : Prop
  | mk (na : Addr) (nvs : List Value) (h' : Heap) (tk : Nat) (f1 : s' = { s with heap := h', toks := tk }) (f2 : Fm w [] s.heap L h' (upd "numbers" (.ref na) m₁)) (f3 : h'.PlainList na nvs.toArray) (f4 : IntsAre nvs (numbersOf ns)) : CutN w s L m₁ ns s'
inductive CutS (w : World) (L : Addr) (m : Str → Option Value) (gs : Array GenState) (dr : Drawn) (os : OsState) (B₁ : Heap) (p dp C sl rl ra : Addr) (Wn : Nat) (Hi : Int) (turn : Bool) (ritems titems : Array Value) (sides : List (Int × Int)) (s' : Shared) : Prop
  | mk (B₂ h' : Heap) (tk : Nat) (sid : Addr) (its : Array Value) (f1 : s' = ⟨h', gs, dr, tk, os⟩) (f2 : Fm w [] B₂ L h' (upd "sides" (.ref sid) m)) (f3 : Kept B₁ B₂) (f4 : ∀ x ∈ [598, 633, dp, rl, ra], B₂.get? x = none) (f5 : Hot h' p dp C sl rl ra Wn Hi turn ritems titems)
    (f6 : B₂.PlainList sid its) (f7 : SidesAt B₂ its sides) : CutS w L m gs dr os B₁ p dp C sl rl ra Wn Hi turn ritems titems sides s'
inductive CutG (w : World) (L : Addr) (m : Str → Option Value) (dr : Drawn) (os : OsState) (B₁ : Heap) (p dp C sl rl ra : Addr) (Wn : Nat) (Hi : Int) (turn : Bool) (ritems titems : Array Value) (segs : List Sg) (H : Int → Int) (sides : List (Int × Int)) (id : Int) (s' : Shared) : Prop
  | mk (B₂ h' : Heap) (tk : Nat) (gs' : Array GenState) (vg : Value) (f1 : s' = ⟨h', gs', dr, tk, os⟩) (f2 : Fm w [] B₂ L h' (upd "got" vg m)) (f3 : Kept B₁ B₂) (f4 : ∀ x ∈ [598, 633, dp, rl, ra], B₂.get? x = none) (f5 : AllBare gs')
    (f6 : GotRes h' B₂ p dp C sl rl ra Wn Hi turn ritems titems segs H sides id vg) : CutG w L m dr os B₁ p dp C sl rl ra Wn Hi turn ritems titems segs H sides id s'
inductive CutF (w : World) (L : Addr) (gs : Array GenState) (dr : Drawn) (os : OsState) (B₁ : Heap) (Hs : List Addr) (J : Heap → Heap → (Str → Option Value) → Prop) (s' : Shared) : Prop
  | mk (B₂ h' : Heap) (tk : Nat) (m' : Str → Option Value) (f1 : s' = ⟨h', gs, dr, tk, os⟩) (f2 : Fm w [] B₂ L h' m') (f3 : Kept B₁ B₂) (f4 : ∀ x ∈ Hs, B₂.get? x = none) (f5 : J B₂ h' m') : CutF w L gs dr os B₁ Hs J s'
inductive Raised (w : World) (B h : Heap) (L dp rl ra : Addr) (m : Str → Option Value) : Prop
  | mk (B' : Heap) (f1 : Fm w [] B' L h m) (f2 : Kept B B') (f3 : ∀ x ∈ [598, 633, dp, rl, ra], B'.get? x = none) (f4 : ∀ items segs, Segs h items segs → Segs B' items segs) (f5 : ∀ l its, l ∉ [598, 633, dp, rl, ra] → h.PlainList l its → B'.PlainList l its)
    (f6 : ∀ its rows, RowsAt h its rows → RowsAt B' its rows) (f7 : ∀ q its, TupAt h q its → TupAt B' q its) : Raised w B h L dp rl ra m
theorem raise {w : World} {B h : Heap} {L p dp C sl rl ra : Addr} {Wi Hi : Int} {turn : Bool} {ritems titems : Array Value} {m : Str → Option Value} (X : Fm w [] B L h m) (hot : Hot h p dp C sl rl ra Wi Hi turn ritems titems) (hs : m "start" = none) (hr : m "rid" = none) (hp : m "pack" ≠ none)
    (hL : ∀ x ∈ hotL p dp rl ra, x ≠ L) (hid : ∀ x ∈ [598, 633, dp, rl, ra], B.get? x = none) :
    Raised w B h L dp rl ra m := by
  -- first the lists and the tables, then the packer's own dict
  have H1 : Hides h (hideAll h (L :: [598, 633, rl, ra])) L [598, 633, rl, ra] m := ⟨X.F.ns, fun x hx => by
    simp only [List.mem_cons, List.not_mem_nil, or_false] at hx
    rcases hx with rfl | rfl | rfl | rfl
    · exact hot.T.has.odd
    · exact hot.TL.tab.has.odd
    · exact Odd.plain hot.lr
    · exact Odd.plain hot.la, fun b o e n1 n2 => hideAll_get _ e fun q => by
      rcases List.mem_cons.mp q with q | q
      · exact n1 q
      · exact n2 q⟩
  have P1 : Pk (hideAll h (L :: [598, 633, rl, ra])) p dp C Wi Hi turn sl rl := by
    obtain ⟨c, a, mp, tw, th, N, n, b1, b2, b3, b4, b5, b6⟩ := hot.P
    have N1 : NsZ (hideAll h (L :: [598, 633, rl, ra])) dp mp 90 := by
      obtain ⟨o, es, ep, ho, r1, r, r5, r6⟩ := N
      exact ⟨o, es, ep, H1.get _ _ ho (hL dp (by simp [hotL])) (fun q => (H1.odd _ q _ ho).2.1 _ _ r1), r1, r, r5, r6⟩
    exact ⟨c, H1.obj a, mp, tw, th, N1, n, b1, b2, b3, b4, b5, b6⟩
  generalize hB2 : hideAll h (L :: [598, 633, rl, ra]) = B₂ at H1 P1
  obtain ⟨c, a, mp, tw, th, N, n, bw, b⟩ := id P1
  have H2 : Hides B₂ (hideAll B₂ [dp]) dp [] mp := ⟨N.ns, fun x hx => (nomatch hx), fun b o e n1 _ => hideAll_get _ e fun q => n1 (List.mem_singleton.mp q)⟩
  have k2 : Kept B₂ h := fun b o e => by rw [← hB2] at e; exact of_hideAll _ e
  have k3 : Kept (hideAll B₂ [dp]) B₂ := fun b o e => of_hideAll _ e
  have nm : ∀ x ∈ [598, 633, dp, rl, ra], x = dp ∨ x ∈ [598, 633, rl, ra] := fun x hx => by
    exact mem_split hx
  have kB : Kept B (hideAll B₂ [dp]) := fun b o e => by
    refine hideAll_get _ ?_ fun q => ?_
    · refine H1.get _ _ (X.F.keep _ _ e) (fun q => by rw [q, X.F.hid] at e; cases e) fun q => ?_
      rw [hid b (mem_skip q)] at e; cases e
    · rw [List.mem_singleton.mp q, hid dp (by simp)] at e; cases e
  have hLn : (hideAll B₂ [dp]).get? L = none := by
    cases q : (hideAll B₂ [dp]).get? L with
    | none => rfl
    | some o =>
      have := k3 _ _ q
      rw [← hB2, hideAll_none _ (.head _)] at this; cases this
  refine ⟨hideAll B₂ [dp], ⟨X.W.keeps kB, ⟨X.F.ns, k3.trans k2, hLn⟩, fun x hx => (nomatch hx), fun x hx => (nomatch hx)⟩, kB, fun x hx => ?_, fun items segs S => ?_, fun l its nl P => ?_, fun its rows R => ?_, fun q its T => ?_⟩
  · rcases nm x hx with rfl | q
    · exact hideAll_none _ (.head _)
    · cases e : (hideAll B₂ [dp]).get? x with
      | none => rfl
      | some o =>
        have := k3 _ _ e
        rw [← hB2, hideAll_none _ (.tail _ q)] at this; cases this
  · exact H2.segs (H1.segs S hs hp (by decide) (by decide)) (n _ (by decide)) (n := "width") (by rw [bw]; simp) (by decide) (by decide)
  · have h1 : l ∉ [598, 633, rl, ra] := fun q => nl (by first | exact mem_skip q | exact q)
    exact H2.list (H1.list P h1) (by simp)
  · exact H2.rows (H1.rows R hr) (n _ (by decide))
  · refine H2.tup (H1.tup T fun q' => ?_) (by simp)
    obtain ⟨nn, e⟩ := T
    exact (H1.odd _ q' _ e).2.2 _ _ rfl
theorem Tab.nel {h : Heap} {c P l : Addr} {its : Array Value} (T : Tab h c P) (x : h.PlainList l its) : l ≠ P := by
  rintro rfl
  obtain ⟨n, e⟩ := x
  obtain ⟨_, _, ⟨_, b⟩⟩ := T
  rw [e] at b; cases b
theorem Pk.nel {h : Heap} {p dp C sl rl l : Addr} {W H : Int} {turn : Bool} {its : Array Value} (P : Pk h p dp C W H turn sl rl) (x : h.PlainList l its) : l ≠ dp := by
  rintro rfl
  obtain ⟨n, e⟩ := x
  obtain ⟨_, _, _, _, _, ⟨o, es, ep, ho, r1, _⟩, _⟩ := P
  rw [e] at ho; cases ho; cases r1
theorem small_two {b : Int} (h0 : 0 ≤ b) (h1 : b < 100) : Builtin.Range.small 0 b 2 = true ∧ Builtin.Range.rangeSize 0 b 2 = (((b + 1) / 2).toNat : Int) := by
  have e : Builtin.Range.rangeSize 0 b 2 = (b + 1) / 2 := by
    unfold Builtin.Range.rangeSize
    simp only [show (2 : Int) > 0 by decide, if_true]
    split <;> (first | lia | omega)
  refine ⟨?_, by rw [e]; (first | lia | omega)⟩
  unfold Builtin.Range.small
  rw [e]
  simp only [Builtin.Range.rangeFitsLong, Bool.and_eq_true, Bool.or_eq_true, decide_eq_true_eq, beq_iff_eq, show (2 : Int) > 0 by decide, if_true]
  (first | grind | lia)
section
variable {prog : Program} {w : World} {A : Around} {E : Value → Shared → Prop} {s : Shared} {B : Heap}
theorem law_call {a : Addr} {vs : List Value} {ns : List Int} {R : Result → Shared → Prop} (W : Wd w s.heap) (hf : FreeL w s.heap [598, 633]) (T : Tab s.heap 602 598) (TL : TabL s.heap 637 633 lamPos lamQual) (hl : s.heap.IsList a vs.toArray) (hi : IntsAre vs ns) (hz : ns.length ≤ 63)
    (hbits : ∀ n ∈ ns, Builtin.Int.intBits n ≤ 2 ^ 20) (hg : AllBare s.gens) (Ro : Rm A 60 500)
    (h : ∀ h' tk gs, ButL [598, 633] s.heap h' → Tab h' 602 598 → TabL h' 637 633 lamPos lamQual → AllBare gs → R (.ok (.ret (.bool true))) { s with heap := h', toks := tk, gens := gs }) :
    codeAny (model prog w) A (.call (.ref 765) ⟨[.ref a], []⟩) R s := by
  have Ro : Rm A (50 + 1) (450 + 3) := Ro.le (by decide) (by decide)
  ((refine' code_fn ([("script", .ref a)]) ?k0 ?kk ?k1 ?k2 ?k3 ?k4 ?k5 ?k6 ?k7 ?k8 ?k9 ?k10 ?k11 ?k12 ?_); (case k0 => assumption); (case kk => (first | assumption | exact Fz.keep (by assumption) | exact Kept.refl _)); (case k2 => k_is); (case k3 => k_is); (case k4 => rfl); (case k5 => exact binds_eq rfl); (case k6 => rfl); (case k7 => rfl); (case k8 => rfl); (case k9 => rfl); (case k10 => rfl); (case k11 => rfl); (case k12 => rfl); (case k1 => assumption); intro A' L env h₁ R' V F; (try dsimp only at V F); (try dsimp only))
  have X := Fm.of W F
  have hLs : s.heap.get? L = none := F.hid
  clear F
  have hvl : vs.length = ns.length := PyProof.Rows.ints_len_eq hi
  repeat walk_at "sky_m0"
  refine wpAny_call (law_at (k := 0) (o := 1) X.Wh (hl.at (X.keep _)) hi (by (first | exact Nat.le_trans (by assumption) (by decide) | lia)) (R'.le (by decide) (by decide)) fun h₂ tk₂ t₂ k₂ => ?_)
  try dsimp only at k₂ ⊢
  have X₂ := X.step k₂
  clear X k₂
  generalize ns.getD 0 1 = pick
  (((try (with_reducible first | refine Next.next (by assumption) ?_ | refine Next.ret (by assumption) ?_ | refine Next.cont (by assumption) ?_ | refine Next.brk (by assumption) ?_ | refine IfK.go (by assumption) ?_ | refine AsK.go (by assumption) ?_)); (with_reducible show wpAny _ _ (storeName _ _ _) _ _ _); refine m_store (by assumption) (by assumption) (by exact rfl) ?_))
  intro h₃ tkσa X₃ _ _
  try dsimp only at X₃ ⊢
  clear X₂
  repeat walk_at "sky_m0"
  refine PyProof.Rows.mod_int' (by decide) ?_
  try dsimp only
  (((try (with_reducible first | refine Next.next (by assumption) ?_ | refine Next.ret (by assumption) ?_ | refine Next.cont (by assumption) ?_ | refine Next.brk (by assumption) ?_ | refine IfK.go (by assumption) ?_ | refine AsK.go (by assumption) ?_)); (with_reducible show wpAny _ _ (storeName _ _ _) _ _ _); refine m_store (by assumption) (by assumption) (by exact rfl) ?_))
  intro h₄ tkσ X₄ _ _
  try dsimp only at X₄ ⊢
  clear X₃
  obtain ⟨way, hway, hw3⟩ : ∃ way : Nat, pick.fmod 3 = (way : Int) ∧ way < 3 := ⟨(pick.fmod 3).toNat, by
    rw [Int.fmod_eq_emod_of_nonneg _ (by decide)]; (first | lia | omega), by rw [Int.fmod_eq_emod_of_nonneg _ (by decide)]; (first | lia | omega)⟩
  rw [hway] at X₄
  repeat walk_at "sky_m0"
  refine PyProof.Rows.mod_int' (by decide) ?_
  repeat walk_at "sky_m0"
  generalize (pick.fmod 2 == 1) = turn
  (((try (with_reducible first | refine Next.next (by assumption) ?_ | refine Next.ret (by assumption) ?_ | refine Next.cont (by assumption) ?_ | refine Next.brk (by assumption) ?_ | refine IfK.go (by assumption) ?_ | refine AsK.go (by assumption) ?_)); (with_reducible show wpAny _ _ (storeName _ _ _) _ _ _); refine m_store (by assumption) (by assumption) (by exact rfl) ?_))
  intro h₅ tkσ X₅ _ _
  try dsimp only at X₅ ⊢
  clear X₄
  repeat walk_at "sky_m0"
  refine wpAny_call (law_at (k := 1) (o := 5) X₅.Wh (hl.at (X₅.keep _)) hi (by (first | exact Nat.le_trans (by assumption) (by decide) | lia)) (R'.le (by decide) (by decide)) fun h₆ tk₆ t₆ k₆ => ?_)
  try dsimp only at k₆ ⊢
  have X₆ := X₅.step k₆
  clear X₅ k₆
  generalize ns.getD 1 5 = n1
  repeat walk_at "sky_m0"
  refine PyProof.Rows.call_abs_int fun u₆ tk₆' => ?_
  rw [show (if n1 < 0 then -n1 else n1) = absI n1 from rfl]
  try dsimp only
  repeat walk_at "sky_m0"
  refine PyProof.Rows.mod_int' (by decide) ?_
  repeat walk_at "sky_m0"
  obtain ⟨Wn, hWn, hW1, hW8⟩ : ∃ Wn : Nat, 1 + (absI n1).fmod 8 = (Wn : Int) ∧ 1 ≤ Wn ∧ Wn ≤ 8 := by
    have e : (absI n1).fmod 8 = absI n1 % 8 := Int.fmod_eq_emod_of_nonneg _ (by decide)
    exact ⟨(1 + (absI n1).fmod 8).toNat, by (first | grind | lia), by (first | lia | omega), by (first | lia | omega)⟩
  rw [hWn]
  (((try (with_reducible first | refine Next.next (by assumption) ?_ | refine Next.ret (by assumption) ?_ | refine Next.cont (by assumption) ?_ | refine Next.brk (by assumption) ?_ | refine IfK.go (by assumption) ?_ | refine AsK.go (by assumption) ?_)); (with_reducible show wpAny _ _ (storeName _ _ _) _ _ _); refine m_store (by assumption) (by assumption) (by exact rfl) ?_))
  intro h₇ tkσ X₇ _ _
  try dsimp only at X₇ ⊢
  clear X₆
  repeat walk_at "sky_m0"
  refine wpAny_call (law_at (k := 2) (o := 6) X₇.Wh (hl.at (X₇.keep _)) hi (by (first | exact Nat.le_trans (by assumption) (by decide) | lia)) (R'.le (by decide) (by decide)) fun h₈ tk₈ t₈ k₈ => ?_)
  try dsimp only at k₈ ⊢
  have X₈ := X₇.step k₈
  clear X₇ k₈
  have hb2 : Builtin.Int.intBits (ns.getD 2 6) ≤ 2 ^ 20 := by
    rw [List.getD_eq_getElem?_getD]
    cases q : ns[2]? with
    | none => show Builtin.Int.intBits 6 ≤ 2 ^ 20; decide +kernel
    | some x => exact hbits _ (List.mem_of_getElem? q)
  generalize ns.getD 2 6 = n2 at hb2 ⊢
  repeat walk_at "sky_m0"
  refine PyProof.Rows.call_abs_int fun u₈ tk₈' => ?_
  rw [show (if n2 < 0 then -n2 else n2) = absI n2 from rfl]
  try dsimp only
  repeat walk_at "sky_m0"
  obtain ⟨Hi, hHi, hH1, hHb⟩ : ∃ Hi : Int, 1 + absI n2 = Hi ∧ 1 ≤ Hi ∧ Builtin.Int.intBits Hi ≤ 2 ^ 21 := by
    refine ⟨_, rfl, by have := absI_nonneg n2; (first | exact Int.le_add_of_nonneg_right (by assumption) | lia), ?_⟩
    have e : Builtin.Int.intBits (absI n2) ≤ 2 ^ 20 := by
      unfold absI; split
      · exact PySem.intBits_neg_le hb2
      · exact hb2
    have := PySem.intBits_add_le (x := 1) (m := 1) (show Builtin.Int.intBits 1 ≤ 1 by decide +kernel) e
    (first | exact Nat.le_trans (by assumption) (by decide) | lia)
  rw [hHi]
  (((try (with_reducible first | refine Next.next (by assumption) ?_ | refine Next.ret (by assumption) ?_ | refine Next.cont (by assumption) ?_ | refine Next.brk (by assumption) ?_ | refine IfK.go (by assumption) ?_ | refine AsK.go (by assumption) ?_)); (with_reducible show wpAny _ _ (storeName _ _ _) _ _ _); refine m_store (by assumption) (by assumption) (by exact rfl) ?_))
  intro h₉ tkσ X₉ _ _
  try dsimp only at X₉ ⊢
  clear X₈
  repeat walk_at "sky_m0"
  refine m_min X₉ R'.2.2 fun h₁₀ tk₁₀ t₁₀ X₁₀ k₁₀ => ?_
  try dsimp only at k₁₀ ⊢
  clear X₉ k₁₀
  repeat walk_at "sky_m0"
  refine m_max X₁₀ R'.2.2 fun h₁₁ tk₁₁ t₁₁ X₁₁ k₁₁ => ?_
  try dsimp only at k₁₁ ⊢
  clear X₁₀ k₁₁
  obtain ⟨most, hmost, hm0⟩ : ∃ most : Int, max (Wn : Int) (min Hi 12) = most ∧ 0 ≤ most := ⟨_, rfl, by (first | exact Int.le_trans (by lia) (Int.le_max_left _ _) | lia)⟩
  rw [hmost]
  (((try (with_reducible first | refine Next.next (by assumption) ?_ | refine Next.ret (by assumption) ?_ | refine Next.cont (by assumption) ?_ | refine Next.brk (by assumption) ?_ | refine IfK.go (by assumption) ?_ | refine AsK.go (by assumption) ?_)); (with_reducible show wpAny _ _ (storeName _ _ _) _ _ _); refine m_store (by assumption) (by assumption) (by exact rfl) ?_))
  intro h₁₂ tkσ X₁₂ _ _
  try dsimp only at X₁₂ ⊢
  clear X₁₁
  generalize hty : tkσa + 1 = ty at X₁₂
  generalize htw : tk₆' + 1 + 1 = tw at X₁₂
  generalize hth : tk₈' = th at X₁₂
  generalize htm : t₁₁ = tm at X₁₂
  refine gen10 (fun m₁ => Fm w [] s.heap L h₁₂ m₁) (fun m₁ => m₁ "way" = some (.int (way : Int) ty)) (fun m₁ => m₁ "turn" = some (.bool turn)) (fun m₁ => m₁ "wide" = some (.int (Wn : Int) tw)) (fun m₁ => m₁ "high" = some (.int Hi th)) (fun m₁ => m₁ "most" = some (.int most tm)) (fun m₁ => m₁ "script" = some (.ref a)) (fun m₁ => m₁ "start" = none) (fun m₁ => m₁ "rid" = none) (fun m₁ => m₁ "_skyline" = none)
    X₁₂ (by ((repeat (first | assumption | exact if_pos rfl | refine (if_neg (by decide)).trans ?_)))) (by ((repeat (first | assumption | exact if_pos rfl | refine (if_neg (by decide)).trans ?_)))) (by ((repeat (first | assumption | exact if_pos rfl | refine (if_neg (by decide)).trans ?_)))) (by ((repeat (first | assumption | exact if_pos rfl | refine (if_neg (by decide)).trans ?_)))) (by ((repeat (first | assumption | exact if_pos rfl | refine (if_neg (by decide)).trans ?_)))) (by ((repeat (first | assumption | exact if_pos rfl | refine (if_neg (by decide)).trans ?_))); rfl) (by ((repeat (first | assumption | exact if_pos rfl | refine (if_neg (by decide)).trans ?_))); rfl) (by ((repeat (first | assumption | exact if_pos rfl | refine (if_neg (by decide)).trans ?_))); rfl) (by ((repeat (first | assumption | exact if_pos rfl | refine (if_neg (by decide)).trans ?_))); rfl)
    (fun m₁ X ey eu ew eh eo es est erid esk => ?_)
  clear X₁₂
  repeat (with_reducible first | refine Next.next (by assumption) ?_ | refine Next.ret (by assumption) ?_ | refine Next.cont (by assumption) ?_ | refine Next.brk (by assumption) ?_ | refine IfK.go (by assumption) ?_ | refine AsK.go (by assumption) ?_)
  refine cut (CutN w s L m₁ ns) ?_ ?_
  · repeat walk_at "sky_m0"
    refine len_list (hl.at (X.keep _)) (by rw [List.size_toArray]; (first | lia | omega)) ?_
    repeat walk_at "sky_m0"
    rw [show vs.toArray.size = ns.length by rw [List.size_toArray, hvl]]
    (try (with_reducible first | refine Next.next (by assumption) ?_ | refine Next.ret (by assumption) ?_ | refine Next.cont (by assumption) ?_ | refine Next.brk (by assumption) ?_ | refine IfK.go (by assumption) ?_ | refine AsK.go (by assumption) ?_))
    refine ite_d (fun c1 => ?_) (fun c1 => ?_)
    · repeat walk_at "sky_m0"
      refine wpAny_Slice ?_
      rw [evalPart_some]
      repeat walk_at "sky_m0"
      rw [evalPart_some]
      repeat walk_at "sky_m0"
      rw [evalPart_none]
      refine wpAny_pure ?_
      try dsimp only
      refine' slice_tail (s := ⟨h₁₂, s.gens, s.drawn, _, s.os⟩) (items := vs.toArray) (hl.at (X.keep _)) (.int _ _) (.int _ _) .none (by simp) (by rw [List.size_toArray]; (first | lia | omega)) ?_ ?hs
      case hs => rfl
      intro na h' k' nn l'
      try dsimp only at l' k' ⊢
      have X' := X.step k'
      (((try (with_reducible first | refine Next.next (by assumption) ?_ | refine Next.ret (by assumption) ?_ | refine Next.cont (by assumption) ?_ | refine Next.brk (by assumption) ?_ | refine IfK.go (by assumption) ?_ | refine AsK.go (by assumption) ?_)); (with_reducible show wpAny _ _ (storeName _ _ _) _ _ _); refine m_store (by assumption) (by assumption) (by exact rfl) ?_))
      intro h₂ tkσ X₂ l₂ _
      try dsimp only at l₂ ⊢
      repeat walk_at "sky_m0"
      refine ⟨rfl, na, (vs.drop 3).take 10, h₂, _, rfl, X₂, ?_, ?_⟩
      · have e : slicePick vs.toArray (some 3) (some 13) none = ((vs.drop 3).take 10).toArray := by
          have hs : vs.toArray.size = vs.length := List.size_toArray
          rw [kmk_pick_nat (lo := some 3) (hi := some 13) vs.toArray (a := 3) (b := min 13 vs.length) (by
            unfold sliceBounds
            rw [hs]
            simp only [Option.getD_none, show (1 : Int) > 0 by decide, if_true, Prod.mk.injEq, show ¬ ((3 : Int) < 0) by decide, show ¬ ((13 : Int) < 0) by decide, if_false]
            repeat' apply And.intro
            all_goals first | trivial | (first | grind | lia))]
          rcases Nat.lt_or_ge vs.length 13 with c | c
          · rw [List.take_of_length_le (by rw [List.length_drop]; show vs.length - 3 ≤ _; (first | grind | lia)), List.take_of_length_le (by rw [List.length_drop]; (first | grind | lia))]
          · rw [show min 13 vs.length - 3 = 10 by (first | lia | omega)]
        rw [e] at l'
        exact l₂ _ _ l'
      · rw [numbersOf, if_pos (by (first | lia | omega))]; exact (hi.drop 3).take 10
    · repeat walk_at "sky_m0"
      refine m_list ?_
      repeat walk_at "sky_m0"
      refine ⟨by show 4 ≤ 100; decide, fun na h' k' nn l' => ?_⟩
      try dsimp only [List.nil_append, List.cons_append] at k' nn l' ⊢
      have X' := X.step k'
      (((try (with_reducible first | refine Next.next (by assumption) ?_ | refine Next.ret (by assumption) ?_ | refine Next.cont (by assumption) ?_ | refine Next.brk (by assumption) ?_ | refine IfK.go (by assumption) ?_ | refine AsK.go (by assumption) ?_)); (with_reducible show wpAny _ _ (storeName _ _ _) _ _ _); refine m_store (by assumption) (by assumption) (by exact rfl) ?_))
      intro h₂ tkσ X₂ l₂ _
      try dsimp only at l₂ ⊢
      repeat walk_at "sky_m0"
      refine ⟨rfl, na, _, h₂, _, rfl, X₂, l₂ _ _ l', ?_⟩
      rw [numbersOf, if_neg (by (first | lia | omega))]
      exact .cons _ _ (.cons _ _ (.cons _ _ (.cons _ _ .nil)))
  clear X
  rintro s' ⟨na, nvs, h₁, tk₁, rfl, X, ln, hni⟩
  repeat walk_at "sky_m0"
  refine wpAny_call (law_bin X.Wh (by (first | lia | omega)) (by (first | exact Int.le_of_lt (by assumption) | lia)) hw3 (R'.le (by decide) (by decide)) fun C p dp sl rl a₁ h₂ tk₂ hC hwC k₂ np ndp nsl nrl P l1 sg1 l2 nrs => ?_)
  try dsimp only at k₂ np ndp nsl nrl ⊢
  have pL := X.F.ne np
  have dpL := X.F.ne ndp
  have slL := X.F.ne nsl
  have rlL := X.F.ne nrl
  have fp := X.fresh np
  have fdp := X.fresh ndp
  have frl := X.fresh nrl
  have narl : na ≠ rl := by obtain ⟨n, e⟩ := ln; exact ne_of_get e nrl
  have fsl := X.fresh nsl
  refine gen10 (fun m₂ => Fm w [] s.heap L h₁ m₂) (fun m₂ => m₂ "way" = some (.int (way : Int) ty)) (fun m₂ => m₂ "turn" = some (.bool turn)) (fun m₂ => m₂ "wide" = some (.int (Wn : Int) tw)) (fun m₂ => m₂ "high" = some (.int Hi th)) (fun m₂ => m₂ "most" = some (.int most tm)) (fun m₂ => m₂ "numbers" = some (.ref na)) (fun m₂ => m₂ "start" = none) (fun m₂ => m₂ "rid" = none) (fun m₂ => m₂ "_skyline" = none)
    X (by ((repeat (first | assumption | exact if_pos rfl | refine (if_neg (by decide)).trans ?_)))) (by ((repeat (first | assumption | exact if_pos rfl | refine (if_neg (by decide)).trans ?_)))) (by ((repeat (first | assumption | exact if_pos rfl | refine (if_neg (by decide)).trans ?_)))) (by ((repeat (first | assumption | exact if_pos rfl | refine (if_neg (by decide)).trans ?_)))) (by ((repeat (first | assumption | exact if_pos rfl | refine (if_neg (by decide)).trans ?_)))) (by ((repeat (first | assumption | exact if_pos rfl | refine (if_neg (by decide)).trans ?_)))) (by ((repeat (first | assumption | exact if_pos rfl | refine (if_neg (by decide)).trans ?_)))) (by ((repeat (first | assumption | exact if_pos rfl | refine (if_neg (by decide)).trans ?_)))) (by ((repeat (first | assumption | exact if_pos rfl | refine (if_neg (by decide)).trans ?_))))
    (fun m₂ X ey eu ew eh eo en est erid esk => ?_)
  obtain ⟨B₂, X₂, kB₂, Hd⟩ := (X.step k₂).up
  have P₂ := Hd.pk P esk
  have sg₂ := Hd.seg sg1 est (n := "way") (by rw [ey]; simp) (by decide) (by decide)
  have l1₂ := Hd.list l1 (by simp)
  have l2₂ := Hd.list l2 (by simp)
  have ln₂ := Hd.list (ln.at (k₂ _)) (by simp)
  clear Hd X k₂ P sg1 l1 l2 ln
  (((try (with_reducible first | refine Next.next (by assumption) ?_ | refine Next.ret (by assumption) ?_ | refine Next.cont (by assumption) ?_ | refine Next.brk (by assumption) ?_ | refine IfK.go (by assumption) ?_ | refine AsK.go (by assumption) ?_)); (with_reducible show wpAny _ _ (storeName _ _ _) _ _ _); refine m_store (by assumption) (by assumption) (by exact rfl) ?_))
  intro h₃ tkσd X₃ _ _
  try dsimp only at X₃ ⊢
  clear X₂
  repeat walk_at "sky_m0"
  refine m_list ?_
  repeat walk_at "sky_m0"
  refine ⟨by show 1 ≤ 100; decide, fun qz h₄ k₄ _ lz => ?_⟩
  try dsimp only [List.nil_append, List.cons_append] at k₄ lz ⊢
  have X₄ := X₃.step k₄
  clear X₃ k₄
  repeat walk_at "sky_m0"
  refine mul_one lz (by (first | exact Nat.le_trans (by assumption) (by decide) | lia)) fun ta h₅ k₅ nta lta => ?_
  try dsimp only at k₅ lta nta ⊢
  have X₅ := X₄.step k₅
  have taL := X₄.F.ne nta
  have fta := X₄.fresh nta
  clear X₄ k₅ lz nta
  (((try (with_reducible first | refine Next.next (by assumption) ?_ | refine Next.ret (by assumption) ?_ | refine Next.cont (by assumption) ?_ | refine Next.brk (by assumption) ?_ | refine IfK.go (by assumption) ?_ | refine AsK.go (by assumption) ?_)); (with_reducible show wpAny _ _ (storeName _ _ _) _ _ _); refine m_store (by assumption) (by assumption) (by exact rfl) ?_))
  intro h₆ tkσ X₆ l₆ _
  try dsimp only at l₆ ⊢
  have lta := l₆ _ _ lta
  clear X₅ l₆
  repeat walk_at "sky_m0"
  refine m_list ?_
  repeat walk_at "sky_m0"
  refine ⟨by show 0 ≤ 100; decide, fun ra h₇ k₇ nra lra => ?_⟩
  try dsimp only at k₇ nra lra ⊢
  have X₇ := X₆.step k₇
  have raL := X₆.F.ne nra
  have fra := X₆.fresh nra
  have hrr : ra ≠ rl := fun q => by obtain ⟨n, e⟩ := l2₂; rw [q, e] at fra; cases fra
  have rata : ta ≠ ra := by obtain ⟨n, e⟩ := lta; exact ne_of_get e nra
  have lta := lta.at (k₇ _)
  clear X₆ k₇ nra
  (((try (with_reducible first | refine Next.next (by assumption) ?_ | refine Next.ret (by assumption) ?_ | refine Next.cont (by assumption) ?_ | refine Next.brk (by assumption) ?_ | refine IfK.go (by assumption) ?_ | refine AsK.go (by assumption) ?_)); (with_reducible show wpAny _ _ (storeName _ _ _) _ _ _); refine m_store (by assumption) (by assumption) (by exact rfl) ?_))
  intro h₈ tkσ X₈ l₈ _
  try dsimp only at l₈ ⊢
  have lta := l₈ _ _ lta
  have lra := l₈ _ _ lra
  clear X₇ l₈
  obtain ⟨B₀, WB, kB₀, n₀, back⟩ := hf.hide
  have hot₀ : Hot h₈ p dp C sl rl ra Wn Hi turn #[] #[] := ⟨T.kept (kB₂.trans X₈.keep), TL.kept (kB₂.trans X₈.keep), P₂.kept X₈.keep, l2₂.at (X₈.keep _), lra⟩
  have hL : ∀ x ∈ hotL p dp rl ra, x ≠ L := fun x hx => by
    simp only [hotL, List.mem_cons, List.not_mem_nil, or_false] at hx
    have old : ∀ y, (∃ o, s.heap.get? y = some o) → y ≠ L := fun y ⟨o, e⟩ => ne_of_get e hLs
    obtain ⟨⟨o, ho⟩, ⟨op, hop⟩⟩ := T.olds
    obtain ⟨⟨o', ho'⟩, ⟨op', hop'⟩⟩ := TL.tab.olds
    rcases hx with rfl | rfl | rfl | rfl | rfl | rfl | rfl | rfl
    · exact old _ ⟨_, ho⟩
    · exact old _ ⟨_, hop⟩
    · exact old _ ⟨_, ho'⟩
    · exact old _ ⟨_, hop'⟩
    · exact pL
    · exact dpL
    · exact rlL
    · exact raL
  have fh : ∀ x ∈ [598, 633, dp, rl, ra], B₀.get? x = none := fun x hx => by
    have up : ∀ y, s.heap.get? y = none → B₀.get? y = none := fun y e => by
      cases q : B₀.get? y with
      | none => rfl
      | some o => have := kB₀ _ _ q; rw [e] at this; cases this
    have up2 : ∀ y, B₂.get? y = none → s.heap.get? y = none := fun y e => by
      cases q : s.heap.get? y with
      | none => rfl
      | some o => have := kB₂ _ _ q; rw [e] at this; cases this
    simp only [List.mem_cons, List.not_mem_nil, or_false] at hx
    rcases hx with rfl | rfl | rfl | rfl | rfl
    · exact n₀ _ (by simp)
    · exact n₀ _ (by simp)
    · exact up _ fdp
    · exact up _ frl
    · exact up _ (up2 _ fra)
  have X₀ := Fm.of WB (X₈.F.weaken (kB₀.trans kB₂))
  refine gen3 (fun m₃ => Fm w [] B₀ L h₈ m₃) (fun m₃ => Fm w [] B₂ L h₈ m₃) (fun m₃ => LawM m₃ p ra ta na way turn Wn Hi most ty tw th tm)
    X₀ X₈ ⟨by ((repeat (first | assumption | exact if_pos rfl | refine (if_neg (by decide)).trans ?_))), by ((repeat (first | assumption | exact if_pos rfl | refine (if_neg (by decide)).trans ?_))), by ((repeat (first | assumption | exact if_pos rfl | refine (if_neg (by decide)).trans ?_))), by ((repeat (first | assumption | exact if_pos rfl | refine (if_neg (by decide)).trans ?_))), by ((repeat (first | assumption | exact if_pos rfl | refine (if_neg (by decide)).trans ?_))), by ((repeat (first | assumption | exact if_pos rfl | refine (if_neg (by decide)).trans ?_))), by ((repeat (first | assumption | exact if_pos rfl | refine (if_neg (by decide)).trans ?_))), by ((repeat (first | assumption | exact if_pos rfl | refine (if_neg (by decide)).trans ?_))), by ((repeat (first | assumption | exact if_pos rfl | refine (if_neg (by decide)).trans ?_))), by ((repeat (first | assumption | exact if_pos rfl | refine (if_neg (by decide)).trans ?_))), by ((repeat (first | assumption | exact if_pos rfl | refine (if_neg (by decide)).trans ?_)))⟩
    (fun m₃ X₀ X₈ LM => ?_)
  obtain ⟨B₃, X₃, kB₃, n₃, r1, r2, r3, r4⟩ := raise X₀ hot₀ LM.st LM.rid (by rw [LM.p]; simp) hL fh
  have hT₂ : Tab B₂ 602 598 := T.kept kB₂
  have hTL₂ : TabL B₂ 637 633 lamPos lamQual := TL.kept kB₂
  have nin : ∀ x its, B₂.PlainList x its → x ≠ rl → x ∉ [598, 633, dp, rl, ra] := fun x its lx nx q => by
    simp only [List.mem_cons, List.not_mem_nil, or_false] at q
    rcases q with q | q | q | q | q
    · exact hT₂.nel lx q
    · exact hTL₂.tab.nel lx q
    · exact P₂.nel lx q
    · exact nx q
    · rw [q] at lx; obtain ⟨n, e⟩ := lx; rw [fra] at e; cases e
  have ninta : ta ∉ [598, 633, dp, rl, ra] := fun q => by
    have no : ∀ y o, B₂.get? y = some o → ta ≠ y := fun y o e q => by rw [q, e] at fta; cases fta
    obtain ⟨⟨ps, _, ⟨_, b⟩⟩, ⟨ps', _, ⟨_, b'⟩, _⟩⟩ := And.intro hT₂ hTL₂
    obtain ⟨_, _, _, _, _, ⟨o, es, ep, ho, _⟩, _⟩ := P₂
    obtain ⟨n, e⟩ := l2₂
    simp only [List.mem_cons, List.not_mem_nil, or_false] at q
    rcases q with q | q | q | q | q
    · exact no _ _ b q
    · exact no _ _ b' q
    · exact no _ _ ho q
    · exact no _ _ e q
    · exact rata q
  have cold₀ : Cold B₃ sl ta #[.ref a₁] #[] #[] [⟨0, 0, Wn⟩] [] (List.replicate Wn (.int 0 tkσd)) :=
    ⟨r2 _ _ (nin _ _ l1₂ (Ne.symm nrs)) (l1₂.at (X₈.keep _)), r1 _ _ ⟨rfl, fun i g e => by
      match i, e with
      | 0, e => cases e; exact ⟨a₁, rfl, sg₂.kept X₈.keep, by show (0 : Int) ≤ Wn; (first | lia | omega)⟩
      | k + 1, e => simp at e⟩, ⟨rfl, fun i row e => by simp at e⟩, ⟨rfl, fun i row e => by simp at e⟩, r2 _ _ ninta lta⟩
  have ln₃ : B₃.PlainList na nvs.toArray := r2 _ _ (nin _ _ ln₂ narl) (ln₂.at (X₈.keep _))
  have h0 : LawJ p dp C rl ra na way Wn turn Hi most ty tw th tm 0 B₃ h₈ m₃ s.gens := ⟨sl, ta, _, _, _, _, _, _, fun _ => 0, hot₀, cold₀, by rw [Tops.zero]; exact IntsAre.rep _ _ _, ⟨⟨rfl, by show (0 : Int) < Wn; (first | exact Int.ofNat_lt.mpr (by assumption) | lia), by show (0 : Int) + Wn = Wn; (first | exact Int.add_comm _ _ | lia)⟩, fun g hg z _ _ => by rw [List.mem_singleton.mp hg]⟩, fun _ _ _ => Int.le_refl _, Nat.le_refl _, hg, LM⟩
  clear hot₀ cold₀ r1 r2 r3 r4 nin ninta lta lra l1₂ l2₂ ln₂ sg₂ P₂ X₀ X₈ hT₂ hTL₂
  obtain ⟨g1, g2, g3, g4, g5, g6, g7, g8, g9, g10, g11⟩ := LM
  have hN : nvs.length = (numbersOf ns).length := PyProof.Rows.ints_len_eq hni
  have hN2 : 2 ≤ (numbersOf ns).length ∧ (numbersOf ns).length ≤ 10 := by
    unfold numbersOf
    split
    · rw [List.length_take, List.length_drop]; (first | grind | lia)
    · exact ⟨by decide, by decide⟩
  generalize numbersOf ns = N at hni hN hN2
  repeat walk_at "sky_m0"
  refine wpAny_For ?_ (by intro _; rfl)
  repeat walk_at "sky_m0"
  refine len_list (ln₃.at (X₃.keep _)).isList (by rw [List.size_toArray]; (first | lia | omega)) ?_
  repeat walk_at "sky_m0"
  rw [show nvs.toArray.size = N.length by rw [List.size_toArray, hN]]
  refine call_range_3 (by decide) ?_
  try dsimp only
  obtain ⟨sm, rs⟩ := small_two (b := (N.length : Int) - 1) (by (first | lia | omega)) (by (first | lia | omega))
  have kp := Kept.push h₈
  have hhas : ∀ x ∈ hotL p dp rl ra, ∃ o, h₈.get? x = some o := by obtain ⟨_, _, _, _, _, _, _, _, _, hot, _⟩ := h0; exact hot.has
  refine for_rangeG V R'.2.2 rfl [598, 633, dp, rl, ra] (X₃.step (kp _)).F n₃ (fun x hx => ?_) (IsRange.new ..) sm rs (LawJ p dp C rl ra na way Wn turn Hi most ty tw th tm) ?_ ?_ ?_ ?_ ?_
  · obtain ⟨o, e⟩ := hhas x (by
      exact mem_hot hx)
    exact ⟨o, kp _ _ _ e⟩
  · obtain ⟨sl', ta', items, ritems, titems, segs, rows, tvs, H, hot, r1, r2, r3, r4, r5, r6, r7⟩ := h0
    exact ⟨sl', ta', items, ritems, titems, segs, rows, tvs, H, hot.kept (kp _), r1, r2, r3, r4, r5, r6, r7⟩
  · intro I hI i B B' h h' m gs J itB ith nf b k
    exact J.frame hL (fun x hx => by obtain ⟨o, e⟩ := hhas x hx; exact ne_of_get (kp _ _ _ e) hI) itB ith nf b k
  · clear h0
    rintro i v B₁ h₁ m₁ tk₁ gs hi₁ ⟨tv, rfl⟩ ⟨sl, ta, items, ritems, titems, segs, rows, tvs, H, hot, cold, hti, hSk, hH0, hrz, hbare, LM⟩ kB₁ F₁ hh₁
    have ev : ((0 : Int) + (i : Int) * 2) = ((2 * i : Nat) : Int) := by (first | lia | omega)
    rw [ev] at F₁
    have hk1 : 2 * i + 1 < N.length := by (first | lia | omega)
    have hi5 : i ≤ 5 := by (first | lia | omega)
    clear hi₁ rs sm kp hhas ev
    have X := Fm.of (X₃.W.keeps kB₁) F₁
    have ln := ln₃.at (kB₁ _)
    have num : ∀ j, j < N.length → ∃ x t, nvs.toArray[j]? = some (.int x t) := fun j hj => by
      obtain ⟨n, t, hv, hn⟩ := hni.at j (nvs[j]'(by (first | exact Nat.lt_of_lt_of_eq (by assumption) (Eq.symm (by assumption)) | lia))) (List.getElem?_eq_getElem _)
      exact ⟨n, t, by rw [List.getElem?_toArray, List.getElem?_eq_getElem (by (first | exact Nat.lt_of_lt_of_eq (by assumption) (Eq.symm (by assumption)) | lia)), hv]⟩
    obtain ⟨x0, u0, hv0⟩ := num (2 * i) (by (first | exact Nat.lt_of_succ_lt (by assumption) | lia))
    obtain ⟨x1, u1, hv1⟩ := num (2 * i + 1) hk1
    have hnz : nvs.toArray.size ≤ 100 := by rw [List.size_toArray]; (first | lia | omega)
    refine gen3 (fun m₂ => Fm w [] B₁ L h₁ m₂) (fun m₂ => LawM m₂ p ra ta na way turn Wn Hi most ty tw th tm) (fun m₂ => m₂ "k" = some (.int ((2 * i : Nat) : Int) tv))
      X (LM.set (by decide)) (if_pos rfl)
      (fun m₂ X LM ek => ?_)
    clear F₁ num
    unfold LoopBodyG
    obtain ⟨g1, g2, g3, g4, g5, g6, g7, g8, g9, g10, g11⟩ := id LM
    repeat walk_at "sky_m0"
    refine item_at (i := 2 * i) (ln.at (X.keep _)).isList rfl hv0 hnz ?_ rfl
    repeat walk_at "sky_m0"
    refine wpAny_call (law_side X.Wh hm0 (R'.le (by decide) (by decide)) fun h₂ tk₂ t₂ k₂ => ?_)
    try dsimp only at k₂ ⊢
    obtain ⟨hs1, hs2⟩ := lawSide_ok (n := x0) hm0
    generalize lawSide x0 most = sa at hs1 hs2 ⊢
    have X₂ := X.step k₂
    have hot₂ := hot.kept k₂
    clear X k₂ hot
    (((try (with_reducible first | refine Next.next (by assumption) ?_ | refine Next.ret (by assumption) ?_ | refine Next.cont (by assumption) ?_ | refine Next.brk (by assumption) ?_ | refine IfK.go (by assumption) ?_ | refine AsK.go (by assumption) ?_)); (with_reducible show wpAny _ _ (storeName _ _ _) _ _ _); refine m_store (by assumption) (by assumption) (by exact rfl) ?_))
    intro h₃ tkσ X₄ _ b₄
    try dsimp only at X₄ b₄ ⊢
    have hot₄ := hot₂.store b₄ (.ns X₂.F.ns) hL
    clear X₂ hot₂ b₄
    refine gen4 (fun m₃ => Fm w [] B₁ L h₃ m₃) (fun m₃ => LawM m₃ p ra ta na way turn Wn Hi most ty tw th tm) (fun m₃ => m₃ "k" = some (.int ((2 * i : Nat) : Int) tv)) (fun m₃ => m₃ "a" = some (.int sa t₂))
      X₄ (LM.set (by decide)) (by ((repeat (first | assumption | exact if_pos rfl | refine (if_neg (by decide)).trans ?_)))) (if_pos rfl)
      (fun m₃ X₄ LM ek ea => ?_)
    clear g1 g2 g3 g4 g5 g6 g7 g8 g9 g10 g11
    obtain ⟨g1, g2, g3, g4, g5, g6, g7, g8, g9, g10, g11⟩ := id LM
    repeat walk_at "sky_m0"
    refine item_at (i := 2 * i + 1) (ln.at (X₄.keep _)).isList (by (first | rfl | lia)) hv1 hnz ?_ rfl
    repeat walk_at "sky_m0"
    refine m_max X₄ R'.2.2 fun h₅ tk₅ t₅ X₅ k₅ => ?_
    try dsimp only at k₅ ⊢
    have hot₅ := hot₄.kept k₅
    clear X₄ hot₄ k₅
    repeat walk_at "sky_m0"
    refine wpAny_call (law_side X₅.Wh (by (first | grind | lia)) (R'.le (by decide) (by decide)) fun h₆ tk₆ t₆ k₆ => ?_)
    try dsimp only at k₆ ⊢
    obtain ⟨hs3, -⟩ := lawSide_ok (n := x1) (m := max (Wn : Int) Hi) (by (first | grind | lia))
    generalize lawSide x1 (max (Wn : Int) Hi) = sb at hs3 ⊢
    have X₆ := X₅.step k₆
    have hot₆ := hot₅.kept k₆
    clear X₅ k₆ hot₅
    (((try (with_reducible first | refine Next.next (by assumption) ?_ | refine Next.ret (by assumption) ?_ | refine Next.cont (by assumption) ?_ | refine Next.brk (by assumption) ?_ | refine IfK.go (by assumption) ?_ | refine AsK.go (by assumption) ?_)); (with_reducible show wpAny _ _ (storeName _ _ _) _ _ _); refine m_store (by assumption) (by assumption) (by exact rfl) ?_))
    intro h₇ tkσ X₇ _ b₇
    try dsimp only at X₇ b₇ ⊢
    have hot₇ := hot₆.store b₇ (.ns X₆.F.ns) hL
    clear X₆ hot₆ b₇
    refine gen5 (fun m₄ => Fm w [] B₁ L h₇ m₄) (fun m₄ => LawM m₄ p ra ta na way turn Wn Hi most ty tw th tm) (fun m₄ => m₄ "k" = some (.int ((2 * i : Nat) : Int) tv)) (fun m₄ => m₄ "a" = some (.int sa t₂)) (fun m₄ => m₄ "b" = some (.int sb t₆))
      X₇ (LM.set (by decide)) (by ((repeat (first | assumption | exact if_pos rfl | refine (if_neg (by decide)).trans ?_)))) (by ((repeat (first | assumption | exact if_pos rfl | refine (if_neg (by decide)).trans ?_)))) (if_pos rfl)
      (fun m₄ X₇ LM ek ea eb => ?_)
    clear g1 g2 g3 g4 g5 g6 g7 g8 g9 g10 g11
    obtain ⟨g1, g2, g3, g4, g5, g6, g7, g8, g9, g10, g11⟩ := id LM
    have hps := sides_pos (turn := turn) (a := sa) (b := sb) (by (first | assumption | lia)) (by (first | assumption | lia))
    repeat (with_reducible first | refine Next.next (by assumption) ?_ | refine Next.ret (by assumption) ?_ | refine Next.cont (by assumption) ?_ | refine Next.brk (by assumption) ?_ | refine IfK.go (by assumption) ?_ | refine AsK.go (by assumption) ?_)
    refine cut (CutS w L m₄ gs s.drawn s.os B₁ p dp C sl rl ra Wn Hi turn ritems titems (sidesOf turn sa sb)) ?_ ?_
    · have fin : ∀ (hA hB : Heap) (tkA : Nat) (sid : Addr) (its : Array Value), Kept h₇ hA → hA.get? sid = none → Kept hA hB → hB.PlainList sid its → SidesAt hB its (sidesOf turn sa sb) → wpAny (model prog w) A' (storeName env "sides" (.ref sid)) (fun _ s' => CutS w L m₄ gs s.drawn s.os B₁ p dp C sl rl ra Wn Hi turn ritems titems (sidesOf turn sa sb) s') (fun _ _ => False) ⟨hB, gs, s.drawn, tkA, s.os⟩ := fun hA hB tkA sid its kA nA kB lS SA => by
        have hotA := hot₇.kept kA
        have hotB := hotA.kept kB
        obtain ⟨B₂, X₂, kB₂, hh₂, _, r2, _, r4⟩ := raise ((X₇.step kA).step kB) hotB g10 g11 (by rw [g1]; simp) hL hh₁
        have SB : SidesAt B₂ its (sidesOf turn sa sb) := ⟨SA.1, fun i p e => let ⟨q, t1, t2, a, b⟩ := SA.2 i p e; ⟨q, t1, t2, a, r4 _ _ b⟩⟩
        (((try (with_reducible first | refine Next.next (by assumption) ?_ | refine Next.ret (by assumption) ?_ | refine Next.cont (by assumption) ?_ | refine Next.brk (by assumption) ?_ | refine IfK.go (by assumption) ?_ | refine AsK.go (by assumption) ?_)); (with_reducible show wpAny _ _ (storeName _ _ _) _ _ _); refine m_store (by assumption) (by assumption) (by exact rfl) ?_))
        intro h₃ tkσ X₃ _ b₃
        try dsimp only at X₃ b₃ ⊢
        exact ⟨B₂, h₃, _, sid, its, rfl, X₃, kB₂, hh₂, hotB.store b₃ (.ns X₂.F.ns) hL, r2 _ _ (hotA.nin nA) lS, SB⟩
      repeat walk_at "sky_m0"
      cases turn with
      | true =>
        repeat walk_at "sky_m0"
        refine m_list ?_
        repeat walk_at "sky_m0"
        refine m_tuple ?_
        repeat walk_at "sky_m0"
        refine ⟨by show 2 ≤ 100; decide, fun q₁ hA kA nA T₁ => ?_⟩
        try dsimp only [List.nil_append, List.cons_append] at kA nA T₁ ⊢
        have XA := X₇.step kA
        repeat walk_at "sky_m0"
        refine m_tuple ?_
        repeat walk_at "sky_m0"
        refine ⟨by show 2 ≤ 100; decide, fun q₂ hB kB nB T₂ => ?_⟩
        try dsimp only [List.nil_append, List.cons_append] at kB nB T₂ ⊢
        have XB := XA.step kB
        repeat walk_at "sky_m0"
        refine ⟨by show 2 ≤ 100; decide, fun sid hC kC nC lC => ?_⟩
        try dsimp only [List.nil_append, List.cons_append] at kC nC lC ⊢
        (try (with_reducible first | refine Next.next (by assumption) ?_ | refine Next.ret (by assumption) ?_ | refine Next.cont (by assumption) ?_ | refine Next.brk (by assumption) ?_ | refine IfK.go (by assumption) ?_ | refine AsK.go (by assumption) ?_))
        refine wpAny_mono (fin hB hC _ sid _ (kA.trans kB) nC kC lC ⟨rfl, fun j q e => ?_⟩) (fun _ s' z => ⟨rfl, z⟩) fun _ _ z => z
        match j, e with
        | 0, e => cases e; exact ⟨q₁, _, _, rfl, (T₁.kept kB).kept kC⟩
        | 1, e => cases e; exact ⟨q₂, _, _, rfl, T₂.kept kC⟩
      | false =>
        repeat walk_at "sky_m0"
        refine m_list ?_
        repeat walk_at "sky_m0"
        refine m_tuple ?_
        repeat walk_at "sky_m0"
        refine ⟨by show 2 ≤ 100; decide, fun q₁ hA kA nA T₁ => ?_⟩
        try dsimp only [List.nil_append, List.cons_append] at kA nA T₁ ⊢
        have XA := X₇.step kA
        repeat walk_at "sky_m0"
        refine ⟨by show 1 ≤ 100; decide, fun sid hC kC nC lC => ?_⟩
        try dsimp only [List.nil_append, List.cons_append] at kC nC lC ⊢
        (try (with_reducible first | refine Next.next (by assumption) ?_ | refine Next.ret (by assumption) ?_ | refine Next.cont (by assumption) ?_ | refine Next.brk (by assumption) ?_ | refine IfK.go (by assumption) ?_ | refine AsK.go (by assumption) ?_))
        refine wpAny_mono (fin hA hC _ sid _ kA nC kC lC ⟨rfl, fun j q e => ?_⟩) (fun _ s' z => ⟨rfl, z⟩) fun _ _ z => z
        match j, e with
        | 0, e => cases e; exact ⟨q₁, _, _, rfl, T₁.kept kC⟩
    clear X₇ hot₇
    rintro s' ⟨B₂, h₈, tk₈, sid, its, rfl, X₈, kB₂, hh₂, hot₈, lsd, hSd⟩
    clear g1 g2 g3 g4 g5 g6 g7 g8 g9 g10 g11
    have cold₂ := cold.kept kB₂
    refine gen6 (fun m₅ => Fm w [] B₂ L h₈ m₅) (fun m₅ => LawM m₅ p ra ta na way turn Wn Hi most ty tw th tm) (fun m₅ => m₅ "k" = some (.int ((2 * i : Nat) : Int) tv)) (fun m₅ => m₅ "a" = some (.int sa t₂)) (fun m₅ => m₅ "b" = some (.int sb t₆)) (fun m₅ => m₅ "sides" = some (.ref sid))
      X₈ (LM.set (by decide)) (by ((repeat (first | assumption | exact if_pos rfl | refine (if_neg (by decide)).trans ?_)))) (by ((repeat (first | assumption | exact if_pos rfl | refine (if_neg (by decide)).trans ?_)))) (by ((repeat (first | assumption | exact if_pos rfl | refine (if_neg (by decide)).trans ?_)))) (if_pos rfl)
      (fun m₅ X₈ LM ek ea eb es => ?_)
    obtain ⟨g1, g2, g3, g4, g5, g6, g7, g8, g9, g10, g11⟩ := id LM
    clear cold hh₁
    repeat walk_at "sky_m0"
    refine wpAny_call (law_place' X₈.Wh (cold₂.lt.at (X₈.keep _)) hti hW8 hw3 (lsd.at (X₈.keep _)) (hSd.kept X₈.keep) (sides_len _ _ _) hps (R'.le (by decide) (by decide)) fun h₉ tk₉ vd k₉ PR => ?_)
    try dsimp only at k₉ ⊢
    have X₉ := X₈.step k₉
    have hot₉ := hot₈.kept k₉
    clear X₈ hot₈ k₉
    obtain ⟨B₃', X₉, kB₃', hh₃, _, _, _, r4⟩ := raise X₉ hot₉ g10 g11 (by rw [g1]; simp) hL hh₂
    have PR := PR.raise r4
    have cold₃ := cold₂.kept kB₃'
    have lsd := lsd.at (kB₃' _)
    have hSd := hSd.kept kB₃'
    clear r4 cold₂ hh₂
    (((try (with_reducible first | refine Next.next (by assumption) ?_ | refine Next.ret (by assumption) ?_ | refine Next.cont (by assumption) ?_ | refine Next.brk (by assumption) ?_ | refine IfK.go (by assumption) ?_ | refine AsK.go (by assumption) ?_)); (with_reducible show wpAny _ _ (storeName _ _ _) _ _ _); refine m_store (by assumption) (by assumption) (by exact rfl) ?_))
    intro h₁₀ tkσ X₁₀ _ b₁₀
    try dsimp only at X₁₀ b₁₀ ⊢
    have hot₁₀ := hot₉.store b₁₀ (.ns X₉.F.ns) hL
    clear X₉ hot₉ b₁₀
    refine gen7 (fun m₆ => Fm w [] B₃' L h₁₀ m₆) (fun m₆ => LawM m₆ p ra ta na way turn Wn Hi most ty tw th tm) (fun m₆ => m₆ "k" = some (.int ((2 * i : Nat) : Int) tv)) (fun m₆ => m₆ "a" = some (.int sa t₂)) (fun m₆ => m₆ "b" = some (.int sb t₆)) (fun m₆ => m₆ "sides" = some (.ref sid)) (fun m₆ => m₆ "due" = some vd)
      X₁₀ (LM.set (by decide)) (by ((repeat (first | assumption | exact if_pos rfl | refine (if_neg (by decide)).trans ?_)))) (by ((repeat (first | assumption | exact if_pos rfl | refine (if_neg (by decide)).trans ?_)))) (by ((repeat (first | assumption | exact if_pos rfl | refine (if_neg (by decide)).trans ?_)))) (by ((repeat (first | assumption | exact if_pos rfl | refine (if_neg (by decide)).trans ?_)))) (if_pos rfl)
      (fun m₆ X₁₀ LM ek ea eb es ed => ?_)
    clear g1 g2 g3 g4 g5 g6 g7 g8 g9 g10 g11
    obtain ⟨g1, g2, g3, g4, g5, g6, g7, g8, g9, g10, g11⟩ := id LM
    have sub2 : ∀ x ∈ [598, 633], x ∈ [598, 633, dp, rl, ra] := fun x hx => by
      rcases List.mem_cons.mp hx with rfl | q
      · exact .head _
      · rw [List.mem_singleton.mp q]; exact .tail _ (.head _)
    have L2 : L ∉ [598, 633] := fun q => hL L (by
      rcases List.mem_cons.mp q with rfl | q
      · exact .tail _ (.head _)
      · rw [List.mem_singleton.mp q]; simp [hotL]) rfl
    repeat walk_at "sky_m0"
    refine pk_meth X₁₀.W X₁₀.keep hot₁₀.P (by decide) (pk_fit _) ?_
    try dsimp only
    repeat walk_at "sky_m0"
    refine wpAny_call (fitness_call X₁₀.Wh ⟨_, X₁₀.W, X₁₀.keep, fun x hx => hh₃ x (sub2 x hx)⟩ hot₁₀.T hot₁₀.TL hot₁₀.P (cold₃.ls.at (X₁₀.keep _)) (cold₃.S.kept X₁₀.keep) hSk (by (first | exact Int.ofNat_le.mpr (by assumption) | lia)) (by (first | exact Int.ofNat_le.mpr (by assumption) | lia)) hH0 hHb (by (first | assumption | lia)) (by (first | assumption | lia)) hbare (R'.le (by decide) (by decide)) fun h₁₁ tk₁₁ gs₁ vt bT T₁ TL₁ bare₁ FR => ?_)
    try dsimp only at bT ⊢
    have X₁₁ := X₁₀.butl bT (fun b hb => hh₃ b (sub2 b hb)) L2 (fun b hb => nomatch hb)
    have hot₁₁ := hot₁₀.butT bT T₁ TL₁
    clear X₁₀ hot₁₀ bT T₁ TL₁ hbare
    (((try (with_reducible first | refine Next.next (by assumption) ?_ | refine Next.ret (by assumption) ?_ | refine Next.cont (by assumption) ?_ | refine Next.brk (by assumption) ?_ | refine IfK.go (by assumption) ?_ | refine AsK.go (by assumption) ?_)); (with_reducible show wpAny _ _ (storeName _ _ _) _ _ _); refine m_store (by assumption) (by assumption) (by exact rfl) ?_))
    intro h₁₂ tkσ X₁₂ _ b₁₂
    try dsimp only at X₁₂ b₁₂ ⊢
    have hot₁₂ := hot₁₁.store b₁₂ (.ns X₁₁.F.ns) hL
    clear X₁₁ hot₁₁ b₁₂
    refine gen8 (fun m₇ => Fm w [] B₃' L h₁₂ m₇) (fun m₇ => LawM m₇ p ra ta na way turn Wn Hi most ty tw th tm) (fun m₇ => m₇ "k" = some (.int ((2 * i : Nat) : Int) tv)) (fun m₇ => m₇ "a" = some (.int sa t₂)) (fun m₇ => m₇ "b" = some (.int sb t₆)) (fun m₇ => m₇ "sides" = some (.ref sid)) (fun m₇ => m₇ "due" = some vd) (fun m₇ => m₇ "told" = some vt)
      X₁₂ (LM.set (by decide)) (by ((repeat (first | assumption | exact if_pos rfl | refine (if_neg (by decide)).trans ?_)))) (by ((repeat (first | assumption | exact if_pos rfl | refine (if_neg (by decide)).trans ?_)))) (by ((repeat (first | assumption | exact if_pos rfl | refine (if_neg (by decide)).trans ?_)))) (by ((repeat (first | assumption | exact if_pos rfl | refine (if_neg (by decide)).trans ?_)))) (by ((repeat (first | assumption | exact if_pos rfl | refine (if_neg (by decide)).trans ?_)))) (if_pos rfl)
      (fun m₇ X₁₂ LM ek ea eb es ed et => ?_)
    clear g1 g2 g3 g4 g5 g6 g7 g8 g9 g10 g11
    obtain ⟨g1, g2, g3, g4, g5, g6, g7, g8, g9, g10, g11⟩ := id LM
    have hrz1 : ritems.size ≤ 100 := by have := cold₃.R.1; (first | grind | lia)
    have sub4 : ∀ x ∈ [598, 633, dp, rl], x ∈ [598, 633, dp, rl, ra] := fun x hx => by
      exact mem_pre4 hx
    have L4 : L ∉ [598, 633, dp, rl] := fun q => hL L (by
      exact mem_hot (mem_pre4 q)) rfl
    have ra4 : ∀ {h : Heap} {sl : Addr} {ritems titems : Array Value}, Hot h p dp C sl rl ra Wn Hi turn ritems titems → ra ∉ [598, 633, dp, rl] ∧ rl ∉ [598, 633] := fun {h sl ritems titems} X => ⟨fun q => by
      simp only [List.mem_cons, List.not_mem_nil, or_false] at q
      rcases q with q | q | q | q
      · exact X.T.nel X.la q
      · exact X.TL.tab.nel X.la q
      · exact X.P.nel X.la q
      · exact hrr q, fun q => by
      simp only [List.mem_cons, List.not_mem_nil, or_false] at q
      rcases q with q | q
      · exact X.T.nel X.lr q
      · exact X.TL.tab.nel X.lr q⟩
    repeat (with_reducible first | refine Next.next (by assumption) ?_ | refine Next.ret (by assumption) ?_ | refine Next.cont (by assumption) ?_ | refine Next.brk (by assumption) ?_ | refine IfK.go (by assumption) ?_ | refine AsK.go (by assumption) ?_)
    refine cut (CutG w L m₇ s.drawn s.os B₃' p dp C sl rl ra Wn Hi turn ritems titems segs H (sidesOf turn sa sb) ((2 * i : Nat) : Int)) ?_ ?_
    · repeat walk_at "sky_m0"
      refine pk_meth X₁₂.W X₁₂.keep hot₁₂.P (by decide) (pk_addrect _) ?_
      try dsimp only
      repeat walk_at "sky_m0"
      refine wpAny_call (add_rect_call X₁₂.Wh ⟨_, X₁₂.W, X₁₂.keep, fun x hx => hh₃ x (sub4 x hx)⟩ hot₁₂.T hot₁₂.TL hot₁₂.P (cold₃.ls.at (X₁₂.keep _)) (cold₃.S.kept X₁₂.keep) hot₁₂.lr hrz1 hSk (by (first | exact Int.ofNat_le.mpr (by assumption) | lia)) (by (first | exact Int.ofNat_le.mpr (by assumption) | lia)) hH0 hHb (by (first | assumption | lia)) (by (first | assumption | lia)) bare₁ (R'.le (by decide) (by decide))
        (fun h' tk' gs' bT T' TL' bare' nd => ?_) fun h' tk' gs' r dx pt sl' items' bT T' TL' bare' hcol hdue hx0 hw0 hxW P' l' S' lr' Rc nr ndx fnew => ?_)
      · try dsimp only at bT ⊢
        have X' := X₁₂.butl bT (fun b hb => hh₃ b (sub2 b hb)) L2 (fun b hb => nomatch hb)
        have hot' := hot₁₂.butT bT T' TL'
        (((try (with_reducible first | refine Next.next (by assumption) ?_ | refine Next.ret (by assumption) ?_ | refine Next.cont (by assumption) ?_ | refine Next.brk (by assumption) ?_ | refine IfK.go (by assumption) ?_ | refine AsK.go (by assumption) ?_)); (with_reducible show wpAny _ _ (storeName _ _ _) _ _ _); refine m_store (by assumption) (by assumption) (by exact rfl) ?_))
        intro h₃ tkσ X₃ _ b₃
        try dsimp only at X₃ b₃ ⊢
        exact ⟨rfl, B₃', h₃, _, gs', _, rfl, X₃, Kept.refl _, hh₃, bare', .inl rfl nd (hot'.store b₃ (.ns X'.F.ns) hL)⟩
      · try dsimp only at bT nr ndx fnew ⊢
        have X' := X₁₂.butl bT (fun b hb => hh₃ b (sub4 b hb)) L4 (fun b hb => nomatch hb)
        obtain ⟨q1, q2⟩ := ra4 hot₁₂
        have hot' : Hot h' p dp C sl' rl ra Wn Hi turn (ritems.push (.ref r)) titems := ⟨T', TL', P', lr', hot₁₂.la.at fun o e => bT _ _ q1 e⟩
        obtain ⟨B₅, X', kB₅, hh₅, r1, r2, r3, _⟩ := raise X' hot' g10 g11 (by rw [g1]; simp) hL hh₃
        have nsl' : sl' ∉ [598, 633, dp, rl, ra] := fun q => by
          obtain ⟨n1, e1⟩ := id hot₁₂.lr
          obtain ⟨n2, e2⟩ := id hot₁₂.la
          simp only [List.mem_cons, List.not_mem_nil, or_false] at q
          rcases q with q | q | q | q | q
          · exact T'.nel l' q
          · exact TL'.tab.nel l' q
          · exact P'.nel l' q
          · exact fnew rl _ q2 e1 q
          · exact fnew ra _ (fun q => q1 (mem_pre2 q)) e2 q
        have RR : RowsAt B₅ #[.ref r] [⟨pt.x, pt.y, pt.w, pt.l, ((2 * i : Nat) : Int)⟩] := r3 _ _ ⟨rfl, fun j row e => by
          match j, e with
          | 0, e => cases e; exact ⟨r, dx, tv, rfl, Rc⟩
          | k + 1, e => simp at e⟩
        have l₅ := r2 _ _ nsl' l'
        have S₅ := r1 _ _ S'
        (((try (with_reducible first | refine Next.next (by assumption) ?_ | refine Next.ret (by assumption) ?_ | refine Next.cont (by assumption) ?_ | refine Next.brk (by assumption) ?_ | refine IfK.go (by assumption) ?_ | refine AsK.go (by assumption) ?_)); (with_reducible show wpAny _ _ (storeName _ _ _) _ _ _); refine m_store (by assumption) (by assumption) (by exact rfl) ?_))
        intro h₃ tkσ X₃ _ b₃
        try dsimp only at X₃ b₃ ⊢
        exact ⟨rfl, B₅, h₃, _, gs', _, rfl, X₃, kB₅, hh₅, bare', .inr r pt sl' items' rfl (hot'.store b₃ (.ns X'.F.ns) hL) l₅ S₅ RR hcol hdue hx0 hw0 hxW⟩
    clear X₁₂ hot₁₂ bare₁ hrz1 sub4 L4
    rintro s' ⟨B₅, h₁₃, tk₁₃, gs₂, vg, rfl, Xo, kB₅, hh₅, bare₂, GR⟩
    clear g1 g2 g3 g4 g5 g6 g7 g8 g9 g10 g11
    refine gen9 (fun m₈ => Fm w [] B₅ L h₁₃ m₈) (fun m₈ => LawM m₈ p ra ta na way turn Wn Hi most ty tw th tm) (fun m₈ => m₈ "k" = some (.int ((2 * i : Nat) : Int) tv)) (fun m₈ => m₈ "a" = some (.int sa t₂)) (fun m₈ => m₈ "b" = some (.int sb t₆)) (fun m₈ => m₈ "sides" = some (.ref sid)) (fun m₈ => m₈ "due" = some vd) (fun m₈ => m₈ "told" = some vt) (fun m₈ => m₈ "got" = some vg)
      Xo (LM.set (by decide)) (by ((repeat (first | assumption | exact if_pos rfl | refine (if_neg (by decide)).trans ?_)))) (by ((repeat (first | assumption | exact if_pos rfl | refine (if_neg (by decide)).trans ?_)))) (by ((repeat (first | assumption | exact if_pos rfl | refine (if_neg (by decide)).trans ?_)))) (by ((repeat (first | assumption | exact if_pos rfl | refine (if_neg (by decide)).trans ?_)))) (by ((repeat (first | assumption | exact if_pos rfl | refine (if_neg (by decide)).trans ?_)))) (by ((repeat (first | assumption | exact if_pos rfl | refine (if_neg (by decide)).trans ?_)))) (if_pos rfl)
      (fun m₈ X₁₃ LM ek ea eb es ed et eg => ?_)
    obtain ⟨g1, g2, g3, g4, g5, g6, g7, g8, g9, g10, g11⟩ := id LM
    clear Xo
    have cold₅ := cold₃.kept kB₅
    have lsd := lsd.at (kB₅ _)
    have hSd := hSd.kept kB₅
    have PR := PR.kept kB₅
    clear cold₃ hh₃
    repeat (with_reducible first | refine Next.next (by assumption) ?_ | refine Next.ret (by assumption) ?_ | refine Next.cont (by assumption) ?_ | refine Next.brk (by assumption) ?_ | refine IfK.go (by assumption) ?_ | refine AsK.go (by assumption) ?_)
    refine cut (CutF w L gs₂ s.drawn s.os B₅ [598, 633, dp, rl, ra] (fun B h m => LawJ p dp C rl ra na way Wn turn Hi most ty tw th tm (i + 1) B h m gs₂)) ?_ ?_
    · rcases PR with ⟨rfl, nocol⟩ | ⟨q, k, x, b, rfl, Tq, D⟩
      · have vt0 : vt = .none := by
          rcases FR with ⟨e, _⟩ | ⟨n, t, _, ⟨k, x, b, c⟩, _⟩
          · exact e
          · exact absurd c (nocol k x b)
        subst vt0
        rcases GR with ⟨rfl, _, hot⟩ | ⟨r, pt, sl', items', _, _, _, _, _, ⟨k, c⟩, _⟩
        · repeat walk_at "sky_m0"
          refine wpAny_is_self rfl ?_
          repeat walk_at "sky_m0"
          refine wpAny_isNot_self rfl ?_
          repeat walk_at "sky_m0"
          refine wpAny_isNot_self rfl ?_
          repeat walk_at "sky_m0"
          exact ⟨rfl, B₅, h₁₃, _, m₈, rfl, X₁₃, Kept.refl _, hh₅, sl, ta, items, ritems, titems, segs, rows, tvs, H, hot, cold₅, hti, hSk, hH0, by (first | exact Nat.le_succ_of_le (by assumption) | lia), bare₂, LM⟩
        · exact absurd c (nocol _ _ _)
      · have D' : IsDue (wayOf C) H Wn Hi (sidesOf turn sa sb) k x b := by rw [hwC]; exact D
        rcases FR with ⟨_, nd⟩ | ⟨n, t, rfl, _, fr⟩
        · exact absurd D' (nd k x b)
        rcases GR with ⟨_, nd, _⟩ | ⟨r, pt, sl', items', rfl, hot, l', S', RR, _, hdue, hx0, hw0, hxW⟩
        · exact absurd D' (nd k x b)
        have hn := fr k x b D'
        rw [hwC] at hn
        obtain ⟨hsd, rfl, rfl⟩ := hdue k x b D'
        obtain ⟨qs, ts1, ts2, hqs, Tqs⟩ := hSd.2 k _ hsd
        try dsimp only at Tqs
        obtain ⟨vs0, T5, J0⟩ := Tq
        unfold colRow at J0
        obtain ⟨c1, vs1, rfl, J1⟩ := J0.cons_inv
        obtain ⟨c2, vs2, rfl, J2⟩ := J1.cons_inv
        obtain ⟨c3, vs3, rfl, J3⟩ := J2.cons_inv
        obtain ⟨c4, vs4, rfl, J4⟩ := J3.cons_inv
        obtain ⟨c5, vs5, rfl, J5⟩ := J4.cons_inv
        obtain rfl := J5.nil_inv
        have hb := told_bits (Hi := Hi) (H := H) (Wn := Wn) D.1 hps hH0 hW8 hHb
        obtain ⟨r', dx, tr, hr', Rc⟩ := RR.2 0 _ rfl
        cases hr'
        try dsimp only at Rc
        clear fr hdue D' J0 J1 J2 J3 J4 J5
        repeat walk_at "sky_m0"
        refine is_ref_none ?_
        repeat walk_at "sky_m0"
        refine Assign_Tuple ?_
        repeat walk_at "sky_m0"
        refine m_unpack5 V X₁₃ R'.2.2 (T5.kept X₁₃.keep) rfl rfl rfl rfl rfl fun h₂ tk₂ X₂ _ b₂ => ?_
        try dsimp only at b₂ ⊢
        have hot₂ := hot.store b₂ (.ns X₁₃.F.ns) hL
        clear X₁₃ hot b₂ T5
        clear g1 g2 g3 g4 g5 g6 g7 g8 g9 g10 g11
        refine gen11 (fun m₉ => Fm w [] B₅ L h₂ m₉) (fun m₉ => LawM m₉ p ra ta na way turn Wn Hi most ty tw th tm) (fun m₉ => m₉ "k" = some (.int ((2 * i : Nat) : Int) tv)) (fun m₉ => m₉ "sides" = some (.ref sid)) (fun m₉ => m₉ "told" = some (.int n t)) (fun m₉ => m₉ "got" = some (.ref r)) (fun m₉ => m₉ "first" = some (.int (Key way H (sidesOf turn sa sb) k pt.x pt.y).1 c1)) (fun m₉ => m₉ "second" = some (.int (Key way H (sidesOf turn sa sb) k pt.x pt.y).2 c2)) (fun m₉ => m₉ "side" = some (.int (k : Int) c3)) (fun m₉ => m₉ "x" = some (.int pt.x c4)) (fun m₉ => m₉ "base" = some (.int pt.y c5))
          X₂ (((((LM.set (by decide)).set (by decide)).set (by decide)).set (by decide)).set (by decide)) (by ((repeat (first | assumption | exact if_pos rfl | refine (if_neg (by decide)).trans ?_)))) (by ((repeat (first | assumption | exact if_pos rfl | refine (if_neg (by decide)).trans ?_)))) (by ((repeat (first | assumption | exact if_pos rfl | refine (if_neg (by decide)).trans ?_)))) (by ((repeat (first | assumption | exact if_pos rfl | refine (if_neg (by decide)).trans ?_)))) (by ((repeat (first | assumption | exact if_pos rfl | refine (if_neg (by decide)).trans ?_)))) (by ((repeat (first | assumption | exact if_pos rfl | refine (if_neg (by decide)).trans ?_)))) (by ((repeat (first | assumption | exact if_pos rfl | refine (if_neg (by decide)).trans ?_)))) (by ((repeat (first | assumption | exact if_pos rfl | refine (if_neg (by decide)).trans ?_)))) (by ((repeat (first | assumption | exact if_pos rfl | refine (if_neg (by decide)).trans ?_))))
          (fun m₉ X₂ LM ek es et eg e1 e2 e3 e4 e5 => ?_)
        obtain ⟨g1, g2, g3, g4, g5, g6, g7, g8, g9, g10, g11⟩ := id LM
        repeat walk_at "sky_m0"
        refine Assign_Tuple ?_
        repeat walk_at "sky_m0"
        refine item_at (i := k) (lsd.at (X₂.keep _)).isList rfl hqs (by have := hSd.1; have := sides_len turn sa sb; (first | lia | omega)) ?_ rfl
        refine m_unpack2 V X₂ R'.2.2 (Tqs.kept X₂.keep) rfl rfl fun h₃ tk₃ X₃ _ b₃ => ?_
        try dsimp only at b₃ ⊢
        have hot₃ := hot₂.store b₃ (.ns X₂.F.ns) hL
        clear X₂ hot₂ b₃ Tqs
        clear g1 g2 g3 g4 g5 g6 g7 g8 g9 g10 g11
        refine gen11 (fun m₁₀ => Fm w [] B₅ L h₃ m₁₀) (fun m₁₀ => LawM m₁₀ p ra ta na way turn Wn Hi most ty tw th tm) (fun m₁₀ => m₁₀ "k" = some (.int ((2 * i : Nat) : Int) tv)) (fun m₁₀ => m₁₀ "told" = some (.int n t)) (fun m₁₀ => m₁₀ "got" = some (.ref r)) (fun m₁₀ => m₁₀ "first" = some (.int (Key way H (sidesOf turn sa sb) k pt.x pt.y).1 c1)) (fun m₁₀ => m₁₀ "second" = some (.int (Key way H (sidesOf turn sa sb) k pt.x pt.y).2 c2)) (fun m₁₀ => m₁₀ "x" = some (.int pt.x c4)) (fun m₁₀ => m₁₀ "base" = some (.int pt.y c5)) (fun m₁₀ => m₁₀ "w" = some (.int pt.w ts1)) (fun m₁₀ => m₁₀ "h" = some (.int pt.l ts2))
          X₃ ((LM.set (by decide)).set (by decide)) (by ((repeat (first | assumption | exact if_pos rfl | refine (if_neg (by decide)).trans ?_)))) (by ((repeat (first | assumption | exact if_pos rfl | refine (if_neg (by decide)).trans ?_)))) (by ((repeat (first | assumption | exact if_pos rfl | refine (if_neg (by decide)).trans ?_)))) (by ((repeat (first | assumption | exact if_pos rfl | refine (if_neg (by decide)).trans ?_)))) (by ((repeat (first | assumption | exact if_pos rfl | refine (if_neg (by decide)).trans ?_)))) (by ((repeat (first | assumption | exact if_pos rfl | refine (if_neg (by decide)).trans ?_)))) (by ((repeat (first | assumption | exact if_pos rfl | refine (if_neg (by decide)).trans ?_)))) (by ((repeat (first | assumption | exact if_pos rfl | refine (if_neg (by decide)).trans ?_)))) (by ((repeat (first | assumption | exact if_pos rfl | refine (if_neg (by decide)).trans ?_))))
          (fun m₁₀ X₃ LM ek et eg e1 e2 e4 e5 e6 e7 => ?_)
        obtain ⟨g1, g2, g3, g4, g5, g6, g7, g8, g9, g10, g11⟩ := id LM
        repeat (with_reducible first | refine Next.next (by assumption) ?_ | refine Next.ret (by assumption) ?_ | refine Next.cont (by assumption) ?_ | refine Next.brk (by assumption) ?_ | refine IfK.go (by assumption) ?_ | refine AsK.go (by assumption) ?_)
        refine cut (fun s' => ∃ tk, s' = ⟨h₃, gs₂, s.drawn, tk, s.os⟩) ?_ ?_
        · repeat walk_at "sky_m0"
          by_cases w2 : way = 2
          · subst w2
            have hn' : n = (Key 2 H (sidesOf turn sa sb) k pt.x pt.y).1 * Wn * Hi + (Key 2 H (sidesOf turn sa sb) k pt.x pt.y).2 := hn.trans (if_pos rfl)
            rw [if_pos (by rfl)]
            repeat walk_at "sky_m0"
            refine PyProof.Rows.mul_int ?_ hb.1
            repeat walk_at "sky_m0"
            refine PyProof.Rows.mul_int ?_ hb.2
            repeat walk_at "sky_m0"
            exact ⟨rfl, _, rfl⟩
          · have hn' : n = (Key way H (sidesOf turn sa sb) k pt.x pt.y).1 := hn.trans (if_neg w2)
            rw [if_neg (by rw [beq_iff_eq]; (first | lia | omega))]
            repeat walk_at "sky_m0"
            exact ⟨rfl, _, rfl⟩
        rintro s' ⟨tk₄, rfl⟩
        have hrow1 : rowData ⟨pt.x, pt.y, pt.w, pt.l, ((2 * i : Nat) : Int)⟩ = rowData ⟨pt.x, pt.y, pt.w, pt.l, ((2 * i : Nat) : Int)⟩ := rfl
        repeat (with_reducible first | refine Next.next (by assumption) ?_ | refine Next.ret (by assumption) ?_ | refine Next.cont (by assumption) ?_ | refine Next.brk (by assumption) ?_ | refine IfK.go (by assumption) ?_ | refine AsK.go (by assumption) ?_)
        refine cut (fun s' => ∃ h' tk, s' = ⟨h', gs₂, s.drawn, tk, s.os⟩ ∧ Kept h₃ h') ?_ ?_
        · repeat walk_at "sky_m0"
          refine is_ref_none ?_
          repeat walk_at "sky_m0"
          refine m_tuple ?_
          repeat walk_at "sky_m0"
          have Rc₃ := Rc.kept X₃.keep
          refine rect_x X₃.W X₃.keep Rc₃ fun u1 tk₅ => ?_
          try dsimp only
          repeat walk_at "sky_m0"
          refine rect_y X₃.W X₃.keep Rc₃ fun u2 tk₅ => ?_
          try dsimp only
          repeat walk_at "sky_m0"
          refine rect_w X₃.W X₃.keep Rc₃ fun u3 tk₅ => ?_
          try dsimp only
          repeat walk_at "sky_m0"
          refine rect_h X₃.W X₃.keep Rc₃ fun u4 tk₅ => ?_
          try dsimp only
          repeat walk_at "sky_m0"
          refine rect_rid X₃.W X₃.keep Rc₃ rfl fun tk₅ => ?_
          try dsimp only
          repeat walk_at "sky_m0"
          refine ⟨by show 5 ≤ 100; decide, fun q₁ hA kA nA T₁ => ?_⟩
          try dsimp only [List.nil_append, List.cons_append] at kA nA T₁ ⊢
          have XA := X₃.step kA
          repeat walk_at "sky_m0"
          refine m_tuple ?_
          repeat walk_at "sky_m0"
          refine ⟨by show 5 ≤ 100; decide, fun q₂ hB kB nB T₂ => ?_⟩
          try dsimp only [List.nil_append, List.cons_append] at kB nB T₂ ⊢
          refine ne_same (reads_row (r := ⟨pt.x, pt.y, pt.w, pt.l, ((2 * i : Nat) : Int)⟩) (T₁.kept kB)) (reads_row (r := ⟨pt.x, pt.y, pt.w, pt.l, ((2 * i : Nat) : Int)⟩) T₂) (shaped_row _) (by have := R'.2.1; (first | lia | omega)) ?_
          repeat walk_at "sky_m0"
          exact ⟨rfl, _, _, rfl, kA.trans kB⟩
        rintro s' ⟨h₄, tk₅, rfl, k₄⟩
        have X₄ := X₃.step k₄
        have hot₄ := hot₃.kept k₄
        clear X₃ hot₃ k₄
        obtain ⟨xn, hxn⟩ : ∃ xn : Nat, pt.x = (xn : Int) := ⟨pt.x.toNat, by (first | lia | omega)⟩
        obtain ⟨wn, hwn⟩ : ∃ wn : Nat, pt.w = (wn : Int) := ⟨pt.w.toNat, by (first | grind | lia)⟩
        have hxw : xn + wn ≤ Wn := by (first | lia | omega)
        have hvt : tvs.length = Wn := (PyProof.Rows.ints_len_eq hti).trans (Tops.len H Wn)
        rw [hxn] at e4
        rw [hwn] at e6
        have htz : tvs.toArray.size ≤ 1000 := by rw [List.size_toArray]; (first | grind | lia)
        repeat walk_at "sky_m0"
        refine wpAny_Slice ?_
        rw [evalPart_none]
        refine wpAny_pure ?_
        rw [evalPart_some]
        repeat walk_at "sky_m0"
        refine wpAny_pure ?_
        try dsimp only
        refine' slice_tail (s := ⟨h₄, gs₂, s.drawn, _, s.os⟩) (items := tvs.toArray) (cold₅.lt.at (X₄.keep _)).isList .none (.int _ _) .none (by simp) htz ?_ ?hs
        case hs => rfl
        intro a₁ h₅ k₅ na₁ l₁
        try dsimp only at k₅ na₁ l₁ ⊢
        rw [pick_to tvs.toArray (b := xn) (by rw [List.size_toArray]; (first | lia | omega))] at l₁
        have X₅ := X₄.step k₅
        have hot₅ := hot₄.kept k₅
        clear X₄ hot₄ k₅ na₁
        repeat walk_at "sky_m0"
        refine m_list ?_
        repeat walk_at "sky_m0"
        refine ⟨by show 1 ≤ 100; decide, fun ql h₆ k₆ _ l₆ => ?_⟩
        try dsimp only [List.nil_append, List.cons_append] at k₆ l₆ ⊢
        have X₆ := X₅.step k₆
        have hot₆ := hot₅.kept k₆
        have l₁ := l₁.at (k₆ _)
        clear X₅ hot₅ k₆
        repeat walk_at "sky_m0"
        refine mul_one l₆ (n := wn) (by (first | lia | omega)) fun a₂ h₇ k₇ na₂ l₂ => ?_
        try dsimp only at k₇ l₂ ⊢
        have X₇ := X₆.step k₇
        have hot₇ := hot₆.kept k₇
        have l₁ := l₁.at (k₇ _)
        clear X₆ hot₆ k₇ l₆ na₂
        repeat walk_at "sky_m0"
        refine add_two l₁ l₂ (by rw [List.length_take, List.length_replicate]; (first | grind | lia)) fun a₃ h₈ k₈ na₃ l₃ => ?_
        try dsimp only at k₈ l₃ ⊢
        have X₈ := X₇.step k₈
        have hot₈ := hot₇.kept k₈
        clear X₇ hot₇ k₈ l₁ l₂ na₃
        repeat walk_at "sky_m0"
        refine wpAny_Slice ?_
        rw [evalPart_some]
        repeat walk_at "sky_m0"
        rw [evalPart_none]
        refine wpAny_pure ?_
        refine wpAny_pure ?_
        try dsimp only
        refine' slice_tail (s := ⟨h₈, gs₂, s.drawn, _, s.os⟩) (items := tvs.toArray) (cold₅.lt.at (X₈.keep _)).isList (.int _ _) .none .none (by simp) htz ?_ ?hs
        case hs => rfl
        intro a₄ h₉ k₉ na₄ l₄
        try dsimp only at k₉ l₄ ⊢
        rw [show (xn : Int) + (wn : Int) = ((xn + wn : Nat) : Int) by (first | rfl | lia), pick_from tvs.toArray (a := xn + wn) (by rw [List.size_toArray]; (first | exact Nat.le_trans (by assumption) (by lia) | lia))] at l₄
        have X₉ := X₈.step k₉
        have hot₉ := hot₈.kept k₉
        have l₃ := l₃.at (k₉ _)
        clear X₈ hot₈ k₉ na₄
        repeat walk_at "sky_m0"
        refine add_two l₃ l₄ (by rw [List.length_append, List.length_take, List.length_replicate, List.length_drop]; show min xn tvs.length + wn + (tvs.length - (xn + wn)) ≤ 100; (first | grind | lia)) fun ta' h₁₀ k₁₀ nta' lta' => ?_
        try dsimp only at k₁₀ nta' lta' ⊢
        have hH' : ∀ z : Int, (fun z : Int => if pt.x ≤ z ∧ z < pt.x + pt.w then pt.y + pt.l else H z) z = if pt.x ≤ z ∧ z < pt.x + pt.w then pt.y + pt.l else H z := fun _ => rfl
        generalize (fun z : Int => if pt.x ≤ z ∧ z < pt.x + pt.w then pt.y + pt.l else H z) = H' at hH'
        refine gen2 (fun tvs' => h₁₀.PlainList ta' tvs'.toArray) (fun tvs' => IntsAre tvs' (Tops H' Wn))
          lta' (by rw [Tops.next (H := H) (x := xn) (w := wn) (t := pt.y + pt.l) hxw (fun z => by rw [hH', hxn, hwn])]; exact ((hti.take xn).append (IntsAre.rep _ _ wn)).append (hti.drop (xn + wn)))
          (fun tvs' lta' hti' => ?_)
        have ntin := hot₉.nin nta'
        have X₁₀ := X₉.step k₁₀
        have hot₁₀ := hot₉.kept k₁₀
        clear X₉ hot₉ k₁₀ l₃ l₄ nta'
        obtain ⟨B₆, X₁₀, kB₆, hh₆, _, r2, _, _⟩ := raise X₁₀ hot₁₀ g10 g11 (by rw [g1]; simp) hL hh₅
        have lt₆ := r2 _ _ ntin lta'
        clear r2 lta' ntin
        (((try (with_reducible first | refine Next.next (by assumption) ?_ | refine Next.ret (by assumption) ?_ | refine Next.cont (by assumption) ?_ | refine Next.brk (by assumption) ?_ | refine IfK.go (by assumption) ?_ | refine AsK.go (by assumption) ?_)); (with_reducible show wpAny _ _ (storeName _ _ _) _ _ _); refine m_store (by assumption) (by assumption) (by exact rfl) ?_))
        intro h₁₁ tkσ X₁₁ _ b₁₁
        try dsimp only at X₁₁ b₁₁ ⊢
        have hot₁₁ := hot₁₀.store b₁₁ (.ns X₁₀.F.ns) hL
        clear X₁₀ hot₁₀ b₁₁
        clear g1 g2 g3 g4 g5 g6 g7 g8 g9 g10 g11
        refine gen7 (fun m₁₁ => Fm w [] B₆ L h₁₁ m₁₁) (fun m₁₁ => LawM m₁₁ p ra ta' na way turn Wn Hi most ty tw th tm) (fun m₁₁ => m₁₁ "k" = some (.int ((2 * i : Nat) : Int) tv)) (fun m₁₁ => m₁₁ "x" = some (.int (xn : Int) c4)) (fun m₁₁ => m₁₁ "base" = some (.int pt.y c5)) (fun m₁₁ => m₁₁ "w" = some (.int (wn : Int) ts1)) (fun m₁₁ => m₁₁ "h" = some (.int pt.l ts2))
          X₁₁ (by
            obtain ⟨g1, g2, g3, g4, g5, g6, g7, g8, g9, g10, g11⟩ := LM
            exact ⟨by ((repeat (first | assumption | exact if_pos rfl | refine (if_neg (by decide)).trans ?_))), by ((repeat (first | assumption | exact if_pos rfl | refine (if_neg (by decide)).trans ?_))), by ((repeat (first | assumption | exact if_pos rfl | refine (if_neg (by decide)).trans ?_))), by ((repeat (first | assumption | exact if_pos rfl | refine (if_neg (by decide)).trans ?_))), by ((repeat (first | assumption | exact if_pos rfl | refine (if_neg (by decide)).trans ?_))), by ((repeat (first | assumption | exact if_pos rfl | refine (if_neg (by decide)).trans ?_))), by ((repeat (first | assumption | exact if_pos rfl | refine (if_neg (by decide)).trans ?_))), by ((repeat (first | assumption | exact if_pos rfl | refine (if_neg (by decide)).trans ?_))), by ((repeat (first | assumption | exact if_pos rfl | refine (if_neg (by decide)).trans ?_))), by ((repeat (first | assumption | exact if_pos rfl | refine (if_neg (by decide)).trans ?_))), by ((repeat (first | assumption | exact if_pos rfl | refine (if_neg (by decide)).trans ?_)))⟩) (by ((repeat (first | assumption | exact if_pos rfl | refine (if_neg (by decide)).trans ?_)))) (by ((repeat (first | assumption | exact if_pos rfl | refine (if_neg (by decide)).trans ?_)))) (by ((repeat (first | assumption | exact if_pos rfl | refine (if_neg (by decide)).trans ?_)))) (by ((repeat (first | assumption | exact if_pos rfl | refine (if_neg (by decide)).trans ?_)))) (by ((repeat (first | assumption | exact if_pos rfl | refine (if_neg (by decide)).trans ?_))))
          (fun m₁₁ X₁₁ LM ek e4 e5 e6 e7 => ?_)
        obtain ⟨g1, g2, g3, g4, g5, g6, g7, g8, g9, g10, g11⟩ := id LM
        repeat walk_at "sky_m0"
        refine meth_append hot₁₁.la ?_
        try dsimp only
        repeat walk_at "sky_m0"
        refine m_tuple ?_
        repeat walk_at "sky_m0"
        refine ⟨by show 5 ≤ 100; decide, fun q₁ hA kA nA T₁ => ?_⟩
        try dsimp only [List.nil_append, List.cons_append] at kA nA T₁ ⊢
        have XA := X₁₁.step kA
        have hotA := hot₁₁.kept kA
        clear X₁₁ hot₁₁ kA nA
        obtain ⟨B₇, XA, kB₇, hh₇, _, _, _, r4⟩ := raise XA hotA g10 g11 (by rw [g1]; simp) hL hh₆
        have T₁ := r4 _ _ T₁
        clear r4
        repeat walk_at "sky_m0"
        have hts : titems.size ≤ 1000 := by have := cold₅.U.1; (first | grind | lia)
        refine app_plain hotA.la hts fun hB laB bB => ?_
        try dsimp only at bB ⊢
        have nra : ∀ x ∈ [602, 598, 637, 633, p, dp, rl], x ≠ ra → True := fun _ _ _ => trivial
        have od := Odd.plain hotA.la
        have hotB : Hot hB p dp C sl' rl ra Wn Hi turn (ritems.push (.ref r)) (titems.push (.ref q₁)) := ⟨hotA.T.butd bB (.list hotA.la), hotA.TL.butd bB (.list hotA.la), hotA.P.odd od bB, hotA.lr.at fun o e => bB _ _ (Ne.symm hrr) e, laB⟩
        have XB := XA.bute bB (hL ra (by simp [hotL])) (hh₇ ra (by simp))
        clear XA hotA bB laB od nra
        have k57 : Kept B₅ B₇ := kB₆.trans kB₇
        have cold₇ := cold₅.kept k57
        have hlast : ∀ z : Int, 0 ≤ z → z < Wn → 0 ≤ H' z := fun z h0 h1 => by
          rw [hH']
          split
          · obtain ⟨w', l', e', h2, h3, ⟨_, z0, z1, z2, z3⟩, _⟩ := D.1
            rw [hsd] at e'; cases e'
            have := hH0 z0 (by (first | exact Int.le_trans (by assumption) (by assumption) | lia)) (by (first | exact Int.lt_of_lt_of_le (by assumption) (by assumption) | lia))
            have := (hps _ (List.mem_of_getElem? hsd)).2
            try dsimp only at this
            (first | lia | omega)
          · exact hH0 z h0 h1
        have hSk' : Sk H' (addSky segs pt.x pt.w (pt.y + pt.l)) 0 Wn := addSky_ok hx0 hw0 hxW hH' hSk
        have cold' : Cold B₇ sl' ta' items' (ritems.push (.ref r)) (titems.push (.ref q₁)) (addSky segs pt.x pt.w (pt.y + pt.l)) (rows ++ [⟨pt.x, pt.y, pt.w, pt.l, ((2 * i : Nat) : Int)⟩]) tvs' :=
          ⟨l'.at (k57 _), S'.kept k57, cold₇.R.push (Rc.kept k57), cold₇.U.push (row := ⟨pt.x, pt.y, pt.w, pt.l, ((2 * i : Nat) : Int)⟩) (by dsimp only; rw [hxn, hwn]; exact T₁), lt₆.at (kB₇ _)⟩
        repeat walk_at "sky_m0"
        exact ⟨rfl, B₇, hB, _, _, rfl, XB, k57, hh₇, sl', ta', items', _, _, _, _, tvs', H', hotB, cold', hti', hSk', hlast, by rw [List.length_append, List.length_singleton]; (first | exact Nat.lt_succ_of_le (by assumption) | lia), bare₂, LM⟩
    clear X₁₃ cold₅ GR PR FR lsd hSd LM g1 g2 g3 g4 g5 g6 g7 g8 g9 g10 g11
    rintro s' ⟨B₆, h₁₄, tk₁₄, m₉, rfl, X₁₄, kB₆, hh₆, ⟨sl, ta, items, ritems, titems, segs, rows, tvs, H, hot, cold, hti, hSk, hH0, hrz, hbare, LM⟩⟩
    obtain ⟨g1, g2, g3, g4, g5, g6, g7, g8, g9, g10, g11⟩ := id LM
    have hrz1 : ritems.size ≤ 100 := by have := cold.R.1; (first | grind | lia)
    repeat walk_at "sky_m0"
    refine pk_meth X₁₄.W X₁₄.keep hot.P (by decide) (pk_rlist _) ?_
    try dsimp only
    repeat walk_at "sky_m0"
    refine wpAny_call (rect_list_call X₁₄.Wh hot.P hot.lr (cold.R.kept X₁₄.keep) hrz1 hbare (R'.le (by decide) (by decide)) fun al h₁₅ tk₁₅ gs₃ aits k₁₅ bare₃ na₁₅ la₁₅ Ta₁₅ => ?_)
    try dsimp only at k₁₅ na₁₅ ⊢
    have X₁₅ := X₁₄.step k₁₅
    have hot₁₅ := hot.kept k₁₅
    clear X₁₄ hot k₁₅ na₁₅
    repeat walk_at "sky_m0"
    refine ne_same (Ta₁₅.reads la₁₅) ((cold.U.kept X₁₅.keep).reads hot₁₅.la) (shaped_rows rows) (by have := R'.2.1; (first | lia | omega)) ?_
    repeat walk_at "sky_m0"
    exact ⟨B₆, h₁₅, _, _, gs₃, rfl, ((kB₂.trans kB₃').trans kB₅).trans kB₆, X₁₅.F, hh₆, sl, ta, items, ritems, titems, segs, rows, tvs, H, hot₁₅, cold, hti, hSk, hH0, hrz, bare₃, LM⟩
  · rintro B₁ h₁ m₁ tk₁ gs ⟨sl, ta, items, ritems, titems, segs, rows, tvs, H, hot, cold, hti, hSk, hH0, hrz, hbare, LM⟩ kB₁ F₁ hh₁
    have X₁ := Fm.of (X₃.W.keeps kB₁) F₁
    repeat walk_at "sky_m0"
    exact h _ _ _ (fun b o nb e => F₁.keep _ _ (kB₁ _ _ (kB₃ _ _ (back _ _ nb e)))) hot.T hot.TL hbare
  · passes_own
end
theorem K_lacks {K : Frag} {h : Heap} {l : List Addr} (X : K.In h) (e : ∀ x ∈ l, K.lookup x = none) : K.In (hideAll h l) := fun a o q =>
  hideAll_get _ (X a o q) fun m => by rw [e a m] at q; cases q
theorem K_598 (P : Params) : ∀ x ∈ [598, 633], (kHead.heap_1 P).lookup x = none := by
  intro x hx
  rcases List.mem_cons.mp hx with rfl | hx
  · kernel_rfl
  · rw [List.mem_singleton.mp hx]; kernel_rfl
theorem K_main (P : Params) : nsIn (kHead.heap_1 P) mainGlobals "__builtins__" = some (some (.ref 4)) := by kernel_rfl
theorem hd_602 (P : Params) : codeHdIn (kHead.heap_1 P) 602 598 = true := by kernel_rfl
theorem hd_637 (P : Params) : codeHdIn (kHead.heap_1 P) 637 633 = true := by kernel_rfl
theorem ns_hide {h : Heap} {l : List Addr} {a : Addr} {m : Str → Option Value} (x : h.Ns a m) (n : a ∉ l) : (hideAll h l).Ns a m := x.at' fun _ e => hideAll_get _ e n
theorem join_wd {w : World} {h : Heap} {p : Program} {loose : List Str} {mean : ExcName → Option Value} {mg mb : Str → Option Value} (KX : (kHead.heap_1 w.params).In h) (T : Top p loose mean mg mb h) {l : List Addr} (hl : l = [] ∨ l = [598, 633]) : Wd w (hideAll h l) := by
  have n1 : cStatics ∉ l := by rcases hl with rfl | rfl <;> decide
  have n2 : builtinsNs ∉ l := by rcases hl with rfl | rfl <;> decide
  have n3 : 4 ∉ l := by rcases hl with rfl | rfl <;> decide
  refine ⟨K_lacks KX (by rcases hl with rfl | rfl; exact fun _ q => nomatch q; exact K_598 _), ?_, ⟨mb, ns_hide T.b n2, T.builtins⟩, ?_⟩
  · obtain ⟨mc, a, b⟩ := T.nolimit
    exact ⟨mc, ns_hide a n1, b⟩
  · obtain ⟨bm, ob, a, b, c, d⟩ := T.bmain
    have e := mg_of KX T.g (K_main w.params)
    rw [a] at e
    cases e
    exact ⟨ob, hideAll_get _ c n3, d⟩
theorem tab_empty {h : Heap} {c P : Addr} (C : CodeHd h c P) (e : h.get? P = some (tabObj #[])) : Tab h c P := ⟨#[], C.code e trivial, C.tab e⟩
theorem tabl_empty {h : Heap} {c P : Addr} {lp : Pos} {lq : Str} (C : CodeHd h c P) (e : h.get? P = some (tabObj #[])) : TabL h c P lp lq := ⟨#[], C.code e trivial, C.tab e, fun _ q => nomatch q⟩
theorem old_tabs {h h' : Heap} (b : ButL [598, 633] h h') (C1 : CodeHd h 602 598) (e1 : h.get? 598 = some (tabObj #[])) (C2 : CodeHd h 637 633) (e2 : h.get? 633 = some (tabObj #[])) (T : Tab h' 602 598) (TL : TabL h' 637 633 lamPos lamQual) : OldK h h' := by
  obtain ⟨ps, -, -, t1⟩ := T
  obtain ⟨qs, -, ⟨-, t2⟩, -⟩ := TL
  have a1 : asItWas h h' 598 (tabObj #[]) := .inr (.inl ⟨(C1.tab e1).isCodeTable, rfl, #[], ps, rfl, by rw [t1, Array.empty_append]⟩)
  have a2 : asItWas h h' 633 (tabObj #[]) := .inr (.inl ⟨(C2.tab e2).isCodeTable, rfl, #[], qs, rfl, by rw [t2, Array.empty_append]⟩)
  refine ⟨fun x o e => ?_, fun x o e => ?_⟩
  · by_cases q1 : x = 598
    · subst q1; rw [e1] at e; cases e; exact a1
    by_cases q2 : x = 633
    · subst q2; rw [e2] at e; cases e; exact a2
    exact .inl (b x o (by simp [q1, q2]) e)
  · by_cases q1 : x = 598
    · subst q1; exact ⟨_, t1⟩
    by_cases q2 : x = 633
    · subst q2; exact ⟨_, t2⟩
    exact ⟨o, b x o (by simp [q1, q2]) e⟩
theorem join_law {c : ClaimW} {cl : Str → Option Addr} {mean mean' : ExcName → Option Value} {args : List WData} {s₁ : Shared} {w : World} {p prog : Program} {loose : List Str} {mg mb : Str → Option Value} {a : Addr} {vs : List Value} {ns : List Int}
    (KX : (kHead.heap_1 w.params).In s₁.heap) (KT : ∀ P ∈ [598, 633, 457], s₁.heap.get? P = some (tabObj #[])) (T : Top p loose mean' mg mb s₁.heap) (hg : s₁.gens = #[]) (hl : s₁.heap.IsList a vs.toArray) (hi : IntsAre vs ns)
    (hz : ns.length ≤ 63) (hL : PyData.layable0 (.list (ns.map .int)) = true) (hr : ∀ cls, c.raises args cls = false) (hp : c.post args (.bool true) args = true) :
    wpAny (model prog w) callerA (call (.ref 765) [.ref a]) (fun v s' => GoodWG c cl mean args s₁ (.ok (.ret v)) s') (fun e s' => GoodWG c cl mean args s₁ (.error e) s') s₁ := by
  have C1 := codeHd_of_K KX (hd_602 _)
  have C2 := codeHd_of_K KX (hd_637 _)
  have e1 := KT 598 (by decide)
  have e2 := KT 633 (by decide)
  refine wpAny_call (law_call (ns := ns) (join_wd KX T (.inl rfl)) ⟨_, join_wd KX T (.inr rfl), fun b o e => of_hideAll _ e, fun x hx => hideAll_none _ hx⟩ (tab_empty C1 e1) (tabl_empty C2 e2) hl hi hz
    (fun n hn => intBits_le_of_item hn hL) (hg ▸ AllBare.empty) ⟨by decide, by decide, rfl⟩ fun h' tk gs b t1 t2 g => ?_)
  exact ⟨.inl ⟨_, _, [], rfl, hr, ReadsW.bool true, hp, fun _ => ⟨List.nodup_nil, fun _ hm => nomatch hm⟩⟩, old_tabs b C1 e1 C2 e2 t1 t2, rfl, g⟩
theorem hd.tw18368919525575837464 : True := trivial
theorem hd.tw7067518241029663536 : True := trivial
theorem hd.tw12336399040343047082 : True := trivial
theorem hd.tw4271068637628069264 : True := trivial
theorem hd.tw2190377826348749083 : True := trivial
theorem hd.tw2714352359460910408 : True := trivial
theorem hd.tw8330336273732462123 : True := trivial
theorem hd.tw7873192096438993296 : True := trivial
theorem hd.tw16307537403991428301 : True := trivial
theorem hd.tw713758445138088980 : True := trivial
theorem hd.tw17492701536648478867 : True := trivial
theorem hd.tw4257265508575295407 : True := trivial
theorem hd.tw1589605315894889967 : True := trivial
theorem hd.tw13018213801199482284 : True := trivial
theorem hd.tw11769362816577381310 : True := trivial
theorem hd.tw6380786347681005173 : True := trivial
theorem hd.tw4090416772794880729 : True := trivial
theorem hd.tw520671233920338287 : True := trivial
theorem hd.tw1362786674263697278 : True := trivial
theorem hd.tw6801472737382032503 : True := trivial
theorem hd.tw5985941779749192482 : True := trivial
theorem hd.tw6599289691625058235 : True := trivial
theorem hd.tw13876377540520741018 : True := trivial
theorem hd.tw11303562521989597775 : True := trivial
theorem hd.tw2574421151360116545 : True := trivial
theorem hd.tw9293017083139523878 : True := trivial
theorem hd.tw16655335682436556069 : True := trivial
theorem hd.tw6065831944939415391 : True := trivial
theorem hd.tw18198536498056368524 : True := trivial
theorem hd.tw10005614923023546145 : True := trivial
theorem hd.tw4855116751189241125 : True := trivial
theorem hd.tw9155700899556680992 : True := trivial
theorem hd.tw6453447923847063271 : True := trivial
theorem hd.tw15311494504477756699 : True := trivial
theorem hd.tw8172948154716659953 : True := trivial
theorem hd.tw7400430799613492787 : True := trivial
theorem hd.tw1563023824360884861 : True := trivial
theorem hd.tw11514370524392307454 : True := trivial
theorem hd.tw10702076496589669837 : True := trivial
theorem hd.tw2474963921305443177 : True := trivial
theorem hd.tw9677840597498407292 : True := trivial
theorem hd.tw4435185475882483782 : True := trivial
theorem hd.tw9245323059857627915 : True := trivial
theorem hd.tw4690562017949296627 : True := trivial
theorem hd.tw11389724949376686757 : True := trivial
theorem hd.tw15316554246197201740 : True := trivial
theorem hd.tw11502324086162162823 : True := trivial
theorem hd.tw7113870713709144184 : True := trivial
theorem hd.tw15136457839350730815 : True := trivial
theorem hd.tw737528261131169898 : True := trivial
theorem hd.tw17058227829229848013 : True := trivial
theorem hd.tw16597758286019522242 : True := trivial
theorem hd.tw987969814418200091 : True := trivial
theorem hd.tw12622863196465510916 : True := trivial
theorem hd.tw11872887699932888891 : True := trivial
theorem hd.tw18226262895622033792 : True := trivial
theorem hd.tw3842782084383799978 : True := trivial
theorem hd.tw13948616980425098538 : True := trivial
theorem hd.tw14273875858635545104 : True := trivial
theorem hd.tw1026077223636518362 : True := trivial
theorem hd.tw18087668083722707815 : True := trivial
theorem hd.tw7386677855016998285 : True := trivial
theorem hd.tw10454677037294303966 : True := trivial
theorem hd.tw1318317194605980904 : True := trivial
theorem hd.tw16652180956805172861 : True := trivial
theorem hd.tw11723313507261100799 : True := trivial
theorem hd.tw1538365649537918193 : True := trivial
theorem hd.tw2191789063032568710 : True := trivial
theorem hd.tw9941351577355712460 : True := trivial
theorem hd.tw6355018260897678820 : True := trivial
theorem hd.tw13840201372710408994 : True := trivial
theorem hd.tw4478355203832131603 : True := trivial
theorem hd.tw8446223782954552078 : True := trivial
theorem hd.tw17500105339495143657 : True := trivial
theorem hd.tw3315310540018271914 : True := trivial
theorem hd.tw14509508738101849199 : True := trivial
theorem hd.tw7465206059020194880 : True := trivial
theorem hd.tw11470427782133709993 : True := trivial
theorem hd.tw11999078425548026507 : True := trivial
theorem hd.tw8317080846000306119 : True := trivial
theorem hd.tw9942876549306842102 : True := trivial
theorem hd.tw18097464420212407249 : True := trivial
theorem hd.tw17051189505118752387 : True := trivial
theorem hd.tw17883904616464042006 : True := trivial
theorem hd.tw12306837901851620068 : True := trivial
theorem hd.tw5825101665887848846 : True := trivial
theorem hd.tw17221373593049417866 : True := trivial
theorem hd.tw7182702630153409708 : True := trivial
theorem hd.tw2827500424110705716 : True := trivial
theorem hd.tw7966179108184039317 : True := trivial
theorem hd.tw9630486401142176226 : True := trivial
theorem hd.tw16545053821782183390 : True := trivial
theorem hd.tw14179513518217111700 : True := trivial
theorem hd.tw2291665825054629543 : True := trivial
theorem hd.tw3031418275335479687 : True := trivial
theorem hd.tw9084614231154788152 : True := trivial
theorem hd.tw8416530128677111459 : True := trivial
theorem hd.tw9291157896620899871 : True := trivial
theorem hd.tw2163998624989235622 : True := trivial
theorem hd.tw18167472022850526368 : True := trivial
theorem hd.tw5227666514671267930 : True := trivial
theorem hd.tw3816979230045152678 : True := trivial
theorem hd.tw14171530380722351127 : True := trivial
theorem hd.tw5684871767505412064 : True := trivial
theorem hd.tw7035128411917536034 : True := trivial
theorem hd.tw8447879117602848689 : True := trivial
theorem hd.tw11764720307327137783 : True := trivial
theorem hd.tw11290894690224545725 : True := trivial
theorem hd.tw11939672322322677488 : True := trivial
theorem hd.tw16411386181163821492 : True := trivial
theorem hd.tw13882495169300969192 : True := trivial
theorem hd.tw3662733613310642058 : True := trivial
theorem hd.tw3615575421615190502 : True := trivial
theorem hd.tw813876943145759912 : True := trivial
theorem hd.tw17513342607888903555 : True := trivial
theorem hd.tw17367689308742364122 : True := trivial
theorem hd.tw12194710140159075164 : True := trivial
theorem hd.tw14612535322217853817 : True := trivial
theorem hd.tw7291777684273765494 : True := trivial
theorem hd.tw11174234604080431562 : True := trivial
theorem hd.tw5732120473091518309 : True := trivial
theorem hd.tw9318641837860524682 : True := trivial
theorem hd.tw1019549056218229314 : True := trivial
theorem hd.tw8291035919038375642 : True := trivial
theorem hd.tw9679419755094050540 : True := trivial
theorem hd.tw12968600605778443974 : True := trivial
theorem hd.tw10143038007139171195 : True := trivial
theorem hd.tw2550702721821790622 : True := trivial
theorem hd.tw17435839106610873788 : True := trivial
theorem hd.tw1883075426944128774 : True := trivial
theorem hd.tw21804289922900466 : True := trivial
theorem hd.tw13299016165213253179 : True := trivial
theorem hd.tw13866013799025686448 : True := trivial
theorem hd.tw6898264671285099246 : True := trivial
theorem hd.tw4528830286304461398 : True := trivial
theorem hd.tw10407123856423963611 : True := trivial
theorem hd.tw7090808498010176767 : True := trivial
theorem hd.tw8438416618347398701 : True := trivial
theorem hd.tw5946882041056659732 : True := trivial
theorem hd.tw852317560096087212 : True := trivial
theorem hd.tw16407103707246973981 : True := trivial
theorem hd.tw12511625485370083168 : True := trivial
theorem hd.tw10403636436572538866 : True := trivial
theorem hd.tw11913463364467693520 : True := trivial
theorem hd.tw14622854384103837797 : True := trivial
theorem hd.tw15898389156279483912 : True := trivial
theorem hd.tw5585304386827124623 : True := trivial
theorem hd.tw17384510633193146309 : True := trivial
theorem hd.tw16101278777934305640 : True := trivial
theorem hd.tw2021893491370884472 : True := trivial
theorem hd.tw4538750610446480692 : True := trivial
theorem hd.tw11876542235658120005 : True := trivial
theorem hd.tw12396357307480147886 : True := trivial
theorem hd.tw14051238453630485182 : True := trivial
theorem hd.tw10890733105410345986 : True := trivial
theorem hd.tw15301689479560821174 : True := trivial
theorem hd.tw12397010039919434364 : True := trivial
theorem hd.tw7497730304724746195 : True := trivial
theorem hd.tw4985046816361292557 : True := trivial
theorem hd.tw11945276261900145624 : True := trivial
theorem hd.tw17219374202761879222 : True := trivial
theorem hd.tw13530282113339927573 : True := trivial
theorem hd.tw4423161258440435271 : True := trivial
theorem hd.tw16889241052714056956 : True := trivial
theorem hd.tw14760905294419358715 : True := trivial
theorem hd.tw3657224678857743045 : True := trivial
theorem hd.tw17647447646393776914 : True := trivial
theorem hd.tw3664641523087240408 : True := trivial
theorem hd.tw5985280297400950903 : True := trivial
theorem hd.tw3827353659408798107 : True := trivial
theorem hd.tw13792852719015276056 : True := trivial
theorem hd.tw7614233080211306632 : True := trivial
theorem hd.tw16687744680779235895 : True := trivial
theorem hd.tw10347706459210996575 : True := trivial
theorem hd.tw3432951236242546108 : True := trivial
theorem hd.tw15017475430046356530 : True := trivial
theorem hd.tw1436861458505056649 : True := trivial
theorem hd.tw4810852513849146594 : True := trivial
theorem hd.tw15015807849436668598 : True := trivial
theorem hd.tw8143634725820403599 : True := trivial
theorem hd.tw4271501927718888303 : True := trivial
theorem hd.tw8370614945931431587 : True := trivial
theorem hd.tw15693387801878377620 : True := trivial
theorem hd.tw1171465607317594292 : True := trivial
theorem hd.tw16687548774047304392 : True := trivial
theorem hd.tw14104485229051539105 : True := trivial
theorem hd.tw14890635981107972459 : True := trivial
theorem hd.tw1786062029402882969 : True := trivial
theorem hd.tw9582585370443847033 : True := trivial
theorem hd.tw11270313383783831757 : True := trivial
theorem hd.tw8423849225375724888 : True := trivial
theorem hd.tw14421057045306803713 : True := trivial
theorem hd.tw2623503839480321096 : True := trivial
theorem hd.tw2774230699773361470 : True := trivial
theorem hd.tw11220823610084200247 : True := trivial
theorem hd.tw232101021012089742 : True := trivial
theorem hd.tw2059443082700641153 : True := trivial
theorem hd.tw3016149105151672695 : True := trivial
theorem hd.tw7371315735097208201 : True := trivial
theorem hd.tw4683823176651799097 : True := trivial
theorem hd.tw8295668017398107731 : True := trivial
theorem hd.tw5048418978788346938 : True := trivial
theorem hd.tw16719256907782915760 : True := trivial
theorem hd.tw4023439641298299966 : True := trivial
theorem hd.tw14783904449594446021 : True := trivial
theorem hd.tw2247067206404765910 : True := trivial
theorem hd.tw14067138847516110572 : True := trivial
theorem hd.tw12923940460759985497 : True := trivial
theorem hd.tw6087951813566612823 : True := trivial
theorem hd.tw9719070219445364627 : True := trivial
theorem hd.tw10605874996172536307 : True := trivial
theorem hd.tw15359507992504421128 : True := trivial
theorem hd.tw7441812263977987646 : True := trivial
theorem hd.tw18283293555559028028 : True := trivial
theorem hd.tw1824007082625692783 : True := trivial
theorem hd.tw8376472736518048176 : True := trivial
theorem hd.tw2352514156158368713 : True := trivial
theorem hd.tw18026204704738343336 : True := trivial
theorem hd.tw1011219391653451326 : True := trivial
theorem hd.tw6881681708791580549 : True := trivial
theorem hd.tw7503407736545626227 : True := trivial
theorem hd.tw7004064972702203970 : True := trivial
theorem hd.tw1174552671838613001 : True := trivial
theorem hd.tw11411925281759318331 : True := trivial
theorem hd.tw10578539204188750499 : True := trivial
theorem hd.tw2758660620286089481 : True := trivial
theorem hd.tw10456022395562826683 : True := trivial
theorem hd.tw1439703518737623259 : True := trivial
theorem hd.tw17320105099489781316 : True := trivial
theorem hd.tw11797241768111777498 : True := trivial
theorem hd.tw7592778262398150083 : True := trivial
theorem hd.tw786747089649242721 : True := trivial
theorem hd.tw12808982529944758196 : True := trivial
theorem hd.tw14458885532633404013 : True := trivial
theorem hd.tw10113357700017561942 : True := trivial
theorem hd.tw13655858517688750316 : True := trivial
theorem hd.tw2727764404242447163 : True := trivial
theorem hd.tw12195991177420242068 : True := trivial
theorem hd.tw8748732217946059995 : True := trivial
theorem hd.tw8728681499067998985 : True := trivial
theorem hd.tw16493019053047074335 : True := trivial
theorem hd.tw8859912471685278826 : True := trivial
theorem hd.tw10051014190675935638 : True := trivial
theorem hd.tw10050488577389086520 : True := trivial
theorem hd.tw11021920528395694315 : True := trivial
theorem hd.tw5398955023783058613 : True := trivial
theorem hd.tw10493806934846804621 : True := trivial
theorem hd.tw15519866836680504282 : True := trivial
theorem hd.tw6213002078767886640 : True := trivial
theorem hd.tw7166551585852204764 : True := trivial
theorem hd.tw11900978909125419925 : True := trivial
theorem hd.tw7792533430568739284 : True := trivial
theorem hd.tw15766650084971147017 : True := trivial
theorem hd.tw12439108248198701612 : True := trivial
theorem hd.tw17553390346166029115 : True := trivial
theorem hd.tw3059713618356710030 : True := trivial
theorem hd.tw16336375482979333585 : True := trivial
theorem hd.tw12703412196297139584 : True := trivial
theorem hd.tw8657657937678266333 : True := trivial
theorem hd.tw4674688503647654561 : True := trivial
theorem hd.tw162572169013951140 : True := trivial
theorem hd.tw15013686148972345113 : True := trivial
theorem hd.tw17074481177231054443 : True := trivial
theorem hd.tw14133629024466688856 : True := trivial
theorem hd.tw2773331445613764512 : True := trivial
theorem hd.tw5603835101988370948 : True := trivial
theorem hd.tw8380406210299415442 : True := trivial
theorem hd.tw1911355318528186641 : True := trivial
theorem hd.tw3343740063429005444 : True := trivial
theorem hd.tw2654056630452834213 : True := trivial
theorem hd.tw881381879766827477 : True := trivial
theorem hd.tw18069053287220747868 : True := trivial
theorem hd.tw3563664898184674832 : True := trivial
theorem hd.tw18441125345305520571 : True := trivial
theorem hd.tw4128152452386556997 : True := trivial
theorem hd.tw9290400575523376490 : True := trivial
theorem hd.tw9539564888625640213 : True := trivial
theorem hd.tw18066941510499730255 : True := trivial
theorem hd.tw12822463152779863239 : True := trivial
theorem hd.tw11869587642170144954 : True := trivial
theorem hd.tw10768663237676488807 : True := trivial
theorem hd.tw1091323331015391979 : True := trivial
theorem hd.tw13742036222233713491 : True := trivial
theorem hd.tw4451401271964435783 : True := trivial
theorem hd.tw15440690399528668883 : True := trivial
theorem hd.tw15324725913300466712 : True := trivial
theorem hd.tw18061567590266522828 : True := trivial
theorem hd.tw4007153200016948498 : True := trivial
theorem hd.tw8635725049512007479 : True := trivial
theorem hd.tw14813226113201521495 : True := trivial
theorem hd.tw6900772301043517928 : True := trivial
theorem hd.tw3207893555283508823 : True := trivial
theorem hd.tw9508755070145476897 : True := trivial
theorem hd.tw7369233011066661258 : True := trivial
theorem hd.tw2083972097075261507 : True := trivial
theorem hd.tw9495586214448357806 : True := trivial
theorem hd.tw8274461042311399561 : True := trivial
theorem hd.tw9154435329944788142 : True := trivial
theorem hd.tw648267088624105609 : True := trivial
theorem hd.tw7958876510543863160 : True := trivial
theorem hd.tw13416055124817726235 : True := trivial
theorem hd.tw14960481155110600568 : True := trivial
theorem hd.tw81210410637563144 : True := trivial
theorem hd.tw5689254358009235283 : True := trivial
theorem hd.tw15039604945312658641 : True := trivial
theorem hd.tw16110185288774828952 : True := trivial
theorem hd.tw18336941072488101112 : True := trivial
theorem hd.tw16737870316960527183 : True := trivial
theorem hd.tw12068743078130623849 : True := trivial
theorem hd.tw13270424906420538420 : True := trivial
theorem hd.tw798400647519417460 : True := trivial
theorem hd.tw15381647829324840846 : True := trivial
theorem hd.tw15196897530669616722 : True := trivial
theorem hd.tw11638652929112082139 : True := trivial
theorem hd.tw11677233966704559981 : True := trivial
theorem hd.tw7004493161303279642 : True := trivial
theorem hd.tw17961675809098337351 : True := trivial
theorem hd.tw6730614467884096808 : True := trivial
theorem hd.tw15917834205093624303 : True := trivial
theorem hd.tw10834407117449015234 : True := trivial
theorem hd.tw16103214821666315006 : True := trivial
theorem hd.tw14302578555282313181 : True := trivial
theorem hd.tw5403468730105544253 : True := trivial
theorem hd.tw12859279938354910767 : True := trivial
theorem hd.tw794830235211095756 : True := trivial
theorem hd.tw13785279078608391875 : True := trivial
theorem hd.tw8477180957340668903 : True := trivial
theorem hd.tw10989919839018701975 : True := trivial
theorem hd.tw402760138188255061 : True := trivial
theorem hd.tw7781287176761005288 : True := trivial
theorem hd.tw1626354977197956433 : True := trivial
theorem hd.tw11339494370346270130 : True := trivial
theorem hd.tw240096692285561360 : True := trivial
theorem hd.tw17712116506088105604 : True := trivial
theorem hd.tw12787838767628200290 : True := trivial
theorem hd.tw110195537273940665 : True := trivial
theorem hd.tw18257762001054181953 : True := trivial
theorem hd.tw10288876959769520051 : True := trivial
theorem hd.tw700803926007340097 : True := trivial
theorem hd.tw671532695420103092 : True := trivial
theorem hd.tw8169630093211300684 : True := trivial
theorem hd.tw1072911201330685236 : True := trivial
theorem hd.tw1686777233760179180 : True := trivial
theorem hd.tw11221735256958582977 : True := trivial
theorem hd.tw16915331498675394152 : True := trivial
theorem hd.tw10247284811424192137 : True := trivial
theorem hd.tw12234211605401977371 : True := trivial
theorem hd.tw3619350664524294616 : True := trivial
theorem hd.tw8998911941506274979 : True := trivial
theorem hd.tw575280881067505603 : True := trivial
theorem hd.tw11032872524204709728 : True := trivial
theorem hd.tw2230247332174875952 : True := trivial
theorem hd.tw12587088036625266935 : True := trivial
theorem hd.tw3467854132803317475 : True := trivial
theorem hd.tw11814938907435374189 : True := trivial
theorem hd.tw1634036721404201223 : True := trivial
theorem hd.tw8028057112702305469 : True := trivial
theorem hd.tw13203477664335183255 : True := trivial
theorem hd.tw2323698932399542038 : True := trivial
theorem hd.tw13433497600657862921 : True := trivial
theorem hd.tw3176424119050238490 : True := trivial
theorem hd.tw3675088108570416174 : True := trivial
theorem hd.tw2037814884606010296 : True := trivial
theorem hd.tw5956993284604587175 : True := trivial
theorem hd.tw4442390841845335370 : True := trivial
theorem hd.tw4777112157596868964 : True := trivial
theorem hd.tw3440139947681282860 : True := trivial
theorem hd.tw7053552079304054548 : True := trivial
theorem hd.tw13330115634937818412 : True := trivial
theorem hd.tw17945224958335497084 : True := trivial
theorem hd.tw273387111974626496 : True := trivial
theorem hd.tw6571491086303047013 : True := trivial
theorem hd.tw14887144096913438307 : True := trivial
theorem hd.tw10867945210345084269 : True := trivial
theorem hd.tw6440668828234589130 : True := trivial
theorem hd.tw11125012599194103563 : True := trivial
theorem hd.tw3735038979775426723 : True := trivial
theorem hd.tw15457178081952034701 : True := trivial
theorem hd.tw9889540958568289456 : True := trivial
theorem hd.tw15016727144092186055 : True := trivial
theorem hd.tw15115675553950640750 : True := trivial
theorem hd.tw2071881862257242000 : True := trivial
theorem hd.tw12998349016218276864 : True := trivial
theorem hd.tw7021891287483139419 : True := trivial
theorem hd.tw7329643355479156118 : True := trivial
theorem hd.tw6054048957517977472 : True := trivial
theorem hd.tw6241846280466951422 : True := trivial
theorem hd.tw11759339650525475259 : True := trivial
theorem hd.tw17169154842211749054 : True := trivial
theorem hd.tw6426380460060697229 : True := trivial
theorem hd.tw6015700530031064907 : True := trivial
theorem hd.tw11493682292112115711 : True := trivial
theorem hd.tw16044218229579855781 : True := trivial
theorem hd.tw5666522924034520082 : True := trivial
theorem hd.tw2112074499502099312 : True := trivial
theorem hd.tw13709733112074170100 : True := trivial
theorem hd.tw18309901870975085687 : True := trivial
theorem hd.tw2263636757671614447 : True := trivial
theorem hd.tw18282815938559513529 : True := trivial
theorem hd.tw9563073432105788876 : True := trivial
theorem hd.tw4198585748882061240 : True := trivial
theorem hd.tw1786011877213912034 : True := trivial
theorem hd.tw8600824636993644246 : True := trivial
theorem hd.tw13247702697306423999 : True := trivial
theorem hd.tw10519850707489744245 : True := trivial
theorem hd.tw12476780662827094886 : True := trivial
theorem hd.tw7622888476242107379 : True := trivial
theorem hd.tw10431600470637784245 : True := trivial
theorem hd.tw15749033308740139603 : True := trivial
theorem hd.tw12346163817564070888 : True := trivial
theorem hd.tw4974422855676553061 : True := trivial
theorem hd.tw17901324041280901403 : True := trivial
theorem hd.tw2148149275175419664 : True := trivial
theorem hd.tw6132533686369554630 : True := trivial
theorem hd.tw6197483352036965253 : True := trivial
theorem hd.tw14159787221874376449 : True := trivial
theorem hd.tw1940134272884409845 : True := trivial
theorem hd.tw2305782242278748150 : True := trivial
theorem hd.tw16314682579246722027 : True := trivial
theorem hd.tw11469185480684302854 : True := trivial
theorem hd.tw8552085214024481664 : True := trivial
theorem hd.tw7308511984642804316 : True := trivial
theorem hd.tw7125333092837538557 : True := trivial
theorem hd.tw14001665608141401437 : True := trivial
theorem hd.tw1595950231180978515 : True := trivial
theorem hd.tw6030406773057360915 : True := trivial
theorem hd.tw811501134766839522 : True := trivial
theorem hd.tw8608893395288269168 : True := trivial
theorem hd.tw12295236149986399309 : True := trivial
theorem hd.tw16048349913520851065 : True := trivial
theorem hd.tw600484098214130677 : True := trivial
theorem hd.tw10926113303595791229 : True := trivial
theorem hd.tw17542288343214431512 : True := trivial
theorem hd.tw15171700832348037098 : True := trivial
theorem hd.tw15709344317557666830 : True := trivial
theorem hd.tw7782156391841959375 : True := trivial
theorem hd.tw1312581085367642602 : True := trivial
theorem hd.tw3345132216419603022 : True := trivial
theorem hd.tw7716817955916371007 : True := trivial
theorem hd.tw16089489784403476638 : True := trivial
theorem hd.tw6607120638521759488 : True := trivial
theorem hd.tw3232299475183295151 : True := trivial
theorem hd.tw17394052521368150637 : True := trivial
theorem hd.tw11060584020721558396 : True := trivial
theorem hd.tw10025958803616799217 : True := trivial
theorem hd.tw6166366195529940424 : True := trivial
theorem hd.tw13410932058319213738 : True := trivial
theorem hd.tw16310998302247780864 : True := trivial
theorem hd.tw11840614136886467048 : True := trivial
theorem hd.tw14195093128573223188 : True := trivial
theorem hd.tw15069766945219452213 : True := trivial
theorem hd.tw13662409787141659360 : True := trivial
theorem hd.tw7799268851743304517 : True := trivial
theorem hd.tw996355755317534912 : True := trivial
theorem hd.tw14304093310015385558 : True := trivial
theorem hd.tw10589154957275460904 : True := trivial
theorem hd.tw13660911988656704695 : True := trivial
theorem hd.tw17654408602313499890 : True := trivial
theorem hd.tw12856125127313885088 : True := trivial
theorem hd.tw5496371673080419097 : True := trivial
theorem hd.tw6307259624304481621 : True := trivial
theorem hd.tw1346636146244262367 : True := trivial
theorem hd.tw11299314740510664770 : True := trivial
theorem hd.tw16059781950377574537 : True := trivial
theorem hd.tw10739206164306341570 : True := trivial
theorem hd.tw4990009635131365739 : True := trivial
theorem hd.tw766463077157606661 : True := trivial
theorem hd.tw5101310770489895612 : True := trivial
theorem hd.tw7505914601587592718 : True := trivial
theorem hd.tw1073721801104626687 : True := trivial
theorem hd.tw13894457522403421088 : True := trivial
theorem hd.tw2415763346256875883 : True := trivial
theorem hd.tw10777879574266996343 : True := trivial
theorem hd.tw3524727360229087683 : True := trivial
theorem hd.tw2699251025939473910 : True := trivial
theorem hd.tw14396321389919866032 : True := trivial
theorem hd.tw740386829216437760 : True := trivial
theorem hd.tw4956006820671433376 : True := trivial
theorem hd.tw12397850259191604634 : True := trivial
theorem hd.tw7365257854648725472 : True := trivial
theorem hd.tw10517985178119195889 : True := trivial
theorem hd.tw2459058705290410305 : True := trivial
theorem hd.tw2388908190971440722 : True := trivial
theorem hd.tw1073470565037152146 : True := trivial
theorem hd.tw5158966732531272070 : True := trivial
theorem hd.tw16524752095145403230 : True := trivial
theorem hd.tw8837565824668287618 : True := trivial
theorem hd.tw13563407647487703428 : True := trivial
theorem hd.tw3733610919793054209 : True := trivial
theorem hd.tw17330848178620228450 : True := trivial
theorem hd.tw7976354375511246713 : True := trivial
theorem hd.tw9427265701088375026 : True := trivial
theorem hd.tw12636257346382518829 : True := trivial
theorem hd.tw5763439228022980660 : True := trivial
theorem hd.tw3598251759919886352 : True := trivial
theorem hd.tw13348966300802543765 : True := trivial
theorem hd.tw17491138512457396797 : True := trivial
theorem hd.tw2996028488384126538 : True := trivial
theorem hd.tw8502095792976914709 : True := trivial
theorem hd.tw4400541438405063791 : True := trivial
theorem hd.tw13062151467412479535 : True := trivial
theorem hd.tw2822302071759120598 : True := trivial
theorem hd.tw14382169731704841807 : True := trivial
theorem hd.tw4903315786064093810 : True := trivial
theorem hd.tw3777445459650387081 : True := trivial
theorem hd.tw16345898056425666204 : True := trivial
theorem hd.tw16489729873440538875 : True := trivial
theorem hd.tw15206664910819188521 : True := trivial
theorem hd.tw14923703946017620774 : True := trivial
theorem hd.tw5629982651753540005 : True := trivial
theorem hd.tw18191642534326353401 : True := trivial
theorem hd.tw18228915508896410819 : True := trivial
theorem hd.tw1475160251119058267 : True := trivial
theorem hd.tw7715582929906752983 : True := trivial
theorem hd.tw16858221926955386318 : True := trivial
theorem hd.tw9067775876905646008 : True := trivial
theorem hd.tw3662128983151219381 : True := trivial
theorem hd.tw9556543854335666037 : True := trivial
theorem hd.tw7220860436720019676 : True := trivial
theorem hd.tw7267016683779732218 : True := trivial
theorem hd.tw1627118790771237731 : True := trivial
theorem hd.tw534768484132828111 : True := trivial
theorem hd.tw8195561942995899216 : True := trivial
theorem hd.tw14649050383902509334 : True := trivial
theorem hd.tw3548088549696549059 : True := trivial
theorem hd.tw15073492233832490024 : True := trivial
theorem hd.tw16279066658455794112 : True := trivial
theorem hd.tw17898895563394769864 : True := trivial
theorem hd.tw11735116406684212645 : True := trivial
theorem hd.tw4878387756498845946 : True := trivial
theorem hd.tw4782222843549512964 : True := trivial
theorem hd.tw4326084848937060944 : True := trivial
theorem hd.tw17249495131330617692 : True := trivial
theorem hd.tw14228385161301935194 : True := trivial
theorem hd.tw14435365586892319103 : True := trivial
theorem hd.tw16084210795672885358 : True := trivial
theorem hd.tw4223969598933835631 : True := trivial
theorem hd.tw15378769395443912754 : True := trivial
theorem hd.tw10320723643280605014 : True := trivial
theorem hd.tw10322628627064786472 : True := trivial
theorem hd.tw13583244073797051413 : True := trivial
theorem hd.tw14062365615375579687 : True := trivial
theorem hd.tw16853781029961315610 : True := trivial
theorem hd.tw18306491293586354304 : True := trivial
theorem hd.tw17154939253126771460 : True := trivial
theorem hd.tw10224838971759776178 : True := trivial
theorem hd.tw8190110571430199812 : True := trivial
theorem hd.tw964348751226665731 : True := trivial
theorem hd.tw15859528825517906235 : True := trivial
theorem hd.tw16705895439334439146 : True := trivial
theorem hd.tw14456875085209410261 : True := trivial
theorem hd.tw3742784312975240307 : True := trivial
theorem hd.tw18378068810032909180 : True := trivial
theorem hd.tw3088957036211460470 : True := trivial
theorem hd.tw13360406438931324286 : True := trivial
theorem hd.tw10619394165741500992 : True := trivial
theorem hd.tw11823451244166126048 : True := trivial
theorem hd.tw10445137354632941589 : True := trivial
theorem hd.tw14664685965632439413 : True := trivial
theorem hd.tw1221938274307733245 : True := trivial
theorem hd.tw6715470271474742172 : True := trivial
theorem hd.tw17022303039242962518 : True := trivial
theorem hd.tw14670390288083754511 : True := trivial
theorem hd.tw3423477929138258487 : True := trivial
theorem hd.tw13979432836399732909 : True := trivial
theorem hd.tw5274165398881035628 : True := trivial
theorem hd.tw7513888560720403718 : True := trivial
theorem hd.tw16199558001745519834 : True := trivial
theorem hd.tw84943457705560584 : True := trivial
theorem hd.tw15851861092321091417 : True := trivial
theorem hd.tw8260762372729843067 : True := trivial
theorem hd.tw9425132950358067950 : True := trivial
theorem hd.tw17677148705077972074 : True := trivial
theorem hd.tw6028736143841750888 : True := trivial
theorem hd.tw4158801763532466261 : True := trivial
theorem hd.tw14463269222877385886 : True := trivial
theorem hd.tw2427427486831121638 : True := trivial
theorem hd.tw2635684081385011287 : True := trivial
theorem hd.tw9871578142572313210 : True := trivial
theorem hd.tw4053420591708989559 : True := trivial
theorem hd.tw942920492682356776 : True := trivial
theorem hd.tw3253855587920469484 : True := trivial
theorem hd.tw3439276961380727289 : True := trivial
theorem hd.tw13471648033860950425 : True := trivial
theorem hd.tw14914582895577788341 : True := trivial
theorem hd.tw8354810928247995594 : True := trivial
theorem hd.tw8423159990323589058 : True := trivial
theorem hd.tw7034046909024425129 : True := trivial
theorem hd.tw13240176043517327057 : True := trivial
theorem hd.tw15163218421696668211 : True := trivial
theorem hd.tw10728020707751451965 : True := trivial
theorem hd.tw1864548674994320480 : True := trivial
theorem hd.tw18206607224450806148 : True := trivial
theorem hd.tw16361420326166087848 : True := trivial
theorem hd.tw18202793315774080681 : True := trivial
theorem hd.tw533086027101341324 : True := trivial
theorem hd.tw11803043573539322851 : True := trivial
theorem hd.tw12505359663688953468 : True := trivial
theorem hd.tw2584826431272916974 : True := trivial
theorem hd.tw15573483026739243927 : True := trivial
theorem hd.tw17595886924031411879 : True := trivial
theorem hd.tw11081207533964279364 : True := trivial
theorem hd.tw8497267096735268474 : True := trivial
theorem hd.tw9706739783933509291 : True := trivial
theorem hd.tw17145625566389151090 : True := trivial
theorem hd.tw6028508856292246216 : True := trivial
theorem hd.tw13218687243264670016 : True := trivial
theorem hd.tw15392890780457165926 : True := trivial
theorem hd.tw1404051796242749503 : True := trivial
theorem hd.tw17293418542394033649 : True := trivial
theorem hd.tw18152520971102714989 : True := trivial
theorem hd.tw8078642467054007852 : True := trivial
theorem hd.tw10611279733037971694 : True := trivial
theorem hd.tw4720965488242536861 : True := trivial
theorem hd.tw13537311546213514218 : True := trivial
theorem hd.tw8134613094961814052 : True := trivial
theorem hd.tw8160836675671303494 : True := trivial
theorem hd.tw806724013784216174 : True := trivial
theorem hd.tw1509425100062164536 : True := trivial
theorem hd.tw11847828726594464717 : True := trivial
theorem hd.tw16549688832025446518 : True := trivial
theorem hd.tw9900033133288286389 : True := trivial
theorem hd.tw10147788394035273851 : True := trivial
theorem hd.tw11951419704508696585 : True := trivial
theorem hd.tw268504004564427408 : True := trivial
theorem hd.tw3939053966236901710 : True := trivial
theorem hd.tw17673904088883630071 : True := trivial
theorem hd.tw12831268912472455454 : True := trivial
theorem hd.tw16460616968646320051 : True := trivial
theorem hd.tw6919306521555749408 : True := trivial
theorem hd.tw11623060748649363865 : True := trivial
theorem hd.tw273255144215359018 : True := trivial
theorem hd.tw1467319620126406831 : True := trivial
theorem hd.tw7709889887426264645 : True := trivial
theorem hd.tw12610694775749517344 : True := trivial
theorem hd.tw6881654218768314894 : True := trivial
theorem hd.tw4383650067995411911 : True := trivial
theorem hd.tw8109398630992705825 : True := trivial
theorem hd.tw11433071462820901145 : True := trivial
theorem hd.tw6437197195951107487 : True := trivial
theorem hd.tw7066845418197200695 : True := trivial
theorem hd.tw8650760695583206559 : True := trivial
theorem hd.tw11748650707174512805 : True := trivial
theorem hd.tw2202103776200235157 : True := trivial
theorem hd.tw17139720463497289461 : True := trivial
theorem hd.tw13994951553205667851 : True := trivial
theorem hd.tw11201574363970560186 : True := trivial
theorem hd.tw15733628261258442383 : True := trivial
theorem hd.tw9264210791665719364 : True := trivial
theorem hd.tw7720454987577143742 : True := trivial
theorem hd.tw3840870890488198156 : True := trivial
theorem hd.tw9223360675902377889 : True := trivial
theorem hd.tw7666362101087236025 : True := trivial
theorem hd.tw210401591873418506 : True := trivial
theorem hd.tw13506953672762762361 : True := trivial
theorem hd.tw14469398368160840529 : True := trivial
theorem hd.tw8738051923532276440 : True := trivial
theorem hd.tw5869109080138168106 : True := trivial
theorem hd.tw16356869855201279364 : True := trivial
theorem hd.tw9944836053964499472 : True := trivial
theorem hd.tw16982357150520978118 : True := trivial
theorem hd.tw15109205741356113768 : True := trivial
theorem hd.tw8132879047781252666 : True := trivial
theorem hd.tw1842784820311818376 : True := trivial
theorem hd.tw8636784804167480975 : True := trivial
theorem hd.tw663901297920529102 : True := trivial
theorem hd.tw15654665257971017131 : True := trivial
theorem hd.tw2452314576621581609 : True := trivial
theorem hd.tw12136588377526938181 : True := trivial
theorem hd.tw5490607135558658630 : True := trivial
theorem hd.tw250935869062893987 : True := trivial
theorem hd.tw13033903233305872011 : True := trivial
theorem hd.tw5379206631378189073 : True := trivial
theorem hd.tw5422825821786504898 : True := trivial
theorem hd.tw2323291220510542032 : True := trivial
theorem hd.tw5742698722261542699 : True := trivial
theorem hd.tw18225805720847211625 : True := trivial
theorem hd.tw6187111243121981064 : True := trivial
theorem hd.tw7839575842244084513 : True := trivial
theorem hd.tw2285871232814593026 : True := trivial
theorem hd.tw7410472177697820802 : True := trivial
theorem hd.tw16308014344593736096 : True := trivial
theorem hd.tw6463326855445993437 : True := trivial
theorem hd.tw14002449328330882902 : True := trivial
theorem hd.tw17855737474920448280 : True := trivial
theorem hd.tw8825470738389228867 : True := trivial
theorem hd.tw2684693014395389824 : True := trivial
theorem hd.tw17997344987879105638 : True := trivial
theorem hd.tw4529176404282745803 : True := trivial
theorem hd.tw9309904365999162391 : True := trivial
theorem hd.tw11940509315329156125 : True := trivial
theorem hd.tw6248197354330161549 : True := trivial
theorem hd.tw18041262044612914119 : True := trivial
theorem hd.tw2404925269909690735 : True := trivial
theorem hd.tw12476672557031811996 : True := trivial
theorem hd.tw12827525235859396500 : True := trivial
theorem hd.tw9134135165753761687 : True := trivial
theorem hd.tw4076884870513194695 : True := trivial
theorem hd.tw4568477245150375078 : True := trivial
theorem hd.tw8104130305052268241 : True := trivial
theorem hd.tw766916538465621712 : True := trivial
theorem hd.tw15901897698026200545 : True := trivial
theorem hd.tw12395693805069835074 : True := trivial
theorem hd.tw16675648647854849534 : True := trivial
theorem hd.tw435693892872507765 : True := trivial
theorem hd.tw17102698566459617028 : True := trivial
theorem hd.tw13525163576196990890 : True := trivial
theorem hd.tw14260501448446058766 : True := trivial
theorem hd.tw16602715433958111202 : True := trivial
theorem hd.tw18063415203409949252 : True := trivial
theorem hd.tw13619455910104079517 : True := trivial
theorem hd.tw17195824924236236862 : True := trivial
theorem hd.tw12572201264008265994 : True := trivial
theorem hd.tw16412243373797731051 : True := trivial
theorem hd.tw4700880034931332831 : True := trivial
theorem hd.tw13588759641949605247 : True := trivial
theorem hd.tw11345740613505313471 : True := trivial
theorem hd.tw14729525522449883432 : True := trivial
theorem hd.tw406451051216738383 : True := trivial
theorem hd.tw8421450232134386808 : True := trivial
theorem hd.tw17829178483426534482 : True := trivial
theorem hd.tw911880936705043850 : True := trivial
theorem hd.tw17650694663771186105 : True := trivial
theorem hd.tw4772924075559714907 : True := trivial
theorem hd.tw9357295304536979614 : True := trivial
theorem hd.tw5058698930093472004 : True := trivial
theorem hd.tw17071532938812493176 : True := trivial
theorem hd.tw2708153006884061578 : True := trivial
theorem hd.tw16993064129043942633 : True := trivial
theorem hd.tw10259965528984303384 : True := trivial
theorem hd.tw17847366437202597702 : True := trivial
theorem hd.tw16358043426518296121 : True := trivial
theorem hd.tw17545276163317394431 : True := trivial
theorem hd.tw13967511928665814647 : True := trivial
theorem hd.tw1785912277065921312 : True := trivial
theorem hd.tw12183736951044381125 : True := trivial
theorem hd.tw7088725413979600963 : True := trivial
theorem hd.tw11007470018531418094 : True := trivial
theorem hd.tw16538452806285135427 : True := trivial
theorem hd.tw2604104470382683375 : True := trivial
theorem hd.tw15201858584688799899 : True := trivial
theorem hd.tw362200062727315110 : True := trivial
theorem hd.tw9155879246924656619 : True := trivial
theorem hd.tw17673200208884615207 : True := trivial
theorem hd.tw16385413126240109801 : True := trivial
theorem hd.tw6040357289438057572 : True := trivial
theorem hd.tw8597152338417507247 : True := trivial
theorem hd.tw1552933502599623377 : True := trivial
theorem hd.tw4387877783262146909 : True := trivial
theorem hd.tw17074792312603922706 : True := trivial
theorem hd.tw15712642359514442884 : True := trivial
theorem hd.tw3853701469692270935 : True := trivial
theorem hd.tw342291348236460483 : True := trivial
theorem hd.tw9858418830966821726 : True := trivial
theorem hd.tw10452413310033015552 : True := trivial
theorem hd.tw10286956359672082716 : True := trivial
theorem hd.tw11758951434679818096 : True := trivial
theorem hd.tw14961982132073199818 : True := trivial
theorem hd.tw14308873996727052285 : True := trivial
theorem hd.tw1309365637313284489 : True := trivial
theorem hd.tw584045686280904249 : True := trivial
theorem hd.tw17345174350253337967 : True := trivial
theorem hd.tw17617866642535126660 : True := trivial
theorem hd.tw15486388800676435639 : True := trivial
theorem hd.tw14339141360892253618 : True := trivial
theorem hd.tw15835213792178750033 : True := trivial
theorem hd.tw4868636516122168477 : True := trivial
theorem hd.tw12010310224079011227 : True := trivial
theorem hd.tw10398000024633875896 : True := trivial
theorem hd.tw17844049144277027093 : True := trivial
theorem hd.tw2666071995919710173 : True := trivial
theorem hd.tw10910502729390183767 : True := trivial
theorem hd.tw15375116402487050796 : True := trivial
theorem hd.tw9141862642578981275 : True := trivial
theorem hd.tw7080402451424900935 : True := trivial
theorem hd.tw16221120489318271679 : True := trivial
theorem hd.tw16107657726391331029 : True := trivial
theorem hd.tw17387235965947980796 : True := trivial
theorem hd.tw13196086217221634393 : True := trivial
theorem hd.tw641876038349114416 : True := trivial
theorem hd.tw6106725031947785819 : True := trivial
theorem hd.tw17708082932751799346 : True := trivial
theorem hd.tw17955151243109628587 : True := trivial
theorem hd.tw10045514069438774107 : True := trivial
theorem hd.tw3050726509893607690 : True := trivial
theorem hd.tw169551640896103599 : True := trivial
theorem hd.tw11992864418006054101 : True := trivial
theorem hd.tw754890082531183374 : True := trivial
theorem hd.tw15572854268594132953 : True := trivial
theorem hd.tw8097432406312023834 : True := trivial
theorem hd.tw12938916792980678081 : True := trivial
theorem hd.tw12358999384324039093 : True := trivial
theorem hd.tw13356968015146679335 : True := trivial
theorem hd.tw820898781796001953 : True := trivial
theorem hd.tw13781858291137755347 : True := trivial
theorem hd.tw5765432064691799146 : True := trivial
theorem hd.tw16929163778890196029 : True := trivial
theorem hd.tw17968887180133814048 : True := trivial
theorem hd.tw11417555508872015249 : True := trivial
theorem hd.tw6593202561650991549 : True := trivial
theorem hd.tw869374243071121394 : True := trivial
theorem hd.tw10737268603761661901 : True := trivial
theorem hd.tw6105702147682373618 : True := trivial
theorem hd.tw14599114811208784397 : True := trivial
theorem hd.tw7389626691122431447 : True := trivial
theorem hd.tw12804606661078038784 : True := trivial
theorem hd.tw10723817251641644631 : True := trivial
theorem hd.tw6267156557941824597 : True := trivial
theorem hd.tw9002214242762981679 : True := trivial
theorem hd.tw1556434855016000125 : True := trivial
theorem hd.tw18321088354257033073 : True := trivial
theorem hd.tw11405488241811718169 : True := trivial
theorem hd.tw10066456133150943275 : True := trivial
theorem hd.tw13619634117042060663 : True := trivial
theorem hd.tw7222228900623333378 : True := trivial
theorem hd.tw3845416860771355525 : True := trivial
theorem hd.tw5377519656756634096 : True := trivial
theorem hd.tw7450643643017451959 : True := trivial
theorem hd.tw1801089006659633136 : True := trivial
theorem hd.tw2464907522396294123 : True := trivial
theorem hd.tw7273398185419955341 : True := trivial
theorem hd.tw2459017014369607028 : True := trivial
theorem hd.tw6537655220870567605 : True := trivial
theorem hd.tw15986828923304648008 : True := trivial
theorem hd.tw17623275703255657435 : True := trivial
theorem hd.tw16784011845903402786 : True := trivial
theorem hd.tw15724496517372075197 : True := trivial
theorem hd.tw2050120066924813233 : True := trivial
theorem hd.tw4283204432440572515 : True := trivial
theorem hd.tw16090519898705529823 : True := trivial
theorem hd.tw13915596869023235956 : True := trivial
theorem hd.tw6176886253359755810 : True := trivial
theorem hd.tw1563791005554058867 : True := trivial
theorem hd.tw4381146911087871815 : True := trivial
theorem hd.tw8165913602645269662 : True := trivial
theorem hd.tw14759177620819020653 : True := trivial
theorem hd.tw16157449390984830412 : True := trivial
theorem hd.tw10690259954901445742 : True := trivial
theorem hd.tw12332297288940505129 : True := trivial
theorem hd.tw13568464324766575264 : True := trivial
theorem hd.tw7275263466929102779 : True := trivial
theorem hd.tw6274517044803266246 : True := trivial
theorem hd.tw352362073811346614 : True := trivial
theorem hd.tw9457350767757830719 : True := trivial
theorem hd.tw3401627129925934851 : True := trivial
theorem hd.tw8976092241931129514 : True := trivial
theorem hd.tw12636753023647411641 : True := trivial
theorem hd.tw314862997514293034 : True := trivial
theorem hd.tw8981479941692492322 : True := trivial
theorem hd.tw269964083883028503 : True := trivial
theorem hd.tw17488083097931643334 : True := trivial
theorem hd.tw3910732454374437525 : True := trivial
theorem hd.tw1266272821731814739 : True := trivial
theorem hd.tw5772885995289655948 : True := trivial
theorem hd.tw5934423772622939134 : True := trivial
theorem hd.tw16428201842820587551 : True := trivial
theorem hd.tw8914395570025904933 : True := trivial
theorem hd.tw2818279172957820966 : True := trivial
theorem hd.tw4429284127069099609 : True := trivial
theorem hd.tw8614947112712364878 : True := trivial
theorem hd.tw9558865002507466819 : True := trivial
set_option Elab.async true
set_option maxHeartbeats 0 in
theorem hd : PySem.Challenge.rw_ja0039_01.Holds := by
  w_on; o_law; o_head (id (kmHook kHead.heap_1 [2, 3, 15, 17, 18, 20, 21, 22, 29, 31, 32, 34, 35, 36, 38, 39, 41, 42, 43, 45, 46, 48, 49, 50, 51, 52, 53, 54, 57, 64, 66, 67, 69, 70, 71, 73, 74, 76, 77, 78, 80, 81, 83, 84, 85, 86, 88, 89, 91, 92, 93, 94, 96, 97, 99, 100, 101, 102, 104, 105, 107, 108, 109, 110, 112, 113, 115, 116, 117, 118, 119, 120, 121, 122, 125, 128, 133, 134, 136, 137, 139, 140, 141, 143, 144, 146, 147, 148, 149, 150, 151, 154, 161, 162, 164, 165, 167, 168, 169, 171, 172, 174, 175, 176, 177, 179, 180, 182, 183, 184, 185, 187, 188, 190, 191, 192, 193, 195, 196, 198, 199, 200, 201, 203, 204, 206, 207, 208, 209, 211, 212, 214, 215, 216, 217, 219, 220, 222, 223, 224, 225, 227, 228, 230, 231, 232, 233, 235, 236, 238, 239, 240, 242, 243, 245, 246, 247, 249, 250, 252, 253, 254, 256, 257, 259, 260, 261, 263, 264, 266, 267, 268, 270, 271, 273, 274, 275, 276, 278, 279, 281, 282, 283, 284, 286, 287, 289, 290, 291, 293, 294, 296, 297, 298, 299, 300, 301, 302, 305, 312, 313, 315, 316, 318, 319, 320, 322, 323, 325, 326, 327, 329, 330, 332, 333, 334, 336, 337, 339, 340, 341, 343, 344, 346, 347, 348, 350, 351, 353, 354, 355, 356, 358, 359, 361, 362, 363, 364, 366, 367, 369, 370, 371, 373, 374, 376, 377, 378, 380, 381, 383, 384, 385, 387, 388, 390, 391, 392, 394, 395, 397, 398, 399, 400, 401, 402, 403, 406, 409, 414, 415, 416, 418, 419, 421, 422, 423, 426, 427, 428, 430, 431, 433, 434, 435, 437, 438, 440, 441, 442, 444, 445, 447, 448, 449, 451, 452, 454, 455, 456, 458, 459, 461, 462, 463, 464, 466, 467, 469, 470, 471, 473, 474, 476, 477, 478, 479, 481, 482, 484, 485, 486, 487, 488, 491, 498, 500, 501, 503, 504, 505, 506, 507, 510, 517, 519, 520, 522, 523, 524, 525, 526, 529, 532, 537, 538, 539, 541, 542, 544, 545, 546, 548, 549, 551, 552, 553, 555, 556, 558, 559, 560, 562, 563, 565, 566, 567, 568, 570, 571, 573, 574, 575, 576, 577, 580, 583, 588, 589, 590, 592, 593, 595, 596, 597, 599, 600, 602, 603, 604, 606, 607, 609, 610, 611, 613, 614, 616, 617, 618, 620, 621, 623, 624, 625, 627, 628, 630, 631, 632, 634, 635, 637, 638, 639, 641, 642, 644, 645, 646, 647, 649, 650, 652, 653, 654, 655, 657, 658, 660, 661, 662, 663, 664, 667, 674, 676, 677, 679, 680, 681, 683, 684, 686, 687, 688, 689, 690, 693, 700, 702, 703, 705, 706, 707, 708, 709, 712, 719, 721, 722, 724, 725, 726, 727, 728, 731, 733, 734, 736, 737, 738, 740, 741, 743, 744, 745, 747, 748, 750, 751, 752, 754, 755, 757, 758, 759, 761, 762, 764, 765] (fun _ => by kernel_rfl) [598, 633, 457])); (case hw => w_witness2)
  k_fill
  intro w s₀ s₁ mg mb G Y fa o pm cd doc dV kV ho hd' hcd hD hmg hg args vals as hpre hlay hrd hwl hlo
  have KX := km_in_of Y
  have KT := km_tabs_of Y
  refine Ground.open G ?_
  intro T B D TE TW
  wrow_args hpre hlay hrd hwl hlo
  x_fa T KX hmg
  all_lens
  clear hd' hcd hD hmg D TE TW B G Y
  have hl1 := ‹¬ ((63 : Nat) : Int) < _›
  refine join_law KX KT T hg (by assumption) (by assumption) (by (first | lia | omega)) (by assumption) (fun _ => rfl) ?_
  wrow_post
end Sky

theorem PySem.Challenge.cw_ja0039_01_holds : PySem.Challenge.rw_ja0039_01.Holds :=
  Sky.hd

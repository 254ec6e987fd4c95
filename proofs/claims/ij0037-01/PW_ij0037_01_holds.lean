import PyProof.Rows.All
import PyProof.IsiBase
import PyProof.GenCompD
import PyProof.IsiH_list
import PyProof.JoinWalk
import Wide.FinOn
import OpenK.AllK
import Wide.All
import Lean
import PySem.Challenge.RW_ij0037_01
set_option Elab.async false
set_option genSizeOf false
set_option genInjectivity false

section
open PySem PySem.W PySem.Calls PyProof.Rows
set_option Elab.async false
set_option maxRecDepth 100000
set_option maxHeartbeats 8000000
namespace LL
noncomputable def recIdx (i : Nat) : DefRec := match PySem.Challenge.pw_ij0037_01.main.body[i]? with
  | some (.FunctionDef name params body _ _ _ scope _ _ pos) => ⟨name, params, body, scope, pos⟩
  | _ => ⟨"", { posonlyargs := [], args := [], vararg := none, kwonlyargs := [], kw_defaults := [], kwarg := none, defaults := [] }, [], { kind := .function, names := [], isGenerator := false, isCoroutine := false }, default⟩
noncomputable def lawRec : DefRec := recIdx 21
noncomputable abbrev pw : Program := PySem.Challenge.pw_ij0037_01
noncomputable def view : Program := { pw with main := { pw.main with body := [0, 2, 3, 5, 6, 8, 9, 11, 12, 14, 15, 16, 17, 18, 19, 20, 21].filterMap (pw.main.body[·]?) } }
noncomputable def loose : List Str := [Str.ofString "_twin_re_1", Str.ofString "_special_chars_map"]
noncomputable def fnTab : List (Str × Addr) := [("translate", 43), ("_special_chars_map", 45), ("escape", 55), ("_translate", 62), ("_join_translated_parts", 69), ("_ellipsis_match", 76), ("_law_unit", 81), ("_law_tokens", 88), ("_law_fits", 93), ("_law_takes", 98),
  ("_law_item", 103), ("_law_rows", 110), ("_law_wants", 115), ("law", 120), ("_twin_re_1", 36)]
noncomputable def biTab : List Str := ["len", "any", "range", "list", "enumerate", "isinstance", "object", "str"]
noncomputable def isRef (a : Addr) : Value → Bool
  | .ref b => b == a
  | _ => false
noncomputable def obj3 (o : Obj) : Bool := match o.data with
  | .dict es _ => (fnTab.all fun p => (nsFind es p.1).any (isRef p.2)) && (biTab.all fun x => (nsFind es x).isNone) && (match nsFind es "ELLIPSIS_MARKER" with | some (.str s _) => s.cps.toList == [46, 46, 46] | _ => false)
  | _ => false
noncomputable def twinL : List Nat := [14, 14, 4, 1, 1, 9, 0, 64, 0, 1342177280, 0, 0, 0, 0, 0, 17, 0, 13, 11, 9, 0, 64, 0, 1342177280, 0, 0, 0, 0, 0, 17, 1, 1]
noncomputable def obj35 (o : Obj) : Bool := match o.data with
  | .seq vs _ => vs.toList.map (fun v => (Builtin.Re.reRawOf v).toNat) == twinL
  | _ => false
noncomputable def isTy (t : String) : Value → Bool
  | .type u => u == t
  | _ => false
noncomputable def obj36 (o : Obj) : Bool := isTy "re.Pattern" o.cls && o.dict.isNone && (match o.data with
  | .fields fs => isRef 35 (fs.getD 5 .none) && Builtin.Re.reRawNat (fs.getD 2 .none) == 1 && Builtin.Re.reRawNat (fs.getD 6 .none) == 0
  | _ => false)
noncomputable def keyOk (e : DictEntry) : Bool := match e.key with
  | .int k _ => e.hash == hashInt k
  | _ => false
noncomputable def mapAt (es : Array DictEntry) (c : Nat) (r : List Nat) : Bool := match findBy Value.isInt es (c : Int) with
  | none => r == [c]
  | some (.str y _) => y.cps.toList == r && r.length == 2
  | _ => false
noncomputable def obj45 (o : Obj) : Bool := isTy "dict" o.cls && o.dict.isNone && o.slots.isEmpty && (match o.data with
  | .dict es _ => es.toList.all keyOk && mapAt es 97 [97] && mapAt es 98 [98] && mapAt es 94 [92, 94] && mapAt es 38 [92, 38]
  | _ => false)
noncomputable def isNone : Value → Bool
  | .none => true
  | _ => false
noncomputable def obj57 (o : Obj) : Bool := isNone o.cls && o.dict.isNone && o.slots.isEmpty && (match o.data with
  | .fields vs => vs.isEmpty
  | _ => false)
noncomputable def obj61 (o : Obj) : Bool := isTy "code" o.cls && (match o.data with
  | .fields vs => isRef 57 (vs.getD 11 .none) && (match vs.getD 18 .none with | .str _ _ => true | _ => false) && (match vs.getD 7 .none with | .int _ _ => true | _ => false) && (match vs.getD 9 .none with | .bool _ => true | _ => false) && (match vs.getD 10 .none with | .int _ _ => true | _ => false)
  | _ => false)
noncomputable def obj62 (o : Obj) : Bool := match o.data with
  | .func fd => isRef 61 fd.code
  | _ => false
noncomputable def checks : List (Addr × (Obj → Bool)) := [(3, obj3), (35, obj35), (36, obj36), (45, obj45), (57, obj57), (61, obj61), (62, obj62)]
noncomputable def Seen (h : Heap) : Prop := ∀ p ∈ checks, ∃ o, h.get? p.1 = some o ∧ p.2 o = true
noncomputable def H : Hook where
  α := Bool
  obs := fun s => checks.all fun p => (s.heap.get? p.1).any p.2
  val := fun _ => true
  says := fun _ h => Seen h
  of := fun w s e p hp => by
    have h := List.all_eq_true.mp e p hp
    cases e : s.heap.get? p.1 with
    | none => rw [e] at h; cases h
    | some o => rw [e] at h; exact ⟨o, rfl, h⟩
  keeps := fun w h h' x k p hp => let ⟨o, h1, h2⟩ := x p hp; ⟨o, k _ _ h1, h2⟩
noncomputable abbrev PP (w : World) : Prop := (openEnds treeTable pw w 3684).map (fun s => (openSeen view loose (importedModules pw.main.body) (fun s => xlAt view [] s && recOk (RowW.records (OpenRow.toRowW PySem.Challenge.rw_ij0037_01.row)) s) true s, Hook.obs H s)) = some (openGood view loose, Hook.val H w)
theorem left_ff (w : World) : PP ((w.withFollow "special-get-raises" false).withFollow "comprehension-iter-twice" false) := by unfold PP; kernel_rfl
theorem left_tf (w : World) : PP ((w.withFollow "special-get-raises" true).withFollow "comprehension-iter-twice" false) := by unfold PP; kernel_rfl
theorem left_ft (w : World) : PP ((w.withFollow "special-get-raises" false).withFollow "comprehension-iter-twice" true) := by unfold PP; kernel_rfl
theorem left_tt (w : World) : PP ((w.withFollow "special-get-raises" true).withFollow "comprehension-iter-twice" true) := by unfold PP; kernel_rfl
theorem left (w : World) : PP w :=
  byRow2 "comprehension-iter-twice" (P := PP) (fun w => byRow2 "special-get-raises" (P := fun w => PP (w.withFollow "comprehension-iter-twice" false)) left_ff left_tf w) (fun w => byRow2 "special-get-raises" (P := fun w => PP (w.withFollow "comprehension-iter-twice" true)) left_ft left_tt w) w
theorem hd : WalkO view loose (XL view []) H.says PySem.Challenge.rw_ij0037_01.row.toRowW lawRec [] (fun f vs => PySem.call f vs) → PySem.Challenge.rw_ij0037_01.Holds := by
  intro walk
  refine holds_law (by decide +kernel) fun said => ?_
  refine holds_open (q := view) (loose := loose) (Xt := fun s => xlAt view [] s && recOk (RowW.records (OpenRow.toRowW PySem.Challenge.rw_ij0037_01.row)) s) (XP := XL view []) (Yf := Hook.obs H) (Ya := Hook.val H) (YP := Hook.says H) (d := lawRec) (kwd := []) (N := 3684) left (Hook.of H) (Hook.keeps H) (fun s e => xl_of s (Bool.and_eq_true_iff.mp e).1) XL.keeps (by rfl) (by rfl) (by rfl) (fun s e => recFacts_of (Bool.and_eq_true_iff.mp e).2) (by first | rfl | fail "open_line: no head takes a call that writes beside a table") (by first | assumption | decide +kernel) (by decide +kernel) ⟨rfl, rfl, rfl, rfl, rfl, by decide +kernel⟩ ?hw ?hc
  case hw => w_witness2
  case hc => exact walk
end LL
end

section
open PySem PySem.W PySem.Calls PyProof.Rows
set_option Elab.async false
set_option maxRecDepth 100000
set_option linter.unusedVariables false
namespace LL

theorem runs_toks {M : Model} {Γ : Ctx} {p : Pos} {t : Sem Fin} {fs : List Frame} {s s' : Shared} {e : End} (h : Runs M Γ p t fs s e s') : s.toks ≤ s'.toks := by
  induction h <;> first | exact Nat.le_refl _ | (simp only [Shared.setGen] at *; first | assumption | (first | lia | omega)) | assumption | (exact Nat.le_trans (by assumption) (by assumption))
theorem wp_toks {α : Type} {M : Model} {Γ : Ctx} {Q : α → Pos → Shared → Prop} {E : Value → Pos → Shared → Prop} (t : Sem α) : ∀ {p : Pos} {s : Shared}, Sem.wp M Γ t Q E p s → Sem.wp M Γ t (fun a p' s' => s.toks ≤ s'.toks ∧ Q a p' s') (fun a p' s' => s.toks ≤ s'.toks ∧ E a p' s') p s := by
  induction t with
  | pure a => intro p s h; exact ⟨Nat.le_refl _, h⟩
  | raise a => intro p s h; exact ⟨Nat.le_refl _, h⟩
  | unsupported => intro p s h; exact h.elim
  | finish => intro p s h; exact h.elim
  | rule _ _ ih => intro p s h; exact ih () h
  | «at» _ _ ih => intro p s h; exact ih () h
  | load _ _ _ ih => intro p s h; obtain ⟨o, ho, h⟩ := h; exact ⟨o, ho, ih o h⟩
  | update _ _ _ _ ih => intro p s h; exact ⟨h.1, ih () h.2⟩
  | loadIfAlive _ _ ih => intro p s h; exact ih _ h
  | point _ _ ih => intro p s h; exact ih () h
  | register => intro p s h; exact h.elim
  | alloc _ _ ih => intro p s h; exact ih _ h
  | fresh _ ih =>
    intro p s h
    refine Sem.wp_mono _ _ _ (fun a p' s' x => ⟨?_, x.2⟩) (fun a p' s' x => ⟨?_, x.2⟩) _ _ (ih _ h)
    · have := x.1; simp only at this; (exact Nat.le_of_lt (by assumption))
    · have := x.1; simp only at this; (exact Nat.le_of_lt (by assumption))
  | ask _ ih => intro p s h; exact ih _ h
  | choose _ _ _ ih => intro p s h; exact ⟨h.1, ih _ h.2⟩
  | os _ _ _ ih => intro p s h; exact ih _ h
  | call _ _ _ _ _ ih =>
    intro p s h
    obtain ⟨r, s', hr, h⟩ := h
    have := runs_toks hr
    exact ⟨r, s', hr, Sem.wp_mono _ _ _ (fun a p' s'' x => ⟨Nat.le_trans this x.1, x.2⟩) (fun a p' s'' x => ⟨Nat.le_trans this x.1, x.2⟩) _ _ (ih _ h)⟩
  | handled _ _ ih => intro p s h; exact ih _ h
  | genState _ _ ih => intro p s h; obtain ⟨st, hs, h⟩ := h; exact ⟨st, hs, ih _ h⟩
  | newGen _ _ ih => intro p s h; exact ih _ h
  | resume g r l k ih =>
    intro p s h
    obtain ⟨res, s', hw, h⟩ := h
    have : s.toks ≤ s'.toks := by
      unfold Wakes at hw
      split at hw
      · exact hw.elim
      · split at hw
        · obtain ⟨e₁, s₁, hr, _, _, rfl⟩ := hw; have z := runs_toks hr; exact z
        · rw [hw.2]; exact Nat.le_refl _
        · rw [hw.2]; exact Nat.le_refl _
      · obtain ⟨e₁, s₁, hr, _, _, rfl⟩ := hw; have z := runs_toks hr; exact z
      · rw [hw.2]; exact Nat.le_refl _
      · rw [hw.2]; exact Nat.le_refl _
    exact ⟨res, s', hw, Sem.wp_mono _ _ _ (fun a p' s'' x => ⟨Nat.le_trans this x.1, x.2⟩) (fun a p' s'' x => ⟨Nat.le_trans this x.1, x.2⟩) _ _ (ih _ h)⟩
  | yield => intro p s h; exact h.elim
  | stack _ ih => intro p s h; exact ih _ h
  | fork => intro p s h; exact h.elim
  | thread _ ih => intro p s h; exact ih _ h
  | await => intro p s h; exact h.elim
theorem wpAny_tk {α : Type} {M : Model} {A : Around} {t : Sem α} {Q : α → Shared → Prop} {E : Value → Shared → Prop} {s : Shared} (h : wpAny M A t (fun a s' => s.toks ≤ s'.toks → Q a s') (fun a s' => s.toks ≤ s'.toks → E a s') s) : wpAny M A t Q E s :=
  fun Γ p hΓ => Sem.wp_mono _ _ _ (fun a p' s' x => x.2 x.1) (fun a p' s' x => x.2 x.1) _ _ (wp_toks t (h Γ p hΓ))

noncomputable abbrev PM := Addr → Option Obj
noncomputable def LE (P P' : PM) : Prop := ∀ b o, P b = some o → P' b = some o
theorem LE.refl (P : PM) : LE P P := fun _ _ e => e
theorem LE.trans {P P' P'' : PM} (x : LE P P') (y : LE P' P'') : LE P P'' := fun b o e => y b o (x b o e)

inductive LV where
  | undef
  | none
  | bool (b : Bool)
  | int (i : Int)
  | str (s : List Nat)
  | raw (v : Value)
  | obj (o : Obj)
  | slc (l u : LV)
  | tup (l : List LV)
  | lst (l : List LV)

mutual
noncomputable def V (P : PM) : LV → Value → Prop
  | .undef, _ => True
  | .none, v => v = .none
  | .bool b, v => v = .bool b
  | .int i, v => ∃ t, v = .int i t
  | .str x, v => ∃ t, v = .str ⟨x.toArray⟩ t
  | .raw u, v => v = u
  | .obj o, v => ∃ a, v = .ref a ∧ P a = some o
  | .slc l u, v => ∃ a o vl vu, v = .ref a ∧ P a = some o ∧ o.cls = .type "slice" ∧ o.data = .fields #[vl, vu, .none] ∧ V P l vl ∧ V P u vu
  | .tup l, v => ∃ a o vs n, v = .ref a ∧ P a = some o ∧ o.cls = .type "tuple" ∧ o.data = .seq vs n ∧ VL P l vs.toList
  | .lst l, v => ∃ a o vs n, v = .ref a ∧ P a = some o ∧ o.cls = .type "list" ∧ o.data = .seq vs n ∧ VL P l vs.toList
noncomputable def VL (P : PM) : List LV → List Value → Prop
  | [], vs => vs = []
  | x :: xs, vs => ∃ v r, vs = v :: r ∧ V P x v ∧ VL P xs r
end

mutual
theorem V.mono {P P' : PM} (h : LE P P') : ∀ {x : LV} {v : Value}, V P x v → V P' x v
  | .undef, _, _ => by unfold V; trivial
  | .none, _, e => by unfold V at e ⊢; exact e
  | .bool _, _, e => by unfold V at e ⊢; exact e
  | .int _, _, e => by unfold V at e ⊢; exact e
  | .str _, _, e => by unfold V at e ⊢; exact e
  | .raw _, _, e => by unfold V at e ⊢; exact e
  | .obj _, _, e => by unfold V at e ⊢; obtain ⟨a, h1, h2⟩ := e; exact ⟨a, h1, h _ _ h2⟩
  | .slc l u, _, e => by unfold V at e ⊢; obtain ⟨a, o, vl, vu, h1, h2, h3, h4, h5, h6⟩ := e; exact ⟨a, o, vl, vu, h1, h _ _ h2, h3, h4, V.mono h h5, V.mono h h6⟩
  | .tup l, _, e => by unfold V at e ⊢; obtain ⟨a, o, vs, n, h1, h2, h3, h4, h5⟩ := e; exact ⟨a, o, vs, n, h1, h _ _ h2, h3, h4, VL.mono h h5⟩
  | .lst l, _, e => by unfold V at e ⊢; obtain ⟨a, o, vs, n, h1, h2, h3, h4, h5⟩ := e; exact ⟨a, o, vs, n, h1, h _ _ h2, h3, h4, VL.mono h h5⟩
theorem VL.mono {P P' : PM} (h : LE P P') : ∀ {x : List LV} {v : List Value}, VL P x v → VL P' x v
  | [], _, e => by unfold VL at e ⊢; exact e
  | _ :: _, _, e => by unfold VL at e ⊢; obtain ⟨v, r, h1, h2, h3⟩ := e; exact ⟨v, r, h1, V.mono h h2, VL.mono h h3⟩
end

theorem VL.length {P : PM} : ∀ {x : List LV} {v : List Value}, VL P x v → x.length = v.length
  | [], _, e => by unfold VL at e; subst e; rfl
  | _ :: _, _, e => by unfold VL at e; obtain ⟨v, r, rfl, _, h3⟩ := e; simp [VL.length h3]
theorem VL.nil {P : PM} : VL P [] [] := by unfold VL; rfl
theorem VL.cons {P : PM} {x : LV} {v : Value} {xs : List LV} {vs : List Value} (h : V P x v) (k : VL P xs vs) : VL P (x :: xs) (v :: vs) := by unfold VL; exact ⟨v, vs, rfl, h, k⟩
theorem VL.nil_inv {P : PM} {vs : List Value} (h : VL P [] vs) : vs = [] := by unfold VL at h; exact h
theorem VL.cons_inv {P : PM} {x : LV} {xs : List LV} {vs : List Value} (h : VL P (x :: xs) vs) : ∃ v r, vs = v :: r ∧ V P x v ∧ VL P xs r := by unfold VL at h; exact h
theorem VL.append {P : PM} : ∀ {x y : List LV} {v w : List Value}, VL P x v → VL P y w → VL P (x ++ y) (v ++ w)
  | [], _, _, _, h, k => by rw [VL.nil_inv h]; exact k
  | _ :: _, _, _, _, h, k => by obtain ⟨v, r, rfl, h1, h2⟩ := VL.cons_inv h; exact .cons h1 (VL.append h2 k)
theorem VL.get {P : PM} : ∀ {x : List LV} {v : List Value}, VL P x v → ∀ {i : Nat} {y : LV}, x[i]? = some y → ∃ u, v[i]? = some u ∧ V P y u
  | [], _, _, _, _, e => by simp at e
  | _ :: _, _, h, 0, _, e => by obtain ⟨v, r, rfl, h1, h2⟩ := VL.cons_inv h; simp at e; subst e; exact ⟨v, rfl, h1⟩
  | _ :: _, _, h, i + 1, _, e => by obtain ⟨v, r, rfl, h1, h2⟩ := VL.cons_inv h; simp at e; simpa using VL.get h2 e
theorem VL.take {P : PM} : ∀ {x : List LV} {v : List Value}, VL P x v → ∀ (i : Nat), VL P (x.take i) (v.take i)
  | [], _, h, _ => by rw [VL.nil_inv h]; simpa using VL.nil
  | _ :: _, _, h, 0 => by simpa using VL.nil
  | _ :: _, _, h, i + 1 => by obtain ⟨v, r, rfl, h1, h2⟩ := VL.cons_inv h; simpa using VL.cons h1 (VL.take h2 i)
theorem VL.drop {P : PM} : ∀ {x : List LV} {v : List Value}, VL P x v → ∀ (i : Nat), VL P (x.drop i) (v.drop i)
  | [], _, h, _ => by rw [VL.nil_inv h]; simpa using VL.nil
  | _ :: _, _, h, 0 => by simpa using h
  | _ :: _, _, h, i + 1 => by obtain ⟨v, r, rfl, h1, h2⟩ := VL.cons_inv h; simpa using VL.drop h2 i
theorem VL.set {P : PM} {y : LV} {u : Value} (hy : V P y u) : ∀ {x : List LV} {v : List Value}, VL P x v → ∀ (i : Nat), VL P (x.set i y) (v.set i u)
  | [], _, h, _ => by rw [VL.nil_inv h]; simpa using VL.nil
  | _ :: _, _, h, 0 => by obtain ⟨v, r, rfl, h1, h2⟩ := VL.cons_inv h; simpa using VL.cons hy h2
  | _ :: _, _, h, i + 1 => by obtain ⟨v, r, rfl, h1, h2⟩ := VL.cons_inv h; simpa using VL.cons h1 (VL.set hy h2 i)

inductive Loc where
  | local | own | fixed | glob
  deriving DecidableEq

inductive Ct where
  | lst (l : List LV)
  | raw (o : Obj)
  | itl (i : Nat) (xs : List LV)
  | enm (it : Addr) (i : Nat)
set_option genInjectivity true in
structure LS where
  env : List (Str × Loc × LV)
  cells : List (Addr × Ct)
noncomputable def CtOk (P : PM) (h : Heap) (a : Addr) : Ct → Prop
  | .lst l => ∃ vs, h.PlainList a vs ∧ VL P l vs.toList
  | .raw o => h.get? a = some o
  | .itl i xs => ∃ l ol vs k, h.IsListIter a l i ∧ P l = some ol ∧ ol.cls = .type "list" ∧ ol.data = .seq vs k ∧ VL P xs (vs.toList.drop i)
  | .enm it i => ∃ old, IsEnum h a it i old
theorem CtOk.mono {P P' : PM} {h h' : Heap} {a : Addr} {c : Ct} (x : CtOk P h a c) (le : LE P P') (k : ∀ o, h.get? a = some o → h'.get? a = some o) : CtOk P' h' a c := by
  cases c with
  | lst l => obtain ⟨vs, ⟨n, ho⟩, h2⟩ := x; exact ⟨vs, ⟨n, k _ ho⟩, h2.mono le⟩
  | raw o => exact k o x
  | itl i xs => obtain ⟨l, ol, vs, n, ⟨o, h1, h1'⟩, h2, h3, h4, h5⟩ := x; exact ⟨l, ol, vs, n, ⟨o, k _ h1, h1'⟩, le _ _ h2, h3, h4, h5.mono le⟩
  | enm it i => obtain ⟨old, h1⟩ := x; exact ⟨old, k _ h1⟩
theorem CtOk.there {P : PM} {h : Heap} {a : Addr} {c : Ct} (x : CtOk P h a c) : ∃ o, h.get? a = some o := by
  cases c with
  | lst l => obtain ⟨vs, ⟨n, ho⟩, h2⟩ := x; exact ⟨_, ho⟩
  | raw o => exact ⟨o, x⟩
  | itl i xs => obtain ⟨l, ol, vs, n, ⟨o, h1, _⟩, _⟩ := x; exact ⟨o, h1⟩
  | enm it i => obtain ⟨old, h1⟩ := x; exact ⟨_, h1⟩

structure GC where
  prog : Program
  w : World
  G : PM
  T : Addr
  TOK : PM → Array Value → Prop
  tk0 : Nat
  tmono : ∀ {P P' : PM} {ps}, LE P P' → TOK P ps → TOK P' ps
  os : OsState
  mg : Str → Option Value
  mb : Str → Option Value
  /-- the globals and the built-ins' names stand in the base -/
  hg : ∀ h : Heap, (∀ b o, G b = some o → h.get? b = some o) → h.Ns mainGlobals mg
  hb : ∀ h : Heap, (∀ b o, G b = some o → h.get? b = some o) → h.Ns builtinsNs mb
  hl : ∀ h : Heap, (∀ b o, G b = some o → h.get? b = some o) → h.NoLimit

structure FC where
  env : Env
  own : List (Str × Addr)
  /-- the heap at the entry -/
  B : PM
  P0 : PM

noncomputable def Room (n : Nat) (A : Around) : Prop := A.handled = .none ∧ A.depth + n ≤ 500 ∧ A.units + 10 * n ≤ 1000

structure GSt (g : GC) (P : PM) (s : Shared) : Prop where
  pre : ∀ b o, P b = some o → s.heap.get? b = some o
  base : LE g.G P
  tab : ∃ ps, s.heap.get? g.T = some (tabObj ps) ∧ g.TOK P ps
  tabP : P g.T = none
  bare : AllBare s.gens
  os : s.os = g.os
  tk : g.tk0 ≤ s.toks

structure Grow (g : GC) (P : PM) (s : Shared) (P' : PM) (s' : Shared) : Prop where
  le : LE P P'
  new : ∀ b o, P' b = some o → P b = some o ∨ s.heap.get? b = none
  keep : ∀ b o, b ≠ g.T → s.heap.get? b = some o → s'.heap.get? b = some o

theorem Grow.refl (g : GC) (P : PM) (s : Shared) : Grow g P s P s := ⟨LE.refl P, fun _ _ e => .inl e, fun _ _ _ e => e⟩
theorem Grow.trans {g : GC} {P P' P'' : PM} {s s' s'' : Shared} (x : Grow g P s P' s') (y : Grow g P' s' P'' s'') (hT : P'' g.T = none) : Grow g P s P'' s'' :=
  ⟨x.le.trans y.le, fun b o e => (y.new b o e).elim (fun e' => x.new b o e') (fun h => .inr (by
    cases q : s.heap.get? b with
    | none => rfl
    | some o' =>
      have : b ≠ g.T := fun z => by subst z; rw [hT] at e; cases e
      rw [x.keep b o' this q] at h; cases h)), fun b o hb e => y.keep b o hb (x.keep b o hb e)⟩
theorem Grow.of_heap {g : GC} {P : PM} {s s' : Shared} (e : s'.heap = s.heap) : Grow g P s P s' := ⟨LE.refl P, fun _ _ e => .inl e, fun _ _ _ h => by rw [e]; exact h⟩
theorem GSt.of_heap {g : GC} {P : PM} {s s' : Shared} (S : GSt g P s) (e : s'.heap = s.heap) (eg : s'.gens = s.gens) (eo : s'.os = s.os) (et : s.toks ≤ s'.toks) : GSt g P s' :=
  ⟨fun b o h => by rw [e]; exact S.pre b o h, S.base, by rw [e]; exact S.tab, S.tabP, by rw [eg]; exact S.bare, by rw [eo]; exact S.os, Nat.le_trans S.tk et⟩
theorem GSt.toks {g : GC} {P : PM} {s : Shared} (S : GSt g P s) (t : Nat) (ht : s.toks ≤ t) : GSt g P { s with toks := t } := S.of_heap rfl rfl rfl ht

noncomputable def PM.put (P : PM) (a : Addr) (o : Obj) : PM := fun b => if b = a then some o else P b
theorem PM.put_self {P : PM} {a : Addr} {o : Obj} : P.put a o a = some o := by simp [PM.put]
theorem PM.put_ne {P : PM} {a b : Addr} {o : Obj} (h : b ≠ a) : P.put a o b = P b := by simp [PM.put, h]

theorem GSt.lt {g : GC} {P : PM} {s : Shared} (S : GSt g P s) {b : Addr} {o : Obj} (e : P b = some o) : b < s.heap.objs.size := Heap.lt_size (S.pre b o e)
theorem GSt.fresh {g : GC} {P : PM} {s : Shared} (S : GSt g P s) : P s.heap.objs.size = none := by
  cases h : P s.heap.objs.size with
  | none => rfl
  | some o => exact absurd (S.lt h) (Nat.lt_irrefl _)
theorem GSt.tab_lt {g : GC} {P : PM} {s : Shared} (S : GSt g P s) : g.T < s.heap.objs.size := by obtain ⟨ps, h, _⟩ := S.tab; exact Heap.lt_size h
theorem LE.put {P : PM} {a : Addr} {o : Obj} (h : P a = none) : LE P (P.put a o) := fun b o' e => by
  unfold PM.put
  split
  · rename_i hb; subst hb; rw [h] at e; cases e
  · exact e

theorem GSt.push {g : GC} {P : PM} {s : Shared} (S : GSt g P s) (o : Obj) (hf : o.isFreed = false := by rfl) :
    GSt g (P.put s.heap.objs.size o) { s with heap := s.heap.push o } := by
  refine ⟨fun b o' e => ?_, S.base.trans (LE.put S.fresh), ?_, ?_, S.bare, S.os, S.tk⟩
  · unfold PM.put at e
    split at e
    · rename_i hb; subst hb; cases e; exact Heap.get?_push_size _ hf
    · exact Heap.get?_push_of_some _ (S.pre b o' e)
  · obtain ⟨ps, h1, h2⟩ := S.tab
    exact ⟨ps, Heap.get?_push_of_some _ h1, g.tmono (LE.put S.fresh) h2⟩
  · rw [PM.put_ne (Nat.ne_of_lt S.tab_lt)]; exact S.tabP
theorem Heap.get?_size (h : Heap) : h.get? h.objs.size = none := by
  cases e : h.get? h.objs.size with
  | none => rfl
  | some o => exact absurd (Heap.lt_size e) (Nat.lt_irrefl _)
theorem Grow.push {g : GC} {P : PM} {s : Shared} (S : GSt g P s) (o : Obj) : Grow g P s (P.put s.heap.objs.size o) { s with heap := s.heap.push o } := by
  refine ⟨LE.put S.fresh, fun b o' e => ?_, fun b o' _ e => Heap.get?_push_of_some _ e⟩
  unfold PM.put at e
  split at e
  · rename_i hb; subst hb; exact .inr (Heap.get?_size _)
  · exact .inl e
theorem GSt.ext {g : GC} {P : PM} {s : Shared} (S : GSt g P s) {h' : Heap} {t : Nat} (k : ∀ b o, s.heap.get? b = some o → h'.get? b = some o) (ht : s.toks ≤ t) : GSt g P { s with heap := h', toks := t } ∧ Grow g P s P { s with heap := h', toks := t } :=
  ⟨⟨fun b o e => k b o (S.pre b o e), S.base, let ⟨ps, h1, h2⟩ := S.tab; ⟨ps, k _ _ h1, h2⟩, S.tabP, S.bare, S.os, Nat.le_trans S.tk ht⟩, ⟨LE.refl P, fun _ _ e => .inl e, fun b o _ e => k b o e⟩⟩

noncomputable abbrev HeldL (F : FC) (P : PM) (m : Str → Option Value) (x : Str) (lv : LV) : Prop := F.env.kindOf x = some .local ∧ (lv = .undef ∨ ∃ v, m x = some v ∧ V P lv v)
noncomputable abbrev HeldC (F : FC) (P : PM) (s : Shared) (x : Str) (lv : LV) : Prop := F.env.kindOf x = some .cell ∧ ∃ c v₀, F.env.cells.lookup x = some c ∧ (x, c) ∈ F.own ∧ s.heap.IsCell c v₀ ∧ (lv = .undef ∨ ∃ v, v₀ = some v ∧ V P lv v)
noncomputable abbrev HeldF (g : GC) (F : FC) (P : PM) (x : Str) (lv : LV) : Prop := (F.env.kindOf x = some .free ∨ F.env.kindOf x = some .cell) ∧ (x == ("__classdict__" : Str)) = false ∧ ∃ c o v, F.env.cells.lookup x = some c ∧ (F.B c = some o ∧ c ≠ g.T) ∧ o.data = .cell (some v) ∧ V P lv v
noncomputable abbrev HeldG (g : GC) (F : FC) (P : PM) (x : Str) (lv : LV) : Prop := F.env.kindOf x = some .globalImplicit ∧ ∃ v, (g.mg x = some v ∨ (g.mg x = none ∧ g.mb x = some v)) ∧ V P lv v
noncomputable def Held (g : GC) (F : FC) (P : PM) (s : Shared) (m : Str → Option Value) (x : Str) (l : Loc) (lv : LV) : Prop :=
  (x == ("__debug__" : Str)) = false ∧
  match l with
  | .local => HeldL F P m x lv
  | .own => HeldC F P s x lv
  | .fixed => HeldF g F P x lv
  | .glob => HeldG g F P x lv

noncomputable def muts (F : FC) (σ : LS) : List Addr := F.env.locals :: (F.own.map (·.2) ++ σ.cells.map (·.1))

structure St (g : GC) (F : FC) (P : PM) (s : Shared) (σ : LS) : Prop where
  G : GSt g P s
  kind : F.env.scope.kind = .function
  glob : F.env.globals = mainGlobals
  blt : F.env.builtins = builtinsNs
  old : ∀ b o, b ≠ g.T → F.B b = some o → s.heap.get? b = some o
  bT : ∃ o, F.B g.T = some o
  new : ∀ b o, P b = some o → F.P0 b = some o ∨ F.B b = none
  nd : (muts F σ).Nodup
  mu : ∀ a ∈ muts F σ, F.B a = none ∧ P a = none
  ownd : (F.own.map (·.1)).Nodup
  owns : ∀ p ∈ F.own, F.env.cells.lookup p.1 = some p.2 ∧ ∃ v, s.heap.IsCell p.2 v
  locs : ∃ m, s.heap.Ns F.env.locals m ∧ ∀ x l lv, (x, l, lv) ∈ σ.env → Held g F P s m x l lv
  names : (σ.env.map (·.1)).Nodup
  cells : ∀ a c, (a, c) ∈ σ.cells → CtOk P s.heap a c

theorem Held.grow {g : GC} {F : FC} {P P' : PM} {s s' : Shared} {m : Str → Option Value} {x : Str} {l : Loc} {lv : LV} (k : Held g F P s m x l lv) (hle : LE P P')
    (hc : ∀ c v₀, (x, c) ∈ F.own → s.heap.IsCell c v₀ → s'.heap.IsCell c v₀) : Held g F P' s' m x l lv := by
  obtain ⟨hd, k⟩ := k
  refine ⟨hd, ?_⟩
  cases l with
  | «local» => exact ⟨k.1, k.2.imp id fun ⟨v, h1, h2⟩ => ⟨v, h1, h2.mono hle⟩⟩
  | own => obtain ⟨k1, c, v₀, k2, k3, k4, k5⟩ := k; exact ⟨k1, c, v₀, k2, k3, hc c v₀ k3 k4, k5.imp id fun ⟨v, h1, h2⟩ => ⟨v, h1, h2.mono hle⟩⟩
  | fixed => obtain ⟨k1, k0, c, o, v, k2, k3, k4, k5⟩ := k; exact ⟨k1, k0, c, o, v, k2, k3, k4, k5.mono hle⟩
  | glob => obtain ⟨k1, v, k2, k3⟩ := k; exact ⟨k1, v, k2, k3.mono hle⟩

theorem St.mget {g : GC} {F : FC} {P : PM} {s : Shared} {σ : LS} (S : St g F P s σ) : ∀ a ∈ muts F σ, ∃ o, s.heap.get? a = some o := by
  intro a ha
  unfold muts at ha
  rcases List.mem_cons.mp ha with rfl | ha
  · obtain ⟨m, ⟨o, _, _, ho, _⟩, _⟩ := S.locs; exact ⟨o, ho⟩
  · rcases List.mem_append.mp ha with ha | ha
    · obtain ⟨p, hp, rfl⟩ := List.mem_map.mp ha
      obtain ⟨_, v, o, ho, _⟩ := S.owns p hp
      exact ⟨o, ho⟩
    · obtain ⟨⟨a', items⟩, hp, rfl⟩ := List.mem_map.mp ha
      exact (S.cells a' items hp).there
theorem St.mT {g : GC} {F : FC} {P : PM} {s : Shared} {σ : LS} (S : St g F P s σ) : ∀ a ∈ muts F σ, a ≠ g.T := fun a ha e => by
  obtain ⟨o, ho⟩ := S.bT
  rw [← e, (S.mu a ha).1] at ho; cases ho
theorem St.fresh {g : GC} {F : FC} {P : PM} {s : Shared} {σ : LS} (S : St g F P s σ) {a : Addr} (h : s.heap.get? a = none) : F.B a = none ∧ P a = none ∧ a ∉ muts F σ := by
  have hT : a ≠ g.T := fun e => by obtain ⟨ps, h1, _⟩ := S.G.tab; rw [← e, h] at h1; cases h1
  refine ⟨?_, ?_, fun q => ?_⟩
  · cases e : F.B a with
    | none => rfl
    | some o => rw [S.old a o hT e] at h; cases h
  · cases e : P a with
    | none => rfl
    | some o => rw [S.G.pre a o e] at h; cases h
  · obtain ⟨o, ho⟩ := S.mget a q
    rw [h] at ho; cases ho
theorem mem_loc (F : FC) (σ : LS) : F.env.locals ∈ muts F σ := .head _
theorem mem_own {F : FC} (σ : LS) {p : Str × Addr} (h : p ∈ F.own) : p.2 ∈ muts F σ := .tail _ (List.mem_append.mpr (.inl (List.mem_map_of_mem h)))
theorem mem_cell (F : FC) {σ : LS} {p : Addr × Ct} (h : p ∈ σ.cells) : p.1 ∈ muts F σ := .tail _ (List.mem_append.mpr (.inr (List.mem_map_of_mem h)))

theorem isCell_ext {h h' : Heap} {c : Addr} {v : Option Value} {T : Addr} (x : h.IsCell c v) (hk : ∀ b o, b ≠ T → h.get? b = some o → h'.get? b = some o) (hc : c ≠ T) : h'.IsCell c v := let ⟨o, ho, hd⟩ := x; ⟨o, hk c o hc ho, hd⟩
theorem ns_ext {h h' : Heap} {c : Addr} {v : Str → Option Value} {T : Addr} (x : h.Ns c v) (hk : ∀ b o, b ≠ T → h.get? b = some o → h'.get? b = some o) (hc : c ≠ T) : h'.Ns c v := x.extBut (fun b o hb e => hk b o hb e) hc

theorem St.grow {g : GC} {F : FC} {P P' : PM} {s s' : Shared} {σ : LS} (S : St g F P s σ) (G' : GSt g P' s') (R : Grow g P s P' s') : St g F P' s' σ := by
  obtain ⟨m, hm, hs⟩ := S.locs
  refine ⟨G', S.kind, S.glob, S.blt, fun b o hb e => R.keep b o hb (S.old b o hb e), S.bT, fun b o e => ?_, S.nd, fun a ha => ⟨(S.mu a ha).1, ?_⟩, S.ownd, fun p hp => ?_, ?_, S.names, fun a items hp => ?_⟩
  · rcases R.new b o e with h | h
    · exact S.new b o h
    · exact .inr (S.fresh h).1
  · cases e : P' a with
    | none => rfl
    | some o =>
      rcases R.new a o e with h | h
      · rw [(S.mu a ha).2] at h; cases h
      · exact absurd ha (S.fresh h).2.2
  · obtain ⟨h1, v, h2⟩ := S.owns p hp
    exact ⟨h1, v, isCell_ext h2 R.keep (S.mT _ (mem_own σ hp))⟩
  · refine ⟨m, ns_ext hm R.keep (S.mT _ (mem_loc F σ)), fun x l lv hx => (hs x l lv hx).grow R.le fun c v₀ hc hv => isCell_ext hv R.keep (S.mT _ (mem_own σ hc))⟩
  · exact (S.cells a items hp).mono R.le fun o => R.keep a o (S.mT _ (mem_cell F hp))

theorem St.toks {g : GC} {F : FC} {P : PM} {s : Shared} {σ : LS} (S : St g F P s σ) (t : Nat) (ht : s.toks ≤ t) : St g F P { s with toks := t } σ := S.grow (S.G.toks t ht) (.of_heap rfl)
theorem St.push {g : GC} {F : FC} {P : PM} {s : Shared} {σ : LS} (S : St g F P s σ) (o : Obj) (hf : o.isFreed = false := by rfl) : St g F (P.put s.heap.objs.size o) { s with heap := s.heap.push o } σ := S.grow (S.G.push o hf) (.push S.G o)

inductive Upd : List (Str × Loc × LV) → Str → Loc → LV → List (Str × Loc × LV) → Prop where
  | head {x l v w r} : Upd ((x, l, w) :: r) x l v ((x, l, v) :: r)
  | tail {p x l v r r'} : Upd r x l v r' → Upd (p :: r) x l v (p :: r')
theorem Upd.names {e e' : List (Str × Loc × LV)} {x : Str} {l : Loc} {v : LV} (u : Upd e x l v e') : e'.map (·.1) = e.map (·.1) := by
  induction u with
  | head => rfl
  | tail _ ih => simp [ih]
theorem Upd.there {e e' : List (Str × Loc × LV)} {x : Str} {l : Loc} {v : LV} (u : Upd e x l v e') : ∃ w, (x, l, w) ∈ e := by
  induction u with
  | head => exact ⟨_, .head _⟩
  | tail _ ih => exact ⟨_, .tail _ ih.choose_spec⟩

theorem Upd.mem {e e' : List (Str × Loc × LV)} {x : Str} {l : Loc} {v : LV} (u : Upd e x l v e') : (e.map (·.1)).Nodup → ∀ {y k w}, (y, k, w) ∈ e' → (y = x ∧ k = l ∧ w = v) ∨ (y ≠ x ∧ (y, k, w) ∈ e) := by
  induction u with
  | @head x l v w r =>
    intro nd y k w' hm
    rcases List.mem_cons.mp hm with h | h
    · cases h; exact .inl ⟨rfl, rfl, rfl⟩
    · refine .inr ⟨fun q => ?_, .tail _ h⟩
      subst q
      exact (List.nodup_cons.mp nd).1 (List.mem_map.mpr ⟨_, h, rfl⟩)
  | @tail p x l v r r' u ih =>
    intro nd y k w' hm
    have nd' := List.nodup_cons.mp nd
    rcases List.mem_cons.mp hm with h | h
    · refine .inr ⟨fun q => nd'.1 ?_, by rw [h]; exact .head _⟩
      have : x ∈ r.map (·.1) := by
        obtain ⟨w, hw⟩ := u.there
        exact List.mem_map.mpr ⟨_, hw, rfl⟩
      rw [← h]; show y ∈ _; rw [q]; exact this
    · rcases ih nd'.2 h with h | h
      · exact .inl h
      · exact .inr ⟨h.1, .tail _ h.2⟩
theorem GSt.write {g : GC} {P : PM} {s : Shared} (S : GSt g P s) {a : Addr} {h' : Heap} (hs : Heap.SameBut a s.heap h') (hP : P a = none) (hT : a ≠ g.T) {t : Nat} (ht : s.toks ≤ t) : GSt g P { s with heap := h', toks := t } := by
  refine ⟨fun b o e => ?_, S.base, ?_, S.tabP, S.bare, S.os, Nat.le_trans S.tk ht⟩
  · have : b ≠ a := fun q => by subst q; rw [hP] at e; cases e
    exact (hs.2 b this).trans (S.pre b o e)
  · obtain ⟨ps, h1, h2⟩ := S.tab
    exact ⟨ps, (hs.2 _ (Ne.symm hT)).trans h1, h2⟩

theorem muts_ne {F : FC} {σ : LS} (nd : (muts F σ).Nodup) : (∀ p ∈ F.own, p.2 ≠ F.env.locals) ∧ (∀ p ∈ σ.cells, p.1 ≠ F.env.locals) ∧ (∀ p ∈ F.own, ∀ q ∈ σ.cells, p.2 ≠ q.1) := by
  unfold muts at nd
  have nd := List.nodup_cons.mp nd
  refine ⟨fun p hp e => nd.1 ?_, fun p hp e => nd.1 ?_, fun p hp q hq e => ?_⟩
  · rw [← e]; exact List.mem_append.mpr (.inl (List.mem_map_of_mem hp))
  · rw [← e]; exact List.mem_append.mpr (.inr (List.mem_map_of_mem hp))
  · exact (List.nodup_append.mp nd.2).2.2 p.2 (List.mem_map_of_mem hp) q.1 (List.mem_map_of_mem hq) e

theorem St.written {g : GC} {F : FC} {P : PM} {s : Shared} {σ : LS} (S : St g F P s σ) {a : Addr} (ha : a ∈ muts F σ) {h' : Heap} (sb : Heap.SameBut a s.heap h') :
    (∀ b o, b ≠ g.T → F.B b = some o → h'.get? b = some o) ∧ (∀ b, b ∈ muts F σ → b ≠ a → h'.get? b = s.heap.get? b) :=
  ⟨fun b o hb e => (sb.2 b (fun q => by rw [q, (S.mu a ha).1] at e; cases e)).trans (S.old b o hb e), fun b _ hb => sb.2 b hb⟩
theorem isCell_eq {h h' : Heap} {c : Addr} {v : Option Value} (x : h.IsCell c v) (e : h'.get? c = h.get? c) : h'.IsCell c v := let ⟨o, ho, hd⟩ := x; ⟨o, e.trans ho, hd⟩
theorem St.setLocal {g : GC} {F : FC} {P : PM} {s : Shared} {σ : LS} (S : St g F P s σ) {x : Str} {lv : LV} {v : Value} {env' : List (Str × Loc × LV)} (u : Upd σ.env x .local lv env') (hv : V P lv v)
    {m : Str → Option Value} (hs : ∀ x l lv, (x, l, lv) ∈ σ.env → Held g F P s m x l lv)
    {h' : Heap} (hn : h'.Ns F.env.locals (fun y => if y = x then some v else m y)) (sb : Heap.SameBut F.env.locals s.heap h') (t : Nat) (ht : s.toks ≤ t) : St g F P { s with heap := h', toks := t } ⟨env', σ.cells⟩ := by
  have hL := S.mu _ (mem_loc F σ)
  have hLT := S.mT _ (mem_loc F σ)
  obtain ⟨n1, n2, n3⟩ := muts_ne S.nd
  obtain ⟨k1, k2⟩ := S.written (mem_loc F σ) sb
  refine ⟨S.G.write sb hL.2 hLT ht, S.kind, S.glob, S.blt, k1, S.bT, S.new, S.nd, S.mu, S.ownd, fun p hp => ?_, ⟨_, hn, fun y k w hy => ?_⟩, by rw [u.names]; exact S.names, fun a items hp => ?_⟩
  · obtain ⟨h1, w, h2⟩ := S.owns p hp
    exact ⟨h1, w, isCell_eq h2 (k2 _ (mem_own σ hp) (n1 p hp))⟩
  · rcases u.mem S.names hy with ⟨rfl, rfl, rfl⟩ | ⟨hne, hy⟩
    · obtain ⟨w0, hw0⟩ := u.there
      have k := hs _ _ _ hw0
      exact ⟨k.1, k.2.1, .inr ⟨v, by simp, hv⟩⟩
    · obtain ⟨kd, q⟩ := hs _ _ _ hy
      refine ⟨kd, ?_⟩
      cases k with
      | «local» => exact ⟨q.1, q.2.imp id fun ⟨u, h1, h2⟩ => ⟨u, (if_neg hne).trans h1, h2⟩⟩
      | own => obtain ⟨q1, c, v₀, q2, q3, q4, q5⟩ := q; exact ⟨q1, c, v₀, q2, q3, isCell_eq q4 (k2 _ (mem_own σ q3) (n1 _ q3)), q5⟩
      | fixed => exact q
      | glob => exact q
  · exact (S.cells a items hp).mono (.refl P) fun o e => (k2 _ (mem_cell F hp) (n2 _ hp)).trans e

theorem own_unique {F : FC} (nd : (F.own.map (·.1)).Nodup) {x : Str} {c d : Addr} (h : (x, c) ∈ F.own) (k : (x, d) ∈ F.own) : c = d := by
  have : ∀ {l : List (Str × Addr)}, (l.map (·.1)).Nodup → (x, c) ∈ l → (x, d) ∈ l → c = d := by
    intro l
    induction l with
    | nil => intro _ h; cases h
    | cons p r ih =>
      intro nd h k
      have nd := List.nodup_cons.mp nd
      rcases List.mem_cons.mp h with h | h <;> rcases List.mem_cons.mp k with k | k
      · rw [← h] at k; cases k; rfl
      · exact absurd (List.mem_map.mpr ⟨_, k, rfl⟩) (by rw [← h] at nd; exact nd.1)
      · exact absurd (List.mem_map.mpr ⟨_, h, rfl⟩) (by rw [← k] at nd; exact nd.1)
      · exact ih nd.2 h k
  exact this nd h k
theorem own_apart {F : FC} {σ : LS} (nd : (muts F σ).Nodup) {p q : Str × Addr} (hp : p ∈ F.own) (hq : q ∈ F.own) (e : p.2 = q.2) : p = q := by
  unfold muts at nd
  have nd := (List.nodup_append.mp (List.nodup_cons.mp nd).2).1
  have : ∀ {l : List (Str × Addr)}, (l.map (·.2)).Nodup → p ∈ l → q ∈ l → p = q := by
    intro l
    induction l with
    | nil => intro _ h; cases h
    | cons r l ih =>
      intro nd h k
      have nd := List.nodup_cons.mp nd
      rcases List.mem_cons.mp h with h | h <;> rcases List.mem_cons.mp k with k | k
      · rw [h, k]
      · exact absurd (List.mem_map.mpr ⟨_, k, e.symm⟩) (by rw [← h] at nd; exact nd.1)
      · exact absurd (List.mem_map.mpr ⟨_, h, e⟩) (by rw [← k] at nd; exact nd.1)
      · exact ih nd.2 h k
  exact this nd hp hq
theorem St.setOwn {g : GC} {F : FC} {P : PM} {s : Shared} {σ : LS} (S : St g F P s σ) {x : Str} {lv : LV} {v : Value} {env' : List (Str × Loc × LV)} (u : Upd σ.env x .own lv env') (hv : V P lv v)
    {c : Addr} (hc : (x, c) ∈ F.own) {h' : Heap} (hn : h'.IsCell c (some v)) (sb : Heap.SameBut c s.heap h') (t : Nat) (ht : s.toks ≤ t) : St g F P { s with heap := h', toks := t } ⟨env', σ.cells⟩ := by
  have hL := S.mu _ (mem_own σ hc)
  have hLT := S.mT _ (mem_own σ hc)
  obtain ⟨n1, n2, n3⟩ := muts_ne S.nd
  obtain ⟨k1, k2⟩ := S.written (mem_own σ hc) sb
  obtain ⟨m, hm, hs⟩ := S.locs
  refine ⟨S.G.write sb hL.2 hLT ht, S.kind, S.glob, S.blt, k1, S.bT, S.new, S.nd, S.mu, S.ownd, fun p hp => ?_, ⟨m, hm.sameBut sb (Ne.symm (n1 _ hc)), fun y k w hy => ?_⟩, by rw [u.names]; exact S.names, fun a items hp => ?_⟩
  · obtain ⟨h1, w, h2⟩ := S.owns p hp
    by_cases e : p.2 = c
    · exact ⟨h1, some v, e ▸ hn⟩
    · exact ⟨h1, w, isCell_eq h2 (k2 _ (mem_own σ hp) e)⟩
  · rcases u.mem S.names hy with ⟨rfl, rfl, rfl⟩ | ⟨hne, hy⟩
    · obtain ⟨w0, hw0⟩ := u.there
      have k := hs _ _ _ hw0
      obtain ⟨kd, q1, c', v₀, q2, q3, q4, q5⟩ := k
      obtain rfl := own_unique S.ownd hc q3
      exact ⟨kd, q1, c, some v, q2, hc, hn, .inr ⟨v, rfl, hv⟩⟩
    · obtain ⟨kd, q⟩ := hs _ _ _ hy
      refine ⟨kd, ?_⟩
      cases k with
      | «local» => exact q
      | own =>
        obtain ⟨q1, c', v₀, q2, q3, q4, q5⟩ := q
        have : c' ≠ c := fun e => hne (congrArg Prod.fst (own_apart S.nd q3 hc e))
        exact ⟨q1, c', v₀, q2, q3, isCell_eq q4 (k2 _ (mem_own σ q3) this), q5⟩
      | fixed => exact q
      | glob => exact q
  · exact (S.cells a items hp).mono (.refl P) fun o e => (k2 _ (mem_cell F hp) (fun e => n3 _ hc _ hp e.symm)).trans e

theorem cells_ne {F : FC} {e : List (Str × Loc × LV)} {c1 c2 : List (Addr × Ct)} {a : Addr} {i : Ct} (nd : (muts F ⟨e, c1 ++ (a, i) :: c2⟩).Nodup) : (∀ p ∈ c1, p.1 ≠ a) ∧ (∀ p ∈ c2, p.1 ≠ a) := by
  unfold muts at nd
  have nd := (List.nodup_append.mp (List.nodup_cons.mp nd).2).2.1
  simp only [List.map_append, List.map_cons] at nd
  have k := List.nodup_append.mp nd
  refine ⟨fun p hp e => k.2.2 p.1 (List.mem_map_of_mem hp) a (.head _) e, fun p hp e => (List.nodup_cons.mp k.2.1).1 ?_⟩
  rw [← e]; exact List.mem_map_of_mem hp
theorem St.change {g : GC} {F : FC} {P P' : PM} {s s' : Shared} {e : List (Str × Loc × LV)} {c1 c2 : List (Addr × Ct)} {a : Addr} {i i' : Ct} (S : St g F P s ⟨e, c1 ++ (a, i) :: c2⟩) (G' : GSt g P' s') (le : LE P P')
    (new : ∀ b o, P' b = some o → P b = some o ∨ s.heap.get? b = none) (keep : ∀ b o, b ≠ g.T → b ≠ a → s.heap.get? b = some o → s'.heap.get? b = some o) (hn : CtOk P' s'.heap a i') : St g F P' s' ⟨e, c1 ++ (a, i') :: c2⟩ := by
  have ha : (a, i) ∈ (⟨e, c1 ++ (a, i) :: c2⟩ : LS).cells := List.mem_append.mpr (.inr (.head _))
  have hL := S.mu _ (mem_cell F ha)
  have hLT := S.mT _ (mem_cell F ha)
  obtain ⟨n1, n2, n3⟩ := muts_ne S.nd
  obtain ⟨d1, d2⟩ := cells_ne S.nd
  obtain ⟨m, hm, hs⟩ := S.locs
  have em : muts F ⟨e, c1 ++ (a, i') :: c2⟩ = muts F ⟨e, c1 ++ (a, i) :: c2⟩ := by simp [muts]
  have kp : ∀ b o, b ∈ muts F ⟨e, c1 ++ (a, i) :: c2⟩ → b ≠ a → s.heap.get? b = some o → s'.heap.get? b = some o := fun b o hb hne => keep b o (S.mT b hb) hne
  have cell' : ∀ {p : Str × Addr} {v : Option Value}, p ∈ F.own → s.heap.IsCell p.2 v → s'.heap.IsCell p.2 v := fun {p v} hp x => let ⟨o, ho, hd⟩ := x; ⟨o, kp _ _ (mem_own _ hp) (n3 _ hp _ ha) ho, hd⟩
  refine ⟨G', S.kind, S.glob, S.blt, fun b o hb q => keep b o hb (fun z => by rw [z, hL.1] at q; cases q) (S.old b o hb q), S.bT, fun b o q => ?_, em ▸ S.nd, fun b hb => ?_, S.ownd, fun p hp => ?_, ⟨m, ?_, fun y k w hy => ?_⟩, S.names, fun b items hp => ?_⟩
  · rcases new b o q with h | h
    · exact S.new b o h
    · exact .inr (S.fresh h).1
  · rw [em] at hb
    refine ⟨(S.mu b hb).1, ?_⟩
    cases q : P' b with
    | none => rfl
    | some o =>
      rcases new b o q with h | h
      · rw [(S.mu b hb).2] at h; cases h
      · exact absurd hb (S.fresh h).2.2
  · obtain ⟨h1, w, h2⟩ := S.owns p hp
    exact ⟨h1, w, cell' hp h2⟩
  · obtain ⟨o, es, ep, ho, r⟩ := hm
    exact ⟨o, es, ep, kp _ _ (mem_loc F _) (Ne.symm (n2 _ ha)) ho, r⟩
  · exact (hs _ _ _ hy).grow le fun c v₀ hc hv => cell' (p := (y, c)) hc hv
  · have other : (b, items) ∈ c1 ∨ (b, items) ∈ c2 → CtOk P' s'.heap b items := fun hq => by
      have hb : b ≠ a := hq.elim (fun z => d1 _ z) (fun z => d2 _ z)
      have hm : (b, items) ∈ c1 ++ (a, i) :: c2 := List.mem_append.mpr (hq.imp id (.tail _))
      exact (S.cells b items hm).mono le fun o => kp b o (mem_cell F (σ := ⟨e, c1 ++ (a, i) :: c2⟩) (p := (b, items)) hm) hb
    rcases List.mem_append.mp hp with hp | hp
    · exact other (.inl hp)
    · rcases List.mem_cons.mp hp with hp | hp
      · cases hp; exact hn
      · exact other (.inr hp)
theorem St.setCell {g : GC} {F : FC} {P : PM} {s : Shared} {e : List (Str × Loc × LV)} {c1 c2 : List (Addr × Ct)} {a : Addr} {i i' : Ct} (S : St g F P s ⟨e, c1 ++ (a, i) :: c2⟩)
    {h' : Heap} (hn : CtOk P h' a i') (sb : Heap.ExtBut a s.heap h') (t : Nat) (ht : s.toks ≤ t) : St g F P { s with heap := h', toks := t } ⟨e, c1 ++ (a, i') :: c2⟩ := by
  have ha : (a, i) ∈ (⟨e, c1 ++ (a, i) :: c2⟩ : LS).cells := List.mem_append.mpr (.inr (.head _))
  have hL := S.mu _ (mem_cell F ha)
  refine S.change ⟨fun b o q => ?_, S.G.base, ?_, S.G.tabP, S.G.bare, S.G.os, Nat.le_trans S.G.tk ht⟩ (.refl P) (fun b o q => .inl q) (fun b o _ hb q => sb b o hb q) hn
  · exact sb b o (fun z => by rw [z, hL.2] at q; cases q) (S.G.pre b o q)
  · obtain ⟨ps, h1, h2⟩ := S.G.tab
    exact ⟨ps, sb _ _ (Ne.symm (S.mT _ (mem_cell F ha))) h1, h2⟩
theorem St.dropCell {g : GC} {F : FC} {P : PM} {s : Shared} {e : List (Str × Loc × LV)} {c1 c2 : List (Addr × Ct)} {p : Addr × Ct} (S : St g F P s ⟨e, c1 ++ p :: c2⟩) : St g F P s ⟨e, c1 ++ c2⟩ := by
  have sub : ∀ b ∈ muts F ⟨e, c1 ++ c2⟩, b ∈ muts F ⟨e, c1 ++ p :: c2⟩ := fun b hb => by
    simp only [muts, List.map_append, List.map_cons, List.mem_cons, List.mem_append] at hb ⊢
    rcases hb with h | h | h | h
    · exact .inl h
    · exact .inr (.inl h)
    · exact .inr (.inr (.inl h))
    · exact .inr (.inr (.inr (.inr h)))
  have nd2 : (muts F ⟨e, c1 ++ c2⟩).Nodup := by
    have q : (muts F ⟨e, c1 ++ p :: c2⟩).Perm (p.1 :: muts F ⟨e, c1 ++ c2⟩) := by
      simp only [muts, List.map_append, List.map_cons]
      rw [← List.append_assoc, ← List.append_assoc]
      exact (List.Perm.cons _ List.perm_middle).trans (List.Perm.swap _ _ _)
    exact (List.nodup_cons.mp (q.nodup_iff.mp S.nd)).2
  refine ⟨S.G, S.kind, S.glob, S.blt, S.old, S.bT, S.new, nd2, fun a ha => S.mu a (sub a ha), S.ownd, S.owns, S.locs, S.names, fun a c hc => S.cells a c ?_⟩
  rcases List.mem_append.mp hc with h | h
  · exact List.mem_append.mpr (.inl h)
  · exact List.mem_append.mpr (.inr (.tail _ h))
theorem St.but {g : GC} {F : FC} {P : PM} {s : Shared} {σ : LS} (S : St g F P s σ) {a : Addr} (hm : a ∉ muts F σ) (hP : P a = none) (hB : F.B a = none) (hT : a ≠ g.T) {h' : Heap} (he : Heap.ExtBut a s.heap h') (t : Nat) (ht : s.toks ≤ t) : St g F P { s with heap := h', toks := t } σ := by
  obtain ⟨m, hn, hs⟩ := S.locs
  have kp : ∀ b o, b ∈ muts F σ → s.heap.get? b = some o → h'.get? b = some o := fun b o hb e => he b o (fun q => hm (q ▸ hb)) e
  have cell' : ∀ {p : Str × Addr} {v : Option Value}, p ∈ F.own → s.heap.IsCell p.2 v → h'.IsCell p.2 v := fun {p v} hp x => let ⟨o, ho, hd⟩ := x; ⟨o, kp _ _ (mem_own _ hp) ho, hd⟩
  refine ⟨⟨fun b o e => he b o (fun q => by rw [q, hP] at e; cases e) (S.G.pre b o e), S.G.base, let ⟨ps, h1, h2⟩ := S.G.tab; ⟨ps, he _ _ (Ne.symm hT) h1, h2⟩, S.G.tabP, S.G.bare, S.G.os, Nat.le_trans S.G.tk ht⟩, S.kind, S.glob, S.blt,
    fun b o hb e => he b o (fun q => by rw [q, hB] at e; cases e) (S.old b o hb e), S.bT, S.new, S.nd, S.mu, S.ownd, fun p hp => ?_, ⟨m, ?_, fun y k w hy => (hs y k w hy).grow (.refl P) fun c v₀ hc hv => cell' (p := (y, c)) hc hv⟩, S.names, fun b c hc => (S.cells b c hc).mono (.refl P) fun o => kp b o (mem_cell F (p := (b, c)) hc)⟩
  · obtain ⟨h1, w, h2⟩ := S.owns p hp
    exact ⟨h1, w, cell' hp h2⟩
  · obtain ⟨o, es, ep, ho, r⟩ := hn
    exact ⟨o, es, ep, kp _ _ (mem_loc F _) ho, r⟩
theorem St.lose {g : GC} {F : FC} {P : PM} {s : Shared} {e : List (Str × Loc × LV)} {c : List (Addr × Ct)} {a : Addr} {i : Ct} (S : St g F P s ⟨e, (a, i) :: c⟩) {h' : Heap} (he : Heap.ExtBut a s.heap h') (t : Nat) (ht : s.toks ≤ t) : St g F P { s with heap := h', toks := t } ⟨e, c⟩ := by
  have ha : (a, i) ∈ (⟨e, (a, i) :: c⟩ : LS).cells := .head _
  have nm : a ∉ muts F ⟨e, c⟩ := by
    have q : (muts F ⟨e, (a, i) :: c⟩).Perm (a :: muts F ⟨e, c⟩) := by
      simp only [muts, List.map_cons]
      exact (List.Perm.cons _ List.perm_middle).trans (List.Perm.swap _ _ _)
    exact (List.nodup_cons.mp (q.nodup_iff.mp S.nd)).1
  exact (S.dropCell (c1 := [])).but nm (S.mu _ (mem_cell F ha)).2 (S.mu _ (mem_cell F ha)).1 (S.mT _ (mem_cell F ha)) he t ht
theorem St.newCell {g : GC} {F : FC} {P : PM} {s : Shared} {σ : LS} (S : St g F P s σ) (o : Obj) {i : Ct} (hv : CtOk P (s.heap.push o) s.heap.objs.size i) :
    St g F P { s with heap := s.heap.push o } ⟨σ.env, (s.heap.objs.size, i) :: σ.cells⟩ := by
  have R : Grow g P s P { s with heap := s.heap.push o } := ⟨LE.refl P, fun _ _ e => .inl e, fun b o' _ e => Heap.get?_push_of_some _ e⟩
  have G' : GSt g P { s with heap := s.heap.push o } := ⟨fun b o' e => Heap.get?_push_of_some _ (S.G.pre b o' e), S.G.base, by obtain ⟨ps, h1, h2⟩ := S.G.tab; exact ⟨ps, Heap.get?_push_of_some _ h1, h2⟩, S.G.tabP, S.G.bare, S.G.os, S.G.tk⟩
  have S' := S.grow G' R
  obtain ⟨f1, f2, nm⟩ := S.fresh (Heap.get?_size s.heap)
  have em : muts F ⟨σ.env, (s.heap.objs.size, i) :: σ.cells⟩ = F.env.locals :: (F.own.map (·.2) ++ s.heap.objs.size :: σ.cells.map (·.1)) := by simp [muts]
  refine ⟨G', S.kind, S.glob, S.blt, S'.old, S.bT, S.new, ?_, ?_, S.ownd, S'.owns, S'.locs, S.names, ?_⟩
  · rw [em]
    have nd := S.nd
    unfold muts at nd nm
    have p : (F.env.locals :: (F.own.map (·.2) ++ s.heap.objs.size :: σ.cells.map (·.1))).Perm (s.heap.objs.size :: (F.env.locals :: (F.own.map (·.2) ++ σ.cells.map (·.1)))) := by
      refine (List.Perm.cons _ List.perm_middle).trans (List.Perm.swap _ _ _)
    exact p.nodup_iff.mpr (List.nodup_cons.mpr ⟨nm, nd⟩)
  · intro a ha
    rw [em] at ha
    have : a = s.heap.objs.size ∨ a ∈ muts F σ := by
      unfold muts
      rcases List.mem_cons.mp ha with h | h
      · exact .inr (by rw [h]; exact .head _)
      · rcases List.mem_append.mp h with h | h
        · exact .inr (.tail _ (List.mem_append.mpr (.inl h)))
        · rcases List.mem_cons.mp h with h | h
          · exact .inl h
          · exact .inr (.tail _ (List.mem_append.mpr (.inr h)))
    rcases this with rfl | h
    · exact ⟨f1, f2⟩
    · exact S.mu a h
  · intro b items hp
    rcases List.mem_cons.mp hp with hp | hp
    · cases hp; exact hv
    · exact S'.cells b items hp

inductive Frz (a : Addr) (i : List LV) : List (Str × Loc × LV) → List (Str × Loc × LV) → Prop where
  | nil : Frz a i [] []
  | thaw {x e e'} : Frz a i e e' → Frz a i ((x, .local, .raw (.ref a)) :: e) ((x, .local, .lst i) :: e')
  | keep {p e e'} : Frz a i e e' → Frz a i (p :: e) (p :: e')
theorem Frz.refl {a : Addr} {i : List LV} : ∀ e, Frz a i e e
  | [] => .nil
  | _ :: e => .keep (Frz.refl e)
theorem Frz.names {a : Addr} {i : List LV} {e e' : List (Str × Loc × LV)} (z : Frz a i e e') : e'.map (·.1) = e.map (·.1) := by
  induction z with
  | nil => rfl
  | thaw _ ih => exact congrArg (List.cons _) ih
  | keep _ ih => exact congrArg (List.cons _) ih
theorem Frz.mem {a : Addr} {i : List LV} {e e' : List (Str × Loc × LV)} (z : Frz a i e e') : ∀ x l lv, (x, l, lv) ∈ e' → (x, l, lv) ∈ e ∨ (l = .local ∧ lv = .lst i ∧ (x, .local, .raw (.ref a)) ∈ e) := by
  induction z with
  | nil => intro x l lv h; cases h
  | thaw _ ih =>
    intro x l lv h
    cases h with
    | head => exact .inr ⟨rfl, rfl, .head _⟩
    | tail _ h => exact (ih x l lv h).imp (.tail _) fun ⟨h1, h2, h3⟩ => ⟨h1, h2, .tail _ h3⟩
  | keep _ ih =>
    intro x l lv h
    cases h with
    | head => exact .inl (.head _)
    | tail _ h => exact (ih x l lv h).imp (.tail _) fun ⟨h1, h2, h3⟩ => ⟨h1, h2, .tail _ h3⟩
theorem muts_drop {F : FC} {e e' : List (Str × Loc × LV)} {c1 c2 : List (Addr × Ct)} {p : Addr × Ct} (h : (muts F ⟨e, c1 ++ p :: c2⟩).Nodup) : (muts F ⟨e', c1 ++ c2⟩).Nodup ∧ p.1 ∉ muts F ⟨e', c1 ++ c2⟩ := by
  have q : (muts F ⟨e, c1 ++ p :: c2⟩).Perm (p.1 :: muts F ⟨e', c1 ++ c2⟩) := by
    simp only [muts, List.map_append, List.map_cons]
    rw [← List.append_assoc, ← List.append_assoc]
    exact (List.Perm.cons _ List.perm_middle).trans (List.Perm.swap _ _ _)
  have := List.nodup_cons.mp (q.nodup_iff.mp h)
  exact ⟨this.2, this.1⟩
theorem muts_sub {F : FC} {e e' : List (Str × Loc × LV)} {c1 c2 : List (Addr × Ct)} {p : Addr × Ct} {b : Addr} (hb : b ∈ muts F ⟨e', c1 ++ c2⟩) : b ∈ muts F ⟨e, c1 ++ p :: c2⟩ := by
  simp only [muts, List.map_append, List.map_cons, List.mem_cons, List.mem_append] at hb ⊢
  exact hb.imp id (.imp id (.imp id .inr))
theorem GSt.put {g : GC} {P : PM} {s : Shared} (S : GSt g P s) {a : Addr} {o : Obj} (hP : P a = none) (ho : s.heap.get? a = some o) (hT : a ≠ g.T) : GSt g (P.put a o) s := by
  have le : LE P (P.put a o) := LE.put hP
  refine ⟨fun b o' e' => ?_, S.base.trans le, ?_, ?_, S.bare, S.os, S.tk⟩
  · unfold PM.put at e'
    split at e'
    · rename_i hb; subst hb; cases e'; exact ho
    · exact S.pre b o' e'
  · obtain ⟨ps, h1, h2⟩ := S.tab
    exact ⟨ps, h1, g.tmono le h2⟩
  · rw [PM.put_ne (Ne.symm hT)]; exact S.tabP
theorem St.freeze {g : GC} {F : FC} {P : PM} {s : Shared} {e e' : List (Str × Loc × LV)} {c1 c2 : List (Addr × Ct)} {a : Addr} {i : List LV} (z : Frz a i e e') (S : St g F P s ⟨e, c1 ++ (a, .lst i) :: c2⟩) :
    ∃ P', LE P P' ∧ V P' (.lst i) (.ref a) ∧ St g F P' s ⟨e', c1 ++ c2⟩ := by
  have ha : (a, .lst i) ∈ (⟨e, c1 ++ (a, .lst i) :: c2⟩ : LS).cells := List.mem_append.mpr (.inr (.head _))
  obtain ⟨vs, hpl, hvl⟩ := S.cells a (.lst i) ha
  obtain ⟨o, ho, hc, n, hd⟩ := hpl.isList
  have hL := S.mu _ (mem_cell F ha)
  have le : LE P (P.put a o) := LE.put hL.2
  have hv : V (P.put a o) (.lst i) (.ref a) := by unfold V; exact ⟨_, o, vs, n, rfl, PM.put_self, hc, hd, hvl.mono le⟩
  have nd2 := muts_drop (e' := e') S.nd
  refine ⟨P.put a o, le, hv, S.G.put hL.2 ho (S.mT _ (mem_cell F ha)), S.kind, S.glob, S.blt, S.old, S.bT, fun b o' e' => ?_, nd2.1, fun b hb => ⟨(S.mu b (muts_sub hb)).1, ?_⟩, S.ownd, S.owns, ?_, z.names ▸ S.names, fun b items hp => (S.cells b items ?_).mono le fun o => id⟩
  · unfold PM.put at e'
    split at e'
    · rename_i hb; subst hb; exact .inr hL.1
    · exact S.new b o' e'
  · rw [PM.put_ne (fun q => nd2.2 (by subst q; exact hb))]; exact (S.mu b (muts_sub hb)).2
  · obtain ⟨m, hm, hs⟩ := S.locs
    refine ⟨m, hm, fun x l lv hx => ?_⟩
    rcases z.mem x l lv hx with h | ⟨rfl, rfl, h⟩
    · exact (hs _ _ _ h).grow le fun _ _ _ => id
    · obtain ⟨kd, k1, k2⟩ := hs _ _ _ h
      refine ⟨kd, k1, .inr ?_⟩
      rcases k2 with h | ⟨v, h1, h2⟩
      · cases h
      · exact ⟨v, h1, h2 ▸ hv⟩
  · exact (List.mem_append.mp hp).elim (fun h => List.mem_append.mpr (.inl h)) fun h => List.mem_append.mpr (.inr (.tail _ h))
theorem St.keepBut {g : GC} {F : FC} {P P' : PM} {s s' : Shared} {σ : LS} (S : St g F P s σ) (G' : GSt g P' s') (le : LE P P') (new : ∀ b o, P' b = some o → P b = some o ∨ s.heap.get? b = none) (wr : List Addr)
    (hw : ∀ a ∈ wr, a ∉ muts F σ ∧ F.B a = none) (keep : ∀ b o, b ≠ g.T → b ∉ wr → s.heap.get? b = some o → s'.heap.get? b = some o) : St g F P' s' σ := by
  obtain ⟨m, hm, hs⟩ := S.locs
  have kp : ∀ b o, b ∈ muts F σ → s.heap.get? b = some o → s'.heap.get? b = some o := fun b o hb e => keep b o (S.mT b hb) (fun q => (hw b q).1 hb) e
  have cell' : ∀ {p : Str × Addr} {v : Option Value}, p ∈ F.own → s.heap.IsCell p.2 v → s'.heap.IsCell p.2 v := fun {p v} hp x => let ⟨o, ho, hd⟩ := x; ⟨o, kp _ _ (mem_own _ hp) ho, hd⟩
  refine ⟨G', S.kind, S.glob, S.blt, fun b o hb e => keep b o hb (fun q => by rw [(hw b q).2] at e; cases e) (S.old b o hb e), S.bT, fun b o e => ?_, S.nd, fun a ha => ⟨(S.mu a ha).1, ?_⟩, S.ownd, fun p hp => ?_, ?_, S.names, fun a items hp => (S.cells a items hp).mono le fun o => kp a o (mem_cell F (p := (a, items)) hp)⟩
  · rcases new b o e with h | h
    · exact S.new b o h
    · exact .inr (S.fresh h).1
  · cases e : P' a with
    | none => rfl
    | some o =>
      rcases new a o e with h | h
      · rw [(S.mu a ha).2] at h; cases h
      · exact absurd ha (S.fresh h).2.2
  · obtain ⟨h1, v, h2⟩ := S.owns p hp
    exact ⟨h1, v, cell' hp h2⟩
  · obtain ⟨o, es, ep, ho, r⟩ := hm
    refine ⟨m, ⟨o, es, ep, kp _ _ (mem_loc F σ) ho, r⟩, fun x l lv hx => (hs x l lv hx).grow le fun c v₀ hc hv => cell' (p := (x, c)) hc hv⟩
end LL
end

section
open PySem PySem.W PySem.Calls PyProof.Rows
set_option Elab.async false
set_option maxRecDepth 100000
set_option linter.unusedVariables false
namespace LL

structure EvW (g : GC) (F : FC) (n : Nat) (σ : LS) (e : Expr) (Φ : LV → LS → Prop) : Prop where
  run : ∀ (A : Around) (P : PM) (s : Shared) (Q E : Value → Shared → Prop), Room n A → St g F P s σ →
    (∀ P' s' σ' lv v, LE P P' → St g F P' s' σ' → V P' lv v → Φ lv σ' → Q v s') → wpAny (model g.prog g.w) A (eval e F.env) Q E s
structure EsW (g : GC) (F : FC) (n : Nat) (σ : LS) (es : List Expr) (Φ : List LV → LS → Prop) : Prop where
  run : ∀ (A : Around) (P : PM) (s : Shared) (pos : Pos) (Q : List Value → Shared → Prop) (E : Value → Shared → Prop), Room n A → St g F P s σ →
    (∀ P' s' σ' lvs vs, LE P P' → St g F P' s' σ' → VL P' lvs vs → Φ lvs σ' → Q vs s') → wpAny (model g.prog g.w) A (spliced (backTo pos (starEach es F.env))) Q E s
structure TeW (g : GC) (F : FC) (n : Nat) (σ : LS) (e : Expr) (Φ : Bool → LS → Prop) : Prop where
  run : ∀ (A : Around) (P : PM) (s : Shared) (Q : Bool → Shared → Prop) (E : Value → Shared → Prop), Room n A → St g F P s σ →
    (∀ P' s' σ' b, LE P P' → St g F P' s' σ' → Φ b σ' → Q b s') → wpAny (model g.prog g.w) A (isTrue e F.env (eval e F.env)) Q E s
inductive LFl where
  | next | brk | cont | ret (v : LV)
@[reducible] noncomputable def LoopQ (N B : LS → Prop) (R : LV → LS → Prop) : LFl → LS → Prop
  | .next, σ => N σ
  | .cont, σ => N σ
  | .brk, σ => B σ
  | .ret v, σ => R v σ
noncomputable def FlV (P : PM) : LFl → Flow → Prop
  | .next, f => f = .next
  | .brk, f => f = .brk
  | .cont, f => f = .cont
  | .ret v, f => ∃ u, f = .ret u ∧ V P v u
structure ExW (g : GC) (F : FC) (n : Nat) (σ : LS) (ss : List Stmt) (Φ : LFl → LS → Prop) : Prop where
  run : ∀ (A : Around) (P : PM) (s : Shared) (Q : Flow → Shared → Prop) (E : Value → Shared → Prop), Room n A → St g F P s σ →
    (∀ P' s' σ' lf f, LE P P' → St g F P' s' σ' → FlV P' lf f → Φ lf σ' → Q f s') → wpAny (model g.prog g.w) A (execs ss F.env) Q E s
structure PrW (g : GC) (n : Nat) (args : List LV) (t : List Value → Sem Value) (Φ : LV → Prop) : Prop where
  run : ∀ (A : Around) (P : PM) (s : Shared) (vs : List Value) (Q E : Value → Shared → Prop), Room n A → GSt g P s → VL P args vs →
    (∀ P' s' lv v, Grow g P s P' s' → GSt g P' s' → V P' lv v → Φ lv → Q v s') → wpAny (model g.prog g.w) A (t vs) Q E s
structure PbW (g : GC) (n : Nat) (x : LV) (Φ : Bool → Prop) : Prop where
  run : ∀ (A : Around) (P : PM) (s : Shared) (v : Value) (Q : Bool → Shared → Prop) (E : Value → Shared → Prop), Room n A → GSt g P s → V P x v →
    (∀ P' s' b, Grow g P s P' s' → GSt g P' s' → Φ b → Q b s') → wpAny (model g.prog g.w) A (truthy v) Q E s

theorem EvW.mono {g F n σ e Φ Ψ} (h : EvW g F n σ e Φ) (k : ∀ v σ', Φ v σ' → Ψ v σ') : EvW g F n σ e Ψ :=
  ⟨fun A P s Q E r S q => h |>.run A P s Q E r S fun P' s' σ' lv v h1 h2 h3 h4 => q P' s' σ' lv v h1 h2 h3 (k _ _ h4)⟩
theorem ExW.mono {g F n σ ss Φ Ψ} (h : ExW g F n σ ss Φ) (k : ∀ v σ', Φ v σ' → Ψ v σ') : ExW g F n σ ss Ψ :=
  ⟨fun A P s Q E r S q => h |>.run A P s Q E r S fun P' s' σ' lv v h1 h2 h3 h4 => q P' s' σ' lv v h1 h2 h3 (k _ _ h4)⟩
section
variable {g : GC} {F : FC} {n : Nat} {σ : LS}

theorem Room.le {n m : Nat} {A : Around} (h : Room n A) (k : m ≤ n) : Room m A := ⟨h.1, by have := h.2.1; lia, by have := h.2.2; lia⟩

theorem V.toInt {P : PM} {i : Int} {v : Value} (h : V P (.int i) v) : ∃ t, v = .int i t := by unfold V at h; exact h
theorem V.toStr {P : PM} {x : List Nat} {v : Value} (h : V P (.str x) v) : ∃ t, v = .str ⟨x.toArray⟩ t := by unfold V at h; exact h
theorem V.toBool {P : PM} {b : Bool} {v : Value} (h : V P (.bool b) v) : v = .bool b := by unfold V at h; exact h
theorem V.toNone {P : PM} {v : Value} (h : V P .none v) : v = .none := by unfold V at h; exact h
theorem V.toRaw {P : PM} {u v : Value} (h : V P (.raw u) v) : v = u := by unfold V at h; exact h
theorem V.int {P : PM} (i : Int) (t : Tok) : V P (.int i) (.int i t) := by unfold V; exact ⟨t, rfl⟩
theorem V.str {P : PM} (x : List Nat) (t : Tok) : V P (.str x) (.str ⟨x.toArray⟩ t) := by unfold V; exact ⟨t, rfl⟩
theorem V.strS {P : PM} (x : Str) (t : Tok) : V P (.str x.cps.toList) (.str x t) := by unfold V; exact ⟨t, rfl⟩
theorem V.bool {P : PM} (b : Bool) : V P (.bool b) (.bool b) := by unfold V; rfl
theorem V.none {P : PM} : V P .none .none := by unfold V; rfl
theorem V.raw {P : PM} (u : Value) : V P (.raw u) u := by unfold V; rfl
theorem V.toTup {P : PM} {l : List LV} {v : Value} (h : V P (.tup l) v) : ∃ a o vs k, v = .ref a ∧ P a = some o ∧ o.cls = .type "tuple" ∧ o.data = .seq vs k ∧ VL P l vs.toList := by unfold V at h; exact h
theorem V.toLst {P : PM} {l : List LV} {v : Value} (h : V P (.lst l) v) : ∃ a o vs k, v = .ref a ∧ P a = some o ∧ o.cls = .type "list" ∧ o.data = .seq vs k ∧ VL P l vs.toList := by unfold V at h; exact h
theorem V.isTup {P : PM} {s : Shared} (S : GSt g P s) {l : List LV} {v : Value} (h : V P (.tup l) v) : ∃ a vs, v = .ref a ∧ IsTup s.heap a vs ∧ VL P l vs.toList :=
  let ⟨a, o, vs, k, h1, h2, h3, h4, h5⟩ := h.toTup; ⟨a, vs, h1, ⟨o, S.pre _ _ h2, h3, k, h4⟩, h5⟩
theorem V.isLst {P : PM} {s : Shared} (S : GSt g P s) {l : List LV} {v : Value} (h : V P (.lst l) v) : ∃ a vs, v = .ref a ∧ s.heap.IsList a vs ∧ VL P l vs.toList :=
  let ⟨a, o, vs, k, h1, h2, h3, h4, h5⟩ := h.toLst; ⟨a, vs, h1, ⟨o, S.pre _ _ h2, h3, k, h4⟩, h5⟩

theorem loadW {A : Around} {P : PM} {s : Shared} {Q : Value → Shared → Prop} {E : Value → Shared → Prop} {x : Str} {l : Loc} {lv : LV} (S : St g F P s σ) (hm : (x, l, lv) ∈ σ.env) (hu : lv ≠ .undef)
    (q : ∀ v, V P lv v → Q v s) : (x == ("__debug__" : Str)) = false ∧ wpAny (model g.prog g.w) A (loadName F.env x) Q E s := by
  obtain ⟨m, hn, hs⟩ := S.locs
  obtain ⟨hd, k⟩ := hs _ _ _ hm
  refine ⟨hd, ?_⟩
  cases l with
  | «local» =>
    obtain ⟨k1, k2⟩ := k
    obtain ⟨v, k3, k4⟩ := k2.resolve_left hu
    exact wpAny_loadName_local S.kind k1 hn k3 (q v k4)
  | own =>
    obtain ⟨k1, c, v₀, k2, k3, k4, k5⟩ := k
    obtain ⟨v, rfl, k6⟩ := k5.resolve_left hu
    exact wpAny_loadName_cell S.kind k1 k2 k4 (q v k6)
  | fixed =>
    obtain ⟨k1, k0, c, o, v, k2, k3, k4, k5⟩ := k
    have hc : s.heap.IsCell c (some v) := ⟨o, S.old _ _ k3.2 k3.1, k4⟩
    rcases k1 with k1 | k1
    · exact wpAny_loadName_free S.kind k1 k2 hc (q v k5) k0
    · exact wpAny_loadName_cell S.kind k1 k2 hc (q v k5)
  | glob =>
    obtain ⟨k1, v, k2, k3⟩ := k
    have hg := g.hg s.heap fun b o e => S.G.pre _ _ (S.G.base _ _ e)
    have hb := g.hb s.heap fun b o e => S.G.pre _ _ (S.G.base _ _ e)
    rw [← S.glob] at hg
    rw [← S.blt] at hb
    unfold loadName
    simp only [Env.blockKind, S.kind, k1, ScopeKind.isAnnotationScope, Bool.false_and, Bool.false_eq_true, if_false]
    rcases k2 with k2 | ⟨k2, k2'⟩
    · exact loadGlobal_global hg k2 (q v k3)
    · exact loadGlobal_builtin hg k2 hb k2' (q v k3)
theorem ev_name {x : Str} {pos : Pos} {l : Loc} {lv : LV} {Φ : LV → LS → Prop} (hm : (x, l, lv) ∈ σ.env) (hu : lv ≠ .undef) (h : Φ lv σ) : EvW g F n σ (.Name x pos) Φ := by
  refine ⟨?_⟩; intro A P s Q E r S q
  obtain ⟨hd, k⟩ := loadW (A := A) (E := E) S hm hu fun v hv => q P s σ lv v (.refl P) S hv h
  exact wpAny_Name k hd

theorem ev_int {i : Int} {k : Nat} {pos : Pos} {Φ : LV → LS → Prop} (h : Φ (.int i) σ) : EvW g F n σ (.Constant (.int i) k pos) Φ :=
  ⟨fun _ P s _ _ _ S q => wpAny_Constant_int (q P _ σ _ _ (.refl P) (S.toks _ (Nat.le_succ _)) (.int i _) h)⟩
theorem ev_str {x : Str} {k : Nat} {pos : Pos} {Φ : LV → LS → Prop} (h : Φ (.str x.cps.toList) σ) : EvW g F n σ (.Constant (.str x) k pos) Φ :=
  ⟨fun _ P s _ _ _ S q => Constant_str (q P _ σ _ _ (.refl P) (S.toks _ (Nat.le_succ _)) (.strS x _) h)⟩
theorem ev_bool {b : Bool} {k : Nat} {pos : Pos} {Φ : LV → LS → Prop} (h : Φ (.bool b) σ) : EvW g F n σ (.Constant (.bool b) k pos) Φ :=
  ⟨fun _ P s _ _ _ S q => Constant_bool (q P _ σ _ _ (.refl P) S (.bool b) h)⟩
theorem ev_none {k : Nat} {pos : Pos} {Φ : LV → LS → Prop} (h : Φ .none σ) : EvW g F n σ (.Constant .none k pos) Φ :=
  ⟨fun _ P s _ _ _ S q => Constant_none (q P _ σ _ _ (.refl P) S .none h)⟩

theorem ev_binop {l r : Expr} {op : Operator} {pos : Pos} {Φ : LV → LS → Prop}
    (h : EvW g F n σ l fun a σ₁ => EvW g F n σ₁ r fun b σ₂ => PrW g n [a, b] (fun vs => binaryOp op (vs.getD 0 .none) (vs.getD 1 .none)) fun v => Φ v σ₂) : EvW g F n σ (.BinOp l op r pos) Φ := by
  refine ⟨?_⟩; intro A P s Q E r S q
  refine wpAny_BinOp (h |>.run A P s _ E r S fun P₁ s₁ σ₁ a va le₁ S₁ h₁ k₁ => k₁ |>.run A P₁ s₁ _ E r S₁ fun P₂ s₂ σ₂ b vb le₂ S₂ h₂ k₂ => ?_)
  exact k₂ |>.run A P₂ s₂ [va, vb] _ E r S₂.G (.cons (h₁.mono le₂) (.cons h₂ .nil)) fun P₃ s₃ lv v R₃ G₃ h₃ k₃ => q P₃ s₃ σ₂ lv v ((le₁.trans le₂).trans R₃.le) (S₂.grow G₃ R₃) h₃ k₃

theorem ev_compare {l r : Expr} {op : CmpOp} {pos : Pos} {Φ : LV → LS → Prop} (hm : behindInMarks op r = false)
    (h : EvW g F n σ l fun a σ₁ => EvW g F n σ₁ r fun b σ₂ => PrW g n [a, b] (fun vs => compareOp op (vs.getD 0 .none) (vs.getD 1 .none)) fun v => Φ v σ₂) : EvW g F n σ (.Compare l [op] [r] pos) Φ := by
  refine ⟨?_⟩; intro A P s Q E r S q
  refine wpAny_Compare1 (h |>.run A P s _ E r S fun P₁ s₁ σ₁ a va le₁ S₁ h₁ k₁ => k₁ |>.run A P₁ s₁ _ E r S₁ fun P₂ s₂ σ₂ b vb le₂ S₂ h₂ k₂ => ?_) hm
  exact k₂ |>.run A P₂ s₂ [va, vb] _ E r S₂.G (.cons (h₁.mono le₂) (.cons h₂ .nil)) fun P₃ s₃ lv v R₃ G₃ h₃ k₃ => q P₃ s₃ σ₂ lv v ((le₁.trans le₂).trans R₃.le) (S₂.grow G₃ R₃) h₃ k₃

theorem ev_unary {op : UnaryOp} {x : Expr} {pos : Pos} {Φ : LV → LS → Prop} (h : EvW g F n σ x fun a σ₁ => PrW g n [a] (fun vs => unaryOp op (vs.getD 0 .none)) fun v => Φ v σ₁) : EvW g F n σ (.UnaryOp op x pos) Φ := by
  refine ⟨?_⟩; intro A P s Q E r S q
  refine wpAny_UnaryOp (h |>.run A P s _ E r S fun P₁ s₁ σ₁ a va le₁ S₁ h₁ k₁ => ?_)
  exact k₁ |>.run A P₁ s₁ [va] _ E r S₁.G (.cons h₁ .nil) fun P₃ s₃ lv v R₃ G₃ h₃ k₃ => q P₃ s₃ σ₁ lv v (le₁.trans R₃.le) (S₁.grow G₃ R₃) h₃ k₃

theorem es_nil {Φ : List LV → LS → Prop} (h : Φ [] σ) : EsW g F n σ [] Φ := ⟨fun _ P s _ _ _ _ S q => spliced_nil (q P s σ [] [] (.refl P) S .nil h)⟩
noncomputable def isStarred : Expr → Bool
  | .Starred _ _ => true
  | _ => false
theorem starEach_cons {e : Expr} {rest : List Expr} {env : Env} (hs : isStarred e = false) : starEach (e :: rest) env = (false, eval e env) :: starEach rest env := by
  cases e <;> first | rfl | cases hs
theorem es_cons {e : Expr} {rest : List Expr} {Φ : List LV → LS → Prop} (hs : isStarred e = false)
    (h : EvW g F n σ e fun a σ₁ => EsW g F n σ₁ rest fun as σ₂ => Φ (a :: as) σ₂) : EsW g F n σ (e :: rest) Φ := by
  refine ⟨?_⟩; intro A P s pos Q E r S q
  rw [starEach_cons hs]
  show wpAny _ A (spliced ((false, eval e F.env) :: backTo pos (starEach rest F.env))) Q E s
  refine spliced_cons (h |>.run A P s _ E r S fun P₁ s₁ σ₁ a va le₁ S₁ h₁ k₁ => k₁ |>.run A P₁ s₁ pos _ E r S₁ fun P₂ s₂ σ₂ as vas le₂ S₂ h₂ k₂ => ?_)
  exact q P₂ s₂ σ₂ _ _ (le₁.trans le₂) S₂ (.cons (h₁.mono le₂) h₂) k₂

theorem Room.units {n : Nat} {A : Around} (h : Room n A) : A.units < cLine := by have := h.2.2; rw [cLine_is]; lia

theorem VL.size {P : PM} {x : List LV} {v : Array Value} (h : VL P x v.toList) : v.size = x.length := by rw [h.length]; simp

theorem pr_newTuple {as : List LV} {Φ : LV → Prop} (hn : as.length ≤ 1000000) (h : Φ (.tup as)) : PrW g n as newTuple Φ := by
  refine ⟨?_⟩; intro A P s vs Q E r S a q
  refine wpAny_newObj_type (q _ _ (.tup as) _ (.push S _) (S.push _) ?_ h) ?_
  · unfold V
    exact ⟨_, _, vs.toArray, 0, rfl, PM.put_self, rfl, rfl, by simpa using a.mono (LE.put S.fresh)⟩
  · show vs.toArray.size ≤ sizeLine
    rw [List.size_toArray, ← a.length, sizeLine_eq]; (exact Nat.le_trans (by assumption) (by decide))
theorem pr_newList {as : List LV} {Φ : LV → Prop} (hn : as.length ≤ 1000000) (h : Φ (.lst as)) : PrW g n as newList Φ := by
  refine ⟨?_⟩; intro A P s vs Q E r S a q
  refine wpAny_newObj_type (q _ _ (.lst as) _ (.push S _) (S.push _) ?_ h) ?_
  · unfold V
    exact ⟨_, _, vs.toArray, 0, rfl, PM.put_self, rfl, rfl, by simpa using a.mono (LE.put S.fresh)⟩
  · show vs.toArray.size ≤ sizeLine
    rw [List.size_toArray, ← a.length, sizeLine_eq]; (exact Nat.le_trans (by assumption) (by decide))
theorem ev_tuple {es : List Expr} {k : Nat} {pos : Pos} {Φ : LV → LS → Prop} (h : EsW g F n σ es fun as σ₁ => as.length ≤ 1000000 ∧ Φ (.tup as) σ₁) : EvW g F n σ (.Tuple es k pos) Φ := by
  refine ⟨?_⟩; intro A P s Q E r S q
  refine Tuple_ (h |>.run A P s _ _ E r S fun P₁ s₁ σ₁ as vas le₁ S₁ h₁ k₁ => ?_)
  exact pr_newTuple (Φ := fun v => Φ v σ₁) k₁.1 k₁.2 |>.run A P₁ s₁ vas _ E r S₁.G h₁ fun P₃ s₃ lv v R₃ G₃ h₃ k₃ => q P₃ s₃ σ₁ lv v (le₁.trans R₃.le) (S₁.grow G₃ R₃) h₃ k₃
theorem ev_list {es : List Expr} {pos : Pos} {Φ : LV → LS → Prop} (h : EsW g F n σ es fun as σ₁ => as.length ≤ 1000000 ∧ Φ (.lst as) σ₁) : EvW g F n σ (.List es pos) Φ := by
  refine ⟨?_⟩; intro A P s Q E r S q
  refine List_ (h |>.run A P s _ _ E r S fun P₁ s₁ σ₁ as vas le₁ S₁ h₁ k₁ => ?_)
  exact pr_newList (Φ := fun v => Φ v σ₁) k₁.1 k₁.2 |>.run A P₁ s₁ vas _ E r S₁.G h₁ fun P₃ s₃ lv v R₃ G₃ h₃ k₃ => q P₃ s₃ σ₁ lv v (le₁.trans R₃.le) (S₁.grow G₃ R₃) h₃ k₃

theorem te_plain {e : Expr} {Φ : Bool → LS → Prop} (hp : (match e with | .UnaryOp .Not _ _ => true | .BoolOp .. => true | .IfExp .. => true | .Compare .. => true | _ => false) = false)
    (h : EvW g F n σ e fun v σ₁ => PbW g n v fun b => Φ b σ₁) : TeW g F n σ e Φ := by
  refine ⟨?_⟩; intro A P s Q E r S q
  have e1 : ∀ t, isTrue e F.env t = (do let v ← t; standAt e.pos; holding [v] (truthy v)) := by
    intro t
    cases e with
    | UnaryOp op _ _ => cases op <;> first | rfl | cases hp
    | _ => first | rfl | cases hp
  rw [e1]
  refine wpAny_bind (h |>.run A P s _ E r S fun P₁ s₁ σ₁ a va le₁ S₁ h₁ k₁ => wpAny_bind (wpAny_standAt (wpAny_holding ?_)))
  exact k₁ |>.run A P₁ s₁ va _ E r S₁.G h₁ fun P₃ s₃ b R₃ G₃ k₃ => q P₃ s₃ σ₁ b (le₁.trans R₃.le) (S₁.grow G₃ R₃) k₃
theorem te_not {x : Expr} {pos : Pos} {Φ : Bool → LS → Prop} (h : TeW g F n σ x fun b σ₁ => Φ (!b) σ₁) : TeW g F n σ (.UnaryOp .Not x pos) Φ := by
  refine ⟨?_⟩; intro A P s Q E r S q
  exact isTrue_not (h |>.run A P s _ E r S fun P₁ s₁ σ₁ b le₁ S₁ k₁ => q P₁ s₁ σ₁ (!b) le₁ S₁ k₁)
theorem te_compare {l r : Expr} {op : CmpOp} {pos : Pos} {Φ : Bool → LS → Prop} (hm : behindInMarks op r = false)
    (h : EvW g F n σ l fun a σ₁ => EvW g F n σ₁ r fun b σ₂ => PrW g n [a, b] (fun vs => compareOp op (vs.getD 0 .none) (vs.getD 1 .none)) fun v => ∃ c, v = .bool c ∧ Φ c σ₂) : TeW g F n σ (.Compare l [op] [r] pos) Φ := by
  refine ⟨?_⟩; intro A P s Q E r S q
  refine wpAny_isTrue_Compare1 (h |>.run A P s _ E r S fun P₁ s₁ σ₁ a va le₁ S₁ h₁ k₁ => k₁ |>.run A P₁ s₁ _ E r S₁ fun P₂ s₂ σ₂ b vb le₂ S₂ h₂ k₂ => ?_) hm
  refine k₂ |>.run A P₂ s₂ [va, vb] _ E r S₂.G (.cons (h₁.mono le₂) (.cons h₂ .nil)) fun P₃ s₃ lv v R₃ G₃ h₃ ⟨c, hc, k₃⟩ => ?_
  subst hc
  rw [h₃.toBool]
  exact wpAny_truthy_bool (q P₃ s₃ σ₂ c ((le₁.trans le₂).trans R₃.le) (S₂.grow G₃ R₃) k₃)
structure AlW (g : GC) (F : FC) (n : Nat) (σ : LS) (op : BoolOp) (es : List Expr) (Φ : Bool → LS → Prop) : Prop where
  run : ∀ (A : Around) (P : PM) (s : Shared) (Q : Bool → Shared → Prop) (E : Value → Shared → Prop), Room n A → St g F P s σ →
    (∀ P' s' σ' b, LE P P' → St g F P' s' σ' → Φ b σ' → Q b s') → wpAny (model g.prog g.w) A (allTrue op es F.env) Q E s
theorem te_bool {op : BoolOp} {es : List Expr} {pos : Pos} {Φ : Bool → LS → Prop} (h : AlW g F n σ op es Φ) : TeW g F n σ (.BoolOp op es pos) Φ := ⟨fun A P s Q E r S q => h |>.run A P s Q E r S q⟩
theorem al_and_nil {Φ : Bool → LS → Prop} (h : Φ true σ) : AlW g F n σ .And [] Φ := ⟨fun A P s Q E r S q => wpAny_pure (a := true) (q P s σ true (.refl P) S h)⟩
theorem al_or_nil {Φ : Bool → LS → Prop} (h : Φ false σ) : AlW g F n σ .Or [] Φ := ⟨fun A P s Q E r S q => wpAny_pure (a := false) (q P s σ false (.refl P) S h)⟩
theorem al_and {x : Expr} {rest : List Expr} {Φ : Bool → LS → Prop} (h : TeW g F n σ x fun b σ₁ => (b = true → AlW g F n σ₁ .And rest Φ) ∧ (b = false → Φ false σ₁)) : AlW g F n σ .And (x :: rest) Φ := by
  refine ⟨?_⟩; intro A P s Q E r S q
  show wpAny _ A (do
    match BoolOp.And, ← isTrue x F.env (eval x F.env) with
    | .And, false => pure false
    | .Or, true => pure true
    | _, _ => allTrue .And rest F.env) Q E s
  refine wpAny_bind (h |>.run A P s _ E r S fun P₁ s₁ σ₁ b le₁ S₁ k₁ => ?_)
  cases b with
  | false => exact wpAny_pure (q P₁ s₁ σ₁ false le₁ S₁ (k₁.2 rfl))
  | true => exact k₁.1 rfl |>.run A P₁ s₁ Q E r S₁ fun P₂ s₂ σ₂ b le₂ S₂ k₂ => q P₂ s₂ σ₂ b (le₁.trans le₂) S₂ k₂
theorem al_or {x : Expr} {rest : List Expr} {Φ : Bool → LS → Prop} (h : TeW g F n σ x fun b σ₁ => (b = false → AlW g F n σ₁ .Or rest Φ) ∧ (b = true → Φ true σ₁)) : AlW g F n σ .Or (x :: rest) Φ := by
  refine ⟨?_⟩; intro A P s Q E r S q
  show wpAny _ A (do
    match BoolOp.Or, ← isTrue x F.env (eval x F.env) with
    | .And, false => pure false
    | .Or, true => pure true
    | _, _ => allTrue .Or rest F.env) Q E s
  refine wpAny_bind (h |>.run A P s _ E r S fun P₁ s₁ σ₁ b le₁ S₁ k₁ => ?_)
  cases b with
  | true => exact wpAny_pure (q P₁ s₁ σ₁ true le₁ S₁ (k₁.2 rfl))
  | false => exact k₁.1 rfl |>.run A P₁ s₁ Q E r S₁ fun P₂ s₂ σ₂ b le₂ S₂ k₂ => q P₂ s₂ σ₂ b (le₁.trans le₂) S₂ k₂
theorem ev_chain2 {l r₁ r₂ : Expr} {op₁ op₂ : CmpOp} {pos : Pos} {Φ : LV → LS → Prop} (hm : lastMarks [op₁, op₂] [r₁, r₂] = false)
    (h : EvW g F n σ l fun a σ₁ => EvW g F n σ₁ r₁ fun b σ₂ => PrW g n [a, b] (fun vs => compareOp op₁ (vs.getD 0 .none) (vs.getD 1 .none)) fun v => ∃ c, v = .bool c ∧ (c = false → Φ (.bool false) σ₂) ∧
      (c = true → EvW g F n σ₂ r₂ fun d σ₃ => PrW g n [b, d] (fun vs => compareOp op₂ (vs.getD 0 .none) (vs.getD 1 .none)) fun v => Φ v σ₃)) : EvW g F n σ (.Compare l [op₁, op₂] [r₁, r₂] pos) Φ := by
  refine ⟨?_⟩; intro A P s Q E r S q
  refine Compare_chain (rs := []) (h |>.run A P s _ E r S fun P₁ s₁ σ₁ a va le₁ S₁ h₁ k₁ => chain_link (k₁ |>.run A P₁ s₁ _ E r S₁ fun P₂ s₂ σ₂ b vb le₂ S₂ h₂ k₂ => ?_)) hm
  refine k₂ |>.run A P₂ s₂ [va, vb] _ E r S₂.G (.cons (h₁.mono le₂) (.cons h₂ .nil)) fun P₃ s₃ lv v R₃ G₃ h₃ ⟨c, hc, k₃, k₄⟩ => ?_
  subst hc
  rw [h₃.toBool]
  have S₃ := S₂.grow G₃ R₃
  have le₃ := (le₁.trans le₂).trans R₃.le
  refine wpAny_truthy_bool ?_
  cases c with
  | false => exact q P₃ s₃ σ₂ _ _ le₃ S₃ (.bool false) (k₃ rfl)
  | true =>
    refine chain_last (k₄ rfl |>.run A P₃ s₃ _ E r S₃ fun P₄ s₄ σ₄ d vd le₄ S₄ h₄ k₅ => ?_)
    exact k₅ |>.run A P₄ s₄ [vb, vd] _ E r S₄.G (.cons (h₂.mono (R₃.le.trans le₄)) (.cons h₄ .nil)) fun P₅ s₅ lv v R₅ G₅ h₅ k₆ => q P₅ s₅ σ₄ lv v ((le₃.trans le₄).trans R₅.le) (S₄.grow G₅ R₅) h₅ k₆
theorem ev_ifexp {t b o : Expr} {pos : Pos} {Φ : LV → LS → Prop} (h : TeW g F n σ t fun c σ₁ => (c = true → EvW g F n σ₁ b Φ) ∧ (c = false → EvW g F n σ₁ o Φ)) : EvW g F n σ (.IfExp t b o pos) Φ := by
  refine ⟨?_⟩; intro A P s Q E r S q
  refine IfExp_ (h |>.run A P s _ E r S fun P₁ s₁ σ₁ c le₁ S₁ k₁ => ?_)
  cases c with
  | true => exact k₁.1 rfl |>.run A P₁ s₁ Q E r S₁ fun P₂ s₂ σ₂ lv v le₂ => q P₂ s₂ σ₂ lv v (le₁.trans le₂)
  | false => exact k₁.2 rfl |>.run A P₁ s₁ Q E r S₁ fun P₂ s₂ σ₂ lv v le₂ => q P₂ s₂ σ₂ lv v (le₁.trans le₂)

theorem storeW {A : Around} {P : PM} {s : Shared} {Q : Unit → Shared → Prop} {E : Value → Shared → Prop} {x : Str} {l : Loc} {lv : LV} {v : Value} {env' : List (Str × Loc × LV)} (S : St g F P s σ) (u : Upd σ.env x l lv env') (hl : l = .local ∨ l = .own) (hv : V P lv v)
    (q : ∀ s', St g F P s' ⟨env', σ.cells⟩ → Q () s') : wpAny (model g.prog g.w) A (storeName F.env x v) Q E s := by
  obtain ⟨w0, hw0⟩ := u.there
  obtain ⟨m, hn, hs⟩ := S.locs
  obtain ⟨_, k⟩ := hs _ _ _ hw0
  rcases hl with rfl | rfl
  · exact wpAny_storeName_local k.1 hn (fun h' hn' sb => q _ (S.setLocal u hv hs hn' sb _ (Nat.le_succ _))) (by rw [S.kind]; rfl)
  · obtain ⟨k1, c, v₀, k2, k3, k4, _⟩ := k
    exact wpAny_storeName_cell S.kind k1 k2 k4 fun h' hn' sb => q _ (S.setOwn u hv k3 hn' sb _ (Nat.le_refl _))

theorem ex_nil {Φ : LFl → LS → Prop} (h : Φ .next σ) : ExW g F n σ [] Φ := ⟨fun A P s Q E r S q => wpAny_execs_nil (q P s σ .next .next (.refl P) S rfl h)⟩
theorem ex_step {st : Stmt} {rest : List Stmt} {Φ : LFl → LS → Prop}
    (h : ∀ (A : Around) (P : PM) (s : Shared) (Q : Flow → Shared → Prop) (E : Value → Shared → Prop), Room n A → St g F P s σ →
      (∀ P' s' σ', LE P P' → St g F P' s' σ' → ExW g F n σ' rest Φ → Q .next s') → (∀ P' s' σ' lf f, LE P P' → St g F P' s' σ' → FlV P' lf f → f ≠ .next → Φ lf σ' → Q f s') → wpAny (model g.prog g.w) A (exec st F.env) Q E s) :
    ExW g F n σ (st :: rest) Φ := by
  refine ⟨?_⟩; intro A P s Q E r S q
  refine wpAny_execs_cons (h A P s _ E r S (fun P₁ s₁ σ₁ le₁ S₁ k₁ => ?_) (fun P₁ s₁ σ₁ lf f le₁ S₁ hf hne k₁ => ?_))
  · exact k₁ |>.run A P₁ s₁ Q E r S₁ fun P₂ s₂ σ₂ lf f le₂ => q P₂ s₂ σ₂ lf f (le₁.trans le₂)
  · cases f with
    | next => exact absurd rfl hne
    | _ => exact q P₁ s₁ σ₁ lf _ le₁ S₁ hf k₁
theorem ex_assign {x : Str} {p pos : Pos} {e : Expr} {rest : List Stmt} {Φ : LFl → LS → Prop} (hs : swapsWith e (some (.Name x p)) pos.line F.env = pure false)
    (h : EvW g F n σ e fun lv σ₁ => ∃ l env', Upd σ₁.env x l lv env' ∧ (l = .local ∨ l = .own) ∧ ExW g F n ⟨env', σ₁.cells⟩ rest Φ) : ExW g F n σ (.Assign [.Name x p] e pos :: rest) Φ := by
  refine ex_step fun A P s Q E r S q1 _ => ?_
  refine wpAny_Assign_Name (h |>.run A P s _ E r S fun P₁ s₁ σ₁ lv v le₁ S₁ h₁ ⟨l, env', u, hl, k⟩ => ?_) hs
  exact storeW S₁ u hl h₁ fun s' S' => q1 P₁ s' _ le₁ S' k
theorem ex_aug {x : Str} {p pos : Pos} {op : Operator} {e : Expr} {rest : List Stmt} {Φ : LFl → LS → Prop} {l0 : Loc} {a : LV} (hm : (x, l0, a) ∈ σ.env) (hu : a ≠ .undef)
    (h : EvW g F n σ e fun b σ₁ => PrW g n [a, b] (fun vs => inplaceOp op (vs.getD 0 .none) (vs.getD 1 .none)) fun lv => ∃ l env', Upd σ₁.env x l lv env' ∧ (l = .local ∨ l = .own) ∧ ExW g F n ⟨env', σ₁.cells⟩ rest Φ) : ExW g F n σ (.AugAssign (.Name x p) op e pos :: rest) Φ := by
  refine ex_step fun A P s Q E r S q1 _ => ?_
  refine wpAny_AugAssign_Name (loadW S hm hu fun va ha => h |>.run A P s _ E r S fun P₁ s₁ σ₁ b vb le₁ S₁ h₁ k₁ => ?_).2
  refine k₁ |>.run A P₁ s₁ [va, vb] _ E r S₁.G (.cons (ha.mono le₁) (.cons h₁ .nil)) fun P₃ s₃ lv v R₃ G₃ h₃ ⟨l, env', u, hl, k⟩ => ?_
  exact storeW (S₁.grow G₃ R₃) u hl h₃ fun s' S' => q1 P₃ s' _ (le₁.trans R₃.le) S' k
noncomputable def Then (g : GC) (F : FC) (n : Nat) (rest : List Stmt) (Φ : LFl → LS → Prop) (lf : LFl) (σ : LS) : Prop := match lf with
  | .next => ExW g F n σ rest Φ
  | lf => Φ lf σ
theorem Then.use {rest : List Stmt} {Φ : LFl → LS → Prop} {A : Around} {P : PM} {s : Shared} {Q : Flow → Shared → Prop} {lf : LFl} {f : Flow} {P₀ : PM} (k : Then g F n rest Φ lf σ) (hf : FlV P lf f) (le : LE P₀ P) (S : St g F P s σ)
    (q1 : ∀ P' s' σ', LE P₀ P' → St g F P' s' σ' → ExW g F n σ' rest Φ → Q .next s') (q2 : ∀ P' s' σ' lf f, LE P₀ P' → St g F P' s' σ' → FlV P' lf f → f ≠ .next → Φ lf σ' → Q f s') : Q f s := by
  cases lf with
  | next => cases hf; exact q1 P s σ le S k
  | brk => cases hf; exact q2 P s σ .brk _ le S rfl (by intro z; cases z) k
  | cont => cases hf; exact q2 P s σ .cont _ le S rfl (by intro z; cases z) k
  | ret v => obtain ⟨u, rfl, hu⟩ := hf; exact q2 P s σ (.ret v) _ le S ⟨u, rfl, hu⟩ (by intro z; cases z) k
theorem ex_if {t : Expr} {b o : List Stmt} {pos : Pos} {rest : List Stmt} {Φ : LFl → LS → Prop}
    (h : TeW g F n σ t fun c σ₁ => (c = true → ExW g F n σ₁ b (Then g F n rest Φ)) ∧ (c = false → ExW g F n σ₁ o (Then g F n rest Φ))) : ExW g F n σ (.If t b o pos :: rest) Φ := by
  refine ex_step fun A P s Q E r S q1 q2 => ?_
  refine wpAny_If (h |>.run A P s _ E r S fun P₁ s₁ σ₁ c le₁ S₁ k => ?_)
  cases c with
  | true => exact k.1 rfl |>.run A P₁ s₁ _ E r S₁ fun P₂ s₂ σ₂ lf f le₂ S₂ hf k₂ => k₂.use (A := A) hf (le₁.trans le₂) S₂ q1 q2
  | false => exact k.2 rfl |>.run A P₁ s₁ _ E r S₁ fun P₂ s₂ σ₂ lf f le₂ S₂ hf k₂ => k₂.use (A := A) hf (le₁.trans le₂) S₂ q1 q2
theorem ex_while {t : Expr} {b : List Stmt} {pos : Pos} {rest : List Stmt} {Φ : LFl → LS → Prop} (I : Nat → LS → Prop) (k : Nat) (hI : I k σ)
    (turn : ∀ k σ, I k σ → TeW g F n σ t fun c σ₁ => (c = true → ExW g F n σ₁ b (LoopQ (fun σ₂ => ∃ j, j < k ∧ I j σ₂) (fun σ₂ => ExW g F n σ₂ rest Φ) fun v σ₂ => Φ (.ret v) σ₂)) ∧ (c = false → ExW g F n σ₁ rest Φ)) : ExW g F n σ (.While t b [] pos :: rest) Φ := by
  refine ex_step fun A P s Q E r S q1 q2 => ?_
  refine wpAny_While (codeAny_whileLoop (fun k s' => ∃ P' σ', LE P P' ∧ St g F P' s' σ' ∧ I k σ') ?_ k ⟨P, σ, .refl P, S, hI⟩)
  rintro k s' ⟨P', σ', le', S', hI'⟩
  refine turn k σ' hI' |>.run A P' s' _ _ r S' fun P₁ s₁ σ₁ c le₁ S₁ h => ?_
  cases c with
  | false => exact wpAny_execs_nil (q1 P₁ s₁ σ₁ (le'.trans le₁) S₁ (h.2 rfl))
  | true =>
    refine h.1 rfl |>.run A P₁ s₁ _ _ r S₁ fun P₂ s₂ σ₂ lf f le₂ S₂ hf h₂ => ?_
    have le := (le'.trans le₁).trans le₂
    cases lf with
    | next => cases hf; obtain ⟨j, hj, hI₂⟩ := h₂; exact ⟨j, hj, P₂, σ₂, le, S₂, hI₂⟩
    | cont => cases hf; obtain ⟨j, hj, hI₂⟩ := h₂; exact ⟨j, hj, P₂, σ₂, le, S₂, hI₂⟩
    | brk => cases hf; exact q1 P₂ s₂ σ₂ le S₂ h₂
    | ret v => obtain ⟨u, rfl, hu⟩ := hf; exact q2 P₂ s₂ σ₂ (.ret v) _ le S₂ ⟨u, rfl, hu⟩ (by intro z; cases z) h₂
theorem ex_return {e : Expr} {pos : Pos} {rest : List Stmt} {Φ : LFl → LS → Prop} (h : EvW g F n σ e fun lv σ₁ => Φ (.ret lv) σ₁) : ExW g F n σ (.Return (some e) pos :: rest) Φ := by
  refine ex_step fun A P s Q E r S _ q2 => ?_
  exact wpAny_Return_some (h |>.run A P s _ E r S fun P₁ s₁ σ₁ lv v le₁ S₁ h₁ k₁ => q2 P₁ s₁ σ₁ (.ret lv) (.ret v) le₁ S₁ ⟨v, rfl, h₁⟩ (by intro q; cases q) k₁)
theorem ex_break {pos : Pos} {rest : List Stmt} {Φ : LFl → LS → Prop} (h : Φ .brk σ) : ExW g F n σ (.Break pos :: rest) Φ := by
  refine ex_step fun A P s Q E r S _ q2 => ?_
  show wpAny _ A (do standAt pos; pure .brk) Q E s
  exact wpAny_bind (wpAny_standAt (wpAny_pure (q2 P s σ .brk .brk (.refl P) S rfl (by intro q; cases q) h)))
theorem ex_assert {t : Expr} {m : Option Expr} {pos : Pos} {rest : List Stmt} {Φ : LFl → LS → Prop} (h : TeW g F n σ t fun c σ₁ => c = true ∧ ExW g F n σ₁ rest Φ) : ExW g F n σ (.Assert t m pos :: rest) Φ := by
  refine ex_step fun A P s Q E r S q1 _ => ?_
  show wpAny _ A (do standAt pos; if ← isTrue t F.env (eval t F.env) then pure .next else assertFails t.pos (evalOpt m F.env)) Q E s
  refine wpAny_bind (wpAny_standAt (wpAny_bind (h |>.run A P s _ E r S fun P₁ s₁ σ₁ c le₁ S₁ ⟨hc, k⟩ => ?_)))
  subst hc
  exact wpAny_pure (q1 P₁ s₁ σ₁ le₁ S₁ k)
inductive CUpd : List (Addr × Ct) → Addr → Ct → Ct → List (Addr × Ct) → Prop where
  | head {a i j r} : CUpd ((a, i) :: r) a i j ((a, j) :: r)
  | tail {p a i j r r'} : CUpd r a i j r' → CUpd (p :: r) a i j (p :: r')
inductive CDel : List (Addr × Ct) → Addr → Ct → List (Addr × Ct) → Prop where
  | head {a i r} : CDel ((a, i) :: r) a i r
  | tail {p a i r r'} : CDel r a i r' → CDel (p :: r) a i (p :: r')
theorem CUpd.split {r r' : List (Addr × Ct)} {a : Addr} {i j : Ct} (u : CUpd r a i j r') : ∃ c1 c2, r = c1 ++ (a, i) :: c2 ∧ r' = c1 ++ (a, j) :: c2 := by
  induction u with
  | head => exact ⟨[], _, rfl, rfl⟩
  | @tail p a i j r r' u ih => obtain ⟨c1, c2, rfl, rfl⟩ := ih; exact ⟨p :: c1, c2, rfl, rfl⟩
theorem CDel.split {r r' : List (Addr × Ct)} {a : Addr} {i : Ct} (u : CDel r a i r') : ∃ c1 c2, r = c1 ++ (a, i) :: c2 ∧ r' = c1 ++ c2 := by
  induction u with
  | head => exact ⟨[], _, rfl, rfl⟩
  | @tail p a i r r' u ih => obtain ⟨c1, c2, rfl, rfl⟩ := ih; exact ⟨p :: c1, c2, rfl, rfl⟩
theorem freezeX {e e' : List (Str × Loc × LV)} {c c' : List (Addr × Ct)} {a : Addr} {i : List LV} {ss : List Stmt} {Φ : LFl → LS → Prop} (u : CDel c a (.lst i) c') (z : Frz a i e e') (h : ExW g F n ⟨e', c'⟩ ss Φ) : ExW g F n ⟨e, c⟩ ss Φ := by
  refine ⟨?_⟩; intro A P s Q E r S q
  obtain ⟨c1, c2, rfl, rfl⟩ := u.split
  obtain ⟨P₁, le₁, _, S₁⟩ := S.freeze z
  exact h |>.run A P₁ s Q E r S₁ fun P₂ s₂ σ₂ lf f le₂ => q P₂ s₂ σ₂ lf f (le₁.trans le₂)
theorem ex_newlist {x : Str} {p lp pos : Pos} {rest : List Stmt} {Φ : LFl → LS → Prop}
    (h : ∀ a, ∃ l env', Upd σ.env x l (.raw (.ref a)) env' ∧ (l = .local ∨ l = .own) ∧ ExW g F n ⟨env', (a, .lst []) :: σ.cells⟩ rest Φ) : ExW g F n σ (.Assign [.Name x p] (.List [] lp) pos :: rest) Φ := by
  refine ex_step fun A P s Q E r S q1 _ => ?_
  refine wpAny_Assign_Name (List_ (spliced_nil (wpAny_newObj_type ?_))) rfl
  have S' := S.newCell { cls := .type "list", data := .seq [].toArray } (i := .lst []) ⟨#[], ⟨0, Heap.get?_push_size _ rfl⟩, .nil⟩
  obtain ⟨l, env', u, hl, k⟩ := h s.heap.objs.size
  exact storeW S' u hl (.raw _) fun s' S'' => q1 P s' _ (.refl P) S'' k
end
end LL
end

section
open PySem PySem.W PySem.Calls PyProof.Rows
set_option Elab.async false
set_option maxRecDepth 100000
set_option linter.unusedVariables false
set_option linter.unusedSimpArgs false
namespace LL
section
variable {g : GC} {F : FC} {n : Nat} {σ : LS}

theorem VL.two {P : PM} {a b : LV} {vs : List Value} (h : VL P [a, b] vs) : ∃ u v, vs = [u, v] ∧ V P a u ∧ V P b v := by
  obtain ⟨u, r, rfl, h1, h2⟩ := h.cons_inv
  obtain ⟨v, r, rfl, h3, h4⟩ := h2.cons_inv
  rw [h4.nil_inv]; exact ⟨u, v, rfl, h1, h3⟩
theorem VL.one {P : PM} {a : LV} {vs : List Value} (h : VL P [a] vs) : ∃ u, vs = [u] ∧ V P a u := by
  obtain ⟨u, r, rfl, h1, h2⟩ := h.cons_inv
  rw [h2.nil_inv]; exact ⟨u, rfl, h1⟩
theorem VL.three {P : PM} {a b c : LV} {vs : List Value} (h : VL P [a, b, c] vs) : ∃ u v w, vs = [u, v, w] ∧ V P a u ∧ V P b v ∧ V P c w := by
  obtain ⟨u, r, rfl, h1, h2⟩ := h.cons_inv
  obtain ⟨v, w, rfl, h3, h4⟩ := h2.two
  exact ⟨u, v, w, rfl, h1, h3, h4⟩

noncomputable abbrev bin (op : Operator) : List Value → Sem Value := fun vs => binaryOp op (vs.getD 0 .none) (vs.getD 1 .none)
noncomputable abbrev ibin (op : Operator) : List Value → Sem Value := fun vs => inplaceOp op (vs.getD 0 .none) (vs.getD 1 .none)
noncomputable abbrev cmp (op : CmpOp) : List Value → Sem Value := fun vs => compareOp op (vs.getD 0 .none) (vs.getD 1 .none)

theorem pr_same {Φ : LV → Prop} {P : PM} {s : Shared} (S : GSt g P s) {Q : Value → Shared → Prop} {lv : LV} {v : Value} {t : Nat}
    (q : ∀ P' s' lv v, Grow g P s P' s' → GSt g P' s' → V P' lv v → Φ lv → Q v s') (hv : V P lv v) (h : Φ lv) (ht : s.toks ≤ t) : Q v { s with toks := t } :=
  q P _ lv v (.of_heap rfl) (S.toks t ht) hv h
theorem pr_here {Φ : LV → Prop} {P : PM} {s : Shared} (S : GSt g P s) {Q : Value → Shared → Prop} {lv : LV} {v : Value}
    (q : ∀ P' s' lv v, Grow g P s P' s' → GSt g P' s' → V P' lv v → Φ lv → Q v s') (hv : V P lv v) (h : Φ lv) : Q v s :=
  q P s lv v (.refl g P s) S hv h

theorem pr_add {a b : Int} {Φ : LV → Prop} (h : Φ (.int (a + b))) : PrW g n [.int a, .int b] (bin .Add) Φ := by
  refine ⟨?_⟩; intro A P s vs Q E r S x q
  obtain ⟨u, v, rfl, h1, h2⟩ := x.two; obtain ⟨t, rfl⟩ := h1.toInt; obtain ⟨t', rfl⟩ := h2.toInt
  exact wpAny_add_int (pr_same S q (.int _ _) h (Nat.le_succ _))
theorem pr_iadd {a b : Int} {Φ : LV → Prop} (h : Φ (.int (a + b))) : PrW g n [.int a, .int b] (ibin .Add) Φ := by
  refine ⟨?_⟩; intro A P s vs Q E r S x q
  obtain ⟨u, v, rfl, h1, h2⟩ := x.two; obtain ⟨t, rfl⟩ := h1.toInt; obtain ⟨t', rfl⟩ := h2.toInt
  exact PySem.P.iadd_int (pr_same S q (.int _ _) h (Nat.le_succ _))
theorem pr_isub {a b : Int} {Φ : LV → Prop} (h : Φ (.int (a - b))) : PrW g n [.int a, .int b] (ibin .Sub) Φ := by
  refine ⟨?_⟩; intro A P s vs Q E r S x q
  obtain ⟨u, v, rfl, h1, h2⟩ := x.two; obtain ⟨t, rfl⟩ := h1.toInt; obtain ⟨t', rfl⟩ := h2.toInt
  exact PySem.P.isub_int (pr_same S q (.int _ _) h (Nat.le_succ _))
theorem pr_sub {a b : Int} {Φ : LV → Prop} (h : Φ (.int (a - b))) : PrW g n [.int a, .int b] (bin .Sub) Φ := by
  refine ⟨?_⟩; intro A P s vs Q E r S x q
  obtain ⟨u, v, rfl, h1, h2⟩ := x.two; obtain ⟨t, rfl⟩ := h1.toInt; obtain ⟨t', rfl⟩ := h2.toInt
  exact sub_int' (pr_same S q (.int _ _) h (Nat.le_succ _))
theorem pr_mod {a b : Int} {Φ : LV → Prop} (hb : b ≠ 0) (h : Φ (.int (a.fmod b))) : PrW g n [.int a, .int b] (bin .Mod) Φ := by
  refine ⟨?_⟩; intro A P s vs Q E r S x q
  obtain ⟨u, v, rfl, h1, h2⟩ := x.two; obtain ⟨t, rfl⟩ := h1.toInt; obtain ⟨t', rfl⟩ := h2.toInt
  exact mod_int' hb (pr_same S q (.int _ _) h (Nat.le_succ _))
theorem pr_fdiv {a b : Int} {Φ : LV → Prop} (hb : b ≠ 0) (hs : b.natAbs < 1073741824) (h : Φ (.int (a.fdiv b))) : PrW g n [.int a, .int b] (bin .FloorDiv) Φ := by
  refine ⟨?_⟩; intro A P s vs Q E r S x q
  obtain ⟨u, v, rfl, h1, h2⟩ := x.two; obtain ⟨t, rfl⟩ := h1.toInt; obtain ⟨t', rfl⟩ := h2.toInt
  exact floordiv_int hb (pr_same S q (.int _ _) h (Nat.le_succ _)) (hp := .inl (PyProof.noPylong_small hs))
theorem pr_lt {a b : Int} {Φ : LV → Prop} (h : Φ (.bool (decide (a < b)))) : PrW g n [.int a, .int b] (cmp .Lt) Φ := by
  refine ⟨?_⟩; intro A P s vs Q E r S x q
  obtain ⟨u, v, rfl, h1, h2⟩ := x.two; obtain ⟨t, rfl⟩ := h1.toInt; obtain ⟨t', rfl⟩ := h2.toInt
  exact lt_int (pr_here S q (.bool _) h)
theorem pr_le {a b : Int} {Φ : LV → Prop} (h : Φ (.bool (decide (a ≤ b)))) : PrW g n [.int a, .int b] (cmp .LtE) Φ := by
  refine ⟨?_⟩; intro A P s vs Q E r S x q
  obtain ⟨u, v, rfl, h1, h2⟩ := x.two; obtain ⟨t, rfl⟩ := h1.toInt; obtain ⟨t', rfl⟩ := h2.toInt
  exact le_int (pr_here S q (.bool _) h)
theorem pr_gt {a b : Int} {Φ : LV → Prop} (h : Φ (.bool (decide (b < a)))) : PrW g n [.int a, .int b] (cmp .Gt) Φ := by
  refine ⟨?_⟩; intro A P s vs Q E r S x q
  obtain ⟨u, v, rfl, h1, h2⟩ := x.two; obtain ⟨t, rfl⟩ := h1.toInt; obtain ⟨t', rfl⟩ := h2.toInt
  exact gt_int (pr_here S q (.bool _) h)
theorem pr_ge {a b : Int} {Φ : LV → Prop} (h : Φ (.bool (decide (b ≤ a)))) : PrW g n [.int a, .int b] (cmp .GtE) Φ := by
  refine ⟨?_⟩; intro A P s vs Q E r S x q
  obtain ⟨u, v, rfl, h1, h2⟩ := x.two; obtain ⟨t, rfl⟩ := h1.toInt; obtain ⟨t', rfl⟩ := h2.toInt
  exact ge_int (pr_here S q (.bool _) h)
theorem pr_eq {a b : Int} {Φ : LV → Prop} (h : Φ (.bool (a == b))) : PrW g n [.int a, .int b] (cmp .Eq) Φ := by
  refine ⟨?_⟩; intro A P s vs Q E r S x q
  obtain ⟨u, v, rfl, h1, h2⟩ := x.two; obtain ⟨t, rfl⟩ := h1.toInt; obtain ⟨t', rfl⟩ := h2.toInt
  exact eq_int (pr_here S q (.bool _) h)
theorem pr_beq {a b : Bool} {Φ : LV → Prop} (h : Φ (.bool (a == b))) : PrW g n [.bool a, .bool b] (cmp .Eq) Φ := by
  refine ⟨?_⟩; intro A P s vs Q E r S x q
  obtain ⟨u, v, rfl, h1, h2⟩ := x.two; obtain rfl := h1.toBool; obtain rfl := h2.toBool
  exact eq_bool (pr_here S q (.bool _) h)
theorem pr_bne {a b : Bool} {Φ : LV → Prop} (h : Φ (.bool (a != b))) : PrW g n [.bool a, .bool b] (cmp .NotEq) Φ := by
  refine ⟨?_⟩; intro A P s vs Q E r S x q
  obtain ⟨u, v, rfl, h1, h2⟩ := x.two; obtain rfl := h1.toBool; obtain rfl := h2.toBool
  exact ne_bool (pr_here S q (.bool _) h)

theorem str_beq (a b : List Nat) : ((⟨a.toArray⟩ : Str) == ⟨b.toArray⟩) = (a == b) := by
  by_cases h : a = b
  · subst h; simp
  · have : (⟨a.toArray⟩ : Str) ≠ ⟨b.toArray⟩ := fun e => h (by injection e with e; simpa using congrArg Array.toList e)
    rw [beq_eq_false_iff_ne.mpr this, beq_eq_false_iff_ne.mpr h]
theorem pr_seq {a b : List Nat} {Φ : LV → Prop} (h : Φ (.bool (a == b))) : PrW g n [.str a, .str b] (cmp .Eq) Φ := by
  refine ⟨?_⟩; intro A P s vs Q E r S x q
  obtain ⟨u, v, rfl, h1, h2⟩ := x.two; obtain ⟨t, rfl⟩ := h1.toStr; obtain ⟨t', rfl⟩ := h2.toStr
  exact eq_str (pr_here S q (.bool _) (by rw [str_beq]; exact h))
theorem pr_sne {a b : List Nat} {Φ : LV → Prop} (h : Φ (.bool (a != b))) : PrW g n [.str a, .str b] (cmp .NotEq) Φ := by
  refine ⟨?_⟩; intro A P s vs Q E r S x q
  obtain ⟨u, v, rfl, h1, h2⟩ := x.two; obtain ⟨t, rfl⟩ := h1.toStr; obtain ⟨t', rfl⟩ := h2.toStr
  exact ne_str (pr_here S q (.bool _) (by show Φ (.bool (!_)); rw [str_beq]; exact h))
theorem pr_sle {a b : List Nat} {Φ : LV → Prop} (h : Φ (.bool (!decide (b < a)))) : PrW g n [.str a, .str b] (cmp .LtE) Φ := by
  refine ⟨?_⟩; intro A P s vs Q E r S x q
  obtain ⟨u, v, rfl, h1, h2⟩ := x.two; obtain ⟨t, rfl⟩ := h1.toStr; obtain ⟨t', rfl⟩ := h2.toStr
  exact PySem.P.le_str (pr_here S q (.bool _) h)
theorem pr_sgt {a b : List Nat} {Φ : LV → Prop} (h : Φ (.bool (decide (b < a)))) : PrW g n [.str a, .str b] (cmp .Gt) Φ := by
  refine ⟨?_⟩; intro A P s vs Q E r S x q
  obtain ⟨u, v, rfl, h1, h2⟩ := x.two; obtain ⟨t, rfl⟩ := h1.toStr; obtain ⟨t', rfl⟩ := h2.toStr
  exact PySem.P.gt_str (pr_here S q (.bool _) h)
theorem pr_sadd {a b : List Nat} {Φ : LV → Prop} (hn : a.length + b.length ≤ 1000000) (h : Φ (.str (a ++ b))) : PrW g n [.str a, .str b] (bin .Add) Φ := by
  refine ⟨?_⟩; intro A P s vs Q E r S x q
  obtain ⟨u, v, rfl, h1, h2⟩ := x.two; obtain ⟨t, rfl⟩ := h1.toStr; obtain ⟨t', rfl⟩ := h2.toStr
  refine wpAny_tk (add_str (fun t₁ tk hk => ?_) ?_)
  · refine pr_same S q ?_ h hk
    have e : ((⟨a.toArray⟩ : Str) ++ ⟨b.toArray⟩) = ⟨(a ++ b).toArray⟩ := Str.ext' (by rw [Str.cps_append]; simp)
    rw [e]; exact .str _ _
  · show a.toArray.size + b.toArray.size ≤ sizeLine
    rw [sizeLine_eq]; simp; (exact Nat.le_trans (by assumption) (by decide))

theorem str_len (a : List Nat) : (⟨a.toArray⟩ : Str).length = a.length := by simp [Str.length]
theorem cps_list (a : List Nat) : (⟨a.toArray⟩ : Str).cps.toList = a := rfl
theorem pr_sin1 {c : Nat} {b : List Nat} {Φ : LV → Prop} (h : Φ (.bool (decide (c ∈ b)))) : PrW g n [.str [c], .str b] (cmp .In) Φ := by
  refine ⟨?_⟩; intro A P s vs Q E r S x q
  obtain ⟨u, v, rfl, h1, h2⟩ := x.two; obtain ⟨t, rfl⟩ := h1.toStr; obtain ⟨t', rfl⟩ := h2.toStr
  exact in_str (pr_here S q (.bool _) (by have := StrLaws.found_one ⟨b.toArray⟩ c; simp only [cps_list] at this; rw [← this] at h; exact h))
theorem pr_snotin1 {c : Nat} {b : List Nat} {Φ : LV → Prop} (h : Φ (.bool (!decide (c ∈ b)))) : PrW g n [.str [c], .str b] (cmp .NotIn) Φ := by
  refine ⟨?_⟩; intro A P s vs Q E r S x q
  obtain ⟨u, v, rfl, h1, h2⟩ := x.two; obtain ⟨t, rfl⟩ := h1.toStr; obtain ⟨t', rfl⟩ := h2.toStr
  exact notIn_str (pr_here S q (.bool _) (by have := StrLaws.found_one ⟨b.toArray⟩ c; simp only [cps_list] at this; rw [← this] at h; exact h))
noncomputable def isIn (x y : List Nat) : Bool := !(Builtin.Str.occurrences ⟨y.toArray⟩ ⟨x.toArray⟩ 0 y.length 1).isEmpty
theorem isIn_iff (x y : List Nat) : isIn x y = true ↔ ∃ i, i + x.length ≤ y.length ∧ (y.drop i).take x.length = x := by
  unfold isIn
  have := StrLaws.found_iff ⟨y.toArray⟩ ⟨x.toArray⟩
  rw [str_len] at this
  rw [this]
  simp only [str_len, StrLaws.subAt_eq, cps_list, beq_iff_eq]
theorem pr_snotin {a b : List Nat} {Φ : LV → Prop} (h : Φ (.bool (!isIn a b))) : PrW g n [.str a, .str b] (cmp .NotIn) Φ := by
  refine ⟨?_⟩; intro A P s vs Q E r S x q
  obtain ⟨u, v, rfl, h1, h2⟩ := x.two; obtain ⟨t, rfl⟩ := h1.toStr; obtain ⟨t', rfl⟩ := h2.toStr
  exact notIn_str (pr_here S q (.bool _) (by rw [str_len]; exact h))
theorem pb_bool {b : Bool} {Φ : Bool → Prop} (h : Φ b) : PbW g n (.bool b) Φ := by
  refine ⟨?_⟩; intro A P s v Q E r S hv q
  rw [hv.toBool]; exact wpAny_truthy_bool (q P s b (.refl g P s) S h)
theorem pb_str {a : List Nat} {Φ : Bool → Prop} (hn : a.length ≤ 1000000) (h : Φ (!a.isEmpty)) : PbW g n (.str a) Φ := by
  refine ⟨?_⟩; intro A P s v Q E r S hv q
  obtain ⟨t, rfl⟩ := hv.toStr
  refine PySem.P.truthy_str (by rw [str_len]; lia) (q P _ _ (.of_heap rfl) (S.toks _ (by lia)) ?_)
  have e : (((⟨a.toArray⟩ : Str).length : Int) != 0) = !a.isEmpty := by
    rw [str_len]; cases a <;> simp; lia
  rw [e]; exact h
theorem pb_lst {l : List LV} {Φ : Bool → Prop} (hn : l.length ≤ 1000000) (h : Φ (!l.isEmpty)) : PbW g n (.lst l) Φ := by
  refine ⟨?_⟩; intro A P s v Q E r S hv q
  obtain ⟨a, vs, rfl, hl, hvl⟩ := hv.isLst S
  have hs : vs.size = l.length := hvl.size
  have e : vs.isEmpty = l.isEmpty := by unfold Array.isEmpty; rw [hs]; cases l <;> simp
  exact wpAny_truthy_list hl (by lia) (q P _ _ (.of_heap rfl) (S.toks _ (by lia)) (by rw [e]; exact h))

theorem ev_sub {value slice : Expr} {pos : Pos} {Φ : LV → LS → Prop}
    (h : EvW g F n σ value fun o σ₁ => EvW g F n σ₁ slice fun i σ₂ => PrW g n [o, i] (fun vs => subscriptTail value slice (vs.getD 0 .none) (vs.getD 1 .none)) fun v => Φ v σ₂) : EvW g F n σ (.Subscript value slice pos) Φ := by
  refine ⟨?_⟩; intro A P s Q E r S q
  refine Subscript_ (h |>.run A P s _ E r S fun P₁ s₁ σ₁ a va le₁ S₁ h₁ k₁ => k₁ |>.run A P₁ s₁ _ E r S₁ fun P₂ s₂ σ₂ b vb le₂ S₂ h₂ k₂ => ?_)
  exact k₂ |>.run A P₂ s₂ [va, vb] _ E r S₂.G (.cons (h₁.mono le₂) (.cons h₂ .nil)) fun P₃ s₃ lv v R₃ G₃ h₃ k₃ => q P₃ s₃ σ₂ lv v ((le₁.trans le₂).trans R₃.le) (S₂.grow G₃ R₃) h₃ k₃
theorem subscripted_any (slice : Expr) (o i : Value) : ∃ ops, subscripted slice false o i = operate ops (getItem o i) := by
  cases slice <;> first | exact ⟨_, rfl⟩ | skip
  rename_i st _
  cases st <;> exact ⟨_, rfl⟩
theorem seqIndex_nat {len k : Nat} (h : k < len) : seqIndex? (k : Int) len = some k := by
  have h1 : ¬ ((k : Int) < 0) := by lia
  have h2 : (decide (0 ≤ (k : Int)) && decide ((k : Int) < len)) = true := by simp; assumption
  simp only [seqIndex?, if_neg h1, h2, if_true, Option.some.injEq]
  lia
theorem seqIndex_last {len : Nat} (h : 0 < len) : seqIndex? (-1) len = some (len - 1) := by
  have h1 : ((-1 : Int) < 0) := by lia
  have h2 : (decide (0 ≤ (-1 : Int) + len) && decide ((-1 : Int) + len < len)) = true := by simp; lia
  simp only [seqIndex?, if_pos h1, h2, if_true, Option.some.injEq]
  lia
noncomputable abbrev sub (value slice : Expr) : List Value → Sem Value := fun vs => subscriptTail value slice (vs.getD 0 .none) (vs.getD 1 .none)
theorem si_str {value slice : Expr} {x : List Nat} {i : Int} {c : Nat} {k : Nat} {Φ : LV → Prop} (hk : seqIndex? i x.length = some k) (hc : x[k]? = some c) (hi : -1000000 ≤ i ∧ i ≤ 1000000) (h : Φ (.str [c])) : PrW g n [.str x, .int i] (sub value slice) Φ := by
  refine ⟨?_⟩; intro A P s vs Q E r S y q
  obtain ⟨u, v, rfl, h1, h2⟩ := y.two; obtain ⟨t, rfl⟩ := h1.toStr; obtain ⟨t', rfl⟩ := h2.toInt
  obtain ⟨ops, he⟩ := subscripted_any slice (.str ⟨x.toArray⟩ t) (.int i t')
  refine tail_any (typeIs_str _ _ _) F.slot_str_getitem.lookup (PySem.P.getItem_str (c := c) ?_ ?_ (pr_same S q (.str _ _) h (Nat.le_succ _))) he
  · simp; lia
  · rw [str_len, hk]; simpa using hc
theorem si_lst {value slice : Expr} {l : List LV} {i : Nat} {lv : LV} {Φ : LV → Prop} (hc : l[i]? = some lv) (hi : i ≤ 1000000) (h : Φ lv) : PrW g n [.lst l, .int i] (sub value slice) Φ := by
  refine ⟨?_⟩; intro A P s vs Q E r S y q
  obtain ⟨u, v, rfl, h1, h2⟩ := y.two; obtain ⟨t', rfl⟩ := h2.toInt
  obtain ⟨a, vs, rfl, hl, hvl⟩ := h1.isLst S
  obtain ⟨ops, he⟩ := subscripted_any slice (.ref a) (.int i t')
  obtain ⟨u, hu, hv⟩ := hvl.get hc
  exact tail_any hl.typeIs slot_list_getitem.lookup (wpAny_getItem_list hl (by lia) (by lia) (by simpa using hu) (pr_here S q hv h)) he
inductive SubGo (Φ : LV → LS → Prop) (o i : LV) (σ₂ : LS) : Prop
  | mk (a : Addr) (l : List LV) (k : Int) (lv : LV) (j : Nat) (ho : o = .raw (.ref a)) (hm : (a, .lst l) ∈ σ₂.cells) (hi : i = .int k) (hj : seqIndex? k l.length = some j) (hl : l[j]? = some lv) (hk : -1000000 ≤ k ∧ k ≤ 1000000) (hΦ : Φ lv σ₂)
theorem ev_sub_cell {value slice : Expr} {pos : Pos} {Φ : LV → LS → Prop}
    (h : EvW g F n σ value fun o σ₁ => EvW g F n σ₁ slice (SubGo Φ o)) : EvW g F n σ (.Subscript value slice pos) Φ := by
  refine ⟨?_⟩; intro A P s Q E r S q
  refine Subscript_ (h |>.run A P s _ E r S fun P₁ s₁ σ₁ o va le₁ S₁ h₁ k₁ => k₁ |>.run A P₁ s₁ _ E r S₁ fun P₂ s₂ σ₂ b vb le₂ S₂ h₂ ⟨a, l, k, lv, j, ho, hm, hb, hj, hl, hk, hΦ⟩ => ?_)
  subst ho hb
  obtain ⟨t', rfl⟩ := h₂.toInt
  rw [h₁.toRaw]
  obtain ⟨vs, hL', hvl⟩ := S₂.cells _ _ hm
  have hL := hL'.isList
  obtain ⟨ops, he⟩ := subscripted_any slice (.ref a) (.int k t')
  obtain ⟨u, hu, hv⟩ := hvl.get hl
  have fin := q P₂ s₂ σ₂ lv u (le₁.trans le₂) S₂ hv hΦ
  refine tail_any hL.typeIs slot_list_getitem.lookup ?_ he
  rw [← hvl.size] at hj
  by_cases h0 : 0 ≤ k
  · have : j = k.toNat := by
      simp only [seqIndex?, if_neg (Int.not_lt.mpr h0)] at hj
      split at hj
      · exact (Option.some.inj hj).symm
      · cases hj
    subst this
    exact wpAny_getItem_list hL h0 (by lia) (by simpa using hu) fin
  · have hn : k < 0 := by lia
    simp only [seqIndex?, if_pos hn] at hj
    split at hj
    · rename_i hb
      simp only [Bool.and_eq_true, decide_eq_true_eq] at hb
      refine wpAny_getItem_list_neg hL hn (by lia) (by lia) ?_ fin
      rw [Option.some.inj hj]; simpa using hu
    · cases hj

noncomputable def LV.part : LV → Option (Option Int)
  | .none => some Option.none
  | .int i => some (some i)
  | _ => Option.none
noncomputable def OpW (g : GC) (F : FC) (n : Nat) (σ : LS) (e : Option Expr) (Φ : LV → LS → Prop) : Prop := match e with
  | none => Φ .none σ
  | some e => EvW g F n σ e Φ
theorem OpW.use {e : Option Expr} {Φ : LV → LS → Prop} (h : OpW g F n σ e Φ) : ∀ (A : Around) (P : PM) (s : Shared) (Q E : Value → Shared → Prop), Room n A → St g F P s σ →
    (∀ P' s' σ' lv v, LE P P' → St g F P' s' σ' → V P' lv v → Φ lv σ' → Q v s') → wpAny (model g.prog g.w) A (evalPart e F.env) Q E s := by
  intro A P s Q E r S q
  cases e with
  | none => rw [evalPart_none]; exact wpAny_pure (q P s σ _ _ (.refl P) S .none h)
  | some e => rw [evalPart_some]; exact h |>.run A P s Q E r S q
theorem ev_slice {lo hi : Option Expr} {p : Pos} {Φ : LV → LS → Prop} (h : OpW g F n σ lo fun l σ₁ => OpW g F n σ₁ hi fun u σ₂ => Φ (.slc l u) σ₂) : EvW g F n σ (.Slice lo hi none p) Φ := by
  refine ⟨?_⟩; intro A P s Q E r S q
  refine wpAny_Slice (h.use A P s _ E r S fun P₁ s₁ σ₁ l vl le₁ S₁ h₁ k₁ => k₁.use A P₁ s₁ _ E r S₁ fun P₂ s₂ σ₂ u vu le₂ S₂ h₂ k₂ => ?_)
  rw [evalPart_none]
  refine wpAny_pure ?_
  let o : Obj := { cls := .type "slice", data := .fields #[vl, vu, .none] }
  refine q _ _ σ₂ _ _ ((le₁.trans le₂).trans (LE.put S₂.G.fresh)) (S₂.push o) ?_ k₂
  unfold V
  exact ⟨_, o, vl, vu, rfl, PM.put_self, rfl, rfl, h₁.mono (le₂.trans (LE.put S₂.G.fresh)), h₂.mono (LE.put S₂.G.fresh)⟩
noncomputable def cut {α : Type} (x : List α) (lo hi : Option Int) : List α := (x.drop (lo.elim 0 (clipAt x.length))).take (hi.elim x.length (clipAt x.length) - lo.elim 0 (clipAt x.length))
theorem V.toSlc {P : PM} {l u : LV} {v : Value} (h : V P (.slc l u) v) : ∃ a o vl vu, v = .ref a ∧ P a = some o ∧ o.cls = .type "slice" ∧ o.data = .fields #[vl, vu, .none] ∧ V P l vl ∧ V P u vu := by unfold V at h; exact h
theorem part_val {P : PM} {l : LV} {lo : Option Int} {v : Value} (h : V P l v) (e : l.part = some lo) : IsPart v lo ∧ ∃ p : Option (Int × Tok), partValue p = v ∧ p.map (·.1) = lo := by
  cases l with
  | none => cases e; rw [h.toNone]; exact ⟨.none, none, rfl, rfl⟩
  | int i => cases e; obtain ⟨t, rfl⟩ := h.toInt; exact ⟨.int i t, some (i, t), rfl, rfl⟩
  | _ => cases e
theorem strSlice_plain (lo hi : Option Int) (m : Nat) : Builtin.Str.strSliceIndices lo hi 1 m = (List.range (hi.elim m (clipAt m) - lo.elim 0 (clipAt m))).map (lo.elim 0 (clipAt m) + ·) := by
  have e : Builtin.Str.strSliceIndices lo hi 1 m = sliceRange ((lo.elim 0 (clipAt m) : Nat) : Int) ((hi.elim m (clipAt m) : Nat) : Int) 1 := by
    cases lo <;> cases hi <;> simp [Builtin.Str.strSliceIndices, clipAt_cast]
  rw [e, sliceRange_one]
theorem si_str_cut {value slice : Expr} {x : List Nat} {l u : LV} {lo hi : Option Int} {Φ : LV → Prop} (hn : x.length ≤ 1000000) (hl : l.part = some lo) (hu : u.part = some hi) (h : Φ (.str (cut x lo hi))) : PrW g n [.str x, .slc l u] (sub value slice) Φ := by
  refine ⟨?_⟩; intro A P s vs Q E r S y q
  obtain ⟨vx, vsl, rfl, h1, h2⟩ := y.two; obtain ⟨t, rfl⟩ := h1.toStr
  obtain ⟨a, o, vl, vu, rfl, hP, hc, hd, h3, h4⟩ := h2.toSlc
  obtain ⟨_, pl, el, ml⟩ := part_val h3 hl
  obtain ⟨_, pu, eu, mu⟩ := part_val h4 hu
  obtain ⟨ops, he⟩ := subscripted_any slice (.str ⟨x.toArray⟩ t) (.ref a)
  have hs : s.heap.IsSlice a pl pu none := ⟨o, S.pre _ _ hP, hc, by rw [el, eu]; exact hd⟩
  refine tail_any (typeIs_str _ _ _) F.slot_str_getitem.lookup (wpAny_getItem_str_slice hs rfl ?_) he
  have pick : (slicePicked ⟨x.toArray⟩ pl pu none).filterMap ((⟨x.toArray⟩ : Str).cps[·]?) = cut x lo hi := by
    unfold slicePicked cut
    rw [ml, mu, str_len]
    show List.filterMap _ (Builtin.Str.strSliceIndices lo hi 1 x.length) = _
    rw [strSlice_plain]
    exact pick_run x.toArray _ _
  have len : (slicePicked ⟨x.toArray⟩ pl pu none).length = hi.elim x.length (clipAt x.length) - lo.elim 0 (clipAt x.length) := by
    unfold slicePicked
    rw [ml, mu, str_len]
    show (Builtin.Str.strSliceIndices lo hi 1 x.length).length = _
    rw [strSlice_plain]; simp
  unfold sliceMade
  split
  · rename_i hc'
    have hw : cut x lo hi = x := by
      simp only [Option.map_none, Option.getD_none, beq_self_eq_true, Bool.true_and, beq_iff_eq, len, str_len] at hc'
      have c1 : ∀ i, clipAt x.length i ≤ x.length := fun i => by have := clipAt_cast x.length i; lia
      have hz : hi.elim x.length (clipAt x.length) ≤ x.length := by cases hi with | none => exact Nat.le_refl _ | some i => exact c1 i
      unfold cut
      rw [hc']
      have : lo.elim 0 (clipAt x.length) = 0 ∨ x.length = 0 := by lia
      rcases this with z | z
      · rw [z]; simp
      · have : x = [] := List.length_eq_zero_iff.mp z
        subst this; simp
    exact pr_here S q (.str x t) (by rw [hw] at h; exact h)
  · refine ⟨?_, ?_⟩
    · show ((slicePicked ⟨x.toArray⟩ pl pu none).filterMap _).toArray.size ≤ sizeLine
      rw [pick, List.size_toArray, sizeLine_eq]
      unfold cut
      simp only [List.length_take, List.length_drop]
      lia
    · rw [pick]; exact pr_same S q (.str _ _) h (Nat.le_succ _)
theorem si_lst_cut {value slice : Expr} {x : List LV} {l u : LV} {lo hi : Option Int} {Φ : LV → Prop} (hn : x.length ≤ 1000000) (hl : l.part = some lo) (hu : u.part = some hi) (h : Φ (.lst (cut x lo hi))) : PrW g n [.lst x, .slc l u] (sub value slice) Φ := by
  refine ⟨?_⟩; intro A P s vs Q E r S y q
  obtain ⟨vx, vsl, rfl, h1, h2⟩ := y.two
  obtain ⟨b, items, rfl, hL, hvl⟩ := h1.isLst S
  obtain ⟨a, o, vl, vu, rfl, hP, hc, hd, h3, h4⟩ := h2.toSlc
  obtain ⟨ipl, _⟩ := part_val h3 hl
  obtain ⟨ipu, _⟩ := part_val h4 hu
  obtain ⟨ops, he⟩ := subscripted_any slice (.ref b) (.ref a)
  have hs : s.heap.IsSliceOf a vl vu .none := ⟨o, S.pre _ _ hP, hc, hd⟩
  refine tail_any hL.typeIs slot_list_getitem.lookup (wpAny_getItem_list_slice hL hs ipl ipu .none (by simp) (q _ _ (.lst _) _ (.push S _) (S.push _) ?_ h) (by rw [hvl.size, sizeLine_eq]; (exact Nat.le_trans (by assumption) (by decide)))) he
  unfold V
  refine ⟨_, _, _, 0, rfl, PM.put_self, rfl, rfl, ?_⟩
  rw [slicePick_plain, hvl.size]
  unfold cut
  simpa using ((hvl.drop _).take _).mono (LE.put S.fresh)
end
end LL
end

section
open PySem PySem.W PySem.Calls PyProof.Rows
set_option Elab.async false
set_option maxRecDepth 100000
set_option linter.unusedVariables false
set_option linter.unusedSimpArgs false
namespace LL
section
variable {g : GC} {F : FC} {n : Nat} {σ : LS}

inductive Callable (g : GC) : Value → Prop where
  | bi (id : String) : Callable g (.builtin id)
  | ty (T : String) : Callable g (.type T)
  | fn {a : Addr} {o : Obj} {fd : FuncData} : g.G a = some o → o.data = .func fd → Callable g (.ref a)

noncomputable def unstarred (l : List Expr) : Bool := l.all fun e => !isStarred e
theorem unstarred_any {pos : Pos} {env : Env} : ∀ {es : List Expr}, unstarred es = true → (backTo pos (starEach es env)).any (·.1) = false
  | [], _ => rfl
  | e :: r, h => by
    have h' := h
    simp only [unstarred, List.all_cons, Bool.and_eq_true, Bool.not_eq_true'] at h'
    have hs := h'.1
    have hr : unstarred r = true := h'.2
    rw [starEach_cons hs]
    show (false || (backTo pos (starEach r env)).any (·.1)) = false
    rw [unstarred_any hr]; rfl
theorem evalArgs_of {M : Model} {A : Around} {E : Value → Shared → Prop} {s : Shared} {f : Value} {pos : Pos} {env : Env} {es : List Expr} {Q : Args → Shared → Prop} (hu : unstarred es = true)
    (h : wpAny M A (spliced (backTo pos (starEach es env))) (fun vs s' => Q ⟨vs, []⟩ s') E s) : wpAny M A (evalArgs f true (backTo pos (starEach es env)) []) Q E s := by
  cases es with
  | nil =>
    unfold evalArgs
    show wpAny M A (spliced [] >>= _) Q E s
    refine wpAny_bind (wpAny_mono h (fun vs s' h' => wpAny_bind (wpAny_pure (wpAny_holding (wpAny_bind (wpAny_pure (wpAny_bind (wpAny_pure (wpAny_pure h')))))))) fun _ _ x => x)
  | cons e r =>
    have h' := hu
    simp only [unstarred, List.all_cons, Bool.and_eq_true, Bool.not_eq_true'] at h'
    rw [starEach_cons h'.1] at h ⊢
    exact evalArgs_plain h
structure CaW (g : GC) (F : FC) (n : Nat) (σ : LS) (args : List LV) (t : List Value → Sem Value) (Φ : LV → LS → Prop) : Prop where
  run : ∀ (A : Around) (P : PM) (s : Shared) (vs : List Value) (Q E : Value → Shared → Prop), Room n A → St g F P s σ → VL P args vs →
    (∀ P' s' σ' lv v, LE P P' → St g F P' s' σ' → V P' lv v → Φ lv σ' → Q v s') → wpAny (model g.prog g.w) A (t vs) Q E s
theorem PrW.ca {args : List LV} {t : List Value → Sem Value} {Φ : LV → LS → Prop} (h : PrW g n args t fun v => Φ v σ) : CaW g F n σ args t Φ :=
  ⟨fun A P s vs Q E r S hv q => h |>.run A P s vs Q E r S.G hv fun P₃ s₃ lv v R₃ G₃ h₃ k₃ => q P₃ s₃ σ lv v R₃.le (S.grow G₃ R₃) h₃ k₃⟩
theorem callWith_of {A : Around} {P : PM} {s : Shared} {Q E : Value → Shared → Prop} {f : Value} {first : List Value} {lfirst : List LV} {pos : Pos} {es : List Expr} {Φ : LV → LS → Prop} (hu : unstarred es = true) (S : St g F P s σ) (r : Room n A) (hf : Callable g f) (hv : VL P lfirst first)
    (h : EsW g F n σ es fun as σ₂ => CaW g F n σ₂ (lfirst ++ as) (fun vs => call f vs) Φ)
    (q : ∀ P' s' σ' lv v, LE P P' → St g F P' s' σ' → V P' lv v → Φ lv σ' → Q v s') : wpAny (model g.prog g.w) A (callWith pos f first (backTo pos (starEach es F.env)) []) Q E s := by
  have hany := unstarred_any (pos := pos) (env := F.env) hu
  have main : ∀ (Q' : Args → Shared → Prop), (∀ P₁ s₁ σ₁ as vas, LE P P₁ → St g F P₁ s₁ σ₁ → VL P₁ as vas → CaW g F n σ₁ (lfirst ++ as) (fun vs => call f vs) Φ → Q' ⟨vas, []⟩ s₁) → wpAny (model g.prog g.w) A (evalArgs f true (backTo pos (starEach es F.env)) []) Q' E s :=
    fun Q' k => evalArgs_of hu (h |>.run A P s pos _ E r S fun P₁ s₁ σ₁ as vas le₁ S₁ h₁ k₁ => k P₁ s₁ σ₁ as vas le₁ S₁ h₁ k₁)
  have fin : ∀ P₁ s₁ σ₁ as vas, LE P P₁ → St g F P₁ s₁ σ₁ → VL P₁ as vas → CaW g F n σ₁ (lfirst ++ as) (fun vs => call f vs) Φ → wpAny (model g.prog g.w) A (call f (first ++ vas) []) Q E s₁ :=
    fun P₁ s₁ σ₁ as vas le₁ S₁ h₁ k₁ => k₁ |>.run A P₁ s₁ (first ++ vas) _ E r S₁ ((hv.mono le₁).append h₁) fun P₃ s₃ σ₃ lv v le₃ => q P₃ s₃ σ₃ lv v (le₁.trans le₃)
  cases hf with
  | bi id => exact callWith_builtin hany (main _ fin)
  | ty T => exact PyProof.Rows.callWith_type hany (main _ fin)
  | @fn a o fd ho hd => exact callWith_function (main _ fun P₁ s₁ σ₁ as vas le₁ S₁ h₁ k₁ => ⟨⟨S₁.G.pre _ _ (S₁.G.base _ _ ho), hd⟩, fin P₁ s₁ σ₁ as vas le₁ S₁ h₁ k₁⟩)

theorem ev_call {fe : Expr} {args : List Expr} {pos : Pos} {Φ : LV → LS → Prop} (hu : unstarred args = true) (hfe : (match fe with | .Attribute .. => true | _ => false) = false)
    (h : EvW g F n σ fe fun fv σ₁ => ∃ f, fv = .raw f ∧ Callable g f ∧ EsW g F n σ₁ args fun as σ₂ => CaW g F n σ₂ as (fun vs => call f vs) Φ) : EvW g F n σ (.Call fe args [] pos) Φ := by
  refine ⟨?_⟩; intro A P s Q E r S q
  have e : eval (.Call fe args [] pos) F.env = (do callWith pos (← eval fe F.env) [] (backTo pos (starEach args F.env)) (backToKw pos (keywordEach [] F.env))) := by
    cases fe <;> first | rfl | cases hfe
  rw [e]
  refine wpAny_bind (h |>.run A P s _ E r S fun P₁ s₁ σ₁ fv va le₁ S₁ h₁ ⟨f, hf, hc, k⟩ => ?_)
  subst hf
  rw [h₁.toRaw]
  exact callWith_of hu S₁ r hc .nil k fun P₂ s₂ σ₂ lv v le₂ => q P₂ s₂ σ₂ lv v (le₁.trans le₂)

noncomputable def TyW (g : GC) (F : FC) (σ : LS) (lv : LV) (T : String) : Prop := ∀ P s v, St g F P s σ → V P lv v → s.TypeIs v T ∧ ∀ a, v = .ref a → ∃ ob, s.heap.get? a = some ob ∧ ob.dict = none
theorem ty_str {x : List Nat} : TyW g F σ (.str x) "str" := fun P s v S h => by obtain ⟨t, rfl⟩ := h.toStr; exact ⟨typeIs_str _ _ _, fun a e => nomatch e⟩
theorem ty_cell {a : Addr} {l : List LV} (hm : (a, .lst l) ∈ σ.cells) : TyW g F σ (.raw (.ref a)) "list" := fun P s v S h => by
  obtain ⟨vs, ⟨n, ho⟩, _⟩ := S.cells _ _ hm
  rw [h.toRaw]
  exact ⟨⟨_, ho, rfl⟩, fun b e => by cases e; exact ⟨_, ho, rfl⟩⟩
theorem ev_meth {o : Expr} {name : Str} {apos pos : Pos} {args : List Expr} {T id : String} {Φ : LV → LS → Prop} (hu : unstarred args = true)
    (hbase : attributeBase o name F.env (eval o F.env) = eval o F.env) (hn : args.length < 29) (hline : (apos.endLine == pos.line) = true)
    (pa : PlainAttrs T) (slot : Slot T name id) (hty : typeOf (.builtin id) = pure (.type "method_descriptor"))
    (h : EvW g F n σ o fun ov σ₁ => TyW g F σ₁ ov T ∧ EsW g F n σ₁ args fun as σ₂ => CaW g F n σ₂ (ov :: as) (fun vs => call (.builtin id) vs) Φ) : EvW g F n σ (.Call (.Attribute o name apos) args [] pos) Φ := by
  refine ⟨?_⟩; intro A P s Q E r S q
  refine wpAny_Call_method_lateS hbase ?_ hline (h |>.run A P s _ E r S fun P₁ s₁ σ₁ ov va le₁ S₁ h₁ ⟨hT, k⟩ => ?_)
  · have := unstarred_any (pos := pos) (env := F.env) hu
    have h2 : (backTo pos (starEach args F.env)).all (fun x => !x.1) = true := by
      rw [List.all_eq_not_any_not]; simpa using this
    rw [h2]
    have e : backToKw pos (keywordEach [] F.env) = [] := rfl
    rw [e]
    simp; (exact Nat.le_trans (by assumption) (by decide))
  · obtain ⟨t1, t2⟩ := hT P₁ s₁ va S₁ h₁
    exact ⟨T, id, pa, slot, hty, t1, t2, callWith_of hu S₁ r (.bi id) (.cons h₁ .nil) k fun P₂ s₂ σ₂ lv v le₂ => q P₂ s₂ σ₂ lv v (le₁.trans le₂)⟩

noncomputable abbrev cal (id : String) : List Value → Sem Value := fun vs => call (.builtin id) vs
theorem pr_len_str {x : List Nat} {Φ : LV → Prop} (hn : x.length ≤ 1000000) (h : Φ (.int x.length)) : PrW g n [.str x] (cal "len") Φ := by
  refine ⟨?_⟩; intro A P s vs Q E r S y q
  obtain ⟨u, rfl, h1⟩ := y.one; obtain ⟨t, rfl⟩ := h1.toStr
  refine PySem.P.len_str (by rw [str_len]; lia) (pr_same S q ?_ h (by lia))
  rw [str_len]; exact .int _ _
theorem pr_len_lst {x : List LV} {Φ : LV → Prop} (hn : x.length ≤ 1000000) (h : Φ (.int x.length)) : PrW g n [.lst x] (cal "len") Φ := by
  refine ⟨?_⟩; intro A P s vs Q E r S y q
  obtain ⟨u, rfl, h1⟩ := y.one
  obtain ⟨a, vs, rfl, hl, hvl⟩ := h1.isLst S
  refine call_len_list hl (by rw [hvl.size]; lia) (pr_same S q ?_ h (by lia))
  rw [hvl.size]; exact .int _ _
theorem pr_starts {x y : List Nat} {Φ : LV → Prop} (h : Φ (.bool (y.isPrefixOf x))) : PrW g n [.str x, .str y] (cal "str.startswith") Φ := by
  refine ⟨?_⟩; intro A P s vs Q E r S z q
  obtain ⟨u, v, rfl, h1, h2⟩ := z.two; obtain ⟨t, rfl⟩ := h1.toStr; obtain ⟨t', rfl⟩ := h2.toStr
  refine SC.startswith (pr_here S q (.bool _) ?_)
  have e : Txt.startswith ⟨x.toArray⟩ ⟨y.toArray⟩ = y.isPrefixOf x := by
    unfold Txt.startswith
    rw [str_len, str_len, StrLaws.subAt_eq, str_len]
    simp only [List.drop_zero, Nat.zero_add]
    rw [Bool.eq_iff_iff]
    simp only [Bool.and_eq_true, decide_eq_true_eq, beq_iff_eq, List.isPrefixOf_iff_prefix, List.prefix_iff_eq_take]
    constructor
    · intro h; exact h.2.symm
    · intro h; refine ⟨?_, h.symm⟩; rw [h]; simp; lia
  rw [e]; exact h
theorem pr_ends {x y : List Nat} {Φ : LV → Prop} (h : Φ (.bool (y.isSuffixOf x))) : PrW g n [.str x, .str y] (cal "str.endswith") Φ := by
  refine ⟨?_⟩; intro A P s vs Q E r S z q
  obtain ⟨u, v, rfl, h1, h2⟩ := z.two; obtain ⟨t, rfl⟩ := h1.toStr; obtain ⟨t', rfl⟩ := h2.toStr
  refine SC.endswith (pr_here S q (.bool _) ?_)
  have e : Txt.endswith ⟨x.toArray⟩ ⟨y.toArray⟩ = y.isSuffixOf x := by
    unfold Txt.endswith
    rw [str_len, str_len, StrLaws.subAt_eq, str_len]
    simp only [Nat.zero_add]
    rw [Bool.eq_iff_iff]
    simp only [Bool.and_eq_true, decide_eq_true_eq, beq_iff_eq, List.isSuffixOf_iff_suffix, List.suffix_iff_eq_drop]
    constructor
    · intro h; have h2 := h.2; rw [List.take_of_length_le (by simp; lia)] at h2; exact h2.symm
    · intro h
      have hl : y.length ≤ x.length := by have := congrArg List.length h; simp at this; lia
      refine ⟨hl, ?_⟩
      rw [← h, List.take_length]
  rw [e]; exact h
end
end LL
end

section
open PySem PySem.W PySem.Calls PyProof.Rows
set_option Elab.async false
set_option maxRecDepth 100000
set_option linter.unusedVariables false
set_option linter.unusedSimpArgs false
namespace LL

noncomputable def nextOf (target : Expr) (it : Value) : Sem (Option Value) := do
  match ← pyNext it with
  | none => pure none
  | some v => do
    letOwnedTupleGo target it v
    pure (some v)

noncomputable def Yields (g : GC) (target : Expr) (it : Addr) : PM → Obj → List LV → Prop
  | P, o, [] => ∀ (A : Around) (P' : PM) (s : Shared) (Q : Option Value → Shared → Prop) (E : Value → Shared → Prop), A.handled = none → LE P P' → GSt g P' s → s.heap.get? it = some o →
      (∀ h' t, Heap.ExtBut it s.heap h' → s.toks ≤ t → Q none { s with heap := h', toks := t }) → wpAny (model g.prog g.w) A (nextOf target (.ref it)) Q E s
  | P, o, x :: xs => ∀ (A : Around) (P' : PM) (s : Shared) (Q : Option Value → Shared → Prop) (E : Value → Shared → Prop), A.handled = none → LE P P' → GSt g P' s → s.heap.get? it = some o → P' it = none → it ≠ g.T →
      (∀ P'' s' v o', LE P' P'' → (∀ b o, P'' b = some o → P' b = some o ∨ s.heap.get? b = none) → GSt g P'' s' → (∀ b o, b ≠ g.T → b ≠ it → s.heap.get? b = some o → s'.heap.get? b = some o) → s'.heap.get? it = some o' → Yields g target it P'' o' xs → V P'' x v → Q (some v) s') →
      wpAny (model g.prog g.w) A (nextOf target (.ref it)) Q E s
theorem Yields.mono {g : GC} {target : Expr} {it : Addr} : ∀ {P P' : PM} {o : Obj} {xs : List LV}, Yields g target it P o xs → LE P P' → Yields g target it P' o xs
  | P, P', o, [], h, le => fun A P'' s Q E hh le' => h A P'' s Q E hh (le.trans le')
  | P, P', o, x :: xs, h, le => fun A P'' s Q E hh le' => h A P'' s Q E hh (le.trans le')

noncomputable def Selfs (g : GC) (o : Obj) : Prop := ∀ (A : Around) (s : Shared) (it : Addr) (Q E : Value → Shared → Prop), s.heap.get? it = some o → Q (.ref it) s → wpAny (model g.prog g.w) A (pyIter (.ref it)) Q E s
noncomputable def ItW (g : GC) (n : Nat) (target : Expr) (lv : LV) (items : List LV) : Prop :=
  ∀ (A : Around) (P : PM) (s : Shared) (v : Value) (Q E : Value → Shared → Prop), Room n A → GSt g P s → V P lv v →
    (∀ o, o.isFreed = false → Selfs g o → Yields g target s.heap.objs.size P o items → Q (.ref s.heap.objs.size) { s with heap := s.heap.push o }) → wpAny (model g.prog g.w) A (pyIter v) Q E s

section
variable {g : GC} {F : FC} {n : Nat} {σ : LS}

structure AsW (g : GC) (F : FC) (n : Nat) (σ : LS) (target : Expr) (lv : LV) (Φ : LS → Prop) : Prop where
  run : ∀ (A : Around) (P : PM) (s : Shared) (v : Value) (Q : Unit → Shared → Prop) (E : Value → Shared → Prop), Room n A → St g F P s σ → V P lv v →
    (∀ P' s' σ', LE P P' → St g F P' s' σ' → Φ σ' → Q () s') → wpAny (model g.prog g.w) A (assign target F.env v) Q E s
theorem as_name {x : Str} {pos : Pos} {lv : LV} {Φ : LS → Prop} (h : ∃ l env', Upd σ.env x l lv env' ∧ (l = .local ∨ l = .own) ∧ Φ ⟨env', σ.cells⟩) : AsW g F n σ (.Name x pos) lv Φ := by
  refine ⟨?_⟩; intro A P s v Q E r S hv q
  obtain ⟨l, env', u, hl, k⟩ := h
  exact wpAny_assign_Name (storeW S u hl hv fun s' S' => q P s' _ (.refl P) S' k)
noncomputable def AssW (g : GC) (F : FC) (n : Nat) : LS → List Expr → List LV → (LS → Prop) → Prop
  | σ, [], [], Φ => Φ σ
  | σ, t :: ts, x :: xs, Φ => AsW g F n σ t x fun σ' => AssW g F n σ' ts xs Φ
  | _, _, _, _ => False
theorem assW_use {A : Around} {Q : Unit → Shared → Prop} {E : Value → Shared → Prop} (r : Room n A) : ∀ {ts : List Expr} {xs : List LV} {vs : List Value} {σ : LS} {P : PM} {s : Shared} {Φ : LS → Prop}, (ts.all fun e => !isStarred e) = true → St g F P s σ → VL P xs vs → AssW g F n σ ts xs Φ →
    (∀ P' s' σ', LE P P' → St g F P' s' σ' → Φ σ' → Q () s') → wpAny (model g.prog g.w) A (assignInOrder ((assignEach ts F.env).map (·.2)) vs) Q E s
  | [], [], vs, σ, P, s, Φ, _, S, hv, h, q => by
    rw [hv.nil_inv]; exact wpAny_pure (q P s σ (.refl P) S h)
  | t :: ts, x :: xs, vs, σ, P, s, Φ, hs, S, hv, h, q => by
    obtain ⟨v, r', rfl, h1, h2⟩ := hv.cons_inv
    simp only [List.all_cons, Bool.and_eq_true, Bool.not_eq_true'] at hs
    have e : (assignEach (t :: ts) F.env).map (·.2) = assign t F.env :: (assignEach ts F.env).map (·.2) := by
      cases t <;> first | rfl | cases hs.1
    rw [e]
    show wpAny _ A (do holding r' (assign t F.env v); assignInOrder ((assignEach ts F.env).map (·.2)) r') Q E s
    refine wpAny_bind (wpAny_holding (h |>.run A P s v _ E r S h1 fun P₁ s₁ σ₁ le₁ S₁ k₁ => ?_))
    exact assW_use r hs.2 S₁ (h2.mono le₁) k₁ fun P₂ s₂ σ₂ le₂ => q P₂ s₂ σ₂ (le₁.trans le₂)
  | [], _ :: _, _, _, _, _, _, _, _, _, h, _ => h.elim
  | _ :: _, [], _, _, _, _, _, _, _, _, h, _ => h.elim
theorem unstar_find {ts : List Expr} {env : Env} (h : (ts.all fun e => !isStarred e) = true) : (assignEach ts env).findIdx? (·.1) = none ∧ (assignEach ts env).length = ts.length := by
  induction ts with
  | nil => exact ⟨rfl, rfl⟩
  | cons t ts ih =>
    simp only [List.all_cons, Bool.and_eq_true, Bool.not_eq_true'] at h
    have e : assignEach (t :: ts) env = (false, assign t env) :: assignEach ts env := by
      cases t <;> first | rfl | cases h.1
    obtain ⟨h1, h2⟩ := ih h.2
    rw [e]
    refine ⟨?_, by simp [h2]⟩
    rw [List.findIdx?_cons]
    simp [h1]
theorem unpackW {A : Around} {P : PM} {s : Shared} {v : Value} {xs : List LV} {m : Nat} {Q : List Value → Shared → Prop} {E : Value → Shared → Prop} (r : Room n A) (S : GSt g P s) (hv : V P (.tup xs) v) (hm : m = xs.length)
    (q : ∀ s' vs, Grow g P s P s' → GSt g P s' → VL P xs vs → Q vs s') : wpAny (model g.prog g.w) A (unpackItems v m none) Q E s := by
  obtain ⟨a, items, rfl, hT, hvl⟩ := hv.isTup S
  have : m = items.size := by rw [hm, hvl.size]
  subst this
  refine unpackItems_tuple r.1 hT fun h' he => ?_
  have k : ∀ b o, s.heap.get? b = some o → h'.get? b = some o := fun b o e => he b o (Nat.ne_of_lt (Heap.lt_size e)) e
  obtain ⟨G', R⟩ := S.ext (t := s.toks) k (Nat.le_refl _)
  exact q _ _ R G' hvl
theorem as_tuple {ts : List Expr} {k : Nat} {pos : Pos} {xs : List LV} {Φ : LS → Prop} (hs : (ts.all fun e => !isStarred e) = true) (hl : ts.length = xs.length) (h : AssW g F n σ ts xs Φ) : AsW g F n σ (.Tuple ts k pos) (.tup xs) Φ := by
  refine ⟨?_⟩; intro A P s v Q E r S hv q
  show wpAny _ A (do standAt pos; unpack v (assignEach ts F.env)) Q E s
  refine wpAny_bind (wpAny_standAt ?_)
  obtain ⟨h1, h2⟩ := unstar_find (env := F.env) hs
  unfold unpack
  rw [h1, h2]
  refine wpAny_bind (wpAny_holding (unpackW r S.G hv hl fun s' vs R G' hvl => ?_))
  exact assW_use r hs (S.grow G' R) hvl h fun P₂ s₂ σ₂ le₂ => q P₂ s₂ σ₂ (R.le.trans le₂)

theorem nextThen {α : Type} {M : Model} {A : Around} {target : Expr} {it : Value} {k1 : Sem α} {k2 : Value → Sem α} {s : Shared} {hR : Value → Sem Unit} {W : α → Shared → Prop} {E : Value → Shared → Prop} {Q : Option Value → Shared → Prop}
    (h : wpAny M A (nextOf target it) Q (fun _ _ => False) s) (h1 : ∀ s₁, Q none s₁ → wpAny M A k1 W E s₁) (h2 : ∀ v s₁, Q (some v) s₁ → wpAny M A (k2 v) W E s₁) :
    wpAny M A (do match ← (pyNext it).onRaise hR with | none => k1 | some v => do letOwnedTupleGo target it v; k2 v) W E s := by
  intro Γ p hΓ
  have h0 := h Γ p hΓ
  unfold nextOf at h0
  rw [Sem.wp_bind'] at h0
  rw [Sem.wp_bind', Sem.wp_onRaise]
  refine Sem.wp_mono _ _ _ (fun r p' s' x => ?_) (fun _ _ _ x => x.elim) _ _ h0
  cases r with
  | none => exact h1 s' x Γ p' hΓ
  | some v =>
    dsimp only at x ⊢
    rw [Sem.wp_bind'] at x ⊢
    exact Sem.wp_mono _ _ _ (fun _ p'' s'' y => h2 v s'' y Γ p'' hΓ) (fun _ _ _ y => y.elim) _ _ x
theorem St.front {P : PM} {s : Shared} {e : List (Str × Loc × LV)} {c1 c2 : List (Addr × Ct)} {p : Addr × Ct} (S : St g F P s ⟨e, c1 ++ p :: c2⟩) : St g F P s ⟨e, p :: (c1 ++ c2)⟩ := by
  have q : (muts F ⟨e, c1 ++ p :: c2⟩).Perm (muts F ⟨e, p :: (c1 ++ c2)⟩) := by
    simp only [muts, List.map_append, List.map_cons]
    refine List.Perm.cons _ (List.Perm.append_left _ List.perm_middle)
  refine ⟨S.G, S.kind, S.glob, S.blt, S.old, S.bT, S.new, q.nodup_iff.mp S.nd, fun a ha => S.mu a (q.mem_iff.mpr ha), S.ownd, S.owns, S.locs, S.names, fun a c hc => S.cells a c ?_⟩
  rcases List.mem_cons.mp hc with h | h
  · rw [h]; exact List.mem_append.mpr (.inr (.head _))
  · rcases List.mem_append.mp h with h | h
    · exact List.mem_append.mpr (.inl h)
    · exact List.mem_append.mpr (.inr (.tail _ h))

inductive ForAt (g : GC) (F : FC) (target : Expr) (it : Addr) (I : List LV → LS → Prop) (P₀ : PM) (k : Nat) (s : Shared) : Prop
  | mk (P : PM) (σ : LS) (o : Obj) (items : List LV) (le : LE P₀ P) (S : St g F P s ⟨σ.env, (it, .raw o) :: σ.cells⟩) (hy : Yields g target it P o items) (hI : I items σ) (hk : k = items.length)
theorem forLoopW {A : Around} {target : Expr} {it : Addr} {body : List Stmt} {R : Result → Shared → Prop} {P₀ : PM} (r : Room n A) (I : List LV → LS → Prop) (K : LFl → LS → Prop)
    (turn : ∀ x rest σ o', I (x :: rest) σ → AsW g F n ⟨σ.env, (it, .raw o') :: σ.cells⟩ target x fun σ₁ => ExW g F n σ₁ body fun lf σ₂ => ∃ c', CDel σ₂.cells it (.raw o') c' ∧ LoopQ (I rest) (K .next) (fun v => K (.ret v)) lf ⟨σ₂.env, c'⟩)
    (fin : ∀ σ, I [] σ → K .next σ)
    (out : ∀ P' s' σ' lf f, LE P₀ P' → St g F P' s' σ' → FlV P' lf f → K lf σ' → (lf = .next ∨ ∃ v, lf = .ret v) → R (.ok f) s')
    {items : List LV} {o : Obj} {P : PM} {s : Shared} {σ : LS} (le : LE P₀ P) (S : St g F P s ⟨σ.env, (it, .raw o) :: σ.cells⟩) (hy : Yields g target it P o items) (hI : I items σ) :
    codeAny (model g.prog g.w) A (.forLoop target (.ref it) body [] F.env) R s := by
  refine codeAny_loop' rfl (ForAt g F target it I P₀) ?_ items.length ⟨P, σ, o, items, le, S, hy, hI, rfl⟩
  rintro k s' ⟨P', σ', o', items', le', S', hy', hI', rfl⟩
  show wpAny _ _ ((forTurn target (.ref it) body [] F.env).onRaise (fun x => do noteFrame x F.env; theTreesLotGoes x)) _ _ s'
  refine wpAny_noted ?_
  simp only [forTurn]
  refine wpAny_bind (wpAny_standAt ?_)
  refine nextThen (Q := fun v s₁ => match v with
    | none => R (.ok .next) s₁
    | some v => wpAny (model g.prog g.w) A (assign target F.env v) (fun _ s₂ => wpAny (model g.prog g.w) A (execs body F.env) (fun f s₃ => match f with
        | .next | .cont => ∃ m, m < items'.length ∧ ForAt g F target it I P₀ m s₃
        | .brk => R (.ok .next) s₃
        | .ret v => R (.ok (.ret v)) s₃) (notedBy (model g.prog g.w) A F.env fun e s' => R (.error e) s') s₂) (notedBy (model g.prog g.w) A F.env fun e s' => R (.error e) s') s₁) ?_ ?_ ?_
  · have ha : it ∈ muts F ⟨σ'.env, (it, .raw o') :: σ'.cells⟩ := mem_cell F (σ := ⟨σ'.env, (it, .raw o') :: σ'.cells⟩) (p := (it, .raw o')) (.head _)
    have hget : s'.heap.get? it = some o' := S'.cells it (.raw o') (.head _)
    cases items' with
    | nil =>
      refine hy' A P' s' _ _ r.1 (.refl P') S'.G hget fun h' t he ht => ?_
      have S₂ := S'.lose he t ht
      exact out P' _ σ' .next .next le' S₂ rfl (fin σ' hI') (.inl rfl)
    | cons x xs =>
      refine hy' A P' s' _ _ r.1 (.refl P') S'.G hget (S'.mu it ha).2 (S'.mT it ha) fun P₁ s₁ v o'' le₁ new G₁ keep hg h2 hv => ?_
      have S₁ := S'.change (c1 := []) (i' := .raw o'') G₁ le₁ new keep hg
      refine turn x xs σ' o'' hI' |>.run A P₁ s₁ v _ _ r S₁ hv fun P₂ s₂ σ₂ le₂ S₂ k => ?_
      refine k |>.run A P₂ s₂ _ _ r S₂ fun P₃ s₃ σ₃ lf f le₃ S₃ hf ⟨c', hd, k₃⟩ => ?_
      obtain ⟨c1, c2, e1, rfl⟩ := hd.split
      have le := (((le'.trans le₁).trans le₂).trans le₃)
      have S₃' : St g F P₃ s₃ ⟨σ₃.env, c1 ++ (it, .raw o'') :: c2⟩ := by rw [← e1]; exact S₃
      have back : St g F P₃ s₃ ⟨σ₃.env, (it, .raw o'') :: (c1 ++ c2)⟩ := S₃'.front
      have done : St g F P₃ s₃ ⟨σ₃.env, c1 ++ c2⟩ := S₃'.dropCell
      cases lf with
      | next => cases hf; exact ⟨xs.length, by simp, P₃, ⟨σ₃.env, c1 ++ c2⟩, o'', xs, le, back, h2.mono (le₂.trans le₃), k₃, rfl⟩
      | cont => cases hf; exact ⟨xs.length, by simp, P₃, ⟨σ₃.env, c1 ++ c2⟩, o'', xs, le, back, h2.mono (le₂.trans le₃), k₃, rfl⟩
      | brk => cases hf; exact out P₃ s₃ _ .next .next le done rfl k₃ (.inl rfl)
      | ret v => obtain ⟨u, rfl, hu⟩ := hf; exact out P₃ s₃ _ (.ret v) _ le done ⟨u, rfl, hu⟩ k₃ (.inr ⟨v, rfl⟩)
  · intro s₁ h; exact wpAny_pure (.inr ⟨rfl, codeAny_block (wpAny_execs_nil h)⟩)
  · intro v s₁ h
    refine wpAny_bind (wpAny_mono h (fun _ s₂ h₂ => wpAny_bind (wpAny_mono h₂ (fun f s₃ h₃ => ?_) fun _ _ h' => h')) fun _ _ h' => h')
    cases f with
    | next => exact wpAny_pure (.inl ⟨rfl, h₃⟩)
    | cont => exact wpAny_pure (.inl ⟨rfl, h₃⟩)
    | brk => exact wpAny_pure h₃
    | ret v => exact wpAny_pure h₃
inductive ForGo (g : GC) (F : FC) (n : Nat) (target : Expr) (body rest : List Stmt) (Φ : LFl → LS → Prop) (lv : LV) (σ₁ : LS) : Prop
  | mk (items : List LV) (hit : ItW g n target lv items) (I : List LV → LS → Prop) (hI : I items σ₁)
    (turn : ∀ x rest' σ it o', I (x :: rest') σ → AsW g F n ⟨σ.env, (it, .raw o') :: σ.cells⟩ target x fun σ₁ => ExW g F n σ₁ body fun lf σ₂ => ∃ c', CDel σ₂.cells it (.raw o') c' ∧ LoopQ (I rest') (fun σ => ExW g F n σ rest Φ) (fun v => Φ (.ret v)) lf ⟨σ₂.env, c'⟩)
    (fin : ∀ σ, I [] σ → ExW g F n σ rest Φ)
theorem ex_for {target iter : Expr} {body : List Stmt} {pos : Pos} {rest : List Stmt} {Φ : LFl → LS → Prop} (hfold : ∀ x, foldedSetIterable iter F.env x = pure x)
    (h : EvW g F n σ iter (ForGo g F n target body rest Φ)) : ExW g F n σ (.For target iter body [] pos :: rest) Φ := by
  refine ex_step fun A P s Q E r S q1 q2 => ?_
  refine wpAny_For (h |>.run A P s _ E r S fun P₁ s₁ σ₁ lv v le₁ S₁ h₁ ⟨items, hit, I, hI, turn, fin⟩ => hit A P₁ s₁ v _ E r S₁.G h₁ fun o hf _ hy => ?_) hfold
  have S₂ := S₁.newCell o (i := .raw o) (Heap.get?_push_size _ hf)
  refine forLoopW (P₀ := P) r I (Then g F n rest Φ) (fun x rest' σ o' hI' => ?_) fin (fun P' s' σ' lf f le' S' hf' k hlf => k.use (A := A) hf' le' S' q1 q2) le₁ S₂ hy hI
  exact turn x rest' σ _ o' hI'

noncomputable def plainTarget : Expr → Bool
  | .Tuple .. => false
  | .List .. => false
  | _ => true
theorem letOwned_plain {target : Expr} (h : plainTarget target = true) (it v : Value) : letOwnedTupleGo target it v = pure () := by
  cases target <;> first | rfl | cases h
theorem letOwned_listiter {M : Model} {A : Around} {E : Value → Shared → Prop} {s : Shared} {target : Expr} {I l : Addr} {i : Nat} {v : Value} {Q : Unit → Shared → Prop} (hit : s.heap.IsListIter I l i) (hQ : Q () s) : wpAny M A (letOwnedTupleGo target (.ref I) v) Q E s := by
  obtain ⟨o, ho, hc, hd⟩ := hit
  unfold letOwnedTupleGo
  have key : wpAny M A (do
      let (.ref r, .ref a) := (Value.ref I, v) | return
      let o ← load r
      match o.cls, o.data with
      | .type n, .fields vs =>
        if ["enumerate", "zip", "dict_itemiterator", "dict_reverseitemiterator", "odict_iterator", "itertools.zip_longest", "itertools.pairwise"].contains n && vs[0]? == some (rawInt a) then
          rule "for.unpacks-the-owned-tuple"
          updateField r 0 .none
      | _, _ => pure () : Sem Unit) Q E s := by
    cases v <;> first | exact wpAny_pure hQ | skip
    rename_i a
    refine wpAny_bind (wpAny_load ho ?_)
    rw [hc, hd]
    dsimp only
    exact wpAny_pure hQ
  cases target <;> first | exact wpAny_pure hQ | exact key
theorem yields_list {target : Expr} {it l : Addr} {ol : Obj} {vs : Array Value} {k : Nat} : ∀ {xs : List LV} {P : PM} {o : Obj} {i : Nat}, P l = some ol → ol.cls = .type "list" → ol.data = .seq vs k → VL P xs (vs.toList.drop i) → o.cls = .type "list_iterator" → o.data = .fields #[.ref l, .int i 0] → Yields g target it P o xs
  | [], P, o, i, hP, hc, hd, hv, oc, od => by
    intro A P' s Q E hh le S ho q
    have hl : s.heap.IsList l vs := ⟨ol, S.pre _ _ (le _ _ hP), hc, k, hd⟩
    have hi : vs[i]? = none := by
      have := hv.nil_inv
      rw [List.drop_eq_nil_iff] at this
      simpa using this
    exact wpAny_bind (wpAny_pyNext_list_end hh ⟨o, ho, oc, od⟩ hl hi fun h' he => wpAny_pure (q h' s.toks he (Nat.le_refl _)))
  | x :: xs, P, o, i, hP, hc, hd, hv, oc, od => by
    intro A P' s Q E hh le S ho hit hT q
    have hl : s.heap.IsList l vs := ⟨ol, S.pre _ _ (le _ _ hP), hc, k, hd⟩
    obtain ⟨v, r, e, h1, h2⟩ := hv.cons_inv
    have hi : vs[i]? = some v := by
      have : (vs.toList.drop i)[0]? = some v := by rw [e]; rfl
      rw [List.getElem?_drop] at this
      simpa using this
    have hr : r = vs.toList.drop (i + 1) := by
      have := congrArg List.tail e
      simp at this
      exact this.symm
    refine wpAny_bind (wpAny_pyNext_list_item ⟨o, ho, oc, od⟩ hl hi fun h' hit' sb => ?_)
    obtain ⟨o', ho', oc', od'⟩ := id hit'
    refine wpAny_bind (letOwned_listiter hit' (wpAny_pure ?_))
    have G' := S.write (t := s.toks) sb hit hT (Nat.le_refl _)
    exact q P' _ v o' (.refl P') (fun b o e => .inl e) G' (fun b o _ hb e => (sb.2 b hb).trans e) ho' (yields_list (le _ _ hP) hc hd ((hr ▸ h2).mono le) oc' od') (h1.mono le)
theorem itw_lst {target : Expr} {l : List LV} : ItW g n target (.lst l) l := by
  intro A P s v Q E r S hv q
  obtain ⟨a, o, vs, k, rfl, hP, hc, hd, hvl⟩ := hv.toLst
  have hl : s.heap.IsList a vs := ⟨o, S.pre _ _ hP, hc, k, hd⟩
  exact wpAny_pyIter_list hl (q _ rfl (fun A s it Q E ho k => wpAny_pyIter_listiter ⟨_, ho, rfl, rfl⟩ k) (yields_list hP hc hd (by simpa using hvl) rfl rfl))

theorem yields_walks {target : Expr} {it : Addr} {m : Nat} {Pv : Nat → Value → Prop} {Sx : Nat → Heap → Prop} (W : ∀ A : Around, A.handled = none → Walks g.prog g.w A it [it] [it] m Pv Sx) (hp : plainTarget target = true) (hSx : ∀ i h, Sx i h → ∃ o, h.get? it = some o) :
    ∀ {items : List LV} {i : Nat} {P : PM} {o : Obj}, items.length + i = m → (∀ j x v, items[j]? = some x → Pv (i + j) v → ∀ P', V P' x v) → (∃ h₀, h₀.get? it = some o ∧ Sx i h₀) → Yields g target it P o items
  | [], i, P, o, hm, hv, ⟨h₀, h1, h2⟩ => by
    intro A P' s Q E hh le S ho q
    have st : Sx m s.heap := by
      have : i = m := by simpa using hm
      subst this
      refine (W A hh).frame i h₀ s.heap h2 fun b hb o' e => ?_
      rw [List.mem_singleton.mp hb] at e ⊢
      rw [h1] at e; cases e; exact ho
    refine wpAny_bind (wpAny_tk ((W A hh).done s _ _ st fun h' tk k ht => wpAny_pure (q h' tk (fun b o hb e => k b o (by simpa using hb) e) ht)))
  | x :: xs, i, P, o, hm, hv, ⟨h₀, h1, h2⟩ => by
    intro A P' s Q E hh le S ho hit hT q
    have st : Sx i s.heap := by
      refine (W A hh).frame i h₀ s.heap h2 fun b hb o' e => ?_
      rw [List.mem_singleton.mp hb] at e ⊢
      rw [h1] at e; cases e; exact ho
    refine wpAny_bind (wpAny_tk ((W A hh).item i s _ _ (by simp at hm; lia) st fun v h' tk hpv st' k ht => ?_))
    dsimp only
    rw [letOwned_plain hp]
    refine wpAny_bind (wpAny_pure (wpAny_pure ?_))
    have ke : Heap.ExtBut it s.heap h' := fun b o hb e => k b o (by simpa using hb) e
    have G' : GSt g P' { s with heap := h', toks := tk } := by
      refine ⟨fun b o e => ke b o (fun z => by rw [z, hit] at e; cases e) (S.pre b o e), S.base, ?_, S.tabP, S.bare, S.os, Nat.le_trans S.tk ht⟩
      obtain ⟨ps, g1, g2⟩ := S.tab
      exact ⟨ps, ke _ _ (Ne.symm hT) g1, g2⟩
    obtain ⟨o', e'⟩ := hSx _ _ st'
    exact q P' _ v o' (.refl P') (fun b o e => .inl e) G' (fun b o _ hb e => ke b o hb e) e' (yields_walks W hp hSx (by simp at hm; lia) (fun j y u hy hu => hv (j + 1) y u (by simpa using hy) (by rw [show i + (j + 1) = i + 1 + j from by lia]; exact hu)) ⟨h', e', st'⟩) (hv 0 x v rfl hpv P')
theorem itw_str {target : Expr} (hp : plainTarget target = true) {x : List Nat} (ha : x.all (· < 128) = true) : ItW g n target (.str x) (x.map fun c => .str [c]) := by
  intro A P s v Q E r S hv q
  obtain ⟨t, rfl⟩ := hv.toStr
  have ha' : (⟨x.toArray⟩ : Str).cps.all (· < 128) = true := by simpa using ha
  refine wpAny_pyIter_ascii ha' (q _ rfl (fun A s it Q E ho k => wpAny_pyIter_striter_ascii (i := 0) ⟨_, ho, rfl, rfl⟩ k) ?_)
  refine yields_walks (Pv := SignAt ⟨x.toArray⟩) (Sx := fun i h => h.IsStrIter s.heap.objs.size "str_ascii_iterator" ⟨x.toArray⟩ t i) (i := 0) (m := x.length) (fun A hA => by have := Walks.strAscii (prog := g.prog) (w := g.w) hA s.heap.objs.size ⟨x.toArray⟩ t; simpa using this) hp ?_ (by simp) ?_ ⟨s.heap.push _, Heap.get?_push_size _ rfl, ⟨_, Heap.get?_push_size _ rfl, rfl, rfl⟩⟩
  · rintro i h ⟨o, ho, _⟩; exact ⟨o, ho⟩
  · intro j y v hy hv P'
    obtain ⟨c, u, hc, rfl⟩ := hv
    rw [Nat.zero_add] at hc
    rw [List.getElem?_map] at hy
    have hc' : x[j]? = some c := by simpa using hc
    rw [hc'] at hy
    cases hy
    exact .str [c] u
noncomputable def rangeObj (a b c : Int) (t u v : Tok) : Obj := { cls := .type "range", dict := none, data := .fields #[.int a t, .int b u, .int c v], slots := #[] }
noncomputable def rangeIt (x left step : Int) : Obj := { cls := .type "range_iterator", dict := none, data := .fields #[rawInt x, rawInt left, rawInt step], slots := #[] }
noncomputable def rangeL (a c : Int) : Nat → List LV
  | 0 => []
  | k + 1 => .int a :: rangeL (a + c) c k
theorem yields_range {target : Expr} {it : Addr} (hp : plainTarget target = true) {c : Int} : ∀ {k : Nat} {a : Int} {P : PM}, Yields g target it P (rangeIt a k c) (rangeL a c k)
  | 0, a, P => by
    intro A P' s Q E hh le S ho q
    exact wpAny_bind (wpAny_pyNext_range_end hh ho (by simp) fun h' he => wpAny_pure (q h' s.toks he (Nat.le_refl _)))
  | k + 1, a, P => by
    intro A P' s Q E hh le S ho hit hT q
    refine wpAny_bind (wpAny_pyNext_range_item ho (by lia) fun h' ho' sb => ?_)
    dsimp only
    rw [letOwned_plain hp]
    refine wpAny_bind (wpAny_pure (wpAny_pure ?_))
    have e : rangeIt (a + c) (((k + 1 : Nat) : Int) - 1) c = rangeIt (a + c) (k : Int) c := by congr 1; lia
    exact q P' _ _ (rangeIt (a + c) (k : Int) c) (.refl P') (fun b o e => .inl e) (S.write sb hit hT (Nat.le_succ _)) (fun b o _ hb e => (sb.2 b hb).trans e) (by rw [← e]; exact ho') (yields_range hp) (.int _ _)
theorem V.toObj {P : PM} {o : Obj} {v : Value} (h : V P (.obj o) v) : ∃ a, v = .ref a ∧ P a = some o := by unfold V at h; exact h
theorem itw_range {target : Expr} (hp : plainTarget target = true) {a b c : Int} {t u w : Tok} {k : Nat} (hk : Builtin.Range.rangeSize a b c = k) (hs : Builtin.Range.small a b c = true) : ItW g n target (.obj (rangeObj a b c t u w)) (rangeL a c k) := by
  intro A P s v Q E r S hv q
  obtain ⟨ad, rfl, hP⟩ := hv.toObj
  refine wpAny_pyIter_range (S.pre _ _ hP) hs ?_
  rw [hk]
  exact q (rangeIt a k c) rfl (fun A s it Q E ho k' => wpAny_pyIter_slot ⟨_, ho, rfl⟩ F.slot_range_iterator_iter (wpAny_call_entry F.slot_range_iterator_iter ⟨_, ho, rfl⟩ F.entry_range_iterator_iter (wpAny_pure ⟨_, rfl, "range_iterator", _, ⟨_, ho, rfl⟩, F.slot_range_iterator_next.lookup, k'⟩) (F.args_range_iterator_iter_1 _))) (yields_range hp)
end
end LL
end

section
open PySem PySem.W PySem.Calls PyProof.Rows
set_option Elab.async false
set_option maxRecDepth 100000
set_option linter.unusedVariables false
set_option linter.unusedSimpArgs false
namespace LL
section
variable {g : GC} {F : FC} {n : Nat} {σ : LS}

noncomputable def LV.isUndef : LV → Bool
  | .undef => true
  | _ => false
noncomputable def baseOne (outer : List (Str × Loc × LV)) (gt : Str → Option LV) (x : Str) : NameKind → Option (Loc × LV)
  | .local => some (.local, .undef)
  | .cell => some (.own, .undef)
  | .free => match outer.find? (fun p => p.1 == x) with
      | some (_, .own, lv) => if lv.isUndef then none else some (.fixed, lv)
      | some (_, .fixed, lv) => if lv.isUndef then none else some (.fixed, lv)
      | _ => none
  | .globalImplicit => (gt x).map fun lv => (.glob, lv)
  | .globalExplicit => none
noncomputable def baseEnv (outer : List (Str × Loc × LV)) (gt : Str → Option LV) (l : List (Str × NameKind)) : List (Str × Loc × LV) := l.filterMap fun p => (baseOne outer gt p.1 p.2).map fun q => (p.1, q)
noncomputable def GtOk (g : GC) (gt : Str → Option LV) : Prop := ∀ x lv, gt x = some lv → ∃ v, (g.mg x = some v ∨ (g.mg x = none ∧ g.mb x = some v)) ∧ V g.G lv v

theorem baseEnv_sub (outer : List (Str × Loc × LV)) (gt : Str → Option LV) : ∀ (l : List (Str × NameKind)), ((baseEnv outer gt l).map (·.1)).Sublist (l.map (·.1))
  | [] => .slnil
  | (y, k) :: r => by
    have ih := baseEnv_sub outer gt r
    unfold baseEnv at ih ⊢
    rw [List.filterMap_cons]
    cases h : baseOne outer gt y k with
    | none => simp only [Option.map_none]; exact .cons _ ih
    | some q => simp only [Option.map_some, List.map_cons]; exact .cons_cons _ ih
theorem baseEnv_mem {outer : List (Str × Loc × LV)} {gt : Str → Option LV} {l : List (Str × NameKind)} {x : Str} {loc : Loc} {lv : LV} (h : (x, loc, lv) ∈ baseEnv outer gt l) : ∃ k, (x, k) ∈ l ∧ baseOne outer gt x k = some (loc, lv) := by
  obtain ⟨⟨y, k⟩, hm, he⟩ := List.mem_filterMap.mp h
  obtain ⟨q, hq, e⟩ := Option.map_eq_some_iff.mp he
  cases e
  exact ⟨k, hm, hq⟩
theorem cellsFrom_acc : ∀ (l : List (Str × NameKind)) (m : Nat) (acc : List (Str × Addr)), cellsFrom m l acc = cellsFrom m l [] ++ acc
  | [], _, _ => rfl
  | (x, k) :: r, m, acc => by
    unfold cellsFrom
    split
    · rw [cellsFrom_acc r _ (_ :: acc), cellsFrom_acc r _ [_]]; simp
    · exact cellsFrom_acc r m acc
theorem cellsFrom_names : ∀ (l : List (Str × NameKind)) (m : Nat), (cellsFrom m l []).map (·.1) = ((l.filter fun p => p.2 == .cell).map (·.1)).reverse
  | [], _ => rfl
  | (x, k) :: r, m => by
    unfold cellsFrom
    split
    · rename_i h
      rw [cellsFrom_acc, List.map_append, cellsFrom_names r, List.filter_cons, if_pos h]; simp
    · rename_i h
      rw [cellsFrom_names r, List.filter_cons, if_neg h]
theorem lookup_of_nodup {α : Type} : ∀ {l : List (Str × α)} {p : Str × α}, (l.map (·.1)).Nodup → p ∈ l → l.lookup p.1 = some p.2
  | q :: r, p, nd, h => by
    have nd := List.nodup_cons.mp nd
    rcases List.mem_cons.mp h with h | h
    · subst h; rw [List.lookup_cons]; simp
    · rw [List.lookup_cons]
      have : (p.1 == q.1) = false := by
        rw [beq_eq_false_iff_ne]; intro e; exact nd.1 (by show q.1 ∈ _; rw [← e]; exact List.mem_map_of_mem h)
      rw [this]; exact lookup_of_nodup nd.2 h
theorem lookup_append {α : Type} : ∀ {l r : List (Str × α)} {x : Str} {v : α}, l.lookup x = some v → (l ++ r).lookup x = some v
  | q :: l, r, x, v, h => by
    rw [List.cons_append, List.lookup_cons] at *
    split
    · rename_i e; rw [e] at h; exact h
    · rename_i e; rw [e] at h; exact lookup_append h
theorem lookup_append_right {α : Type} : ∀ {l r : List (Str × α)} {x : Str} {v : α}, x ∉ l.map (·.1) → r.lookup x = some v → (l ++ r).lookup x = some v
  | [], r, x, v, _, h => h
  | q :: l, r, x, v, hn, h => by
    simp only [List.map_cons, List.mem_cons, not_or] at hn
    rw [List.cons_append, List.lookup_cons]
    have : (x == q.1) = false := by rw [beq_eq_false_iff_ne]; exact hn.1
    rw [this]; exact lookup_append_right hn.2 h

noncomputable def namesOk (l : List (Str × NameKind)) : Bool := (l.map (·.1)).Nodup && l.all fun p => p.1 != "__debug__" && p.1 != "__classdict__"

theorem frame_start {P B : PM} {s : Shared} (G : GSt g P s) (hB : ∀ b o, B b = some o → s.heap.get? b = some o) (hBT : ∃ o, B g.T = some o) {names : List (Str × NameKind)} {outer : List (Str × Loc × LV)} {gt : Str → Option LV} (hgt : GtOk g gt) (hok : namesOk names = true) {cl : List (Str × Addr)} {cls : Value} {env : Env}
    (hloc : env.locals = s.heap.objs.size) (hcells : env.cells = cellsFrom (s.heap.objs.size + 1) names cl) (hglob : env.globals = mainGlobals) (hblt : env.builtins = builtinsNs) (hk : env.scope.kind = .function)
    (kinds : ∀ x k, (x, k) ∈ names → env.kindOf x = some k ∨ (k = .free ∧ env.kindOf x = some .cell)) (hcls : cls = .type "dict" ∨ cls = .type "frame")
    (hout : ∀ x lv, (x, .free) ∈ names → baseOne outer gt x .free = some (.fixed, lv) → ∃ c o v, cl.lookup x = some c ∧ B c = some o ∧ c ≠ g.T ∧ o.data = .cell (some v) ∧ V P lv v) :
    St g { env := env, own := cellsFrom (s.heap.objs.size + 1) names [], B := B, P0 := P } P { s with heap := pushCells (s.heap.push { cls, data := .dict #[] }) names } ⟨baseEnv outer gt names, []⟩ := by
  simp only [namesOk, Bool.and_eq_true, decide_eq_true_eq] at hok
  obtain ⟨hnd, hbar⟩ := hok
  have keep : ∀ b o, s.heap.get? b = some o → (pushCells (s.heap.push { cls, data := .dict #[] }) names).get? b = some o := fun b o e => pushCells_keeps _ _ b o (Heap.get?_push_of_some _ e)
  have ok := cellsFrom_ok names (s.heap.push { cls, data := .dict #[] }) (s.heap.objs.size + 1) [] ⟨fun _ _ hm => (nomatch hm), List.Pairwise.nil⟩ (by rw [Heap.size_push]; exact Nat.le_refl _)
  rw [Heap.size_push] at ok
  have none_of : ∀ a, s.heap.objs.size ≤ a → s.heap.get? a = none := fun a ha => by
    cases e : s.heap.get? a with
    | none => rfl
    | some o' => exact absurd (Heap.lt_size e) (Nat.not_lt.mpr ha)
  have P_none : ∀ a, s.heap.get? a = none → P a = none := fun a ha => by
    cases e : P a with
    | none => rfl
    | some o => rw [G.pre a o e] at ha; cases ha
  obtain ⟨G', R⟩ := G.ext (h' := pushCells (s.heap.push { cls, data := .dict #[] }) names) (t := s.toks) keep (Nat.le_refl _)
  have hown : ∀ p ∈ cellsFrom (s.heap.objs.size + 1) names [], (cellsFrom (s.heap.objs.size + 1) names []).lookup p.1 = some p.2 ∧ env.cells.lookup p.1 = some p.2 := fun p hp => by
    have nd : ((cellsFrom (s.heap.objs.size + 1) names []).map (·.1)).Nodup := by
      rw [cellsFrom_names]; refine (List.reverse_perm _).nodup_iff.mpr ?_
      exact hnd.sublist (List.filter_sublist.map _)
    have k := lookup_of_nodup nd hp
    exact ⟨k, by rw [hcells, cellsFrom_acc]; exact lookup_append k⟩
  have hownd : ((cellsFrom (s.heap.objs.size + 1) names []).map (·.1)).Nodup := by
    rw [cellsFrom_names]; refine (List.reverse_perm _).nodup_iff.mpr ?_
    exact hnd.sublist (List.filter_sublist.map _)
  have cname : ∀ x, (x, NameKind.cell) ∈ names → ∃ c, (x, c) ∈ cellsFrom (s.heap.objs.size + 1) names [] := fun x hx => by
    have : x ∈ (cellsFrom (s.heap.objs.size + 1) names []).map (·.1) := by
      rw [cellsFrom_names, List.mem_reverse]
      exact List.mem_map.mpr ⟨(x, .cell), List.mem_filter.mpr ⟨hx, rfl⟩, rfl⟩
    obtain ⟨⟨y, c⟩, h1, h2⟩ := List.mem_map.mp this
    exact ⟨c, by rw [← h2]; exact h1⟩
  have kindU : ∀ x k k', (x, k) ∈ names → (x, k') ∈ names → k = k' := fun x k k' h h' => by
    have a := lookup_of_nodup (p := (x, k)) hnd h
    have b := lookup_of_nodup (p := (x, k')) hnd h'
    rw [a] at b; cases b; rfl
  have B_none : ∀ a, s.heap.get? a = none → B a = none := fun a ha => by
    cases e : B a with
    | none => rfl
    | some o => rw [hB a o e] at ha; cases ha
  refine ⟨G', hk, hglob, hblt, fun b o _ e => keep b o (hB b o e), hBT, fun b o e => .inl e, ?_, ?_, hownd, fun p hp => ⟨(hown p hp).2, none, (ok.empty p.1 p.2 hp).1⟩, ⟨fun _ => none, ?_, ?_⟩, hnd.sublist (baseEnv_sub _ _ _), fun a c h => nomatch h⟩
  · unfold muts
    simp only [List.map_nil, List.append_nil]
    refine List.nodup_cons.mpr ⟨fun h => ?_, ?_⟩
    · obtain ⟨p, hp, e⟩ := List.mem_map.mp h
      have := (ok.empty p.1 p.2 hp).2
      rw [show p.2 = s.heap.objs.size from e.trans hloc] at this
      lia
    · exact List.pairwise_map.mpr ok.apart
  · intro a ha
    unfold muts at ha
    simp only [List.map_nil, List.append_nil] at ha
    have : s.heap.objs.size ≤ a := by
      rcases List.mem_cons.mp ha with h | h
      · rw [h, hloc]; exact Nat.le_refl _
      · obtain ⟨p, hp, e⟩ := List.mem_map.mp h
        have := (ok.empty p.1 p.2 hp).2
        rw [← e]; (exact Nat.le_of_lt (by assumption))
    exact ⟨B_none a (none_of a this), P_none a (none_of a this)⟩
  · rw [hloc]
    have : (s.heap.push { cls, data := .dict #[] }).Ns s.heap.objs.size (fun _ => none) := by
      rcases hcls with rfl | rfl <;> exact Heap.Ns.new ..
    exact this.keeps (pushCells_keeps _ _)
  · intro x loc lv hx
    obtain ⟨k, hm, hb⟩ := baseEnv_mem hx
    have hb' := List.all_eq_true.mp hbar _ hm
    simp only [Bool.and_eq_true, bne_iff_ne, ne_eq] at hb'
    refine ⟨beq_eq_false_iff_ne.mpr hb'.1, ?_⟩
    cases k with
    | «local» =>
      simp only [baseOne, Option.some.injEq, Prod.mk.injEq] at hb
      obtain ⟨rfl, rfl⟩ := hb
      exact ⟨(kinds x _ hm).resolve_right (fun h => nomatch h.1), .inl rfl⟩
    | cell =>
      simp only [baseOne, Option.some.injEq, Prod.mk.injEq] at hb
      obtain ⟨rfl, rfl⟩ := hb
      obtain ⟨c, hc⟩ := cname x hm
      exact ⟨(kinds x _ hm).resolve_right (fun h => nomatch h.1), c, none, (hown _ hc).2, hc, (ok.empty x c hc).1, .inl rfl⟩
    | free =>
      have hl : loc = .fixed := by
        simp only [baseOne] at hb
        split at hb
        · split at hb <;> cases hb; rfl
        · split at hb <;> cases hb; rfl
        · cases hb
      subst hl
      obtain ⟨c, o, v, h1, h2, h3, h4, h5⟩ := hout x lv hm hb
      refine ⟨(kinds x _ hm).imp id And.right, beq_eq_false_iff_ne.mpr hb'.2, c, o, v, ?_, ⟨h2, h3⟩, h4, h5⟩
      rw [hcells, cellsFrom_acc]
      refine lookup_append_right (fun h => ?_) h1
      rw [cellsFrom_names, List.mem_reverse] at h
      obtain ⟨⟨y, k⟩, h6, h7⟩ := List.mem_map.mp h
      obtain ⟨h8, h9⟩ := List.mem_filter.mp h6
      simp only [beq_iff_eq] at h9 h7
      subst h7 h9
      have := kindU _ _ _ hm h8
      cases this
    | globalImplicit =>
      simp only [baseOne, Option.map_eq_some_iff] at hb
      obtain ⟨lv', hgx, e⟩ := hb
      cases e
      obtain ⟨v, hv, hV⟩ := hgt x lv hgx
      exact ⟨(kinds x _ hm).resolve_right (fun h => nomatch h.1), v, hv, hV.mono G.base⟩
    | globalExplicit => cases hb

noncomputable def put1 (x : Str) (lv : LV) : List (Str × Loc × LV) → List (Str × Loc × LV)
  | [] => []
  | (y, l, w) :: r => if y = x then (y, l, lv) :: r else (y, l, w) :: put1 x lv r
noncomputable def putAll : List (Str × Loc × LV) → List (Str × LV) → List (Str × Loc × LV)
  | e, [] => e
  | e, (x, lv) :: r => putAll (put1 x lv e) r
theorem upd_put : ∀ {e : List (Str × Loc × LV)} {x : Str} {l : Loc} {w lv : LV}, (e.map (·.1)).Nodup → (x, l, w) ∈ e → Upd e x l lv (put1 x lv e)
  | (y, k, u) :: r, x, l, w, lv, nd, h => by
    have nd := List.nodup_cons.mp nd
    unfold put1
    rcases List.mem_cons.mp h with h | h
    · cases h; rw [if_pos rfl]; exact .head
    · have : y ≠ x := fun e => nd.1 (by subst e; exact List.mem_map.mpr ⟨_, h, rfl⟩)
      rw [if_neg this]; exact .tail (upd_put nd.2 h)
noncomputable def Writes (e : List (Str × Loc × LV)) (x : Str) : Prop := ∃ l w, (x, l, w) ∈ e ∧ (l = .local ∨ l = .own)
theorem Writes.put {e : List (Str × Loc × LV)} {x y : Str} {lv : LV} : Writes e x → Writes (put1 y lv e) x
  | ⟨l, w, h, k⟩ => by
    have : ∀ {e : List (Str × Loc × LV)}, (x, l, w) ∈ e → ∃ w', (x, l, w') ∈ put1 y lv e := by
      intro e
      induction e with
      | nil => intro h; cases h
      | cons p r ih =>
        obtain ⟨z, k, u⟩ := p
        intro h
        unfold put1
        split
        · rcases List.mem_cons.mp h with h | h
          · cases h; exact ⟨_, .head _⟩
          · exact ⟨_, .tail _ h⟩
        · rcases List.mem_cons.mp h with h | h
          · cases h; exact ⟨_, .head _⟩
          · obtain ⟨w', hw⟩ := ih h; exact ⟨w', .tail _ hw⟩
    obtain ⟨w', hw⟩ := this h
    exact ⟨l, w', hw, k⟩
theorem bindsW {A : Around} {E : Value → Shared → Prop} {Q : PUnit → Shared → Prop} (f : Str × Value → PUnit → Sem (ForInStep PUnit)) (hf : ∀ x v u, f (x, v) u = (do storeName F.env x v; pure (.yield ⟨⟩))) :
    ∀ {xs : List Str} {lvs : List LV} {vs : List Value} {P : PM} {s : Shared} {e : List (Str × Loc × LV)} {c : List (Addr × Ct)}, xs.length = lvs.length → VL P lvs vs → (∀ x ∈ xs, Writes e x) → St g F P s ⟨e, c⟩ →
      (∀ s', St g F P s' ⟨putAll e (xs.zip lvs), c⟩ → Q ⟨⟩ s') → wpAny (model g.prog g.w) A (forIn (xs.zip vs) ⟨⟩ f) Q E s
  | [], [], vs, P, s, e, c, hl, hv, hw, S, q => by
    rw [List.zip_nil_left, List.forIn_nil]; exact wpAny_pure (q s S)
  | x :: xs, lv :: lvs, vs, P, s, e, c, hl, hv, hw, S, q => by
    obtain ⟨v, r, rfl, h1, h2⟩ := hv.cons_inv
    rw [List.zip_cons_cons, List.forIn_cons, hf]
    obtain ⟨l, w, hm, hk⟩ := hw x (.head _)
    refine wpAny_bind (wpAny_bind (storeW S (upd_put S.names hm) hk h1 fun s' S' => wpAny_pure ?_))
    exact bindsW f hf (by simpa using hl) h2 (fun y hy => (hw y (.tail _ hy)).put) S' q
  | [], _ :: _, _, _, _, _, _, hl, _, _, _, _ => by cases hl
  | _ :: _, [], _, _, _, _, _, hl, _, _, _, _ => by cases hl

theorem newFrame {A : Around} {P : PM} {s : Shared} {Q : Env → Shared → Prop} {E : Value → Shared → Prop} (G : GSt g P s) {scope : Scope} {outer : List (Str × Loc × LV)} {gt : Str → Option LV} (hgt : GtOk g gt) (hok : namesOk scope.names = true) {cl : List (Str × Addr)}
    {xs : List Str} {lvs : List LV} {vs : List Value} {qual : Str} {func : Option Addr} {code : Value} {around : Option Env} {builtins : Addr} {env : Env}
    (henv : env = newEnv scope s.heap.objs.size mainGlobals (cellsFrom (s.heap.objs.size + 1) scope.names cl) qual func code around builtins) (hblt : env.builtins = builtinsNs)
    (hk : scope.kind = .function) (hx : xs.length = lvs.length) (hv : VL P lvs vs) (hw : ∀ x ∈ xs, Writes (baseEnv outer gt scope.names) x)
    (hout : ∀ x lv, (x, .free) ∈ scope.names → baseOne outer gt x .free = some (.fixed, lv) → ∃ c o v, cl.lookup x = some c ∧ s.heap.get? c = some o ∧ c ≠ g.T ∧ o.data = .cell (some v) ∧ V P lv v)
    (q : ∀ s', St g { env := env, own := cellsFrom (s.heap.objs.size + 1) scope.names [], B := s.heap.get?, P0 := P } P s' ⟨putAll (baseEnv outer gt scope.names) (xs.zip lvs), []⟩ → Q env s') :
    wpAny (model g.prog g.w) A (newFunctionEnv scope mainGlobals cl (xs.zip vs) qual func code around builtins) Q E s := by
  have kinds : ∀ x k, (x, k) ∈ scope.names → scope.names.lookup x = some k := fun x k h => by
    simp only [namesOk, Bool.and_eq_true, decide_eq_true_eq] at hok
    exact lookup_of_nodup hok.1 h
  subst henv
  unfold newFunctionEnv
  refine wpAny_bind (wpAny_alloc ?_)
  refine wpAny_bind (wpAny_layCells _ (fun name kind cells => by cases hkc : kind == NameKind.cell <;> simp [hkc]) _ _ _ _ ?_)
  rw [show ({ s with heap := s.heap.push { cls := .type (if around.isSome then "dict" else "frame"), data := .dict #[] } } : Shared).heap.objs.size = s.heap.objs.size + 1 from Heap.size_push ..]
  have S := frame_start (B := s.heap.get?) G (fun _ _ e => e) (let ⟨ps, h1, _⟩ := G.tab; ⟨_, h1⟩) hgt hok (outer := outer) (cl := cl) (cls := .type (if around.isSome then "dict" else "frame")) (env := newEnv scope s.heap.objs.size mainGlobals (cellsFrom (s.heap.objs.size + 1) scope.names cl) qual func code around builtins)
    (by cases around <;> rfl) (by cases around <;> rfl) (by cases around <;> rfl) hblt (by cases around <;> exact hk) (fun x k h => .inl (by cases around <;> exact kinds x k h)) (by cases around <;> simp) hout
  cases around with
  | none => exact wpAny_bind (bindsW (F := { env := newEnv scope s.heap.objs.size mainGlobals (cellsFrom (s.heap.objs.size + 1) scope.names cl) qual func code none builtins, own := cellsFrom (s.heap.objs.size + 1) scope.names [], B := s.heap.get?, P0 := P }) _ (fun _ _ _ => rfl) hx hv hw S fun s' S' => wpAny_pure (q s' S'))
  | some o => exact wpAny_bind (bindsW (F := { env := newEnv scope s.heap.objs.size mainGlobals (cellsFrom (s.heap.objs.size + 1) scope.names cl) qual func code (some o) builtins, own := cellsFrom (s.heap.objs.size + 1) scope.names [], B := s.heap.get?, P0 := P }) _ (fun _ _ _ => rfl) hx hv hw S fun s' S' => wpAny_pure (q s' S'))
theorem St.leave {P P' : PM} {s s' : Shared} {F' : FC} (S : St g F' P' s' σ) (hB : F'.B = s.heap.get?) (h0 : F'.P0 = P) (le : LE P P') : Grow g P s P' s' := by
  refine ⟨le, fun b o e => ?_, fun b o hb e => S.old b o hb (by rw [hB]; exact e)⟩
  rcases S.new b o e with h | h
  · exact .inl (by rw [← h0]; exact h)
  · exact .inr (by rw [← hB]; exact h)

theorem Room.deeper {A : Around} {env : Env} (h : Room (n + 1) A) : Room n (A.deeper env) := ⟨h.1, by have := h.2.1; show A.depth + 1 + n ≤ 500; lia, by have := h.2.2; show A.units + 3 + 10 * n ≤ 1000; lia⟩
structure FnOk (g : GC) (f : Addr) (fd : FuncData) (body : List Stmt) (xs : List Str) : Prop where
  at' : ∃ o, g.G f = some o ∧ o.data = .func fd
  co : fd.scope.isCoroutine = false
  gen : fd.scope.isGenerator = false
  kind : fd.scope.kind = .function
  body' : fd.body = .stmts body
  clo : fd.closure = []
  glob : fd.globals = mainGlobals
  blt : fd.builtins = builtinsNs
  code : ∀ h : Heap, (∀ b o, g.G b = some o → h.get? b = some o) → h.CodeRec fd.code fd.qualname
  binds : ∀ vs : List Value, vs.length = xs.length → bindArgs fd ⟨vs, []⟩ = pure (xs.zip vs)
  names : namesOk fd.scope.names = true
  nofree : fd.scope.names.all (fun p => p.2 != .free) = true
  wr : ∀ gt, ∀ x ∈ xs, Writes (baseEnv [] gt fd.scope.names) x
theorem pr_fn {f : Addr} {fd : FuncData} {body : List Stmt} {xs : List Str} {gt : Str → Option LV} {args : List LV} {Φ : LV → Prop} (K : FnOk g f fd body xs) (hgt : GtOk g gt) (hx : xs.length = args.length)
    (h : ∀ F : FC, ExW g F n ⟨putAll (baseEnv [] gt fd.scope.names) (xs.zip args), []⟩ body fun lf _ => match lf with
      | .ret v => Φ v
      | .next => Φ .none
      | _ => False) : PrW g (n + 1) args (fun vs => call (.ref f) vs) Φ := by
  refine ⟨?_⟩; intro A P s vs Q E r S hv q
  obtain ⟨o, ho, hd⟩ := K.at'
  have base : ∀ b o, g.G b = some o → s.heap.get? b = some o := fun b o e => S.pre _ _ (S.base _ _ e)
  have ro : A.depth < recursionLimit := Nat.lt_of_lt_of_le (by have := r.2.1; lia : A.depth < 500) (by decide)
  refine wpAny_call (codeAny_call_function (body := body) ro (base _ _ ho) hd K.co K.gen K.body' (K.code _ base) ?_)
  rw [K.binds vs (by rw [hx, hv.length]), K.clo, K.glob]
  refine wpAny_pure (newFrame (g := g) (outer := []) (gt := gt) (lvs := args) S hgt K.names (cl := []) rfl K.blt K.kind hx hv (K.wr gt) (fun x lv hm => ?_) fun s₁ S₁ => ?_)
  · have := List.all_eq_true.mp K.nofree _ hm
    simp at this
  refine ⟨g.hl _ fun b o e => S₁.G.pre _ _ (S₁.G.base _ _ e), codeAny_func ?_⟩
  refine (h _).run _ P s₁ _ _ r.deeper S₁ fun P₂ s₂ σ₂ lf fl le₂ S₂ hf hΦ => ?_
  have R := S₂.leave rfl rfl le₂
  cases lf with
  | ret v => obtain ⟨u, rfl, hu⟩ := hf; exact q P₂ s₂ v u R S₂.G hu hΦ
  | next => cases hf; exact q P₂ s₂ .none _ R S₂.G .none hΦ
  | brk => exact hΦ.elim
  | cont => exact hΦ.elim
end
end LL
end

section
open PySem PySem.W PySem.Calls PyProof.Rows
set_option Elab.async false
set_option maxRecDepth 100000
set_option linter.unusedVariables false
set_option linter.unusedSimpArgs false
namespace LL

inductive Weak : List (Str × Loc × LV) → List (Str × Loc × LV) → Prop where
  | nil : Weak [] []
  | same {p r r'} : Weak r r' → Weak (p :: r) (p :: r')
  | undefL {x w r r'} : Weak r r' → Weak ((x, .local, w) :: r) ((x, .local, .undef) :: r')
  | undefO {x w r r'} : Weak r r' → Weak ((x, .own, w) :: r) ((x, .own, .undef) :: r')
theorem Weak.refl : ∀ (e : List (Str × Loc × LV)), Weak e e
  | [] => .nil
  | _ :: r => .same (Weak.refl r)
theorem Weak.names {e e' : List (Str × Loc × LV)} (h : Weak e e') : e.map (·.1) = e'.map (·.1) := by
  induction h <;> simp_all
theorem Weak.mem {e e' : List (Str × Loc × LV)} (h : Weak e e') : ∀ {x l w}, (x, l, w) ∈ e' → (x, l, w) ∈ e ∨ (w = .undef ∧ (l = .local ∨ l = .own) ∧ ∃ w', (x, l, w') ∈ e) := by
  induction h with
  | nil => intro x l w h; cases h
  | same _ ih =>
    intro x l w h
    rcases List.mem_cons.mp h with h | h
    · subst h; exact .inl (.head _)
    · rcases ih h with h | ⟨h1, h2, w', h3⟩
      · exact .inl (.tail _ h)
      · exact .inr ⟨h1, h2, w', .tail _ h3⟩
  | undefL _ ih =>
    intro x l w h
    rcases List.mem_cons.mp h with h | h
    · cases h; exact .inr ⟨rfl, .inl rfl, _, .head _⟩
    · rcases ih h with h | ⟨h1, h2, w', h3⟩
      · exact .inl (.tail _ h)
      · exact .inr ⟨h1, h2, w', .tail _ h3⟩
  | undefO _ ih =>
    intro x l w h
    rcases List.mem_cons.mp h with h | h
    · cases h; exact .inr ⟨rfl, .inr rfl, _, .head _⟩
    · rcases ih h with h | ⟨h1, h2, w', h3⟩
      · exact .inl (.tail _ h)
      · exact .inr ⟨h1, h2, w', .tail _ h3⟩
section
variable {g : GC} {F : FC} {n : Nat} {σ : LS}
theorem St.weak {P : PM} {s : Shared} {e' : List (Str × Loc × LV)} (S : St g F P s σ) (w : Weak σ.env e') : St g F P s ⟨e', σ.cells⟩ := by
  obtain ⟨m, hm, hs⟩ := S.locs
  refine ⟨S.G, S.kind, S.glob, S.blt, S.old, S.bT, S.new, S.nd, S.mu, S.ownd, S.owns, ⟨m, hm, fun x l lv hx => ?_⟩, by rw [← w.names]; exact S.names, S.cells⟩
  rcases w.mem hx with h | ⟨rfl, hl, w', h⟩
  · exact hs _ _ _ h
  · obtain ⟨k1, k⟩ := hs _ _ _ h
    refine ⟨k1, ?_⟩
    rcases hl with rfl | rfl
    · exact ⟨k.1, .inl rfl⟩
    · obtain ⟨k1, c, v₀, k2, k3, k4, _⟩ := k; exact ⟨k1, c, v₀, k2, k3, k4, .inl rfl⟩
theorem ex_weak {e e' : List (Str × Loc × LV)} {c : List (Addr × Ct)} {ss : List Stmt} {Φ : LFl → LS → Prop} (w : Weak e e') (h : ExW g F n ⟨e', c⟩ ss Φ) : ExW g F n ⟨e, c⟩ ss Φ :=
  ⟨fun A P s Q E r S q => h |>.run A P s Q E r (S.weak w) q⟩

noncomputable def TsW (g : GC) (F : FC) (n : Nat) : List Expr → LS → (Bool → LS → Prop) → Prop
  | [], σ, Φ => Φ true σ
  | c :: cs, σ, Φ => TeW g F n σ c fun b σ₁ => (b = true → TsW g F n cs σ₁ Φ) ∧ (b = false → Φ false σ₁)
noncomputable abbrev testsSem (ifs : List Expr) (ok : Bool) (env : Env) : Sem Bool := forIn ifs ok fun c r => if r = true then do let ok ← isTrue c env (eval c env); pure (ForInStep.yield ok) else pure (ForInStep.yield r)
theorem tests_false {M : Model} {A : Around} {Q : Bool → Shared → Prop} {E : Value → Shared → Prop} {s : Shared} {env : Env} (h : Q false s) : ∀ {ifs : List Expr}, wpAny M A (testsSem ifs false env) Q E s
  | [] => by unfold testsSem; rw [List.forIn_nil]; exact wpAny_pure h
  | c :: cs => by
    unfold testsSem
    rw [List.forIn_cons]
    simp only [Bool.false_eq_true, if_false]
    exact wpAny_bind (wpAny_pure (tests_false h (ifs := cs)))
theorem testsW {A : Around} {Q : Bool → Shared → Prop} {E : Value → Shared → Prop} (r : Room n A) : ∀ {ifs : List Expr} {P : PM} {s : Shared} {σ : LS} {Φ : Bool → LS → Prop}, TsW g F n ifs σ Φ → St g F P s σ →
    (∀ P' s' σ' b, LE P P' → St g F P' s' σ' → Φ b σ' → Q b s') → wpAny (model g.prog g.w) A (testsSem ifs true F.env) Q E s
  | [], P, s, σ, Φ, h, S, q => by unfold testsSem; rw [List.forIn_nil]; exact wpAny_pure (q P s σ true (.refl P) S h)
  | c :: cs, P, s, σ, Φ, h, S, q => by
    unfold testsSem
    rw [List.forIn_cons]
    simp only [if_true]
    refine wpAny_bind (wpAny_bind (h |>.run A P s _ E r S fun P₁ s₁ σ₁ b le₁ S₁ k => wpAny_pure ?_))
    cases b with
    | false => exact tests_false (q P₁ s₁ σ₁ false le₁ S₁ (k.2 rfl)) (ifs := cs)
    | true => exact testsW r (k.1 rfl) S₁ fun P₂ s₂ σ₂ b le₂ => q P₂ s₂ σ₂ b (le₁.trans le₂)

inductive All2 {α β : Type} (R : α → β → Prop) : List α → List β → Prop where
  | nil : All2 R [] []
  | cons {a b l m} : R a b → All2 R l m → All2 R (a :: l) (b :: m)

theorem All2.imp {α β : Type} {R R' : α → β → Prop} (h : ∀ a b, R a b → R' a b) {l : List α} {m : List β} (k : All2 R l m) : All2 R' l m := by
  induction k with
  | nil => exact .nil
  | cons x _ ih => exact .cons (h _ _ x) ih
theorem TeW.mono {e : Expr} {Φ Ψ : Bool → LS → Prop} (h : TeW g F n σ e Φ) (k : ∀ b σ', Φ b σ' → Ψ b σ') : TeW g F n σ e Ψ :=
  ⟨fun A P s Q E r S q => h |>.run A P s Q E r S fun P' s' σ' b h1 h2 h3 => q P' s' σ' b h1 h2 (k _ _ h3)⟩
theorem TsW.mono : ∀ {ifs : List Expr} {σ : LS} {Φ Ψ : Bool → LS → Prop}, TsW g F n ifs σ Φ → (∀ b σ', Φ b σ' → Ψ b σ') → TsW g F n ifs σ Ψ
  | [], _, _, _, h, k => k _ _ h
  | _ :: _, _, _, _, h, k => TeW.mono h fun _ _ x => ⟨fun e => TsW.mono (x.1 e) k, fun e => k _ _ (x.2 e)⟩
noncomputable def ClW (g : GC) (F : FC) (n : Nat) (elt : Expr) : List Comprehension → List Expr → List (Str × Loc × LV) → List LV → List (Str × Loc × LV) → Prop
  | [], ifs, e, out, e₀ => ∀ c, TsW g F n ifs ⟨e, c⟩ fun b σ₁ => (b = true → EvW g F n σ₁ elt fun y σ₂ => out = [y] ∧ σ₂.cells = c ∧ Weak σ₂.env e₀) ∧ (b = false → out = [] ∧ σ₁.cells = c ∧ Weak σ₁.env e₀)
  | q :: gs, ifs, e, out, e₀ => q.is_async = 0 ∧ (∀ x, foldedSetIterable q.iter F.env x = pure x) ∧ ∀ c, TsW g F n ifs ⟨e, c⟩ fun b σ₁ => (b = true → EvW g F n σ₁ q.iter fun lv σ₂ => σ₂.cells = c ∧ ∃ items outs e₂, Weak σ₂.env e₂ ∧ Weak e₂ e₀ ∧ ItW g n q.target lv items ∧ out = List.flatten outs ∧
      All2 (fun x o => ∀ c', AsW g F n ⟨e₂, c'⟩ q.target x fun σ₃ => σ₃.cells = c' ∧ ClW g F n elt gs q.ifs σ₃.env o e₂) items outs) ∧ (b = false → out = [] ∧ σ₁.cells = c ∧ Weak σ₁.env e₀)

theorem compTurn_eq {elt : Expr} {gens : List Comprehension} {scope : Scope} {pos : Pos} {d : Nat} {q : Comprehension} {it acc : Value} {env : Env} (hq : gens[d]? = some q) (ha : q.is_async = 0) :
    compTurn (.ListComp elt gens scope pos) d it acc env = (do
      standAt q.iter.pos
      match ← pyNext it with
      | none => pure (.done .next)
      | some v =>
        letOwnedTupleGo q.target it v
        assign q.target env v
        let ok ← testsSem q.ifs true env
        if ok then
          match gens[d + 1]? with
          | some g' =>
            let x ← eval g'.iter env
            standAt g'.iter.pos
            let x ← if g'.is_async != 0 then foldedIterable g'.iter x else foldedSetIterable g'.iter env x
            let _ ← runOwn (.compStart (.ListComp elt gens scope pos) (d + 1) (← holding [x] (if g'.is_async != 0 then asyncIter x else pyIter x)) acc env) env
          | none => (do let _ ← call (.builtin "list.append") [acc, ← eval elt env])
        again (.compLoop (.ListComp elt gens scope pos) d it acc env)) := by
  unfold compTurn
  dsimp only
  rw [hq]
  simp only [ha]
  rfl

theorem nextThen2 {α : Type} {M : Model} {A : Around} {target : Expr} {it : Value} {k1 : Sem α} {k2 : Value → Sem α} {s : Shared} {W : α → Shared → Prop} {E : Value → Shared → Prop} {Q : Option Value → Shared → Prop}
    (h : wpAny M A (nextOf target it) Q (fun _ _ => False) s) (h1 : ∀ s₁, Q none s₁ → wpAny M A k1 W E s₁) (h2 : ∀ v s₁, Q (some v) s₁ → wpAny M A (k2 v) W E s₁) :
    wpAny M A (do match ← pyNext it with | none => k1 | some v => do letOwnedTupleGo target it v; k2 v) W E s := by
  intro Γ p hΓ
  have h0 := h Γ p hΓ
  unfold nextOf at h0
  rw [Sem.wp_bind'] at h0
  rw [Sem.wp_bind']
  refine Sem.wp_mono _ _ _ (fun r p' s' x => ?_) (fun _ _ _ x => x.elim) _ _ h0
  cases r with
  | none => exact h1 s' x Γ p' hΓ
  | some v =>
    dsimp only at x ⊢
    rw [Sem.wp_bind'] at x ⊢
    exact Sem.wp_mono _ _ _ (fun _ p'' s'' y => h2 v s'' y Γ p'' hΓ) (fun _ _ _ y => y.elim) _ _ x
theorem codeAny_compStartW {A : Around} {R : Result → Shared → Prop} {s : Shared} {elt : Expr} {gens : List Comprehension} {scope : Scope} {pos : Pos} {d : Nat} {q : Comprehension} {it : Addr} {acc : Value} {env : Env} {o : Obj}
    (hq : gens[d]? = some q) (ha : q.is_async = 0) (ho : s.heap.get? it = some o) (hself : Selfs g o)
    (h0 : codeAny (model g.prog g.w) A (.compLoop (.ListComp elt gens scope pos) d (.ref it) acc env) R s) :
    codeAny (model g.prog g.w) A (.compStart (.ListComp elt gens scope pos) d (.ref it) acc env) R s := by
  refine codeAny_of_tree ?_
  show wpAny _ _ ((compStart (.ListComp elt gens scope pos) d (.ref it) acc env).onRaise (fun x => do noteFrame x env; standAt theWindowsPlace)) _ _ s
  refine wpAny_notedAt ?_
  unfold compStart
  have hc : (clausesOf (.ListComp elt gens scope pos))[d]? = some q := hq
  rw [hc]
  simp only [Option.elim, ha]
  show wpAny _ _ (ask >>= _) _ _ s
  refine wpAny_bind (wpAny_askSetting (wpAny_ite ?_))
  split
  · first
      | exact wpAny_bind (wpAny_pure (wpAny_pure (And.intro rfl h0)))
      | exact wpAny_pure (And.intro rfl h0)
  · refine wpAny_bind (wpAny_rule ?_)
    exact wpAny_bind (wpAny_standAt (wpAny_bind (hself _ s it _ _ ho (wpAny_pure (And.intro rfl h0)))))

theorem appendW {A : Around} {P : PM} {s : Shared} {Q E : Value → Shared → Prop} {e : List (Str × Loc × LV)} {c1 c2 : List (Addr × Ct)} {acc : Addr} {done : List LV} {v : Value} {lv : LV} (S : St g F P s ⟨e, c1 ++ (acc, .lst done) :: c2⟩) (hv : V P lv v) (hn : done.length ≤ 1000000)
    (q : ∀ s', St g F P s' ⟨e, c1 ++ (acc, .lst (done ++ [lv])) :: c2⟩ → Q .none s') : wpAny (model g.prog g.w) A (call (.builtin "list.append") [.ref acc, v]) Q E s := by
  obtain ⟨vs, hl, hvl⟩ := S.cells acc (.lst done) (List.mem_append.mpr (.inr (.head _)))
  refine wpAny_list_append_plain hl (fun h' hl' sb => q _ ?_) (by rw [hvl.size, sizeLine_eq]; (exact Nat.le_trans (by assumption) (by decide)))
  exact S.setCell (s := s) (h' := h') (t := s.toks) (i' := .lst (done ++ [lv])) ⟨_, hl', by simpa using hvl.append (.cons hv .nil)⟩ sb.extBut (Nat.le_refl _)


noncomputable def emitK (elt : Expr) (gens : List Comprehension) (scope : Scope) (pos : Pos) (d : Nat) (acc : Value) (env : Env) (k : Sem PySem.Fin) : Sem PySem.Fin :=
  match gens[d + 1]? with
  | some g' => do
    let x ← eval g'.iter env
    standAt g'.iter.pos
    let x ← if g'.is_async != 0 then foldedIterable g'.iter x else foldedSetIterable g'.iter env x
    let _ ← runOwn (.compStart (.ListComp elt gens scope pos) (d + 1) (← holding [x] (if g'.is_async != 0 then asyncIter x else pyIter x)) acc env) env
    k
  | none => do
    let _ ← (do let _ ← call (.builtin "list.append") [acc, ← eval elt env])
    k
noncomputable def CTurn (g : GC) (F : FC) (n : Nat) (q : Comprehension) (e₂ : List (Str × Loc × LV)) (C : List LV → List (Addr × Ct) → LS → Prop) (x : LV) (out : List LV) : Prop :=
  ∀ c', AsW g F n ⟨e₂, c'⟩ q.target x fun σ₃ => TsW g F n q.ifs σ₃ fun b σ₄ => (b = true → C out c' σ₄) ∧ (b = false → out = [] ∧ σ₄.cells = c' ∧ Weak σ₄.env e₂)
inductive ClauseAt (g : GC) (F : FC) (n : Nat) (q : Comprehension) (e₂ : List (Str × Loc × LV)) (C : List LV → List (Addr × Ct) → LS → Prop) (it acc : Addr) (c1 c2 : List (Addr × Ct)) (P₀ : PM) (tot : List LV) (k : Nat) (s : Shared) : Prop
  | mk (P : PM) (o : Obj) (items : List LV) (outs : List (List LV)) (done : List LV) (le : LE P₀ P) (S : St g F P s ⟨e₂, (it, .raw o) :: (c1 ++ (acc, .lst done) :: c2)⟩) (hy : Yields g q.target it P o items)
    (hall : All2 (CTurn g F n q e₂ C) items outs) (hd : done ++ outs.flatten = tot) (hk : k = items.length)
inductive ClauseNx (g : GC) (F : FC) (n : Nat) (q : Comprehension) (e₂ : List (Str × Loc × LV)) (C : List LV → List (Addr × Ct) → LS → Prop) (it : Addr) (c : List (Addr × Ct)) (P : PM) (items : List LV) (outs : List (List LV)) (v : Value) (s : Shared) : Prop
  | mk (x : LV) (xs : List LV) (out : List LV) (outs₁ : List (List LV)) (o : Obj) (P₁ : PM) (h1 : items = x :: xs) (h2 : outs = out :: outs₁) (le : LE P P₁) (S : St g F P₁ s ⟨e₂, (it, .raw o) :: c⟩) (hy : Yields g q.target it P₁ o xs) (hv : V P₁ x v)
    (hx : CTurn g F n q e₂ C x out) (hxs : All2 (CTurn g F n q e₂ C) xs outs₁)
theorem clauseW {elt : Expr} {gens : List Comprehension} {scope : Scope} {pos : Pos} {acc : Addr} {A : Around} {d : Nat} {q : Comprehension} {R : Result → Shared → Prop} {it : Addr} {e₂ : List (Str × Loc × LV)} {c1 c2 : List (Addr × Ct)} (C : List LV → List (Addr × Ct) → LS → Prop)
    (hq : gens[d]? = some q) (ha : q.is_async = 0) (r : Room n A)
    (body : ∀ {P : PM} {s : Shared} {σ : LS} {out done : List LV} {o : Obj} {Q : PySem.Fin → Shared → Prop} {E : Value → Shared → Prop} {k : Sem PySem.Fin}, C out ((it, .raw o) :: (c1 ++ (acc, .lst done) :: c2)) σ → done.length + out.length ≤ 1000000 → St g F P s σ →
      (∀ P' s', LE P P' → St g F P' s' ⟨e₂, (it, .raw o) :: (c1 ++ (acc, .lst (done ++ out)) :: c2)⟩ → wpAny (model g.prog g.w) A k Q E s') →
      wpAny (model g.prog g.w) A (emitK elt gens scope pos d (.ref acc) F.env k) Q E s)
    {P₀ : PM} {items : List LV} {outs : List (List LV)} {done : List LV} {o : Obj} {s : Shared} (hn : done.length + outs.flatten.length ≤ 1000000)
    (hall : All2 (CTurn g F n q e₂ C) items outs)
    (S : St g F P₀ s ⟨e₂, (it, .raw o) :: (c1 ++ (acc, .lst done) :: c2)⟩) (hy : Yields g q.target it P₀ o items)
    (fin : ∀ P' s', LE P₀ P' → St g F P' s' ⟨e₂, c1 ++ (acc, .lst (done ++ outs.flatten)) :: c2⟩ → R (.ok .next) s') :
    codeAny (model g.prog g.w) A (.compLoop (.ListComp elt gens scope pos) d (.ref it) (.ref acc) F.env) R s := by
  refine codeAny_loop' rfl (ClauseAt g F n q e₂ C it acc c1 c2 P₀ (done ++ outs.flatten)) ?_ items.length ⟨P₀, o, items, outs, done, .refl P₀, S, hy, hall, rfl, rfl⟩
  rintro k s' ⟨P', o', items', outs', done', le', S', hy', hall', hdn, rfl⟩
  show wpAny _ A ((compTurn (.ListComp elt gens scope pos) d (.ref it) (.ref acc) F.env).onRaise (fun x => do noteFrame x F.env; theTreesLotGoes x)) _ _ s'
  refine wpAny_noted ?_
  rw [compTurn_eq hq ha]
  refine wpAny_bind (wpAny_standAt ?_)
  have hmem : it ∈ muts F ⟨e₂, (it, .raw o') :: (c1 ++ (acc, .lst done') :: c2)⟩ := mem_cell F (σ := ⟨e₂, (it, .raw o') :: (c1 ++ (acc, .lst done') :: c2)⟩) (p := (it, .raw o')) (.head _)
  have hget : s'.heap.get? it = some o' := S'.cells it (.raw o') (.head _)
  have hlen : done'.length + outs'.flatten.length ≤ 1000000 := by
    have := congrArg List.length hdn
    simp only [List.length_append] at this
    lia
  refine nextThen2 (Q := fun v s₁ => match v with
    | none => R (.ok .next) s₁
    | some v => ClauseNx g F n q e₂ C it (c1 ++ (acc, .lst done') :: c2) P' items' outs' v s₁) ?_ ?_ ?_
  · cases hall' with
    | nil =>
      refine hy' A P' s' _ _ r.1 (.refl P') S'.G hget fun h' t he ht => ?_
      have S₂ := S'.lose he t ht
      simp only [List.flatten_nil, List.append_nil] at hdn
      exact fin P' _ le' (hdn ▸ S₂)
    | @cons x out xs outs₁ hx hxs =>
      refine hy' A P' s' _ _ r.1 (.refl P') S'.G hget (S'.mu it hmem).2 (S'.mT it hmem) fun P₁ s₁ v o'' le₁ new G₁ keep hg h2 hv => ?_
      have S₁ := S'.change (c1 := []) (i' := .raw o'') G₁ le₁ new keep hg
      exact ⟨x, xs, out, outs₁, o'', P₁, rfl, rfl, le₁, S₁, h2, hv, hx, hxs⟩
  · intro s₁ h; exact wpAny_pure h
  · rintro v s₁ ⟨x, xs, out, outs₁, o'', P₁, rfl, rfl, le₁, S₁, h2, hv, hx, hxs⟩
    simp only [List.flatten_cons, List.length_append] at hlen hdn
    refine wpAny_bind (hx _ |>.run A P₁ s₁ v _ _ r S₁ hv fun P₂ s₂ σ₂ le₂ S₂ h₂ => wpAny_bind (testsW r h₂ S₂ fun P₃ s₃ σ₃ b le₃ S₃ h₃ => ?_))
    obtain ⟨ht, hf⟩ := h₃
    cases b with
    | false =>
      obtain ⟨ho, hc, hw⟩ := hf rfl
      have S₄ := S₃.weak hw
      rw [hc] at S₄
      refine wpAny_pure (.inl ⟨rfl, xs.length, by simp, P₃, o'', xs, outs₁, done', ((le'.trans le₁).trans le₂).trans le₃, S₄, h2.mono (le₂.trans le₃), hxs, ?_, rfl⟩)
      rw [ho] at hdn; simpa using hdn
    | true =>
      show wpAny _ A (emitK elt gens scope pos d (.ref acc) F.env (again (Code.compLoop (elt.ListComp gens scope pos) d (Value.ref it) (Value.ref acc) F.env))) _ _ s₃
      refine body (ht rfl) (by lia) S₃ fun P₄ s₄ le₄ S₄ => wpAny_pure (.inl ⟨rfl, xs.length, by simp, P₄, o'', xs, outs₁, done' ++ out, (((le'.trans le₁).trans le₂).trans le₃).trans le₄, S₄, h2.mono ((le₂.trans le₃).trans le₄), hxs, ?_, rfl⟩)
      rw [← hdn]; simp
theorem compLoopW {elt : Expr} {gens : List Comprehension} {scope : Scope} {pos : Pos} {acc : Addr} : ∀ (rest : List Comprehension) {A : Around} {d : Nat} {q : Comprehension} {R : Result → Shared → Prop} {it : Addr} {P₀ : PM} {items : List LV} {outs : List (List LV)} {e₂ : List (Str × Loc × LV)} {c1 c2 : List (Addr × Ct)} {done : List LV} {o : Obj} {s : Shared},
    gens.drop d = q :: rest → q.is_async = 0 → Room n A →
    All2 (fun x out => ∀ c', AsW g F n ⟨e₂, c'⟩ q.target x fun σ₃ => σ₃.cells = c' ∧ ClW g F n elt rest q.ifs σ₃.env out e₂) items outs → done.length + outs.flatten.length ≤ 1000000 →
    St g F P₀ s ⟨e₂, (it, .raw o) :: (c1 ++ (acc, .lst done) :: c2)⟩ → Yields g q.target it P₀ o items →
    (∀ P' s', LE P₀ P' → St g F P' s' ⟨e₂, c1 ++ (acc, .lst (done ++ outs.flatten)) :: c2⟩ → R (.ok .next) s') →
    codeAny (model g.prog g.w) A (.compLoop (.ListComp elt gens scope pos) d (.ref it) (.ref acc) F.env) R s := by
  intro rest
  induction rest with
  | nil =>
    intro A d q R it P₀ items outs e₂ c1 c2 done o s hd ha r hall hn S hy out
    have hq : gens[d]? = some q := by
      have := congrArg (fun l => l[0]?) hd
      simpa [List.getElem?_drop] using this
    have hq' : gens[d + 1]? = none := by
      have := congrArg (fun l => l[1]?) hd
      simpa [List.getElem?_drop] using this
    refine clauseW (C := fun out c σ => EvW g F n σ elt fun y σ₂ => out = [y] ∧ σ₂.cells = c ∧ Weak σ₂.env e₂) hq ha r (fun {P s σ out done o Q E k} hC hn S q => ?_) hn ?_ S hy out
    · unfold emitK
      rw [hq']
      refine wpAny_bind (wpAny_bind (hC |>.run A P s _ _ r S fun P₁ s₁ σ₁ y v le₁ S₁ hv hy => ?_))
      obtain ⟨rfl, hc, hw⟩ := hy
      have S₂ := S₁.weak hw
      rw [hc] at S₂
      exact wpAny_bind (appendW (c1 := (_, .raw _) :: c1) S₂ hv (by simp at hn; (exact Nat.le_trans (by assumption) (by decide))) fun s' S' => wpAny_pure (q P₁ s' le₁ S'))
    · refine hall.imp fun x o h c' => ?_
      refine ⟨?_⟩; intro A P s v Q E r S hv q
      refine h c' |>.run A P s v Q E r S hv fun P' s' σ' le' S' ⟨hc, hcl⟩ => q P' s' σ' le' S' ?_
      unfold ClW at hcl
      obtain ⟨e, c⟩ := σ'
      subst hc
      exact hcl c
  | cons q' rest ih =>
    intro A d q R it P₀ items outs e₂ c1 c2 done o s hd ha r hall hn S hy out
    have hq : gens[d]? = some q := by
      have := congrArg (fun l => l[0]?) hd
      simpa [List.getElem?_drop] using this
    have hq' : gens[d + 1]? = some q' := by
      have := congrArg (fun l => l[1]?) hd
      simpa [List.getElem?_drop] using this
    have hd' : gens.drop (d + 1) = q' :: rest := by
      have := congrArg List.tail hd
      simpa [List.tail_drop] using this
    refine clauseW (C := fun out c σ => (q'.is_async = 0 ∧ ∀ x, foldedSetIterable q'.iter F.env x = pure x) ∧ EvW g F n σ q'.iter fun lv σ₂ => σ₂.cells = c ∧ ∃ items outs e₃, Weak σ₂.env e₃ ∧ Weak e₃ e₂ ∧ ItW g n q'.target lv items ∧ out = List.flatten outs ∧
      All2 (fun x o => ∀ c', AsW g F n ⟨e₃, c'⟩ q'.target x fun σ₃ => σ₃.cells = c' ∧ ClW g F n elt rest q'.ifs σ₃.env o e₃) items outs) hq ha r (fun {P s σ out done o Q E k} hC hn S q => ?_) hn ?_ S hy out
    · unfold emitK
      rw [hq']
      obtain ⟨⟨ha', hfold⟩, hev⟩ := hC
      refine wpAny_bind (hev |>.run A P s _ _ r S fun P₁ s₁ σ₁ lv v le₁ S₁ hv hy => ?_)
      obtain ⟨hc, items', outs', e₃, w1, w2, hit, rfl, hall'⟩ := hy
      have S₂ := S₁.weak w1
      rw [hc] at S₂
      refine wpAny_bind (wpAny_standAt ?_)
      simp only [ha', bne_self_eq_false, Bool.false_eq_true, if_false, hfold]
      refine wpAny_bind (wpAny_pure (wpAny_bind (wpAny_holding (hit A P₁ s₁ v _ _ r S₂.G hv fun o' hf hself hy' => ?_))))
      have S₃ := S₂.newCell o' (i := .raw o') (Heap.get?_push_size _ hf)
      refine wpAny_bind (wpAny_runOwn (codeAny_compStartW hq' ha' (Heap.get?_push_size _ hf) hself ?_))
      refine ih (c1 := (_, .raw _) :: c1) hd' ha' r hall' hn S₃ hy' fun P₄ s₄ le₄ S₄ => ?_
      exact q P₄ s₄ (le₁.trans le₄) (S₄.weak w2)
    · refine hall.imp fun x o h c' => ?_
      refine ⟨?_⟩; intro A P s v Q E r S hv q
      refine h c' |>.run A P s v Q E r S hv fun P' s' σ' le' S' ⟨hc, hcl⟩ => q P' s' σ' le' S' ?_
      unfold ClW at hcl
      obtain ⟨e, c⟩ := σ'
      subst hc
      obtain ⟨h1, h2, h3⟩ := hcl
      exact (h3 c).mono fun b σ₁ hb => ⟨fun e => ⟨⟨h1, h2⟩, hb.1 e⟩, hb.2⟩
end
end LL
end

section
open PySem PySem.W PySem.Calls PyProof.Rows
set_option Elab.async false
set_option maxRecDepth 100000
set_option linter.unusedVariables false
set_option linter.unusedSimpArgs false
namespace LL
section
variable {g : GC} {F : FC} {n : Nat} {σ : LS}
theorem St.adopt {P : PM} {s : Shared} (S : St g F P s σ) {a : Addr} {i : Ct} (hm : a ∉ muts F σ) (hB : F.B a = none) (hP : P a = none) (hv : CtOk P s.heap a i) : St g F P s ⟨σ.env, (a, i) :: σ.cells⟩ := by
  have em : (muts F ⟨σ.env, (a, i) :: σ.cells⟩).Perm (a :: muts F σ) := by
    unfold muts
    simp only [List.map_cons]
    exact (List.Perm.cons _ List.perm_middle).trans (List.Perm.swap _ _ _)
  refine ⟨S.G, S.kind, S.glob, S.blt, S.old, S.bT, S.new, em.nodup_iff.mpr (List.nodup_cons.mpr ⟨hm, S.nd⟩), fun b hb => ?_, S.ownd, S.owns, S.locs, S.names, fun b c hc => ?_⟩
  · rcases List.mem_cons.mp (em.mem_iff.mp hb) with h | h
    · subst h; exact ⟨hB, hP⟩
    · exact S.mu b h
  · rcases List.mem_cons.mp hc with h | h
    · cases h; exact hv
    · exact S.cells b c h

noncomputable def freeOk (names : List (Str × NameKind)) (e : List (Str × Loc × LV)) : Bool := names.all fun p => p.2 != .free || e.any fun q => q.1 == p.1 && (q.2.1 == .own || q.2.1 == .fixed)
noncomputable def clOf (env : Env) : List (Str × NameKind) → List (Str × Addr) → List (Str × Addr)
  | [], cs => cs
  | (x, k) :: r, cs => clOf env r (if k == .free then (x, (env.cells.lookup x).getD 0) :: cs else cs)
theorem closureFor_of {scope : Scope} {env : Env} (h : ∀ x, (x, NameKind.free) ∈ scope.names → ∃ c, env.cells.lookup x = some c) : closureFor scope env = pure (clOf env scope.names []) := by
  unfold closureFor
  have : ∀ (l : List (Str × NameKind)) (cs : List (Str × Addr)), (∀ x, (x, NameKind.free) ∈ l → ∃ c, env.cells.lookup x = some c) →
      (forIn l cs fun (p : Str × NameKind) (r : List (Str × Addr)) => match p with
        | (name, kind) => if (kind == .free) = true then do let a ← cellOf env name; pure (ForInStep.yield ((name, a) :: r)) else pure (ForInStep.yield r)) = (pure (clOf env l cs) : Sem _) := by
    intro l
    induction l with
    | nil => intro cs _; rfl
    | cons p r ih =>
      obtain ⟨x, k⟩ := p
      intro cs h
      rw [List.forIn_cons]
      unfold clOf
      dsimp only
      by_cases hk : (k == .free) = true
      · obtain ⟨c, hc⟩ := h x (by rw [beq_iff_eq] at hk; rw [hk]; exact .head _)
        simp only [hk, if_true, cellOf, hc, pure_bind, Option.getD_some]
        exact ih _ fun y hy => h y (.tail _ hy)
      · simp only [hk, if_false, pure_bind]
        exact ih _ fun y hy => h y (.tail _ hy)
  have := this scope.names [] h
  simp only [bind_pure] at this ⊢
  exact this
theorem clOf_lookup {env : Env} : ∀ {l : List (Str × NameKind)} {cs : List (Str × Addr)} {x : Str} {c : Addr}, (l.map (·.1)).Nodup → ((x, NameKind.free) ∈ l ∨ (x ∉ l.map (·.1) ∧ cs.lookup x = some c)) → env.cells.lookup x = some c → (clOf env l cs).lookup x = some c
  | [], cs, x, c, _, h, _ => by rcases h with h | h; · cases h
                                exact h.2
  | (y, k) :: r, cs, x, c, nd, h, hc => by
    have nd := List.nodup_cons.mp nd
    unfold clOf
    refine clOf_lookup nd.2 ?_ hc
    rcases h with h | ⟨h1, h2⟩
    · rcases List.mem_cons.mp h with h | h
      · cases h
        refine .inr ⟨nd.1, ?_⟩
        simp [List.lookup_cons, hc]
      · exact .inl h
    · simp only [List.map_cons, List.mem_cons, not_or] at h1
      refine .inr ⟨h1.2, ?_⟩
      split
      · rw [List.lookup_cons]
        have : (x == y) = false := by rw [beq_eq_false_iff_ne]; exact h1.1
        rw [this]; exact h2
      · exact h2
theorem freeCells {P : PM} {s : Shared} (S : St g F P s σ) {names : List (Str × NameKind)} (h : freeOk names σ.env = true) : ∀ x, (x, NameKind.free) ∈ names → ∃ c, F.env.cells.lookup x = some c := by
  intro x hx
  have := List.all_eq_true.mp h _ hx
  simp only [bne_self_eq_false, Bool.false_or, List.any_eq_true, Bool.and_eq_true, Bool.or_eq_true, beq_iff_eq] at this
  obtain ⟨⟨y, l, lv⟩, hm, rfl, hl⟩ := this
  obtain ⟨m, _, hs⟩ := S.locs
  obtain ⟨_, k⟩ := hs _ _ _ hm
  dsimp only at hl
  rcases hl with rfl | rfl
  · obtain ⟨_, c, _, h1, _⟩ := k; exact ⟨c, h1⟩
  · obtain ⟨_, _, c, _, _, h1, _⟩ := k; exact ⟨c, h1⟩
theorem freeVals {P : PM} {s : Shared} (S : St g F P s σ) {names : List (Str × NameKind)} {gt : Str → Option LV} (nd : (names.map (·.1)).Nodup) : ∀ x lv, (x, NameKind.free) ∈ names → baseOne σ.env gt x .free = some (.fixed, lv) →
    ∃ c o v, (clOf F.env names []).lookup x = some c ∧ s.heap.get? c = some o ∧ c ≠ g.T ∧ o.data = .cell (some v) ∧ V P lv v := by
  intro x lv hx hb
  have key : ∃ l, (x, l, lv) ∈ σ.env ∧ (l = .own ∨ l = .fixed) ∧ lv ≠ .undef := by
    simp only [baseOne] at hb
    split at hb
    · rename_i y lv' he
      split at hb
      · cases hb
      · rename_i hu
        cases hb
        have h1 := List.find?_some he
        have h2 := List.mem_of_find?_eq_some he
        simp only [beq_iff_eq] at h1
        subst h1
        exact ⟨_, h2, .inl rfl, fun e => hu (by rw [e]; rfl)⟩
    · rename_i y lv' he
      split at hb
      · cases hb
      · rename_i hu
        cases hb
        have h1 := List.find?_some he
        have h2 := List.mem_of_find?_eq_some he
        simp only [beq_iff_eq] at h1
        subst h1
        exact ⟨_, h2, .inr rfl, fun e => hu (by rw [e]; rfl)⟩
    · cases hb
  obtain ⟨l, hm, hl, hu⟩ := key
  obtain ⟨m, _, hs⟩ := S.locs
  obtain ⟨_, k⟩ := hs _ _ _ hm
  rcases hl with rfl | rfl
  · obtain ⟨_, c, v₀, h1, h2, ⟨o, h3, h4⟩, h5⟩ := k
    obtain ⟨v, rfl, h6⟩ := h5.resolve_left hu
    exact ⟨c, o, v, clOf_lookup nd (.inl hx) h1, h3, S.mT _ (mem_own σ h2), h4, h6⟩
  · obtain ⟨_, _, c, o, v, h1, ⟨h2, h2'⟩, h3, h4⟩ := k
    exact ⟨c, o, v, clOf_lookup nd (.inl hx) h1, S.old _ _ h2' h2, h2', h3, h4⟩

theorem compFrame {A : Around} {P₁ : PM} {s₁ : Shared} {σ₁ : LS} (S₁ : St g F P₁ s₁ σ₁) {P : PM} {s : Shared} (G : GSt g P s) (hP : P = P₁) (hB : ∀ b o, s₁.heap.get? b = some o → s.heap.get? b = some o) {scope : Scope} {gt : Str → Option LV} (hgt : GtOk g gt) (hok : namesOk scope.names = true) (hk : scope.kind = .function)
    {Q : Env → Shared → Prop} {E : Value → Shared → Prop}
    (q : ∀ cenv s' F', F'.env = { cenv with scope := relabel scope F.env } → F'.B = s₁.heap.get? → F'.P0 = P → (∀ a ∈ muts F' ⟨[], []⟩, s.heap.objs.size ≤ a) → (∀ b o, s.heap.get? b = some o → s'.heap.get? b = some o) → St g F' P s' ⟨baseEnv σ₁.env gt scope.names, []⟩ → Q cenv s') :
    wpAny (model g.prog g.w) A (newFunctionEnv scope F.env.globals (clOf F.env scope.names []) [] F.env.qual none .none (some F.env)) Q E s := by
  have hok' := hok
  simp only [namesOk, Bool.and_eq_true, decide_eq_true_eq] at hok'
  rw [S₁.glob]
  unfold newFunctionEnv
  refine wpAny_bind (wpAny_alloc ?_)
  refine wpAny_bind (wpAny_layCells _ (fun name kind cells => by cases hkc : kind == NameKind.cell <;> simp [hkc]) _ _ _ _ ?_)
  rw [show ({ s with heap := s.heap.push { cls := .type (if (some F.env).isSome then "dict" else "frame"), data := .dict #[] } } : Shared).heap.objs.size = s.heap.objs.size + 1 from Heap.size_push ..]
  refine wpAny_bind ?_
  rw [List.forIn_nil]
  refine wpAny_pure (wpAny_pure ?_)
  let env' : Env := { newEnv scope s.heap.objs.size mainGlobals (cellsFrom (s.heap.objs.size + 1) scope.names (clOf F.env scope.names [])) F.env.qual none .none (some F.env) builtinsNs with scope := relabel scope F.env }
  have kinds : ∀ x k, (x, k) ∈ scope.names → env'.kindOf x = some k ∨ (k = .free ∧ env'.kindOf x = some .cell) := by
    intro x k hx
    have nd' : ((relabel scope F.env).names.map (·.1)).Nodup := by
      have : (relabel scope F.env).names.map (·.1) = scope.names.map (·.1) := by
        unfold relabel
        simp only [List.map_map]
        refine List.map_congr_left fun p _ => ?_
        simp only [Function.comp]
        split <;> rfl
      rw [this]; exact hok'.1
    have hm : (x, if (k == .free && F.env.scope.kind == .function && F.env.kindOf x == some .cell) then .cell else k) ∈ (relabel scope F.env).names := by
      unfold relabel
      refine List.mem_map.mpr ⟨(x, k), hx, ?_⟩
      dsimp only
      split <;> rfl
    have := lookup_of_nodup nd' hm
    show env'.scope.names.lookup x = _ ∨ _ ∧ env'.scope.names.lookup x = _
    by_cases hc : (k == .free && F.env.scope.kind == .function && F.env.kindOf x == some .cell) = true
    · rw [if_pos hc] at this
      simp only [Bool.and_eq_true, beq_iff_eq] at hc
      exact .inr ⟨hc.1.1, this⟩
    · rw [if_neg hc] at this
      exact .inl this
  have S := frame_start (B := s₁.heap.get?) G hB (let ⟨ps, h1, _⟩ := S₁.G.tab; ⟨_, h1⟩) hgt hok (outer := σ₁.env) (cl := clOf F.env scope.names []) (cls := .type "dict") (env := env') rfl rfl rfl (by show F.env.builtins = _; exact S₁.blt) hk kinds (.inl rfl) (by rw [hP]; exact freeVals S₁ hok'.1)
  refine q _ _ _ ?_ rfl rfl (fun a ha => ?_) (fun b o e => ?_) S
  · rfl
  · have ok := cellsFrom_ok scope.names (s.heap.push { cls := .type "dict", data := .dict #[] }) (s.heap.objs.size + 1) [] ⟨fun _ _ hm => (nomatch hm), List.Pairwise.nil⟩ (by rw [Heap.size_push]; exact Nat.le_refl _)
    rw [Heap.size_push] at ok
    unfold muts at ha
    simp only [List.map_nil, List.append_nil] at ha
    rcases List.mem_cons.mp ha with h | h
    · rw [h]; exact Nat.le_refl _
    · obtain ⟨p, hp, e⟩ := List.mem_map.mp h
      have := (ok.empty p.1 p.2 hp).2
      rw [← e]; (exact Nat.le_of_lt (by assumption))
  · exact pushCells_keeps _ _ b o (Heap.get?_push_of_some _ e)

theorem compW {A : Around} {P : PM} {s : Shared} (r : Room n A) (S : St g F P s σ) {elt target iter : Expr} {ifs : List Expr} {gs : List Comprehension} {scope : Scope} {pos : Pos} {gt : Str → Option LV} (hgt : GtOk g gt) (hok : namesOk scope.names = true) (hk : scope.kind = .function)
    (hs : ∀ x, foldedSetIterable iter F.env x = pure x) (hfree : freeOk scope.names σ.env = true) {Q E : Value → Shared → Prop} {use : Option (Value → Sem Unit)} {Φ : LV → LS → Prop} {p0 : Pos}
    (h : EvW g F n σ iter fun lv σ₁ => ∃ items outs, ItW g n target lv items ∧ outs.flatten.length ≤ 1000000 ∧
      (∀ F' : FC, All2 (fun x out => ∀ c', AsW g F' n ⟨baseEnv σ₁.env gt scope.names, c'⟩ target x fun σ₃ => σ₃.cells = c' ∧ ClW g F' n elt gs ifs σ₃.env out (baseEnv σ₁.env gt scope.names)) items outs) ∧ Φ (.lst outs.flatten) σ₁)
    (q0 : use = none → ∀ P' s' σ' lv v, LE P P' → St g F P' s' σ' → V P' lv v → Φ lv σ' → Q v s')
    (q1 : ∀ u, use = some u → ∀ P' s' σ' lv v C oC m, LE P P' → St g F P' s' ⟨σ'.env, (C, .raw oC) :: σ'.cells⟩ → s'.heap.Ns C m → V P' lv v → Φ lv σ' → wpAny (model g.prog g.w) A (u v) (fun _ s'' => ∃ m, s''.heap.Ns C m ∧ ∀ h', Heap.SameBut C s''.heap h' → Q .none { s'' with heap := h' }) E s') :
    wpAny (model g.prog g.w) A (comprehension (.ListComp elt (⟨target, iter, ifs, 0⟩ :: gs) scope pos) scope F.env p0 (newList []) false (eval iter F.env) use) Q E s := by
  have hok' := hok
  simp only [namesOk, Bool.and_eq_true, decide_eq_true_eq] at hok'
  refine wpAny_comprehension_free (cl := clOf F.env scope.names []) rfl hs (closureFor_of (freeCells S hfree)) hk (fun x hx hl => by rw [lookup_of_nodup hok'.1 hx, hl])
    (h |>.run A P s _ E r S fun P₁ s₁ σ₁ lv v le₁ S₁ hv ⟨items, outs, hit, hn, hall, hΦ⟩ => hit A P₁ s₁ v _ E r S₁.G hv fun o hf hself hy => wpAny_newObj_type ?_)
  dsimp only
  generalize hi : s₁.heap.objs.size = it at hy
  let oa : Obj := { cls := .type "list", data := .seq ([] : List Value).toArray }
  have e1 : (s₁.heap.push o).objs.size = it + 1 := by rw [Heap.size_push, hi]
  have G₂ : GSt g P₁ { s₁ with heap := (s₁.heap.push o).push oa } := (S₁.G.ext (t := s₁.toks) (h' := (s₁.heap.push o).push oa) (fun b o' e => Heap.get?_push_of_some _ (Heap.get?_push_of_some _ e)) (Nat.le_refl _)).1
  refine compFrame S₁ (P := P₁) (s := { s₁ with heap := (s₁.heap.push o).push oa }) G₂ rfl (fun b o' e => Heap.get?_push_of_some _ (Heap.get?_push_of_some _ e)) hgt hok hk fun cenv s₄ F' hF' hB' hP' hab keep S₄ => ?_
  have none_of : ∀ a, it ≤ a → s₁.heap.get? a = none := fun a ha => by
    cases e : s₁.heap.get? a with
    | none => rfl
    | some o' => exact absurd (Nat.lt_of_lt_of_le (Heap.lt_size e) (Nat.le_trans (Nat.le_of_eq hi) ha)) (Nat.lt_irrefl _)
  have P_none : ∀ a, s₁.heap.get? a = none → P₁ a = none := fun a ha => by
    cases e : P₁ a with
    | none => rfl
    | some o => rw [S₁.G.pre a o e] at ha; cases ha
  have sz : ((s₁.heap.push o).push oa).objs.size = it + 2 := by rw [Heap.size_push, e1]
  have git : s₄.heap.get? it = some o := keep _ _ (by rw [← hi]; exact Heap.get?_push_of_some _ (Heap.get?_push_size _ hf))
  have gacc : s₄.heap.get? (it + 1) = some oa := keep _ _ (by rw [← e1]; exact Heap.get?_push_size _ rfl)
  have nm : ∀ a, a < it + 2 → a ∉ muts F' ⟨[], []⟩ := fun a ha hm => by have := hab a hm; dsimp only at this; rw [sz] at this; lia
  have S₅ := S₄.adopt (a := it + 1) (i := .lst []) (nm _ (by lia)) (by rw [hB']; exact none_of _ (by lia)) (P_none _ (none_of _ (by lia))) ⟨#[], ⟨0, gacc⟩, .nil⟩
  have S₆ := S₅.adopt (a := it) (i := .raw o) (fun hm => by
    unfold muts at hm
    simp only [List.map_cons, List.map_nil, List.mem_cons, List.mem_append, List.not_mem_nil, or_false] at hm
    rcases hm with h | h | h
    · exact nm it (by lia) (by unfold muts; rw [h]; exact .head _)
    · exact nm it (by lia) (by unfold muts; exact .tail _ (List.mem_append.mpr (.inl h)))
    · exact absurd h (Nat.ne_of_lt (Nat.lt_succ_self _))) (by rw [hB']; exact none_of _ (by lia)) (P_none _ (none_of _ (by lia))) git
  rw [← hF']
  rw [e1]
  refine codeAny_compStartW (q := ⟨target, iter, ifs, 0⟩) rfl rfl git hself ?_
  refine compLoopW (F := F') (c1 := []) (c2 := []) (q := ⟨target, iter, ifs, 0⟩) gs rfl rfl r (hall F') (by simpa using hn) S₆ hy fun P₇ s₇ le₇ S₇ => ?_
  simp only [List.nil_append] at S₇
  obtain ⟨P₈, le₈, hacc, S₈⟩ := S₇.freeze (c1 := []) (.refl _)
  have R := S₈.leave hB' hP' (le₇.trans le₈)
  have S₉ := S₁.grow S₈.G R
  have hC : F'.env.locals = cenv.locals := by rw [hF']
  have hCB : s₁.heap.get? cenv.locals = none := by rw [← hC, ← hB']; exact (S₈.mu _ (mem_loc F' _)).1
  obtain ⟨f1, f2, f3⟩ := S₁.fresh hCB
  obtain ⟨oC, hoC⟩ := S₈.mget _ (mem_loc F' _)
  obtain ⟨m, hm, _⟩ := S₈.locs
  rw [hC] at hoC hm
  have Sx := S₉.adopt (a := cenv.locals) (i := .raw oC) f3 f1 (by rw [← hC]; exact (S₈.mu _ (mem_loc F' _)).2) hoC
  have le₉ : LE P P₈ := (le₁.trans le₇).trans le₈
  unfold compPost
  cases use with
  | none =>
    refine ⟨m, hm, fun h' sb => ?_⟩
    exact q0 rfl P₈ _ σ₁ _ _ le₉ (Sx.lose sb.extBut _ (Nat.le_refl _)) hacc hΦ
  | some u => exact q1 u rfl P₈ s₇ σ₁ _ _ cenv.locals oC m le₉ Sx hm hacc hΦ
theorem ev_comp {elt target iter : Expr} {ifs : List Expr} {gs : List Comprehension} {scope : Scope} {pos : Pos} {gt : Str → Option LV} {Φ : LV → LS → Prop} (hgt : GtOk g gt) (hok : namesOk scope.names = true) (hk : scope.kind = .function)
    (hs : ∀ x, foldedSetIterable iter F.env x = pure x) (hfree : freeOk scope.names σ.env = true)
    (h : EvW g F n σ iter fun lv σ₁ => ∃ items outs, ItW g n target lv items ∧ outs.flatten.length ≤ 1000000 ∧
      (∀ F' : FC, All2 (fun x out => ∀ c', AsW g F' n ⟨baseEnv σ₁.env gt scope.names, c'⟩ target x fun σ₃ => σ₃.cells = c' ∧ ClW g F' n elt gs ifs σ₃.env out (baseEnv σ₁.env gt scope.names)) items outs) ∧ Φ (.lst outs.flatten) σ₁) :
    EvW g F n σ (.ListComp elt (⟨target, iter, ifs, 0⟩ :: gs) scope pos) Φ := by
  refine ⟨?_⟩; intro A P s Q E r S q
  rw [eval_ListComp]
  exact compW r S hgt hok hk hs hfree h (fun _ => q) fun u hu => nomatch hu
theorem swaps_on {P : PM} {s : Shared} (S : St g F P s σ) {elt : Expr} {gens : List Comprehension} {scope : Scope} {pos py : Pos} {y : Str} {w : LV} {line : Nat} (hm : (y, .local, w) ∈ σ.env) (hst : (py.line == pos.line && !(scope.names.any fun p => p.1 == y && (p.2 == .local || p.2 == .cell))) = true) :
    swapsWith (.ListComp elt gens scope pos) (some (.Name y py)) line F.env = pure true := by
  obtain ⟨m, _, hs⟩ := S.locs
  obtain ⟨_, hk, _⟩ := hs _ _ _ hm
  simp only [Bool.and_eq_true, Bool.not_eq_true'] at hst
  have h3 : (Expr.ListComp elt gens scope pos).pos.line = pos.line := rfl
  unfold swapsWith
  simp only [Env.blockKind, S.kind, ScopeKind.isAnnotationScope, hk, h3, hst.1]
  have : (scope.names.any fun x => match x with | (n, k) => n == y && (k == .local || k == .cell)) = false := hst.2
  rw [this]
  rfl
theorem swaps_off {P : PM} {s : Shared} (S : St g F P s σ) {elt : Expr} {gens : List Comprehension} {scope : Scope} {pos py : Pos} {y : Str} {w : LV} {line : Nat} (hm : (y, .own, w) ∈ σ.env) :
    swapsWith (.ListComp elt gens scope pos) (some (.Name y py)) line F.env = pure false := by
  obtain ⟨m, _, hs⟩ := S.locs
  obtain ⟨_, hk, _⟩ := hs _ _ _ hm
  unfold swapsWith
  simp only [Env.blockKind, S.kind, ScopeKind.isAnnotationScope, hk]
  rfl
theorem ex_assign_own {x : Str} {p pos cpos : Pos} {elt : Expr} {gens : List Comprehension} {scope : Scope} {w : LV} {rest : List Stmt} {Φ : LFl → LS → Prop} (hm : (x, .own, w) ∈ σ.env)
    (h : EvW g F n σ (.ListComp elt gens scope cpos) fun lv σ₁ => ∃ l env', Upd σ₁.env x l lv env' ∧ (l = .local ∨ l = .own) ∧ ExW g F n ⟨env', σ₁.cells⟩ rest Φ) : ExW g F n σ (.Assign [.Name x p] (.ListComp elt gens scope cpos) pos :: rest) Φ := by
  refine ex_step fun A P s Q E r S q1 _ => ?_
  refine wpAny_Assign_Name (h |>.run A P s _ E r S fun P₁ s₁ σ₁ lv v le₁ S₁ h₁ ⟨l, env', u, hl, k⟩ => ?_) (swaps_off S hm)
  exact storeW S₁ u hl h₁ fun s' S' => q1 P₁ s' _ le₁ S' k
theorem ex_assign_comp {elt target iter : Expr} {ifs : List Expr} {gs : List Comprehension} {scope : Scope} {pos spos py : Pos} {y : Str} {rest : List Stmt} {gt : Str → Option LV} {Φ : LFl → LS → Prop} {w : LV} (hm : (y, .local, w) ∈ σ.env) (hst : (py.line == pos.line && !(scope.names.any fun p => p.1 == y && (p.2 == .local || p.2 == .cell))) = true)
    (hgt : GtOk g gt) (hok : namesOk scope.names = true) (hk : scope.kind = .function)
    (hs : ∀ x, foldedSetIterable iter F.env x = pure x) (hfree : freeOk scope.names σ.env = true)
    (h : EvW g F n σ iter fun lv σ₁ => ∃ items outs, ItW g n target lv items ∧ outs.flatten.length ≤ 1000000 ∧
      (∀ F' : FC, All2 (fun x out => ∀ c', AsW g F' n ⟨baseEnv σ₁.env gt scope.names, c'⟩ target x fun σ₃ => σ₃.cells = c' ∧ ClW g F' n elt gs ifs σ₃.env out (baseEnv σ₁.env gt scope.names)) items outs) ∧
      ∃ l env', Upd σ₁.env y l (.lst outs.flatten) env' ∧ (l = .local ∨ l = .own) ∧ ExW g F n ⟨env', σ₁.cells⟩ rest Φ) :
    ExW g F n σ (.Assign [.Name y py] (.ListComp elt (⟨target, iter, ifs, 0⟩ :: gs) scope pos) spos :: rest) Φ := by
  refine ex_step fun A P s Q E r S q1 _ => ?_
  rw [exec_Assign_Name_used _ _ _ _ (swaps_on S hm hst)]
  refine wpAny_bind (wpAny_standAt (wpAny_bind ?_))
  show wpAny _ A (do let _ ← comprehension (.ListComp elt (⟨target, iter, ifs, 0⟩ :: gs) scope pos) scope F.env _ (newList []) false (eval iter F.env) (some (assign (.Name y py) F.env))) _ _ s
  refine wpAny_bind (wpAny_mono (compW (Q := fun _ s' => Q .next s') (use := some (assign (.Name y py) F.env)) (E := E) (Φ := fun lv σ₁ => ∃ l env', Upd σ₁.env y l lv env' ∧ (l = .local ∨ l = .own) ∧ ExW g F n ⟨env', σ₁.cells⟩ rest Φ) r S hgt hok hk hs hfree h (fun e => nomatch e) ?_) (fun _ s' hq => wpAny_pure (wpAny_pure hq)) fun _ _ e => e)
  intro u hu P' s' σ' lv v C oC m le S' hm hv ⟨l, env', up, hl, k⟩
  cases hu
  refine wpAny_assign_Name (storeW S' (env' := env') up hl hv fun s'' S'' => ?_)
  have hC := S''.cells C (.raw oC) (.head _)
  have hC' := S'.cells C (.raw oC) (.head _)
  obtain ⟨o, es, ep, ho, r1, r2, r3⟩ := hm
  have : o = oC := by rw [show s'.heap.get? C = some oC from hC'] at ho; cases ho; rfl
  subst this
  refine ⟨m, ⟨o, es, ep, hC, r1, r2, r3⟩, fun h' sb => ?_⟩
  exact q1 P' _ ⟨env', σ'.cells⟩ le (S''.lose sb.extBut _ (Nat.le_refl _)) k
end
end LL
end

section
open PySem PySem.W PySem.Calls PyProof.Rows
set_option Elab.async false
set_option maxRecDepth 100000
set_option linter.unusedVariables false
set_option linter.unusedSimpArgs false
namespace LL
section
variable {g : GC} {F : FC} {n : Nat} {σ : LS}

theorem ev_nat {i : Int} {m k : Nat} {pos : Pos} {Φ : LV → LS → Prop} (hi : i = (m : Int)) (h : Φ (.int m) σ) : EvW g F n σ (.Constant (.int i) k pos) Φ := ev_int (hi ▸ h)
theorem ev_strl {x : Str} {l : List Nat} {k : Nat} {pos : Pos} {Φ : LV → LS → Prop} (hl : x.cps.toList = l) (h : Φ (.str l) σ) : EvW g F n σ (.Constant (.str x) k pos) Φ := ev_str (hl ▸ h)
theorem pr_addN {a b : Nat} {Φ : LV → Prop} (h : Φ (.int ((a + b : Nat) : Int))) : PrW g n [.int a, .int b] (bin .Add) Φ := pr_add (by rw [← Int.natCast_add]; exact h)
theorem pr_iaddN {a b : Nat} {Φ : LV → Prop} (h : Φ (.int ((a + b : Nat) : Int))) : PrW g n [.int a, .int b] (ibin .Add) Φ := pr_iadd (by rw [← Int.natCast_add]; exact h)
theorem pr_ltN {a b : Nat} {Φ : LV → Prop} (h : Φ (.bool (decide (a < b)))) : PrW g n [.int a, .int b] (cmp .Lt) Φ := pr_lt (by simpa using h)
theorem pr_gtN {a b : Nat} {Φ : LV → Prop} (h : Φ (.bool (decide (b < a)))) : PrW g n [.int a, .int b] (cmp .Gt) Φ := pr_gt (by simpa using h)
theorem pr_leN {a b : Nat} {Φ : LV → Prop} (h : Φ (.bool (decide (a ≤ b)))) : PrW g n [.int a, .int b] (cmp .LtE) Φ := pr_le (by simpa using h)
theorem pr_geN {a b : Nat} {Φ : LV → Prop} (h : Φ (.bool (decide (b ≤ a)))) : PrW g n [.int a, .int b] (cmp .GtE) Φ := pr_ge (by simpa using h)
theorem pr_eqN {a b : Nat} {Φ : LV → Prop} (h : Φ (.bool (a == b))) : PrW g n [.int a, .int b] (cmp .Eq) Φ := pr_eq (by
  have : ((a : Int) == (b : Int)) = (a == b) := by rw [Bool.eq_iff_iff]; simp; lia
  rw [this]; exact h)
theorem si_strN {value slice : Expr} {x : List Nat} {k c : Nat} {Φ : LV → Prop} (hc : x[k]? = some c) (hk : k ≤ 1000000) (h : Φ (.str [c])) : PrW g n [.str x, .int k] (sub value slice) Φ :=
  si_str (seqIndex_nat (List.getElem?_eq_some_iff.mp hc).1) hc ⟨by lia, by lia⟩ h
theorem part_nat {i : Nat} : (LV.int (i : Int)).part = some (some (i : Int)) := rfl
noncomputable def mid {α : Type} (x : List α) (a b : Nat) : List α := (x.drop a).take (b - a)
theorem clipAt_nat (m i : Nat) : clipAt m (i : Int) = min i m := by
  have := clipAt_cast m (i : Int)
  lia
theorem cut_nat {α : Type} (x : List α) (a b : Nat) : cut x (some (a : Int)) (some (b : Int)) = mid x a b := by
  unfold cut mid
  simp only [Option.elim, clipAt_nat]
  by_cases h : a ≤ x.length
  · rw [Nat.min_eq_left h]
    by_cases h2 : b ≤ x.length
    · rw [Nat.min_eq_left h2]
    · rw [Nat.min_eq_right (by lia), List.take_of_length_le (by simp), List.take_of_length_le (by simp; lia)]
  · rw [List.drop_of_length_le (by lia), List.drop_of_length_le (l := x) (by lia)]
    simp
theorem si_str_mid {value slice : Expr} {x : List Nat} {a b : Nat} {Φ : LV → Prop} (hn : x.length ≤ 1000000) (h : Φ (.str (mid x a b))) : PrW g n [.str x, .slc (.int a) (.int b)] (sub value slice) Φ :=
  si_str_cut hn part_nat part_nat (by rw [cut_nat]; exact h)
theorem interactive_off {P : PM} {s : Shared} (S : St g F P s σ) : interactive F.env = false := by
  unfold interactive; rw [S.kind]; rfl
theorem ex_expr {e : Expr} {pos : Pos} {rest : List Stmt} {Φ : LFl → LS → Prop} (hs : swapsWith e none pos.line F.env = pure false) (h : EvW g F n σ e fun _ σ₁ => ExW g F n σ₁ rest Φ) : ExW g F n σ (.Expr e pos :: rest) Φ := by
  refine ex_step fun A P s Q E r S q1 _ => ?_
  exact wpAny_Expr_any (h |>.run A P s _ E r S fun P₁ s₁ σ₁ lv v le₁ S₁ h₁ k => q1 P₁ s₁ σ₁ le₁ S₁ k) (interactive_off S) hs
theorem ca_append {a : Addr} {l : List LV} {c' : List (Addr × Ct)} {x : LV} {Φ : LV → LS → Prop} (u : CUpd σ.cells a (.lst l) (.lst (l ++ [x])) c') (hn : l.length ≤ 1000000) (h : Φ .none ⟨σ.env, c'⟩) : CaW g F n σ [.raw (.ref a), x] (cal "list.append") Φ := by
  refine ⟨?_⟩; intro A P s vs Q E r S hv q
  obtain ⟨va, vx, rfl, h1, h2⟩ := hv.two
  rw [h1.toRaw]
  obtain ⟨c1, c2, e1, rfl⟩ := u.split
  obtain ⟨e, c⟩ := σ
  dsimp only at e1
  subst e1
  exact appendW S h2 hn fun s' S' => q P s' _ .none .none (.refl P) S' .none h
theorem te_compareC {l r : Expr} {op : CmpOp} {pos : Pos} {Φ : Bool → LS → Prop} (hm : behindInMarks op r = false)
    (h : EvW g F n σ l fun a σ₁ => EvW g F n σ₁ r fun b σ₂ => CaW g F n σ₂ [a, b] (cmp op) fun v σ₃ => ∃ c, v = .bool c ∧ Φ c σ₃) : TeW g F n σ (.Compare l [op] [r] pos) Φ := by
  refine ⟨?_⟩; intro A P s Q E r S q
  refine wpAny_isTrue_Compare1 (h |>.run A P s _ E r S fun P₁ s₁ σ₁ a va le₁ S₁ h₁ k₁ => k₁ |>.run A P₁ s₁ _ E r S₁ fun P₂ s₂ σ₂ b vb le₂ S₂ h₂ k₂ => ?_) hm
  refine k₂ |>.run A P₂ s₂ [va, vb] _ E r S₂ (.cons (h₁.mono le₂) (.cons h₂ .nil)) fun P₃ s₃ σ₃ lv v le₃ S₃ h₃ ⟨c, hc, k₃⟩ => ?_
  subst hc
  rw [h₃.toBool]
  exact wpAny_truthy_bool (q P₃ s₃ σ₃ c ((le₁.trans le₂).trans le₃) S₃ k₃)
theorem ca_eq_nil {a : Addr} {l : List LV} {Φ : LV → LS → Prop} (hm : (a, .lst l) ∈ σ.cells) (h : Φ (.bool l.isEmpty) σ) : CaW g F n σ [.raw (.ref a), .lst []] (cmp .Eq) Φ := by
  refine ⟨?_⟩; intro A P s vs Q E r S hv q
  obtain ⟨va, vb, rfl, h1, h2⟩ := hv.two
  rw [h1.toRaw]
  obtain ⟨b, ws, rfl, hb, hws⟩ := h2.isLst S.G
  obtain ⟨vs, hl, hvs⟩ := S.cells _ _ hm
  have e2 : ws.size = 0 := by have := hws.size; simpa using this
  cases l with
  | nil =>
    have e1 : vs.size = 0 := by have := hvs.size; simpa using this
    refine SeqAt.eq_listAt (e := fun _ => true) hl.isList hb (by lia) r.units (fun j h1 _ => absurd h1 (by lia)) ?_
    rw [e1]
    exact q P s σ (.bool true) _ (.refl P) S (.bool true) h
  | cons x xs =>
    have e1 : vs.size = xs.length + 1 := by have := hvs.size; simpa using this
    exact SeqAt.eq_list_lengthsAt hl.isList hb (by simp [e1, e2]) r.units (q P s σ (.bool false) _ (.refl P) S (.bool false) h)
theorem any_bools (b : Bool) : ∀ l : List Bool, (l.map Value.bool).any (fun v => v == .bool b) = l.contains b
  | [] => rfl
  | x :: xs => by
    have e : (Value.bool x == Value.bool b) = (b == x) := by cases b <;> cases x <;> decide
    simp only [List.map_cons, List.any_cons, List.contains_cons, e, any_bools b xs]
theorem pr_bool_in {b : Bool} {l : List Bool} {Φ : LV → Prop} (h : Φ (.bool (l.contains b))) : PrW g n [.bool b, .lst (l.map .bool)] (cmp .In) Φ := by
  refine ⟨?_⟩; intro A P s vs Q E r S hv q
  obtain ⟨va, vb, rfl, h1, h2⟩ := hv.two
  obtain rfl := h1.toBool
  obtain ⟨a, ws, rfl, hb, hws⟩ := h2.isLst S
  have eqs : ∀ {l : List Bool} {ws : List Value}, VL P (l.map .bool) ws → ws = l.map .bool := by
    intro l
    induction l with
    | nil => intro ws h; exact h.nil_inv
    | cons x xs ih => intro ws h; obtain ⟨v, r, rfl, h1, h2⟩ := VL.cons_inv h; rw [ih h2, h1.toBool]; rfl
  have hw := eqs hws
  refine SeqAt.in_listAt (fun v => v == .bool b) hb (fun y hy => ?_) ?_
  · have : y ∈ ws.toList := by simpa using hy
    rw [hw] at this
    obtain ⟨c, _, rfl⟩ := List.mem_map.mp this
    have e : (Value.bool c == Value.bool b) = (c == b) := by cases b <;> cases c <;> decide
    show SeqAt.EqAt _ _ _ _ (Value.bool c == Value.bool b)
    rw [e]; exact SeqAt.EqAt.bool_bool c b
  · have : ws.any (fun v => v == .bool b) = l.contains b := by
      rw [← Array.any_toList, hw]
      exact any_bools b l
    rw [this]
    exact pr_here S q (.bool _) h
end
end LL
end

section
open PySem PySem.W PySem.Calls PyProof.Rows
set_option Elab.async false
set_option maxRecDepth 100000
set_option linter.unusedVariables false
set_option linter.unusedSimpArgs false
namespace LL
section
variable {g : GC} {F : FC} {n : Nat} {σ : LS}

theorem vl_bools {P : PM} : ∀ {l : List Bool} {ws : List Value}, VL P (l.map .bool) ws → ws = l.map .bool
  | [], _, h => h.nil_inv
  | x :: xs, ws, h => by obtain ⟨v, r, rfl, h1, h2⟩ := VL.cons_inv h; rw [vl_bools h2, h1.toBool]; rfl
theorem any_range : ∀ l : List Bool, ((List.range l.length).any fun i => (l[i]?).getD false) = l.any id
  | [] => rfl
  | x :: l => by
    rw [List.length_cons, List.range_succ_eq_map, List.any_cons, List.any_cons, ← any_range l, List.any_map]
    rfl
theorem pr_any {l : List Bool} {Φ : LV → Prop} (h : Φ (.bool (l.any id))) : PrW g n [.lst (l.map .bool)] (cal "any") Φ := by
  refine ⟨?_⟩; intro A P s vs Q E r S y q
  obtain ⟨u, rfl, h1⟩ := y.one
  obtain ⟨a, ws, rfl, hl, hvl⟩ := h1.isLst S
  have hw := vl_bools hvl
  have hs : ws.size = l.length := by have := hvl.size; simpa using this
  have hlt : a < s.heap.objs.size := by obtain ⟨o, ho, _⟩ := hl; exact Heap.lt_size ho
  refine wpAny_tk (call_any_walk (wpAny_pyIter_list hl ?_))
  refine ⟨_, _, _, _, _, _, fun i => (l[i]?).getD false, rfl, Walks.list (prog := g.prog) (w := g.w) (by show A.in1.handled = none; exact r.1) s.heap.objs.size a (Nat.ne_of_lt hlt) ws, ⟨⟨_, Heap.get?_push_size _ rfl, rfl, rfl⟩, ?_⟩, ?_, ?_⟩
  · obtain ⟨o, ho, hc⟩ := hl; exact ⟨o, Heap.get?_push_of_some _ ho, hc⟩
  · intro i v s' Q' E' hv hQ
    have : ws.toList[i]? = some v := by simpa using hv
    rw [hw, List.getElem?_map] at this
    cases hi : l[i]? with
    | none => rw [hi] at this; cases this
    | some b => rw [hi] at this; cases this; dsimp only at hQ; rw [hi] at hQ; exact wpAny_truthy_bool hQ
  · intro h' tk k ht
    rw [show ((List.range ws.size).any fun i => (l[i]?).getD false) = l.any id from by rw [hs]; exact any_range l]
    have kk : ∀ b o, s.heap.get? b = some o → h'.get? b = some o := fun b o e => k b o (by simpa using Nat.ne_of_lt (Heap.lt_size e)) (Heap.get?_push_of_some _ e)
    obtain ⟨G', R⟩ := S.ext kk ht
    exact q _ _ (.bool _) _ R G' (.bool _) h

theorem ca_enum {xs : List LV} {Φ : LV → LS → Prop} (h : ∀ e it, Φ (.raw (.ref e)) ⟨σ.env, (e, .enm it 0) :: (it, .itl 0 xs) :: σ.cells⟩) : CaW g F n σ [.lst xs] (fun vs => call (.type "enumerate") vs) Φ := by
  refine ⟨?_⟩; intro A P s vs Q E r S y q
  obtain ⟨u, rfl, h1⟩ := y.one
  obtain ⟨a, o, ws, k, rfl, hP, hc, hd, hvl⟩ := h1.toLst
  have hl : s.heap.IsList a ws := ⟨o, S.G.pre _ _ hP, hc, k, hd⟩
  refine call_enumerate_list hl fun h' he hi hz hk => ?_
  obtain ⟨G', R⟩ := S.G.ext (t := s.toks) hk (Nat.le_refl _)
  have S' := S.grow G' R
  have none_of : ∀ a, s.heap.objs.size ≤ a → s.heap.get? a = none := fun a ha => by
    cases e : s.heap.get? a with
    | none => rfl
    | some o' => exact absurd (Nat.lt_of_lt_of_le (Heap.lt_size e) ha) (Nat.lt_irrefl _)
  obtain ⟨a1, a2, a3⟩ := S.fresh (none_of _ (Nat.le_refl _))
  obtain ⟨b1, b2, b3⟩ := S.fresh (none_of (s.heap.objs.size + 1) (Nat.le_succ _))
  have S1 := S'.adopt (a := s.heap.objs.size) (i := .itl 0 xs) a3 a1 a2 ⟨a, o, ws, k, hi, hP, hc, hd, by simpa using hvl⟩
  have S2 := S1.adopt (a := s.heap.objs.size + 1) (i := .enm s.heap.objs.size 0) (fun hm => by
    unfold muts at hm b3
    simp only [List.map_cons, List.mem_cons, List.mem_append, not_or] at hm b3
    rcases hm with h | h | h | h
    · exact b3.1 h
    · exact b3.2.1 h
    · exact absurd h (by simp)
    · exact b3.2.2 h) b1 b2 ⟨.none, he⟩
  exact q P _ _ _ _ (.refl P) S2 (.raw _) (h _ _)
inductive EnumGo (g : GC) (F : FC) (n : Nat) (elts : List Expr) (tk : Nat) (tpos : Pos) (body rest : List Stmt) (Φ : LFl → LS → Prop) (lv : LV) (σ₁ : LS) : Prop
  | mk (e it : Addr) (xs : List LV) (c : List (Addr × Ct)) (hlv : lv = .raw (.ref e)) (hc : σ₁.cells = (e, .enm it 0) :: (it, .itl 0 xs) :: c) (I : Nat → List LV → LS → Prop) (hI : I 0 xs ⟨σ₁.env, c⟩)
    (turn : ∀ i x rest' σ, I i (x :: rest') σ → AsW g F n ⟨σ.env, (e, .enm it (i + 1)) :: (it, .itl (i + 1) rest') :: σ.cells⟩ (.Tuple elts tk tpos) (.tup [.int i, x]) fun σ₁ => ExW g F n σ₁ body fun lf σ₂ => ∃ c', σ₂.cells = (e, .enm it (i + 1)) :: (it, .itl (i + 1) rest') :: c' ∧
      LoopQ (I (i + 1) rest') (fun σ => ExW g F n σ rest Φ) (fun v => Φ (.ret v)) lf ⟨σ₂.env, c'⟩)
    (fin : ∀ i σ, I i [] σ → ExW g F n σ rest Φ)
inductive EnumAt (g : GC) (F : FC) (e it : Addr) (I : Nat → List LV → LS → Prop) (P₀ : PM) (k : Nat) (s : Shared) : Prop
  | mk (P : PM) (σ : LS) (i : Nat) (ys : List LV) (le : LE P₀ P) (S : St g F P s ⟨σ.env, (e, .enm it i) :: (it, .itl i ys) :: σ.cells⟩) (hI : I i ys σ) (hk : k = ys.length)
theorem ex_for_enum {elts : List Expr} {tk : Nat} {tpos : Pos} {iter : Expr} {body : List Stmt} {pos : Pos} {rest : List Stmt} {Φ : LFl → LS → Prop} (hfold : ∀ x, foldedSetIterable iter F.env x = pure x)
    (h : EvW g F n σ iter (EnumGo g F n elts tk tpos body rest Φ)) : ExW g F n σ (.For (.Tuple elts tk tpos) iter body [] pos :: rest) Φ := by
  refine ex_step fun A P s Q E r S q1 q2 => ?_
  refine wpAny_For (h |>.run A P s _ E r S fun P₁ s₁ σ₁ lv v le₁ S₁ h₁ ⟨e, it, xs, c, hlv, hcells, I, hI, turn, fin⟩ => ?_) hfold
  subst hlv
  rw [h₁.toRaw]
  obtain ⟨env₁, c₁⟩ := σ₁
  dsimp only at hcells hI
  subst hcells
  obtain ⟨old, hE⟩ := S₁.cells e (.enm it 0) (.head _)
  refine wpAny_pyIter_enum hE ?_
  refine codeAny_loop' rfl (EnumAt g F e it I P) ?_ xs.length ⟨P₁, ⟨env₁, c⟩, 0, xs, le₁, S₁, hI, rfl⟩
  rintro k s' ⟨P', σ', i, ys, le', S', hI', rfl⟩
  show wpAny _ _ ((forTurn (.Tuple elts tk tpos) (.ref e) body [] F.env).onRaise (fun x => do noteFrame x F.env; theTreesLotGoes x)) _ _ s'
  refine wpAny_noted ?_
  simp only [forTurn]
  refine wpAny_bind (wpAny_standAt ?_)
  obtain ⟨old, hE⟩ := S'.cells e (.enm it i) (.head _)
  obtain ⟨l, ol, vs, kk, hit, hPl, hlc, hld, hvl⟩ := S'.cells it (.itl i ys) (.tail _ (.head _))
  have hl : s'.heap.IsList l vs := ⟨ol, S'.G.pre _ _ hPl, hlc, kk, hld⟩
  have nd := S'.nd
  have dropd : St g F P' s' ⟨σ'.env, σ'.cells⟩ := (S'.dropCell (c1 := [])).dropCell (c1 := [])
  have me : e ∈ muts F ⟨σ'.env, (e, .enm it i) :: (it, .itl i ys) :: σ'.cells⟩ := mem_cell F (σ := ⟨σ'.env, (e, .enm it i) :: (it, .itl i ys) :: σ'.cells⟩) (p := (e, .enm it i)) (.head _)
  have mi : it ∈ muts F ⟨σ'.env, (e, .enm it i) :: (it, .itl i ys) :: σ'.cells⟩ := mem_cell F (σ := ⟨σ'.env, (e, .enm it i) :: (it, .itl i ys) :: σ'.cells⟩) (p := (it, .itl i ys)) (.tail _ (.head _))
  have ap : e ≠ it ∧ e ∉ muts F σ' ∧ it ∉ muts F σ' := by
    have q : (muts F ⟨σ'.env, (e, .enm it i) :: (it, .itl i ys) :: σ'.cells⟩).Perm (e :: it :: muts F σ') := by
      unfold muts
      simp only [List.map_cons]
      refine (List.Perm.cons _ List.perm_middle).trans ((List.Perm.swap _ _ _).trans (List.Perm.cons _ ?_))
      exact (List.Perm.cons _ List.perm_middle).trans (List.Perm.swap _ _ _)
    have := q.nodup_iff.mp nd
    have h1 := List.nodup_cons.mp this
    have h2 := List.nodup_cons.mp h1.2
    simp only [List.mem_cons, not_or] at h1
    exact ⟨h1.1.1, h1.1.2, h2.1⟩
  have hle : l ≠ e := fun z => by have := (S'.mu e me).2; rw [← z, hPl] at this; cases this
  have hli : l ≠ it := fun z => by have := (S'.mu it mi).2; rw [← z, hPl] at this; cases this
  have W := WalksT.enumerate (prog := g.prog) (w := g.w) (A := A) r.1 e it l ap.1 hle hli vs
  refine nextThen (Q := fun v s₁ => match v with
    | none => Q .next s₁
    | some v => ∃ x rest' P₂, ys = x :: rest' ∧ LE P' P₂ ∧ V P₂ (.tup [.int i, x]) v ∧ St g F P₂ s₁ ⟨σ'.env, (e, .enm it (i + 1)) :: (it, .itl (i + 1) rest') :: σ'.cells⟩) ?_ ?_ ?_
  · cases ys with
    | nil =>
      have hx : vs[i]? = none := by
        have := hvl.nil_inv
        rw [List.drop_eq_nil_iff] at this
        simpa using this
      refine wpAny_bind (wpAny_pyNext_enum_end r.1 hE hit hl hx fun h' he => wpAny_pure ?_)
      exact q1 P' _ σ' le' (dropd.but ap.2.2 (S'.mu it mi).2 (S'.mu it mi).1 (S'.mT it mi) he s'.toks (Nat.le_refl _)) (fin i σ' hI')
    | cons x rest' =>
      obtain ⟨v, tl, hve, hv1, hv2⟩ := hvl.cons_inv
      have hx : vs[i]? = some v := by
        have : (vs.toList.drop i)[0]? = some v := by rw [hve]; rfl
        rw [List.getElem?_drop] at this
        simpa using this
      have htl : tl = vs.toList.drop (i + 1) := by
        have := congrArg List.tail hve
        simp at this
        exact this.symm
      refine wpAny_bind (wpAny_pyNext_enum_item hE hit hl hx ap.1 fun h₁ heo hit₁ hT hz hk => ?_)
      refine wpAny_bind (wpAny_letOwnedTupleGo_enum heo fun h₂ he₂ hs₂ => wpAny_pure ?_)
      have elt : e < s'.heap.objs.size := Heap.lt_size hE
      have hT₂ : h₂.get? s'.heap.objs.size = some { cls := .type "tuple", data := .seq #[.int i s'.toks, v] } := (hs₂.2 _ (Nat.ne_of_gt elt)).trans hT
      have kp : ∀ b o, b ≠ e → b ≠ it → s'.heap.get? b = some o → h₂.get? b = some o := fun b o h1 h2 h3 => (hs₂.2 b h1).trans (hk b o h1 h2 h3)
      have Pf : P' s'.heap.objs.size = none := S'.G.fresh
      have le₂ : LE P' (P'.put s'.heap.objs.size { cls := .type "tuple", data := .seq #[.int i s'.toks, v] }) := LE.put Pf
      have G₂ : GSt g (P'.put s'.heap.objs.size { cls := .type "tuple", data := .seq #[.int i s'.toks, v] }) { s' with heap := h₂, toks := s'.toks + 1 } := by
        refine ⟨fun b o he => ?_, S'.G.base.trans le₂, ?_, ?_, S'.G.bare, S'.G.os, Nat.le_trans S'.G.tk (Nat.le_succ _)⟩
        · unfold PM.put at he
          split at he
          · rename_i hb; subst hb; cases he; exact hT₂
          · exact kp b o (fun z => by rw [z, (S'.mu e me).2] at he; cases he) (fun z => by rw [z, (S'.mu it mi).2] at he; cases he) (S'.G.pre b o he)
        · obtain ⟨ps, h1, h2⟩ := S'.G.tab
          exact ⟨ps, kp _ _ (Ne.symm (S'.mT e me)) (Ne.symm (S'.mT it mi)) h1, g.tmono le₂ h2⟩
        · rw [PM.put_ne (Nat.ne_of_lt S'.G.tab_lt)]; exact S'.G.tabP
      have S₂ := dropd.keepBut G₂ le₂ (fun b o he => by
        unfold PM.put at he
        split at he
        · rename_i hb; subst hb; exact .inr (Heap.get?_size _)
        · exact .inl he) [e, it] (fun a ha => by
          rcases List.mem_cons.mp ha with rfl | ha
          · exact ⟨ap.2.1, (S'.mu _ me).1⟩
          · rcases List.mem_cons.mp ha with rfl | ha
            · exact ⟨ap.2.2, (S'.mu _ mi).1⟩
            · cases ha) (fun b o _ hb he => kp b o (fun z => hb (by simp [z])) (fun z => hb (by simp [z])) he)
      have pe : (P'.put s'.heap.objs.size { cls := .type "tuple", data := .seq #[.int i s'.toks, v] }) e = none := by rw [PM.put_ne (Nat.ne_of_lt elt)]; exact (S'.mu e me).2
      have ilt : it < s'.heap.objs.size := by obtain ⟨o, ho, _⟩ := hit; exact Heap.lt_size ho
      have pi' : (P'.put s'.heap.objs.size { cls := .type "tuple", data := .seq #[.int i s'.toks, v] }) it = none := by rw [PM.put_ne (Nat.ne_of_lt ilt)]; exact (S'.mu it mi).2
      have S₃ := S₂.adopt (a := it) (i := .itl (i + 1) rest') ap.2.2 (S'.mu it mi).1 pi' ⟨l, ol, vs, kk, hit₁.at fun o ho => (hs₂.2 it (Ne.symm ap.1)).trans ho, le₂ _ _ hPl, hlc, hld, (htl ▸ hv2).mono le₂⟩
      have S₄ := S₃.adopt (a := e) (i := .enm it (i + 1)) (fun hm => by
        have : e ∈ it :: muts F σ' := by
          unfold muts at hm ⊢
          simp only [List.map_cons, List.mem_cons, List.mem_append] at hm ⊢
          rcases hm with h | h | h | h
          · exact .inr (.inl h)
          · exact .inr (.inr (.inl h))
          · exact .inl h
          · exact .inr (.inr (.inr h))
        rcases List.mem_cons.mp this with h | h
        · exact ap.1 h
        · exact ap.2.1 h) (S'.mu e me).1 pe ⟨v, by simpa using he₂⟩
      refine ⟨x, rest', _, rfl, le₂, ?_, S₄⟩
      unfold V
      exact ⟨_, _, #[.int i s'.toks, v], 0, rfl, PM.put_self, rfl, rfl, .cons (.int _ _) (.cons (hv1.mono le₂) .nil)⟩
  · intro s₁ h; exact wpAny_pure (.inr ⟨rfl, codeAny_block (wpAny_execs_nil h)⟩)
  · rintro v s₁ ⟨x, rest', P₂, rfl, le₂, hv, S₂⟩
    refine wpAny_bind (turn i x rest' σ' hI' |>.run A P₂ s₁ v _ _ r S₂ hv fun P₃ s₃ σ₃ le₃ S₃ k => wpAny_bind (k |>.run A P₃ s₃ _ _ r S₃ fun P₄ s₄ σ₄ lf f le₄ S₄ hf ⟨c', hc', k₄⟩ => ?_))
    have le := (((le'.trans le₂).trans le₃).trans le₄)
    obtain ⟨env₄, c₄⟩ := σ₄
    dsimp only at hc' k₄
    subst hc'
    have done : St g F P₄ s₄ ⟨env₄, c'⟩ := (S₄.dropCell (c1 := [])).dropCell (c1 := [])
    cases lf with
    | next => cases hf; exact wpAny_pure (.inl ⟨rfl, rest'.length, by simp, P₄, ⟨env₄, c'⟩, i + 1, rest', le, S₄, k₄, rfl⟩)
    | cont => cases hf; exact wpAny_pure (.inl ⟨rfl, rest'.length, by simp, P₄, ⟨env₄, c'⟩, i + 1, rest', le, S₄, k₄, rfl⟩)
    | brk => cases hf; exact wpAny_pure (q1 P₄ s₄ _ le done k₄)
    | ret v => obtain ⟨u, rfl, hu⟩ := hf; exact wpAny_pure (q2 P₄ s₄ _ (.ret v) _ le done ⟨u, rfl, hu⟩ (by intro z; cases z) k₄)
end
end LL
end

section
open PySem PySem.W PySem.Calls PyProof.Rows
set_option Elab.async false
set_option maxRecDepth 100000
set_option linter.unusedVariables false
set_option linter.unusedSimpArgs false
namespace LL
section
variable {g : GC} {F : FC} {n : Nat} {σ : LS}
noncomputable abbrev calT (T : String) : List Value → Sem Value := fun vs => call (.type T) vs
theorem pr_range1 {b : Int} {Φ : LV → Prop} (h : ∀ t u w, Φ (.obj (rangeObj 0 b 1 t u w))) : PrW g n [.int b] (calT "range") Φ := by
  refine ⟨?_⟩; intro A P s vs Q E r S y q
  obtain ⟨u, rfl, h1⟩ := y.one
  obtain ⟨t, rfl⟩ := h1.toInt
  refine call_range_1 ?_
  have G' := S.push (rangeObj 0 b 1 s.toks t (s.toks + 1))
  refine q (P.put s.heap.objs.size (rangeObj 0 b 1 s.toks t (s.toks + 1))) _ (.obj _) _ ?_ (G'.toks _ (by show s.toks ≤ s.toks + 1 + 1; lia)) ?_ (h s.toks t (s.toks + 1))
  · exact (Grow.push S _).trans (.of_heap rfl) G'.tabP
  · unfold V; exact ⟨_, rfl, PM.put_self⟩
theorem pr_range2 {a b : Int} {Φ : LV → Prop} (h : ∀ t u w, Φ (.obj (rangeObj a b 1 t u w))) : PrW g n [.int a, .int b] (calT "range") Φ := by
  refine ⟨?_⟩; intro A P s vs Q E r S y q
  obtain ⟨u, v, rfl, h1, h2⟩ := y.two
  obtain ⟨t, rfl⟩ := h1.toInt
  obtain ⟨t', rfl⟩ := h2.toInt
  refine call_range_2 ?_
  have G' := S.push (rangeObj a b 1 t t' s.toks)
  refine q (P.put s.heap.objs.size (rangeObj a b 1 t t' s.toks)) _ (.obj _) _ ?_ (G'.toks _ (by show s.toks ≤ s.toks + 1; lia)) ?_ (h t t' s.toks)
  · exact (Grow.push S _).trans (.of_heap rfl) G'.tabP
  · unfold V; exact ⟨_, rfl, PM.put_self⟩
theorem pr_range3 {a b c : Int} {Φ : LV → Prop} (hc : c ≠ 0) (hs : c.natAbs < 1073741824) (h : ∀ t u w, Φ (.obj (rangeObj a b c t u w))) : PrW g n [.int a, .int b, .int c] (calT "range") Φ := by
  refine ⟨?_⟩; intro A P s vs Q E r S y q
  obtain ⟨u, v, x, rfl, h1, h2, h3⟩ := y.three
  obtain ⟨t, rfl⟩ := h1.toInt
  obtain ⟨t', rfl⟩ := h2.toInt
  obtain ⟨t'', rfl⟩ := h3.toInt
  refine call_range_3 hc ?_ (.inl (PyProof.noPylong_small hs))
  exact q (P.put s.heap.objs.size (rangeObj a b c t t' t'')) _ (.obj _) _ (Grow.push S _) (S.push _) (by unfold V; exact ⟨_, rfl, PM.put_self⟩) (h t t' t'')
theorem vl_of_items {P : PM} {c : Int} : ∀ {k : Nat} {l : List Value} {a : Int}, l.length = k → (∀ (j : Nat) (v : Value), l[j]? = some v → ∃ t, v = Value.int (a + (j : Int) * c) t) → VL P (rangeL a c k) l
  | 0, l, a, h, _ => by rw [List.length_eq_zero_iff.mp h]; exact .nil
  | k + 1, [], a, h, _ => by cases h
  | k + 1, v :: l, a, h, hk => by
    unfold rangeL
    obtain ⟨t, e⟩ := hk 0 v rfl
    refine .cons ?_ (vl_of_items (by simpa using h) fun j w hj => ?_)
    · rw [e]; simpa using V.int a t
    · obtain ⟨t, e⟩ := hk (j + 1) w (by simpa using hj)
      refine ⟨t, ?_⟩
      rw [e]
      congr 1
      rw [Int.natCast_add, Int.add_mul]
      lia
theorem pr_listrange {a b c : Int} {t u w : Tok} {k : Nat} {Φ : LV → Prop} (hk : Builtin.Range.rangeSize a b c = k) (hs : Builtin.Range.small a b c = true) (hl : k ≤ 1000000) (h : Φ (.lst (rangeL a c k))) : PrW g n [.obj (rangeObj a b c t u w)] (calT "list") Φ := by
  refine ⟨?_⟩; intro A P s vs Q E r S y q
  obtain ⟨x, rfl, h1⟩ := y.one
  obtain ⟨ad, rfl, hP⟩ := h1.toObj
  refine wpAny_tk (call_list_range r.1 (S.pre _ _ hP) hs hk (by (exact Nat.le_trans (by assumption) (by decide))) fun h' tk acc c' kp hn hit ht => ?_)
  obtain ⟨G', R⟩ := S.ext kp ht
  have Pf : P s.heap.objs.size = none := S.fresh
  have le : LE P (P.put s.heap.objs.size { cls := .type "list", dict := none, data := .seq acc c', slots := #[] }) := LE.put Pf
  refine q (P.put s.heap.objs.size { cls := .type "list", dict := none, data := .seq acc c', slots := #[] }) _ (.lst (rangeL a c k)) _ ⟨le, fun b o e => ?_, R.keep⟩ ⟨fun b o e => ?_, S.base.trans le, ?_, ?_, G'.bare, G'.os, G'.tk⟩ ?_ h
  · unfold PM.put at e
    split at e
    · rename_i hb; subst hb; exact .inr (Heap.get?_size _)
    · exact .inl e
  · unfold PM.put at e
    split at e
    · rename_i hb; subst hb; cases e; exact hn
    · exact G'.pre b o e
  · obtain ⟨ps, g1, g2⟩ := G'.tab
    exact ⟨ps, g1, g.tmono le g2⟩
  · rw [PM.put_ne (Nat.ne_of_lt S.tab_lt)]; exact S.tabP
  · unfold V
    exact ⟨_, _, acc, c', rfl, PM.put_self, rfl, rfl, vl_of_items (a := a) (by simpa using hit.1) fun j v hj => hit.2 j v (by simpa using hj)⟩
theorem rangeL_nat : ∀ (k a : Nat), rangeL (a : Int) 1 k = (List.range' a k).map fun (i : Nat) => LV.int (i : Int)
  | 0, _ => rfl
  | k + 1, a => by
    unfold rangeL
    have := rangeL_nat k (a + 1)
    rw [List.range'_succ, List.map_cons, ← this]
    rfl
theorem size_nat (a b : Nat) : Builtin.Range.rangeSize (a : Int) (b : Int) 1 = ((b - a : Nat) : Int) := by
  rw [rangeSize_one]
  split <;> lia
theorem small_nat {a b : Nat} (ha : a ≤ 1000000) (hb : b ≤ 1000000) : Builtin.Range.small (a : Int) (b : Int) 1 = true := by
  unfold Builtin.Range.small
  rw [size_nat]
  have f : ∀ i : Int, 0 ≤ i → i ≤ 1000001 → Builtin.Range.rangeFitsLong i = true := fun i h1 h2 => by
    unfold Builtin.Range.rangeFitsLong
    rw [Bool.and_eq_true, decide_eq_true_eq, decide_eq_true_eq]
    have e : (2 : Int) ^ 63 = 9223372036854775808 := by decide
    rw [e]; lia
  rw [f a (by lia) (by lia), f b (by lia) (by lia), f 1 (by decide) (by decide), f ((b - a : Nat) : Int) (by lia) (by lia), if_pos (by decide), f ((b : Int) + (1 - 1)) (by lia) (by lia)]
  simp

theorem vl_ints {P : PM} : ∀ {l : List Int} {ws : List Value}, VL P (l.map .int) ws → ∀ y ∈ ws, ∃ i t, y = .int i t
  | [], ws, h, y, hy => by rw [h.nil_inv] at hy; cases hy
  | x :: xs, ws, h, y, hy => by
    obtain ⟨v, r, rfl, h1, h2⟩ := VL.cons_inv h
    rcases List.mem_cons.mp hy with rfl | hy
    · obtain ⟨t, rfl⟩ := h1.toInt; exact ⟨x, t, rfl⟩
    · exact vl_ints h2 y hy
noncomputable def isI (a : Int) : Value → Bool
  | .int i _ => i == a
  | _ => false
theorem any_ints {P : PM} (a : Int) : ∀ {l : List Int} {ws : List Value}, VL P (l.map .int) ws → ws.any (isI a) = l.contains a
  | [], ws, h => by rw [h.nil_inv]; simp
  | x :: xs, ws, h => by
    obtain ⟨v, r, rfl, h1, h2⟩ := VL.cons_inv h
    obtain ⟨t, rfl⟩ := h1.toInt
    have e : isI a (.int x t) = (a == x) := by
      show (x == a) = (a == x)
      rw [Bool.eq_iff_iff, beq_iff_eq, beq_iff_eq]; exact eq_comm
    rw [List.any_cons, any_ints a h2, List.contains_cons, e]
theorem pr_int_in {a : Int} {l : List Int} {Φ : LV → Prop} (h : Φ (.bool (l.contains a))) : PrW g n [.int a, .lst (l.map .int)] (cmp .In) Φ := by
  refine ⟨?_⟩; intro A P s vs Q E r S hv q
  obtain ⟨va, vb, rfl, h1, h2⟩ := hv.two
  obtain ⟨t, rfl⟩ := h1.toInt
  obtain ⟨ad, ws, rfl, hb, hws⟩ := h2.isLst S
  refine SeqAt.in_listAt (isI a) hb (fun y hy => ?_) ?_
  · obtain ⟨i, t', rfl⟩ := vl_ints hws y (by simpa using hy)
    exact SeqAt.EqAt.int_int i t' a t
  · have : ws.any (isI a) = l.contains a := by rw [← Array.any_toList]; exact any_ints a hws
    rw [this]
    exact pr_here S q (.bool _) h
theorem pr_subN {a b : Nat} {Φ : LV → Prop} (hb : b ≤ a) (h : Φ (.int ((a - b : Nat) : Int))) : PrW g n [.int a, .int b] (bin .Sub) Φ := pr_sub (by rw [← Int.ofNat_sub hb]; exact h)
theorem pr_neg {a : Int} {Φ : LV → Prop} (h : Φ (.int (-a))) : PrW g n [.int a] (fun vs => unaryOp .USub (vs.getD 0 .none)) Φ := by
  refine ⟨?_⟩; intro A P s vs Q E r S y q
  obtain ⟨u, rfl, h1⟩ := y.one
  obtain ⟨t, rfl⟩ := h1.toInt
  exact neg_int (pr_same S q (.int _ _) h (Nat.le_succ _))
theorem ex_assign_tup {ts : List Expr} {k : Nat} {tp pos : Pos} {e : Expr} {rest : List Stmt} {Φ : LFl → LS → Prop} (hs : swapsWithSole [.Tuple ts k tp] e pos.line F.env = pure false) (hw : swappedStores [.Tuple ts k tp] e F.env = pure none)
    (h : EvW g F n σ e fun lv σ₁ => AsW g F n σ₁ (.Tuple ts k tp) lv fun σ₂ => ExW g F n σ₂ rest Φ) : ExW g F n σ (.Assign [.Tuple ts k tp] e pos :: rest) Φ := by
  refine ex_step fun A P s Q E r S q1 _ => ?_
  refine Assign_Tuple (h |>.run A P s _ E r S fun P₁ s₁ σ₁ lv v le₁ S₁ h₁ k₁ => ?_) hs hw
  exact k₁ |>.run A P₁ s₁ v _ E r S₁ h₁ fun P₂ s₂ σ₂ le₂ S₂ k₂ => q1 P₂ s₂ σ₂ (le₁.trans le₂) S₂ k₂
end
end LL
end

section
open PySem PySem.W PySem.Calls PyProof.Rows
open PySem.Builtin PySem.Builtin.Str
set_option Elab.async false
set_option maxRecDepth 100000
set_option linter.unusedVariables false
set_option linter.unusedSimpArgs false
namespace LL
theorem gives_find4 (x y : Str) (i j : Int) (t u v w : Tok) : Gives («str.find» ⟨[.str x t, .str y u, .int i v, .int j w], []⟩) (.int (match occurrences x y (fromIndex x.length i) (min (fromIndex x.length j) x.length) 1 with | k :: _ => (k : Int) | [] => -1)) := by
  show Gives (match occurrences x y (fromIndex x.length i) (min (fromIndex x.length j) x.length) 1 with | k :: _ => retInt k | [] => (do rule "str.find.not-found"; retInt (-1))) _
  cases occurrences x y (fromIndex x.length i) (min (fromIndex x.length j) x.length) 1 with
  | nil => exact .rule (.of_eq rfl)
  | cons k _ => exact .of_eq rfl
end LL
namespace LL
section
variable {g : GC} {F : FC} {n : Nat} {σ : LS}
noncomputable def findS (x y : List Nat) (a b : Nat) : Int := match occurrences ⟨x.toArray⟩ ⟨y.toArray⟩ a (min b x.length) 1 with
  | k :: _ => (k : Int)
  | [] => -1
theorem fromIndex_nat (len a : Nat) : fromIndex len (a : Int) = a := by
  unfold fromIndex
  rw [if_neg (by lia)]
  lia
theorem pr_find4 {x y : List Nat} {a b : Nat} {Φ : LV → Prop} (h : Φ (.int (findS x y a b))) : PrW g n [.str x, .str y, .int a, .int b] (cal "str.find") Φ := by
  refine ⟨?_⟩; intro A P s vs Q E r S z q
  obtain ⟨u, r', rfl, h1, z⟩ := z.cons_inv
  obtain ⟨v, w, o, rfl, h2, h3, h4⟩ := z.three
  obtain ⟨t, rfl⟩ := h1.toStr; obtain ⟨t2, rfl⟩ := h2.toStr; obtain ⟨t3, rfl⟩ := h3.toInt; obtain ⟨t4, rfl⟩ := h4.toInt
  refine call_gives F.slot_str_find (typeIs_str _ _ _) F.entry_str_find (F.args_str_find_4 _ _ _ _) (gives_find4 _ _ _ _ _ _ _ _) ?_
  rw [fromIndex_nat, fromIndex_nat, str_len]
  exact pr_same S q (.int _ _) h (Nat.le_succ _)
theorem ca_len_cell {e : List (Str × Loc × LV)} {c : List (Addr × Ct)} {a : Addr} {l : List LV} {Φ : LV → LS → Prop} (hm : (a, .lst l) ∈ c) (hn : l.length ≤ 1000000) (h : Φ (.int l.length) ⟨e, c⟩) : CaW g F n ⟨e, c⟩ [.raw (.ref a)] (cal "len") Φ := by
  refine ⟨?_⟩; intro A P s vs Q E r S hv q
  obtain ⟨va, rfl, h1⟩ := hv.one
  rw [h1.toRaw]
  obtain ⟨vs, hl, hvs⟩ := S.cells _ _ hm
  refine call_len_list hl.isList (by rw [hvs.size]; lia) ?_
  refine q P _ _ (.int l.length) _ (.refl P) (S.toks _ (by lia)) ?_ h
  rw [hvs.size]; exact .int _ _
end
end LL
namespace LL
section
variable {g : GC} {F : FC} {n : Nat} {σ : LS}
theorem VL.erase {P : PM} : ∀ {x : List LV} {v : List Value}, VL P x v → ∀ (i : Nat), VL P (x.eraseIdx i) (v.eraseIdx i)
  | [], _, h, _ => by rw [h.nil_inv]; exact .nil
  | _ :: _, _, h, 0 => by obtain ⟨v, r, rfl, h1, h2⟩ := h.cons_inv; exact h2
  | _ :: _, _, h, i + 1 => by obtain ⟨v, r, rfl, h1, h2⟩ := h.cons_inv; exact .cons h1 (VL.erase h2 i)
inductive DelGo (g : GC) (F : FC) (n : Nat) (rest : List Stmt) (Φ : LFl → LS → Prop) (ov iv : LV) (σ₂ : LS) : Prop
  | mk (a : Addr) (l : List LV) (k : Int) (j : Nat) (c' : List (Addr × Ct)) (ho : ov = .raw (.ref a)) (hi : iv = .int k) (hu : CUpd σ₂.cells a (.lst l) (.lst (l.eraseIdx j)) c') (hj : seqIndex? k l.length = some j) (hk : -1000000 ≤ k ∧ k ≤ 1000000) (hn : l.length ≤ 1000000) (hr : ExW g F n ⟨σ₂.env, c'⟩ rest Φ)
theorem ex_del_cell {o i : Expr} {p pos : Pos} {rest : List Stmt} {Φ : LFl → LS → Prop}
    (h : EvW g F n σ o fun ov σ₁ => EvW g F n σ₁ i (DelGo g F n rest Φ ov)) :
    ExW g F n σ (.Delete [.Subscript o i p] pos :: rest) Φ := by
  refine ex_step fun A P s Q E r S q1 _ => ?_
  refine wpAny_Delete (wpAny_deleteEach_cons (delete_Subscript (h |>.run A P s _ E r S fun P₁ s₁ σ₁ ov v le₁ S₁ h₁ k₁ => k₁ |>.run A P₁ s₁ _ E r S₁ fun P₂ s₂ σ₂ iv w le₂ S₂ h₂ ⟨a, l, k, j, c', ho, hi, u, hj, hk, hn, hr⟩ => ?_)))
  subst ho hi
  rw [h₁.toRaw]
  obtain ⟨t, rfl⟩ := h₂.toInt
  obtain ⟨c1, c2, e1, rfl⟩ := u.split
  obtain ⟨e, c⟩ := σ₂
  dsimp only at e1 hr
  subst e1
  obtain ⟨vs, hl, hvs⟩ := S₂.cells a (.lst l) (List.mem_append.mpr (.inr (.head _)))
  have fits : Builtin.List.listFitsIndex k = true := by
    unfold Builtin.List.listFitsIndex
    have e : (2 : Int) ^ 63 = 9223372036854775808 := by decide
    simp only [Bool.and_eq_true, decide_eq_true_eq, e]
    lia
  refine wpAny_delItem_plain (k := j) hl fits (by rw [hvs.size]; exact hj) (fun h' hl' sb => wpAny_deleteEach_nil ?_) (by rw [hvs.size, sizeLine_eq]; (exact Nat.le_trans (by assumption) (by decide)))
  refine q1 P₂ _ _ (le₁.trans le₂) (S₂.setCell (s := s₂) (h' := h') (t := s₂.toks) (i' := .lst (l.eraseIdx j)) ⟨_, hl', ?_⟩ sb.extBut (Nat.le_refl _)) hr
  have e : (vs.eraseIdxIfInBounds j).toList = vs.toList.eraseIdx j := by simp
  rw [e]
  exact hvs.erase j
end
end LL
end

section
open PySem PySem.W PySem.Calls PyProof.Rows
open PySem.Builtin PySem.Builtin.Str
set_option Elab.async false
set_option maxRecDepth 100000
set_option linter.unusedVariables false
set_option linter.unusedSimpArgs false
namespace LL
section
variable {g : GC} {F : FC} {n : Nat} {σ : LS}
noncomputable def splitS (x y : List Nat) : List (List Nat) := (Txt.split ⟨x.toArray⟩ ⟨y.toArray⟩).map fun s => s.cps.toList
theorem vl_strs {P : PM} : ∀ {l : List (Str × Tok)}, VL P ((l.map (·.1)).map fun s => LV.str s.cps.toList) (strValues l)
  | [] => .nil
  | (s, t) :: l => .cons (.strS s t) vl_strs
theorem ca_split {e : List (Str × Loc × LV)} {c : List (Addr × Ct)} {x y : List Nat} {Φ : LV → LS → Prop} (hy : y ≠ []) (hx : x.length ≤ 1000000)
    (hsz : (partsBetween ⟨x.toArray⟩ (occurrences ⟨x.toArray⟩ ⟨y.toArray⟩ 0 x.length (x.length + 1)) y.length).length ≤ sizeLine)
    (h : ∀ a, (∀ p ∈ c, p.1 ≠ a) → Φ (.raw (.ref a)) ⟨e, (a, .lst ((splitS x y).map .str)) :: c⟩) : CaW g F n ⟨e, c⟩ [.str x, .str y] (cal "str.split") Φ := by
  refine ⟨?_⟩; intro A P s vs Q E r S hv q
  obtain ⟨va, vb, rfl, h1, h2⟩ := hv.two
  obtain ⟨t, rfl⟩ := h1.toStr
  obtain ⟨u, rfl⟩ := h2.toStr
  have hy' : ((⟨y.toArray⟩ : Str).length == 0) = false := by rw [str_len]; cases y <;> simp at hy ⊢
  have fin : ∀ (l : List (Str × Tok)) (tk : Nat), s.toks ≤ tk → l.map (·.1) = Txt.split ⟨x.toArray⟩ ⟨y.toArray⟩ → Q (.ref s.heap.objs.size) { s with heap := s.heap.push { cls := .type "list", data := .seq (strValues l).toArray }, toks := tk } := by
    intro l tk ht hl
    have S' := S.newCell { cls := .type "list", data := .seq (strValues l).toArray } (i := .lst ((splitS x y).map .str)) ⟨_, ⟨0, Heap.get?_push_size _ rfl⟩, by
      have : (splitS x y).map LV.str = (l.map (·.1)).map fun s => LV.str s.cps.toList := by
        unfold splitS
        rw [hl, List.map_map]; rfl
      rw [this]; simpa using vl_strs⟩
    exact q P _ _ _ _ (.refl P) (S'.toks tk ht) (.raw _) (h _ fun p hp z => (S.fresh (Heap.get?_size s.heap)).2.2 (z ▸ mem_cell F (σ := ⟨e, c⟩) hp))
  have hxs : (⟨x.toArray⟩ : Str).length ≤ sizeLine := by rw [str_len, sizeLine_eq]; (exact Nat.le_trans (by assumption) (by decide))
  have hsz2 : (partsBetween ⟨x.toArray⟩ (occurrences ⟨x.toArray⟩ ⟨y.toArray⟩ 0 (⟨x.toArray⟩ : Str).length ((⟨x.toArray⟩ : Str).length + 1)) (⟨y.toArray⟩ : Str).length).length ≤ sizeLine := by rw [str_len, str_len]; exact hsz
  refine wpAny_tk ?_
  cases h1 : (decide ((⟨x.toArray⟩ : Str).length < (⟨y.toArray⟩ : Str).length) || decide (strKind ⟨x.toArray⟩ < strKind ⟨y.toArray⟩))
  · cases hf : (occurrences ⟨x.toArray⟩ ⟨y.toArray⟩ 0 (⟨x.toArray⟩ : Str).length ((⟨x.toArray⟩ : Str).length + 1)).isEmpty
    · refine call_meets PySem.F.slot_str_split (typeIs_str _ _ _) PySem.F.entry_str_split (PySem.F.args_str_split_2 _ _) (meets_str_split_sep _ _ t u h1 hy' hf hxs hsz2) ?_
      show wants _ (fun a s' => s.toks ≤ s'.toks → E a s') _ { s with toks := _, heap := s.heap.push { cls := .type "list", data := .seq (strsFrom s.toks (partsBetween _ (occurrences _ _ 0 _ _) _)).toArray } }
      rw [strsFrom_eq]
      exact fun ht => fin (numbered s.toks _) _ ht ((numbered_texts _ _).trans ((if_neg (ne_true_of_eq_false h1)).trans (if_neg (ne_true_of_eq_false hf))).symm)
    · exact call_meets PySem.F.slot_str_split (typeIs_str _ _ _) PySem.F.entry_str_split (PySem.F.args_str_split_2 _ _) (meets_str_split_not_found _ _ t u h1 hy' hf)
        (fun _ => fin [(_, t)] s.toks (Nat.le_refl _) ((if_neg (ne_true_of_eq_false h1)).trans (if_pos hf)).symm)
  · exact call_meets PySem.F.slot_str_split (typeIs_str _ _ _) PySem.F.entry_str_split (PySem.F.args_str_split_2 _ _) (meets_str_split_cannot_occur _ _ t u h1)
      (fun _ => fin [(_, t)] s.toks (Nat.le_refl _) (if_pos h1).symm)
end
end LL
end

section
open PySem PySem.W PySem.Calls PyProof.Rows
set_option Elab.async false
set_option maxRecDepth 100000
set_option linter.unusedVariables false
set_option linter.unusedSimpArgs false
namespace LL
section
variable {g : GC} {F : FC} {n : Nat} {σ : LS}
theorem ex_assign_swap {x y : Str} {px py tp vp pos : Pos} {k k2 : Nat} {v1 v2 : Expr} {rest : List Stmt} {Φ : LFl → LS → Prop} {wx wy : LV} (hx : (x, .local, wx) ∈ σ.env) (hy : (y, .local, wy) ∈ σ.env) (hxy : [x, y].eraseDups.length = 2) (hl : (px.line == py.line) = true)
    (hs : ([v1, v2].any fun | .Starred .. => true | _ => false) = false) (hf : [v1, v2].all (foldedForSure 8) = false) (hc : [v1, v2].all (constantsAlone 8) = false)
    (h : EvW g F n σ (.Tuple [v1, v2] k2 vp) fun lv σ₁ => ∃ a b e1 e2, lv = .tup [a, b] ∧ Upd σ₁.env y .local b e1 ∧ Upd e1 x .local a e2 ∧ ExW g F n ⟨e2, σ₁.cells⟩ rest Φ) :
    ExW g F n σ (.Assign [.Tuple [.Name x px, .Name y py] k tp] (.Tuple [v1, v2] k2 vp) pos :: rest) Φ := by
  refine ex_step fun A P s Q E r S q1 _ => ?_
  obtain ⟨m, _, hh⟩ := S.locs
  have kx : F.env.kindOf x = some .local := (hh _ _ _ hx).2.1
  have ky : F.env.kindOf y = some .local := (hh _ _ _ hy).2.1
  have hl' : px.line = py.line := by simpa using hl
  have hw : swappedStores [.Tuple [.Name x px, .Name y py] k tp] (.Tuple [v1, v2] k2 vp) F.env = pure (some [x, y]) := by
    have epos : ∀ (x : Str) (p : Pos), (Expr.Name x p).pos = p := fun _ _ => rfl
    unfold swappedStores
    refine (if_neg (by simp [Env.blockKind, S.kind, ScopeKind.isAnnotationScope])).trans ?_
    refine (if_neg (fun e => by have := hs.symm.trans e; cases this)).trans ?_
    simp only [List.filterMap_cons, List.filterMap_nil, kx, ky, List.head?_cons, Option.map_some, Option.getD_some, epos, hl', beq_self_eq_true, Bool.and_self, if_true, List.length_cons, List.length_nil, hxy]
    refine (if_neg (by simp)).trans ?_
    refine (if_neg (by rw [hf]; decide)).trans ?_
    refine (if_neg (by rw [hc]; decide)).trans ?_
    rfl
  refine Assign_Tuple_swapped (names := [x, y]) (h |>.run A P s _ E r S fun P₁ s₁ σ₁ lv v le₁ S₁ h₁ ⟨a, b, e1, e2, hlv, u1, u2, k₁⟩ => ?_) rfl hw
  subst hlv
  refine unpackW r S₁.G h₁ rfl fun s₂ vs R G₂ hvl => ?_
  obtain ⟨va, vb, rfl, ha, hb⟩ := hvl.two
  have S₂ := S₁.grow G₂ R
  have bind : ∀ {P : PM} {s : Shared} {σ : LS} {z : Str} {lv : LV} {v : Value} {e' : List (Str × Loc × LV)} {Q' : Unit → Shared → Prop}, St g F P s σ → Upd σ.env z .local lv e' → V P lv v → (∀ s', St g F P s' ⟨e', σ.cells⟩ → Q' () s') → wpAny (model g.prog g.w) A (bindName F.env z v) Q' E s := by
    intro P s σ z lv v e' Q' S u hv q
    unfold bindName
    exact wpAny_bind (wpAny_holding (wpAny_point (wpAny_bind (storeW S u (.inl rfl) hv fun s' S' => wpAny_point (q s' S')))))
  show wpAny _ A (do holding [va] (bindName F.env y vb); (do holding [] (bindName F.env x va); pure ())) _ E s₂
  refine wpAny_bind (wpAny_holding (bind S₂ u1 hb fun s₃ S₃ => wpAny_bind (wpAny_holding (bind S₃ u2 ha fun s₄ S₄ => wpAny_pure ?_))))
  exact q1 P₁ s₄ _ le₁ S₄ k₁
end
end LL
end

section
set_option Elab.async false
namespace LL
noncomputable abbrev LUnit := Bool × List (Nat × Nat)
noncomputable def bareOff : List Nat := [36, 40, 41, 42, 43, 63, 94, 123, 124]
noncomputable def escOff : List Nat := [97, 65, 98, 66, 100, 68, 102, 110, 78, 114, 115, 83, 116, 117, 85, 118, 119, 87, 120, 90, 48, 49, 50, 51, 52, 53, 54, 55, 56, 57]
noncomputable def span1 (s : List Nat) : Option ((Nat × Nat) × Nat) :=
  match s[0]?, s[1]? with
  | some first, some c1 =>
    if c1 = 45 then match s[2]? with
      | none => none
      | some c2 =>
        if c2 ≠ 93 then match s[if c2 = 92 then 3 else 2]? with
          | none => none
          | some last => some ((first, last), if c2 = 92 then 4 else 3)
        else some ((first, first), 1)
    else some ((first, first), 1)
  | _, _ => none
noncomputable def spanS (s : List Nat) : Option ((Nat × Nat) × Nat) :=
  match s[0]? with
  | none => none
  | some c0 => if c0 = 92 then match span1 (s.drop 1) with
      | none => none
      | some (p, m) => some (p, 1 + m)
    else span1 s
noncomputable def spansS : Nat → List Nat → List (Nat × Nat) → Option (List (Nat × Nat) × Nat)
  | 0, _, _ => none
  | f + 1, s, acc =>
    match (if acc.isEmpty then some true else match s[0]? with
      | none => none
      | some c => some (c != 93)) with
    | none => none
    | some false => some (acc, 0)
    | some true => match spanS s with
      | none => none
      | some (p, m) => match spansS f (s.drop m) (acc ++ [p]) with
        | none => none
        | some (r, j) => some (r, m + j)
noncomputable def unitS (s : List Nat) : Option (LUnit × Nat) :=
  match s[0]? with
  | none => none
  | some c =>
    if c = 46 then some ((true, []), 1)
    else if s.take 4 = [40, 63, 33, 41] then some ((false, []), 4)
    else if c ≠ 91 then
      if c ≠ 92 then some ((false, if c ∈ bareOff then [] else [(c, c)]), 1)
      else match s[1]? with
        | none => none
        | some d => some ((false, if d ∈ escOff then [] else [(d, d)]), 2)
    else match s[1]? with
      | none => none
      | some b =>
        let m := if b = 94 then 2 else 1
        match spansS s.length (s.drop m) [] with
        | none => none
        | some (spans, j) => some (if (spans.map fun p => decide (p.2 < p.1)).contains true then (false, []) else (b == 94, spans), m + j + 1)
noncomputable def unitFits (u : LUnit) (c : Nat) : Bool := u.1 != (u.2.any fun p => decide (p.1 ≤ c) && decide (c ≤ p.2))
noncomputable def fitsFrom : List LUnit → List Nat → Bool
  | [], _ => true
  | _ :: _, [] => false
  | u :: us, c :: cs => unitFits u c && fitsFrom us cs
noncomputable def fits (units : List LUnit) (name : List Nat) (place : Nat) : Bool := fitsFrom units (name.drop place)
theorem fitsFrom_len : ∀ {us : List LUnit} {cs : List Nat}, fitsFrom us cs = true → us.length ≤ cs.length
  | [], _, _ => Nat.zero_le _
  | _ :: _, [], h => by cases h
  | u :: us, c :: cs, h => by
    unfold fitsFrom at h
    rw [Bool.and_eq_true] at h
    have := fitsFrom_len h.2
    simp; assumption
inductive Tk where
  | run
  | one (u : LUnit)
  | held (us : List LUnit)
noncomputable def Tk.us : Tk → List LUnit
  | .run => []
  | .one u => [u]
  | .held us => us
noncomputable def Tk.nm : Tk → List Nat
  | .run => [114, 117, 110]
  | .one _ => [111, 110, 101]
  | .held _ => [104, 101, 108, 100]
noncomputable def seek (us : List LUnit) (name : List Nat) : Nat → Nat → Option Nat
  | 0, _ => none
  | f + 1, p => if p + us.length ≤ name.length then (if fits us name p then some p else seek us name f (p + 1)) else none
noncomputable def step (name : List Nat) (ps : List Nat) : Tk → List Nat
  | .run => match ps with
    | [] => []
    | p :: _ => List.range' p (name.length + 1 - p)
  | .one u => (ps.filter fun p => decide (p + 1 ≤ name.length) && fits [u] name p).map (· + 1)
  | .held us => ps.filterMap fun p => (seek us name (name.length + 1) p).map (· + us.length)
noncomputable def takesS (name : List Nat) (ts : List Tk) : Bool := (ts.foldl (step name) [0]).contains name.length
theorem seek_le {us : List LUnit} {name : List Nat} : ∀ {f p q : Nat}, seek us name f p = some q → q + us.length ≤ name.length
  | 0, _, _, h => by cases h
  | f + 1, p, q, h => by
    unfold seek at h
    split at h
    · split at h
      · cases h; assumption
      · exact seek_le h
    · cases h
theorem step_le {name : List Nat} {ps : List Nat} (h : ∀ p ∈ ps, p ≤ name.length) (hl : ps.length ≤ name.length + 1) (t : Tk) : (∀ p ∈ step name ps t, p ≤ name.length) ∧ (step name ps t).length ≤ name.length + 1 := by
  cases t with
  | run =>
    cases ps with
    | nil => exact ⟨fun p h => (by cases h), Nat.zero_le _⟩
    | cons p ps =>
      refine ⟨fun q hq => ?_, ?_⟩
      · have := List.mem_range'_1.mp hq; lia
      · unfold step; simp
  | one u =>
    refine ⟨fun q hq => ?_, ?_⟩
    · obtain ⟨p, hp, rfl⟩ := List.mem_map.mp hq
      have := (List.mem_filter.mp hp).2
      simp at this
      lia
    · unfold step; rw [List.length_map]; exact Nat.le_trans (List.length_filter_le _ _) hl
  | held us =>
    refine ⟨fun q hq => ?_, ?_⟩
    · obtain ⟨p, hp, hs⟩ := List.mem_filterMap.mp hq
      obtain ⟨r, hr, rfl⟩ := Option.map_eq_some_iff.mp hs
      exact seek_le hr
    · exact Nat.le_trans (List.length_filterMap_le _ _) hl
noncomputable def unitsS : Nat → List Nat → List LUnit → Option (List LUnit × Nat)
  | 0, _, _ => none
  | f + 1, s, acc => match s[0]? with
    | none => none
    | some c => if c = 41 then some (acc, 0) else match unitS s with
      | none => none
      | some (u, m) => match unitsS f (s.drop m) (acc ++ [u]) with
        | none => none
        | some (us, j) => some (us, m + j)
noncomputable def tokS (s : List Nat) : Option (Tk × Nat) :=
  if s.take 6 = [40, 63, 62, 46, 42, 63] then match unitsS (s.length + 1) (s.drop 6) [] with
    | none => none
    | some (us, j) => some (.held us, 6 + j + 1)
  else if s.take 2 = [46, 42] then some (.run, 2)
  else match unitS s with
    | none => none
    | some (u, m) => some (.one u, m)
noncomputable def toksS : Nat → List Nat → List Tk → Option (List Tk)
  | 0, _, _ => none
  | f + 1, s, acc => if 3 < s.length then match tokS s with
      | none => none
      | some (t, m) => toksS f (s.drop m) (acc ++ [t])
    else some acc
structure Item where
  written : List Nat
  barred : Bool
  spans : List (Nat × Nat)
noncomputable def sg : List Nat := [97, 98, 99, 94, 38, 92, 45, 93, 91, 126]
noncomputable def signsS (name : List Nat) : List Nat := sg.filter fun s => decide (s ∈ name)
noncomputable def wantStep (name : List Nat) (ws : List (List Nat)) (i : Item) : List (List Nat) :=
  if i.written = [42] then ws.map fun w => w ++ [46, 46, 46]
  else (ws.map fun w => ((signsS name).filter fun s => unitFits (i.barred, i.spans) s).map fun s => w ++ [s]).flatten
noncomputable def wantsS (name : List Nat) (is : List Item) : List (List Nat) := is.foldl (wantStep name) [[]]
end LL
end

section
open PySem PySem.W PySem.Calls PyProof.Rows
set_option Elab.async false
set_option maxRecDepth 100000
set_option linter.unusedVariables false
set_option linter.unusedSimpArgs false
namespace LL
theorem slot_md_get : Slot "method_descriptor" "__get__" "method_descriptor.__get__" :=
  .of (owner := "method_descriptor") (n := "__get__") (by rw [typeLookup_type, builtinLookup_eq_fast]; kernel_rfl) (by decide +kernel) (by decide +kernel) (by decide +kernel)
    (by first | exact .inl (by decide +kernel) | exact .inr (by decide +kernel)) (by rw [isSubtype_type]; kernel_rfl)
theorem lk_md_set : typeLookup (.type "method_descriptor") "__set__" = pure none := by rw [typeLookup_type, builtinLookup_eq_fast]; kernel_rfl
theorem lk_md_del : typeLookup (.type "method_descriptor") "__delete__" = pure none := by rw [typeLookup_type, builtinLookup_eq_fast]; kernel_rfl
theorem entry_md_get : entryFor table "method_descriptor.__get__" = some Builtin.«method_descriptor.__get__» := entryFor_of_tree (by kernel_rfl)
theorem args_md_get (a b c : Value) : argsOk "method_descriptor.__get__" ⟨[a, b, c], []⟩ := by unfold argsOk; kernel_rfl
theorem sub_list_list : isSubtype (.type "list") (.type "list") = pure true := by rw [isSubtype_type]; kernel_rfl
theorem cut_append : "list.append".cutAt '.' = ["list", "append"] := by first | rfl | decide +kernel
theorem own_append : (".".intercalate ("list.append".cutAt '.').dropLast) = "list" := by
  rw [cut_append]; decide +kernel
section
variable {prog : Program} {w : World} {A : Around} {E : Value → Shared → Prop} {h : Heap} {g : Array GenState} {d : Drawn} {t : Nat} {os : OsState} {a : Addr} {o : Obj}
noncomputable abbrev boundApp (a : Addr) : Obj := { cls := .type "builtin_function_or_method", data := .fields #[.builtin "list.append", .ref a] }
theorem app_get {R : Result → Shared → Prop} (hx : h.get? a = some o) (hc : o.cls = .type "list") (hq : R (.ok (.ret (.ref h.objs.size))) ⟨h.push (boundApp a), g, d, t, os⟩) :
    codeAny (model prog w) A (.call (.builtin "method_descriptor.__get__") ⟨[.builtin "list.append", .ref a, .type "list"], []⟩) R ⟨h, g, d, t, os⟩ := by
  have hT : (⟨h, g, d, t, os⟩ : Shared).TypeIs (.ref a) "list" := ⟨_, hx, hc⟩
  have hT5 : (⟨h, g, d, t, os⟩ : Shared).TypeIs (.builtin "list.append") "method_descriptor" := PySem.type_list_append
  have f8 : isSubtype (.type "list") (.type (".".intercalate ("list.append".cutAt '.').dropLast)) = pure true := by rw [own_append]; exact sub_list_list
  refine codeAny_call_builtin slot_md_get.plain entry_md_get (slot_md_get.check _ _ _ _ _ _ _ _ hT5 (args_md_get _ _ _) ?_)
  repeat (any_goals (first | assumption | wp_step))
theorem app_entry {vs : Array Value} {k : Nat} {tk : Tok} {Q : PySem.Fin → Shared → Prop} (hx : h.get? a = some { cls := .type "list", data := .seq vs k }) (hq : Q (.done (.ret (.ref h.objs.size))) ⟨h.push (boundApp a), g, d, t, os⟩) :
    wpAny (model prog w) A (Builtin.«object.__getattribute__» ⟨[.ref a, .str "append" tk], []⟩) Q E ⟨h, g, d, t, os⟩ := by
  have hT : (⟨h, g, d, t, os⟩ : Shared).TypeIs (.ref a) "list" := ⟨_, hx, rfl⟩
  have hT5 : (⟨h, g, d, t, os⟩ : Shared).TypeIs (.builtin "list.append") "method_descriptor" := PySem.type_list_append
  have f4 := PySem.slot_list_append.lookup
  have f5 := PySem.type_list_append
  have f6 := slot_md_get.lookup
  have f7 := lk_md_set
  have f9 := lk_md_del
  repeat (any_goals (first | assumption | wp_step))
  refine app_get hx rfl ?_
  repeat (any_goals (first | assumption | wp_step))
theorem app_call {vs : Array Value} {k : Nat} {tk : Tok} {R : Result → Shared → Prop} (hx : h.get? a = some { cls := .type "list", data := .seq vs k }) (hq : R (.ok (.ret (.ref h.objs.size))) ⟨h.push (boundApp a), g, d, t, os⟩) :
    codeAny (model prog w) A (.call (.builtin "list.__getattribute__") ⟨[.ref a, .str "append" tk], []⟩) R ⟨h, g, d, t, os⟩ :=
  codeAny_call_builtin F.slot_list_getattribute.plain F.entry_list_ga (F.slot_list_getattribute.check _ _ _ _ _ _ _ _ (show (⟨h, g, d, t, os⟩ : Shared).TypeIs (.ref a) "list" from ⟨_, hx, rfl⟩) (F.args_list_getattribute_2 _ _) (app_entry hx hq))
theorem app_attr {vs : Array Value} {k : Nat} {e : Bool} {Q : Value → Shared → Prop} (hx : h.get? a = some { cls := .type "list", data := .seq vs k }) (hq : Q (.ref h.objs.size) ⟨h.push (boundApp a), g, d, t + 1, os⟩) : wpAny (model prog w) A (getAttr (.ref a) "append" e) Q E ⟨h, g, d, t, os⟩ := by
  have hT : (⟨h, g, d, t, os⟩ : Shared).TypeIs (.ref a) "list" := ⟨_, hx, rfl⟩
  have hT' : (⟨h, g, d, t + 1, os⟩ : Shared).TypeIs (.ref a) "list" := ⟨_, hx, rfl⟩
  have f2 := F.slot_list_getattribute.lookup
  have f3 := F.slot_list_getattribute.bind (.ref a)
  unfold getAttr
  refine wpAny_bind (wpAny_mkText ?_)
  repeat (any_goals (first | assumption | wp_step))
  rw [show (e && onTheHeap (Value.builtin "list.__getattribute__")) = false from by cases e <;> rfl]
  repeat (any_goals (first | assumption | wp_step))
  refine app_call hx ?_
  repeat (any_goals (first | assumption | wp_step))
theorem sig_app : Manifest.signature? "list.append" = some ⟨.oneArg, "list.append", "append", .self, [⟨"object", .posOnly, true⟩]⟩ := by
  rw [signature?_of (id := "list.append") (n := ['d', 'n', 'e', 'p', 'p', 'a']) (o := ['t', 's', 'i', 'l']) (by kernel_rfl) F.owner_list]; kernel_rfl
theorem va_app : Manifest.varargsMethods.contains "list.append" = false := by decide +kernel
theorem kind_app : builtinKind "list.append" = some .method := by decide +kernel
theorem entry_app : entryFor table "list.append" = some Builtin.«list.append» := entryFor_of_tree (by kernel_rfl)
theorem sub_list_module : isSubtype (.type "list") (.type "module") = pure false := by rw [isSubtype_type]; kernel_rfl
theorem app_bcheck {vs : Array Value} {k : Nat} {v : Value} {Q : Unit → Shared → Prop} (hx : h.get? a = some { cls := .type "list", data := .seq vs k }) (hq : Q () ⟨h, g, d, t, os⟩) : wpAny (model prog w) A (checkBoundCall "list.append" ⟨[.ref a, v], []⟩) Q E ⟨h, g, d, t, os⟩ := by
  have hT : (⟨h, g, d, t, os⟩ : Shared).TypeIs (.ref a) "list" := ⟨_, hx, rfl⟩
  have hs := sub_list_module
  unfold checkBoundCall
  rw [sig_app, kind_app]
  show wpAny _ _ (do
          let ofModule ← isInstance (.ref a) (Value.type "module")
          if (Manifest.varargsMethods.contains "list.append" || ofModule) = true then _ else _) _ _ _
  refine wpAny_bind (wpAny_isInstance hT hs ?_)
  rw [va_app]
  show wpAny _ _ (do
    let x ← isType (.ref a)
    if x = true then _ else _) _ _ _
  refine wpAny_bind ?_
  repeat (any_goals (first | assumption | wp_step))
end
end LL
end

section
open PySem PySem.W PySem.Calls PyProof.Rows
set_option Elab.async false
set_option maxRecDepth 100000
set_option linter.unusedVariables false
set_option linter.unusedSimpArgs false
namespace LL
section
variable {prog : Program} {w : World} {A : Around} {E : Value → Shared → Prop} {s : Shared} {a q : Addr}
theorem app_bound {items : Array Value} {x : Value} {Q : Value → Shared → Prop} (hq : s.heap.get? q = some (boundApp a)) (hl : s.heap.PlainList a items)
    (hQ : ∀ h', h'.PlainList a (items.push x) → Heap.SameBut a s.heap h' → Q .none { s with heap := h' }) (hsz : items.size ≤ sizeLine) :
    wpAny (model prog w) A (call (.ref q) [x]) Q E s := by
  obtain ⟨h, g, d, t, os⟩ := s
  obtain ⟨n, ho⟩ := hl
  refine wpAny_call (codeAny_of_tree ?_)
  show wpAny _ A.in1 (callAny (.ref q) ⟨[x], []⟩) _ _ _
  unfold callAny
  refine wpAny_bind (wpAny_load hq ?_)
  show wpAny _ _ (do
    checkBoundCall "list.append" ⟨[.ref a, x], []⟩
    return ← again (.builtin "list.append" ⟨[.ref a, x], []⟩)) _ _ _
  refine wpAny_bind (app_bcheck ho (wpAny_bind (wpAny_pure (wpAny_pure ⟨Code.quiet_builtin _ (by decide +kernel), ?_⟩))))
  refine codeAny_builtin entry_app ?_
  show wpAny _ _ (updateSeq a (·.push x) >>= fun _ => ret .none) _ _ _
  refine wpAny_bind ?_
  refine wpAny_updateSeq ho rfl (wpAny_pure (hQ _ ⟨n + 1, ?_⟩ (Heap.SameBut.update ..)))
  rw [Heap.get?_update_self _ ho (by rw [Obj.mapSeq_push_plain]; rfl), Obj.mapSeq_push_plain]
end
section
variable {g : GC} {F : FC} {n : Nat} {σ : LS}
theorem keep_bound {M : Model} {h : Heap} {q a : Addr} (e : h.get? q = some (boundApp a)) : ∃ k, (k = Keeper.frame ∨ k = Keeper.machine ∨ k = Keeper.boundFrame) ∧ Looks M h (keeperOf (.ref q)) k :=
  ⟨.machine, .inr (.inl rfl), (Looks.ld (part := none) e).andThen .now⟩
theorem ev_boundapp {e : List (Str × Loc × LV)} {c : List (Addr × Ct)} {x : Str} {xp pos : Pos} {l0 : Loc} {a : Addr} {l : List LV} {Φ : LV → LS → Prop} (hm : (x, l0, .raw (.ref a)) ∈ e) (hin : (a, Ct.lst l) ∈ c) (h : Φ (.obj (boundApp a)) ⟨e, c⟩) :
    EvW g F n ⟨e, c⟩ (.Attribute (.Name x xp) "append" pos) Φ := by
  refine ⟨?_⟩; intro A P s Q E r S q
  refine Attribute_name ((ev_name (n := n) (Φ := fun lv σ₁ => lv = .raw (.ref a) ∧ σ₁ = ⟨e, c⟩) hm (by nofun) ⟨rfl, rfl⟩).run A P s _ E r S fun P₁ s₁ σ₁ lv v le₁ S₁ h₁ ⟨e1, e2⟩ => ?_)
  subst e1 e2
  rw [h₁.toRaw]
  obtain ⟨vs, ⟨k, ho⟩, _⟩ := S₁.cells _ _ hin
  obtain ⟨hh, gg, d, t, os⟩ := s₁
  refine app_attr ho ?_
  have S₂ := (S₁.push (boundApp a)).toks (t + 1) (Nat.le_succ _)
  exact q _ _ _ (.obj (boundApp a)) _ (le₁.trans (LE.put S₁.G.fresh)) S₂ (by unfold V; exact ⟨_, rfl, PM.put_self⟩) h
theorem ex_callapp {e : List (Str × Loc × LV)} {c : List (Addr × Ct)} {x : Str} {xp pos spos : Pos} {arg : Expr} {rest : List Stmt} {l0 : Loc} {a : Addr} {Φ : LFl → LS → Prop} (hst : isStarred arg = false) (hm : (x, l0, .obj (boundApp a)) ∈ e)
    (h : EvW g F n ⟨e, c⟩ arg fun v σ₁ => ∃ l c', CUpd σ₁.cells a (.lst l) (.lst (l ++ [v])) c' ∧ l.length ≤ 1000000 ∧ ExW g F n ⟨σ₁.env, c'⟩ rest Φ) : ExW g F n ⟨e, c⟩ (.Expr (.Call (.Name x xp) [arg] [] pos) spos :: rest) Φ := by
  refine ex_expr rfl ⟨?_⟩
  intro A P s Q E r S q
  have ee : eval (.Call (.Name x xp) [arg] [] pos) F.env = (do callWith pos (← eval (.Name x xp) F.env) [] (backTo pos (starEach [arg] F.env)) (backToKw pos (keywordEach [] F.env))) := rfl
  rw [ee]
  refine wpAny_bind ((ev_name (n := n) (Φ := fun lv σ₁ => lv = .obj (boundApp a) ∧ σ₁ = ⟨e, c⟩) hm (by nofun) ⟨rfl, rfl⟩).run A P s _ E r S fun P₁ s₁ σ₁ lv v le₁ S₁ h₁ ⟨e1, e2⟩ => ?_)
  subst e1 e2
  obtain ⟨qa, rfl, hP⟩ := h₁.toObj
  have hu : unstarred [arg] = true := by simp [unstarred, hst]
  refine PySem.W.callWith_of (P := fun h => h.get? qa = some (boundApp a)) (by show ((backTo pos (starEach [arg] F.env)).any (·.1) || false) = false; rw [unstarred_any hu]; rfl) (fun hh e => keep_bound e) (evalArgs_of hu ?_)
  have key : EsW g F n ⟨e, c⟩ [arg] (fun as σ₂ => ∃ v, as = [v] ∧ ∃ l c', CUpd σ₂.cells a (.lst l) (.lst (l ++ [v])) c' ∧ l.length ≤ 1000000 ∧ ExW g F n ⟨σ₂.env, c'⟩ rest Φ) := es_cons hst (h.mono fun v σ₁ k => es_nil ⟨v, rfl, k⟩)
  refine key.run A P₁ s₁ pos _ E r S₁ fun P₂ s₂ σ₂ as vas le₂ S₂ h₂ ⟨v, has, l, c', u, hn, k₂⟩ => ?_
  subst has
  obtain ⟨vx, rfl, hvx⟩ := h₂.one
  have hqP : P₂ qa = some (boundApp a) := le₂ _ _ hP
  refine ⟨S₂.G.pre _ _ hqP, ?_⟩
  obtain ⟨env₂, c₂⟩ := σ₂
  obtain ⟨c1, c2, e1, rfl⟩ := u.split
  dsimp only at e1 k₂
  subst e1
  obtain ⟨vs, hl, hvl⟩ := S₂.cells a (.lst l) (List.mem_append.mpr (.inr (.head _)))
  refine app_bound (S₂.G.pre _ _ hqP) hl (fun h' hl' sb => ?_) (by rw [hvl.size, sizeLine_eq]; (exact Nat.le_trans (by assumption) (by decide)))
  exact q P₂ _ _ .none _ (le₁.trans le₂) (S₂.setCell (s := s₂) (h' := h') (t := s₂.toks) (i' := .lst (l ++ [v])) ⟨_, hl', by simpa using hvl.append (.cons hvx .nil)⟩ sb.extBut (Nat.le_refl _)) .none k₂
end
end LL
end

section
open PySem PySem.W PySem.Calls PyProof.Rows
open PySem.Builtin PySem.Builtin.Str
set_option Elab.async false
set_option maxRecDepth 100000
set_option linter.unusedVariables false
set_option linter.unusedSimpArgs false
namespace LL
section
variable {g : GC} {F : FC} {n : Nat} {σ : LS}
theorem pr_is_str {x : List Nat} {a : Addr} {Φ : LV → Prop} (h : Φ (.bool false)) : PrW g n [.str x, .raw (.ref a)] (cmp .Is) Φ := by
  refine ⟨?_⟩; intro A P s vs Q E r S y q
  obtain ⟨u, v, rfl, h1, h2⟩ := y.two; obtain ⟨t, rfl⟩ := h1.toStr; obtain rfl := h2.toRaw
  exact wpAny_is_other rfl (by nofun) (pr_here S q (.bool _) h)
theorem pr_isnot_str {x : List Nat} {a : Addr} {Φ : LV → Prop} (h : Φ (.bool true)) : PrW g n [.str x, .raw (.ref a)] (cmp .IsNot) Φ := by
  refine ⟨?_⟩; intro A P s vs Q E r S y q
  obtain ⟨u, v, rfl, h1, h2⟩ := y.two; obtain ⟨t, rfl⟩ := h1.toStr; obtain rfl := h2.toRaw
  exact wpAny_isNot_other rfl (by nofun) (pr_here S q (.bool _) h)
theorem pr_is_self {a : Addr} {Φ : LV → Prop} (h : Φ (.bool true)) : PrW g n [.raw (.ref a), .raw (.ref a)] (cmp .Is) Φ := by
  refine ⟨?_⟩; intro A P s vs Q E r S y q
  obtain ⟨u, v, rfl, h1, h2⟩ := y.two; obtain rfl := h1.toRaw; obtain rfl := h2.toRaw
  exact wpAny_is_ref_self (pr_here S q (.bool _) h)
theorem pr_isnot_self {a : Addr} {Φ : LV → Prop} (h : Φ (.bool false)) : PrW g n [.raw (.ref a), .raw (.ref a)] (cmp .IsNot) Φ := by
  refine ⟨?_⟩; intro A P s vs Q E r S y q
  obtain ⟨u, v, rfl, h1, h2⟩ := y.two; obtain rfl := h1.toRaw; obtain rfl := h2.toRaw
  exact wpAny_isNot_ref_self (pr_here S q (.bool _) h)
theorem pr_ladd {x y : List LV} {Φ : LV → Prop} (hn : x.length + y.length ≤ 1000000) (h : Φ (.lst (x ++ y))) : PrW g n [.lst x, .lst y] (bin .Add) Φ := by
  refine ⟨?_⟩; intro A P s vs Q E r S z q
  obtain ⟨u, v, rfl, h1, h2⟩ := z.two
  obtain ⟨a, vs, rfl, ha, hva⟩ := h1.isLst S
  obtain ⟨b, ws, rfl, hb, hvb⟩ := h2.isLst S
  obtain ⟨⟨cls, dd, data, sl⟩, ho, hc, n, hd⟩ := id ha
  obtain ⟨⟨cls2, dd2, data2, sl2⟩, ho2, hc2, n2, hd2⟩ := id hb
  simp only at hc hd hc2 hd2
  subst hc hd hc2 hd2
  refine concat_meets ⟨_, ho, rfl⟩ ⟨_, ho2, rfl⟩ noFill_list_add seq_list_add PySem.F.slot_list_add PySem.F.entry_list_add (PySem.F.args_list_add_2 _ _) (list_addW a b vs ws n n2 dd dd2 sl sl2 (by rw [hva.size, hvb.size, sizeLine_eq]; (exact Nat.le_trans (by assumption) (by decide)))) ⟨ho, ho2, ?_⟩
  refine q _ _ (.lst (x ++ y)) _ (.push S _) (S.push _) ?_ h
  unfold V
  exact ⟨_, _, vs ++ ws, 0, rfl, PM.put_self, rfl, rfl, by simpa using (hva.append hvb).mono (LE.put S.fresh)⟩
noncomputable def times (x : List Nat) : Nat → List Nat
  | 0 => []
  | k + 1 => times x k ++ x
theorem foldl_rep (x : Array Nat) : ∀ (k : Nat) (acc : Array Nat), (List.replicate k x).foldl (· ++ ·) acc = acc ++ (times x.toList k).toArray
  | 0, acc => by simp [times]
  | k + 1, acc => by
    rw [List.replicate_succ', List.foldl_append, foldl_rep x k acc]
    simp [times, Array.append_assoc]
    apply Array.ext'; simp
theorem times_len (x : List Nat) : ∀ k, (times x k).length = k * x.length
  | 0 => by simp [times]
  | k + 1 => by simp [times, times_len x k, Nat.succ_mul]
theorem times_nil : ∀ k, times [] k = []
  | 0 => rfl
  | k + 1 => by simp [times, times_nil k]
theorem pr_smul {x : List Nat} {k : Nat} {Φ : LV → Prop} (hx : x.length ≤ 1000) (hk : k ≤ 1000) (h : Φ (.str (times x k))) : PrW g n [.str x, .int k] (bin .Mult) Φ := by
  refine ⟨?_⟩; intro A P s vs Q E r S z q
  obtain ⟨u, v, rfl, h1, h2⟩ := z.two; obtain ⟨t, rfl⟩ := h1.toStr; obtain ⟨t', rfl⟩ := h2.toInt
  have hm : x.length * k ≤ 1000000 := Nat.mul_le_mul hx hk
  refine PySem.P.mul_str (by
      have a1 : ¬ ((k : Int) < -(2 ^ 63 : Int)) := by lia
      have a2 : ¬ ((k : Int) ≥ 2 ^ 63) := by lia
      rw [decide_eq_false a1, decide_eq_false a2]; rfl) (fun h1 _ => ?_) (fun h1 _ => ?_) ?_
  · rw [str_len]
    intro hgt
    have e : (2 ^ 63 - 1 : Int) = 9223372036854775807 := by decide
    rw [e] at hgt
    have hkp : (0 : Int) < k := by lia
    have h2 := Int.lt_mul_of_ediv_lt hkp hgt
    rw [← Int.natCast_mul] at h2
    lia
  · rw [str_len]
    unfold tooLong
    rw [sizeLine_eq]
    exact decide_eq_false (by rw [Int.toNat_natCast]; lia)
  · split
    · rename_i hlt
      have : k = 0 := by lia
      subst this
      exact ⟨by decide, pr_same S q (.str [] _) h (Nat.le_succ _)⟩
    · split
      · rename_i h1 h2
        simp only [Bool.or_eq_true, beq_iff_eq, str_len] at h2
        have e : times x k = x := by
          rcases h2 with h2 | h2
          · have : k = 1 := by lia
            subst this; simp [times]
          · have hx0 : x = [] := List.length_eq_zero_iff.mp h2
            subst hx0
            exact times_nil k
        exact pr_here S q (.str x t) (e ▸ h)
      · have e : (List.replicate (k : Int).toNat x.toArray).foldl (· ++ ·) #[] = (times x k).toArray := by
          rw [Int.toNat_natCast, foldl_rep]; simp
        refine ⟨?_, ?_⟩
        · rw [e]; show (times x k).toArray.size ≤ sizeLine; rw [List.size_toArray, times_len, sizeLine_eq]; have := Nat.mul_comm k x.length; lia
        · rw [e]; exact pr_same S q (.str _ _) h (Nat.le_succ _)
theorem pr_isinst_str {x : List Nat} {Φ : LV → Prop} (h : Φ (.bool true)) : PrW g n [.str x, .raw (.type "str")] (cal "isinstance") Φ := by
  refine ⟨?_⟩; intro A P s vs Q E r S z q
  obtain ⟨u, v, rfl, h1, h2⟩ := z.two; obtain ⟨t, rfl⟩ := h1.toStr; obtain rfl := h2.toRaw
  exact call_isinstance (isinstance_true (Tx := "str") PySem.F.isi_meta_str PySem.F.sub_str_str) ⟨rfl, pr_here S q (.bool _) h⟩
theorem vl_strs_any {P : PM} (c : List Nat) : ∀ {l : List (List Nat)} {ws : List Value}, VL P (l.map .str) ws → (∀ y ∈ ws, ∃ z t, y = Value.str ⟨List.toArray z⟩ t) ∧ ws.any (fun y => match y with | .str z _ => z == ⟨c.toArray⟩ | _ => false) = l.contains c
  | [], ws, h => by rw [h.nil_inv]; exact ⟨fun _ h => (by cases h), rfl⟩
  | x :: xs, ws, h => by
    obtain ⟨v, r, rfl, h1, h2⟩ := VL.cons_inv h
    obtain ⟨t, rfl⟩ := h1.toStr
    obtain ⟨k1, k2⟩ := vl_strs_any c h2
    refine ⟨fun y hy => ?_, ?_⟩
    · rcases List.mem_cons.mp hy with rfl | hy
      · exact ⟨x, t, rfl⟩
      · exact k1 y hy
    · rw [List.any_cons, k2, List.contains_cons]
      congr 1
      show ((⟨x.toArray⟩ : Str) == ⟨c.toArray⟩) = (c == x)
      rw [str_beq, Bool.eq_iff_iff, beq_iff_eq, beq_iff_eq]
      exact eq_comm
theorem pr_str_intup {c : List Nat} {l : List (List Nat)} {Φ : LV → Prop} (h : Φ (.bool (l.contains c))) : PrW g n [.str c, .tup (l.map .str)] (cmp .In) Φ := by
  refine ⟨?_⟩; intro A P s vs Q E r S hv q
  obtain ⟨va, vb, rfl, h1, h2⟩ := hv.two
  obtain ⟨t, rfl⟩ := h1.toStr
  obtain ⟨a, ws, rfl, hb, hws⟩ := h2.isTup S
  obtain ⟨k1, k2⟩ := vl_strs_any c hws
  refine SeqAt.in_tupleAt (fun y => match y with | .str z _ => z == ⟨c.toArray⟩ | _ => false) hb (fun y hy => ?_) ?_
  · obtain ⟨z, t', rfl⟩ := k1 y (by simpa using hy)
    exact SeqAt.EqAt.str_str ⟨z.toArray⟩ t' ⟨c.toArray⟩ t
  · rw [← Array.any_toList, k2]
    exact pr_here S q (.bool _) h
noncomputable def joinS (x : List Nat) (l : List (List Nat)) : List Nat := (Txt.join ⟨x.toArray⟩ (l.map fun s => ⟨s.toArray⟩)).cps.toList
theorem vl_strValues {P : PM} : ∀ {l : List (List Nat)} {ws : List Value}, VL P (l.map .str) ws → ∃ m : List (Str × Tok), strValues m = ws ∧ m.map (·.1) = l.map fun s => (⟨s.toArray⟩ : Str)
  | [], ws, h => by rw [h.nil_inv]; exact ⟨[], rfl, rfl⟩
  | x :: xs, ws, h => by
    obtain ⟨v, r, rfl, h1, h2⟩ := VL.cons_inv h
    obtain ⟨t, rfl⟩ := h1.toStr
    obtain ⟨m, rfl, e⟩ := vl_strValues h2
    exact ⟨(⟨x.toArray⟩, t) :: m, rfl, by simp [e]⟩
theorem pr_join {x : List Nat} {l : List (List Nat)} {Φ : LV → Prop} (hn : JoinOk ⟨x.toArray⟩ (l.map fun s => ⟨s.toArray⟩) = true) (h : Φ (.str (joinS x l))) : PrW g n [.str x, .lst (l.map .str)] (cal "str.join") Φ := by
  refine ⟨?_⟩; intro A P s vs Q E r S hv q
  obtain ⟨va, vb, rfl, h1, h2⟩ := hv.two
  obtain ⟨t, rfl⟩ := h1.toStr
  obtain ⟨a, ws, rfl, hb, hws⟩ := h2.isLst S
  obtain ⟨m, e1, e2⟩ := vl_strValues hws
  refine wpAny_tk (SC.join (l := m) (texts := l.map fun s => ⟨s.toArray⟩) (by rw [e1]; simpa using hb) e2 hn fun t' k hk => ?_)
  exact pr_same S q (.strS _ _) h hk
end
end LL
end

section
open PySem PySem.W PySem.Calls PyProof.Rows
open PySem.Builtin PySem.Builtin.Str
set_option Elab.async false
set_option maxRecDepth 100000
set_option linter.unusedVariables false
set_option linter.unusedSimpArgs false
namespace LL
section
variable {g : GC} {F : FC} {n : Nat} {σ : LS}
structure JoW (g : GC) (F : FC) (n : Nat) (σ : LS) (es : List Expr) (acc : List Nat) (Φ : LV → LS → Prop) : Prop where
  run : ∀ (A : Around) (P : PM) (s : Shared) (Q E : Value → Shared → Prop), Room n A → St g F P s σ →
    (∀ P' s' σ' lv v, LE P P' → St g F P' s' σ' → V P' lv v → Φ lv σ' → Q v s') → wpAny (model g.prog g.w) A (joinParts ⟨acc.toArray⟩ (evalEach es F.env)) Q E s
theorem jo_nil {acc : List Nat} {Φ : LV → LS → Prop} (hn : acc.length ≤ 1000000) (h : Φ (.str acc) σ) : JoW g F n σ [] acc Φ :=
  ⟨fun _ P s _ _ _ S q => joinParts_nil (q P _ σ _ _ (.refl P) (S.toks _ (Nat.le_succ _)) (.str acc _) h) (by rw [str_len, sizeLine_eq]; (exact Nat.le_trans (by assumption) (by decide)))⟩
theorem jo_cons {e : Expr} {es : List Expr} {acc : List Nat} {Φ : LV → LS → Prop} (h : EvW g F n σ e fun v σ₁ => ∃ x, v = .str x ∧ (acc ++ x).length ≤ 1000000 ∧ JoW g F n σ₁ es (acc ++ x) Φ) : JoW g F n σ (e :: es) acc Φ := by
  refine ⟨?_⟩; intro A P s Q E r S q
  refine joinParts_cons (h.run A P s _ E r S fun P₁ s₁ σ₁ lv v le₁ S₁ h₁ ⟨x, hx, hn, k⟩ => ?_)
  subst hx
  obtain ⟨t, rfl⟩ := h₁.toStr
  have e : ((⟨acc.toArray⟩ : Str) ++ ⟨x.toArray⟩) = ⟨(acc ++ x).toArray⟩ := Str.ext' (by rw [Str.cps_append]; simp)
  show ((⟨acc.toArray⟩ : Str) ++ ⟨x.toArray⟩).length ≤ sizeLine ∧ wpAny _ A (joinParts (⟨acc.toArray⟩ ++ ⟨x.toArray⟩) (evalEach es F.env)) Q E s₁
  rw [e]
  exact ⟨by rw [str_len, sizeLine_eq]; (exact Nat.le_trans (by assumption) (by decide)), k.run A P₁ s₁ _ E r S₁ fun P₂ s₂ σ₂ lv v le₂ => q P₂ s₂ σ₂ lv v (le₁.trans le₂)⟩
theorem ev_joined {e1 e2 : Expr} {es : List Expr} {pos : Pos} {Φ : LV → LS → Prop} (h : JoW g F n σ (e1 :: e2 :: es) [] Φ) : EvW g F n σ (.JoinedStr (e1 :: e2 :: es) pos) Φ :=
  ⟨fun A P s Q E r S q => JoinedStr_many (h.run A P s Q E r S q)⟩
theorem ev_fmt {e : Expr} {pos : Pos} {Φ : LV → LS → Prop} (h : EvW g F n σ e fun v σ₁ => ∃ x, v = .str x ∧ x.length ≤ 1000000 ∧ Φ (.str x) σ₁) : EvW g F n σ (.FormattedValue e (-1) none pos) Φ := by
  refine ⟨?_⟩; intro A P s Q E r S q
  refine FormattedValue_plain (h.run A P s _ E r S fun P₁ s₁ σ₁ lv v le₁ S₁ h₁ ⟨x, hx, hn, k⟩ => ?_)
  subst hx
  obtain ⟨t, rfl⟩ := h₁.toStr
  refine wpAny_tk (formatField_str (fun t' tk hk => ?_) (by rw [str_len, sizeLine_eq]; (exact Nat.le_trans (by assumption) (by decide))))
  exact q P₁ _ σ₁ _ _ le₁ (S₁.toks tk hk) (.str x t') k
theorem VL.setAt {P : PM} {l : List LV} {vs : Array Value} {j : Nat} {lv : LV} {v : Value} (h : VL P l vs.toList) (hv : V P lv v) : VL P (l.set j lv) (vs.setIfInBounds j v).toList := by
  rw [Array.toList_setIfInBounds]; exact h.set hv j
theorem setW {A : Around} {P : PM} {s : Shared} {Q : Unit → Shared → Prop} {E : Value → Shared → Prop} {e : List (Str × Loc × LV)} {c1 c2 : List (Addr × Ct)} {a : Addr} {l : List LV} {k : Int} {t : Tok} {j : Nat} {lv : LV} {v : Value} (S : St g F P s ⟨e, c1 ++ (a, .lst l) :: c2⟩)
    (hj : seqIndex? k l.length = some j) (hk : -1000000 ≤ k ∧ k ≤ 1000000) (hv : V P lv v) (q : ∀ s', St g F P s' ⟨e, c1 ++ (a, .lst (l.set j lv)) :: c2⟩ → Q () s') : wpAny (model g.prog g.w) A (setItem (.ref a) (.int k t) v) Q E s := by
  obtain ⟨vs, ⟨n, ho⟩, hvl⟩ := S.cells a (.lst l) (List.mem_append.mpr (.inr (.head _)))
  have hsz := hvl.size
  have fin : ∀ j', j' = j → Q () { s with heap := s.heap.update a (Obj.mapSeq (·.setIfInBounds j' v)) } := by
    intro j' hj'
    subst hj'
    refine q _ (S.setCell (s := s) (h' := s.heap.update a (Obj.mapSeq (·.setIfInBounds j' v))) (t := s.toks) (i' := .lst (l.set j' lv)) ⟨vs.setIfInBounds j' v, ⟨_, PySem.IsL.update (n := n) ho _⟩, hvl.setAt hv⟩ (Heap.SameBut.update ..).extBut (Nat.le_refl _))
  rw [← hsz] at hj
  by_cases h0 : 0 ≤ k
  · simp only [seqIndex?, if_neg (Int.not_lt.mpr h0)] at hj
    split at hj
    · rename_i hb
      simp only [Bool.and_eq_true, decide_eq_true_eq] at hb
      exact ki_setAt (n := n) ho h0 (by lia) hb.2 (fin _ (Option.some.inj hj))
    · cases hj
  · have hn : k < 0 := by lia
    simp only [seqIndex?, if_pos hn] at hj
    split at hj
    · rename_i hb
      simp only [Bool.and_eq_true, decide_eq_true_eq] at hb
      exact ki_setBack (n := n) ho hn (by lia) (by lia) (fin _ (Option.some.inj hj))
    · cases hj
inductive SetGo (g : GC) (F : FC) (n : Nat) (rest : List Stmt) (Φ : LFl → LS → Prop) (lv ov iv : LV) (σ₃ : LS) : Prop
  | mk (a : Addr) (l : List LV) (k : Int) (j : Nat) (c' : List (Addr × Ct)) (ho : ov = .raw (.ref a)) (hi : iv = .int k) (hu : CUpd σ₃.cells a (.lst l) (.lst (l.set j lv)) c') (hj : seqIndex? k l.length = some j) (hk : -1000000 ≤ k ∧ k ≤ 1000000) (hr : ExW g F n ⟨σ₃.env, c'⟩ rest Φ)
theorem ex_set_cell {o i e : Expr} {tp pos : Pos} {rest : List Stmt} {Φ : LFl → LS → Prop} (hs : swapsWith e (some (.Subscript o i tp)) pos.line F.env = pure false)
    (h : EvW g F n σ e fun lv σ₁ => EvW g F n σ₁ o fun ov σ₂ => EvW g F n σ₂ i (SetGo g F n rest Φ lv ov)) :
    ExW g F n σ (.Assign [.Subscript o i tp] e pos :: rest) Φ := by
  refine ex_step fun A P s Q E r S q1 _ => ?_
  refine wpAny_Assign_Subscript (h.run A P s _ E r S fun P₁ s₁ σ₁ lv v le₁ S₁ h₁ k₁ => k₁.run A P₁ s₁ _ E r S₁ fun P₂ s₂ σ₂ ov w le₂ S₂ h₂ k₂ => k₂.run A P₂ s₂ _ E r S₂ fun P₃ s₃ σ₃ iv u le₃ S₃ h₃ ⟨a, l, k, j, c', ho, hi, hu, hj, hk, hr⟩ => ?_) hs
  subst ho hi
  rw [h₂.toRaw]
  obtain ⟨t, rfl⟩ := h₃.toInt
  obtain ⟨c1, c2, e1, rfl⟩ := hu.split
  obtain ⟨en, c⟩ := σ₃
  dsimp only at e1 hr
  subst e1
  exact setW S₃ hj hk (h₁.mono (le₂.trans le₃)) fun s' S' => q1 P₃ s' _ ((le₁.trans le₂).trans le₃) S' hr
inductive AugGo (g : GC) (F : FC) (n : Nat) (op : Operator) (e : Expr) (rest : List Stmt) (Φ : LFl → LS → Prop) (ov iv : LV) (σ₂ : LS) : Prop
  | mk (a : Addr) (l : List LV) (k : Int) (j : Nat) (old : LV) (ho : ov = .raw (.ref a)) (hi : iv = .int k) (hm : (a, .lst l) ∈ σ₂.cells) (hj : seqIndex? k l.length = some j) (hl : l[j]? = some old) (hk : -1000000 ≤ k ∧ k ≤ 1000000)
    (hr : EvW g F n σ₂ e fun b σ₃ => PrW g n [old, b] (fun vs => inplaceOp op (vs.getD 0 .none) (vs.getD 1 .none)) fun lv => ∃ c', CUpd σ₃.cells a (.lst l) (.lst (l.set j lv)) c' ∧ ExW g F n ⟨σ₃.env, c'⟩ rest Φ)
theorem ex_aug_cell {o i e : Expr} {op : Operator} {tp pos : Pos} {rest : List Stmt} {Φ : LFl → LS → Prop} (ha : ∀ ov iv new, augStore i ov iv new = (do holding [new, ov, iv] (setItem ov iv new); release [new, ov, iv] []; pure .next))
    (h : EvW g F n σ o fun ov σ₁ => EvW g F n σ₁ i (AugGo g F n op e rest Φ ov)) :
    ExW g F n σ (.AugAssign (.Subscript o i tp) op e pos :: rest) Φ := by
  refine ex_step fun A P s Q E r S q1 _ => ?_
  refine wpAny_AugAssign_Subscript_any (h.run A P s _ E r S fun P₁ s₁ σ₁ ov w le₁ S₁ h₁ k₁ => k₁.run A P₁ s₁ _ E r S₁ fun P₂ s₂ σ₂ iv u le₂ S₂ h₂ ⟨a, l, k, j, old, ho, hi, hm, hj, hl, hk, k₂⟩ => ?_) ha
  subst ho hi
  rw [h₁.toRaw]
  obtain ⟨t, rfl⟩ := h₂.toInt
  obtain ⟨vs, hL', hvl⟩ := S₂.cells _ _ hm
  have hL := hL'.isList
  obtain ⟨ov, hov, hvo⟩ := hvl.get hl
  have get : ∀ {Q : Value → Shared → Prop}, Q ov s₂ → wpAny (model g.prog g.w) A (getItem (.ref a) (.int k t)) Q E s₂ := by
    intro Q fin
    have hj' := hj
    rw [← hvl.size] at hj'
    by_cases h0 : 0 ≤ k
    · have : j = k.toNat := by
        simp only [seqIndex?, if_neg (Int.not_lt.mpr h0)] at hj'
        split at hj'
        · exact (Option.some.inj hj').symm
        · cases hj'
      subst this
      exact wpAny_getItem_list hL h0 (by lia) (by simpa using hov) fin
    · have hn : k < 0 := by lia
      simp only [seqIndex?, if_pos hn] at hj'
      split at hj'
      · rename_i hb
        simp only [Bool.and_eq_true, decide_eq_true_eq] at hb
        refine wpAny_getItem_list_neg hL hn (by lia) (by lia) ?_ fin
        rw [Option.some.inj hj']; simpa using hov
      · cases hj'
  refine get ?_
  refine k₂.run A P₂ s₂ _ E r S₂ fun P₃ s₃ σ₃ b vb le₃ S₃ h₃ k₃ => ?_
  refine k₃.run A P₃ s₃ [ov, vb] _ E r S₃.G (.cons (hvo.mono le₃) (.cons h₃ .nil)) fun P₄ s₄ lv v R₄ G₄ h₄ ⟨c', hu, hr⟩ => ?_
  have S₄ := S₃.grow G₄ R₄
  obtain ⟨c1, c2, e1, rfl⟩ := hu.split
  obtain ⟨en, c⟩ := σ₃
  dsimp only at e1 hr
  subst e1
  exact setW S₄ hj hk h₄ fun s' S' => q1 P₄ s' _ (((le₁.trans le₂).trans le₃).trans R₄.le) S' hr
theorem call_two {A : Around} {E : Value → Shared → Prop} {s : Shared} {id : String} {first : List Value} {pos : Pos} {y z : Str} {k1 k2 : Nat} {p1 p2 : Pos} {env : Env} {Q : Value → Shared → Prop}
    (h : wpAny (model g.prog g.w) A (call (.builtin id) (first ++ [.str y s.toks, .str z (s.toks + 1)])) Q E { s with toks := s.toks + 1 + 1 }) :
    wpAny (model g.prog g.w) A (callWith pos (.builtin id) first (backTo pos (starEach [.Constant (.str y) k1 p1, .Constant (.str z) k2 p2] env)) []) Q E s := by
  refine callWith_builtin (by rfl) (evalArgs_of (by rfl) ?_)
  refine spliced_cons (Constant_str (k := k1) (pos := p1) ?_)
  refine spliced_cons (Constant_str (k := k2) (pos := p2) ?_)
  exact spliced_nil h
noncomputable def replS (x y z : List Nat) : List Nat := (Txt.replace ⟨x.toArray⟩ ⟨y.toArray⟩ ⟨z.toArray⟩).cps.toList
theorem ev_replace (htk1 : 1 ≤ g.tk0) {o : Expr} {apos pos p1 p2 : Pos} {y z : Str} {ly lz : List Nat} {k1 k2 : Nat} {Φ : LV → LS → Prop} (hy : y.cps.toList = ly) (hz : z.cps.toList = lz) (hyz : (y == z) = false) (hzl : z.length ≤ 10)
    (hbase : attributeBase o "replace" F.env (eval o F.env) = eval o F.env) (hline : (apos.endLine == pos.line) = true)
    (h : EvW g F n σ o fun ov σ₁ => ∃ x, ov = .str x ∧ x.length ≤ 100000 ∧ Φ (.str (replS x ly lz)) σ₁) : EvW g F n σ (.Call (.Attribute o "replace" apos) [.Constant (.str y) k1 p1, .Constant (.str z) k2 p2] [] pos) Φ := by
  refine ⟨?_⟩; intro A P s Q E r S q
  refine wpAny_Call_method_lateS hbase rfl hline (h.run A P s _ E r S fun P₁ s₁ σ₁ ov va le₁ S₁ h₁ ⟨x, hx, hn, k⟩ => ?_)
  subst hx
  obtain ⟨t, rfl⟩ := h₁.toStr
  refine ⟨"str", "str.replace", PySem.F.plainAttrs_str, PySem.F.slot_str_replace, PySem.F.type_str_replace, typeIs_str _ _ _, (fun _ e => nomatch e), call_two ?_⟩
  have htk := Nat.le_trans htk1 S₁.G.tk
  refine wpAny_tk (SC.replace (Nat.ne_of_gt htk) (Nat.succ_ne_zero _) (Nat.succ_ne_self _).symm hyz ?_ fun t' k' hk => ?_)
  · rw [str_len]
    have : (x.length + 1) * z.length ≤ (x.length + 1) * 10 := Nat.mul_le_mul_left _ hzl
    lia
  · have ey : y = ⟨ly.toArray⟩ := Str.ext' (by rw [← hy])
    have ez : z = ⟨lz.toArray⟩ := Str.ext' (by rw [← hz])
    subst ey ez
    refine q P₁ _ σ₁ _ _ le₁ (S₁.toks k' ?_) (.strS _ t') k
    dsimp only at hk; lia
end
end LL
end

section
open PySem PySem.W PySem.Calls PyProof.Rows
set_option Elab.async false
set_option maxRecDepth 100000
set_option linter.unusedVariables false
set_option linter.unusedSimpArgs false
namespace LL
theorem slot_object_init' : Slot "object" "__init__" "object.__init__" :=
  .of (owner := "object") (n := "__init__") (by rw [typeLookup_type, builtinLookup_eq_fast]; kernel_rfl) (by decide +kernel) (by decide +kernel) (by decide +kernel)
    (by first | exact .inl (by decide +kernel) | exact .inr (by decide +kernel)) (by rw [isSubtype_type]; kernel_rfl)
theorem tc_object : TypeCalled "object" "object.__new__" "object.__init__" where
  notType := by decide
  canCreate := by decide +kernel
  mro := ⟨_, _, (by kernel_rfl : mroOf (.type "object") = pure [.type "object"])⟩
  made := by kernel_rfl
  plain := by decide +kernel
  sub := by rw [isSubtype_type]; kernel_rfl
  init := slot_object_init'
theorem ct_object : checkTypeCall "object" ⟨[], []⟩ = pure () := by kernel_rfl
theorem cn_object : checkBuiltinCall "object.__new__" ⟨[.type "object"], []⟩ = pure () := by kernel_rfl
theorem ao_object (a : Addr) : argsOk "object.__init__" ⟨[.ref a], []⟩ := by unfold argsOk; kernel_rfl
theorem en_object : entryFor table "object.__new__" = some Builtin.«object.__new__» := entryFor_of_tree (by kernel_rfl)
theorem ei_object : entryFor table "object.__init__" = some Builtin.«object.__init__» := entryFor_of_tree (by kernel_rfl)
noncomputable abbrev objObj : Obj := { cls := .type "object", data := .plain }
theorem new_object : Meets (Builtin.«object.__new__» ⟨[.type "object"], []⟩) (fun _ R s => R (.ok (.ret (.ref s.heap.objs.size))) { s with heap := s.heap.push objObj }) :=
  .of_wp fun prog w A R s h => by
    obtain ⟨hp, g, d, tk, os⟩ := s
    have hm : Bind.madeHere "object.__new__" (.type "object") = pure () := by kernel_rfl
    repeat (any_goals (first | assumption | wp_step))
    exact ⟨_, rfl, h⟩
theorem init_object (a : Addr) : Meets (Builtin.«object.__init__» ⟨[.ref a], []⟩) (fun _ R s => s.TypeIs (.ref a) "object" ∧ R (.ok (.ret .none)) s) :=
  .of_wp fun prog w A R s h => by
    obtain ⟨hp, g, d, tk, os⟩ := s
    obtain ⟨hT, h⟩ := h
    repeat (any_goals (first | assumption | wp_step))
    exact ⟨_, rfl, h⟩
section
variable {g : GC} {F : FC} {n : Nat} {σ : LS}
theorem pr_object {Φ : LV → Prop} (h : ∀ a, Φ (.raw (.ref a))) : PrW g n [] (fun vs => call (.type "object") vs) Φ := by
  refine ⟨?_⟩; intro A P s vs Q E r S y q
  rw [y.nil_inv]
  refine callType_meets tc_object ct_object cn_object en_object ei_object new_object (Q₁ := fun obj s₁ => obj = .ref s.heap.objs.size ∧ s₁ = { s with heap := s.heap.push objObj }) ⟨rfl, rfl⟩ ?_
  rintro _ _ ⟨rfl, rfl⟩
  have hT : ({ s with heap := s.heap.push objObj } : Shared).TypeIs (.ref s.heap.objs.size) "object" := ⟨_, Heap.get?_push_size _ rfl, rfl⟩
  refine ⟨hT, ao_object _, _, init_object _, hT, rfl, ?_⟩
  exact q _ _ (.raw (.ref s.heap.objs.size)) _ (.push S _) (S.push _) (.raw _) (h _)
end
end LL
end

section
open PySem PySem.W PySem.Calls PyProof.Rows
open PySem.Builtin PySem.Builtin.Str
set_option Elab.async false
set_option maxRecDepth 100000
set_option linter.unusedVariables false
set_option linter.unusedSimpArgs false
namespace LL
section
variable {prog : Program} {w : World} {A : Around} {E : Value → Shared → Prop} {s : Shared} {d : Addr}
theorem tl_hit {f : Int → Option Value} {c : Nat} {y : Str} {u : Tok} {Q : Mapped → Shared → Prop} (hm : s.heap.MapOf (intKind prog w) d f) (hv : f c = some (.str y u)) (h : Q (.text y) { s with toks := s.toks + 1 + 1 }) :
    wpAny (model prog w) A (tableLookup (.ref d) c) Q E s := by
  unfold tableLookup
  refine wpAny_bind (wpAny_attempt (wpAny_bind (wpAny_mkInt (wpAny_getItem_of (knd := intKind prog w) (k := (c : Int)) (by simp [intKind, Value.isInt]) (s := { s with toks := s.toks + 1 }) hm hv ?_))))
  exact wpAny_bind (wpAny_pure (wpAny_bind (wpAny_pure (wpAny_pure h))))
theorem sub_key_lookup : isSubtype (.type "KeyError") (.type "LookupError") = pure true := by rw [isSubtype_type]; kernel_rfl
theorem tl_miss {f : Int → Option Value} {c : Nat} {Q : Mapped → Shared → Prop} (hm : s.heap.MapOf (intKind prog w) d f) (hd : (d == sysModules) = false) (hh : A.handled = none) (hv : f c = none)
    (h : ∀ h' tk, s.toks ≤ tk → (∀ b o, s.heap.get? b = some o → h'.get? b = some o) → Q .keep { s with heap := h', toks := tk }) :
    wpAny (model prog w) A (tableLookup (.ref d) c) Q E s := by
  unfold tableLookup
  refine wpAny_bind (wpAny_attempt (wpAny_bind (wpAny_mkInt (wpAny_getItem_missing_of (knd := intKind prog w) (k := (c : Int)) (by simp [intKind, Value.isInt]) (s := { s with toks := s.toks + 1 }) hd hh hm hv fun h' e X => ?_))))
  obtain ⟨ob, t, he, hc, _⟩ := X.there
  have hT : ({ s with heap := h', toks := s.toks + 1 + 1 } : Shared).TypeIs (.ref e) "KeyError" := ⟨ob, he, hc⟩
  refine wpAny_bind (wpAny_isInstance hT sub_key_lookup ?_)
  show wpAny _ _ (do rule "str.translate.not-in-table"; pure Mapped.keep) _ _ _
  exact wpAny_bind (wpAny_rule (wpAny_pure (h _ _ (Nat.le_trans (Nat.le_succ _) (Nat.le_succ _)) X.keeps)))
theorem gives_translate_hit {f : Int → Option Value} {c : Nat} {y : Str} {t u : Tok} {R : Result → Shared → Prop} (hm : s.heap.MapOf (intKind prog w) d f) (hv : f c = some (.str y u)) (hc : c < 128) (hy : y.length = 2)
    (h : ∀ tk, s.toks ≤ tk → R (.ok (.ret (.str y tk))) { s with toks := tk + 1 }) :
    wpAny (model prog w) A (Builtin.«str.translate» ⟨[.str ⟨#[c]⟩ t, .ref d], []⟩) (fun fin s' => match fin with | .done f => R (.ok f) s' | _ => False) E s := by
  unfold Builtin.«str.translate»
  obtain ⟨hp, g, dr, tk, os⟩ := s
  have hc' : (#[c] : Array Nat).all (· < 128) = true := by simp [hc]
  have hm' : ∀ tk', (⟨hp, g, dr, tk', os⟩ : Shared).heap.MapOf (intKind prog w) d f := fun _ => hm
  repeat (any_goals (first | assumption | ((with_reducible show wpAny _ _ (tableLookup _ _) _ _ _); refine tl_hit (c := c) (hm' _) hv ?_) | wp_step))
  have hne : (y.length == 1 && y.cps.all fun x => decide (x < 128)) = false := by rw [hy]; rfl
  dsimp only
  rw [hne]
  repeat (any_goals (first | assumption | ((with_reducible show wpAny _ _ (tableLookup _ _) _ _ _); refine tl_hit (c := c) (hm' _) hv ?_) | wp_step))
  have hl : tooLong (0 + y.length) = false := by rw [hy]; rfl
  dsimp only
  rw [hl]
  have ey : (⟨List.foldl (fun acc (p : Str) => acc ++ p.cps) #[] [y]⟩ : Str) = y := by show (⟨#[] ++ y.cps⟩ : Str) = y; rw [Array.empty_append]
  show wpAny _ _ (retStr ⟨List.foldl (fun acc (p : Str) => acc ++ p.cps) #[] [y]⟩) _ _ _
  rw [ey]
  unfold retStr
  refine wpAny_bind (wpAny_mkStr (wpAny_pure ?_) (by rw [hy, sizeLine_eq]; lia))
  exact h _ (Nat.le_trans (Nat.le_succ _) (Nat.le_trans (Nat.le_succ _) (Nat.le_trans (Nat.le_succ _) (Nat.le_succ _))))
theorem gives_translate_miss {f : Int → Option Value} {c : Nat} {t : Tok} {R : Result → Shared → Prop} (hm : s.heap.MapOf (intKind prog w) d f) (hd : (d == sysModules) = false) (hh : A.handled = none) (hv : f c = none) (hc : c < 128)
    (h : ∀ h' tk, s.toks ≤ tk → (∀ b o, s.heap.get? b = some o → h'.get? b = some o) → R (.ok (.ret (.str ⟨#[c]⟩ tk))) { s with heap := h', toks := tk + 1 }) :
    wpAny (model prog w) A (Builtin.«str.translate» ⟨[.str ⟨#[c]⟩ t, .ref d], []⟩) (fun fin s' => match fin with | .done f => R (.ok f) s' | _ => False) E s := by
  unfold Builtin.«str.translate»
  obtain ⟨hp, g, dr, tk, os⟩ := s
  have hc' : (#[c] : Array Nat).all (· < 128) = true := by simp [hc]
  have hl : tooLong (0 + 1) = false := rfl
  repeat (any_goals (first | assumption | ((with_reducible show wpAny _ _ (tableLookup _ _) _ _ _); refine tl_miss (c := c) hm hd hh hv fun h' tk' ht kp => ?_) | wp_step))
  exact h h' tk' ht kp
end
section
variable {g : GC} {F : FC} {n : Nat} {σ : LS}
theorem pr_transl {a : Addr} {o : Obj} {es : Array DictEntry} {ep : Nat} (ho : g.G a = some o) (hx : o.ExactDict) (hd : o.data = .dict es ep) (hk : ∀ p ∈ es, ∃ k, Value.isInt k p.key = true ∧ p.hash = hashInt k) (hm : (a == sysModules) = false)
    {c : Nat} (hc : c < 128) {r : List Nat} (hr : (findBy Value.isInt es (c : Int) = none ∧ r = [c]) ∨ ∃ y u, findBy Value.isInt es (c : Int) = some (.str y u) ∧ y.cps.toList = r ∧ y.length = 2) {Φ : LV → Prop} (h : Φ (.str r)) :
    PrW g n [.str [c], .raw (.ref a)] (cal "str.translate") Φ := by
  refine ⟨?_⟩; intro A P s vs Q E rm S hv q
  obtain ⟨u, v, rfl, h1, h2⟩ := hv.two; obtain ⟨t, rfl⟩ := h1.toStr; obtain rfl := h2.toRaw
  have M : s.heap.MapOf (intKind g.prog g.w) a (findBy Value.isInt es) := ⟨o, es, ep, S.pre _ _ (S.base _ _ ho), hx, hd, hk, fun _ => rfl⟩
  refine wpAny_call (codeAny_call_builtin PySem.F.slot_str_translate.plain PySem.F.entry_str_translate (PySem.F.slot_str_translate.check _ _ _ _ _ _ _ _ (typeIs_str _ _ _) (PySem.F.args_str_translate_2 _ _) ?_))
  rcases hr with ⟨hf, rfl⟩ | ⟨y, w, hf, rfl, hy⟩
  · refine wpAny_mono (gives_translate_miss (R := fun res s' => match res with | .ok (.ret v) => Q v s' | .ok _ => False | .error e => E e s') M hm rm.1 hf hc fun h' tk ht kp => ?_) (fun fin s' z => ?_) fun e s' z => z
    · obtain ⟨G', R'⟩ := S.ext kp (Nat.le_trans ht (Nat.le_succ tk))
      exact q P _ (.str [c]) _ R' G' (.str [c] tk) h
    · cases fin with
      | done f => exact z
      | again c => exact z.elim
  · refine wpAny_mono (gives_translate_hit (R := fun res s' => match res with | .ok (.ret v) => Q v s' | .ok _ => False | .error e => E e s') M hf hc hy fun tk ht => ?_) (fun fin s' z => ?_) fun e s' z => z
    · exact pr_same S q (.strS y tk) h (Nat.le_trans ht (Nat.le_succ tk))
    · cases fin with
      | done f => exact z
      | again c => exact z.elim
end
end LL
end

section
open PySem PySem.W PySem.Calls PyProof.Rows
open PySem.Builtin PySem.Builtin.Re
set_option Elab.async false
set_option maxRecDepth 100000
set_option linter.unusedVariables false
set_option linter.unusedSimpArgs false
namespace LL
noncomputable def twin : Array Nat := #[14, 14, 4, 1, 1, 9, 0, 64, 0, 1342177280, 0, 0, 0, 0, 0, 17, 0, 13, 11, 9, 0, 64, 0, 1342177280, 0, 0, 0, 0, 0, 17, 1, 1]
noncomputable def isTw (c : Nat) : Bool := c == 38 || c == 124 || c == 126
theorem twSet {c : Nat} (hc : c < 128) (seen : Sre.Seen) : ∃ seen', Sre.inSet twin c 32 5 true seen = .ok (isTw c, seen') := by
  have e : Sre.inSet twin c 32 5 true seen = if (decide (c < 256) && (twin.getD (5 + (1 + c / 32)) 0).testBit (c % 32)) = true then .ok (true, seen.add 9) else .ok (false, (seen.add 9).add 0) := rfl
  have k : ∀ c, c < 128 → (decide (c < 256) && (twin.getD (5 + (1 + c / 32)) 0).testBit (c % 32)) = isTw c := by decide +kernel
  rw [e, k c hc]
  cases isTw c
  · exact ⟨_, rfl⟩
  · exact ⟨_, rfl⟩
theorem twSet2 {c : Nat} (hc : c < 128) (seen : Sre.Seen) : ∃ seen', Sre.inSet twin c 32 19 true seen = .ok (isTw c, seen') := by
  have e : Sre.inSet twin c 32 19 true seen = if (decide (c < 256) && (twin.getD (19 + (1 + c / 32)) 0).testBit (c % 32)) = true then .ok (true, seen.add 9) else .ok (false, (seen.add 9).add 0) := rfl
  have k : ∀ c, c < 128 → (decide (c < 256) && (twin.getD (19 + (1 + c / 32)) 0).testBit (c % 32)) = isTw c := by decide +kernel
  rw [e, k c hc]
  cases isTw c
  · exact ⟨_, rfl⟩
  · exact ⟨_, rfl⟩
noncomputable def firstTw (x : List Nat) : Nat → Nat → Option Nat
  | 0, _ => none
  | f + 1, s => match x[s]? with
    | none => none
    | some c => if isTw c then some s else firstTw x f (s + 1)
theorem admitted_tw {m : Sre.M} {x : List Nat} (hx : ∀ c ∈ x, c < 128) (hcode : m.code = twin) (ht : m.text = x.toArray) (hl : m.lim = x.length) : ∀ (f s : Nat) (seen : Sre.Seen), ∃ seen', Sre.M.admitted m f s seen = .ok (firstTw x f s, seen')
  | 0, s, seen => ⟨seen, rfl⟩
  | f + 1, s, seen => by
    unfold Sre.M.admitted firstTw
    rw [hl, hcode, ht]
    by_cases hs : s ≥ x.length
    · rw [if_pos hs, List.getElem?_eq_none_iff.mpr hs]
      exact ⟨_, rfl⟩
    · rw [if_neg hs]
      have hs' : s < x.length := Nat.lt_of_not_le hs
      rw [List.getElem?_eq_getElem hs']
      have eg : (x.toArray).getD s 0 = x[s] := by simp [hs']
      rw [eg]
      obtain ⟨seen', e⟩ := twSet (hx _ (List.getElem_mem hs')) seen
      have e' : Sre.inSet twin x[s] twin.size 5 true seen = .ok (isTw x[s], seen') := e
      rw [e']
      dsimp only
      cases isTw x[s] with
      | true => exact ⟨_, rfl⟩
      | false => exact admitted_tw hx hcode ht hl f (s + 1) seen'
structure FoundAt (m : Sre.M) (p : Nat) : Prop where
  start : m.start = p
  handed : m.handed = p + 1
  marks : m.marks = #[some p, some (p + 1)]
  lastmark : m.lastmark = 1
  lastindex : m.lastindex = 1
theorem run_tw {m : Sre.M} {x : List Nat} (hx : ∀ c ∈ x, c < 128) (hcode : m.code = twin) (ht : m.text = x.toArray) (hl : m.lim = x.length) (hpc : m.pc = 15) (hw : m.wholeText = false) (hma : m.mustAdvance = false) (hmk : m.marks = #[none, none])
    (hlo : m.loops = #[]) (hin : m.inner = none) (hf : m.frames = []) (hwe : m.weight = 0) (ha : m.answer = none) (ho : m.outcome = none) {p : Nat} (hp : ∃ c, x[p]? = some c ∧ isTw c = true) :
    ∃ m1 m2, (m.attemptAt p true).runFor 4 = m1 ∧ m1.outcome = none ∧ m1.runFor 4 = m2 ∧ m2.outcome = some .matched ∧ FoundAt m2 p := by
  obtain ⟨c, hc, hcw⟩ := hp
  have hps : p < x.length := (List.getElem?_eq_some_iff.mp hc).1
  obtain ⟨code, text, lim, start, lastStart, wholeText, mustAdvance, pc, pos, handed, outermost, marks, lastmark, lastindex, loops, inner, frames, weight, answer, seen, outcome⟩ := m
  dsimp only at hcode ht hl hpc hw hma hmk hlo hin hf hwe ha ho
  subst hcode ht hl hpc hw hma hmk hlo hin hf hwe ha ho
  have gx : (x.toArray).getD p 0 = c := by
    rw [List.getElem?_eq_getElem hps] at hc
    simp [hps]; exact Option.some.inj hc
  let fr : Sre.Frame := { wait := .nextStart, pc := 15, pos := p, outermost := true }
  let M (pc pos handed : Nat) (marks : Array (Option Nat)) (lm li : Int) (frames : List Sre.Frame) (w : Nat) (ans : Option Bool) (sn : Sre.Seen) (oc : Option Sre.Outcome) : Sre.M :=
    ⟨twin, x.toArray, x.length, p, lastStart, false, false, pc, pos, handed, true, marks, lm, li, #[], none, frames, w, ans, sn, oc⟩
  have s0 : (Sre.M.attemptAt ⟨twin, x.toArray, x.length, start, lastStart, false, false, 15, pos, handed, outermost, #[none, none], lastmark, lastindex, #[], none, [], 0, none, seen, none⟩ p true) = M 15 p p #[none, none] (-1) (-1) [fr] 1 none seen none := rfl
  have s1 : (M 15 p p #[none, none] (-1) (-1) [fr] 1 none seen none).step = M 17 p p #[some p, none] 0 (-1) [fr] 1 none (seen.add 17) none := rfl
  obtain ⟨seen2, e2⟩ := twSet2 (hx c (List.mem_of_getElem? hc)) (((seen.add 17).add 13))
  have s2 : (M 17 p p #[some p, none] 0 (-1) [fr] 1 none (seen.add 17) none).step = M 29 (p + 1) p #[some p, none] 0 (-1) [fr] 1 none seen2 none := by
    have ea : Sre.accepts twin 17 c ((seen.add 17).add 13) = .ok (true, seen2) := by rw [hcw] at e2; exact e2
    show (if p ≥ x.length then _ else (match Sre.accepts twin 17 ((x.toArray).getD p 0) ((seen.add 17).add 13) with
      | .error why => _
      | .ok (false, seen) => _
      | .ok (true, seen) => _) : Sre.M) = _
    rw [if_neg (by (exact Nat.not_le.mpr (by assumption))), gx, ea]
    rfl
  have s3 : (M 29 (p + 1) p #[some p, none] 0 (-1) [fr] 1 none seen2 none).step = M 31 (p + 1) p #[some p, some (p + 1)] 1 1 [fr] 1 none (seen2.add 17) none := by
    show (M 29 (p + 1) p #[some p, none] 0 (-1) [fr] 1 none (seen2.add 17) none).mark 1 = _
    unfold Sre.M.mark
    have e1 : ((1 : Nat) : Int) ≤ (0 : Int) + 1 := by decide
    dsimp only
    rw [if_pos e1]
    rfl
  have s4 : (M 31 (p + 1) p #[some p, some (p + 1)] 1 1 [fr] 1 none (seen2.add 17) none).step = M 31 (p + 1) (p + 1) #[some p, some (p + 1)] 1 1 [fr] 1 (some true) ((seen2.add 17).add 1) none := rfl
  have s5 : (M 31 (p + 1) (p + 1) #[some p, some (p + 1)] 1 1 [fr] 1 (some true) ((seen2.add 17).add 1) none).step = M 15 p (p + 1) #[some p, some (p + 1)] 1 1 [] 0 (some true) ((seen2.add 17).add 1) none := rfl
  have s6 : (M 15 p (p + 1) #[some p, some (p + 1)] 1 1 [] 0 (some true) ((seen2.add 17).add 1) none).step = M 15 p (p + 1) #[some p, some (p + 1)] 1 1 [] 0 (some true) ((seen2.add 17).add 1) (some .matched) := rfl
  have four : ∀ m : Sre.M, m.outcome = none → m.step.outcome = none → m.step.step.outcome = none → m.step.step.step.outcome = none → m.runFor 4 = m.step.step.step.step := by
    intro m h1 h2 h3 h4
    simp only [Sre.M.runFor, h1, h2, h3, h4, Option.isSome_none, Bool.false_eq_true, if_false]
  refine ⟨M 31 (p + 1) (p + 1) #[some p, some (p + 1)] 1 1 [fr] 1 (some true) ((seen2.add 17).add 1) none, M 15 p (p + 1) #[some p, some (p + 1)] 1 1 [] 0 (some true) ((seen2.add 17).add 1) (some .matched), ?_, rfl, ?_, rfl, ⟨rfl, rfl, rfl, rfl, rfl⟩⟩
  · rw [s0, four _ rfl (by rw [s1]) (by rw [s1, s2]) (by rw [s1, s2, s3]), s1, s2, s3, s4]
  · have z : ∀ m : Sre.M, m.outcome = none → m.step.outcome = none → m.step.step.outcome.isSome = true → m.runFor 4 = m.step.step := by
      intro m h1 h2 h3
      simp only [Sre.M.runFor, h1, h2, h3, Option.isSome_none, Bool.false_eq_true, if_false, if_true]
    rw [z _ rfl (by rw [s5]) (by rw [s5, s6]; rfl), s5, s6]
theorem firstTw_ok {x : List Nat} : ∀ {f s p : Nat}, firstTw x f s = some p → s ≤ p ∧ (∃ c, x[p]? = some c ∧ isTw c = true) ∧ ∀ q, s ≤ q → q < p → ∃ c, x[q]? = some c ∧ isTw c = false
  | 0, _, _, h => by cases h
  | f + 1, s, p, h => by
    unfold firstTw at h
    cases hs : x[s]? with
    | none => rw [hs] at h; cases h
    | some c =>
      rw [hs] at h
      dsimp only at h
      by_cases hc : isTw c = true
      · rw [if_pos hc] at h; cases h; exact ⟨Nat.le_refl _, ⟨c, hs, hc⟩, fun q h1 h2 => absurd h1 (by (exact Nat.not_le.mpr (by assumption)))⟩
      · rw [if_neg hc] at h
        obtain ⟨h1, h2, h3⟩ := firstTw_ok h
        refine ⟨by (exact Nat.le_of_lt (by assumption)), h2, fun q hq hp => ?_⟩
        by_cases e : q = s
        · subst e; exact ⟨c, hs, by simpa using hc⟩
        · exact h3 q (by lia) hp
theorem firstTw_none {x : List Nat} : ∀ {f s : Nat}, x.length < s + f → firstTw x f s = none → ∀ q, s ≤ q → q < x.length → ∃ c, x[q]? = some c ∧ isTw c = false
  | 0, s, hf, _ => fun q h1 h2 => absurd h1 (by lia)
  | f + 1, s, hf, h => fun q h1 h2 => by
    unfold firstTw at h
    cases hs : x[s]? with
    | none => have := List.getElem?_eq_none_iff.mp hs; lia
    | some c =>
      rw [hs] at h
      dsimp only at h
      by_cases hc : isTw c = true
      · rw [if_pos hc] at h; cases h
      · rw [if_neg hc] at h
        by_cases e : q = s
        · subst e; exact ⟨c, hs, by simpa using hc⟩
        · exact firstTw_none (by lia) h q (by lia) h2
section
variable {M : Model} {A : Around} {E : Value → Shared → Prop} {s : Shared}
theorem rules_wp {p : Nat → Bool} {nm : Nat → String} {Q : PUnit → Shared → Prop} (h : Q ⟨⟩ s) : ∀ l : List Nat, wpAny M A (forIn l PUnit.unit fun i r => if p i = true then do rule (nm i); pure (ForInStep.yield PUnit.unit) else pure (ForInStep.yield PUnit.unit)) Q E s
  | [] => by rw [List.forIn_nil]; exact wpAny_pure h
  | i :: l => by
    rw [List.forIn_cons]
    cases p i
    · simp only [Bool.false_eq_true, if_false]; exact wpAny_bind (wpAny_pure (rules_wp h l))
    · simp only [if_true]; exact wpAny_bind (wpAny_bind (wpAny_rule (wpAny_pure (rules_wp h l))))
theorem drive_two {m m1 m2 : Sre.M} {Q : Sre.M → Shared → Prop} (h1 : m.runFor 4 = m1) (o1 : m1.outcome = none) (h2 : m1.runFor 4 = m2) (o2 : m2.outcome.isSome = true) (h : Q m2 s) : wpAny M A (reDrive (2 ^ 64) m) Q E s := by
  have e : (2 ^ 64 : Nat) = 18446744073709551614 + 1 + 1 := by decide
  rw [e]
  unfold reDrive
  show wpAny M A (if (m.runFor 4).outcome.isSome = true then pure (m.runFor 4) else (do rule "sre.turn"; reDrive (18446744073709551614 + 1) (m.runFor 4))) Q E s
  rw [h1, if_neg (by rw [o1]; decide)]
  refine wpAny_bind (wpAny_rule ?_)
  unfold reDrive
  show wpAny M A (if (m1.runFor 4).outcome.isSome = true then pure (m1.runFor 4) else (do rule "sre.turn"; reDrive 18446744073709551614 (m1.runFor 4))) Q E s
  rw [h2, if_pos o2]
  exact wpAny_pure h
theorem drive_one {m m1 : Sre.M} {Q : Sre.M → Shared → Prop} (h1 : m.runFor 4 = m1) (o1 : m1.outcome.isSome = true) (h : Q m1 s) : wpAny M A (reDrive (2 ^ 64) m) Q E s := by
  have e : (2 ^ 64 : Nat) = 18446744073709551615 + 1 := by decide
  rw [e]
  unfold reDrive
  show wpAny M A (if (m.runFor 4).outcome.isSome = true then pure (m.runFor 4) else (do rule "sre.turn"; reDrive 18446744073709551615 (m.runFor 4))) Q E s
  rw [h1, if_pos o1]
  exact wpAny_pure h
theorem runToEnd_of {m m2 : Sre.M} {Q : Option Sre.M → Shared → Prop} (h : ∀ {Q' : Sre.M → Shared → Prop}, Q' m2 s → wpAny M A (reDrive (2 ^ 64) m) Q' E s) (hq : (m2.outcome = some .matched ∧ Q (some m2) s) ∨ (m2.outcome = some .failed ∧ Q none s)) : wpAny M A (reRunToEnd m) Q E s := by
  unfold reRunToEnd
  refine wpAny_bind (h ?_)
  refine wpAny_bind (rules_wp ?_ _)
  rcases hq with ⟨e, hq⟩ | ⟨e, hq⟩
  · rw [e]; exact wpAny_pure hq
  · rw [e]; exact wpAny_pure hq
theorem say_false {m : Sre.M} (hf : m.frames = []) (ho : m.outcome = none) : ∃ m1, (m.say false).runFor 4 = m1 ∧ m1.outcome = some .failed := by
  obtain ⟨code, text, lim, start, lastStart, wholeText, mustAdvance, pc, pos, handed, outermost, marks, lastmark, lastindex, loops, inner, frames, weight, answer, seen, outcome⟩ := m
  dsimp only at hf ho
  subst hf ho
  exact ⟨_, rfl, rfl⟩
theorem next_tw {t : ReTarget} {x : List Nat} {st : Nat} {must : Bool} {Q : Option Sre.M → Shared → Prop} (hx : ∀ c ∈ x, c < 128) (hcode : t.code = twin) (ht : t.text = x.toArray) (hg : t.groups = 1) (hl : t.lim = x.length) (hs : st ≤ x.length)
    (h : match firstTw x (x.length + 1 - st) st with
      | none => Q none s
      | some p => ∀ m, FoundAt m p → Q (some m) s) : wpAny M A (reNextFound t st must) Q E s := by
  unfold reNextFound
  rw [hcode, ht, hg, hl]
  let m0 (ls : Nat) (ma : Bool) (sn : Sre.Seen) : Sre.M := ⟨twin, x.toArray, x.length, st, ls, false, ma, 15, st, st, true, #[none, none], -1, -1, #[], none, [], 0, none, sn, none⟩
  have e2 : Sre.forSearch twin x.toArray 1 st x.length must = (if (decide (st > x.length) || decide (x.length - st < 1)) = true then (m0 0 must (({} : Sre.Seen).add 14)).say false else Sre.M.attemptFrom (m0 x.length must (({} : Sre.Seen).add 14)) st true) := rfl
  rw [e2]
  by_cases hz : x.length - st < 1
  · have e : firstTw x (x.length + 1 - st) st = none := by
      have : x.length + 1 - st = 1 := by lia
      rw [this]
      unfold firstTw
      rw [List.getElem?_eq_none_iff.mpr (by lia)]
    rw [e] at h
    rw [if_pos (by rw [decide_eq_true hz, Bool.or_true])]
    obtain ⟨m1, e1, o1⟩ := say_false (m := m0 0 must (({} : Sre.Seen).add 14)) rfl rfl
    exact runToEnd_of (m2 := m1) (fun hq => drive_one e1 (by rw [o1]; rfl) hq) (.inr ⟨o1, h⟩)
  · rw [if_neg (by rw [decide_eq_false hz, decide_eq_false (by (exact Nat.not_lt.mpr (by assumption)))]; decide)]
    obtain ⟨seen', ea⟩ := admitted_tw (m := m0 x.length must (({} : Sre.Seen).add 14)) hx rfl rfl rfl (x.length + 1 - st) st (({} : Sre.Seen).add 14)
    have ef : Sre.M.attemptFrom (m0 x.length must (({} : Sre.Seen).add 14)) st true = (match Sre.M.admitted (m0 x.length must (({} : Sre.Seen).add 14)) (x.length + 1 - st) st (({} : Sre.Seen).add 14) with
      | .ok (some s, seen) => (m0 x.length false seen).attemptAt s true
      | .ok (none, seen) => (m0 x.length must seen).say false
      | .error why => (m0 x.length must (({} : Sre.Seen).add 14)).stick why) := rfl
    rw [ef, ea]
    cases hf : firstTw x (x.length + 1 - st) st with
    | none =>
      rw [hf] at h
      obtain ⟨m1, e1, o1⟩ := say_false (m := m0 x.length must seen') rfl rfl
      exact runToEnd_of (m2 := m1) (fun hq => drive_one e1 (by rw [o1]; rfl) hq) (.inr ⟨o1, h⟩)
    | some p =>
      rw [hf] at h
      obtain ⟨m1, m2, e1, o1, e2, o2, F⟩ := run_tw (m := m0 x.length false seen') hx rfl rfl rfl rfl rfl rfl rfl rfl rfl rfl rfl rfl rfl (firstTw_ok hf).2.1
      exact runToEnd_of (m2 := m2) (fun hq => drive_two e1 o1 e2 (by rw [o2]; rfl) hq) (.inl ⟨o2, h m2 F⟩)
end
end LL
end

section
open PySem PySem.W PySem.Calls PyProof.Rows
open PySem.Builtin PySem.Builtin.Re
set_option Elab.async false
set_option maxRecDepth 100000
set_option linter.unusedVariables false
set_option linter.unusedSimpArgs false
namespace LL
theorem pa_match : PlainAttrs "re.Match" := ⟨⟨"object.__getattribute__", by rw [typeLookup_type, builtinLookup_eq_fast]; kernel_rfl, by decide +kernel⟩, by rw [typeLookup_type, builtinLookup_eq_fast]; kernel_rfl⟩
theorem sl_group : Slot "re.Match" "group" "re.Match.group" :=
  .of (owner := "re.Match") (n := "group") (by rw [typeLookup_type, builtinLookup_eq_fast]; kernel_rfl) (by decide +kernel) (by decide +kernel) (by decide +kernel)
    (by first | exact .inl (by decide +kernel) | exact .inr (by decide +kernel)) (by rw [isSubtype_type]; kernel_rfl)
theorem ty_group : typeOf (.builtin "re.Match.group") = pure (.type "method_descriptor") := by show builtinType _ = _; rw [builtinType_eq_fast]; kernel_rfl
theorem en_group : entryFor table "re.Match.group" = some Builtin.«re.Match.group» := entryFor_of_tree (by kernel_rfl)
theorem ar_group (a b : Value) : argsOk "re.Match.group" ⟨[a, b], []⟩ := by unfold argsOk; kernel_rfl
theorem pa_pat : PlainAttrs "re.Pattern" := ⟨⟨"object.__getattribute__", by rw [typeLookup_type, builtinLookup_eq_fast]; kernel_rfl, by decide +kernel⟩, by rw [typeLookup_type, builtinLookup_eq_fast]; kernel_rfl⟩
theorem sl_sub : Slot "re.Pattern" "sub" "re.Pattern.sub" :=
  .of (owner := "re.Pattern") (n := "sub") (by rw [typeLookup_type, builtinLookup_eq_fast]; kernel_rfl) (by decide +kernel) (by decide +kernel) (by decide +kernel)
    (by first | exact .inl (by decide +kernel) | exact .inr (by decide +kernel)) (by rw [isSubtype_type]; kernel_rfl)
theorem ty_sub : typeOf (.builtin "re.Pattern.sub") = pure (.type "method_descriptor") := by show builtinType _ = _; rw [builtinType_eq_fast]; kernel_rfl
theorem en_sub : entryFor table "re.Pattern.sub" = some Builtin.«re.Pattern.sub» := entryFor_of_tree (by kernel_rfl)
theorem en_subl : entryFor table "re.Pattern.sub.loop" = some Builtin.«re.Pattern.sub.loop» := entryFor_of_tree (by kernel_rfl)
theorem ar_sub (a b c : Value) : argsOk "re.Pattern.sub" ⟨[a, b, c], []⟩ := by unfold argsOk; kernel_rfl
section
variable {prog : Program} {w : World} {A : Around} {E : Value → Shared → Prop} {s : Shared}
noncomputable abbrev matchObj (x : List Nat) (t : Tok) (pat : Value) (q1 q2 q3 : Value) (ta : Addr) : Obj := { cls := .type "re.Match", data := .fields #[.str ⟨x.toArray⟩ t, pat, q1, q2, q3, .ref ta] }
noncomputable abbrev spanObj (p : Nat) : Obj := { cls := .type "tuple", data := .seq #[rawInt p, rawInt (p + 1), rawInt p, rawInt (p + 1)] }
theorem group_body {x : List Nat} {t u : Tok} {pat q1 q2 q3 : Value} {ma ta : Addr} {p : Nat} {R : Result → Shared → Prop} (hm : s.heap.get? ma = some (matchObj x t pat q1 q2 q3 ta)) (ht : s.heap.get? ta = some (spanObj p))
    (h : R (.ok (.ret (.str ⟨x.toArray.extract p (p + 1)⟩ s.toks))) { s with toks := s.toks + 1 }) :
    wpAny (model prog w) A (Builtin.«re.Match.group» ⟨[.ref ma, .int 1 u], []⟩) (fun fin s' => match fin with | .done f => R (.ok f) s' | _ => False) E s := by
  obtain ⟨hp, g, d, tk, os⟩ := s
  repeat (any_goals (first | assumption | wp_step))
  have es : Array.map reRawOf ((some #[rawInt (p : Int), rawInt ((p : Int) + 1), rawInt (p : Int), rawInt ((p : Int) + 1)]).getD #[]) = #[(p : Int), (p : Int) + 1, (p : Int), (p : Int) + 1] := by simp [reRawOf, rawInt]
  rw [es]
  show wpAny _ _ (if (decide ((p : Int) < 0) || decide ((p : Int) + 1 < 0)) = true then pure Value.none else (do
    let (text, kind) ← reTextOf (.str ⟨x.toArray⟩ t)
    reSlice text kind (p : Int).toNat ((p : Int) + 1).toNat)) _ _ _
  rw [if_neg (by rw [decide_eq_false (by lia), decide_eq_false (by lia)]; decide)]
  refine wpAny_bind (wpAny_bind (wpAny_pure (wpAny_pure ?_)))
  have e1 : (p : Int).toNat = p := by lia
  have e2 : ((p : Int) + 1).toNat = p + 1 := by lia
  show wpAny _ _ (mkStr ⟨x.toArray.extract (p : Int).toNat ((p : Int) + 1).toNat⟩) _ _ _
  rw [e1, e2]
  refine wpAny_mkStr ?_ (by show (x.toArray.extract p (p + 1)).size ≤ sizeLine; rw [Array.size_extract, sizeLine_eq]; lia)
  exact wpAny_pure h
end
end LL
end

section
open PySem PySem.W PySem.Calls PyProof.Rows
open PySem.Builtin PySem.Builtin.Re
set_option Elab.async false
set_option maxRecDepth 100000
set_option linter.unusedVariables false
set_option linter.unusedSimpArgs false
namespace LL
noncomputable def lamPos : Pos := ⟨63, 39, 63, 76⟩
noncomputable def lamArgs : Arguments := { posonlyargs := [], args := [{ arg := "_m", annotation := none, pos := ⟨63, 46, 63, 48⟩ }], vararg := none, kwonlyargs := [], kw_defaults := [], kwarg := none, defaults := [] }
noncomputable def lamGrp : Expr := .Call (.Attribute (.Name "_m" ⟨63, 58, 63, 60⟩) "group" ⟨63, 58, 63, 66⟩) [.Constant (.int 1) 0 ⟨63, 67, 63, 68⟩] [] ⟨63, 58, 63, 69⟩
noncomputable def lamBody : Expr := .BinOp (.Constant (.str "\\") 0 ⟨63, 50, 63, 54⟩) .Add (.BoolOp .Or [lamGrp, .Constant (.str "") 0 ⟨63, 73, 63, 75⟩] ⟨63, 58, 63, 75⟩) ⟨63, 50, 63, 76⟩
noncomputable def lamScope : Scope := { kind := .function, names := [("_m", .local)], isGenerator := false, isCoroutine := false }
noncomputable def lamQual : Str := "_translate.<locals>.<lambda>"
noncomputable def CodeIn (P : PM) (cv : Value) (q : Str) : Prop := ∃ c o vs t, cv = .ref c ∧ P c = some o ∧ o.data = .fields vs ∧ vs[1]? = some (.str q t)
theorem CodeIn.mono {P P' : PM} {cv : Value} {q : Str} (le : LE P P') : CodeIn P cv q → CodeIn P' cv q
  | ⟨c, o, vs, t, h1, h2, h3, h4⟩ => ⟨c, o, vs, t, h1, le _ _ h2, h3, h4⟩
structure TabOk (P : PM) (ps : Array Value) : Prop where
  tri : TriplesOk ps.toList
  lam : ∀ cv, codeAmong lamPos ps.toList = some cv → CodeIn P cv lamQual
theorem among_other {pos pos' : Pos} {c : Value} (hne : ¬ (pos'.line = pos.line ∧ pos'.col = pos.col)) (l : List Value) (h : TriplesOk l) : codeAmong pos (l ++ [rawInt pos'.line, rawInt pos'.col, c]) = codeAmong pos l := by
  fun_induction TriplesOk l with
  | case1 =>
    have : ¬ (((pos'.line : Int) == pos.line && (pos'.col : Int) == pos.col) = true) := by
      simp only [Bool.and_eq_true, beq_iff_eq]
      exact fun e => hne ⟨by lia, by lia⟩
    simp only [List.nil_append, codeAmong, rawInt]
    rw [if_neg this]
  | case2 a t b u x rest ih =>
    simp only [List.cons_append, codeAmong]
    rw [ih h]
  | case3 l h1 h2 => exact h.elim
structure HT (g : GC) : Prop where
  tk1 : g.tk0 = 1
  tok : g.TOK = TabOk
  ne : mainGlobals ≠ g.T
  cd : ∀ h : Heap, (∀ b o, g.G b = some o → h.get? b = some o) → h.get? g.T ≠ none → CodeHd h 61 g.T
  bi : ∀ h : Heap, (∀ b o, g.G b = some o → h.get? b = some o) → h.BuiltinsAt g.mg g.T
section
variable {g : GC} {F : FC} {n : Nat} {σ : LS}
theorem none_ge {h : Heap} {a : Addr} (ha : h.objs.size ≤ a) : h.get? a = none := by
  cases e : h.get? a with
  | none => rfl
  | some o' => exact absurd (Heap.lt_size e) (Nat.not_lt.mpr ha)
theorem GSt.none_ge {P : PM} {s : Shared} (S : GSt g P s) {a : Addr} (ha : s.heap.objs.size ≤ a) : P a = none := by
  cases e : P a with
  | none => rfl
  | some o' => exact absurd (S.lt e) (Nat.not_lt.mpr ha)
theorem GSt.grown {P : PM} {s : Shared} (S : GSt g P s) {h' : Heap} {t : Nat} {a : Addr} {o : Obj} (ha : s.heap.objs.size ≤ a) (ho : h'.get? a = some o) (hk : ∀ b o, b ≠ g.T → s.heap.get? b = some o → h'.get? b = some o) (ht : s.toks ≤ t)
    (htab : ∃ ps, h'.get? g.T = some (tabObj ps) ∧ g.TOK (P.put a o) ps) : GSt g (P.put a o) { s with heap := h', toks := t } ∧ Grow g P s (P.put a o) { s with heap := h', toks := t } := by
  have hP := S.none_ge ha
  have hTa : g.T ≠ a := Nat.ne_of_lt (Nat.lt_of_lt_of_le S.tab_lt ha)
  refine ⟨⟨fun b o' e => ?_, S.base.trans (LE.put hP), htab, ?_, S.bare, S.os, Nat.le_trans S.tk ht⟩, ⟨LE.put hP, fun b o' e => ?_, hk⟩⟩
  · unfold PM.put at e
    split at e
    · rename_i hb; subst hb; cases e; exact ho
    · exact hk b o' (fun z => by rw [z, S.tabP] at e; cases e) (S.pre b o' e)
  · rw [PM.put_ne hTa]; exact S.tabP
  · unfold PM.put at e
    split at e
    · rename_i hb; subst hb; exact .inr (LL.none_ge ha)
    · exact .inl e
theorem evalLam {A : Around} {P : PM} {s : Shared} {Q : Value → Shared → Prop} {E : Value → Shared → Prop} (H : HT g) (S : St g F P s σ) (hc : F.env.code = .ref 61) (hq : F.env.qual ++ "<lambda>" = lamQual)
    (q : ∀ P' s' f c' ctv pm, LE P P' → St g F P' s' σ → P' f = some (kla_obj "<lambda>" lamQual lamArgs lamBody lamScope [] pm c' ctv) → CodeIn P' (.ref c') lamQual → Q (.ref f) s') :
    wpAny (model g.prog g.w) A (eval (.Lambda lamArgs lamBody lamScope lamPos) F.env) Q E s := by
  have ext : ∀ b o, g.G b = some o → s.heap.get? b = some o := fun b o e => S.G.pre _ _ (S.G.base _ _ e)
  obtain ⟨ps, hT, hok⟩ := S.G.tab
  rw [H.tok] at hok
  have hcl : closureFor lamScope F.env = pure [] := closureFor_none (by decide)
  refine wpAny_tk (kla_eval rfl ?_)
  rw [hq]
  have hCd := H.cd _ ext (by rw [hT]; nofun)
  cases hf : codeAmong lamPos ps.toList with
  | some cv =>
    refine kla_makeFunctionHit hcl S.glob (g.hg _ ext) hc hCd hT hok.tri hf (H.bi _ ext) fun ctv h' tk hk hsz ht => ?_
    obtain ⟨c', oc, vs, t, e1, e2, e3, e4⟩ := hok.lam cv hf
    subst e1
    obtain ⟨G', R⟩ := S.G.grown (a := h'.objs.size) (o := kla_obj "<lambda>" lamQual lamArgs lamBody lamScope [] ((g.mg "__name__").getD .none) c' ctv) (h' := h'.push (kla_obj "<lambda>" lamQual lamArgs lamBody lamScope [] ((g.mg "__name__").getD .none) c' ctv)) hsz (Heap.get?_push_size _ rfl)
      (fun b o _ e => Heap.get?_push_of_some _ (hk b o e)) ht ⟨ps, Heap.get?_push_of_some _ (hk _ _ hT), by rw [H.tok]; exact ⟨hok.tri, fun cv h => (hok.lam cv h).mono (LE.put (S.G.none_ge hsz))⟩⟩
    exact q _ _ _ c' ctv _ R.le (S.grow G' R) PM.put_self (CodeIn.mono R.le ⟨c', oc, vs, t, rfl, e2, e3, e4⟩)
  | none =>
    refine kla_makeFunction hcl S.glob (g.hg _ ext) hc hCd hT hok.tri hf H.ne (H.bi _ ext) fun c' ctv h' tk hx hge hlt hrec htab ht => ?_
    obtain ⟨c₁, oc, vs, t, e1, e2, e3, e4⟩ := hrec
    cases e1
    have lamr : ∀ {P : PM}, P c' = some oc → CodeIn P (.ref c') lamQual := fun h => ⟨c', oc, vs, t, rfl, h, e3, e4⟩
    have tabok : ∀ {P' : PM}, LE P P' → P' c' = some oc → TabOk P' (ps ++ #[rawInt lamPos.line, rawInt lamPos.col, .ref c']) := by
      intro P' le hc'
      have hl : (ps ++ #[rawInt lamPos.line, rawInt lamPos.col, Value.ref c']).toList = ps.toList ++ [rawInt lamPos.line, rawInt lamPos.col, .ref c'] := by simp
      refine ⟨by rw [hl]; exact TriplesOk_snoc _ _ _ _ hok.tri, fun cv h => ?_⟩
      rw [hl, codeAmong_snoc _ hok.tri hf] at h
      cases h
      exact lamr hc'
    obtain ⟨G₁, R₁⟩ := S.G.grown (a := c') (o := oc) (h' := h') (t := tk) hge e2 (fun b o hb e => hx b o hb e) ht ⟨_, htab, by rw [H.tok]; exact tabok (LE.put (S.G.none_ge hge)) PM.put_self⟩
    obtain ⟨G₂, R₂⟩ := G₁.grown (a := h'.objs.size) (o := kla_obj "<lambda>" lamQual lamArgs lamBody lamScope [] ((g.mg "__name__").getD .none) c' ctv) (h' := h'.push (kla_obj "<lambda>" lamQual lamArgs lamBody lamScope [] ((g.mg "__name__").getD .none) c' ctv)) (t := tk) (Nat.le_refl _) (Heap.get?_push_size _ rfl)
      (fun b o _ e => Heap.get?_push_of_some _ e) (Nat.le_refl _) ⟨_, Heap.get?_push_of_some _ htab, by rw [H.tok]; exact tabok (R₁.le.trans (LE.put (G₁.none_ge (Nat.le_refl _)))) (LE.put (G₁.none_ge (Nat.le_refl _)) _ _ PM.put_self)⟩
    exact q _ _ _ c' ctv _ (R₁.le.trans R₂.le) ((S.grow G₁ R₁).grow G₂ R₂) PM.put_self (lamr (R₂.le _ _ PM.put_self))
end
end LL
end

section
open PySem PySem.W PySem.Calls PyProof.Rows
open PySem.Builtin PySem.Builtin.Re
set_option Elab.async false
set_option maxRecDepth 100000
set_option linter.unusedVariables false
set_option linter.unusedSimpArgs false
namespace LL
section
variable {g : GC} {F : FC} {n : Nat} {σ : LS}
theorem extract_one {x : List Nat} {p c : Nat} (h : x[p]? = some c) : x.toArray.extract p (p + 1) = #[c] := by
  apply Array.ext'
  rw [Array.toList_extract]
  have hp := (List.getElem?_eq_some_iff.mp h).1
  have e : x[p] = c := by rw [List.getElem?_eq_getElem hp] at h; exact Option.some.inj h
  simp [List.extract, List.drop_eq_getElem_cons hp, e]
theorem groupW {A : Around} {E : Value → Shared → Prop} {P : PM} {s : Shared} {Q : Value → Shared → Prop} (r : Room n A) (S : St g F P s σ) {x : List Nat} {t : Tok} {pat q1 q2 q3 : Value} {ta : Addr} {p c : Nat} (hm : (Str.ofString "_m", Loc.local, LV.obj (matchObj x t pat q1 q2 q3 ta)) ∈ σ.env) (hta : P ta = some (spanObj p)) (hc : x[p]? = some c)
    (q : ∀ tk, s.toks ≤ tk → Q (.str ⟨#[c]⟩ tk) { s with toks := tk + 1 }) : wpAny (model g.prog g.w) A (eval lamGrp F.env) Q E s := by
  refine wpAny_Call_method_lateS rfl rfl rfl ?_
  obtain ⟨hd, k⟩ := loadW (A := A) (E := E) (Q := fun v s₁ => ∃ ma, v = .ref ma ∧ s₁ = s ∧ P ma = some (matchObj x t pat q1 q2 q3 ta)) S hm (by nofun) (fun v hv => by obtain ⟨a, rfl, h⟩ := hv.toObj; exact ⟨a, rfl, rfl, h⟩)
  refine wpAny_mono (wpAny_Name k hd) (fun v s₁ h₁ => ?_) fun _ _ y => y
  obtain ⟨ma, rfl, rfl, hP⟩ := h₁
  have hma := S.G.pre _ _ hP
  refine ⟨"re.Match", "re.Match.group", pa_match, sl_group, ty_group, ⟨_, hma, rfl⟩, (fun a e => by cases e; exact ⟨_, hma, rfl⟩), ?_⟩
  refine callWith_builtin rfl (evalArgs_of rfl ?_)
  refine spliced_cons (wpAny_Constant_int (k := 0) (pos := ⟨63, 67, 63, 68⟩) (spliced_nil ?_))
  show wpAny _ _ (call (.builtin "re.Match.group") [.ref ma, .int 1 _]) _ _ _
  refine wpAny_call (codeAny_call_builtin sl_group.plain en_group (sl_group.check _ _ _ _ _ _ _ _ (show ({ s₁ with toks := s₁.toks + 1 } : Shared).TypeIs (.ref ma) "re.Match" from ⟨_, hma, rfl⟩) (ar_group _ _) ?_))
  refine wpAny_mono (group_body (R := fun res s' => match res with | .ok (.ret v) => Q v s' | .ok _ => False | .error e => E e s') (s := { s₁ with toks := s₁.toks + 1 }) hma (S.G.pre _ _ hta) ?_) (fun fin s' z => ?_) fun e s' z => z
  · rw [extract_one hc]
    exact q _ (Nat.le_succ _)
  · cases fin with
    | done f => exact z
    | again c => exact z.elim
theorem lamCall {A : Around} {E : Value → Shared → Prop} {P : PM} {s : Shared} {Q : Value → Shared → Prop} (hgt : GtOk g gtab) (r : Room (n + 1) A) (S : GSt g P s) {f ma ta c' : Addr} {ctv pm : Value} (hf : P f = some (kla_obj "<lambda>" lamQual lamArgs lamBody lamScope [] pm c' ctv)) (hcd : CodeIn P (.ref c') lamQual)
    {x : List Nat} {t : Tok} {pat q1 q2 q3 : Value} {p c : Nat} (hm : P ma = some (matchObj x t pat q1 q2 q3 ta)) (hta : P ta = some (spanObj p)) (hc : x[p]? = some c)
    (q : ∀ P' s' tk, Grow g P s P' s' → GSt g P' s' → Q (.str ⟨#[92, c]⟩ tk) s') : wpAny (model g.prog g.w) A (call (.ref f) [.ref ma]) Q E s := by
  have base : ∀ b o, g.G b = some o → s.heap.get? b = some o := fun b o e => S.pre _ _ (S.base _ _ e)
  have ro : A.depth < recursionLimit := Nat.lt_of_lt_of_le (by have := r.2.1; lia : A.depth < 500) (by decide)
  have hrec : s.heap.CodeRec (.ref c') lamQual := by obtain ⟨c, o, vs, t, h1, h2, h3, h4⟩ := hcd; exact ⟨c, o, vs, t, h1, S.pre _ _ h2, h3, h4⟩
  refine wpAny_call (kla_callFunE ro (S.pre _ _ hf) rfl rfl rfl rfl hrec ?_)
  have hb : bindArgs (kla_fn "<lambda>" lamQual lamArgs lamBody lamScope [] pm (.ref c') ctv) ⟨[.ref ma], []⟩ = pure [(Str.ofString "_m", Value.ref ma)] := rfl
  rw [hb]
  refine wpAny_pure ?_
  show wpAny _ _ (newFunctionEnv lamScope mainGlobals [] ((["_m"] : List Str).zip [.ref ma]) _ (some f) (.ref c') none builtinsNs) _ _ _
  refine newFrame (g := g) (outer := []) (gt := gtab) (lvs := [.obj (matchObj x t pat q1 q2 q3 ta)]) S hgt (by decide) (cl := []) rfl rfl rfl rfl (.cons (by unfold V; exact ⟨ma, rfl, hm⟩) .nil) (fun y hy => ?_) (fun y lv h => ?_) fun s₁ S₁ => ?_
  · rcases List.mem_cons.mp hy with rfl | hy
    · exact ⟨.local, .undef, .head _, .inl rfl⟩
    · cases hy
  · rcases List.mem_cons.mp h with h | h <;> cases h
  refine ⟨g.hl _ fun b o e => S₁.G.pre _ _ (S₁.G.base _ _ e), kla_codeExpr ?_⟩
  refine wpAny_BinOp (Constant_str (k := 0) (pos := ⟨63, 50, 63, 54⟩) (BoolOp_or ?_))
  have S₂ := S₁.toks (s₁.toks + 1) (Nat.le_succ _)
  refine groupW r.deeper S₂ (.head _) hta hc fun tk htk => ?_
  refine PySem.P.truthy_str (by show ¬ ((1 : Nat) : Int) ≥ 2 ^ 63; decide) ?_
  show wpAny _ _ (binaryOp .Add _ _) _ _ _
  refine wpAny_tk (add_str (fun t₁ tk₁ hk => ?_) (by show (Str.ofString "\\").length + 1 ≤ sizeLine; decide))
  have S₃ := S₂.toks (tk₁) (Nat.le_trans htk (Nat.le_trans (by show tk ≤ _; exact Nat.le_trans (Nat.le_succ _) (Nat.le_trans (Nat.le_succ _) (Nat.le_succ _))) hk))
  have R := S₃.leave rfl rfl (.refl P)
  exact q P _ t₁ R S₃.G
end
end LL
end

section
open PySem PySem.W PySem.Calls PyProof.Rows
open PySem.Builtin PySem.Builtin.Re PySem.Builtin.Str
set_option Elab.async false
set_option maxRecDepth 100000
set_option linter.unusedVariables false
set_option linter.unusedSimpArgs false
namespace LL
noncomputable def joinL (x : List Nat) : List (List Nat) → List Nat
  | [] => []
  | a :: r => r.foldl (fun acc p => acc ++ x ++ p) a
theorem foldl_glue (x : List Nat) : ∀ (r : List (List Nat)) (a : List Nat), (r.map fun s => (⟨s.toArray⟩ : Str)).foldl (fun acc p => acc ++ x.toArray ++ p.cps) a.toArray = (r.foldl (fun acc p => acc ++ x ++ p) a).toArray
  | [], a => rfl
  | p :: r, a => by
    simp only [List.map_cons, List.foldl_cons]
    rw [← foldl_glue x r]
    congr 1
    simp
theorem joinS_eq (x : List Nat) : ∀ l, joinS x l = joinL x l
  | [] => rfl
  | a :: r => by
    unfold joinS joinL Txt.join glued
    have := foldl_glue x r a
    simp only [List.map_cons, List.drop_succ_cons, List.drop_zero, List.headD_cons]
    rw [this]
theorem foldl_nil (r : List (List Nat)) : ∀ a : List Nat, r.foldl (fun acc p => acc ++ [] ++ p) a = a ++ r.flatten := by
  induction r with
  | nil => intro a; simp
  | cons p r ih => intro a; rw [List.foldl_cons, ih]; simp
theorem joinL_nil (l : List (List Nat)) : joinL [] l = l.flatten := by
  cases l with
  | nil => rfl
  | cons a r => show r.foldl (fun acc p => acc ++ [] ++ p) a = _; rw [foldl_nil]; rfl
theorem joinOk_of {x : Str} {l : List Str} (h : (l.map (·.length)).sum + l.length * x.length ≤ 16777216) : JoinOk x l = true := by
  have e : ∀ (l : List Str) (a : Nat), l.foldl (fun b p => b + p.length + x.length) a = a + ((l.map (·.length)).sum + l.length * x.length) := by
    intro l
    induction l with
    | nil => intro a; simp
    | cons p r ih =>
      intro a
      rw [List.foldl_cons, ih]
      simp only [List.map_cons, List.sum_cons, List.length_cons, Nat.add_mul, Nat.one_mul]
      lia
  unfold JoinOk tooLong
  rw [List.foldl_toArray, e, sizeLine_eq, Bool.not_eq_true']
  exact decide_eq_false (by lia)
theorem joinOk_flat {x : List Nat} {l : List (List Nat)} (h : l.flatten.length + l.length * x.length ≤ 16777216) : JoinOk ⟨x.toArray⟩ (l.map fun s => ⟨s.toArray⟩) = true := by
  refine joinOk_of ?_
  have : ((l.map fun s => (⟨s.toArray⟩ : Str)).map (·.length)).sum = l.flatten.length := by
    rw [List.map_map, List.length_flatten]
    rfl
  rw [this, List.length_map, str_len]
  exact h
structure PatIn (g : GC) (pa : Addr) : Prop where
  at' : ∃ op fs ta o35 vs k, g.G pa = some op ∧ op.cls = .type "re.Pattern" ∧ op.dict = none ∧ op.data = .fields fs ∧ fs.getD 5 .none = .ref ta ∧ reRawNat (fs.getD 2 .none) = 1 ∧ reRawNat (fs.getD 6 .none) = 0 ∧
    g.G ta = some o35 ∧ o35.data = .seq vs k ∧ (vs.map reRawOf).map (·.toNat) = twin
noncomputable def subS (x : List Nat) : List Nat := x.flatMap fun c => if isTw c then [92, c] else [c]
section
variable {g : GC} {F : FC} {n : Nat} {σ : LS}
theorem targetW {A : Around} {E : Value → Shared → Prop} {P : PM} {s : Shared} {Q : ReTarget → Shared → Prop} {pa : Addr} (PI : PatIn g pa) (S : GSt g P s) {x : List Nat} {t : Tok}
    (q : Q { pattern := .ref pa, string := .str ⟨x.toArray⟩ t, code := twin, text := x.toArray, kind := 0, groups := 1, pos := 0, lim := x.length } s) : wpAny (model g.prog g.w) A (reWholeTarget (.ref pa) (.str ⟨x.toArray⟩ t)) Q E s := by
  obtain ⟨op, fs, ta, o35, vs, k, h1, h2, h3, h4, h5, h6, h7, h8, h9, h10⟩ := PI.at'
  have e1 := S.pre _ _ (S.base _ _ h1)
  have e2 := S.pre _ _ (S.base _ _ h8)
  unfold reWholeTarget
  refine wpAny_bind (wpAny_fieldsOf e1 h4 ?_)
  refine wpAny_bind (wpAny_bind (wpAny_pure (wpAny_pure ?_)))
  dsimp only
  rw [h7]
  refine wpAny_bind (m := reNoCollectionInside _ _) (wpAny_pure ?_)
  refine wpAny_bind (m := reRawItems _) ?_
  unfold reRawItems
  rw [h5]
  refine wpAny_bind (m := seqItems? _) (wpAny_bind (wpAny_load e2 ?_))
  rw [h9]
  refine wpAny_pure (wpAny_pure (wpAny_pure ?_))
  rw [h6]
  have : Array.map (fun x => x.toNat) (Array.map reRawOf ((some vs).getD #[])) = twin := h10
  rw [this]
  exact q
end
end LL
end

section
open PySem PySem.W PySem.Calls PyProof.Rows
open PySem.Builtin PySem.Builtin.Re PySem.Builtin.Str
set_option Elab.async false
set_option maxRecDepth 100000
set_option linter.unusedVariables false
set_option linter.unusedSimpArgs false
namespace LL
theorem subS_plain : ∀ {x : List Nat}, (∀ c ∈ x, isTw c = false) → subS x = x
  | [], _ => rfl
  | c :: x, h => by
    have := subS_plain (x := x) fun d hd => h d (.tail _ hd)
    unfold subS at this ⊢
    rw [List.flatMap_cons, this, h c (.head _)]; rfl
theorem subS_append (x y : List Nat) : subS (x ++ y) = subS x ++ subS y := by unfold subS; rw [List.flatMap_append]
theorem subS_len : ∀ x : List Nat, (subS x).length ≤ 2 * x.length
  | [] => Nat.zero_le _
  | c :: x => by
    have := subS_len x
    unfold subS at this ⊢
    rw [List.flatMap_cons, List.length_append, List.length_cons]
    have : (if isTw c = true then [92, c] else [c]).length ≤ 2 := by cases isTw c <;> simp
    lia
structure Pieces (g : GC) (P : PM) (s : Shared) (L : Addr) (texts : List (List Nat)) : Prop where
  none : P L = none
  ne : L ≠ g.T
  at' : ∃ l : List (Str × Tok), s.heap.PlainList L (strValues l).toArray ∧ l.map (·.1) = texts.map fun s => (⟨s.toArray⟩ : Str)
theorem Pieces.step {g : GC} {P P' : PM} {s s' : Shared} {L : Addr} {texts : List (List Nat)} (X : Pieces g P s L texts) (R : Grow g P s P' s') : Pieces g P' s' L texts := by
  obtain ⟨l, ⟨k, ho⟩, h2⟩ := X.at'
  refine ⟨?_, X.ne, l, ⟨k, R.keep _ _ X.ne ho⟩, h2⟩
  cases e : P' L with
  | none => rfl
  | some o =>
    rcases R.new _ _ e with h | h
    · rw [X.none] at h; cases h
    · rw [h] at ho; cases ho
section
variable {g : GC} {F : FC} {n : Nat} {σ : LS}
structure Far (g : GC) (P : PM) (s : Shared) (P' : PM) (s' : Shared) (L : Addr) : Prop where
  le : LE P P'
  new : ∀ b o, P' b = some o → P b = some o ∨ s.heap.get? b = none
  keep : ∀ b o, b ≠ g.T → b ≠ L → s.heap.get? b = some o → s'.heap.get? b = some o
theorem Far.trans {P P' P'' : PM} {s s' s'' : Shared} {L : Addr} (x : Far g P s P' s' L) (y : Far g P' s' P'' s'' L) (hT : P'' g.T = none) (hL : P'' L = none) : Far g P s P'' s'' L :=
  ⟨x.le.trans y.le, fun b o e => (y.new b o e).elim (fun e' => x.new b o e') (fun h => .inr (by
    cases q : s.heap.get? b with
    | none => rfl
    | some o' =>
      rw [x.keep b o' (fun z => by subst z; rw [hT] at e; cases e) (fun z => by subst z; rw [hL] at e; cases e) q] at h; cases h)), fun b o hb hl e => y.keep b o hb hl (x.keep b o hb hl e)⟩
theorem Grow.far {P P' : PM} {s s' : Shared} {L : Addr} (R : Grow g P s P' s') : Far g P s P' s' L := ⟨R.le, R.new, fun b o hb _ e => R.keep b o hb e⟩
theorem pushW {A : Around} {E : Value → Shared → Prop} {P : PM} {s : Shared} {Q : Unit → Shared → Prop} {L : Addr} {texts : List (List Nat)} (S : GSt g P s) (X : Pieces g P s L texts) {y : List Nat} {t : Tok} (hn : texts.length ≤ 100000)
    (q : ∀ s', GSt g P s' → Pieces g P s' L (texts ++ [y]) → Far g P s P s' L → Q () s') : wpAny (model g.prog g.w) A (updateSeq L (·.push (.str ⟨y.toArray⟩ t))) Q E s := by
  obtain ⟨l, ⟨k, ho⟩, h2⟩ := X.at'
  have hl : l.length = texts.length := by have := congrArg List.length h2; simpa using this
  refine wpAny_updateSeq ho rfl ?_ (by simp [strValues, sizeLine_eq]; lia) (by simp [strValues, sizeLine_eq]; lia)
  have G' := S.write (t := s.toks) (Heap.SameBut.update (h := s.heap) (a := L) (f := Obj.mapSeq (·.push (.str ⟨y.toArray⟩ t)))) X.none X.ne (Nat.le_refl _)
  refine q _ G' ⟨X.none, X.ne, l ++ [(⟨y.toArray⟩, t)], ⟨k + 1, ?_⟩, by simp [h2]⟩ ⟨.refl P, fun b o e => .inl e, fun b o _ hb e => (Heap.SameBut.update ..).extBut b o hb e⟩
  have e : (strValues (l ++ [(⟨y.toArray⟩, t)])).toArray = (strValues l).toArray.push (.str ⟨y.toArray⟩ t) := by simp [strValues]
  rw [e]
  show (s.heap.update L (Obj.mapSeq (·.push (.str ⟨y.toArray⟩ t)))).get? L = _
  rw [Heap.get?_update_self _ ho (by rw [Obj.mapSeq_push_plain]; rfl), Obj.mapSeq_push_plain]
theorem sliceW {A : Around} {E : Value → Shared → Prop} {P : PM} {s : Shared} {Q : Value → Shared → Prop} {x : List Nat} {b e : Nat} (S : GSt g P s) (hx : x.length ≤ 100000)
    (q : ∀ tk, GSt g P { s with toks := tk } → Q (.str ⟨((x.drop b).take (e - b)).toArray⟩ s.toks) { s with toks := tk }) : wpAny (model g.prog g.w) A (reSlice x.toArray 0 b e) Q E s := by
  show wpAny _ _ (mkStr ⟨x.toArray.extract b e⟩) _ _ _
  have ex : (x.toArray.extract b e) = ((x.drop b).take (e - b)).toArray := by
    apply Array.ext'
    rw [Array.toList_extract]
  rw [ex]
  refine wpAny_mkStr (q _ (S.toks _ (Nat.le_succ _))) ?_
  rw [str_len, sizeLine_eq, List.length_take, List.length_drop]
  lia
theorem matchW {A : Around} {E : Value → Shared → Prop} {P : PM} {s : Shared} {Q : Value → Shared → Prop} {pat : Value} {x : List Nat} {t : Tok} {m : Sre.M} {p lim : Nat} (S : GSt g P s) (hm : FoundAt m p)
    (q : ∀ P' s' ma ta q1 q2 q3, Grow g P s P' s' → GSt g P' s' → P' ma = some (matchObj x t pat q1 q2 q3 ta) → P' ta = some (spanObj p) → Q (.ref ma) s') : wpAny (model g.prog g.w) A (reNewMatch pat (.str ⟨x.toArray⟩ t) 1 0 lim m) Q E s := by
  obtain ⟨h1, h2, h3, h4, h5⟩ := hm
  unfold reNewMatch
  dsimp only
  rw [h3, h4, h1, h2]
  rw [if_neg (by
    show ¬ (((decide (((1 : Nat) : Int) ≤ 1) && decide (p + 1 < p)) || false) = true)
    rw [decide_eq_false (show ¬ p + 1 < p by lia)]; decide)]
  have S₁ := S.push (spanObj p)
  have R₁ := Grow.push S (spanObj p)
  have P₁T := S₁.tabP
  show wpAny _ _ (newTuple [rawInt p, rawInt (p + 1 : Nat), rawInt p, rawInt (p + 1 : Nat)] >>= fun r => newFields "re.Match" [.str ⟨x.toArray⟩ t, pat, rawInt ((0 : Nat) : Int), rawInt lim, rawInt m.lastindex, r]) _ _ _
  refine wpAny_bind (m := newTuple _) (wpAny_newObj_type ?_ (by show (4 : Nat) ≤ sizeLine; rw [sizeLine_eq]; lia))
  refine wpAny_newObj_type ?_ (by size_fits)
  have S₂ := S₁.push (matchObj x t pat (rawInt 0) (rawInt lim) (rawInt m.lastindex) s.heap.objs.size)
  have R₂ := Grow.push S₁ (matchObj x t pat (rawInt 0) (rawInt lim) (rawInt m.lastindex) s.heap.objs.size)
  exact q _ _ _ s.heap.objs.size (rawInt 0) (rawInt lim) (rawInt m.lastindex) (R₁.trans R₂ S₂.tabP) S₂ PM.put_self (R₂.le _ _ PM.put_self)
end
end LL
end

section
open PySem PySem.W PySem.Calls PyProof.Rows
open PySem.Builtin PySem.Builtin.Re PySem.Builtin.Str
set_option Elab.async false
set_option maxRecDepth 100000
set_option linter.unusedVariables false
set_option linter.unusedSimpArgs false
namespace LL
section
variable {g : GC} {F : FC} {n : Nat} {σ : LS}
theorem take_split {x : List Nat} {d p c : Nat} (hd : d ≤ p) (hc : x[p]? = some c) : x.take (p + 1) = x.take d ++ (x.drop d).take (p - d) ++ [c] := by
  have hp := (List.getElem?_eq_some_iff.mp hc).1
  have e : x[p] = c := by rw [List.getElem?_eq_getElem hp] at hc; exact Option.some.inj hc
  have h1 : x.take p = x.take d ++ (x.drop d).take (p - d) := by
    rw [← List.take_add]; congr 1; lia
  rw [List.take_add_one, List.getElem?_eq_getElem hp, h1, e]; rfl
theorem subS_take {x : List Nat} {d p c : Nat} (hd : d ≤ p) (hc : x[p]? = some c) (ht : isTw c = true) (hq : ∀ q, d ≤ q → q < p → ∃ c, x[q]? = some c ∧ isTw c = false) : subS (x.take (p + 1)) = subS (x.take d) ++ (x.drop d).take (p - d) ++ [92, c] := by
  rw [take_split hd hc, subS_append, subS_append]
  congr 1
  · congr 1
    refine subS_plain fun c' hm => ?_
    obtain ⟨i, hi, rfl⟩ := List.mem_iff_getElem.mp hm
    rw [List.length_take, List.length_drop] at hi
    obtain ⟨c2, h1, h2⟩ := hq (d + i) (by lia) (by lia)
    rw [List.getElem_take, List.getElem_drop]
    have hp := (List.getElem?_eq_some_iff.mp h1).1
    rw [List.getElem?_eq_getElem hp] at h1
    rw [Option.some.inj h1]; exact h2
  · unfold subS; simp [ht]
theorem subS_rest {x : List Nat} {d : Nat} (hd : d ≤ x.length) (hq : ∀ q, d ≤ q → q < x.length → ∃ c, x[q]? = some c ∧ isTw c = false) : subS x = subS (x.take d) ++ x.drop d := by
  conv => lhs; rw [← List.take_append_drop d x, subS_append]
  congr 1
  refine subS_plain fun c' hm => ?_
  obtain ⟨i, hi, rfl⟩ := List.mem_iff_getElem.mp hm
  rw [List.length_drop] at hi
  obtain ⟨c2, h1, h2⟩ := hq (d + i) (by lia) (by lia)
  rw [List.getElem_drop]
  have hp := (List.getElem?_eq_some_iff.mp h1).1
  rw [List.getElem?_eq_getElem hp] at h1
  rw [Option.some.inj h1]; exact h2
theorem Room.in1 {A : Around} (r : Room (n + 1) A) : Room n A.in1 := ⟨r.1, by have := r.2.1; show A.depth + n ≤ 500; (exact Nat.le_of_lt (by assumption)), by have := r.2.2; show A.units + 1 + 10 * n ≤ 1000; lia⟩
theorem subEnd {A : Around} {E : Value → Shared → Prop} {P : PM} {s : Shared} {Q : PySem.Fin → Shared → Prop} {x : List Nat} {L : Addr} {texts : List (List Nat)} {nn : Int} (S : GSt g P s) (X : Pieces g P s L texts) (hx : x.length ≤ 10000) {y : List Nat} (hy : y.length ≤ 100000) (hfl : texts.flatten = y)
    (q : ∀ tk s', GSt g P s' → Far g P s P s' L → Q (.done (.ret (.str ⟨y.toArray⟩ tk))) s') :
    wpAny (model g.prog g.w) A (do
      let joiner ← reSlice x.toArray 0 0 0
      let items ← seqItems? (.ref L)
      if (items.getD #[]).isEmpty = true then do
        let text ← pure joiner
        if false = true then do
          let r ← holding [text] do
            let k ← mkInt nn
            newTuple [text, k]
          ret r
        else ret text
      else do
        let text ← call (.builtin "str.join") [joiner, .ref L]
        if false = true then do
          let r ← holding [text] do
            let k ← mkInt nn
            newTuple [text, k]
          ret r
        else ret text) Q E s := by
  refine wpAny_bind (sliceW S (by (exact Nat.le_trans (by assumption) (by decide))) fun tk S₁ => ?_)
  obtain ⟨l, ⟨k, ho⟩, h2⟩ := X.at'
  have hl : l.length = texts.length := by have := congrArg List.length h2; simpa using this
  refine wpAny_bind (m := seqItems? _) (wpAny_bind (wpAny_load (s := { s with toks := tk }) ho (wpAny_pure ?_)))
  have far : ∀ {t : Nat}, Far g P s P { s with toks := t } L := fun {t} => ⟨.refl P, fun b o e => .inl e, fun b o _ _ e => e⟩
  cases l with
  | nil =>
    have ht : texts = [] := by cases texts with | nil => rfl | cons a b => cases h2
    subst ht
    rw [if_pos (by rfl)]
    refine wpAny_bind (wpAny_pure ?_)
    have hy0 : y = [] := hfl.symm
    subst hy0
    exact wpAny_pure (q _ _ S₁ far)
  | cons a l =>
    rw [if_neg (by simp [strValues])]
    refine wpAny_bind (wpAny_tk (SC.join (x := ⟨#[]⟩) (l := a :: l) (texts := texts.map fun s => ⟨s.toArray⟩) ⟨_, ho, rfl, _, rfl⟩ h2 ?_ fun t' k' hk => ?_))
    · refine joinOk_flat (x := []) ?_
      rw [hfl]; simp; (exact Nat.le_trans (by assumption) (by decide))
    · have e : Txt.join ⟨#[]⟩ (texts.map fun s => ⟨s.toArray⟩) = ⟨y.toArray⟩ := by
        have := joinS_eq [] texts
        rw [joinL_nil, hfl] at this
        unfold joinS at this
        apply Str.ext'
        rw [← this]
      rw [e]
      exact wpAny_pure (q _ _ (S₁.toks k' hk) far)
theorem subFound {A : Around} {E : Value → Shared → Prop} (hgt : GtOk g gtab) (r : Room (n + 1) A) {P : PM} {s : Shared} {Q : PySem.Fin → Shared → Prop} {x : List Nat} {t : Tok} {pa f c' : Addr} {ctv pm : Value} {L : Addr} {texts : List (List Nat)} {m : Sre.M} {p c : Nat} {cd : Code} (S : GSt g P s) (X : Pieces g P s L texts) (hn : texts.length ≤ 100000)
    (hf : P f = some (kla_obj "<lambda>" lamQual lamArgs lamBody lamScope [] pm c' ctv)) (hcd : CodeIn P (.ref c') lamQual) (hm : FoundAt m p) (hc : x[p]? = some c)
    (q : ∀ P₁ s₁, GSt g P₁ s₁ → Pieces g P₁ s₁ L (texts ++ [[92, c]]) → Far g P s P₁ s₁ L → Q (.again cd) s₁) :
    wpAny (model g.prog g.w) A (do
      let found ← reNewMatch (.ref pa) (.str ⟨x.toArray⟩ t) 1 0 x.length m
      let item ← holding [found] (if ((1 : Int) == 1) = true then call (.ref f) [found] else do
        let y ← reFound found
        reExpand (.ref f) y)
      if (item != Value.none) = true then do
        updateSeq L fun xs => xs.push item
        again cd
      else again cd) Q E s := by
  refine wpAny_bind (matchW S hm fun P₁ s₁ ma ta q1 q2 q3 R₁ S₁ h1 h2 => ?_)
  have hf₁ := R₁.le _ _ hf
  have hcd₁ := hcd.mono R₁.le
  have X₁ := X.step R₁
  refine wpAny_bind (wpAny_holding ?_)
  show wpAny _ _ (call (.ref f) [.ref ma]) _ _ _
  refine lamCall hgt r S₁ hf₁ hcd₁ h1 h2 hc fun P₂ s₂ tk R₂ S₂ => ?_
  have X₂ := X₁.step R₂
  rw [if_pos (by rfl)]
  refine wpAny_bind (pushW S₂ X₂ (y := [92, c]) hn fun s₃ S₃ X₃ F₃ => wpAny_pure ?_)
  exact q _ _ S₃ X₃ (((Grow.far R₁).trans (Grow.far R₂) S₂.tabP X₂.none).trans F₃ S₃.tabP X₃.none)
theorem subLoop {A : Around} {R : Result → Shared → Prop} (hgt : GtOk g gtab) (r : Room (n + 2) A) {pa f c' : Addr} {ctv pm : Value} (PI : PatIn g pa) {x : List Nat} {t : Tok} (hx : ∀ c ∈ x, c < 128) (hn : x.length ≤ 10000) {L : Addr} : ∀ (k d nn : Nat) (must : Bool) {P : PM} {s : Shared} {texts : List (List Nat)},
    x.length - d < k → d ≤ x.length → GSt g P s → P f = some (kla_obj "<lambda>" lamQual lamArgs lamBody lamScope [] pm c' ctv) → CodeIn P (.ref c') lamQual → Pieces g P s L texts → texts.flatten = subS (x.take d) → texts.length ≤ 2 * d →
    (∀ P' s' tk, Far g P s P' s' L → GSt g P' s' → R (.ok (.ret (.str ⟨(subS x).toArray⟩ tk))) s') →
    codeAny (model g.prog g.w) A (.builtin "re.Pattern.sub.loop" ⟨[.ref pa, .str ⟨x.toArray⟩ t, .ref f, rawInt 1, rawInt 0, rawInt nn, rawInt d, rawInt d, .bool must, .ref L, .bool false], []⟩) R s
  | 0, d, nn, must, P, s, texts, hk, hd, S, hf, hcd, X, hfl, hnl, q => absurd hk (by lia)
  | k + 1, d, nn, must, P, s, texts, hk, hd, S, hf, hcd, X, hfl, hnl, q => by
    refine codeAny_builtin en_subl ?_
    unfold Builtin.«re.Pattern.sub.loop»
    dsimp only
    refine wpAny_bind (targetW PI S ?_)
    refine wpAny_bind (m := reNextFound _ _ _) ?_
    refine next_tw (x := x) (st := d) hx rfl rfl rfl rfl (by assumption) ?_
    rw [Around.under_plain (c := Code.builtin "re.Pattern.sub.loop" _) rfl rfl]
    have ed : (d : Int).toNat = d := by lia
    have r' := r.in1
    cases hft : firstTw x (x.length + 1 - d) d with
    | none =>
      have hq := firstTw_none (by lia) hft
      have hs := subS_rest hd hq
      have hsl := subS_len x
      dsimp only
      rw [ed]
      by_cases hlt : d < x.length
      · rw [if_pos hlt]
        refine wpAny_bind (sliceW S (by (exact Nat.le_trans (by assumption) (by decide))) fun tk S₁ => ?_)
        refine wpAny_bind (pushW S₁ (X.step (.of_heap rfl)) (by lia) fun s' S' X' F' => ?_)
        have e : (texts ++ [(x.drop d).take (x.length - d)]).flatten = subS x := by
          rw [List.flatten_append, hfl, hs, List.take_of_length_le (Nat.le_of_eq (List.length_drop ..))]; simp
        refine subEnd S' X' hn (by lia) e fun tk' s'' S'' F'' => ?_
        have F0 : Far g P s P { s with toks := tk } L := ⟨.refl P, fun b o e => .inl e, fun b o _ _ e => e⟩
        exact q _ _ _ ((F0.trans F' S'.tabP X'.none).trans F'' S''.tabP X'.none) S''
      · rw [if_neg hlt]
        have e : texts.flatten = subS x := by
          rw [hfl, hs, List.drop_eq_nil_of_le (by (exact Nat.not_lt.mp (by assumption))), List.append_nil]
        refine subEnd S X hn (by lia) e fun tk' s'' S'' F'' => ?_
        exact q _ _ _ F'' S''
    | some p =>
      obtain ⟨h1, ⟨c, hc, hcw⟩, h3⟩ := firstTw_ok hft
      intro m hm
      dsimp only
      rw [ed, hm.start]
      have again' : ∀ {P₁ : PM} {s₁ : Shared} {texts₁ : List (List Nat)} (must' : Bool), GSt g P₁ s₁ → Pieces g P₁ s₁ L texts₁ → texts₁.flatten = subS (x.take (p + 1)) → texts₁.length ≤ 2 * (p + 1) → Far g P s P₁ s₁ L →
          codeAny (model g.prog g.w) A (.builtin "re.Pattern.sub.loop" ⟨[.ref pa, .str ⟨x.toArray⟩ t, .ref f, rawInt 1, rawInt 0, rawInt ((nn : Int) + 1), rawInt (p + 1 : Nat), rawInt (p + 1 : Nat), .bool must', .ref L, .bool false], []⟩) R s₁ := by
        intro P₁ s₁ texts₁ must' S₁ X₁ h4 h5 F₁
        have hp := (List.getElem?_eq_some_iff.mp hc).1
        exact subLoop hgt r PI hx hn k (p + 1) (nn + 1) must' (by lia) hp S₁ (F₁.le _ _ hf) (hcd.mono F₁.le) X₁ h4 h5 fun P' s' tk F' S' => q P' s' tk (F₁.trans F' S'.tabP (by
          cases e : P' L with
          | none => rfl
          | some o =>
            obtain ⟨l, ⟨k', ho⟩, _⟩ := X₁.at'
            rcases F'.new _ _ e with h | h
            · rw [X₁.none] at h; cases h
            · rw [h] at ho; cases ho)) S'
      have hst := subS_take h1 hc hcw h3
      have F0 : ∀ {t : Nat}, Far g P s P { s with toks := t } L := fun {t} => ⟨.refl P, fun b o e => .inl e, fun b o _ _ e => e⟩
      by_cases hlt : d < p
      · rw [if_pos hlt]
        refine wpAny_bind (sliceW S (by (exact Nat.le_trans (by assumption) (by decide))) fun tk S₁ => ?_)
        refine wpAny_bind (pushW S₁ (X.step (.of_heap rfl)) (by lia) fun s' S' X' F' => ?_)
        rw [if_neg (by decide)]
        exact subFound hgt r' S' X' (by simp; lia) (F'.le _ _ hf) (hcd.mono F'.le) hm hc fun P₁ s₁ S₁ X₁ F₁ => ⟨Code.quiet_builtin _ (by decide +kernel), by
          rw [hm.handed]
          exact again' _ S₁ X₁ (by rw [List.flatten_append, List.flatten_append, hfl, hst]; simp) (by simp; lia) ((F0.trans F' S'.tabP X'.none).trans F₁ S₁.tabP X₁.none)⟩
      · rw [if_neg hlt]
        rw [if_neg (by decide)]
        exact subFound hgt r' S X (by lia) hf hcd hm hc fun P₁ s₁ S₁ X₁ F₁ => ⟨Code.quiet_builtin _ (by decide +kernel), by
          rw [hm.handed]
          exact again' _ S₁ X₁ (by rw [List.flatten_append, hfl, hst, show p - d = 0 by lia]; simp) (by simp; lia) F₁⟩
end
end LL
end

section
open PySem PySem.W PySem.Calls PyProof.Rows
open PySem.Builtin PySem.Builtin.Re PySem.Builtin.Str
set_option Elab.async false
set_option maxRecDepth 100000
set_option linter.unusedVariables false
set_option linter.unusedSimpArgs false
namespace LL
theorem named_sub (a b : Value) : reNamed "re.Pattern.sub" "sub" ["repl", "string", "count"] 2 [a, b] [] = pure [some a, some b, none] := by first | rfl | kernel_rfl
theorem lk_fn_call : ∃ v, typeLookup (.type "function") "__call__" = pure (some v) := ⟨.builtin "function.__call__", by rw [typeLookup_type, builtinLookup_eq_fast]; kernel_rfl⟩
theorem sub_str_bytearray : isSubtype (.type "str") (.type "bytearray") = pure false := by rw [isSubtype_type]; kernel_rfl
section
variable {g : GC} {F : FC} {n : Nat} {σ : LS}
theorem subCall {A : Around} {E : Value → Shared → Prop} {P : PM} {s : Shared} {Q : Value → Shared → Prop} {gt : Str → Option LV} (hgt : GtOk g gt) (r : Room (n + 3) A) {pa f c' : Addr} {ctv pm : Value} (PI : PatIn g pa) {x : List Nat} {t : Tok} (hx : ∀ c ∈ x, c < 128) (hn : x.length ≤ 10000) (S : GSt g P s)
    (hf : P f = some (kla_obj "<lambda>" lamQual lamArgs lamBody lamScope [] pm c' ctv)) (hcd : CodeIn P (.ref c') lamQual)
    (q : ∀ P' s' tk, Grow g P s P' s' → GSt g P' s' → Q (.str ⟨(subS x).toArray⟩ tk) s') : wpAny (model g.prog g.w) A (call (.builtin "re.Pattern.sub") [.ref pa, .ref f, .str ⟨x.toArray⟩ t]) Q E s := by
  have hpa : ∃ op, s.heap.get? pa = some op ∧ op.cls = .type "re.Pattern" := by
    obtain ⟨op, fs, ta, o35, vs, k, h1, h2, _⟩ := PI.at'
    exact ⟨op, S.pre _ _ (S.base _ _ h1), h2⟩
  have hT : s.TypeIs (.ref pa) "re.Pattern" := let ⟨op, h1, h2⟩ := hpa; ⟨op, h1, h2⟩
  have hTf : s.TypeIs (.ref f) "function" := ⟨_, S.pre _ _ hf, rfl⟩
  obtain ⟨cv, hcall⟩ := lk_fn_call
  refine wpAny_call (codeAny_call_builtin sl_sub.plain en_sub (sl_sub.check _ _ _ _ _ _ _ _ hT (ar_sub _ _ _) ?_))
  show wpAny _ _ (reSubstitute "re.Pattern.sub" "sub" false ⟨[.ref pa, .ref f, .str ⟨x.toArray⟩ t], []⟩) _ _ _
  unfold reSubstitute
  dsimp only
  rw [named_sub]
  refine wpAny_bind (wpAny_pure ?_)
  dsimp only
  refine wpAny_bind (wpAny_pure ?_)
  refine wpAny_bind (wpAny_specialOf hTf hcall ?_)
  rw [if_pos (by rfl)]
  refine wpAny_bind (wpAny_pure ?_)
  rw [if_pos (by rfl)]
  refine wpAny_bind (wpAny_pure ?_)
  refine wpAny_bind (wpAny_holding (targetW PI S ?_))
  rw [if_pos (by rfl)]
  have hTs : s.TypeIs (.str ⟨x.toArray⟩ t) "str" := typeIs_str _ _ _
  refine wpAny_bind (m := reNotHeld _ _) ?_
  unfold reNotHeld
  refine wpAny_bind (wpAny_isInstance hTs sub_str_bytearray ?_)
  refine wpAny_pure ?_
  refine wpAny_bind (m := newList []) (wpAny_newObj_type ?_ (by size_fits))
  refine wpAny_pure ⟨Code.quiet_builtin _ (by decide +kernel), ?_⟩
  obtain ⟨G', R'⟩ := S.ext (h' := s.heap.push { cls := .type "list", data := .seq [].toArray }) (t := s.toks) (fun b o e => Heap.get?_push_of_some _ e) (Nat.le_refl _)
  have X : Pieces g P { s with heap := s.heap.push { cls := .type "list", data := .seq [].toArray } } s.heap.objs.size [] :=
    ⟨S.fresh, Nat.ne_of_gt S.tab_lt, [], ⟨0, Heap.get?_push_size _ rfl⟩, rfl⟩
  refine subLoop hgt (show Room (n + 2) A from r.le (by lia)) PI hx hn (x.length + 1) 0 0 false (by lia) (by lia) G' hf hcd X (by simp [subS]) (by simp) fun P' s' tk F' S' => ?_
  refine q P' s' tk ⟨F'.le, fun b o e => ?_, fun b o hb e => F'.keep b o hb (Nat.ne_of_lt (Heap.lt_size e)) (Heap.get?_push_of_some _ e)⟩ S'
  rcases F'.new b o e with h | h
  · exact .inl h
  · refine .inr ?_
    cases hz : s.heap.get? b with
    | none => rfl
    | some o' => have := Heap.get?_push_of_some { cls := .type "list", data := .seq [].toArray } hz; rw [this] at h; cases h
theorem ev_sub_lam {x y : Str} {px apos pos py : Pos} {l1 l2 : Loc} {pa : Addr} {t : List Nat} {gt : Str → Option LV} {Φ : LV → LS → Prop} (hgt : GtOk g gt) (H : HT g) (PI : PatIn g pa) (hcode : F.env.code = .ref 61) (hq : F.env.qual ++ "<lambda>" = lamQual) (hline : (apos.endLine == pos.line) = true)
    (hm1 : (x, l1, .raw (.ref pa)) ∈ σ.env) (hm2 : (y, l2, .str t) ∈ σ.env) (hx : ∀ c ∈ t, c < 128) (hn : t.length ≤ 10000) (h : Φ (.str (subS t)) σ) :
    EvW g F (n + 3) σ (.Call (.Attribute (.Name x px) "sub" apos) [.Lambda lamArgs lamBody lamScope lamPos, .Name y py] [] pos) Φ := by
  refine ⟨?_⟩; intro A P s Q E r S q
  refine wpAny_Call_method_lateS rfl rfl hline ((ev_name (n := n + 3) (Φ := fun lv σ₁ => lv = .raw (.ref pa) ∧ σ₁ = σ) hm1 (by nofun) ⟨rfl, rfl⟩).run A P s _ E r S fun P₁ s₁ σ₁ lv v le₁ S₁ h₁ ⟨e1, e2⟩ => ?_)
  subst e1 e2
  rw [h₁.toRaw]
  obtain ⟨op, fs, ta, o35, vs, k, g1, g2, g3, _⟩ := PI.at'
  have hpa := S₁.G.pre _ _ (S₁.G.base _ _ g1)
  refine ⟨"re.Pattern", "re.Pattern.sub", pa_pat, sl_sub, ty_sub, ⟨op, hpa, g2⟩, (fun a e => by cases e; exact ⟨op, hpa, g3⟩), ?_⟩
  refine callWith_builtin rfl (evalArgs_of rfl ?_)
  refine spliced_cons (evalLam H S₁ hcode hq fun P₂ s₂ f c' ctv pm le₂ S₂ hf hcd => ?_)
  refine spliced_cons ((ev_name (n := n + 3) (Φ := fun lv σ₂ => lv = .str t ∧ σ₂ = σ₁) hm2 (by nofun) ⟨rfl, rfl⟩).run A P₂ s₂ _ E r S₂ fun P₃ s₃ σ₃ lv v le₃ S₃ h₃ ⟨e1, e2⟩ => ?_)
  subst e1 e2
  obtain ⟨tk, rfl⟩ := h₃.toStr
  refine spliced_nil ?_
  show wpAny _ _ (call (.builtin "re.Pattern.sub") [.ref pa, .ref f, .str ⟨t.toArray⟩ tk]) _ _ _
  refine subCall hgt r PI hx hn S₃.G (le₃ _ _ hf) (hcd.mono le₃) fun P₄ s₄ tk' R₄ S₄ => ?_
  exact q P₄ s₄ σ₃ (.str (subS t)) _ (((le₁.trans le₂).trans le₃).trans R₄.le) (S₃.grow S₄ R₄) (.str _ tk') h
end
end LL
end

section
open PySem PySem.W PySem.Calls PyProof.Rows
set_option Elab.async false
set_option maxRecDepth 100000
set_option linter.unusedVariables false
set_option linter.unusedSimpArgs false
namespace LL
noncomputable def genE (elt iter : Expr) (x : Str) (px : Pos) (scope : Scope) (pos : Pos) : Expr := .GeneratorExp elt [⟨.Name x px, iter, [], 0⟩] scope pos
noncomputable def proT (C : Addr) (fp wr : List Addr) (n₀ : Nat) (R : Nat → Value → Prop) : Protocol := fun m s₀ v s kap =>
  R (n₀ - 1 - m) v ∧ GenSince C wr s₀ s ∧ ∀ s'' : Shared, 1 ≤ s''.toks → (∀ b ∈ C :: fp, ∀ o, s.heap.get? b = some o → s''.heap.get? b = some o) → kap (.send .none) s''
noncomputable abbrev endT (C : Addr) (wr : List Addr) : GenEnd := fun n s₀ r s₁ => r = .ok .next ∧ (n = 0 ∧ GenSince C wr s₀ s₁)
section
variable {prog : Program} {w : World} {A : Around}
structure EltT (prog : Program) (w : World) (cenv : Env) (x : Str) (elt : Expr) (vs : Array Value) (R : Nat → Value → Prop) : Prop where
  run : ∀ (A' : Around) E' i v (s₂ : Shared) m₂, A'.handled = none → 1 ≤ s₂.toks → vs[i]? = some v → s₂.heap.Ns cenv.locals m₂ → m₂ x = some v →
    wpAny (model prog w) A' (eval elt cenv) (fun y s₃ => R i y ∧ Keeps s₂ s₃) E' s₂
theorem segT {elt iter : Expr} {x : Str} {px : Pos} {scope : Scope} {pos : Pos} {I ax : Addr} {vs : Array Value} {cenv : Env} {fp : List Addr} (hh : A.handled = none) (hne : ax ≠ I) (hI : I ∈ fp) (hax : ax ∈ fp) (R : Nat → Value → Prop)
    (hx : cenv.kindOf x = some .local) (hp : (cenv.scope.kind == .class || (cenv.scope.kind == .module && cenv.locals != cenv.globals)) = false) (hco : cenv.scope.isCoroutine = false) (hCf : cenv.locals ∉ fp) (hq : EltT prog w cenv x elt vs R) :
    ∀ (k i : Nat) (s₀ s : Shared) (m : Str → Option Value), vs.size - i = k → i ≤ vs.size → 1 ≤ s.toks → s.heap.IsListIter I ax i → s.heap.IsList ax vs → s.heap.Ns cenv.locals m → GenSince cenv.locals [I] s₀ s →
      Seg (model prog w) A (endT cenv.locals [I]) (proT cenv.locals fp [I] vs.size R) (vs.size - i) s₀ (.compLoop (genE elt iter x px scope pos) 0 (.ref I) .none cenv)
        ((model prog w).den (.compLoop (genE elt iter x px scope pos) 0 (.ref I) .none cenv)) [] s := by
  have hh' : (A.over (.compLoop (genE elt iter x px scope pos) 0 (.ref I) .none cenv) []).handled = none := hh
  have hCI : cenv.locals ≠ I := fun e => hCf (e ▸ hI)
  have hCa : cenv.locals ≠ ax := fun e => hCf (e ▸ hax)
  intro k
  induction k with
  | zero =>
    intro i s₀ s m hk hi ht hit hl hn hs
    have : i = vs.size := by lia
    subst this
    show Seg _ A _ _ _ s₀ _ ((compTurn (genE elt iter x px scope pos) 0 (.ref I) .none cenv).onRaise (leaving cenv)) [] s
    unfold genE
    rw [compTurn_gen, Sem.onRaise_eq_wrap]
    refine seg_bind_wrap (wpAny_standAt (seg_bind_wrap (wpAny_pyNext_list_end hh' hit hl (by simp) fun h' he => ?_)))
    refine seg_end (.ok .next) ⟨rfl, Nat.sub_self _, ?_⟩
    have := hs.step (h' := h') (tk := s.toks) fun b o _ hw e => he b o (fun z => hw (by simp [z])) e
    exact this
  | succ k ih =>
    intro i s₀ s m hk hi ht hit hl hn hs
    have hlt : i < vs.size := by lia
    have hvx : vs[i]? = some vs[i] := Array.getElem?_eq_getElem hlt
    show Seg _ A _ _ _ s₀ _ ((compTurn (genE elt iter x px scope pos) 0 (.ref I) .none cenv).onRaise (leaving cenv)) [] s
    unfold genE
    rw [compTurn_gen, Sem.onRaise_eq_wrap]
    refine seg_bind_wrap (wpAny_standAt (seg_bind_wrap (wpAny_pyNext_list_item hit hl hvx fun h₁ hit₁ hs₁ => ?_)))
    refine seg_bind_wrap (wpAny_of_eq (rfl : letOwnedTupleGo (.Name x px) (.ref I) vs[i] = pure ()) ?_)
    have hn₁ : h₁.Ns cenv.locals m := hn.at' fun o e => hs₁.extBut _ o hCI e
    refine seg_bind_wrap (wpAny_tk (wpAny_assign_Name (wpAny_storeName_local (s := { s with heap := h₁ }) hx hn₁ (fun h₂ hn₂ hs₂ ht₂ => ?_) hp)))
    have up₂ : ∀ b o, b ≠ cenv.locals → b ≠ I → s.heap.get? b = some o → h₂.get? b = some o := fun b o h1 h2 e => hs₂.extBut b o h1 (hs₁.extBut b o h2 e)
    have hy : ∀ v, yieldOut cenv v = yieldValue v := fun v => by simp only [yieldOut, hco, Bool.false_eq_true, if_false]
    have ht' : 1 ≤ s.toks + 1 := Nat.le_trans ht (Nat.le_succ _)
    simp only [List.forIn_nil, hy]
    refine seg_bind_wrap (wpAny_pure ?_)
    simp only [if_true]
    rw [Sem.bind_eq_wrap', Sem.bind_eq_wrap', Sem.wrap_wrap, Sem.wrap_wrap]
    refine seg_wrap (wpAny_tk (wpAny_mono (hq.run _ _ i vs[i] { s with heap := h₂, toks := s.toks + 1 } _ hh' ht' hvx hn₂ (by simp)) (fun y s₄ h₄ ht₄ => ?_) fun _ _ e _ => e))
    obtain ⟨hR, h₄, tk₄, rfl, hk₄⟩ := h₄
    have since := hs.step (h' := h₄) (tk := tk₄) fun b o h1 h2 e => hk₄ b o (up₂ b o h1 (fun z => h2 (by simp [z])) e)
    have hm : vs.size - i = (vs.size - (i + 1)) + 1 := by lia
    have hidx : vs.size - 1 - (vs.size - i - 1) = i := by lia
    rw [hm]
    refine seg_at (seg_yield rfl rfl rfl ⟨by rw [show vs.size - 1 - (vs.size - (i + 1)) = i by assumption]; exact hR, since, fun s'' ht'' hal => ?_⟩)
    have hit₃ : s''.heap.IsListIter I ax (i + 1) := hit₁.at fun o e => hal _ (.tail _ hI) o (hk₄ _ _ (hs₂.extBut _ o (Ne.symm hCI) e))
    have hl₃ : s''.heap.IsList ax vs := by
      obtain ⟨o, ho, r⟩ := hl
      exact ⟨o, hal _ (.tail _ hax) o (hk₄ _ _ (up₂ _ o (Ne.symm hCa) hne ho)), r⟩
    exact seg_again rfl (ih (i + 1) s'' s'' _ (by lia) hlt ht'' hit₃ hl₃ ((hn₂.keeps hk₄).at' fun o e => hal _ (List.mem_cons_self ..) o e) (GenSince.refl _ _ _))
theorem segStartT {elt iter : Expr} {x : Str} {px : Pos} {scope : Scope} {pos : Pos} {I ax : Addr} {vs : Array Value} {cenv : Env} {fp : List Addr} (hh : A.handled = none) (hne : ax ≠ I) (hI : I ∈ fp) (hax : ax ∈ fp) (R : Nat → Value → Prop)
    (hx : cenv.kindOf x = some .local) (hp : (cenv.scope.kind == .class || (cenv.scope.kind == .module && cenv.locals != cenv.globals)) = false) (hco : cenv.scope.isCoroutine = false) (hCf : cenv.locals ∉ fp) (hq : EltT prog w cenv x elt vs R)
    (s : Shared) (m : Str → Option Value) (ht : 1 ≤ s.toks) (hit : s.heap.IsListIter I ax 0) (hl : s.heap.IsList ax vs) (hn : s.heap.Ns cenv.locals m) :
    Seg (model prog w) A (endT cenv.locals [I]) (proT cenv.locals fp [I] vs.size R) (vs.size - 0) s (.compStart (genE elt iter x px scope pos) 0 (.ref I) .none cenv)
      ((model prog w).den (.compStart (genE elt iter x px scope pos) 0 (.ref I) .none cenv)) [] s := by
  have hh' : (A.over (.compStart (genE elt iter x px scope pos) 0 (.ref I) .none cenv) []).handled = none := hh
  have loop := segT (iter := iter) (px := px) (scope := scope) (pos := pos) hh hne hI hax R hx hp hco hCf hq vs.size 0 s s m (Nat.sub_zero _) (Nat.zero_le _) ht hit hl hn (GenSince.refl _ _ _)
  show Seg _ A _ _ _ s _ ((compStart (genE elt iter x px scope pos) 0 (.ref I) .none cenv).onRaise (leaving cenv)) [] s
  unfold compStart
  rw [Sem.onRaise_eq_wrap]
  show Seg _ A _ _ _ s _ ((ask >>= _).wrap _ _ _ _) [] s
  refine seg_bind_wrap (wpAny_askSetting ?_)
  split
  · exact seg_again rfl loop
  · refine seg_bind_wrap (wpAny_rule ?_)
    show Seg _ A _ _ _ s _ ((standAt iter.pos >>= _).wrap _ _ _ _) [] s
    exact seg_bind_wrap (wpAny_standAt (seg_bind_wrap (wpAny_pyIter_listiter hit (seg_again rfl loop))))
noncomputable def AtT (prog : Program) (w : World) (A : Around) (a : Addr) (gi : Nat) (C I : Addr) (fp : List Addr) (n₀ : Nat) (R : Nat → Value → Prop) (j : Nat) (s : Shared) : Prop :=
  1 ≤ s.toks ∧ s.heap.IsGen a gi ∧ s.heap.NoLimit ∧ ∃ gs, s.gens[gi]? = some gs ∧ ∀ s'' : Shared, 1 ≤ s''.toks → (∀ b ∈ C :: fp, ∀ o, s.heap.get? b = some o → s''.heap.get? b = some o) →
    gs.Goes (model prog w) A.in1 (endT C [I]) (proT C fp [I] n₀ R) (n₀ - j) (.send .none) s''
theorem walksT (hh : A.handled = none) (a : Addr) (gi : Nat) (C I : Addr) (fp : List Addr) (n₀ : Nat) (R : Nat → Value → Prop) (haC : a ≠ C) (haf : a ∉ fp) (hI : I ∈ fp) (hroom : A.depth < recursionLimit) (hcs : cStatics ∈ fp) (hcC : cStatics ≠ C) (hcI : cStatics ≠ I) :
    WalksS prog w A a (a :: C :: fp) [C, I] (GenOnlyQ gi) n₀ R (AtT prog w A a gi C I fp n₀ R) where
  sub := fun b hb => by
    rcases List.mem_cons.mp hb with rfl | hb
    · simp
    · rcases List.mem_cons.mp hb with rfl | hb
      · simp [hI]
      · cases hb
  grefl := fun _ => .inl rfl
  gtrans := fun _ _ _ x y => x.trans y
  frame := fun j s h' tk st ht hk => by
    obtain ⟨h0, ⟨o, nm, qn, ho, r⟩, ⟨mc, hns, hnn⟩, gs, hgs, hgo⟩ := st
    exact ⟨Nat.le_trans h0 ht, ⟨o, nm, qn, hk a (List.mem_cons_self ..) o ho, r⟩, ⟨mc, hns.at' fun o e => hk cStatics (.tail _ (.tail _ hcs)) o e, hnn⟩, gs, hgs, fun s'' h1 hal => hgo s'' h1 fun b hb o e => hal b hb o (hk b (.tail _ hb) o e)⟩
  item := fun j s Q E hj st hQ => by
    obtain ⟨h0, hg, hl, gs, hgs, hgo⟩ := st
    obtain ⟨m, hm⟩ : ∃ m, n₀ - j = m + 1 := ⟨n₀ - j - 1, by lia⟩
    rw [hm] at hgo
    refine wpAny_tk (wpAny_pyNext_genexpQ (P := fun n s₀ s₁ => n = 0 ∧ GenSince C [I] s₀ s₁) hh hl hroom hg hgs (hgo _ h0 fun _ _ _ e => e) (fun v s₁ gs' hb hv => ?_) (fun s₁ hp h' hk => ?_))
    · obtain ⟨hR, ⟨h₁, tk₁, rfl, hk₁⟩, hkap⟩ := hv
      have hidx : n₀ - 1 - (m + 1 - 1) = j := by lia
      rw [hidx] at hR
      have haI : a ≠ I := fun z => haf (z ▸ hI)
      obtain ⟨o, nm, qn, ho, r⟩ := hg
      obtain ⟨mc, hns, hnn⟩ := hl
      intro htk
      refine hQ v _ hR ⟨Nat.le_trans h0 htk, ⟨o, nm, qn, hk₁ a o haC (by simp [haI]) ho, r⟩, ⟨mc, hns.at' fun o e => hk₁ cStatics o hcC (by simp [hcI]) e, hnn⟩, gs', setGen_self (gs := .running) (setGen_self hgs), fun s'' h1 hal => ?_⟩
        ⟨fun b o hb e => hk₁ b o (fun h => hb (by simp [h])) (fun h => hb (by simp at h; simp [h])) e, GenOnlyQ.of ((GenOnly.setGen s gi .running).trans (GenOnly.setGen _ gi gs')) (setGen_self (gs := .running) (setGen_self hgs)) hb, rfl, rfl, htk⟩
      rw [show n₀ - (j + 1) = m by lia]
      exact hkap s'' h1 hal
    · exact absurd hp.1 (Nat.succ_ne_zero m)
  done := fun s Q E st hQ => by
    obtain ⟨h0, hg, hl, gs, hgs, hgo⟩ := st
    rw [Nat.sub_self] at hgo
    refine wpAny_tk (wpAny_pyNext_genexpQ (P := fun n s₀ s₁ => n = 0 ∧ GenSince C [I] s₀ s₁) hh hl hroom hg hgs (hgo _ h0 fun _ _ _ e => e) (fun v s₁ gs' hb hv => ?_) (fun s₁ hp h' hk => ?_))
    · obtain ⟨_, _, hkap⟩ := hv
      exact False.elim (hkap { s₁ with toks := s₁.toks + 1 } (Nat.le_add_left _ _) fun _ _ _ e => e)
    · obtain ⟨_, h₁, tk₁, rfl, hk₁⟩ := hp
      intro htk
      exact hQ _ ⟨fun b o hb e => hk b o (hk₁ b o (fun h => hb (by simp [h])) (fun h => hb (by simp at h; simp [h])) e), GenOnlyQ.of ((GenOnly.setGen s gi .running).trans (GenOnly.setGen _ gi .finished)) (setGen_self (gs := .running) (setGen_self hgs)) rfl, rfl, rfl, htk⟩
  self := fun _ _ _ _ st hQ => wpAny_pyIter_gen st.2.1 hQ
end
end LL
end

section
open PySem PySem.W PySem.Calls PyProof.Rows
set_option Elab.async false
set_option maxRecDepth 100000
set_option linter.unusedVariables false
set_option linter.unusedSimpArgs false
namespace LL
noncomputable def escS (x : List Nat) : List Nat := replS (replS x [92] [92, 92]) [45] [92, 45]
noncomputable def swap1 (c : Nat) (z : List Nat) (l : List Nat) : List Nat := l.flatMap fun d => if d = c then z else [d]
theorem swap1_free {c : Nat} {z : List Nat} : ∀ {l : List Nat}, c ∉ l → swap1 c z l = l
  | [], _ => rfl
  | k :: r, h => by
    have h1 : ¬ k = c := fun e => h (e ▸ List.mem_cons_self ..)
    have ih := swap1_free (z := z) fun m => h (List.mem_cons_of_mem _ m)
    unfold swap1 at ih ⊢
    rw [List.flatMap_cons, if_neg h1, ih]; rfl
theorem swap1_join (c : Nat) (z : List Nat) : ∀ parts : List Str, (∀ p ∈ parts, c ∉ p.cps.toList) → (Str.join ⟨z.toArray⟩ parts).cps.toList = swap1 c z (Str.join ⟨#[c]⟩ parts).cps.toList
  | [], _ => rfl
  | [p], h => (swap1_free (h p (.head _))).symm
  | p :: q :: r, h => by
    have ih := swap1_join c z (q :: r) fun a ha => h a (.tail _ ha)
    show (p ++ ⟨z.toArray⟩ ++ Str.join ⟨z.toArray⟩ (q :: r)).cps.toList = swap1 c z (p ++ ⟨#[c]⟩ ++ Str.join ⟨#[c]⟩ (q :: r)).cps.toList
    simp only [Str.cps_append, Array.toList_append]
    have f := swap1_free (z := z) (h p (.head _))
    unfold swap1 at ih f ⊢
    rw [List.flatMap_append, List.flatMap_append, ih, f]
    simp
theorem replS_one (x z : List Nat) (c : Nat) : replS x [c] z = x.flatMap fun d => if d = c then z else [d] := by
  show (Txt.replace ⟨x.toArray⟩ ⟨#[c]⟩ ⟨z.toArray⟩).cps.toList = swap1 c z x
  rw [StrLaws.replace_one, swap1_join c z _ (StrLaws.split_free _ c), StrLaws.join_split]
theorem escS_eq (x : List Nat) : escS x = x.flatMap fun c => if c = 92 then [92, 92] else if c = 45 then [92, 45] else [c] := by
  unfold escS
  rw [replS_one, replS_one, List.flatMap_assoc]
  congr 1
  funext c
  by_cases h : c = 92
  · subst h; rfl
  · by_cases h' : c = 45
    · subst h'; rfl
    · simp [h, h']
noncomputable def genElt (p1 p2 p3 p4 p5 p6 p7 p8 p9 : Pos) : Expr := .Call (.Attribute (.Call (.Attribute (.Name "s" p1) "replace" p2) [.Constant (.str "\\") 0 p3, .Constant (.str "\\\\") 0 p4] [] p5) "replace" p6) [.Constant (.str "-") 0 p7, .Constant (.str "\\-") 0 p8] [] p9
section
variable {prog : Program} {w : World} {A : Around} {E : Value → Shared → Prop}
theorem replW {g : GC} {A : Around} {E : Value → Shared → Prop} {s : Shared} {cenv : Env} {o : Expr} {apos pos p1 p2 : Pos} {y z : Str} {k1 k2 : Nat} {Q : Value → Shared → Prop} {B : Nat} (hyz : (y == z) = false) (hzl : z.length ≤ 10) (hB : B ≤ 100000)
    (hbase : attributeBase o "replace" cenv (eval o cenv) = eval o cenv) (hline : (apos.endLine == pos.line) = true)
    (h : wpAny (model g.prog g.w) A (eval o cenv) (fun v s₁ => ∃ x t, v = .str ⟨List.toArray x⟩ t ∧ x.length ≤ B ∧ 1 ≤ s₁.toks ∧ ∀ t' k, s₁.toks ≤ k → Q (.str ⟨(replS x y.cps.toList z.cps.toList).toArray⟩ t') { s₁ with toks := k }) E s) :
    wpAny (model g.prog g.w) A (eval (.Call (.Attribute o "replace" apos) [.Constant (.str y) k1 p1, .Constant (.str z) k2 p2] [] pos) cenv) Q E s := by
  refine wpAny_Call_method_lateS hbase rfl hline (wpAny_mono h (fun v s₁ h₁ => ?_) fun _ _ e => e)
  obtain ⟨x, t, rfl, hx, ht, q⟩ := h₁
  refine ⟨"str", "str.replace", PySem.F.plainAttrs_str, PySem.F.slot_str_replace, PySem.F.type_str_replace, typeIs_str _ _ _, (fun _ e => nomatch e), call_two ?_⟩
  refine wpAny_tk (SC.replace (Nat.ne_of_gt ht) (Nat.succ_ne_zero _) (Nat.succ_ne_self _).symm hyz ?_ fun t' k' hk => ?_)
  · rw [str_len]
    have : (x.length + 1) * z.length ≤ (x.length + 1) * 10 := Nat.mul_le_mul_left _ hzl
    lia
  · exact q t' k' (Nat.le_trans (Nat.le_trans (Nat.le_succ _) (Nat.le_succ _)) hk)
theorem escS_len : ∀ x : List Nat, (escS x).length ≤ 2 * x.length := by
  intro x
  rw [escS_eq]
  induction x with
  | nil => exact Nat.zero_le _
  | cons c x ih =>
    rw [List.flatMap_cons, List.length_append, List.length_cons]
    have : (if c = 92 then [92, 92] else if c = 45 then [92, 45] else [c]).length ≤ 2 := by split <;> (try split) <;> simp
    lia
theorem replS_len (x : List Nat) (c d : Nat) : (replS x [c] [d, d]).length ≤ 2 * x.length := by
  rw [replS_one]
  induction x with
  | nil => exact Nat.zero_le _
  | cons e x ih =>
    rw [List.flatMap_cons, List.length_append, List.length_cons]
    have : (if e = c then [d, d] else [e]).length ≤ 2 := by split <;> simp
    lia
theorem eltT {g : GC} {cenv : Env} {l : List (List Nat)} {vs : Array Value} {p1 p2 p3 p4 p5 p6 p7 p8 p9 : Pos} (hk : cenv.scope.kind = .function) (hs : cenv.kindOf (Str.ofString "s") = some .local) (hb : ∀ x ∈ l, x.length ≤ 10000)
    (h1 : (p2.endLine == p5.line) = true) (h2 : (p6.endLine == p9.line) = true) (hvs : ∀ (i : Nat) (v : Value), vs[i]? = some v → ∃ x t, l[i]? = some x ∧ v = Value.str ⟨List.toArray x⟩ t) :
    EltT g.prog g.w cenv (Str.ofString "s") (genElt p1 p2 p3 p4 p5 p6 p7 p8 p9) vs fun i v => ∃ x t, l[i]? = some x ∧ v = Value.str ⟨(escS x).toArray⟩ t := by
  refine ⟨?_⟩
  intro A' E' i v s₂ m₂ hh ht hv hn hm
  obtain ⟨x, t, hx, rfl⟩ := hvs i v hv
  have hxl := hb x (List.mem_of_getElem? hx)
  refine replW (B := 20000) (by decide) (by decide) (by lia) rfl h2 ?_
  refine replW (B := 10000) (by decide) (by decide) (by lia) rfl h1 ?_
  refine wpAny_Name (wpAny_loadName_local hk hs hn hm ?_) (by decide)
  refine ⟨x, t, rfl, hxl, ht, fun t' k hk' => ?_⟩
  refine ⟨_, t', rfl, ?_, Nat.le_trans ht hk', fun t'' k' _ => ?_⟩
  · have : (replS x [92] [92, 92]).length ≤ 2 * x.length := replS_len x 92 92
    show (replS x [92] [92, 92]).length ≤ 20000
    lia
  · exact ⟨⟨x, t'', hx, rfl⟩, s₂.heap, k', rfl, fun _ _ e => e⟩
end
end LL
end

section
open PySem PySem.W PySem.Calls PyProof.Rows
set_option Elab.async false
set_option maxRecDepth 100000
set_option maxHeartbeats 4000000
set_option linter.unusedVariables false
set_option linter.unusedSimpArgs false
namespace LL
noncomputable def genScope : Scope := { kind := .function, names := [(".0", .local), ("s", .local)], isGenerator := true, isCoroutine := false }
theorem vl_at {P : PM} : ∀ {l : List (List Nat)} {vs : List Value}, VL P (l.map .str) vs → ∀ (i : Nat) (v : Value), vs[i]? = some v → ∃ x t, l[i]? = some x ∧ v = Value.str ⟨List.toArray x⟩ t
  | [], vs, h, i, v, hv => by rw [h.nil_inv] at hv; simp at hv
  | x :: xs, vs, h, i, v, hv => by
    obtain ⟨u, r, rfl, h1, h2⟩ := VL.cons_inv h
    cases i with
    | zero =>
      obtain ⟨t, rfl⟩ := h1.toStr
      simp at hv
      exact ⟨x, t, rfl, hv.symm⟩
    | succ i => simpa using vl_at h2 i v (by simpa using hv)
theorem texts_of {f : List Nat → List Nat} : ∀ {l : List (List Nat)} {m : List (Str × Tok)}, (strValues m).length = l.length → (∀ (j : Nat) (v : Value), (strValues m)[j]? = some v → ∃ x t, l[j]? = some x ∧ v = Value.str ⟨(f x).toArray⟩ t) → m.map (·.1) = (l.map f).map fun s => (⟨s.toArray⟩ : Str)
  | [], [], _, _ => rfl
  | [], _ :: _, h, _ => by cases h
  | _ :: _, [], h, _ => by cases h
  | x :: l, (s, t) :: m, h, k => by
    obtain ⟨y, t', h1, h2⟩ := k 0 _ rfl
    cases h1
    injection h2 with h3 h4
    have ih := texts_of (f := f) (l := l) (m := m) (by simpa [strValues] using h) fun j v hv => by simpa using k (j + 1) v (by simpa [strValues] using hv)
    simp only [List.map_cons, ih]
    rw [show s = (⟨(f x).toArray⟩ : Str) from h3]
section
variable {g : GC} {F : FC} {n : Nat} {σ : LS}
theorem genCodeW {A : Around} {E : Value → Shared → Prop} {P : PM} {s : Shared} {Q : Value → Shared → Prop} {env : Env} {gpos : Pos} {q : Str} (H : HT g) (hcode : env.code = .ref 61) (hgp : ¬ (gpos.line = lamPos.line ∧ gpos.col = lamPos.col))
    (ext : ∀ b o, g.G b = some o → s.heap.get? b = some o) (htab : ∃ ps, s.heap.get? g.T = some (tabObj ps) ∧ TabOk P ps)
    (h : ∀ code h₃ tk₃, (∀ b o, b ≠ g.T → s.heap.get? b = some o → h₃.get? b = some o) → (∃ ps, h₃.get? g.T = some (tabObj ps) ∧ TabOk P ps) → s.heap.objs.size ≤ h₃.objs.size → Q code { s with heap := h₃, toks := tk₃ }) :
    wpAny (model g.prog g.w) A (genexprCode env gpos q genScope) Q E s := by
  obtain ⟨ps, hT, tri, lam⟩ := htab
  have hCd := H.cd _ ext (by rw [hT]; nofun)
  cases hf : codeAmong gpos ps.toList with
  | some cv => exact wpAny_genexprCode_hit hcode (hCd.code hT tri) hf (h cv s.heap s.toks (fun _ _ _ e => e) ⟨ps, hT, tri, lam⟩ (Nat.le_refl _))
  | none =>
    refine wpAny_genexprCodeX hcode (hCd.code hT tri) (hCd.tab hT) hf fun c' h' tk hx hge hlt _ _ htab' _ => h _ h' tk (fun b o hb e => hx b o hb e) ⟨_, htab'.2, ?_, fun cv hcv => ?_⟩ (Nat.le_trans hge (Nat.le_of_lt hlt))
    · have hl : (ps ++ #[rawInt gpos.line, rawInt gpos.col, Value.ref c']).toList = ps.toList ++ [rawInt gpos.line, rawInt gpos.col, .ref c'] := by simp
      rw [hl]; exact TriplesOk_snoc _ _ _ _ tri
    · have hl : (ps ++ #[rawInt gpos.line, rawInt gpos.col, Value.ref c']).toList = ps.toList ++ [rawInt gpos.line, rawInt gpos.col, .ref c'] := by simp
      rw [hl, among_other hgp _ tri] at hcv
      exact lam cv hcv
theorem ev_join_gen {x : Str} {px ps : Pos} {apos pos gpos p0 p1 p2 p3 p4 p5 p6 p7 p8 p9 : Pos} {l0 : Loc} {l : List (List Nat)} {Φ : LV → LS → Prop} (H : HT g) (hcode : F.env.code = .ref 61) (hm : (x, l0, .lst (l.map .str)) ∈ σ.env) (hgp : ¬ (gpos.line = lamPos.line ∧ gpos.col = lamPos.col))
    (hline : (apos.endLine == pos.line) = true) (h1 : (p2.endLine == p5.line) = true) (h2 : (p6.endLine == p9.line) = true) (hb : ∀ x ∈ l, x.length ≤ 10000) (hl : l.length ≤ 100) (h : Φ (.str (joinL [45] (l.map escS))) σ) :
    EvW g F (n + 3) σ (.Call (.Attribute (.Constant (.str "-") 0 p0) "join" apos) [.GeneratorExp (genElt p1 p2 p3 p4 p5 p6 p7 p8 p9) [⟨.Name "s" ps, .Name x px, [], 0⟩] genScope gpos] [] pos) Φ := by
  refine ⟨?_⟩; intro A P s Q E r S q
  refine wpAny_Call_method_lateS rfl rfl hline (Constant_str ?_)
  have S := S.toks (s.toks + 1) (Nat.le_succ _)
  refine ⟨"str", "str.join", PySem.F.plainAttrs_str, PySem.F.slot_str_join, PySem.F.type_str_join, typeIs_str _ _ _, (fun _ e => nomatch e), ?_⟩
  refine callWith_builtin rfl (evalArgs_of rfl ?_)
  have hcl : closureFor genScope F.env = pure [] := closureFor_none (by decide)
  have ro : A.depth < recursionLimit := Nat.lt_of_lt_of_le (by have := r.2.1; lia : A.depth < 500) (by decide)
  refine spliced_cons (wpAny_tk (wpAny_GeneratorExp_make rfl hcl (by decide) (by decide) rfl ro ?_ (fun _ => rfl)))
  refine (ev_name (n := n + 3) (Φ := fun lv σ₁ => lv = .lst (l.map .str) ∧ σ₁ = σ) hm (by nofun) ⟨rfl, rfl⟩).run A P _ _ _ r S fun P₁ s₁ σ₁ lv v le₁ S₁ h₁ ⟨e1, e2⟩ => ?_
  subst e1 e2
  obtain ⟨ax, ol, vs, kk, rfl, hPa, hca, hda, hvl⟩ := h₁.toLst
  have hla : s₁.heap.IsList ax vs := ⟨ol, S₁.G.pre _ _ hPa, hca, kk, hda⟩
  refine wpAny_pyIter_list hla ?_
  have extG : ∀ {hh : Heap}, (∀ b o, b ≠ g.T → s₁.heap.get? b = some o → hh.get? b = some o) → ∀ b o, g.G b = some o → hh.get? b = some o := fun k b o e => k b o (fun z => by
    have := S₁.G.tabP; rw [← z] at this; rw [S₁.G.base _ _ e] at this; cases this) (S₁.G.pre _ _ (S₁.G.base _ _ e))
  obtain ⟨ps, hT, hok⟩ := S₁.G.tab
  rw [H.tok] at hok
  have ext2 : ∀ b o, g.G b = some o → (s₁.heap.push { cls := .type "list_iterator", data := .fields #[.ref ax, .int 0 0] }).get? b = some o := extG fun b o _ e => Heap.get?_push_of_some _ e
  refine ⟨g.hl _ ext2, genCodeW (P := P₁) H hcode hgp ext2 ⟨ps, Heap.get?_push_of_some _ hT, hok⟩ fun code h₃ tk₃ hk₃ htab₃ hsz₃ => ?_⟩
  have ext3 : ∀ b o, g.G b = some o → h₃.get? b = some o := extG fun b o hb e => hk₃ b o hb (Heap.get?_push_of_some _ e)
  obtain ⟨bm, ob, hbm, hne0, _, hneP, hbo, hcls, hdict, hdata⟩ := H.bi _ ext3
  have hgns := g.hg _ ext3
  rw [S₁.glob]
  refine wpAny_builtinsFor (s := { s₁ with heap := h₃, toks := tk₃ }) hgns hbm hne0 hbo hcls hdict hdata ?_
  intro h' hns hsb htk
  dsimp only at hns hsb htk ⊢
  refine spliced_nil ?_
  dsimp only [List.singleton_append]
  have sz3 : s₁.heap.objs.size + 1 ≤ h₃.objs.size := by have := hsz₃; rw [Heap.size_push] at this; exact this
  have sz' : h'.objs.size = h₃.objs.size + 1 := by rw [hsb.1, Heap.size_push]
  have k3 : ∀ b o, b ≠ g.T → s₁.heap.get? b = some o → h₃.get? b = some o := fun b o hb e => hk₃ b o hb (Heap.get?_push_of_some _ e)
  have hIT : s₁.heap.objs.size ≠ g.T := Nat.ne_of_gt S₁.G.tab_lt
  have haxT : ax ≠ g.T := fun z => by have := S₁.G.tabP; rw [← z, hPa] at this; cases this
  have k' : ∀ b o, h₃.get? b = some o → h'.get? b = some o := fun b o e => hsb.extBut b o (Nat.ne_of_lt (Heap.lt_size e)) (Heap.get?_push_of_some _ e)
  have haxlt : ax < s₁.heap.objs.size := Heap.lt_size (S₁.G.pre _ _ hPa)
  obtain ⟨mc, hcst, hcsn⟩ := g.hl _ ext3
  have hcs3 : cStatics < h₃.objs.size := hcst.lt
  have hcs1 : cStatics < s₁.heap.objs.size := (g.hl s₁.heap (extG fun b o _ e => e)).choose_spec.1.lt
  have b1 : s₁.heap.objs.size < h₃.objs.size := sz3
  have b2 : ax < h₃.objs.size := Nat.lt_trans haxlt b1
  have b3 : h₃.objs.size < h'.objs.size := by rw [sz']; exact Nat.lt_succ_self _
  refine wpAny_tk (SC.joinGen (fp := h'.objs.size :: h₃.objs.size :: [s₁.heap.objs.size, ax, cStatics]) (n := vs.size)
    (walksT (A := A.in1.in1) r.1 h'.objs.size s₁.gens.size h₃.objs.size s₁.heap.objs.size [s₁.heap.objs.size, ax, cStatics] vs.size (fun i v => ∃ x t, l[i]? = some x ∧ v = Value.str ⟨(escS x).toArray⟩ t) (by rw [sz']; exact Nat.succ_ne_self _) ?_ (.head _) ro (by simp) (Nat.ne_of_lt hcs3) (Nat.ne_of_lt hcs1))
    (fun i s st => let ⟨o, nm, qn, ho, hc, _⟩ := st.2.1; ⟨o, ho, hc⟩) ?_ ?_ (.head _) (fun i v ⟨x, t, _, e⟩ => ⟨_, t, e⟩) (fun s' l' hm' hit => ?_) ?_)
  · simp only [List.mem_cons, not_or, List.not_mem_nil, not_false_eq_true, and_true]
    exact ⟨Nat.ne_of_gt (Nat.lt_trans b1 b3), Nat.ne_of_gt (Nat.lt_trans b2 b3), Nat.ne_of_gt (Nat.lt_trans hcs3 b3)⟩
  · refine ⟨by show 1 ≤ tk₃ + 1 + 1 + 1; lia, ⟨_, _, _, Heap.get?_push_size _ rfl, rfl, rfl, rfl⟩, g.hl _ fun b o e => Heap.get?_push_of_some _ (k' _ _ (ext3 b o e)), _, Array.getElem?_push_size .., fun s'' ht'' hal => ⟨rfl, ?_⟩⟩
    have up : ∀ b ∈ h₃.objs.size :: [s₁.heap.objs.size, ax, cStatics], ∀ o, h'.get? b = some o → s''.heap.get? b = some o := fun b hb o e => hal b hb o (Heap.get?_push_of_some _ e)
    refine segStartT (A := A.in1.in1.in1) (cenv := genEnv genScope [] h₃.objs.size code builtinsNs F.env) (fp := [s₁.heap.objs.size, ax, cStatics]) r.1 (Nat.ne_of_lt haxlt) (.head _) (.tail _ (.head _)) _ rfl rfl rfl ?_ (eltT rfl rfl hb h1 h2 fun i v hv => vl_at hvl i v (by simpa using hv)) s'' _ ht'' ?_ ?_ (hns.at' fun o e => up _ (.head _) o e)
    · show h₃.objs.size ∉ [s₁.heap.objs.size, ax, cStatics]
      simp only [List.mem_cons, not_or, List.not_mem_nil, not_false_eq_true, and_true]
      exact ⟨Nat.ne_of_gt b1, Nat.ne_of_gt b2, Nat.ne_of_gt hcs3⟩
    · exact ⟨_, up _ (.tail _ (.head _)) _ (k' _ _ (hk₃ _ _ hIT (Heap.get?_push_size _ rfl))), rfl, rfl⟩
    · exact ⟨ol, up _ (.tail _ (.tail _ (.head _))) _ (k' _ _ (k3 _ _ haxT (S₁.G.pre _ _ hPa))), hca, kk, hda⟩
  · intro b hb
    show b < (h'.push _).objs.size
    rw [Heap.size_push, sz']
    have c1 : h'.objs.size < h₃.objs.size + 1 + 1 := by rw [sz']; exact Nat.lt_succ_self _
    rcases List.mem_cons.mp hb with rfl | hb
    · exact c1
    · rcases List.mem_cons.mp hb with rfl | hb
      · exact Nat.lt_trans b3 c1
      · rcases List.mem_cons.mp hb with rfl | hb
        · exact Nat.lt_trans (Nat.lt_trans b1 b3) c1
        · rcases List.mem_cons.mp hb with rfl | hb
          · exact Nat.lt_trans (Nat.lt_trans b2 b3) c1
          · rcases List.mem_cons.mp hb with rfl | hb
            · exact Nat.lt_trans (Nat.lt_trans hcs3 b3) c1
            · cases hb
  · have hsz : vs.size = l.length := by have := hvl.size; simpa using this
    have htx := texts_of (f := escS) (l := l) (m := l') (by have := hit.1; rw [List.size_toArray] at this; rw [this, hsz]) fun j v hj => hit.2 j v (by simpa using hj)
    rw [htx]
    have hlen : (l.map escS).flatten.length ≤ 100 * 20000 := by
      have : ∀ m : List (List Nat), (∀ x ∈ m, x.length ≤ 10000) → (m.map escS).flatten.length ≤ m.length * 20000 := by
        intro m
        induction m with
        | nil => intro _; exact Nat.zero_le _
        | cons x m ih =>
          intro hm
          have h3 := ih fun y hy => hm y (.tail _ hy)
          have h4 := escS_len x
          have h5 := hm x (.head _)
          rw [List.map_cons, List.flatten_cons, List.length_append, List.length_cons]
          lia
      have h6 := this l hb
      have h7 : l.length * 20000 ≤ 100 * 20000 := Nat.mul_le_mul_right _ hl
      (exact Nat.le_trans (by assumption) (Nat.le_trans (by assumption) (by decide)))
    refine ⟨joinOk_flat (x := [45]) (by rw [List.length_map]; simp only [List.length_cons, List.length_nil]; lia), fun t' k hk => ?_⟩
    have hms := hm'.heap
    have keepF : ∀ b o, b ≠ g.T → s₁.heap.get? b = some o → s'.heap.get? b = some o := fun b o hb e => hms b o (by
      have := Heap.lt_size e
      simp only [List.mem_cons, not_or, List.not_mem_nil, not_false_eq_true, and_true]
      exact ⟨Nat.ne_of_lt (Nat.lt_trans this b1), Nat.ne_of_lt this⟩) (Heap.get?_push_of_some _ (k' _ _ (k3 b o hb e)))
    have hTl := S₁.G.tab_lt
    have G' : GSt g P₁ { s' with toks := k } := by
      refine ⟨fun b o e => keepF b o (fun z => by rw [z, S₁.G.tabP] at e; cases e) (S₁.G.pre b o e), S₁.G.base, ?_, S₁.G.tabP, ?_, hm'.os.trans S₁.G.os, ?_⟩
      · obtain ⟨ps', hp1, hp2⟩ := htab₃
        refine ⟨ps', hms _ _ ?_ (Heap.get?_push_of_some _ (k' _ _ hp1)), by rw [H.tok]; exact hp2⟩
        simp only [List.mem_cons, not_or, List.not_mem_nil, not_false_eq_true, and_true]
        exact ⟨Nat.ne_of_lt (Nat.lt_trans hTl b1), Nat.ne_of_lt hTl⟩
      · exact (S₁.G.bare.push rfl).moved hm'.gens
      · show g.tk0 ≤ k
        have : tk₃ + 1 + 1 + 1 ≤ k := hk
        have := H.tk1
        lia
    have R' : Grow g P₁ s₁ P₁ { s' with toks := k } := ⟨.refl _, fun b o e => .inl e, keepF⟩
    have e : Txt.join (Str.ofString "-") ((l.map escS).map fun s => (⟨s.toArray⟩ : Str)) = ⟨(joinL [45] (l.map escS)).toArray⟩ := by
      have := joinS_eq [45] (l.map escS)
      unfold joinS at this
      apply Str.ext'
      rw [← this]
      rfl
    rw [e]
    exact q P₁ _ σ₁ _ _ le₁ (S₁.grow G' R') (.str _ t') h
  · have hsz : vs.size = l.length := by have := hvl.size; simpa using this
    rw [hsz, sizeLine_eq]; (exact Nat.le_trans (by assumption) (by decide))
end
end LL
end

section
open PySem PySem.W PySem.Calls PyProof.Rows
open PySem.Builtin PySem.Builtin.Str
set_option Elab.async false
set_option maxRecDepth 100000
set_option linter.unusedVariables false
set_option linter.unusedSimpArgs false
namespace LL
section
variable {g : GC} {F : FC} {n : Nat} {σ : LS}
theorem ev_joinC {x : Str} {lx : List Nat} {k : Nat} {p apos pos : Pos} {arg : Expr} {Φ : LV → LS → Prop} (hst : isStarred arg = false) (hline : (apos.endLine == pos.line) = true) (hx : x.cps.toList = lx)
    (h : EvW g F n σ arg fun v σ₁ => ∃ l, v = .lst (l.map .str) ∧ l.flatten.length + l.length * lx.length ≤ 16777216 ∧ Φ (.str (joinL lx l)) σ₁) : EvW g F n σ (.Call (.Attribute (.Constant (.str x) k p) "join" apos) [arg] [] pos) Φ := by
  refine ev_meth (T := "str") (id := "str.join") (by simp [unstarred, hst]) rfl (by simp) hline PySem.F.plainAttrs_str PySem.F.slot_str_join PySem.F.type_str_join (ev_strl hx ⟨ty_str, es_cons hst (h.mono fun v σ₁ ⟨l, hv, hn, k⟩ => es_nil ?_)⟩)
  subst hv
  exact PrW.ca (pr_join (joinOk_flat hn) (by rw [joinS_eq]; exact k))
theorem ev_starts {o arg : Expr} {apos pos : Pos} {Φ : LV → LS → Prop} (hst : isStarred arg = false) (hbase : attributeBase o "startswith" F.env (eval o F.env) = eval o F.env) (hline : (apos.endLine == pos.line) = true)
    (h : EvW g F n σ o fun v σ₁ => ∃ x, v = .str x ∧ EvW g F n σ₁ arg fun w σ₂ => ∃ y, w = .str y ∧ Φ (.bool (y.isPrefixOf x)) σ₂) : EvW g F n σ (.Call (.Attribute o "startswith" apos) [arg] [] pos) Φ := by
  refine ev_meth (T := "str") (id := "str.startswith") (by simp [unstarred, hst]) hbase (by simp) hline PySem.F.plainAttrs_str PySem.F.slot_str_startswith PySem.F.type_str_startswith (h.mono fun v σ₁ ⟨x, hx, k⟩ => ?_)
  subst hx
  refine ⟨ty_str, es_cons hst (k.mono fun w σ₂ ⟨y, hy, k⟩ => es_nil ?_)⟩
  subst hy
  exact PrW.ca (pr_starts k)
theorem ev_ends {o arg : Expr} {apos pos : Pos} {Φ : LV → LS → Prop} (hst : isStarred arg = false) (hbase : attributeBase o "endswith" F.env (eval o F.env) = eval o F.env) (hline : (apos.endLine == pos.line) = true)
    (h : EvW g F n σ o fun v σ₁ => ∃ x, v = .str x ∧ EvW g F n σ₁ arg fun w σ₂ => ∃ y, w = .str y ∧ Φ (.bool (y.isSuffixOf x)) σ₂) : EvW g F n σ (.Call (.Attribute o "endswith" apos) [arg] [] pos) Φ := by
  refine ev_meth (T := "str") (id := "str.endswith") (by simp [unstarred, hst]) hbase (by simp) hline PySem.F.plainAttrs_str PySem.F.slot_str_endswith PySem.F.type_str_endswith (h.mono fun v σ₁ ⟨x, hx, k⟩ => ?_)
  subst hx
  refine ⟨ty_str, es_cons hst (k.mono fun w σ₂ ⟨y, hy, k⟩ => es_nil ?_)⟩
  subst hy
  exact PrW.ca (pr_ends k)
theorem ev_find4 {o a1 a2 a3 : Expr} {apos pos : Pos} {Φ : LV → LS → Prop} (h1 : isStarred a1 = false) (h2 : isStarred a2 = false) (h3 : isStarred a3 = false) (hbase : attributeBase o "find" F.env (eval o F.env) = eval o F.env) (hline : (apos.endLine == pos.line) = true)
    (h : EvW g F n σ o fun v σ₁ => ∃ x, v = .str x ∧ EvW g F n σ₁ a1 fun w σ₂ => ∃ y, w = .str y ∧ EvW g F n σ₂ a2 fun u σ₃ => ∃ a : Nat, u = .int a ∧ EvW g F n σ₃ a3 fun t σ₄ => ∃ b : Nat, t = .int b ∧ Φ (.int (findS x y a b)) σ₄) :
    EvW g F n σ (.Call (.Attribute o "find" apos) [a1, a2, a3] [] pos) Φ := by
  refine ev_meth (T := "str") (id := "str.find") (by simp [unstarred, h1, h2, h3]) hbase (by simp) hline PySem.F.plainAttrs_str PySem.F.slot_str_find PySem.F.type_str_find (h.mono fun v σ₁ ⟨x, hx, k⟩ => ?_)
  subst hx
  refine ⟨ty_str, es_cons h1 (k.mono fun w σ₂ ⟨y, hy, k⟩ => es_cons h2 (k.mono fun u σ₃ ⟨a, ha, k⟩ => es_cons h3 (k.mono fun t σ₄ ⟨b, hb, k⟩ => es_nil ?_)))⟩
  subst hy ha hb
  exact PrW.ca (pr_find4 k)
theorem ev_split {o arg : Expr} {apos pos : Pos} {Φ : LV → LS → Prop} (hst : isStarred arg = false) (hbase : attributeBase o "split" F.env (eval o F.env) = eval o F.env) (hline : (apos.endLine == pos.line) = true)
    (h : EvW g F n σ o fun v σ₁ => ∃ x, v = .str x ∧ EvW g F n σ₁ arg fun w σ₂ => ∃ y, w = .str y ∧ y ≠ [] ∧ x.length ≤ 1000000 ∧ (partsBetween ⟨x.toArray⟩ (occurrences ⟨x.toArray⟩ ⟨y.toArray⟩ 0 x.length (x.length + 1)) y.length).length ≤ sizeLine ∧
      ∀ a, (∀ p ∈ σ₂.cells, p.1 ≠ a) → Φ (.raw (.ref a)) ⟨σ₂.env, (a, .lst ((splitS x y).map .str)) :: σ₂.cells⟩) : EvW g F n σ (.Call (.Attribute o "split" apos) [arg] [] pos) Φ := by
  refine ev_meth (T := "str") (id := "str.split") (by simp [unstarred, hst]) hbase (by simp) hline PySem.F.plainAttrs_str PySem.F.slot_str_split PySem.F.type_str_split (h.mono fun v σ₁ ⟨x, hx, k⟩ => ?_)
  subst hx
  refine ⟨ty_str, es_cons hst (k.mono fun w σ₂ ⟨y, hy, h1, h2, h3, k⟩ => es_nil ?_)⟩
  subst hy
  obtain ⟨e, c⟩ := σ₂
  exact ca_split h1 h2 h3 k
theorem ev_transl {o arg : Expr} {apos pos : Pos} {Φ : LV → LS → Prop} {a : Addr} {ob : Obj} {es : Array DictEntry} {ep : Nat} (ho : g.G a = some ob) (hx : ob.ExactDict) (hd : ob.data = .dict es ep) (hk : ∀ p ∈ es, ∃ k, Value.isInt k p.key = true ∧ p.hash = hashInt k) (hm : (a == sysModules) = false)
    (hst : isStarred arg = false) (hbase : attributeBase o "translate" F.env (eval o F.env) = eval o F.env) (hline : (apos.endLine == pos.line) = true)
    (h : EvW g F n σ o fun v σ₁ => ∃ c r, v = .str [c] ∧ c < 128 ∧ ((findBy Value.isInt es (c : Int) = none ∧ r = [c]) ∨ ∃ y u, findBy Value.isInt es (c : Int) = some (.str y u) ∧ y.cps.toList = r ∧ y.length = 2) ∧ EvW g F n σ₁ arg fun w σ₂ => w = .raw (.ref a) ∧ Φ (.str r) σ₂) :
    EvW g F n σ (.Call (.Attribute o "translate" apos) [arg] [] pos) Φ := by
  refine ev_meth (T := "str") (id := "str.translate") (by simp [unstarred, hst]) hbase (by simp) hline PySem.F.plainAttrs_str PySem.F.slot_str_translate PySem.F.type_str_translate (h.mono fun v σ₁ ⟨c, r, hv, hc, hr, k⟩ => ?_)
  subst hv
  refine ⟨ty_str, es_cons hst (k.mono fun w σ₂ ⟨hw, k⟩ => es_nil ?_)⟩
  subst hw
  exact PrW.ca (pr_transl ho hx hd hk hm hc hr k)
theorem pr_fnC {f : Addr} {fd : FuncData} {body : List Stmt} {xs : List Str} {gt : Str → Option LV} {args : List LV} {Φ : LV → Prop} (K : FnOk g f fd body xs) (hgt : GtOk g gt) (hx : xs.length = args.length)
    (h : ∀ F : FC, F.env.code = fd.code → F.env.qual = fd.qualname ++ ".<locals>." → ExW g F n ⟨putAll (baseEnv [] gt fd.scope.names) (xs.zip args), []⟩ body fun lf _ => match lf with
      | .ret v => Φ v
      | .next => Φ .none
      | _ => False) : PrW g (n + 1) args (fun vs => call (.ref f) vs) Φ := by
  refine ⟨?_⟩; intro A P s vs Q E r S hv q
  obtain ⟨o, ho, hd⟩ := K.at'
  have base : ∀ b o, g.G b = some o → s.heap.get? b = some o := fun b o e => S.pre _ _ (S.base _ _ e)
  have ro : A.depth < recursionLimit := Nat.lt_of_lt_of_le (by have := r.2.1; lia : A.depth < 500) (by decide)
  refine wpAny_call (codeAny_call_function (body := body) ro (base _ _ ho) hd K.co K.gen K.body' (K.code _ base) ?_)
  rw [K.binds vs (by rw [hx, hv.length]), K.clo, K.glob]
  refine wpAny_pure (newFrame (g := g) (outer := []) (gt := gt) (lvs := args) S hgt K.names (cl := []) rfl K.blt K.kind hx hv (K.wr gt) (fun x lv hm => ?_) fun s₁ S₁ => ?_)
  · have := List.all_eq_true.mp K.nofree _ hm
    simp at this
  refine ⟨g.hl _ fun b o e => S₁.G.pre _ _ (S₁.G.base _ _ e), codeAny_func ?_⟩
  refine (h _ rfl rfl).run _ P s₁ _ _ r.deeper S₁ fun P₂ s₂ σ₂ lf fl le₂ S₂ hf hΦ => ?_
  have R := S₂.leave rfl rfl le₂
  cases lf with
  | ret v => obtain ⟨u, rfl, hu⟩ := hf; exact q P₂ s₂ v u R S₂.G hu hΦ
  | next => cases hf; exact q P₂ s₂ .none _ R S₂.G .none hΦ
  | brk => exact hΦ.elim
  | cont => exact hΦ.elim
end
end LL
end

section
open PySem PySem.W PySem.Calls PyProof.Rows
set_option Elab.async false
set_option maxRecDepth 100000
set_option linter.unusedVariables false
set_option linter.unusedSimpArgs false
namespace LL
noncomputable def up (g : GC) : GC := { g with tk0 := 1 }
section
variable {g : GC} {F : FC} {n : Nat} {σ : LS}
theorem St.up {P : PM} {s : Shared} (S : St g F P s σ) (h : 1 ≤ s.toks) : St (up g) F P s σ :=
  { G := ⟨S.G.pre, S.G.base, S.G.tab, S.G.tabP, S.G.bare, S.G.os, h⟩, kind := S.kind, glob := S.glob, blt := S.blt, old := S.old, bT := S.bT, new := S.new, nd := S.nd, mu := S.mu, ownd := S.ownd, owns := S.owns, locs := S.locs, names := S.names, cells := S.cells }
theorem St.down {P : PM} {s : Shared} (h0 : g.tk0 = 0) (S : St (LL.up g) F P s σ) : St g F P s σ :=
  { G := ⟨S.G.pre, S.G.base, S.G.tab, S.G.tabP, S.G.bare, S.G.os, by rw [h0]; exact Nat.zero_le _⟩, kind := S.kind, glob := S.glob, blt := S.blt, old := S.old, bT := S.bT, new := S.new, nd := S.nd, mu := S.mu, ownd := S.ownd, owns := S.owns, locs := S.locs, names := S.names, cells := S.cells }
structure EvS (g : GC) (F : FC) (n : Nat) (σ : LS) (e : Expr) (Φ : LV → LS → Prop) : Prop where
  run : ∀ (A : Around) (P : PM) (s : Shared) (Q E : Value → Shared → Prop), Room n A → St g F P s σ →
    (∀ P' s' σ' lv v, LE P P' → St (up g) F P' s' σ' → V P' lv v → Φ lv σ' → Q v s') → wpAny (model g.prog g.w) A (eval e F.env) Q E s
structure EsS (g : GC) (F : FC) (n : Nat) (σ : LS) (es : List Expr) (Φ : List LV → LS → Prop) : Prop where
  run : ∀ (A : Around) (P : PM) (s : Shared) (pos : Pos) (Q : List Value → Shared → Prop) (E : Value → Shared → Prop), Room n A → St g F P s σ →
    (∀ P' s' σ' lvs vs, LE P P' → St (up g) F P' s' σ' → VL P' lvs vs → Φ lvs σ' → Q vs s') → wpAny (model g.prog g.w) A (spliced (backTo pos (starEach es F.env))) Q E s
theorem evS_str {x : Str} {k : Nat} {pos : Pos} {Φ : LV → LS → Prop} (h : Φ (.str x.cps.toList) σ) : EvS g F n σ (.Constant (.str x) k pos) Φ :=
  ⟨fun _ P s _ _ _ S q => Constant_str (q P _ σ _ _ (.refl P) ((S.toks (s.toks + 1) (Nat.le_succ _)).up (Nat.succ_le_succ (Nat.zero_le _))) (.strS x _) h)⟩
theorem esS_cons {e : Expr} {rest : List Expr} {Φ : List LV → LS → Prop} (hs : isStarred e = false)
    (h : EvS g F n σ e fun a σ₁ => EsW (up g) F n σ₁ rest fun as σ₂ => Φ (a :: as) σ₂) : EsS g F n σ (e :: rest) Φ := by
  refine ⟨?_⟩; intro A P s pos Q E r S q
  rw [starEach_cons hs]
  show wpAny _ A (spliced ((false, eval e F.env) :: backTo pos (starEach rest F.env))) Q E s
  refine spliced_cons (h |>.run A P s _ E r S fun P₁ s₁ σ₁ a va le₁ S₁ h₁ k₁ => k₁ |>.run A P₁ s₁ pos _ E r S₁ fun P₂ s₂ σ₂ as vas le₂ S₂ h₂ k₂ => ?_)
  exact q P₂ s₂ σ₂ _ _ (le₁.trans le₂) S₂ (.cons (h₁.mono le₂) h₂) k₂
theorem evS_tuple {es : List Expr} {k : Nat} {pos : Pos} {Φ : LV → LS → Prop} (h : EsS g F n σ es fun as σ₁ => as.length ≤ 1000000 ∧ Φ (.tup as) σ₁) : EvS g F n σ (.Tuple es k pos) Φ := by
  refine ⟨?_⟩; intro A P s Q E r S q
  refine Tuple_ (h |>.run A P s _ _ E r S fun P₁ s₁ σ₁ as vas le₁ S₁ h₁ k₁ => ?_)
  exact pr_newTuple (g := up g) (n := n) (Φ := fun v => Φ v σ₁) k₁.1 k₁.2 |>.run A P₁ s₁ vas _ E r S₁.G h₁ fun P₃ s₃ lv v R₃ G₃ h₃ k₃ => q P₃ s₃ σ₁ lv v (le₁.trans R₃.le) (S₁.grow G₃ R₃) h₃ k₃
theorem evS_list {es : List Expr} {pos : Pos} {Φ : LV → LS → Prop} (h : EsS g F n σ es fun as σ₁ => as.length ≤ 1000000 ∧ Φ (.lst as) σ₁) : EvS g F n σ (.List es pos) Φ := by
  refine ⟨?_⟩; intro A P s Q E r S q
  refine List_ (h |>.run A P s _ _ E r S fun P₁ s₁ σ₁ as vas le₁ S₁ h₁ k₁ => ?_)
  exact pr_newList (g := up g) (n := n) (Φ := fun v => Φ v σ₁) k₁.1 k₁.2 |>.run A P₁ s₁ vas _ E r S₁.G h₁ fun P₃ s₃ lv v R₃ G₃ h₃ k₃ => q P₃ s₃ σ₁ lv v (le₁.trans R₃.le) (S₁.grow G₃ R₃) h₃ k₃
theorem evS_binop {l r : Expr} {op : Operator} {pos : Pos} {Φ : LV → LS → Prop}
    (h : EvS g F n σ l fun a σ₁ => EvW (up g) F n σ₁ r fun b σ₂ => PrW (up g) n [a, b] (fun vs => binaryOp op (vs.getD 0 .none) (vs.getD 1 .none)) fun v => Φ v σ₂) : EvS g F n σ (.BinOp l op r pos) Φ := by
  refine ⟨?_⟩; intro A P s Q E r S q
  refine wpAny_BinOp (h |>.run A P s _ E r S fun P₁ s₁ σ₁ a va le₁ S₁ h₁ k₁ => k₁ |>.run A P₁ s₁ _ E r S₁ fun P₂ s₂ σ₂ b vb le₂ S₂ h₂ k₂ => ?_)
  exact k₂ |>.run A P₂ s₂ [va, vb] _ E r S₂.G (.cons (h₁.mono le₂) (.cons h₂ .nil)) fun P₃ s₃ lv v R₃ G₃ h₃ k₃ => q P₃ s₃ σ₂ lv v ((le₁.trans le₂).trans R₃.le) (S₂.grow G₃ R₃) h₃ k₃
theorem ex_assignS (h0 : g.tk0 = 0) {x : Str} {p pos : Pos} {e : Expr} {rest : List Stmt} {Φ : LFl → LS → Prop} (hs : swapsWith e (some (.Name x p)) pos.line F.env = pure false)
    (h : EvS g F n σ e fun lv σ₁ => ∃ l env', Upd σ₁.env x l lv env' ∧ (l = .local ∨ l = .own) ∧ ExW (up g) F n ⟨env', σ₁.cells⟩ rest Φ) : ExW g F n σ (.Assign [.Name x p] e pos :: rest) Φ := by
  refine ⟨?_⟩; intro A P s Q E r S q
  refine wpAny_execs_cons (wpAny_Assign_Name (h |>.run A P s _ E r S fun P₁ s₁ σ₁ lv v le₁ S₁ h₁ ⟨l, env', u, hl, k⟩ => ?_) hs)
  exact storeW (g := up g) S₁ u hl h₁ fun s' S' => k |>.run A P₁ s' Q E r S' fun P₂ s₂ σ₂ lf f le₂ S₂ hf hΦ => q P₂ s₂ σ₂ lf f (le₁.trans le₂) (S₂.down h0) hf hΦ
end
end LL
end

section
open PySem PySem.W PySem.Calls PyProof.Rows
set_option Elab.async false
set_option maxRecDepth 100000
set_option linter.unusedVariables false
set_option linter.unusedSimpArgs false
namespace LL
noncomputable def idxAt (a : Addr) : Nat := ([(43, 3), (55, 6), (62, 8), (69, 9), (76, 12), (81, 14), (88, 15), (93, 16), (98, 17), (103, 18), (110, 19), (115, 20), (120, 21)] : List (Nat × Nat)).lookup a |>.getD 0
noncomputable def recAt (a : Addr) : DefRec := recIdx (idxAt a)
noncomputable def fdD (a : Addr) (pm cd doc : Value) : FuncData := docDef (recAt a).name (recAt a).params (recAt a).body (recAt a).scope pm cd doc
noncomputable def fdAt (p : Params) (a : Addr) : FuncData := fdD a .none .none .none
noncomputable def bodyAt (p : Params) (a : Addr) : List Stmt := (recAt a).body
noncomputable def elseOf : List Stmt → List Stmt
  | .If _ _ o _ :: _ => o
  | _ => []
noncomputable def thenOf : List Stmt → List Stmt
  | .If _ b _ _ :: _ => b
  | _ => []
noncomputable def loopOf : List Stmt → List Stmt
  | .While _ b _ _ :: _ => b
  | .For _ _ b _ _ :: _ => b
  | _ => []
noncomputable def biL : List (Str × Value) := [("len", .builtin "len"), ("any", .builtin "any"), ("range", .type "range"), ("list", .type "list"), ("enumerate", .type "enumerate"), ("isinstance", .builtin "isinstance"), ("object", .type "object"), ("str", .type "str")]
noncomputable def gtab (x : Str) : Option LV := (fnTab.map (fun p => (p.1, LV.raw (.ref p.2))) ++ (Str.ofString "ELLIPSIS_MARKER", LV.str [46, 46, 46]) :: biL.map fun p => (p.1, LV.raw p.2)).lookup x
noncomputable def fnAddrs : List Addr := [43, 55, 62, 69, 76, 81, 88, 93, 98, 103, 110, 115, 120]
structure HG (g : GC) : Prop where
  fn : ∀ a ∈ fnAddrs, ∃ o pm cd doc, g.G a = some o ∧ o.data = .func (fdD a pm cd doc) ∧ (a = 62 → cd = .ref 61) ∧ ∀ h : Heap, (∀ b o, g.G b = some o → h.get? b = some o) → h.CodeRec cd (recAt a).name
  see : ∀ p ∈ checks, p.1 ≠ 57 → ∃ o, g.G p.1 = some o ∧ p.2 o = true
  gt : GtOk g gtab
theorem chk {p : Addr × (Obj → Bool)} (i : Nat) (h : checks[i]? = some p) : p ∈ checks := List.mem_of_getElem? h
structure FnOkE (g : GC) (a : Addr) (xs : List Str) : Prop where
  ex : ∃ pm cd doc, (a = 62 → cd = .ref 61) ∧ FnOk g a (fdD a pm cd doc) (recAt a).body xs
noncomputable def wrOk (names : List (Str × NameKind)) (xs : List Str) : Bool := xs.all fun x => names.any fun p => p.1 == x && (p.2 == .local || p.2 == .cell)
theorem wr_of {names : List (Str × NameKind)} {xs : List Str} (h : wrOk names xs = true) : ∀ gt, ∀ x ∈ xs, Writes (baseEnv [] gt names) x := by
  intro gt x hx
  have := List.all_eq_true.mp h x hx
  simp only [List.any_eq_true, Bool.and_eq_true, Bool.or_eq_true, beq_iff_eq] at this
  obtain ⟨⟨y, k⟩, hm, rfl, hk⟩ := this
  dsimp only at hk
  rcases hk with rfl | rfl
  · exact ⟨.local, .undef, List.mem_filterMap.mpr ⟨_, hm, rfl⟩, .inl rfl⟩
  · exact ⟨.own, .undef, List.mem_filterMap.mpr ⟨_, hm, rfl⟩, .inr rfl⟩
noncomputable def fnS (a : Addr) (xs : List Str) : Bool := !(recAt a).scope.isCoroutine && !(recAt a).scope.isGenerator && namesOk (recAt a).scope.names && ((recAt a).scope.names.all fun p => p.2 != .free) && wrOk (recAt a).scope.names xs
theorem fn_ok {g : GC} (h : HG g) {a : Addr} {xs : List Str} (hm : a ∈ fnAddrs) (hs : fnS a xs = true) (hk : (recAt a).scope.kind = .function)
    (hb : ∀ pm cd doc (vs : List Value), vs.length = xs.length → bindArgs (fdD a pm cd doc) ⟨vs, []⟩ = pure (xs.zip vs)) : FnOkE g a xs := by
  obtain ⟨o, pm, cd, doc, h1, h2, h3, h4⟩ := h.fn a hm
  simp only [fnS, Bool.and_eq_true, Bool.not_eq_true'] at hs
  obtain ⟨⟨⟨⟨s1, s2⟩, s3⟩, s4⟩, s5⟩ := hs
  exact ⟨pm, cd, doc, h3, ⟨⟨o, h1, h2⟩, s1, s2, hk, rfl, rfl, rfl, rfl, h4, hb pm cd doc, s3, s4, wr_of s5⟩⟩
theorem of0 {P : List Value → Prop} (h : P []) : ∀ vs : List Value, vs.length = 0 → P vs := fun vs e => List.eq_nil_of_length_eq_zero e ▸ h
theorem ofS {n : Nat} {P : List Value → Prop} (h : ∀ a vs, vs.length = n → P (a :: vs)) : ∀ vs : List Value, vs.length = n + 1 → P vs := by
  intro vs e
  cases vs with
  | nil => cases e
  | cons a vs => exact h a vs (Nat.succ.inj e)
theorem of1 {P : List Value → Prop} (h : ∀ a, P [a]) : ∀ vs : List Value, vs.length = 1 → P vs := ofS fun a => of0 (h a)
theorem of2 {P : List Value → Prop} (h : ∀ a b, P [a, b]) : ∀ vs : List Value, vs.length = 2 → P vs := ofS fun a => of1 (h a)
theorem of3 {P : List Value → Prop} (h : ∀ a b c, P [a, b, c]) : ∀ vs : List Value, vs.length = 3 → P vs := ofS fun a => of2 (h a)
theorem FnOkE.cal {g : GC} {a : Addr} {xs : List Str} (K : FnOkE g a xs) : Callable g (.ref a) := let ⟨_, _, _, _, K⟩ := K.ex; let ⟨_, h1, h2⟩ := K.at'; .fn h1 h2
theorem pr_fnE {g : GC} {n : Nat} {f : Addr} {xs : List Str} {gt : Str → Option LV} {args : List LV} {Φ : LV → Prop} (K : FnOkE g f xs) (hgt : GtOk g gt) (hx : xs.length = args.length)
    (h : ∀ F : FC, ExW g F n ⟨putAll (baseEnv [] gt (fdAt g.w.params f).scope.names) (xs.zip args), []⟩ (bodyAt g.w.params f) fun lf _ => match lf with
      | .ret v => Φ v
      | .next => Φ .none
      | _ => False) : PrW g (n + 1) args (fun vs => call (.ref f) vs) Φ :=
  let ⟨_, _, _, _, K⟩ := K.ex
  pr_fn K hgt hx h
end LL
end

section
open PySem PySem.W PySem.Calls PyProof.Rows
open PySem.Builtin PySem.Builtin.Str PySem.StrLaws
set_option Elab.async false
set_option maxRecDepth 100000
set_option linter.unusedVariables false
set_option linter.unusedSimpArgs false
namespace LL
noncomputable def Stands (x y : List Nat) (b i : Nat) : Prop := i + y.length ≤ b ∧ (x.drop i).take y.length = y
theorem at_iff {x y : List Nat} {b i : Nat} : At ⟨x.toArray⟩ ⟨y.toArray⟩ b i ↔ Stands x y b i := by
  unfold At Stands
  rw [str_len, subAt_eq, str_len]
  simp only [cps_list, beq_iff_eq]
theorem findS_spec (x y : List Nat) (a b : Nat) : (findS x y a b = -1 ∧ ∀ i, a ≤ i → ¬ Stands x y (min b x.length) i) ∨
    ∃ k : Nat, findS x y a b = (k : Int) ∧ a ≤ k ∧ Stands x y (min b x.length) k ∧ ∀ i, a ≤ i → i < k → ¬ Stands x y (min b x.length) i := by
  unfold findS
  rw [occ_eq]
  generalize min b x.length = hi
  rcases occ_first ⟨x.toArray⟩ ⟨y.toArray⟩ hi 1 (Nat.le_refl _) (List.range' a (hi + 1 - a)) a (fun i hi' => by have := List.mem_range'_1.mp hi'; lia) with ⟨h0, hn⟩ | ⟨pre, c, post, e, h0, hc, hn⟩
  · rw [h0]
    refine .inl ⟨rfl, fun i hlo h => ?_⟩
    have h' := at_iff.mpr h
    exact hn i (by have := h'.1; rw [List.mem_range'_1]; lia) h'
  · have hs := range'_split_from e
    generalize (forIn (List.range' a (hi + 1 - a)) ((#[] : Array Nat), a) (occBody ⟨x.toArray⟩ ⟨y.toArray⟩ hi 1)).run.fst = arr at h0
    have h1 : arr.toList[0]? = some c := by simpa using h0
    cases hL : arr.toList with
    | nil => rw [hL] at h1; cases h1
    | cons d t =>
      rw [hL] at h1
      simp at h1
      subst h1
      exact .inr ⟨d, rfl, hs.1, at_iff.mp hc, fun k hk0 hk h => hn k (hs.2 k hk0 hk) (at_iff.mpr h)⟩
noncomputable def dots : List (List Nat) → List Nat
  | [] => []
  | [s] => s
  | s :: t :: r => s ++ [46, 46, 46] ++ dots (t :: r)
theorem chainG_unique {s sub : Str} {hi : Nat} : ∀ {a : Nat} {c1 c2 : List Nat} {f1 f2 : Nat}, ChainG s sub hi a c1 f1 → (∀ k, f1 ≤ k → ¬ At s sub hi k) → ChainG s sub hi a c2 f2 → (∀ k, f2 ≤ k → ¬ At s sub hi k) → c1 = c2
  | a, [], [], _, _, _, _, _, _ => rfl
  | a, [], c :: r, f1, f2, h1, n1, h2, n2 => by
    have e : f1 = a := h1
    subst e
    exact absurd h2.2.1 (n1 c h2.1)
  | a, c :: r, [], f1, f2, h1, n1, h2, n2 => by
    have e : f2 = a := h2
    subst e
    exact absurd h1.2.1 (n2 c h1.1)
  | a, c :: r, d :: t, f1, f2, h1, n1, h2, n2 => by
    have e : c = d := by
      rcases Nat.lt_trichotomy c d with h | h | h
      · exact absurd h1.2.1 (h2.2.2.1 c h1.1 h)
      · exact h
      · exact absurd h2.2.1 (h1.2.2.1 d h2.1 h)
    subst e
    rw [chainG_unique h1.2.2.2 n1 h2.2.2.2 n2]
noncomputable def cutsOf : Nat → List (List Nat) → List Nat
  | _, [] => []
  | _, [_] => []
  | a, s :: t :: r => (a + s.length) :: cutsOf (a + s.length + 3) (t :: r)
noncomputable def lastOf : Nat → List (List Nat) → Nat
  | a, [] => a
  | a, [_] => a
  | a, s :: t :: r => lastOf (a + s.length + 3) (t :: r)
theorem not_at_in {pre s rest : List Nat} {b : Nat} (hs : 46 ∉ s) {k : Nat} (h1 : pre.length ≤ k) (h2 : k < pre.length + s.length) : ¬ Stands (pre ++ s ++ rest) [46, 46, 46] b k := by
  rintro ⟨_, h⟩
  have h0 : ((pre ++ s ++ rest).drop k)[0]? = some 46 := by
    have := congrArg (·[0]?) h
    simpa using this
  rw [List.getElem?_drop, Nat.add_zero, List.append_assoc, List.getElem?_append_right h1, List.getElem?_append_left (by lia)] at h0
  exact hs (List.mem_of_getElem? h0)
theorem dots_chain : ∀ (segs : List (List Nat)) (pre : List Nat), (∀ s ∈ segs, 46 ∉ s) → ChainG ⟨(pre ++ dots segs).toArray⟩ ⟨[46, 46, 46].toArray⟩ (pre ++ dots segs).length pre.length (cutsOf pre.length segs) (lastOf pre.length segs) ∧
    ∀ k, lastOf pre.length segs ≤ k → ¬ Stands (pre ++ dots segs) [46, 46, 46] (pre ++ dots segs).length k
  | [], pre, _ => by
    refine ⟨rfl, fun k hk h => ?_⟩
    have := h.1
    simp [dots] at this
    unfold lastOf at hk
    lia
  | [s], pre, hs => by
    refine ⟨rfl, fun k hk h => ?_⟩
    have h1 := h.1
    unfold lastOf at hk
    simp only [dots, List.length_append, List.length_cons, List.length_nil] at h1
    have := not_at_in (rest := []) (b := (pre ++ dots [s]).length) (hs s (.head _)) hk (by lia)
    rw [List.append_nil] at this
    exact this h
  | s :: t :: r, pre, hs => by
    have e : pre ++ dots (s :: t :: r) = (pre ++ s ++ [46, 46, 46]) ++ dots (t :: r) := by simp [dots]
    obtain ⟨h1, h2⟩ := dots_chain (t :: r) (pre ++ s ++ [46, 46, 46]) fun x hx => hs x (.tail _ hx)
    have hl : (pre ++ s ++ [46, 46, 46]).length = pre.length + s.length + 3 := by simp; lia
    rw [e]
    rw [hl] at h1 h2
    have ns : ∀ k, pre.length ≤ k → k < pre.length + s.length → ¬ Stands ((pre ++ s ++ [46, 46, 46]) ++ dots (t :: r)) [46, 46, 46] ((pre ++ s ++ [46, 46, 46]) ++ dots (t :: r)).length k := by
      intro k hk1 hk2
      have := not_at_in (pre := pre) (s := s) (rest := [46, 46, 46] ++ dots (t :: r)) (b := ((pre ++ s ++ [46, 46, 46]) ++ dots (t :: r)).length) (hs s (.head _)) hk1 hk2
      simpa using this
    refine ⟨⟨Nat.le_add_right _ _, at_iff.mpr ⟨?_, ?_⟩, fun k hk1 hk2 h => ns k hk1 hk2 (at_iff.mp h), h1⟩, h2⟩
    · simp; lia
    · have : ((pre ++ s ++ [46, 46, 46]) ++ dots (t :: r)).drop (pre.length + s.length) = [46, 46, 46] ++ dots (t :: r) := by
        rw [List.append_assoc, List.drop_append_of_le_length (by simp)]
        simp
      rw [this]; rfl
theorem parts_of_cuts (w : List Nat) : ∀ (segs : List (List Nat)) (pre : List Nat), segs ≠ [] → w = pre ++ dots segs → (partsFrom ⟨w.toArray⟩ 3 pre.length (cutsOf pre.length segs)).map (fun s => s.cps.toList) = segs
  | [], pre, h, _ => absurd rfl h
  | [s], pre, _, hw => by
    unfold cutsOf partsFrom
    simp only [List.map_cons, List.map_nil, strSub_toList, cps_list, str_len]
    rw [hw]
    simp [dots]
  | s :: t :: r, pre, _, hw => by
    have e : w = (pre ++ s ++ [46, 46, 46]) ++ dots (t :: r) := by rw [hw]; simp [dots]
    have hl : (pre ++ s ++ [46, 46, 46]).length = pre.length + s.length + 3 := by simp; lia
    have ih := parts_of_cuts w (t :: r) (pre ++ s ++ [46, 46, 46]) (by simp) e
    rw [hl] at ih
    unfold cutsOf partsFrom
    simp only [List.map_cons, ih, strSub_toList, cps_list]
    rw [hw]
    simp [dots, Nat.add_sub_cancel_left]
theorem cutsOf_len : ∀ (segs : List (List Nat)) (a : Nat), (cutsOf a segs).length = segs.length - 1
  | [], _ => rfl
  | [_], _ => rfl
  | s :: t :: r, a => by
    unfold cutsOf
    rw [List.length_cons, cutsOf_len (t :: r)]
    simp
theorem partsFrom_len (x : Str) (w : Nat) : ∀ (cuts : List Nat) (a : Nat), (partsFrom x w a cuts).length = cuts.length + 1
  | [], _ => rfl
  | c :: r, a => by unfold partsFrom; rw [List.length_cons, partsFrom_len x w r]; rfl
theorem split_size {x : List Nat} (y : List Nat) (hx : x.length ≤ 1000000) : (partsBetween ⟨x.toArray⟩ (occurrences ⟨x.toArray⟩ ⟨y.toArray⟩ 0 x.length (x.length + 1)) y.length).length ≤ sizeLine := by
  rw [partsBetween_eq, partsFrom_len, sizeLine_eq]
  have := StrLaws.occ_length_le ⟨x.toArray⟩ ⟨y.toArray⟩ 0 x.length (x.length + 1)
  lia
theorem dots_occ {segs : List (List Nat)} (hs : ∀ s ∈ segs, 46 ∉ s) : occurrences ⟨(dots segs).toArray⟩ ⟨[46, 46, 46].toArray⟩ 0 (dots segs).length ((dots segs).length + 1) = cutsOf 0 segs := by
  obtain ⟨f, h1, h2⟩ := occ_tight ⟨(dots segs).toArray⟩ ⟨[46, 46, 46].toArray⟩ (by decide)
  rw [str_len] at h1 h2
  obtain ⟨h3, h4⟩ := dots_chain segs [] hs
  exact chainG_unique h1 h2 h3 fun k hk h => h4 k hk (at_iff.mp h)
theorem splitS_dots {segs : List (List Nat)} (h2 : 2 ≤ segs.length) (hs : ∀ s ∈ segs, 46 ∉ s) : splitS (dots segs) [46, 46, 46] = segs := by
  have ho := dots_occ hs
  have hl : 3 ≤ (dots segs).length := by
    match segs, h2 with
    | s :: t :: r, _ => simp [dots]; lia
  unfold splitS Txt.split
  have k1 : PySem.Builtin.Str.strKind ⟨[46, 46, 46].toArray⟩ = 1 := by decide +kernel
  have k2 : 1 ≤ PySem.Builtin.Str.strKind ⟨(dots segs).toArray⟩ := by
    unfold PySem.Builtin.Str.strKind
    split
    · exact Nat.le_refl _
    · split <;> lia
  rw [if_neg (by rw [k1, str_len, str_len, decide_eq_false (by simp; assumption), decide_eq_false (by (exact Nat.not_lt.mpr (by assumption)))]; decide)]
  rw [str_len, ho]
  have hc := cutsOf_len segs 0
  rw [if_neg (by
    intro h
    have h0 := List.isEmpty_iff.mp h
    rw [h0] at hc
    simp at hc
    lia), partsBetween_eq, str_len]
  exact parts_of_cuts (dots segs) segs [] (by intro h; subst h; simp at h2) rfl
theorem isIn_dots {segs : List (List Nat)} (h2 : 2 ≤ segs.length) (hs : ∀ s ∈ segs, 46 ∉ s) : isIn [46, 46, 46] (dots segs) = true := by
  rw [isIn_iff]
  match segs, h2, hs with
  | s :: t :: r, _, hs =>
    refine ⟨s.length, by simp [dots], ?_⟩
    show ((s ++ [46, 46, 46] ++ dots (t :: r)).drop s.length).take 3 = _
    rw [List.append_assoc, List.drop_append_of_le_length (Nat.le_refl _)]
    simp
theorem isIn_plain {s : List Nat} (hs : 46 ∉ s) : isIn [46, 46, 46] s = false := by
  rw [Bool.eq_false_iff]
  intro h
  obtain ⟨i, h1, h3⟩ := (isIn_iff _ _).mp h
  have h0 : (s.drop i)[0]? = some 46 := by
    have := congrArg (·[0]?) h3
    simpa using this
  rw [List.getElem?_drop] at h0
  exact hs (List.mem_of_getElem? h0)
end LL
end

section
set_option Elab.async false
set_option maxRecDepth 100000
set_option linter.unusedVariables false
set_option linter.unusedSimpArgs false
namespace LL
noncomputable abbrev Pd := Nat → Bool
noncomputable def FitX : List Pd → List Nat → Prop
  | [], [] => True
  | p :: ps, c :: x => p c = true ∧ FitX ps x
  | _, _ => False
theorem fitX_len : ∀ {ps : List Pd} {x : List Nat}, FitX ps x → x.length = ps.length
  | [], [], _ => rfl
  | _ :: ps, _ :: x, h => by have := fitX_len h.2; simp [this]
  | [], _ :: _, h => h.elim
  | _ :: _, [], h => h.elim
noncomputable def SegT : List (List Pd) → List Nat → Prop
  | [], _ => False
  | [s], cs => ∃ a x, cs = a ++ x ∧ FitX s x
  | s :: t :: r, cs => ∃ a x b, cs = a ++ (x ++ b) ∧ FitX s x ∧ SegT (t :: r) b
noncomputable def SegM : List (List Pd) → List Nat → Prop
  | [], _ => False
  | [s], cs => FitX s cs
  | s :: t :: r, cs => ∃ x b, cs = x ++ b ∧ FitX s x ∧ SegT (t :: r) b
theorem segT_mono : ∀ {gs : List (List Pd)} {a b : List Nat}, SegT gs b → SegT gs (a ++ b)
  | [], _, _, h => h
  | [s], a, b, ⟨a', x, e, h⟩ => ⟨a ++ a', x, by rw [e, List.append_assoc], h⟩
  | s :: t :: r, a, b, ⟨a', x, b', e, h, k⟩ => ⟨a ++ a', x, b', by rw [e, List.append_assoc], h, k⟩
theorem segT_skip {t : List Pd} {r : List (List Pd)} {cs : List Nat} : SegT ([] :: t :: r) cs ↔ SegT (t :: r) cs := by
  constructor
  · rintro ⟨a, x, b, e, h, k⟩
    cases x with
    | nil => rw [e]; exact segT_mono k
    | cons _ _ => exact h.elim
  · intro k
    exact ⟨[], [], cs, rfl, trivial, k⟩
noncomputable abbrev pdU (u : LUnit) : Pd := unitFits u
theorem fitsFrom_iff : ∀ {us : List LUnit} {cs : List Nat}, fitsFrom us cs = true ↔ ∃ x b, cs = x ++ b ∧ FitX (us.map pdU) x
  | [], cs => ⟨fun _ => ⟨[], cs, rfl, trivial⟩, fun _ => rfl⟩
  | u :: us, [] => ⟨fun h => (by cases h), fun ⟨x, b, e, h⟩ => by
      cases x with
      | nil => exact h.elim
      | cons _ _ => cases e⟩
  | u :: us, c :: cs => by
    unfold fitsFrom
    rw [Bool.and_eq_true, fitsFrom_iff (us := us) (cs := cs)]
    constructor
    · rintro ⟨h, x, b, e, k⟩
      exact ⟨c :: x, b, by rw [e]; rfl, h, k⟩
    · rintro ⟨x, b, e, k⟩
      cases x with
      | nil => exact k.elim
      | cons d x =>
        injection e with e1 e2
        subst e1
        exact ⟨k.1, x, b, e2, k.2⟩
theorem fits_iff {us : List LUnit} {name : List Nat} {p : Nat} : fits us name p = true ↔ ∃ x b, name.drop p = x ++ b ∧ FitX (us.map pdU) x := fitsFrom_iff
theorem fits_le {us : List LUnit} {name : List Nat} {p : Nat} (h : fits us name p = true) (hp : p ≤ name.length) : p + us.length ≤ name.length := by
  have := fitsFrom_len h
  rw [List.length_drop] at this
  lia
theorem fits_cons {u : LUnit} {us : List LUnit} {name : List Nat} {p : Nat} : fits (u :: us) name p = (fits [u] name p && fits us name (p + 1)) := by
  unfold fits
  have : name.drop (p + 1) = (name.drop p).drop 1 := by rw [List.drop_drop]
  rw [this]
  cases name.drop p with
  | nil => rfl
  | cons c cs => show (unitFits u c && fitsFrom us cs) = ((unitFits u c && true) && fitsFrom us cs); rw [Bool.and_true]
theorem ones_fold {name : List Nat} : ∀ (us : List LUnit) (ps : List Nat), (us.map Tk.one).foldl (step name) ps = (ps.filter fun p => fits us name p).map (· + us.length)
  | [], ps => by
    show ps = _
    have : (ps.filter fun p => fits [] name p) = ps := List.filter_eq_self.mpr fun _ _ => rfl
    rw [this]
    simp
  | u :: us, ps => by
    show (us.map Tk.one).foldl (step name) (step name ps (.one u)) = _
    rw [ones_fold us]
    show (((ps.filter fun p => decide (p + 1 ≤ name.length) && fits [u] name p).map (· + 1)).filter fun p => fits us name p).map (· + us.length) = _
    rw [List.filter_map, List.filter_filter, List.map_map]
    have e1 : (fun p => ((fun p => fits us name p) ∘ (· + 1)) p && (decide (p + 1 ≤ name.length) && fits [u] name p)) = fun p => fits (u :: us) name p := by
      funext p
      rw [fits_cons (us := us)]
      cases h : fits [u] name p with
      | false => simp
      | true =>
        have hl := fitsFrom_len h
        rw [List.length_drop] at hl
        have : p + 1 ≤ name.length := by simp at hl; lia
        simp [this, Bool.and_comm]
    rw [e1]
    congr 1
    funext p
    simp; lia
theorem step_nil {name : List Nat} (t : Tk) : step name [] t = [] := by cases t <;> rfl
theorem fold_nil {name : List Nat} : ∀ ts : List Tk, ts.foldl (step name) [] = []
  | [] => rfl
  | t :: ts => by rw [List.foldl_cons, step_nil]; exact fold_nil ts
theorem seek_some {us : List LUnit} {name : List Nat} : ∀ {f p q : Nat}, seek us name f p = some q → p ≤ q ∧ fits us name q = true ∧ q + us.length ≤ name.length ∧ ∀ x, p ≤ x → x < q → fits us name x = false
  | 0, _, _, h => by cases h
  | f + 1, p, q, h => by
    unfold seek at h
    split at h
    · rename_i hl
      split at h
      · rename_i hf
        cases h
        exact ⟨Nat.le_refl _, hf, hl, fun x h1 h2 => by lia⟩
      · rename_i hf
        obtain ⟨h1, h2, h3, h4⟩ := seek_some h
        refine ⟨by (exact Nat.le_of_lt (by assumption)), h2, h3, fun x hx1 hx2 => ?_⟩
        by_cases e : x = p
        · rw [e]; exact Bool.eq_false_iff.mpr hf
        · exact h4 x (by lia) hx2
    · cases h
theorem seek_none {us : List LUnit} {name : List Nat} : ∀ {f p : Nat}, seek us name f p = none → name.length < p + f → ∀ x, p ≤ x → x ≤ name.length → fits us name x = false
  | 0, p, _, hl, x, h1, h2 => by lia
  | f + 1, p, h, hl, x, h1, h2 => by
    unfold seek at h
    split at h
    · rename_i hl'
      split at h
      · cases h
      · rename_i hf
        by_cases e : x = p
        · rw [e]; exact Bool.eq_false_iff.mpr hf
        · exact seek_none h (by lia) x (by lia) h2
    · rename_i hl'
      refine Bool.eq_false_iff.mpr fun hx => ?_
      have := fits_le hx h2
      lia
noncomputable def tailTk : List (List LUnit) → List Tk
  | [] => []
  | [g] => .run :: g.map .one
  | g :: h :: r => .held g :: tailTk (h :: r)
noncomputable abbrev pds (gs : List (List LUnit)) : List (List Pd) := gs.map fun g => g.map pdU
theorem drop_split {name : List Nat} {p q : Nat} (h : p ≤ q) : name.drop p = (name.drop p).take (q - p) ++ name.drop q := by
  have : name.drop q = (name.drop p).drop (q - p) := by rw [List.drop_drop]; congr 1; lia
  rw [this, List.take_append_drop]
theorem left_tail {name : List Nat} : ∀ (gs : List (List LUnit)) (p : Nat), gs ≠ [] → p ≤ name.length → (name.length ∈ (tailTk gs).foldl (step name) [p] ↔ SegT (pds gs) (name.drop p))
  | [], p, h, _ => absurd rfl h
  | [g], p, _, hp => by
    show name.length ∈ (g.map Tk.one).foldl (step name) (List.range' p (name.length + 1 - p)) ↔ _
    rw [ones_fold, List.mem_map]
    constructor
    · rintro ⟨q, hq, e⟩
      obtain ⟨hq1, hq2⟩ := List.mem_filter.mp hq
      have hq3 := List.mem_range'_1.mp hq1
      obtain ⟨x, b, e1, hx⟩ := fits_iff.mp hq2
      have hl := fitX_len hx
      have hb : b = [] := by
        have := congrArg List.length e1
        rw [List.length_drop, List.length_append, hl, List.length_map] at this
        exact List.length_eq_zero_iff.mp (by lia)
      rw [hb, List.append_nil] at e1
      exact ⟨(name.drop p).take (q - p), x, by rw [← e1]; exact drop_split hq3.1, hx⟩
    · rintro ⟨a, x, e, hx⟩
      have hl := fitX_len hx
      rw [List.length_map] at hl
      have hn := congrArg List.length e
      rw [List.length_drop, List.length_append] at hn
      refine ⟨p + a.length, List.mem_filter.mpr ⟨List.mem_range'_1.mpr ⟨by lia, by lia⟩, fits_iff.mpr ⟨x, [], ?_, hx⟩⟩, by lia⟩
      rw [← List.drop_drop, e, List.append_nil]
      exact List.drop_left' rfl
  | g :: h :: r, p, _, hp => by
    show name.length ∈ (tailTk (h :: r)).foldl (step name) (step name [p] (.held g)) ↔ _
    have hstep : step name [p] (.held g) = match seek g name (name.length + 1) p with
      | none => []
      | some q => [q + g.length] := by
      show List.filterMap (fun p => (seek g name (name.length + 1) p).map (· + g.length)) [p] = _
      rw [List.filterMap_cons, List.filterMap_nil]
      cases seek g name (name.length + 1) p <;> rfl
    rw [hstep]
    cases hs : seek g name (name.length + 1) p with
    | none =>
      show name.length ∈ (tailTk (h :: r)).foldl (step name) [] ↔ _
      rw [fold_nil]
      refine ⟨fun z => (by cases z), ?_⟩
      rintro ⟨a, x, b, e, hx, _⟩
      have hn := congrArg List.length e
      rw [List.length_drop, List.length_append] at hn
      have hf := seek_none hs (by lia) (p + a.length) (by lia) (by lia)
      rw [Bool.eq_false_iff] at hf
      refine absurd (fits_iff.mpr ⟨x, b, ?_, hx⟩) hf
      rw [← List.drop_drop, e]
      exact List.drop_left' rfl
    | some q =>
      obtain ⟨h1, h2, h3, h4⟩ := seek_some hs
      show name.length ∈ (tailTk (h :: r)).foldl (step name) [q + g.length] ↔ _
      rw [left_tail (h :: r) (q + g.length) (by simp) h3]
      constructor
      · intro k
        obtain ⟨x, b, e, hx⟩ := fits_iff.mp h2
        have hl := fitX_len hx
        rw [List.length_map] at hl
        refine ⟨(name.drop p).take (q - p), x, b, by rw [← e]; exact drop_split h1, hx, ?_⟩
        have : name.drop (q + g.length) = b := by rw [← List.drop_drop, e]; exact List.drop_left' hl
        rw [← this]; exact k
      · rintro ⟨a, x, b, e, hx, k⟩
        have hl := fitX_len hx
        rw [List.length_map] at hl
        have hn := congrArg List.length e
        rw [List.length_drop, List.length_append, List.length_append] at hn
        have hf : fits g name (p + a.length) = true := fits_iff.mpr ⟨x, b, by rw [← List.drop_drop, e]; exact List.drop_left' rfl, hx⟩
        have hq : q ≤ p + a.length := by
          by_cases c : q ≤ p + a.length
          · exact c
          · have := h4 (p + a.length) (by lia) (by (exact Nat.not_le.mp (by assumption)))
            rw [hf] at this; cases this
        have hb : name.drop (p + a.length + g.length) = b := by
          rw [← List.drop_drop, ← List.drop_drop, e, List.drop_left' rfl]
          exact List.drop_left' hl
        rw [drop_split (p := q + g.length) (q := p + a.length + g.length) (by lia), hb]
        exact segT_mono k
theorem left_all {name : List Nat} (pre : List LUnit) (gs : List (List LUnit)) : takesS name (pre.map .one ++ tailTk gs) = true ↔ SegM (pds (pre :: gs)) name := by
  unfold takesS
  rw [List.contains_iff_mem, List.foldl_append, ones_fold]
  have h0 : ([0].filter fun p => fits pre name p).map (· + pre.length) = if fits pre name 0 then [pre.length] else [] := by
    by_cases h : fits pre name 0 = true
    · simp [h]
    · simp [h]
  rw [h0]
  by_cases h : fits pre name 0 = true
  · rw [if_pos h]
    have hle := fits_le h (Nat.zero_le _)
    obtain ⟨x, b, e, hx⟩ := fits_iff.mp h
    rw [List.drop_zero] at e
    have hl := fitX_len hx
    rw [List.length_map] at hl
    cases gs with
    | nil =>
      show name.length ∈ [pre.length] ↔ FitX (pre.map pdU) name
      constructor
      · intro k
        have hk : name.length = pre.length := List.mem_singleton.mp k
        have : b = [] := by
          have := congrArg List.length e
          rw [List.length_append] at this
          exact List.length_eq_zero_iff.mp (by lia)
        rw [this, List.append_nil] at e
        rw [e]; exact hx
      · intro k
        have := fitX_len k
        rw [List.length_map] at this
        rw [this]; exact .head _
    | cons g r =>
      rw [left_tail (g :: r) pre.length (by simp) (by lia)]
      have hb : name.drop pre.length = b := by rw [e]; exact List.drop_left' hl
      rw [hb]
      constructor
      · intro k; exact ⟨x, b, e, hx, k⟩
      · rintro ⟨x', b', e', hx', k⟩
        have hl' := fitX_len hx'
        rw [List.length_map] at hl'
        have : b' = b := by rw [← hb, e']; exact (List.drop_left' hl').symm
        rw [← this]; exact k
  · rw [if_neg h, fold_nil]
    refine ⟨fun z => (by cases z), fun k => absurd ?_ h⟩
    cases gs with
    | nil => exact fits_iff.mpr ⟨name, [], by simp, k⟩
    | cons g r =>
      obtain ⟨x, b, e, hx, _⟩ := k
      exact fits_iff.mpr ⟨x, b, e, hx⟩
end LL
end

section
set_option Elab.async false
set_option maxRecDepth 100000
set_option linter.unusedVariables false
set_option linter.unusedSimpArgs false
namespace LL
noncomputable def grpM {α : Type} : Bool → List (Option α) → List α × List (List α)
  | _, [] => ([], [])
  | _, some t :: r => (t :: (grpM false r).1, (grpM false r).2)
  | true, none :: r => grpM true r
  | false, none :: r => ([], (grpM true r).1 :: (grpM true r).2)
theorem grpM_some {α : Type} (b : Bool) (t : α) (r : List (Option α)) : grpM b (some t :: r) = (t :: (grpM false r).1, (grpM false r).2) := by cases b <;> rfl
theorem grpM_map {α β : Type} (f : α → β) : ∀ (b : Bool) (l : List (Option α)), grpM b (l.map (Option.map f)) = ((grpM b l).1.map f, (grpM b l).2.map (List.map f))
  | b, [] => by cases b <;> rfl
  | b, some t :: r => by
    rw [List.map_cons]
    show grpM b (some (f t) :: r.map (Option.map f)) = _
    rw [grpM_some, grpM_some, grpM_map f false r]; rfl
  | true, none :: r => grpM_map f true r
  | false, none :: r => by
    show ([], (grpM true (r.map (Option.map f))).1 :: (grpM true (r.map (Option.map f))).2) = _
    rw [grpM_map f true r]; rfl
noncomputable def segO {α : Type} : List (Option α) → List (List α)
  | [] => [[]]
  | none :: r => [] :: segO r
  | some p :: r => match segO r with
    | [] => [[p]]
    | s :: t => (p :: s) :: t
theorem segO_ne {α : Type} : ∀ l : List (Option α), ∃ s t, segO l = s :: t
  | [] => ⟨[], [], rfl⟩
  | none :: r => ⟨[], segO r, rfl⟩
  | some p :: r => by
    obtain ⟨s, t, e⟩ := segO_ne r
    exact ⟨p :: s, t, by unfold segO; rw [e]⟩
theorem segO_some {α : Type} {p : α} {r : List (Option α)} {s : List α} {t : List (List α)} (e : segO r = s :: t) : segO (some p :: r) = (p :: s) :: t := by show (match segO r with | [] => [[p]] | s :: t => (p :: s) :: t) = _; rw [e]
theorem segT_iff : ∀ {gs : List (List Pd)} {cs : List Nat}, SegT gs cs ↔ ∃ a b, cs = a ++ b ∧ SegM gs b
  | [], cs => ⟨fun h => h.elim, fun ⟨_, _, _, h⟩ => h.elim⟩
  | [s], cs => Iff.rfl
  | s :: t :: r, cs => by
    constructor
    · rintro ⟨a, x, b, e, h, k⟩
      exact ⟨a, x ++ b, e, x, b, rfl, h, k⟩
    · rintro ⟨a, y, e, x, b, e', h, k⟩
      exact ⟨a, x, b, by rw [e, e'], h, k⟩
theorem segM_nil {t : List Pd} {r : List (List Pd)} {cs : List Nat} : SegM ([] :: t :: r) cs ↔ SegT (t :: r) cs := by
  constructor
  · rintro ⟨x, b, e, h, k⟩
    cases x with
    | nil => rw [e]; exact k
    | cons _ _ => exact h.elim
  · intro k
    exact ⟨[], cs, rfl, trivial, k⟩
theorem segM_cons {q : Pd} {s : List Pd} : ∀ {t : List (List Pd)} {cs : List Nat}, SegM ((q :: s) :: t) cs ↔ ∃ c cs', cs = c :: cs' ∧ q c = true ∧ SegM (s :: t) cs'
  | [], [] => ⟨fun h => h.elim, fun ⟨_, _, e, _⟩ => (by cases e)⟩
  | [], c :: cs => ⟨fun h => ⟨c, cs, rfl, h.1, h.2⟩, fun ⟨c', cs', e, h, k⟩ => by cases e; exact ⟨h, k⟩⟩
  | t :: r, cs => by
    constructor
    · rintro ⟨x, b, e, h, k⟩
      cases x with
      | nil => exact h.elim
      | cons c x => exact ⟨c, x ++ b, e, h.1, x, b, rfl, h.2, k⟩
    · rintro ⟨c, cs', e, h, x, b, e', k, m⟩
      exact ⟨c :: x, b, by rw [e, e']; rfl, ⟨h, k⟩, m⟩
theorem seg_merge : ∀ (l : List (Option Pd)) (cs : List Nat), (SegM ((grpM false l).1 :: (grpM false l).2) cs ↔ SegM (segO l) cs) ∧ (SegT ((grpM true l).1 :: (grpM true l).2) cs ↔ SegT (segO l) cs)
  | [], cs => ⟨Iff.rfl, Iff.rfl⟩
  | some q :: r, cs => by
    obtain ⟨s, t, e⟩ := segO_ne r
    have h : ∀ cs, SegM ((q :: (grpM false r).1) :: (grpM false r).2) cs ↔ SegM ((q :: s) :: t) cs := by
      intro cs
      rw [segM_cons, segM_cons]
      constructor
      · rintro ⟨c, cs', e1, e2, k⟩; exact ⟨c, cs', e1, e2, by rw [← e]; exact (seg_merge r cs').1.mp k⟩
      · rintro ⟨c, cs', e1, e2, k⟩; exact ⟨c, cs', e1, e2, (seg_merge r cs').1.mpr (by rw [e]; exact k)⟩
    rw [grpM_some, grpM_some, segO_some e]
    refine ⟨h cs, ?_⟩
    rw [segT_iff, segT_iff]
    constructor
    · rintro ⟨a, b, e1, k⟩; exact ⟨a, b, e1, (h b).mp k⟩
    · rintro ⟨a, b, e1, k⟩; exact ⟨a, b, e1, (h b).mpr k⟩
  | none :: r, cs => by
    obtain ⟨s, t, e⟩ := segO_ne r
    have h := (seg_merge r cs).2
    constructor
    · show SegM ([] :: (grpM true r).1 :: (grpM true r).2) cs ↔ SegM ([] :: segO r) cs
      rw [e, segM_nil, segM_nil, ← e]; exact h
    · show SegT ((grpM true r).1 :: (grpM true r).2) cs ↔ SegT ([] :: segO r) cs
      rw [e, segT_skip, ← e]; exact h
theorem fitX_congr {α : Type} {f f' : α → Pd} {S : Nat → Prop} : ∀ {g : List α} {x : List Nat}, (∀ a ∈ g, ∀ c, S c → f a c = f' a c) → (∀ c ∈ x, S c) → (FitX (g.map f) x ↔ FitX (g.map f') x)
  | [], [], _, _ => Iff.rfl
  | [], _ :: _, _, _ => Iff.rfl
  | _ :: _, [], _, _ => Iff.rfl
  | a :: g, c :: x, h, hs => by
    have h1 := h a (.head _) c (hs c (.head _))
    have h2 := fitX_congr (g := g) (x := x) (fun a ha => h a (.tail _ ha)) (fun c hc => hs c (.tail _ hc))
    show (f a c = true ∧ _) ↔ (f' a c = true ∧ _)
    rw [h1, h2]
theorem segT_congr {α : Type} {f f' : α → Pd} {S : Nat → Prop} : ∀ {gs : List (List α)} {cs : List Nat}, (∀ g ∈ gs, ∀ a ∈ g, ∀ c, S c → f a c = f' a c) → (∀ c ∈ cs, S c) → (SegT (gs.map (List.map f)) cs → SegT (gs.map (List.map f')) cs)
  | [], cs, _, _, h => h
  | [s], cs, h, hs, ⟨a, x, e, k⟩ => ⟨a, x, e, (fitX_congr (h s (.head _)) (fun c hc => hs c (by rw [e]; simp [hc]))).mp k⟩
  | s :: t :: r, cs, h, hs, ⟨a, x, b, e, k, m⟩ => ⟨a, x, b, e, (fitX_congr (h s (.head _)) (fun c hc => hs c (by rw [e]; simp [hc]))).mp k,
      segT_congr (gs := t :: r) (fun g hg => h g (.tail _ hg)) (fun c hc => hs c (by rw [e]; simp [hc])) m⟩
theorem segM_congr {α : Type} {f f' : α → Pd} {S : Nat → Prop} : ∀ {gs : List (List α)} {cs : List Nat}, (∀ g ∈ gs, ∀ a ∈ g, ∀ c, S c → f a c = f' a c) → (∀ c ∈ cs, S c) → (SegM (gs.map (List.map f)) cs → SegM (gs.map (List.map f')) cs)
  | [], cs, _, _, h => h
  | [s], cs, h, hs, k => (fitX_congr (h s (.head _)) hs).mp k
  | s :: t :: r, cs, h, hs, ⟨x, b, e, k, m⟩ => ⟨x, b, e, (fitX_congr (h s (.head _)) (fun c hc => hs c (by rw [e]; simp [hc]))).mp k,
      segT_congr (gs := t :: r) (fun g hg => h g (.tail _ hg)) (fun c hc => hs c (by rw [e]; simp [hc])) m⟩
theorem segO_map {α β : Type} (f : α → β) : ∀ l : List (Option α), segO (l.map (Option.map f)) = (segO l).map (List.map f)
  | [] => rfl
  | none :: r => by show [] :: segO (r.map (Option.map f)) = _; rw [segO_map f r]; rfl
  | some p :: r => by
    obtain ⟨s, t, e⟩ := segO_ne r
    have e' : segO (r.map (Option.map f)) = s.map f :: t.map (List.map f) := by rw [segO_map f r, e]; rfl
    rw [segO_some e]
    show segO (some (f p) :: r.map (Option.map f)) = _
    rw [segO_some e']; rfl
theorem segO_mem {α : Type} : ∀ {l : List (Option α)} {g : List α} {a : α}, g ∈ segO l → a ∈ g → some a ∈ l
  | [], g, a, hg, ha => by
    cases List.mem_singleton.mp hg; cases ha
  | none :: r, g, a, hg, ha => by
    rcases List.mem_cons.mp hg with rfl | hg
    · cases ha
    · exact .tail _ (segO_mem hg ha)
  | some p :: r, g, a, hg, ha => by
    obtain ⟨s, t, e⟩ := segO_ne r
    rw [segO_some e] at hg
    rcases List.mem_cons.mp hg with rfl | hg
    · rcases List.mem_cons.mp ha with rfl | ha
      · exact .head _
      · exact .tail _ (segO_mem (by rw [e]; exact .head _) ha)
    · exact .tail _ (segO_mem (by rw [e]; exact .tail _ hg) ha)
noncomputable def optI (i : Item) : Option Item := if i.written = [42] then none else some i
noncomputable abbrev accI (i : Item) : Pd := unitFits (i.barred, i.spans)
noncomputable def ChX (sn : List Nat) : List Item → List Nat → Prop
  | [], [] => True
  | i :: is, s :: x => s ∈ sn ∧ accI i s = true ∧ ChX sn is x
  | _, _ => False
noncomputable def ChS (sn : List Nat) : List (List Item) → List (List Nat) → Prop
  | [], [] => True
  | g :: gs, c :: cs => ChX sn g c ∧ ChS sn gs cs
  | _, _ => False
theorem mem_wantStep {name : List Nat} {ws : List (List Nat)} {i : Item} {w : List Nat} : w ∈ wantStep name ws i ↔ if i.written = [42] then ∃ w0 ∈ ws, w = w0 ++ [46, 46, 46] else ∃ w0 ∈ ws, ∃ s, s ∈ signsS name ∧ accI i s = true ∧ w = w0 ++ [s] := by
  unfold wantStep
  by_cases h : i.written = [42]
  · rw [if_pos h, if_pos h]
    simp only [List.mem_map]
    exact ⟨fun ⟨w0, h1, h2⟩ => ⟨w0, h1, h2.symm⟩, fun ⟨w0, h1, h2⟩ => ⟨w0, h1, h2.symm⟩⟩
  · rw [if_neg h, if_neg h]
    simp only [List.mem_flatten, List.mem_map]
    constructor
    · rintro ⟨l, ⟨w0, h1, rfl⟩, h2⟩
      obtain ⟨s, h3, h4⟩ := List.mem_map.mp h2
      obtain ⟨h5, h6⟩ := List.mem_filter.mp h3
      exact ⟨w0, h1, s, h5, h6, h4.symm⟩
    · rintro ⟨w0, h1, s, h5, h6, h4⟩
      exact ⟨_, ⟨w0, h1, rfl⟩, List.mem_map.mpr ⟨s, List.mem_filter.mpr ⟨h5, h6⟩, h4.symm⟩⟩
theorem dots_cons {s : List Nat} {t : List (List Nat)} (h : t ≠ []) : dots (s :: t) = s ++ [46, 46, 46] ++ dots t := by
  cases t with
  | nil => exact absurd rfl h
  | cons a r => rfl
theorem dots_push (x : Nat) (s : List Nat) (t : List (List Nat)) : dots ((x :: s) :: t) = x :: dots (s :: t) := by
  cases t with
  | nil => rfl
  | cons a r => rfl
theorem chS_ne {sn : List Nat} {gs : List (List Item)} {cs : List (List Nat)} (h : ChS sn gs cs) (hg : gs ≠ []) : cs ≠ [] := by
  intro e; subst e
  cases gs with
  | nil => exact hg rfl
  | cons _ _ => exact h
theorem wants_iff {name : List Nat} : ∀ (is : List Item) (ws : List (List Nat)) (w : List Nat), w ∈ is.foldl (wantStep name) ws ↔ ∃ w0 ∈ ws, ∃ css, ChS (signsS name) (segO (is.map optI)) css ∧ w = w0 ++ dots css
  | [], ws, w => by
    constructor
    · intro h; exact ⟨w, h, [[]], ⟨trivial, trivial⟩, by simp [dots]⟩
    · rintro ⟨w0, h, css, hc, e⟩
      match css, hc with
      | [[]], _ => simpa [dots, e] using h
  | i :: is, ws, w => by
    rw [List.foldl_cons, wants_iff is]
    obtain ⟨s, t, es⟩ := segO_ne (is.map optI)
    constructor
    · rintro ⟨w1, hw1, css, hc, e⟩
      rw [mem_wantStep] at hw1
      by_cases h : i.written = [42]
      · rw [if_pos h] at hw1
        obtain ⟨w0, hw0, e0⟩ := hw1
        have : optI i = none := by unfold optI; rw [if_pos h]
        refine ⟨w0, hw0, [] :: css, ?_, ?_⟩
        · rw [List.map_cons, this]; exact ⟨trivial, hc⟩
        · rw [dots_cons (chS_ne hc (by rw [es]; simp)), e, e0]; simp
      · rw [if_neg h] at hw1
        obtain ⟨w0, hw0, x, hx1, hx2, e0⟩ := hw1
        have : optI i = some i := by unfold optI; rw [if_neg h]
        rw [es] at hc
        match css, hc with
        | c :: cs, hc =>
        refine ⟨w0, hw0, (x :: c) :: cs, ?_, ?_⟩
        · rw [List.map_cons, this, segO_some es]; exact ⟨⟨hx1, hx2, hc.1⟩, hc.2⟩
        · rw [dots_push, e, e0]; simp
    · rintro ⟨w0, hw0, css, hc, e⟩
      by_cases h : i.written = [42]
      · have : optI i = none := by unfold optI; rw [if_pos h]
        rw [List.map_cons, this] at hc
        match css, hc with
        | [] :: cs, hc =>
        refine ⟨w0 ++ [46, 46, 46], ?_, cs, hc.2, ?_⟩
        · rw [mem_wantStep, if_pos h]; exact ⟨w0, hw0, rfl⟩
        · rw [e, dots_cons (chS_ne hc.2 (by rw [es]; simp))]; simp
      · have : optI i = some i := by unfold optI; rw [if_neg h]
        rw [List.map_cons, this, segO_some es] at hc
        match css, hc with
        | (x :: c) :: cs, hc =>
        refine ⟨w0 ++ [x], ?_, c :: cs, by rw [es]; exact ⟨hc.1.2.2, hc.2⟩, ?_⟩
        · rw [mem_wantStep, if_neg h]; exact ⟨w0, hw0, x, hc.1.1, hc.1.2.1, rfl⟩
        · rw [e, dots_push]; simp
noncomputable abbrev litP (c : Nat) : Pd := fun d => d == c
theorem fitX_lit : ∀ {c x : List Nat}, FitX (c.map litP) x ↔ x = c
  | [], [] => ⟨fun _ => rfl, fun _ => trivial⟩
  | [], _ :: _ => ⟨fun h => h.elim, fun h => by cases h⟩
  | _ :: _, [] => ⟨fun h => h.elim, fun h => by cases h⟩
  | c :: cs, d :: x => by
    show ((d == c) = true ∧ _) ↔ _
    rw [fitX_lit, beq_iff_eq, List.cons.injEq]
theorem chX_fit {sn : List Nat} : ∀ {g : List Item} {c : List Nat}, ChX sn g c → FitX (g.map accI) c
  | [], [], _ => trivial
  | i :: g, s :: x, h => ⟨h.2.1, chX_fit h.2.2⟩
theorem fit_chX {sn : List Nat} : ∀ {g : List Item} {c : List Nat}, FitX (g.map accI) c → (∀ d ∈ c, d ∈ sn) → ChX sn g c
  | [], [], _, _ => trivial
  | [], _ :: _, h, _ => h.elim
  | _ :: _, [], h, _ => h.elim
  | i :: g, s :: x, h, hs => ⟨hs s (.head _), h.1, fit_chX h.2 fun d hd => hs d (.tail _ hd)⟩
noncomputable abbrev lits (css : List (List Nat)) : List (List Pd) := css.map (List.map litP)
noncomputable abbrev accs (gs : List (List Item)) : List (List Pd) := gs.map (List.map accI)
theorem choiceT {sn : List Nat} : ∀ {gs : List (List Item)} {cs : List Nat}, (∀ d ∈ cs, d ∈ sn) → ((∃ css, ChS sn gs css ∧ SegT (lits css) cs) ↔ SegT (accs gs) cs)
  | [], cs, hs => ⟨fun ⟨css, h, k⟩ => by
      match css, h with
      | [], _ => exact k, fun h => h.elim⟩
  | [g], cs, hs => by
    constructor
    · rintro ⟨css, h, k⟩
      match css, h with
      | [c], h =>
      obtain ⟨a, x, e, k⟩ := k
      have := fitX_lit.mp k
      subst this
      exact ⟨a, x, e, chX_fit h.1⟩
    · rintro ⟨a, x, e, k⟩
      exact ⟨[x], ⟨fit_chX k fun d hd => hs d (by rw [e]; simp [hd]), trivial⟩, a, x, e, fitX_lit.mpr rfl⟩
  | g :: h :: r, cs, hs => by
    constructor
    · rintro ⟨css, hc, k⟩
      match css, hc with
      | c :: d :: cs', hc =>
      obtain ⟨a, x, b, e, k, m⟩ := k
      have := fitX_lit.mp k
      subst this
      exact ⟨a, x, b, e, chX_fit hc.1, (choiceT (gs := h :: r) fun d hd => hs d (by rw [e]; simp [hd])).mp ⟨d :: cs', hc.2, m⟩⟩
    · rintro ⟨a, x, b, e, k, m⟩
      obtain ⟨css, h1, h2⟩ := (choiceT (gs := h :: r) fun d hd => hs d (by rw [e]; simp [hd])).mpr m
      match css, h1 with
      | d :: cs', h1 => exact ⟨x :: d :: cs', ⟨fit_chX k fun d hd => hs d (by rw [e]; simp [hd]), h1⟩, a, x, b, e, fitX_lit.mpr rfl, h2⟩
theorem choiceM {sn : List Nat} : ∀ {gs : List (List Item)} {cs : List Nat}, (∀ d ∈ cs, d ∈ sn) → ((∃ css, ChS sn gs css ∧ SegM (lits css) cs) ↔ SegM (accs gs) cs)
  | [], cs, hs => ⟨fun ⟨css, h, k⟩ => by
      match css, h with
      | [], _ => exact k, fun h => h.elim⟩
  | [g], cs, hs => by
    constructor
    · rintro ⟨css, h, k⟩
      match css, h with
      | [c], h =>
      have := fitX_lit.mp k
      subst this
      exact chX_fit h.1
    · intro k
      exact ⟨[cs], ⟨fit_chX k hs, trivial⟩, fitX_lit.mpr rfl⟩
  | g :: h :: r, cs, hs => by
    constructor
    · rintro ⟨css, hc, k⟩
      match css, hc with
      | c :: d :: cs', hc =>
      obtain ⟨x, b, e, k, m⟩ := k
      have := fitX_lit.mp k
      subst this
      exact ⟨x, b, e, chX_fit hc.1, (choiceT (gs := h :: r) fun d hd => hs d (by rw [e]; simp [hd])).mp ⟨d :: cs', hc.2, m⟩⟩
    · rintro ⟨x, b, e, k, m⟩
      obtain ⟨css, h1, h2⟩ := (choiceT (gs := h :: r) fun d hd => hs d (by rw [e]; simp [hd])).mpr m
      match css, h1 with
      | d :: cs', h1 => exact ⟨x :: d :: cs', ⟨fit_chX k fun d hd => hs d (by rw [e]; simp [hd]), h1⟩, x, b, e, fitX_lit.mpr rfl, h2⟩
end LL
end

section
open PySem PySem.W PySem.Calls PyProof.Rows
set_option Elab.async false
set_option maxRecDepth 100000
set_option maxHeartbeats 4000000
set_option linter.unusedVariables false
set_option linter.unusedSimpArgs false
set_option pp.deepTerms false
set_option pp.maxSteps 160
namespace LL
section
variable {g : GC} {F : FC} {n : Nat} {σ : LS}

theorem nn0 : (0 : Int) = ((0 : Nat) : Int) := rfl
theorem nn1 : (1 : Int) = ((1 : Nat) : Int) := rfl
theorem nn2 : (2 : Int) = ((2 : Nat) : Int) := rfl
theorem nn3 : (3 : Int) = ((3 : Nat) : Int) := rfl
theorem nn4 : (4 : Int) = ((4 : Nat) : Int) := rfl
theorem nn5 : (5 : Int) = ((5 : Nat) : Int) := rfl
theorem nn6 : (6 : Int) = ((6 : Nat) : Int) := rfl
theorem nn7 : (7 : Int) = ((7 : Nat) : Int) := rfl
theorem nn8 : (8 : Int) = ((8 : Nat) : Int) := rfl
theorem nn9 : (9 : Int) = ((9 : Nat) : Int) := rfl
theorem nn10 : (10 : Int) = ((10 : Nat) : Int) := rfl
theorem nn11 : (11 : Int) = ((11 : Nat) : Int) := rfl
theorem nn12 : (12 : Int) = ((12 : Nat) : Int) := rfl
theorem ls0 : (Str.ofString ".").cps.toList = [46] := by decide
theorem ls1 : (Str.ofString "(?!)").cps.toList = [40, 63, 33, 41] := by decide
theorem ls2 : (Str.ofString "[").cps.toList = [91] := by decide
theorem ls3 : (Str.ofString "\\").cps.toList = [92] := by decide
theorem ls4 : (Str.ofString "$()*+?^{|").cps.toList = [36, 40, 41, 42, 43, 63, 94, 123, 124] := by decide
theorem ls5 : (Str.ofString "aAbBdDfnNrsStuUvwWxZ0123456789").cps.toList = [97, 65, 98, 66, 100, 68, 102, 110, 78, 114, 115, 83, 116, 117, 85, 118, 119, 87, 120, 90, 48, 49, 50, 51, 52, 53, 54, 55, 56, 57] := by decide
theorem ls6 : (Str.ofString "^").cps.toList = [94] := by decide
theorem ls7 : (Str.ofString "]").cps.toList = [93] := by decide
theorem ls8 : (Str.ofString "-").cps.toList = [45] := by decide
theorem ls9 : (Str.ofString "(?s:").cps.toList = [40, 63, 115, 58] := by decide
theorem ls10 : (Str.ofString ")\\Z").cps.toList = [41, 92, 90] := by decide
theorem ls11 : (Str.ofString "one").cps.toList = [111, 110, 101] := by decide
theorem ls12 : (Str.ofString "(?>.*?").cps.toList = [40, 63, 62, 46, 42, 63] := by decide
theorem ls13 : (Str.ofString ")").cps.toList = [41] := by decide
theorem ls14 : (Str.ofString "held").cps.toList = [104, 101, 108, 100] := by decide
theorem ls15 : (Str.ofString ".*").cps.toList = [46, 42] := by decide
theorem ls16 : (Str.ofString "run").cps.toList = [114, 117, 110] := by decide
theorem ls17 : (Str.ofString "abc^&\\-][~").cps.toList = [97, 98, 99, 94, 38, 92, 45, 93, 91, 126] := by decide
theorem ls18 : (Str.ofString "*").cps.toList = [42] := by decide
theorem ls19 : (Str.ofString "?").cps.toList = [63] := by decide
theorem ls20 : (Str.ofString "ab^&").cps.toList = [97, 98, 94, 38] := by decide
theorem ls21 : (Str.ofString "a").cps.toList = [97] := by decide
theorem ls22 : (Str.ofString "&").cps.toList = [38] := by decide
theorem ls23 : (Str.ofString "a-b").cps.toList = [97, 45, 98] := by decide
theorem ls24 : (Str.ofString "b-c").cps.toList = [98, 45, 99] := by decide
theorem ls25 : (Str.ofString "^-a").cps.toList = [94, 45, 97] := by decide
theorem ls26 : (Str.ofString "b-a").cps.toList = [98, 45, 97] := by decide
theorem ls27 : (Str.ofString "~").cps.toList = [126] := by decide
theorem ls28 : (Str.ofString "").cps.toList = [] := by decide
theorem ls29 : (Str.ofString "!").cps.toList = [33] := by decide
theorem ls30 : (Str.ofString "[!b-a]").cps.toList = [91, 33, 98, 45, 97, 93] := by decide
theorem ls31 : (Str.ofString "b").cps.toList = [98] := by decide
theorem ls32 : (Str.ofString "c").cps.toList = [99] := by decide
theorem ls33 : (Str.ofString "...").cps.toList = [46, 46, 46] := by decide
theorem ls34 : (Str.ofString "\\[").cps.toList = [92, 91] := by decide
theorem ls35 : (Str.ofString "\\\\").cps.toList = [92, 92] := by decide
theorem ls36 : (Str.ofString "\\-").cps.toList = [92, 45] := by decide
theorem ls37 : (Str.ofString "(?>").cps.toList = [40, 63, 62] := by decide

section
theorem te_weak {e e' : List (Str × Loc × LV)} {c : List (Addr × Ct)} {t : Expr} {Φ : Bool → LS → Prop} (w : Weak e e') (h : TeW g F n ⟨e', c⟩ t Φ) : TeW g F n ⟨e, c⟩ t Φ :=
  ⟨fun A P s Q E r S q => h |>.run A P s Q E r (S.weak w) q⟩
theorem ow_some {e : Expr} {Φ : LV → LS → Prop} (h : EvW g F n σ e Φ) : OpW g F n σ (some e) Φ := h
theorem ow_none {Φ : LV → LS → Prop} (h : Φ .none σ) : OpW g F n σ none Φ := h
theorem then_ret {rest : List Stmt} {Φ : LFl → LS → Prop} {v : LV} (h : Φ (.ret v) σ) : Then g F n rest Φ (.ret v) σ := h
theorem then_next {rest : List Stmt} {Φ : LFl → LS → Prop} (h : ExW g F n σ rest Φ) : Then g F n rest Φ .next σ := h
theorem bool_ex {b : Bool} {K : Bool → Prop} (h : K b) : ∃ c, LV.bool b = .bool c ∧ K c := ⟨b, rfl, h⟩
theorem way_t {b : Bool} {K L : Prop} (hb : b = true) (h : K) : (b = true → K) ∧ (b = false → L) := ⟨fun _ => h, fun e => by rw [hb] at e; cases e⟩
theorem way_f {b : Bool} {K L : Prop} (hb : b = false) (h : L) : (b = true → K) ∧ (b = false → L) := ⟨fun e => (by rw [hb] at e; cases e), fun _ => h⟩
theorem asgX {e e' : List (Str × Loc × LV)} {c : List (Addr × Ct)} {x : Str} {l : Loc} {lv : LV} {rest : List Stmt} {Φ : LFl → LS → Prop} (u : Upd e x l lv e') (hl : l = .local ∨ l = .own) (h : ExW g F n ⟨e', c⟩ rest Φ) :
    ∃ l e₁, Upd (LS.env ⟨e, c⟩) x l lv e₁ ∧ (l = .local ∨ l = .own) ∧ ExW g F n ⟨e₁, LS.cells ⟨e, c⟩⟩ rest Φ := ⟨l, e', u, hl, h⟩
theorem as_nameX {e e' : List (Str × Loc × LV)} {c : List (Addr × Ct)} {x : Str} {pos : Pos} {l : Loc} {lv : LV} {Φ : LS → Prop} (u : Upd e x l lv e') (hl : l = .local ∨ l = .own) (h : Φ ⟨e', c⟩) : AsW g F n ⟨e, c⟩ (.Name x pos) lv Φ := as_name ⟨l, e', u, hl, h⟩
theorem ex_newlistX {e : List (Str × Loc × LV)} {c : List (Addr × Ct)} {x : Str} {p lp pos : Pos} {rest : List Stmt} {Φ : LFl → LS → Prop}
    (h : ∀ a, ∃ l e', Upd e x l (.raw (.ref a)) e' ∧ (l = .local ∨ l = .own) ∧ ExW g F n ⟨e', (a, .lst []) :: c⟩ rest Φ) : ExW g F n ⟨e, c⟩ (.Assign [.Name x p] (.List [] lp) pos :: rest) Φ := ex_newlist h
theorem asgN {e e' : List (Str × Loc × LV)} {c : List (Addr × Ct)} {x : Str} {l : Loc} {lv : LV} {rest : List Stmt} {Φ : LFl → LS → Prop} (u : Upd e x l lv e') (hl : l = .local ∨ l = .own) (h : ExW g F n ⟨e', c⟩ rest Φ) :
    ∃ l e₁, Upd e x l lv e₁ ∧ (l = .local ∨ l = .own) ∧ ExW g F n ⟨e₁, c⟩ rest Φ := ⟨l, e', u, hl, h⟩
inductive Has : List (Str × Loc × LV) → Str → Loc → LV → Prop where
  | head {x l lv r} : Has ((x, l, lv) :: r) x l lv
  | tail {p r x l lv} : Has r x l lv → Has (p :: r) x l lv
theorem Has.mem {e : List (Str × Loc × LV)} {x : Str} {l : Loc} {lv : LV} (h : Has e x l lv) : (x, l, lv) ∈ e := by
  induction h with
  | head => exact .head _
  | tail _ ih => exact .tail _ ih
theorem ev_nameH {e : List (Str × Loc × LV)} {c : List (Addr × Ct)} {x : Str} {pos : Pos} {l : Loc} {lv : LV} {Φ : LV → LS → Prop} (hm : Has e x l lv) (hu : lv ≠ .undef) (h : Φ lv ⟨e, c⟩) : EvW g F n ⟨e, c⟩ (.Name x pos) Φ := ev_name hm.mem hu h
theorem ex_augH {e : List (Str × Loc × LV)} {c : List (Addr × Ct)} {x : Str} {p pos : Pos} {op : Operator} {t : Expr} {rest : List Stmt} {Φ : LFl → LS → Prop} {l0 : Loc} {a : LV} (hm : Has e x l0 a) (hu : a ≠ .undef)
    (h : EvW g F n ⟨e, c⟩ t fun b σ₁ => PrW g n [a, b] (fun vs => inplaceOp op (vs.getD 0 .none) (vs.getD 1 .none)) fun lv => ∃ l env', Upd σ₁.env x l lv env' ∧ (l = .local ∨ l = .own) ∧ ExW g F n ⟨env', σ₁.cells⟩ rest Φ) : ExW g F n ⟨e, c⟩ (.AugAssign (.Name x p) op t pos :: rest) Φ := ex_aug hm.mem hu h
theorem nu_str {x : List Nat} : LV.str x ≠ .undef := nofun
theorem nu_int {x : Int} : LV.int x ≠ .undef := nofun
theorem nu_bool {x : Bool} : LV.bool x ≠ .undef := nofun
theorem nu_raw {x : Value} : LV.raw x ≠ .undef := nofun
theorem nu_obj {x : Obj} : LV.obj x ≠ .undef := nofun
theorem nu_tup {x : List LV} : LV.tup x ≠ .undef := nofun
theorem nu_lst {x : List LV} : LV.lst x ≠ .undef := nofun
theorem lenOk {l : List LV} {K : Prop} (h : Nat.ble l.length 1000000 = true) (k : K) : l.length ≤ 1000000 ∧ K := ⟨Nat.le_of_ble_eq_true h, k⟩
theorem ex_append {e : List (Str × Loc × LV)} {c : List (Addr × Ct)} {x : Str} {xp apos pos spos : Pos} {arg : Expr} {rest : List Stmt} {l0 : Loc} {a : Addr} {Φ : LFl → LS → Prop} (hst : isStarred arg = false) (hline : (apos.endLine == pos.line) = true) (hm : Has e x l0 (.raw (.ref a))) (hin : ∃ l, (a, Ct.lst l) ∈ c)
    (h : EvW g F n ⟨e, c⟩ arg fun v σ₁ => ∃ l c', CUpd σ₁.cells a (.lst l) (.lst (l ++ [v])) c' ∧ l.length ≤ 1000000 ∧ ExW g F n ⟨σ₁.env, c'⟩ rest Φ) : ExW g F n ⟨e, c⟩ (.Expr (.Call (.Attribute (.Name x xp) "append" apos) [arg] [] pos) spos :: rest) Φ := by
  refine ex_expr rfl (ev_meth (T := "list") (id := "list.append") (by simp [unstarred, hst]) rfl (by simp) hline PySem.F.plainAttrs_list slot_list_append rfl (ev_name hm.mem nu_raw ⟨?_, ?_⟩))
  · obtain ⟨l, hl⟩ := hin; exact ty_cell hl
  · refine es_cons hst ?_
    refine h.mono fun v σ₁ ⟨l, c', u, hn, k⟩ => es_nil ?_
    exact ca_append u hn k
theorem apX {e : List (Str × Loc × LV)} {c c' : List (Addr × Ct)} {a : Addr} {l : List LV} {v : LV} {rest : List Stmt} {Φ : LFl → LS → Prop} (u : CUpd c a (.lst l) (.lst (l ++ [v])) c') (hn : l.length ≤ 1000000) (h : ExW g F n ⟨e, c'⟩ rest Φ) :
    ∃ l c₁, CUpd (LS.cells ⟨e, c⟩) a (.lst l) (.lst (l ++ [v])) c₁ ∧ l.length ≤ 1000000 ∧ ExW g F n ⟨LS.env ⟨e, c⟩, c₁⟩ rest Φ := ⟨l, c', u, hn, h⟩
theorem all2_map {α β γ : Type} {R : β → γ → Prop} {f : α → β} {f' : α → γ} : ∀ {l : List α}, (∀ x ∈ l, R (f x) (f' x)) → All2 R (l.map f) (l.map f')
  | [], _ => .nil
  | x :: l, h => .cons (h x (.head _)) (all2_map fun y hy => h y (.tail _ hy))
theorem flat_one {α β : Type} (f : α → β) : ∀ l : List α, (l.map fun x => [f x]).flatten = l.map f
  | [] => rfl
  | x :: l => by simp [flat_one f l]
theorem lt_one (a b : Nat) : decide ([a] < [b]) = decide (a < b) := by
  rw [decide_eq_decide, List.cons_lt_cons_iff]
  simp
theorem seq_t {a b : Nat} (h : a = b) : ([a] == [b]) = true := by simp [h]
theorem seq_f {a b : Nat} (h : ¬ a = b) : ([a] == [b]) = false := by simp [h]
theorem sne_t {a b : Nat} (h : ¬ a = b) : ([a] != [b]) = true := by simp [h]
theorem sne_f {a b : Nat} (h : a = b) : ([a] != [b]) = false := by simp [h]
theorem sne_f' {a b : Nat} (h : ¬ a ≠ b) : ([a] != [b]) = false := by simp [Decidable.not_not.mp h]
theorem pr_sgt1 {a b : Nat} {Φ : LV → Prop} (h : Φ (.bool (decide (b < a)))) : PrW g n [.str [a], .str [b]] (cmp .Gt) Φ := pr_sgt (by rw [lt_one]; exact h)
theorem pr_sle1 {a b : Nat} {Φ : LV → Prop} (h : Φ (.bool (decide (a ≤ b)))) : PrW g n [.str [a], .str [b]] (cmp .LtE) Φ := pr_sle (by
  rw [lt_one]
  have : (!decide (b < a)) = decide (a ≤ b) := by rw [Bool.eq_iff_iff]; simp
  rw [this]; exact h)
theorem cl_last {elt : Expr} {e e₀ : List (Str × Loc × LV)} {out : List LV} (h : ∀ c, EvW g F n ⟨e, c⟩ elt fun y σ₂ => out = [y] ∧ σ₂.cells = c ∧ Weak σ₂.env e₀) : ClW g F n elt [] [] e out e₀ := fun c => ⟨fun _ => h c, (fun e => nomatch e)⟩
theorem cl_if {elt t : Expr} {e e₀ : List (Str × Loc × LV)} {out : List LV} (h : ∀ c, TeW g F n ⟨e, c⟩ t fun b σ₁ => (b = true → EvW g F n σ₁ elt fun y σ₂ => out = [y] ∧ σ₂.cells = c ∧ Weak σ₂.env e₀) ∧ (b = false → out = [] ∧ σ₁.cells = c ∧ Weak σ₁.env e₀)) : ClW g F n elt [] [t] e out e₀ :=
  fun c => (h c).mono fun b σ₁ k => ⟨fun e => ⟨fun _ => k.1 e, (fun z => nomatch z)⟩, fun e => ⟨(fun z => nomatch z), fun _ => k.2 e⟩⟩
theorem yaw_f {b : Bool} {K L : Prop} (hb : b = false) (h : K) : (b = false → K) ∧ (b = true → L) := ⟨fun _ => h, fun e => (by rw [hb] at e; cases e)⟩
theorem yaw_t {b : Bool} {K L : Prop} (hb : b = true) (h : L) : (b = false → K) ∧ (b = true → L) := ⟨fun e => (by rw [hb] at e; cases e), fun _ => h⟩
inductive CompGo (g : GC) (n : Nat) (gt : Str → Option LV) (target elt : Expr) (ifs : List Expr) (gs : List Comprehension) (names : List (Str × NameKind)) (lv : LV) (σ₁ : LS) (K : LV → LS → Prop) : Prop
  | mk (items : List LV) (outs : List (List LV)) (e₀ : List (Str × Loc × LV)) (he : baseEnv σ₁.env gt names = e₀) (hit : ItW g n target lv items) (hl : outs.flatten.length ≤ 1000000)
    (each : ∀ F' : FC, All2 (fun x out => ∀ c', AsW g F' n ⟨e₀, c'⟩ target x fun σ₃ => σ₃.cells = c' ∧ ClW g F' n elt gs ifs σ₃.env out e₀) items outs) (hK : K (.lst outs.flatten) σ₁)
theorem ev_compX {elt target iter : Expr} {ifs : List Expr} {gs : List Comprehension} {scope : Scope} {pos : Pos} {gt : Str → Option LV} {Φ : LV → LS → Prop} (hgt : GtOk g gt) (hok : namesOk scope.names = true) (hk : scope.kind = .function)
    (hs : ∀ x, foldedSetIterable iter F.env x = pure x) (hfree : freeOk scope.names σ.env = true)
    (h : EvW g F n σ iter fun lv σ₁ => CompGo g n gt target elt ifs gs scope.names lv σ₁ Φ) :
    EvW g F n σ (.ListComp elt (⟨target, iter, ifs, 0⟩ :: gs) scope pos) Φ :=
  ev_comp hgt hok hk hs hfree (h.mono fun lv σ₁ ⟨items, outs, e₀, he, h1, h2, h3, h4⟩ => ⟨items, outs, h1, h2, he ▸ h3, h4⟩)
theorem ex_compX {elt target iter : Expr} {ifs : List Expr} {gs : List Comprehension} {scope : Scope} {pos spos py : Pos} {y : Str} {rest : List Stmt} {gt : Str → Option LV} {Φ : LFl → LS → Prop} {w : LV} (hm : Has σ.env y .local w) (hst : (py.line == pos.line && !(scope.names.any fun p => p.1 == y && (p.2 == .local || p.2 == .cell))) = true)
    (hgt : GtOk g gt) (hok : namesOk scope.names = true) (hk : scope.kind = .function)
    (hs : ∀ x, foldedSetIterable iter F.env x = pure x) (hfree : freeOk scope.names σ.env = true)
    (h : EvW g F n σ iter fun lv σ₁ => CompGo g n gt target elt ifs gs scope.names lv σ₁ fun w σ₁ => ∃ l env', Upd σ₁.env y l w env' ∧ (l = .local ∨ l = .own) ∧ ExW g F n ⟨env', σ₁.cells⟩ rest Φ) :
    ExW g F n σ (.Assign [.Name y py] (.ListComp elt (⟨target, iter, ifs, 0⟩ :: gs) scope pos) spos :: rest) Φ :=
  ex_assign_comp hm.mem hst hgt hok hk hs hfree (h.mono fun lv σ₁ ⟨items, outs, e₀, he, h1, h2, h3, h4⟩ => ⟨items, outs, h1, h2, he ▸ h3, h4⟩)
theorem assW_cons {t : Expr} {ts : List Expr} {x : LV} {xs : List LV} {Φ : LS → Prop} (h : AsW g F n σ t x fun σ' => AssW g F n σ' ts xs Φ) : AssW g F n σ (t :: ts) (x :: xs) Φ := h
theorem assW_nil {Φ : LS → Prop} (h : Φ σ) : AssW g F n σ [] [] Φ := h
theorem beq_one (a b : Nat) : ([a] == [b]) = (a == b) := by rw [Bool.eq_iff_iff]; simp
theorem ev_callN {e : List (Str × Loc × LV)} {c : List (Addr × Ct)} {fx : Str} {xp pos : Pos} {args : List Expr} {l : Loc} {f : Value} {Φ : LV → LS → Prop} (hu : unstarred args = true) (hm : Has e fx l (.raw f)) (hc : Callable g f)
    (h : EsW g F n ⟨e, c⟩ args fun as σ₂ => CaW g F n σ₂ as (fun vs => call f vs) Φ) : EvW g F n ⟨e, c⟩ (.Call (.Name fx xp) args [] pos) Φ :=
  ev_call hu rfl (ev_name hm.mem nu_raw ⟨f, rfl, hc, h⟩)
theorem ca_enumX {e : List (Str × Loc × LV)} {c : List (Addr × Ct)} {xs : List LV} {Φ : LV → LS → Prop} (h : ∀ a it, Φ (.raw (.ref a)) ⟨e, (a, .enm it 0) :: (it, .itl 0 xs) :: c⟩) : CaW g F n ⟨e, c⟩ [.lst xs] (fun vs => call (.type "enumerate") vs) Φ := ca_enum h
theorem cal_bi {id : String} : Callable g (.builtin id) := .bi id
theorem cal_ty {T : String} : Callable g (.type T) := .ty T
theorem ca_eq_nilX {e : List (Str × Loc × LV)} {c : List (Addr × Ct)} {a : Addr} {l : List LV} {Φ : LV → LS → Prop} (hm : (a, .lst l) ∈ c) (h : Φ (.bool l.isEmpty) ⟨e, c⟩) : CaW g F n ⟨e, c⟩ [.raw (.ref a), .lst []] (cmp .Eq) Φ := ca_eq_nil hm h
theorem flat_if {α β : Type} (b : α → Bool) (f : α → β) : ∀ l : List α, (l.map fun x => if b x then [f x] else []).flatten = (l.filter b).map f
  | [] => rfl
  | x :: l => by
    rw [List.map_cons, List.flatten_cons, flat_if b f l]
    cases h : b x <;> simp [h]
theorem ex_newlistF {e : List (Str × Loc × LV)} {c : List (Addr × Ct)} {x : Str} {p lp pos : Pos} {rest : List Stmt} {Φ : LFl → LS → Prop}
    (h : ∀ a, (∀ p ∈ c, p.1 ≠ a) → ∃ l e', Upd e x l (.raw (.ref a)) e' ∧ (l = .local ∨ l = .own) ∧ ExW g F n ⟨e', (a, .lst []) :: c⟩ rest Φ) : ExW g F n ⟨e, c⟩ (.Assign [.Name x p] (.List [] lp) pos :: rest) Φ := by
  refine ex_step fun A P s Q E r S q1 _ => ?_
  refine wpAny_Assign_Name (List_ (spliced_nil (wpAny_newObj_type ?_))) rfl
  have S' := S.newCell { cls := .type "list", data := .seq [].toArray } (i := .lst []) ⟨#[], ⟨0, Heap.get?_push_size _ rfl⟩, .nil⟩
  obtain ⟨l, env', u, hl, k⟩ := h s.heap.objs.size fun p hp q => (S.fresh (Heap.get?_size s.heap)).2.2 (q ▸ mem_cell F (σ := ⟨e, c⟩) hp)
  exact storeW S' u hl (.raw _) fun s' S'' => q1 P s' _ (.refl P) S'' k
end

section
noncomputable abbrev spanV (p : Nat × Nat) : LV := .tup [.str [p.1], .str [p.2]]
noncomputable abbrev unitV (u : LUnit) : LV := .tup [.bool u.1, .lst (u.2.map spanV)]
noncomputable def loopBody (p : Params) : List Stmt := loopOf ((bodyAt p 81).drop 6)
theorem span_rest {text : List Nat} {k : Nat} (hn : text.length ≤ 1000000) {barred : Bool} {a : Addr} {acc : List (Nat × Nat)} (hac : acc.length ≤ 1000000) {p : Nat × Nat} {m : Nat} (hp : span1 (text.drop k) = some (p, m)) {Φ : LFl → LS → Prop}
    (h : Φ .next ⟨([("text", .local, .str text), ("k", .local, .int (k + m : Nat)), ("bare", .local, .undef), ("off", .local, .undef), ("barred", .local, .bool barred), ("spans", .local, .raw (.ref a)), ("first", .local, .str [p.1]), ("last", .local, .str [p.2])] : List (Str × Loc × LV)), [(a, .lst (acc.map spanV ++ [spanV p]))]⟩) :
    ExW g F n ⟨([("text", .local, .str text), ("k", .local, .int k), ("bare", .local, .undef), ("off", .local, .undef), ("barred", .local, .bool barred), ("spans", .local, .raw (.ref a)), ("first", .local, .undef), ("last", .local, .undef)] : List (Str × Loc × LV)), [(a, .lst (acc.map spanV))]⟩ ((loopBody g.w.params).drop 1) Φ := by
  conv => arg 5; whnf
  have at' : ∀ i, text[k + i]? = (text.drop k)[i]? := fun i => by rw [List.getElem?_drop]
  generalize hs : text.drop k = s at hp at'
  unfold span1 at hp
  cases h0 : s[0]? with
  | none => rw [h0] at hp; cases hp
  | some c0 =>
  cases h1 : s[1]? with
  | none => rw [h0, h1] at hp; cases hp
  | some c1 =>
  rw [h0, h1] at hp
  dsimp only at hp
  have hk : text[k]? = some c0 := (at' 0).trans h0
  have hk1 : text[k + 1]? = some c1 := (at' 1).trans h1
  have hkl : k + 1 < text.length := (List.getElem?_eq_some_iff.mp hk1).1
  ((with_reducible apply ex_assign); exact rfl; (with_reducible apply ev_sub; apply ev_nameH); exact .head; (with_reducible exact nu_str; apply ev_nameH); exact .tail .head; (with_reducible exact nu_int; apply si_strN); assumption; lia; (with_reducible apply asgX); exact .tail (.tail (.tail (.tail (.tail (.tail .head))))); exact .inl rfl; (with_reducible apply ex_assign); exact rfl; (with_reducible apply ev_nameH); exact .tail (.tail (.tail (.tail (.tail (.tail .head))))); (with_reducible exact nu_str; apply asgX); exact .tail (.tail (.tail (.tail (.tail (.tail (.tail .head)))))); exact .inl rfl; (with_reducible apply ex_augH); exact .tail .head; (with_reducible exact nu_int; apply ev_nat; exact nn1; apply pr_iaddN; apply asgX); exact .tail .head; exact .inl rfl; (with_reducible apply ex_if; apply te_bool; apply al_and; apply te_compare); exact rfl; (with_reducible apply ev_sub; apply ev_nameH); exact .head; (with_reducible exact nu_str; apply ev_nameH); exact .tail .head; (with_reducible exact nu_int; apply si_strN); assumption; (exact Nat.le_trans (Nat.le_of_lt (by assumption)) (Nat.le_trans (by assumption) (by decide))); (with_reducible apply ev_strl; exact ls8; apply pr_seq; apply bool_ex))
  by_cases h45 : c1 = 45
  · rw [if_pos h45] at hp
    apply way_t; · exact seq_t h45
    cases h2 : s[2]? with
    | none => rw [h2] at hp; cases hp
    | some c2 =>
    rw [h2] at hp
    dsimp only at hp
    have hk2 : text[k + 1 + 1]? = some c2 := (at' 2).trans h2
    have hkl2 : k + 2 < text.length := (List.getElem?_eq_some_iff.mp hk2).1
    ((with_reducible apply al_and; apply te_compare); exact rfl; (with_reducible apply ev_sub; apply ev_nameH); exact .head; (with_reducible exact nu_str; apply ev_binop; apply ev_nameH); exact .tail .head; (with_reducible exact nu_int; apply ev_nat; exact nn1; apply pr_addN; apply si_strN); assumption; (exact Nat.le_trans (Nat.le_of_lt (by assumption)) (Nat.le_trans (by assumption) (by decide))); (with_reducible apply ev_strl; exact ls7; apply pr_sne; apply bool_ex))
    by_cases h93 : c2 ≠ 93
    · rw [if_pos h93] at hp
      apply way_t; · exact sne_t h93
      ((with_reducible apply al_and_nil))
      apply way_t; · rfl
      ((with_reducible apply ex_augH); exact .tail .head; (with_reducible exact nu_int; apply ev_ifexp; apply te_compare); exact rfl; (with_reducible apply ev_sub; apply ev_nameH); exact .head; (with_reducible exact nu_str; apply ev_binop; apply ev_nameH); exact .tail .head; (with_reducible exact nu_int; apply ev_nat; exact nn1; apply pr_addN; apply si_strN); assumption; (exact Nat.le_trans (Nat.le_of_lt (by assumption)) (Nat.le_trans (by assumption) (by decide))); (with_reducible apply ev_strl; exact ls3; apply pr_seq; apply bool_ex))
      by_cases h92 : c2 = 92
      · rw [if_pos h92] at hp
        apply way_t; · exact seq_t h92
        cases h3 : s[3]? with
        | none => rw [h3] at hp; cases hp
        | some d =>
        rw [h3, if_pos h92] at hp
        cases hp
        have hk3 : text[k + 1 + 2]? = some d := (at' 3).trans h3
        have hkl3 : k + 3 < text.length := (List.getElem?_eq_some_iff.mp hk3).1
        ((with_reducible apply ev_nat; exact nn2; apply pr_iaddN; apply asgX); exact .tail .head; exact .inl rfl; (with_reducible apply ex_assign); exact rfl; (with_reducible apply ev_sub; apply ev_nameH); exact .head; (with_reducible exact nu_str; apply ev_nameH); exact .tail .head; (with_reducible exact nu_int; apply si_strN); assumption; (exact Nat.le_trans (Nat.le_of_lt (by assumption)) (Nat.le_trans (by assumption) (by decide))); (with_reducible apply asgX); exact .tail (.tail (.tail (.tail (.tail (.tail (.tail .head)))))); exact .inl rfl; (with_reducible apply ex_augH); exact .tail .head; (with_reducible exact nu_int; apply ev_nat; exact nn1; apply pr_iaddN; apply asgX); exact .tail .head; exact .inl rfl; (with_reducible apply ex_nil; apply then_next; apply ex_append); exact rfl; exact rfl; exact .tail (.tail (.tail (.tail (.tail .head)))); exact ⟨_, .head _⟩; (with_reducible apply ev_tuple; apply es_cons); exact rfl; (with_reducible apply ev_nameH); exact .tail (.tail (.tail (.tail (.tail (.tail .head))))); (with_reducible exact nu_str; apply es_cons); exact rfl; (with_reducible apply ev_nameH); exact .tail (.tail (.tail (.tail (.tail (.tail (.tail .head)))))); (with_reducible exact nu_str; apply es_nil; apply lenOk); exact rfl; (with_reducible apply apX); exact .head; simp; assumption; (with_reducible apply ex_nil))
        exact h
      · rw [if_neg h92] at hp
        apply way_f; · exact seq_f h92
        rw [h2, if_neg h92] at hp
        cases hp
        ((with_reducible apply ev_nat; exact nn1; apply pr_iaddN; apply asgX); exact .tail .head; exact .inl rfl; (with_reducible apply ex_assign); exact rfl; (with_reducible apply ev_sub; apply ev_nameH); exact .head; (with_reducible exact nu_str; apply ev_nameH); exact .tail .head; (with_reducible exact nu_int; apply si_strN); assumption; (exact Nat.le_trans (Nat.le_of_lt (by assumption)) (Nat.le_trans (by assumption) (by decide))); (with_reducible apply asgX); exact .tail (.tail (.tail (.tail (.tail (.tail (.tail .head)))))); exact .inl rfl; (with_reducible apply ex_augH); exact .tail .head; (with_reducible exact nu_int; apply ev_nat; exact nn1; apply pr_iaddN; apply asgX); exact .tail .head; exact .inl rfl; (with_reducible apply ex_nil; apply then_next; apply ex_append); exact rfl; exact rfl; exact .tail (.tail (.tail (.tail (.tail .head)))); exact ⟨_, .head _⟩; (with_reducible apply ev_tuple; apply es_cons); exact rfl; (with_reducible apply ev_nameH); exact .tail (.tail (.tail (.tail (.tail (.tail .head))))); (with_reducible exact nu_str; apply es_cons); exact rfl; (with_reducible apply ev_nameH); exact .tail (.tail (.tail (.tail (.tail (.tail (.tail .head)))))); (with_reducible exact nu_str; apply es_nil; apply lenOk); exact rfl; (with_reducible apply apX); exact .head; simp; assumption; (with_reducible apply ex_nil))
        exact h
    · rw [if_neg h93] at hp
      cases hp
      apply way_f; · exact sne_f' h93
      apply way_f; · rfl
      ((with_reducible apply ex_nil; apply then_next; apply ex_append); exact rfl; exact rfl; exact .tail (.tail (.tail (.tail (.tail .head)))); exact ⟨_, .head _⟩; (with_reducible apply ev_tuple; apply es_cons); exact rfl; (with_reducible apply ev_nameH); exact .tail (.tail (.tail (.tail (.tail (.tail .head))))); (with_reducible exact nu_str; apply es_cons); exact rfl; (with_reducible apply ev_nameH); exact .tail (.tail (.tail (.tail (.tail (.tail (.tail .head)))))); (with_reducible exact nu_str; apply es_nil; apply lenOk); exact rfl; (with_reducible apply apX); exact .head; simp; assumption; (with_reducible apply ex_nil))
      exact h
  · rw [if_neg h45] at hp
    cases hp
    apply way_f; · exact seq_f h45
    apply way_f; · rfl
    ((with_reducible apply ex_nil; apply then_next; apply ex_append); exact rfl; exact rfl; exact .tail (.tail (.tail (.tail (.tail .head)))); exact ⟨_, .head _⟩; (with_reducible apply ev_tuple; apply es_cons); exact rfl; (with_reducible apply ev_nameH); exact .tail (.tail (.tail (.tail (.tail (.tail .head))))); (with_reducible exact nu_str; apply es_cons); exact rfl; (with_reducible apply ev_nameH); exact .tail (.tail (.tail (.tail (.tail (.tail (.tail .head)))))); (with_reducible exact nu_str; apply es_nil; apply lenOk); exact rfl; (with_reducible apply apX); exact .head; simp; assumption; (with_reducible apply ex_nil))
    exact h
theorem span_body {text : List Nat} {k : Nat} (hn : text.length ≤ 1000000) {barred : Bool} {a : Addr} {acc : List (Nat × Nat)} (hac : acc.length ≤ 1000000) {p : Nat × Nat} {m : Nat} (hp : spanS (text.drop k) = some (p, m)) {Φ : LFl → LS → Prop}
    (h : Φ .next ⟨([("text", .local, .str text), ("k", .local, .int (k + m : Nat)), ("bare", .local, .undef), ("off", .local, .undef), ("barred", .local, .bool barred), ("spans", .local, .raw (.ref a)), ("first", .local, .str [p.1]), ("last", .local, .str [p.2])] : List (Str × Loc × LV)), [(a, .lst (acc.map spanV ++ [spanV p]))]⟩) :
    ExW g F n ⟨([("text", .local, .str text), ("k", .local, .int k), ("bare", .local, .undef), ("off", .local, .undef), ("barred", .local, .bool barred), ("spans", .local, .raw (.ref a)), ("first", .local, .undef), ("last", .local, .undef)] : List (Str × Loc × LV)), [(a, .lst (acc.map spanV))]⟩ (loopBody g.w.params) Φ := by
  conv => arg 5; whnf
  have at' : ∀ i, text[k + i]? = (text.drop k)[i]? := fun i => by rw [List.getElem?_drop]
  have dr' : (text.drop k).drop 1 = text.drop (k + 1) := by rw [List.drop_drop]
  unfold spanS at hp
  cases h0 : (text.drop k)[0]? with
  | none => rw [h0] at hp; cases hp
  | some c0 =>
  rw [h0] at hp
  dsimp only at hp
  have hk : text[k]? = some c0 := (at' 0).trans h0
  have hkl : k < text.length := (List.getElem?_eq_some_iff.mp hk).1
  ((with_reducible apply ex_augH); exact .tail .head; (with_reducible exact nu_int; apply ev_ifexp; apply te_compare); exact rfl; (with_reducible apply ev_sub; apply ev_nameH); exact .head; (with_reducible exact nu_str; apply ev_nameH); exact .tail .head; (with_reducible exact nu_int; apply si_strN); assumption; (exact Nat.le_trans (Nat.le_of_lt (by assumption)) (Nat.le_trans (by assumption) (by decide))); (with_reducible apply ev_strl; exact ls3; apply pr_seq; apply bool_ex))
  by_cases h92 : c0 = 92
  · rw [if_pos h92, dr'] at hp
    apply way_t; · exact seq_t h92
    cases h1 : span1 (text.drop (k + 1)) with
    | none => rw [h1] at hp; cases hp
    | some r =>
    obtain ⟨p', m'⟩ := r
    rw [h1] at hp
    cases hp
    ((with_reducible apply ev_nat; exact nn1; apply pr_iaddN; apply asgX); exact .tail .head; exact .inl rfl)
    refine span_rest hn hac h1 ?_
    rw [Nat.add_assoc]; exact h
  · rw [if_neg h92] at hp
    apply way_f; · exact seq_f h92
    ((with_reducible apply ev_nat; exact nn0; apply pr_iaddN; apply asgX); exact .tail .head; exact .inl rfl)
    exact span_rest hn hac hp h
end

section
theorem spanS_pos {s : List Nat} {p : Nat × Nat} {m : Nat} (h : spanS s = some (p, m)) : 1 ≤ m ∧ 0 < s.length := by
  have one : ∀ {s : List Nat} {p : Nat × Nat} {m : Nat}, span1 s = some (p, m) → 1 ≤ m ∧ 0 < s.length := by
    intro s p m h
    unfold span1 at h
    split at h
    · rename_i h0 _
      have hl : 0 < s.length := (List.getElem?_eq_some_iff.mp h0).1
      split at h
      · split at h
        · cases h
        · split at h
          · split at h
            · cases h
            · cases h; exact ⟨by split <;> lia, hl⟩
          · cases h; exact ⟨Nat.le_refl _, hl⟩
      · cases h; exact ⟨Nat.le_refl _, hl⟩
    · cases h
  unfold spanS at h
  split at h
  · cases h
  · rename_i h0
    have hl : 0 < s.length := (List.getElem?_eq_some_iff.mp h0).1
    split at h
    · split at h
      · cases h
      · cases h; exact ⟨by lia, hl⟩
    · exact one h
noncomputable def unitE (text : List Nat) (k : Nat) (b off sp : LV) (barred : Bool) : List (Str × Loc × LV) := [("text", .local, .str text), ("k", .local, .int k), ("bare", .local, b), ("off", .local, off), ("barred", .local, .bool barred), ("spans", .local, sp), ("first", .local, .undef), ("last", .local, .undef)]
theorem turn_body {text : List Nat} {k : Nat} (hn : text.length ≤ 1000000) {barred : Bool} {a : Addr} {acc : List (Nat × Nat)} (hac : acc.length ≤ k) {f : Nat} {spans : List (Nat × Nat)} {jj : Nat} (hsp : (match spanS (text.drop k) with
      | none => none
      | some (p, m) => match spansS f ((text.drop k).drop m) (acc ++ [p]) with
        | none => none
        | some (r, j) => some (r, m + j)) = some (spans, jj)) {Φ : LFl → LS → Prop}
    (h : ∀ p m j', (acc ++ [p]).length ≤ k + m → spansS f (text.drop (k + m)) (acc ++ [p]) = some (spans, j') → k + m + j' = k + jj → Φ .next ⟨([("text", .local, .str text), ("k", .local, .int (k + m : Nat)), ("bare", .local, .undef), ("off", .local, .undef), ("barred", .local, .bool barred), ("spans", .local, .raw (.ref a)), ("first", .local, .str [p.1]), ("last", .local, .str [p.2])] : List (Str × Loc × LV)), [(a, .lst ((acc ++ [p]).map spanV))]⟩) :
    ExW g F n ⟨([("text", .local, .str text), ("k", .local, .int k), ("bare", .local, .undef), ("off", .local, .undef), ("barred", .local, .bool barred), ("spans", .local, .raw (.ref a)), ("first", .local, .undef), ("last", .local, .undef)] : List (Str × Loc × LV)), [(a, .lst (acc.map spanV))]⟩ (loopBody g.w.params) Φ := by
  cases h1 : spanS (text.drop k) with
  | none => rw [h1] at hsp; cases hsp
  | some r =>
  obtain ⟨p, m⟩ := r
  rw [h1] at hsp
  dsimp only at hsp
  cases h2 : spansS f ((text.drop k).drop m) (acc ++ [p]) with
  | none => rw [h2] at hsp; cases hsp
  | some r =>
  obtain ⟨r, j'⟩ := r
  rw [h2] at hsp
  cases hsp
  obtain ⟨hm, hl⟩ := spanS_pos h1
  rw [List.length_drop] at hl
  rw [List.drop_drop] at h2
  refine span_body hn (by lia) h1 ?_
  have := h p m j' (by simp; lia) h2 (by lia)
  simpa using this
inductive UnI (text : List Nat) (barred : Bool) (a : Addr) (spans : List (Nat × Nat)) (K j : Nat) (f : Nat) (σ : LS) : Prop
  | mk (K' : Nat) (acc : List (Nat × Nat)) (jj : Nat) (h0 : Weak σ.env (unitE text K' .undef .undef (.raw (.ref a)) barred)) (h1 : σ.cells = [(a, .lst (acc.map spanV))]) (h2 : acc.length ≤ K') (h3 : spansS f (text.drop K') acc = some (spans, jj)) (h4 : K' + jj = K + j)
theorem unit_tail (hg : GtOk g gtab) {text : List Nat} {K : Nat} (hn : text.length ≤ 1000000) {barred : Bool} {f : Nat} {spans : List (Nat × Nat)} {j : Nat} (h : spansS f (text.drop K) [] = some (spans, j)) :
    ExW g F n ⟨([("text", .local, .str text), ("k", .local, .int K), ("bare", .local, .undef), ("off", .local, .undef), ("barred", .local, .bool barred), ("spans", .local, .undef), ("first", .local, .undef), ("last", .local, .undef)] : List (Str × Loc × LV)), []⟩ ((bodyAt g.w.params 81).drop 5)
      fun lf _ => lf = .ret (.tup [unitV (if (spans.map fun p => decide (p.2 < p.1)).contains true then (false, []) else (barred, spans)), .int (K + j + 1 : Nat)]) := by
  conv => arg 5; whnf
  refine ex_newlistX fun a => ?_
  ((with_reducible apply asgX); exact .tail (.tail (.tail (.tail (.tail .head)))); exact .inl rfl)
  refine ex_while (UnI text barred a spans K j) f ⟨K, [], j, Weak.refl _, rfl, Nat.zero_le _, h, rfl⟩ ?_
  rintro f ⟨e, c⟩ ⟨K', acc, jj, hw, rfl, hle, hsp, hK⟩
  refine te_weak hw ?_
  unfold unitE
  cases f with
  | zero => cases hsp
  | succ f =>
  unfold spansS at hsp
  have at' : text[K']? = (text.drop K')[0]? := by rw [List.getElem?_drop, Nat.add_zero]
  refine te_bool (al_or (te_compareC rfl ?_))
  ((with_reducible apply ev_nameH); exact .tail (.tail (.tail (.tail (.tail .head)))); (with_reducible exact nu_raw; apply ev_list; apply es_nil; apply lenOk); exact rfl; (with_reducible apply ca_eq_nilX); exact .head _; (with_reducible apply bool_ex))
  have hE : (acc.map spanV).isEmpty = acc.isEmpty := by cases acc <;> rfl
  rw [hE]
  by_cases he : acc.isEmpty = true
  · rw [if_pos he] at hsp
    apply yaw_t; · exact he
    apply way_t; · rfl
    refine turn_body hn hle hsp fun p m j' h1 h2 h3 => ?_
    exact ⟨f, Nat.lt_succ_self f, K' + m, acc ++ [p], j', by (exact .same (.same (.undefL (.undefL (.same (.same (.undefL (.undefL .nil)))))))), rfl, h1, h2, by lia⟩
  · rw [if_neg he] at hsp
    apply yaw_f; · simpa using he
    cases h0 : (text.drop K')[0]? with
    | none => rw [h0] at hsp; cases hsp
    | some c0 =>
    rw [h0] at hsp
    have hk : text[K']? = some c0 := at'.trans h0
    have hkl : K' < text.length := (List.getElem?_eq_some_iff.mp hk).1
    ((with_reducible apply al_or; apply te_compare); exact rfl; (with_reducible apply ev_sub; apply ev_nameH); exact .head; (with_reducible exact nu_str; apply ev_nameH); exact .tail .head; (with_reducible exact nu_int; apply si_strN); assumption; (exact Nat.le_trans (Nat.le_of_lt (by assumption)) (Nat.le_trans (by assumption) (by decide))); (with_reducible apply ev_strl; exact ls7; apply pr_sne; apply bool_ex))
    by_cases h93 : c0 = 93
    · have hsp' : some (acc, 0) = some (spans, jj) := by simpa [h93] using hsp
      cases hsp'
      apply yaw_f; · exact sne_f h93
      ((with_reducible apply al_or_nil))
      apply way_f; · rfl
      refine freezeX (e' := [("text", .local, .str text), ("k", .local, .int K'), ("bare", .local, .undef), ("off", .local, .undef), ("barred", .local, .bool barred), ("spans", .local, .lst (spans.map spanV)), ("first", .local, .undef), ("last", .local, .undef)]) .head (by (exact .keep (.keep (.keep (.keep (.keep (.thaw (.keep (.keep .nil))))))))) ?_
      ((with_reducible apply ex_assign); exact rfl; (with_reducible apply ev_compare); exact rfl; (with_reducible apply ev_bool))
      refine ev_compX hg (by decide) rfl (fun _ => rfl) rfl ?_
      ((with_reducible apply ev_nameH); exact .tail (.tail (.tail (.tail (.tail .head)))); (with_reducible exact nu_lst))
      refine ⟨_, spans.map fun p => [.bool (decide (p.2 < p.1))], ([(".0", .local, .undef), ("first", .local, .undef), ("last", .local, .undef)] : List (Str × Loc × LV)), rfl, itw_lst, by rw [flat_one]; simp; lia, fun F' => all2_map fun p _ c' => ?_, ?_⟩
      · ((with_reducible apply as_tuple); exact rfl; exact rfl; (with_reducible apply assW_cons; apply as_nameX); exact .tail .head; exact .inl rfl; (with_reducible apply assW_cons; apply as_nameX); exact .tail (.tail .head); exact .inl rfl; (with_reducible apply assW_nil))
        refine ⟨rfl, cl_last fun c => ?_⟩
        ((with_reducible apply ev_compare); exact rfl; (with_reducible apply ev_nameH); exact .tail .head; (with_reducible exact nu_str; apply ev_nameH); exact .tail (.tail .head); (with_reducible exact nu_str; apply pr_sgt1))
        exact ⟨rfl, rfl, by (exact .undefL (.undefL (.undefL .nil)))⟩
      rw [flat_one, show (spans.map fun p => LV.bool (decide (p.2 < p.1))) = (spans.map fun p => decide (p.2 < p.1)).map .bool from by simp]
      refine pr_bool_in ?_
      ((with_reducible apply asgX); exact .tail (.tail (.tail .head)); exact .inl rfl; (with_reducible apply ex_return; apply ev_tuple; apply es_cons); exact rfl; (with_reducible apply ev_ifexp; apply te_plain); exact rfl; (with_reducible apply ev_nameH); exact .tail (.tail (.tail .head)); (with_reducible exact nu_bool; apply pb_bool))
      by_cases ho : (spans.map fun p => decide (p.2 < p.1)).contains true = true
      · apply way_t; · exact ho
        ((with_reducible apply ev_tuple; apply es_cons); exact rfl; (with_reducible apply ev_bool; apply es_cons); exact rfl; (with_reducible apply ev_list; apply es_nil; apply lenOk); exact rfl; (with_reducible apply es_nil; apply lenOk); exact rfl; (with_reducible apply es_cons); exact rfl; (with_reducible apply ev_binop; apply ev_nameH); exact .tail .head; (with_reducible exact nu_int; apply ev_nat; exact nn1; apply pr_addN; apply es_nil; apply lenOk); exact rfl)
        rw [if_pos ho, ← hK]; rfl
      · apply way_f; · simpa using ho
        ((with_reducible apply ev_tuple; apply es_cons); exact rfl; (with_reducible apply ev_nameH); exact .tail (.tail (.tail (.tail .head))); (with_reducible exact nu_bool; apply es_cons); exact rfl; (with_reducible apply ev_nameH); exact .tail (.tail (.tail (.tail (.tail .head)))); (with_reducible exact nu_lst; apply es_nil; apply lenOk); exact rfl; (with_reducible apply es_cons); exact rfl; (with_reducible apply ev_binop; apply ev_nameH); exact .tail .head; (with_reducible exact nu_int; apply ev_nat; exact nn1; apply pr_addN; apply es_nil; apply lenOk); exact rfl)
        rw [if_neg ho, ← hK]
    · apply yaw_t; · exact sne_t h93
      apply way_t; · rfl
      have hc : (c0 != 93) = true := by simpa using h93
      dsimp only at hsp
      rw [hc] at hsp
      refine turn_body hn hle hsp fun p m j' h1 h2 h3 => ?_
      exact ⟨f, Nat.lt_succ_self f, K' + m, acc ++ [p], j', by (exact .same (.same (.undefL (.undefL (.same (.same (.undefL (.undefL .nil)))))))), rfl, h1, h2, by lia⟩
theorem unit_body (hg : GtOk g gtab) {text : List Nat} {k : Nat} (hn : text.length ≤ 1000000) {u : LUnit} {m : Nat} (hu : unitS (text.drop k) = some (u, m)) : ExW g F n ⟨putAll (baseEnv [] gtab (fdAt g.w.params 81).scope.names) ([("text", .str text), ("k", .int k)] : List (Str × LV)), []⟩ (bodyAt g.w.params 81) fun lf _ => lf = .ret (.tup [unitV u, .int (k + m : Nat)]) := by
  have e2 : putAll (baseEnv [] gtab (fdAt g.w.params 81).scope.names) ([("text", .str text), ("k", .int k)] : List (Str × LV)) = ([("text", .local, .str text), ("k", .local, .int k), ("bare", .local, .undef), ("off", .local, .undef), ("barred", .local, .undef), ("spans", .local, .undef), ("first", .local, .undef), ("last", .local, .undef)] : List (Str × Loc × LV)) := rfl
  rw [e2]
  clear e2
  conv => arg 5; whnf
  have at' : ∀ i, text[k + i]? = (text.drop k)[i]? := fun i => by rw [List.getElem?_drop]
  have dr' : ∀ i, text.drop (k + i) = (text.drop k).drop i := fun i => by rw [List.drop_drop]
  have mid4 : mid text k (k + 4) = (text.drop k).take 4 := by unfold mid; rw [Nat.add_sub_cancel_left]
  generalize hs : text.drop k = s at hu at' mid4 dr'
  unfold unitS at hu
  cases h0 : s[0]? with
  | none => rw [h0] at hu; cases hu
  | some c =>
  rw [h0] at hu
  dsimp only at hu
  have hk : text[k]? = some c := (at' 0).trans h0
  have hkl : k < text.length := (List.getElem?_eq_some_iff.mp hk).1
  ((with_reducible apply ex_if; apply te_compare); exact rfl; (with_reducible apply ev_sub; apply ev_nameH); exact .head; (with_reducible exact nu_str; apply ev_nameH); exact .tail .head; (with_reducible exact nu_int; apply si_strN); assumption; (exact Nat.le_trans (Nat.le_of_lt (by assumption)) (Nat.le_trans (by assumption) (by decide))); (with_reducible apply ev_strl; exact ls0; apply pr_seq; apply bool_ex))
  by_cases hc : c = 46
  · rw [if_pos hc] at hu
    cases hu
    apply way_t; · exact seq_t hc
    ((with_reducible apply ex_return; apply ev_tuple; apply es_cons); exact rfl; (with_reducible apply ev_tuple; apply es_cons); exact rfl; (with_reducible apply ev_bool; apply es_cons); exact rfl; (with_reducible apply ev_list; apply es_nil; apply lenOk); exact rfl; (with_reducible apply es_nil; apply lenOk); exact rfl; (with_reducible apply es_cons); exact rfl; (with_reducible apply ev_binop; apply ev_nameH); exact .tail .head; (with_reducible exact nu_int; apply ev_nat; exact nn1; apply pr_addN; apply es_nil; apply lenOk); exact rfl; (with_reducible apply then_ret))
    rfl
  rw [if_neg hc] at hu
  apply way_f; · exact seq_f hc
  ((with_reducible apply ex_nil; apply then_next; apply ex_if; apply te_compare); exact rfl; (with_reducible apply ev_sub; apply ev_nameH); exact .head; (with_reducible exact nu_str; apply ev_slice; apply ow_some; apply ev_nameH); exact .tail .head; (with_reducible exact nu_int; apply ow_some; apply ev_binop; apply ev_nameH); exact .tail .head; (with_reducible exact nu_int; apply ev_nat; exact nn4; apply pr_addN; apply si_str_mid); assumption; (with_reducible apply ev_strl; exact ls1; apply pr_seq; apply bool_ex))
  rw [mid4]
  by_cases h4 : s.take 4 = [40, 63, 33, 41]
  · rw [if_pos h4] at hu
    cases hu
    apply way_t; · exact beq_iff_eq.mpr h4
    ((with_reducible apply ex_return; apply ev_tuple; apply es_cons); exact rfl; (with_reducible apply ev_tuple; apply es_cons); exact rfl; (with_reducible apply ev_bool; apply es_cons); exact rfl; (with_reducible apply ev_list; apply es_nil; apply lenOk); exact rfl; (with_reducible apply es_nil; apply lenOk); exact rfl; (with_reducible apply es_cons); exact rfl; (with_reducible apply ev_binop; apply ev_nameH); exact .tail .head; (with_reducible exact nu_int; apply ev_nat; exact nn4; apply pr_addN; apply es_nil; apply lenOk); exact rfl; (with_reducible apply then_ret))
    rfl
  rw [if_neg h4] at hu
  apply way_f; · simpa using h4
  ((with_reducible apply ex_nil; apply then_next; apply ex_if; apply te_compare); exact rfl; (with_reducible apply ev_sub; apply ev_nameH); exact .head; (with_reducible exact nu_str; apply ev_nameH); exact .tail .head; (with_reducible exact nu_int; apply si_strN); assumption; (exact Nat.le_trans (Nat.le_of_lt (by assumption)) (Nat.le_trans (by assumption) (by decide))); (with_reducible apply ev_strl; exact ls2; apply pr_sne; apply bool_ex))
  by_cases h91 : c ≠ 91
  · rw [if_pos h91] at hu
    apply way_t; · exact sne_t h91
    ((with_reducible apply ex_assign); exact rfl; (with_reducible apply ev_compare); exact rfl; (with_reducible apply ev_sub; apply ev_nameH); exact .head; (with_reducible exact nu_str; apply ev_nameH); exact .tail .head; (with_reducible exact nu_int; apply si_strN); assumption; (exact Nat.le_trans (Nat.le_of_lt (by assumption)) (Nat.le_trans (by assumption) (by decide))); (with_reducible apply ev_strl; exact ls3; apply pr_sne; apply asgX); exact .tail (.tail .head); exact .inl rfl; (with_reducible apply ex_augH); exact .tail .head; (with_reducible exact nu_int; apply ev_ifexp; apply te_plain); exact rfl; (with_reducible apply ev_nameH); exact .tail (.tail .head); (with_reducible exact nu_bool; apply pb_bool))
    by_cases h92 : c ≠ 92
    · rw [if_pos h92] at hu
      cases hu
      apply way_t; · exact sne_t h92
      have hk0 : text[k + 0]? = some c := hk
      ((with_reducible apply ev_nat; exact nn0; apply pr_iaddN; apply asgX); exact .tail .head; exact .inl rfl; (with_reducible apply ex_assign); exact rfl; (with_reducible apply ev_compare); exact rfl; (with_reducible apply ev_sub; apply ev_nameH); exact .head; (with_reducible exact nu_str; apply ev_nameH); exact .tail .head; (with_reducible exact nu_int; apply si_strN); assumption; (exact Nat.le_trans (Nat.le_of_lt (by assumption)) (Nat.le_trans (by assumption) (by decide))); (with_reducible apply ev_ifexp; apply te_plain); exact rfl; (with_reducible apply ev_nameH); exact .tail (.tail .head); (with_reducible exact nu_bool; apply pb_bool))
      apply way_t; · exact sne_t h92
      ((with_reducible apply ev_strl; exact ls4; apply pr_sin1; apply asgX); exact .tail (.tail (.tail .head)); exact .inl rfl; (with_reducible apply ex_return; apply ev_tuple; apply es_cons); exact rfl; (with_reducible apply ev_tuple; apply es_cons); exact rfl; (with_reducible apply ev_bool; apply es_cons); exact rfl; (with_reducible apply ev_ifexp; apply te_plain); exact rfl; (with_reducible apply ev_nameH); exact .tail (.tail (.tail .head)); (with_reducible exact nu_bool; apply pb_bool))
      by_cases hb : c ∈ bareOff
      · apply way_t; · exact decide_eq_true hb
        ((with_reducible apply ev_list; apply es_nil; apply lenOk); exact rfl; (with_reducible apply es_nil; apply lenOk); exact rfl; (with_reducible apply es_cons); exact rfl; (with_reducible apply ev_binop; apply ev_nameH); exact .tail .head; (with_reducible exact nu_int; apply ev_nat; exact nn1; apply pr_addN; apply es_nil; apply lenOk); exact rfl; (with_reducible apply then_ret))
        rw [if_pos hb]; rfl
      · apply way_f; · exact decide_eq_false hb
        ((with_reducible apply ev_list; apply es_cons); exact rfl; (with_reducible apply ev_tuple; apply es_cons); exact rfl; (with_reducible apply ev_sub; apply ev_nameH); exact .head; (with_reducible exact nu_str; apply ev_nameH); exact .tail .head; (with_reducible exact nu_int; apply si_strN); assumption; (exact Nat.le_trans (Nat.le_of_lt (by assumption)) (Nat.le_trans (by assumption) (by decide))); (with_reducible apply es_cons); exact rfl; (with_reducible apply ev_sub; apply ev_nameH); exact .head; (with_reducible exact nu_str; apply ev_nameH); exact .tail .head; (with_reducible exact nu_int; apply si_strN); assumption; (exact Nat.le_trans (Nat.le_of_lt (by assumption)) (Nat.le_trans (by assumption) (by decide))); (with_reducible apply es_nil; apply lenOk); exact rfl; (with_reducible apply es_nil; apply lenOk); exact rfl; (with_reducible apply es_nil; apply lenOk); exact rfl; (with_reducible apply es_cons); exact rfl; (with_reducible apply ev_binop; apply ev_nameH); exact .tail .head; (with_reducible exact nu_int; apply ev_nat; exact nn1; apply pr_addN; apply es_nil; apply lenOk); exact rfl; (with_reducible apply then_ret))
        rw [if_neg hb]; rfl
    · rw [if_neg h92] at hu
      apply way_f; · exact sne_f' h92
      cases h1 : s[1]? with
      | none => rw [h1] at hu; cases hu
      | some d =>
      rw [h1] at hu
      cases hu
      have hk1 : text[k + 1]? = some d := (at' 1).trans h1
      have hkl1 := (List.getElem?_eq_some_iff.mp hk1).1
      ((with_reducible apply ev_nat; exact nn1; apply pr_iaddN; apply asgX); exact .tail .head; exact .inl rfl; (with_reducible apply ex_assign); exact rfl; (with_reducible apply ev_compare); exact rfl; (with_reducible apply ev_sub; apply ev_nameH); exact .head; (with_reducible exact nu_str; apply ev_nameH); exact .tail .head; (with_reducible exact nu_int; apply si_strN); assumption; (exact Nat.le_trans (Nat.le_of_lt (by assumption)) (Nat.le_trans (by assumption) (by decide))); (with_reducible apply ev_ifexp; apply te_plain); exact rfl; (with_reducible apply ev_nameH); exact .tail (.tail .head); (with_reducible exact nu_bool; apply pb_bool))
      apply way_f; · exact sne_f' h92
      ((with_reducible apply ev_strl; exact ls5; apply pr_sin1; apply asgX); exact .tail (.tail (.tail .head)); exact .inl rfl; (with_reducible apply ex_return; apply ev_tuple; apply es_cons); exact rfl; (with_reducible apply ev_tuple; apply es_cons); exact rfl; (with_reducible apply ev_bool; apply es_cons); exact rfl; (with_reducible apply ev_ifexp; apply te_plain); exact rfl; (with_reducible apply ev_nameH); exact .tail (.tail (.tail .head)); (with_reducible exact nu_bool; apply pb_bool))
      by_cases hb : d ∈ escOff
      · apply way_t; · exact decide_eq_true hb
        ((with_reducible apply ev_list; apply es_nil; apply lenOk); exact rfl; (with_reducible apply es_nil; apply lenOk); exact rfl; (with_reducible apply es_cons); exact rfl; (with_reducible apply ev_binop; apply ev_nameH); exact .tail .head; (with_reducible exact nu_int; apply ev_nat; exact nn1; apply pr_addN; apply es_nil; apply lenOk); exact rfl; (with_reducible apply then_ret))
        rw [if_pos hb]; rfl
      · apply way_f; · exact decide_eq_false hb
        ((with_reducible apply ev_list; apply es_cons); exact rfl; (with_reducible apply ev_tuple; apply es_cons); exact rfl; (with_reducible apply ev_sub; apply ev_nameH); exact .head; (with_reducible exact nu_str; apply ev_nameH); exact .tail .head; (with_reducible exact nu_int; apply si_strN); assumption; (exact Nat.le_trans (Nat.le_of_lt (by assumption)) (Nat.le_trans (by assumption) (by decide))); (with_reducible apply es_cons); exact rfl; (with_reducible apply ev_sub; apply ev_nameH); exact .head; (with_reducible exact nu_str; apply ev_nameH); exact .tail .head; (with_reducible exact nu_int; apply si_strN); assumption; (exact Nat.le_trans (Nat.le_of_lt (by assumption)) (Nat.le_trans (by assumption) (by decide))); (with_reducible apply es_nil; apply lenOk); exact rfl; (with_reducible apply es_nil; apply lenOk); exact rfl; (with_reducible apply es_nil; apply lenOk); exact rfl; (with_reducible apply es_cons); exact rfl; (with_reducible apply ev_binop; apply ev_nameH); exact .tail .head; (with_reducible exact nu_int; apply ev_nat; exact nn1; apply pr_addN; apply es_nil; apply lenOk); exact rfl; (with_reducible apply then_ret))
        rw [if_neg hb]; rfl
  rw [if_neg h91] at hu
  apply way_f; · exact sne_f' h91
  cases h1 : s[1]? with
  | none => rw [h1] at hu; cases hu
  | some b =>
  rw [h1] at hu
  dsimp only at hu
  have hk1 : text[k + 1]? = some b := (at' 1).trans h1
  have hkl1 := (List.getElem?_eq_some_iff.mp hk1).1
  ((with_reducible apply ex_nil; apply then_next; apply ex_assign); exact rfl; (with_reducible apply ev_compare); exact rfl; (with_reducible apply ev_sub; apply ev_nameH); exact .head; (with_reducible exact nu_str; apply ev_binop; apply ev_nameH); exact .tail .head; (with_reducible exact nu_int; apply ev_nat; exact nn1; apply pr_addN; apply si_strN); assumption; (exact Nat.le_trans (Nat.le_of_lt (by assumption)) (Nat.le_trans (by assumption) (by decide))); (with_reducible apply ev_strl; exact ls6; apply pr_seq; apply asgX); exact .tail (.tail (.tail (.tail .head))); exact .inl rfl; (with_reducible apply ex_augH); exact .tail .head; (with_reducible exact nu_int; apply ev_ifexp; apply te_plain); exact rfl; (with_reducible apply ev_nameH); exact .tail (.tail (.tail (.tail .head))); (with_reducible exact nu_bool; apply pb_bool))
  cases hsp : spansS s.length (s.drop (if b = 94 then 2 else 1)) [] with
  | none => rw [hsp] at hu; cases hu
  | some r =>
  obtain ⟨spans, j⟩ := r
  rw [hsp] at hu
  cases hu
  rw [← dr'] at hsp
  by_cases hb : b = 94
  · apply way_t; · exact seq_t hb
    ((with_reducible apply ev_nat; exact nn2; apply pr_iaddN; apply asgX); exact .tail .head; exact .inl rfl)
    refine (unit_tail hg hn (by rw [if_pos hb] at hsp; exact hsp)).mono fun lf _ e => ?_
    rw [e, if_pos hb, beq_one, ← Nat.add_assoc, ← Nat.add_assoc]
  · apply way_f; · exact seq_f hb
    ((with_reducible apply ev_nat; exact nn1; apply pr_iaddN; apply asgX); exact .tail .head; exact .inl rfl)
    refine (unit_tail hg hn (by rw [if_neg hb] at hsp; exact hsp)).mono fun lf _ e => ?_
    rw [e, if_neg hb, beq_one, ← Nat.add_assoc, ← Nat.add_assoc]

theorem unit_fn (h : HG g) : FnOkE g 81 (["text", "k"] : List Str) :=
  fn_ok h (by decide) rfl rfl fun _ _ _ => of2 fun _ _ => rfl
theorem pr_unit (h : HG g) {text : List Nat} {k : Nat} (hn : text.length ≤ 1000000) {u : LUnit} {m : Nat} (hu : unitS (text.drop k) = some (u, m)) {Φ : LV → Prop} (hΦ : Φ (.tup [unitV u, .int (k + m : Nat)])) : PrW g (n + 1) [.str text, .int k] (fun vs => call (.ref 81) vs) Φ :=
  pr_fnE (unit_fn h) h.gt rfl fun F => (unit_body h.gt hn hu).mono fun lf _ e => by rw [e]; exact hΦ
end

section
noncomputable def fitsE (us : List LUnit) (name : List Nat) (place : Nat) : List (Str × Loc × LV) :=
  [("units", .local, .lst (us.map unitV)), ("name", .own, .str name), ("place", .own, .int place), ("k", .own, .undef), ("barred", .local, .undef), ("spans", .local, .undef), ("len", .glob, .raw (.builtin "len")), ("enumerate", .glob, .raw (.type "enumerate")), ("any", .glob, .raw (.builtin "any"))]
theorem as_weak {e e' : List (Str × Loc × LV)} {c : List (Addr × Ct)} {t : Expr} {lv : LV} {Φ : LS → Prop} (w : Weak e e') (h : AsW g F n ⟨e', c⟩ t lv Φ) : AsW g F n ⟨e, c⟩ t lv Φ :=
  ⟨fun A P s v Q E r S hv q => h |>.run A P s v Q E r (S.weak w) hv q⟩
inductive FiI (us : List LUnit) (name : List Nat) (place : Nat) (i : Nat) (rest : List LV) (σ : LS) : Prop
  | mk  (h0 : Weak σ.env (fitsE us name place)) (h1 : σ.cells = []) (h2 : i + rest.length = us.length) (h3 : rest = (us.drop i).map unitV) (h4 : fits us name place = fitsFrom (us.drop i) (name.drop (place + i)))
theorem fits_body (hg : GtOk g gtab) {us : List LUnit} {name : List Nat} {place : Nat} (hn : name.length ≤ 100000) (hus : us.length ≤ 100000) (hp : place ≤ 100000) (hsp : ∀ u ∈ us, u.2.length ≤ 1000000) :
    ExW g F n ⟨putAll (baseEnv [] gtab (fdAt g.w.params 93).scope.names) ([("units", .lst (us.map unitV)), ("name", .str name), ("place", .int place)] : List (Str × LV)), []⟩ (bodyAt g.w.params 93) fun lf _ => lf = .ret (.bool (decide (place + us.length ≤ name.length) && fits us name place)) := by
  have e2 : putAll (baseEnv [] gtab (fdAt g.w.params 93).scope.names) ([("units", .lst (us.map unitV)), ("name", .str name), ("place", .int place)] : List (Str × LV)) =
    ([("units", .local, .lst (us.map unitV)), ("name", .own, .str name), ("place", .own, .int place), ("k", .own, .undef), ("barred", .local, .undef), ("spans", .local, .undef), ("len", .glob, .raw (.builtin "len")), ("enumerate", .glob, .raw (.type "enumerate")), ("any", .glob, .raw (.builtin "any"))] : List (Str × Loc × LV)) := rfl
  rw [e2]
  clear e2
  conv => arg 5; whnf
  ((with_reducible apply ex_if; apply te_compare); exact rfl; (with_reducible apply ev_binop; apply ev_nameH); exact .tail (.tail .head); (with_reducible exact nu_int; apply ev_callN); exact rfl; exact .tail (.tail (.tail (.tail (.tail (.tail .head))))); exact cal_bi; (with_reducible apply es_cons); exact rfl; (with_reducible apply ev_nameH); exact .head; (with_reducible exact nu_lst; apply es_nil; apply PrW.ca; apply pr_len_lst); simp; (exact Nat.le_trans (by assumption) (by decide)); (with_reducible apply pr_addN; apply ev_callN); exact rfl; exact .tail (.tail (.tail (.tail (.tail (.tail .head))))); exact cal_bi; (with_reducible apply es_cons); exact rfl; (with_reducible apply ev_nameH); exact .tail .head; (with_reducible exact nu_str; apply es_nil; apply PrW.ca; apply pr_len_str); (exact Nat.le_trans (by assumption) (by decide)); (with_reducible apply pr_gtN; apply bool_ex))
  simp only [List.length_map]
  by_cases hl : name.length < place + us.length
  · apply way_t; · exact decide_eq_true hl
    ((with_reducible apply ex_return; apply ev_bool; apply then_ret))
    rw [decide_eq_false (by (exact Nat.not_le.mpr (by assumption)))]; rfl
  apply way_f; · exact decide_eq_false hl
  ((with_reducible apply ex_nil; apply then_next))
  rw [decide_eq_true (show place + us.length ≤ name.length by (exact Nat.not_lt.mp (by assumption))), Bool.true_and]
  refine ex_for_enum (fun _ => rfl) ?_
  ((with_reducible apply ev_callN); exact rfl; exact .tail (.tail (.tail (.tail (.tail (.tail (.tail .head)))))); exact cal_ty; (with_reducible apply es_cons); exact rfl; (with_reducible apply ev_nameH); exact .head; (with_reducible exact nu_lst; apply es_nil; apply ca_enumX))
  intro a it
  refine ⟨a, it, _, _, rfl, rfl, (FiI us name place), ⟨by unfold fitsE; (exact .same (.same (.same (.undefO (.undefL (.undefL (.same (.same (.same .nil))))))))), rfl, by simp, rfl, rfl⟩, ?_, ?_⟩
  · rintro i x rest' ⟨e, c⟩ ⟨hw, hc, hlen, hr, hfit⟩
    dsimp only at hw hc
    subst hc
    simp only [List.length_cons] at hlen
    cases hd : us.drop i with
    | nil => rw [hd] at hr; cases hr
    | cons u ud =>
    rw [hd] at hr hfit
    rw [List.map_cons] at hr
    injection hr with hx hrr
    subst hx hrr
    have hmu : u ∈ us := List.mem_of_mem_drop (i := i) (by rw [hd]; exact .head _)
    have hus1 : us.drop (i + 1) = ud := by rw [← List.drop_drop, hd]; rfl
    have hi : place + i < name.length := by lia
    obtain ⟨ch, hch⟩ : ∃ ch, name[place + i]? = some ch := ⟨_, List.getElem?_eq_getElem hi⟩
    have hnd : name.drop (place + i) = ch :: name.drop (place + (i + 1)) := by
      rw [List.drop_eq_getElem_cons hi]
      have := List.getElem?_eq_getElem hi
      rw [hch] at this
      cases this
      rfl
    refine as_weak hw ?_
    unfold fitsE
    ((with_reducible apply as_tuple); exact rfl; exact rfl; (with_reducible apply assW_cons; apply as_nameX); exact .tail (.tail (.tail .head)); exact .inr rfl; (with_reducible apply assW_cons; apply as_tuple); exact rfl; exact rfl; (with_reducible apply assW_cons; apply as_nameX); exact .tail (.tail (.tail (.tail .head))); exact .inl rfl; (with_reducible apply assW_cons; apply as_nameX); exact .tail (.tail (.tail (.tail (.tail .head)))); exact .inl rfl; (with_reducible apply assW_nil; apply assW_nil; apply ex_if; apply te_compare); exact rfl; (with_reducible apply ev_nameH); exact .tail (.tail (.tail (.tail .head))); (with_reducible exact nu_bool; apply ev_callN); exact rfl; exact .tail (.tail (.tail (.tail (.tail (.tail (.tail (.tail .head))))))); exact cal_bi; (with_reducible apply es_cons); exact rfl)
    refine ev_compX hg (by decide) rfl (fun _ => rfl) rfl ?_
    ((with_reducible apply ev_nameH); exact .tail (.tail (.tail (.tail (.tail .head)))); (with_reducible exact nu_lst))
    refine ⟨_, u.2.map fun p => [.bool (decide (p.1 ≤ ch) && decide (ch ≤ p.2))], ([(".0", .local, .undef), ("first", .local, .undef), ("last", .local, .undef), ("k", .fixed, .int i), ("name", .fixed, .str name), ("place", .fixed, .int place)] : List (Str × Loc × LV)), rfl, itw_lst, by rw [flat_one]; simpa using hsp u hmu, fun F' => all2_map fun p _ c' => ?_, ?_⟩
    · ((with_reducible apply as_tuple); exact rfl; exact rfl; (with_reducible apply assW_cons; apply as_nameX); exact .tail .head; exact .inl rfl; (with_reducible apply assW_cons; apply as_nameX); exact .tail (.tail .head); exact .inl rfl; (with_reducible apply assW_nil))
      refine ⟨rfl, cl_last fun c => ?_⟩
      ((with_reducible apply ev_chain2); exact rfl; (with_reducible apply ev_nameH); exact .tail .head; (with_reducible exact nu_str; apply ev_sub; apply ev_nameH); exact .tail (.tail (.tail (.tail .head))); (with_reducible exact nu_str; apply ev_binop; apply ev_nameH); exact .tail (.tail (.tail (.tail (.tail .head)))); (with_reducible exact nu_int; apply ev_nameH); exact .tail (.tail (.tail .head)); (with_reducible exact nu_int; apply pr_addN; apply si_strN); assumption; (exact Nat.le_trans (Nat.le_of_lt (by assumption)) (Nat.le_trans (by assumption) (by decide))); (with_reducible apply pr_sle1; apply bool_ex))
      refine ⟨fun hb => ?_, fun hb => ?_⟩
      · rw [hb]
        exact ⟨rfl, rfl, by (exact .undefL (.undefL (.undefL (.same (.same (.same .nil))))))⟩
      · ((with_reducible apply ev_nameH); exact .tail (.tail .head); (with_reducible exact nu_str; apply pr_sle1))
        rw [hb]
        exact ⟨rfl, rfl, by (exact .undefL (.undefL (.undefL (.same (.same (.same .nil))))))⟩
    rw [flat_one, show (u.2.map fun p => LV.bool (decide (p.1 ≤ ch) && decide (ch ≤ p.2))) = (u.2.map fun p => decide (p.1 ≤ ch) && decide (ch ≤ p.2)).map .bool from by simp]
    ((with_reducible apply es_nil; apply PrW.ca; apply pr_any; apply pr_beq; apply bool_ex))
    rw [show (u.2.map fun p => decide (p.1 ≤ ch) && decide (ch ≤ p.2)).any id = u.2.any fun p => decide (p.1 ≤ ch) && decide (ch ≤ p.2) from by rw [List.any_map]; rfl]
    have key : fits us name place = (unitFits u ch && fitsFrom ud (name.drop (place + (i + 1)))) := by rw [hfit, hnd]; rfl
    by_cases hu : (u.1 == u.2.any fun p => decide (p.1 ≤ ch) && decide (ch ≤ p.2)) = true
    · apply way_t; · exact hu
      ((with_reducible apply ex_return; apply ev_bool; apply then_ret))
      refine ⟨[], rfl, ?_⟩
      have : unitFits u ch = false := by unfold unitFits; rw [bne, hu]; rfl
      rw [key, this]; rfl
    · apply way_f; · simpa using hu
      ((with_reducible apply ex_nil; apply then_next; apply ex_nil))
      refine ⟨[], rfl, by (exact .same (.same (.same (.undefO (.undefL (.undefL (.same (.same (.same .nil))))))))), rfl, ?_, by rw [hus1], ?_⟩
      · simp at hlen ⊢; lia
      · have : unitFits u ch = true := by unfold unitFits; rw [bne]; simpa using hu
        rw [key, hus1, this, Bool.true_and]
  · rintro i ⟨e, c⟩ ⟨hw, hc, hlen, hr, hfit⟩
    dsimp only at hw hc
    subst hc
    refine ex_weak hw ?_
    unfold fitsE
    ((with_reducible apply ex_return; apply ev_bool))
    have : us.drop i = [] := by
      cases hd : us.drop i with
      | nil => rfl
      | cons _ _ => rw [hd] at hr; cases hr
    rw [hfit, this]
    rfl

theorem fits_fn (h : HG g) : FnOkE g 93 (["units", "name", "place"] : List Str) :=
  fn_ok h (by decide) rfl rfl fun _ _ _ => of3 fun _ _ _ => rfl
theorem pr_fits (h : HG g) {us : List LUnit} {name : List Nat} {place : Nat} (hn : name.length ≤ 100000) (hus : us.length ≤ 100000) (hp : place ≤ 100000) (hsp : ∀ u ∈ us, u.2.length ≤ 1000000) {Φ : LV → Prop} (hΦ : Φ (.bool (decide (place + us.length ≤ name.length) && fits us name place))) :
    PrW g (n + 1) [.lst (us.map unitV), .str name, .int place] (fun vs => call (.ref 93) vs) Φ :=
  pr_fnE (fits_fn h) h.gt rfl fun F => (fits_body h.gt hn hus hp hsp).mono fun lf _ e => by rw [e]; exact hΦ
end

section
noncomputable abbrev tokV (t : Tk) : LV := .tup [.str t.nm, .lst (t.us.map unitV)]
noncomputable abbrev natsV (ps : List Nat) : LV := .lst (ps.map fun (p : Nat) => .int (p : Int))
noncomputable def takesBody (p : Params) : List Stmt := loopOf ((bodyAt p 98).drop 1)
noncomputable abbrev takesE (ts : List Tk) (name : List Nat) (ps : List Nat) (k u pl af : LV) : List (Str × Loc × LV) :=
  [("tokens", .local, .lst (ts.map tokV)), ("name", .own, .str name), ("places", .local, natsV ps), ("kind", .local, k), ("units", .own, u), ("place", .local, pl), ("after", .local, af),
   ("list", .glob, .raw (.type "list")), ("range", .glob, .raw (.type "range")), ("len", .glob, .raw (.builtin "len")), ("_law_fits", .glob, .raw (.ref 93))]
theorem run_turn (hg : HG g) {ts : List Tk} {pl af : LV} {name ps : List Nat} (hn : name.length ≤ 90000) (hps : ∀ p ∈ ps, p ≤ name.length) (hl : ps.length ≤ name.length + 1) {c : List (Addr × Ct)} {Φ : LFl → LS → Prop}
    (h : Φ .next ⟨takesE ts name (step name ps .run) (.str Tk.run.nm) (.lst (Tk.run.us.map unitV)) pl af, c⟩) :
    ExW g F (n + 1) ⟨takesE ts name ps (.str Tk.run.nm) (.lst (Tk.run.us.map unitV)) pl af, c⟩ (takesBody g.w.params) Φ := by
  conv => arg 5; whnf
  unfold takesE Tk.nm
  ((with_reducible apply ex_if; apply te_compare); exact rfl; (with_reducible apply ev_nameH); exact .tail (.tail (.tail .head)); (with_reducible exact nu_str; apply ev_strl; exact ls16; apply pr_seq; apply bool_ex))
  apply way_t; · rfl
  ((with_reducible apply ex_assign); exact rfl; (with_reducible apply ev_ifexp; apply te_plain); exact rfl; (with_reducible apply ev_nameH); exact .tail (.tail .head); (with_reducible exact nu_lst; apply pb_lst); simp; lia)
  cases ps with
  | nil =>
    apply way_f; · rfl
    ((with_reducible apply ev_list; apply es_nil; apply lenOk); exact rfl; (with_reducible apply asgX); exact .tail (.tail .head); exact .inl rfl; (with_reducible apply ex_nil; apply then_next; apply ex_nil))
    exact h
  | cons p ps =>
    apply way_t; · rfl
    ((with_reducible apply ev_callN); exact rfl; exact .tail (.tail (.tail (.tail (.tail (.tail (.tail .head)))))); exact cal_ty; (with_reducible apply es_cons); exact rfl; (with_reducible apply ev_callN); exact rfl; exact .tail (.tail (.tail (.tail (.tail (.tail (.tail (.tail .head))))))); exact cal_ty; (with_reducible apply es_cons); exact rfl; (with_reducible apply ev_sub; apply ev_nameH); exact .tail (.tail .head); (with_reducible exact nu_lst; apply ev_nat; exact nn0; apply si_lst); rfl; lia; (with_reducible apply es_cons); exact rfl; (with_reducible apply ev_binop; apply ev_callN); exact rfl; exact .tail (.tail (.tail (.tail (.tail (.tail (.tail (.tail (.tail .head)))))))); exact cal_bi; (with_reducible apply es_cons); exact rfl; (with_reducible apply ev_nameH); exact .tail .head; (with_reducible exact nu_str; apply es_nil; apply PrW.ca; apply pr_len_str); (exact Nat.le_trans (by assumption) (by decide)); (with_reducible apply ev_nat; exact nn1; apply pr_addN; apply es_nil; apply PrW.ca; apply pr_range2); intro _ _ _; (with_reducible apply es_nil; apply PrW.ca))
    have hp := hps p (.head _)
    refine pr_listrange (size_nat _ _) (small_nat (by (exact Nat.le_trans (by assumption) (Nat.le_trans (by assumption) (by decide)))) (by lia)) (by lia) ?_
    rw [rangeL_nat]
    ((with_reducible apply asgX); exact .tail (.tail .head); exact .inl rfl; (with_reducible apply ex_nil; apply then_next; apply ex_nil))
    exact h
theorem one_turn (hg : HG g) {ts : List Tk} {pl af : LV} {name ps : List Nat} {u : LUnit} (hu : u.2.length ≤ 1000000) (hn : name.length ≤ 90000) (hps : ∀ p ∈ ps, p ≤ name.length) (hl : ps.length ≤ name.length + 1) {c : List (Addr × Ct)} {Φ : LFl → LS → Prop}
    (h : Φ .next ⟨takesE ts name (step name ps (.one u)) (.str (Tk.one u).nm) (.lst ((Tk.one u).us.map unitV)) pl af, c⟩) :
    ExW g F (n + 1) ⟨takesE ts name ps (.str (Tk.one u).nm) (.lst ((Tk.one u).us.map unitV)) pl af, c⟩ (takesBody g.w.params) Φ := by
  conv => arg 5; whnf
  have hcf : Callable g (.ref 93) := (fits_fn hg).cal
  unfold takesE Tk.nm
  ((with_reducible apply ex_if; apply te_compare); exact rfl; (with_reducible apply ev_nameH); exact .tail (.tail (.tail .head)); (with_reducible exact nu_str; apply ev_strl; exact ls16; apply pr_seq; apply bool_ex))
  apply way_f; · rfl
  ((with_reducible apply ex_if; apply te_compare); exact rfl; (with_reducible apply ev_nameH); exact .tail (.tail (.tail .head)); (with_reducible exact nu_str; apply ev_strl; exact ls11; apply pr_seq; apply bool_ex))
  apply way_t; · rfl
  refine ex_compX (by (exact .tail (.tail .head))) rfl hg.gt (by decide) rfl (fun _ => rfl) rfl ?_
  ((with_reducible apply ev_nameH); exact .tail (.tail .head); (with_reducible exact nu_lst))
  refine ⟨_, ps.map fun p => if decide (p + 1 ≤ name.length) && fits [u] name p then [.int ((p + 1 : Nat) : Int)] else [], ([(".0", .local, .undef), ("place", .local, .undef), ("_law_fits", .glob, .raw (.ref 93)), ("name", .fixed, .str name), ("units", .fixed, .lst ((Tk.one u).us.map unitV))] : List (Str × Loc × LV)), rfl, itw_lst, ?_, fun F' => all2_map fun p hp c' => ?_, ?_⟩
  · rw [flat_if, List.length_map]
    exact Nat.le_trans (List.length_filter_le _ _) (by lia)
  · have hpn := hps p hp
    ((with_reducible apply as_nameX); exact .tail .head; exact .inl rfl)
    refine ⟨rfl, cl_if fun c => ?_⟩
    ((with_reducible apply te_plain); exact rfl; (with_reducible apply ev_callN); exact rfl; exact .tail (.tail .head); assumption; (with_reducible apply es_cons); exact rfl; (with_reducible apply ev_nameH); exact .tail (.tail (.tail (.tail .head))); (with_reducible exact nu_lst; apply es_cons); exact rfl; (with_reducible apply ev_nameH); exact .tail (.tail (.tail .head)); (with_reducible exact nu_str; apply es_cons); exact rfl; (with_reducible apply ev_nameH); exact .tail .head; (with_reducible exact nu_int; apply es_nil; apply PrW.ca))
    refine pr_fits hg (us := (Tk.one u).us) (by (exact Nat.le_trans (by assumption) (by decide))) (by simp [Tk.us]) (by (exact Nat.le_trans (by assumption) (Nat.le_trans (by assumption) (by decide)))) (by simpa [Tk.us] using hu) ?_
    ((with_reducible apply pb_bool))
    refine ⟨fun hb => ?_, fun hb => ?_⟩
    · ((with_reducible apply ev_binop; apply ev_nameH); exact .tail .head; (with_reducible exact nu_int; apply ev_nat; exact nn1; apply pr_addN))
      rw [show (decide (p + 1 ≤ name.length) && fits [u] name p) = true from hb]
      exact ⟨rfl, rfl, by (exact .undefL (.undefL (.same (.same (.same .nil)))))⟩
    · rw [show (decide (p + 1 ≤ name.length) && fits [u] name p) = false from hb]
      exact ⟨rfl, rfl, by (exact .undefL (.undefL (.same (.same (.same .nil)))))⟩
  rw [flat_if]
  ((with_reducible apply asgX); exact .tail (.tail .head); exact .inl rfl; (with_reducible apply ex_nil; apply then_next; apply ex_nil; apply then_next; apply ex_nil))
  have e : natsV (step name ps (.one u)) = .lst ((ps.filter fun p => decide (p + 1 ≤ name.length) && fits [u] name p).map fun p => .int ((p + 1 : Nat) : Int)) := by
    unfold natsV step
    rw [List.map_map]; rfl
  unfold takesE at h
  rw [e] at h
  exact h
theorem seek_out {us : List LUnit} {name : List Nat} {f q : Nat} (h : name.length < q + us.length) : seek us name f q = none := by
  cases f with
  | zero => rfl
  | succ f => unfold seek; rw [if_neg (by (exact Nat.not_le.mpr (by assumption)))]
theorem seek_in {us : List LUnit} {name : List Nat} {f q : Nat} (h : q + us.length ≤ name.length) (hf : fits us name q = true) : seek us name (f + 1) q = some q := by
  unfold seek; rw [if_pos h, if_pos hf]
theorem seek_on {us : List LUnit} {name : List Nat} {f q : Nat} (h : q + us.length ≤ name.length) (hf : fits us name q = false) : seek us name (f + 1) q = seek us name f (q + 1) := by
  conv => lhs; unfold seek
  rw [if_pos h, hf]; rfl
inductive TkI (ts : List Tk) (name ps : List Nat) (us : List LUnit) (a : Addr) (c : List (Addr × Ct)) (rest : List LV) (σ : LS) : Prop
  | mk (acc rps : List Nat) (h0 : Weak σ.env (takesE ts name ps (.str [104, 101, 108, 100]) (.lst (us.map unitV)) .undef (.raw (.ref a)))) (h1 : σ.cells = (a, .lst (acc.map fun (p : Nat) => .int (p : Int))) :: c) (h2 : rest = rps.map (fun (p : Nat) => .int (p : Int))) (h3 : acc ++ (rps.filterMap fun p => (seek us name (name.length + 1) p).map (· + us.length)) = step name ps (.held us)) (h4 : (∀ p ∈ rps, p ≤ name.length)) (h5 : acc.length + rps.length ≤ name.length + 1)
inductive TkJ (ts : List Tk) (name ps : List Nat) (us : List LUnit) (a it : Addr) (o' : Obj) (acc : List Nat) (c : List (Addr × Ct)) (p : Nat) (f : Nat) (σ : LS) : Prop
  | mk (q : Nat) (h0 : σ = ⟨takesE ts name ps (.str [104, 101, 108, 100]) (.lst (us.map unitV)) (.int (q : Nat)) (.raw (.ref a)), (it, .raw o') :: (a, .lst (acc.map fun (p : Nat) => .int (p : Int))) :: c⟩) (h1 : seek us name f q = seek us name (name.length + 1) p) (h2 : q ≤ name.length + 1) (h3 : name.length < q + f)
theorem held_turn (hg : HG g) {ts : List Tk} {pl af : LV} {name ps : List Nat} {us : List LUnit} (hul : us.length ≤ 90000) (hu : ∀ u ∈ us, u.2.length ≤ 1000000) (hn : name.length ≤ 90000) (hps : ∀ p ∈ ps, p ≤ name.length) (hl : ps.length ≤ name.length + 1) {c : List (Addr × Ct)} {Φ : LFl → LS → Prop}
    (h : Φ .next ⟨takesE ts name (step name ps (.held us)) (.str (Tk.held us).nm) (.lst ((Tk.held us).us.map unitV)) .undef (natsV (step name ps (.held us))), c⟩) :
    ExW g F (n + 1) ⟨takesE ts name ps (.str (Tk.held us).nm) (.lst ((Tk.held us).us.map unitV)) pl af, c⟩ (takesBody g.w.params) Φ := by
  conv => arg 5; whnf
  have hcf : Callable g (.ref 93) := (fits_fn hg).cal
  unfold takesE Tk.nm Tk.us
  ((with_reducible apply ex_if; apply te_compare); exact rfl; (with_reducible apply ev_nameH); exact .tail (.tail (.tail .head)); (with_reducible exact nu_str; apply ev_strl; exact ls16; apply pr_seq; apply bool_ex))
  apply way_f; · rfl
  ((with_reducible apply ex_if; apply te_compare); exact rfl; (with_reducible apply ev_nameH); exact .tail (.tail (.tail .head)); (with_reducible exact nu_str; apply ev_strl; exact ls11; apply pr_seq; apply bool_ex))
  apply way_f; · rfl
  refine ex_newlistX fun a => ?_
  ((with_reducible apply asgX); exact .tail (.tail (.tail (.tail (.tail (.tail .head))))); exact .inl rfl)
  refine ex_for (fun _ => rfl) ?_
  ((with_reducible apply ev_nameH); exact .tail (.tail .head); (with_reducible exact nu_lst))
  refine ⟨_, itw_lst, (TkI ts name ps us a c), ⟨[], ps, by unfold takesE; (exact .same (.same (.same (.same (.same (.undefL (.same (.same (.same (.same (.same .nil))))))))))), rfl, rfl, rfl, hps, by simpa using hl⟩, ?_, ?_⟩
  · rintro x rest' ⟨e, c₁⟩ it o' ⟨acc, rps, hw, hc, hr, htot, hle, hlen⟩
    dsimp only at hw hc
    subst hc
    cases rps with
    | nil => cases hr
    | cons p rps =>
    rw [List.map_cons] at hr
    injection hr with hx hrr
    subst hx hrr
    refine as_weak hw ?_
    unfold takesE
    ((with_reducible apply as_nameX); exact .tail (.tail (.tail (.tail (.tail .head)))); exact .inl rfl)
    have hp := hle p (.head _)
    refine ex_while (TkJ ts name ps us a it o' acc c p) (name.length + 1) ⟨p, rfl, rfl, by lia, by lia⟩ ?_
    rintro f σ ⟨q, rfl, hs, hq, hf⟩
    unfold takesE
    ((with_reducible apply te_bool; apply al_and; apply te_compare); exact rfl; (with_reducible apply ev_binop; apply ev_nameH); exact .tail (.tail (.tail (.tail (.tail .head)))); (with_reducible exact nu_int; apply ev_callN); exact rfl; exact .tail (.tail (.tail (.tail (.tail (.tail (.tail (.tail (.tail .head)))))))); exact cal_bi; (with_reducible apply es_cons); exact rfl; (with_reducible apply ev_nameH); exact .tail (.tail (.tail (.tail .head))); (with_reducible exact nu_lst; apply es_nil; apply PrW.ca; apply pr_len_lst); simp; (exact Nat.le_trans (by assumption) (by decide)); (with_reducible apply pr_addN; apply ev_callN); exact rfl; exact .tail (.tail (.tail (.tail (.tail (.tail (.tail (.tail (.tail .head)))))))); exact cal_bi; (with_reducible apply es_cons); exact rfl; (with_reducible apply ev_nameH); exact .tail .head; (with_reducible exact nu_str; apply es_nil; apply PrW.ca; apply pr_len_str); (exact Nat.le_trans (by assumption) (by decide)); (with_reducible apply pr_leN; apply bool_ex))
    rw [show (us.map unitV).length = us.length from List.length_map _]
    by_cases hql : q + us.length ≤ name.length
    · apply way_t; · exact decide_eq_true hql
      ((with_reducible apply al_and; apply te_not; apply te_plain); exact rfl; (with_reducible apply ev_callN); exact rfl; exact .tail (.tail (.tail (.tail (.tail (.tail (.tail (.tail (.tail (.tail .head))))))))); assumption; (with_reducible apply es_cons); exact rfl; (with_reducible apply ev_nameH); exact .tail (.tail (.tail (.tail .head))); (with_reducible exact nu_lst; apply es_cons); exact rfl; (with_reducible apply ev_nameH); exact .tail .head; (with_reducible exact nu_str; apply es_cons); exact rfl; (with_reducible apply ev_nameH); exact .tail (.tail (.tail (.tail (.tail .head)))); (with_reducible exact nu_int; apply es_nil; apply PrW.ca))
      refine pr_fits hg (us := us) (by (exact Nat.le_trans (by assumption) (by decide))) (by (exact Nat.le_trans (by assumption) (by decide))) (by lia) hu ?_
      rw [decide_eq_true hql, Bool.true_and]
      ((with_reducible apply pb_bool))
      cases f with
      | zero => lia
      | succ f =>
      cases hfit : fits us name q with
      | true =>
        apply way_f; · rfl
        apply way_f; · rfl
        ((with_reducible apply ex_if; apply te_compare); exact rfl; (with_reducible apply ev_binop; apply ev_nameH); exact .tail (.tail (.tail (.tail (.tail .head)))); (with_reducible exact nu_int; apply ev_callN); exact rfl; exact .tail (.tail (.tail (.tail (.tail (.tail (.tail (.tail (.tail .head)))))))); exact cal_bi; (with_reducible apply es_cons); exact rfl; (with_reducible apply ev_nameH); exact .tail (.tail (.tail (.tail .head))); (with_reducible exact nu_lst; apply es_nil; apply PrW.ca; apply pr_len_lst); simp; (exact Nat.le_trans (by assumption) (by decide)); (with_reducible apply pr_addN; apply ev_callN); exact rfl; exact .tail (.tail (.tail (.tail (.tail (.tail (.tail (.tail (.tail .head)))))))); exact cal_bi; (with_reducible apply es_cons); exact rfl; (with_reducible apply ev_nameH); exact .tail .head; (with_reducible exact nu_str; apply es_nil; apply PrW.ca; apply pr_len_str); (exact Nat.le_trans (by assumption) (by decide)); (with_reducible apply pr_leN; apply bool_ex))
        rw [show (us.map unitV).length = us.length from List.length_map _]
        apply way_t; · exact decide_eq_true hql
        ((with_reducible apply ex_append); exact rfl; exact rfl; exact .tail (.tail (.tail (.tail (.tail (.tail .head))))); exact ⟨_, .tail _ (.head _)⟩; (with_reducible apply ev_binop; apply ev_nameH); exact .tail (.tail (.tail (.tail (.tail .head)))); (with_reducible exact nu_int; apply ev_callN); exact rfl; exact .tail (.tail (.tail (.tail (.tail (.tail (.tail (.tail (.tail .head)))))))); exact cal_bi; (with_reducible apply es_cons); exact rfl; (with_reducible apply ev_nameH); exact .tail (.tail (.tail (.tail .head))); (with_reducible exact nu_lst; apply es_nil; apply PrW.ca; apply pr_len_lst); simp; (exact Nat.le_trans (by assumption) (by decide)); (with_reducible apply pr_addN; apply apX); exact .tail .head; simp; lia; (with_reducible apply ex_nil; apply then_next; apply ex_nil))
        have hr : seek us name (name.length + 1) p = some q := hs.symm.trans (seek_in hql hfit)
        refine ⟨_, .head, acc ++ [q + us.length], rps, by (exact .same (.same (.same (.same (.same (.undefL (.same (.same (.same (.same (.same .nil))))))))))), by simp, rfl, ?_, fun x hx => hle x (.tail _ hx), by simp at hlen ⊢; lia⟩
        rw [← htot, List.filterMap_cons, hr]
        simp
      | false =>
        apply way_t; · rfl
        ((with_reducible apply al_and_nil))
        apply way_t; · rfl
        ((with_reducible apply ex_augH); exact .tail (.tail (.tail (.tail (.tail .head)))); (with_reducible exact nu_int; apply ev_nat; exact nn1; apply pr_iaddN; apply asgX); exact .tail (.tail (.tail (.tail (.tail .head)))); exact .inl rfl; (with_reducible apply ex_nil))
        exact ⟨f, Nat.lt_succ_self f, q + 1, rfl, (seek_on hql hfit).symm.trans hs, by lia, by lia⟩
    · apply way_f; · exact decide_eq_false hql
      apply way_f; · rfl
      ((with_reducible apply ex_if; apply te_compare); exact rfl; (with_reducible apply ev_binop; apply ev_nameH); exact .tail (.tail (.tail (.tail (.tail .head)))); (with_reducible exact nu_int; apply ev_callN); exact rfl; exact .tail (.tail (.tail (.tail (.tail (.tail (.tail (.tail (.tail .head)))))))); exact cal_bi; (with_reducible apply es_cons); exact rfl; (with_reducible apply ev_nameH); exact .tail (.tail (.tail (.tail .head))); (with_reducible exact nu_lst; apply es_nil; apply PrW.ca; apply pr_len_lst); simp; (exact Nat.le_trans (by assumption) (by decide)); (with_reducible apply pr_addN; apply ev_callN); exact rfl; exact .tail (.tail (.tail (.tail (.tail (.tail (.tail (.tail (.tail .head)))))))); exact cal_bi; (with_reducible apply es_cons); exact rfl; (with_reducible apply ev_nameH); exact .tail .head; (with_reducible exact nu_str; apply es_nil; apply PrW.ca; apply pr_len_str); (exact Nat.le_trans (by assumption) (by decide)); (with_reducible apply pr_leN; apply bool_ex))
      rw [show (us.map unitV).length = us.length from List.length_map _]
      apply way_f; · exact decide_eq_false hql
      ((with_reducible apply ex_nil; apply then_next; apply ex_nil))
      have hr : seek us name (name.length + 1) p = none := hs.symm.trans (seek_out (by (exact Nat.not_le.mp (by assumption))))
      refine ⟨_, .head, acc, rps, by (exact .same (.same (.same (.same (.same (.undefL (.same (.same (.same (.same (.same .nil))))))))))), rfl, rfl, ?_, fun x hx => hle x (.tail _ hx), by simp at hlen ⊢; (exact Nat.le_of_lt (by assumption))⟩
      rw [← htot, List.filterMap_cons, hr]
      rfl
  · rintro ⟨e, c₁⟩ ⟨acc, rps, hw, hc, hr, htot, hle, hlen⟩
    dsimp only at hw hc
    subst hc
    refine ex_weak hw ?_
    cases rps with
    | cons _ _ => cases hr
    | nil =>
    simp only [List.filterMap_nil, List.append_nil] at htot
    subst htot
    refine freezeX (e' := takesE ts name ps (.str [104, 101, 108, 100]) (.lst (us.map unitV)) .undef (natsV (step name ps (.held us)))) .head (by (exact .keep (.keep (.keep (.keep (.keep (.keep (.thaw (.keep (.keep (.keep (.keep .nil)))))))))))) ?_
    unfold takesE
    ((with_reducible apply ex_assign); exact rfl; (with_reducible apply ev_nameH); exact .tail (.tail (.tail (.tail (.tail (.tail .head))))); (with_reducible exact nu_lst; apply asgX); exact .tail (.tail .head); exact .inl rfl; (with_reducible apply ex_nil; apply then_next; apply ex_nil; apply then_next; apply ex_nil))
    exact h
end

section
structure TkOk (t : Tk) : Prop where
  len : t.us.length ≤ 90000
  sp : ∀ u ∈ t.us, u.2.length ≤ 1000000
inductive TsI (ts : List Tk) (name : List Nat) (rest : List LV) (σ : LS) : Prop
  | mk (ps : List Nat) (tl : List Tk) (h0 : Weak σ.env (takesE ts name ps .undef .undef .undef .undef)) (h1 : σ.cells = []) (h2 : rest = tl.map tokV) (h3 : tl.foldl (step name) ps = ts.foldl (step name) [0]) (h4 : (∀ p ∈ ps, p ≤ name.length)) (h5 : ps.length ≤ name.length + 1) (h6 : ∀ t ∈ tl, t ∈ ts)
theorem takes_body (hg : HG g) {ts : List Tk} {name : List Nat} (hn : name.length ≤ 90000) (hts : ∀ t ∈ ts, TkOk t) :
    ExW g F (n + 1) ⟨putAll (baseEnv [] gtab (fdAt g.w.params 98).scope.names) ([("tokens", .lst (ts.map tokV)), ("name", .str name)] : List (Str × LV)), []⟩ (bodyAt g.w.params 98) fun lf _ => lf = .ret (.bool (takesS name ts)) := by
  have e2 : putAll (baseEnv [] gtab (fdAt g.w.params 98).scope.names) ([("tokens", .lst (ts.map tokV)), ("name", .str name)] : List (Str × LV)) =
    ([("tokens", .local, .lst (ts.map tokV)), ("name", .own, .str name), ("places", .local, .undef), ("kind", .local, .undef), ("units", .own, .undef), ("place", .local, .undef), ("after", .local, .undef),
   ("list", .glob, .raw (.type "list")), ("range", .glob, .raw (.type "range")), ("len", .glob, .raw (.builtin "len")), ("_law_fits", .glob, .raw (.ref 93))] : List (Str × Loc × LV)) := rfl
  rw [e2]
  clear e2
  conv => arg 5; whnf
  ((with_reducible apply ex_assign); exact rfl; (with_reducible apply ev_list; apply es_cons); exact rfl; (with_reducible apply ev_nat; exact nn0; apply es_nil; apply lenOk); exact rfl; (with_reducible apply asgX); exact .tail (.tail .head); exact .inl rfl)
  refine ex_for (fun _ => rfl) ?_
  ((with_reducible apply ev_nameH); exact .head; (with_reducible exact nu_lst))
  refine ⟨_, itw_lst, (TsI ts name),
    ⟨[0], ts, by unfold takesE; (exact .same (.same (.same (.undefL (.undefO (.undefL (.undefL (.same (.same (.same (.same .nil))))))))))), rfl, rfl, rfl, by simp, by simp, fun t h => h⟩, ?_, ?_⟩
  · rintro x rest' ⟨e, c⟩ it o' ⟨ps, tl, hw, hc, hr, hf, hps, hl, hin⟩
    dsimp only at hw hc
    subst hc
    cases tl with
    | nil => cases hr
    | cons t tl =>
    rw [List.map_cons] at hr
    injection hr with hx hrr
    subst hx hrr
    have ht := hts t (hin t (.head _))
    have st := step_le hps hl t
    refine as_weak hw ?_
    unfold takesE
    ((with_reducible apply as_tuple); exact rfl; exact rfl; (with_reducible apply assW_cons; apply as_nameX); exact .tail (.tail (.tail .head)); exact .inl rfl; (with_reducible apply assW_cons; apply as_nameX); exact .tail (.tail (.tail (.tail .head))); exact .inr rfl; (with_reducible apply assW_nil))
    have fin : ∀ (k u pl af : LV), ∃ c', CDel [(it, Ct.raw o')] it (.raw o') c' ∧ TsI ts name (tl.map tokV) ⟨takesE ts name (step name ps t) k u pl af, c'⟩ :=
      fun k u pl af => ⟨[], .head, step name ps t, tl, by unfold takesE; (exact .same (.same (.same (.undefL (.undefO (.undefL (.undefL (.same (.same (.same (.same .nil))))))))))), rfl, rfl, hf, st.1, st.2, fun x h => hin x (.tail _ h)⟩
    cases t with
    | run =>
      refine run_turn (ts := ts) (pl := .undef) (af := .undef) hg hn hps hl ?_
      exact fin _ _ _ _
    | one u =>
      refine one_turn (ts := ts) (pl := .undef) (af := .undef) hg (ht.sp u (.head _)) hn hps hl ?_
      exact fin _ _ _ _
    | held us =>
      refine held_turn (ts := ts) (us := us) (pl := .undef) (af := .undef) hg ht.len ht.sp hn hps hl ?_
      exact fin _ _ _ _
  · rintro ⟨e, c⟩ ⟨ps, tl, hw, hc, hr, hf, hps, hl, hin⟩
    dsimp only at hw hc
    subst hc
    refine ex_weak hw ?_
    cases tl with
    | cons _ _ => cases hr
    | nil =>
    unfold takesE
    ((with_reducible apply ex_return; apply ev_compare); exact rfl; (with_reducible apply ev_callN); exact rfl; exact .tail (.tail (.tail (.tail (.tail (.tail (.tail (.tail (.tail .head)))))))); exact cal_bi; (with_reducible apply es_cons); exact rfl; (with_reducible apply ev_nameH); exact .tail .head; (with_reducible exact nu_str; apply es_nil; apply PrW.ca; apply pr_len_str); (exact Nat.le_trans (by assumption) (by decide)); (with_reducible apply ev_nameH); exact .tail (.tail .head); (with_reducible exact nu_lst))
    have e : natsV ps = .lst ((ps.map fun (p : Nat) => (p : Int)).map .int) := by unfold natsV; rw [List.map_map]; rfl
    rw [e]
    refine pr_int_in ?_
    skip
    unfold takesS
    rw [← hf]
    have : (ps.map fun (p : Nat) => (p : Int)).contains (name.length : Int) = ps.contains name.length := by
      rw [Bool.eq_iff_iff]
      simp only [List.contains_iff_mem, List.mem_map]
      exact ⟨fun ⟨a, h, e⟩ => (Int.ofNat.inj e) ▸ h, fun h => ⟨_, h, rfl⟩⟩
    rw [this]; rfl
theorem takes_fn (h : HG g) : FnOkE g 98 (["tokens", "name"] : List Str) :=
  fn_ok h (by decide) rfl rfl fun _ _ _ => of2 fun _ _ => rfl
theorem pr_takes (h : HG g) {ts : List Tk} {name : List Nat} (hn : name.length ≤ 90000) (hts : ∀ t ∈ ts, TkOk t) {Φ : LV → Prop} (hΦ : Φ (.bool (takesS name ts))) :
    PrW g (n + 2) [.lst (ts.map tokV), .str name] (fun vs => call (.ref 98) vs) Φ :=
  pr_fnE (takes_fn h) h.gt rfl fun F => (takes_body h hn hts).mono fun lf _ e => by rw [e]; exact hΦ
end

section
theorem unitS_pos {s : List Nat} {u : LUnit} {m : Nat} (h : unitS s = some (u, m)) : 1 ≤ m := by
  unfold unitS at h
  split at h
  · cases h
  · split at h
    · cases h; exact Nat.le_refl _
    · split at h
      · cases h; lia
      · split at h
        · split at h
          · cases h; exact Nat.le_refl _
          · split at h
            · cases h
            · cases h; lia
        · split at h
          · cases h
          · dsimp only at h
            split at h
            · cases h
            · cases h; lia
noncomputable abbrev toksE (text : List Nat) (tv : LV) (k us u : LV) : List (Str × Loc × LV) :=
  [("text", .local, .str text), ("tokens", .local, tv), ("k", .local, k), ("units", .local, us), ("unit", .local, u), ("len", .glob, .raw (.builtin "len")), ("_law_unit", .glob, .raw (.ref 81))]
noncomputable def toksBody (p : Params) : List Stmt := loopOf ((bodyAt p 88).drop 3)
inductive TuI (text : List Nat) (a b : Addr) (ts : List Tk) (us : List LUnit) (k J : Nat) (f : Nat) (σ : LS) : Prop
  | mk (K : Nat) (acc : List LUnit) (j : Nat) (h0 : Weak σ.env (toksE text (.raw (.ref a)) (.int (K : Nat)) (.raw (.ref b)) .undef)) (h1 : σ.cells = [(b, .lst (acc.map unitV)), (a, .lst (ts.map tokV))]) (h2 : unitsS f (text.drop K) acc = some (us, j)) (h3 : K + j = k + 6 + J) (h4 : acc.length ≤ K)
theorem tok_turn (hg : HG g) {text : List Nat} {k : Nat} (hn : text.length ≤ 1000000) (hk : k ≤ text.length) {t : Tk} {m : Nat} (ht : tokS (text.drop k) = some (t, m)) {a : Addr} {ts : List Tk} (hts : ts.length ≤ k) {us₀ u₀ : LV} {Φ : LFl → LS → Prop}
    (h : ∀ us u, Φ .next ⟨toksE text (.raw (.ref a)) (.int (k + m : Nat)) us u, [(a, .lst ((ts ++ [t]).map tokV))]⟩) :
    ExW g F (n + 1) ⟨toksE text (.raw (.ref a)) (.int k) us₀ u₀, [(a, .lst (ts.map tokV))]⟩ (toksBody g.w.params) Φ := by
  conv => arg 5; whnf
  have hcf : Callable g (.ref 81) := (unit_fn hg).cal
  have mid6 : mid text k (k + 6) = (text.drop k).take 6 := by unfold mid; rw [Nat.add_sub_cancel_left]
  have mid2 : mid text k (k + 2) = (text.drop k).take 2 := by unfold mid; rw [Nat.add_sub_cancel_left]
  unfold toksE
  unfold tokS at ht
  ((with_reducible apply ex_if; apply te_compare); exact rfl; (with_reducible apply ev_sub; apply ev_nameH); exact .head; (with_reducible exact nu_str; apply ev_slice; apply ow_some; apply ev_nameH); exact .tail (.tail .head); (with_reducible exact nu_int; apply ow_some; apply ev_binop; apply ev_nameH); exact .tail (.tail .head); (with_reducible exact nu_int; apply ev_nat; exact nn6; apply pr_addN; apply si_str_mid); assumption; (with_reducible apply ev_strl; exact ls12; apply pr_seq; apply bool_ex))
  rw [mid6]
  by_cases h6 : (text.drop k).take 6 = [40, 63, 62, 46, 42, 63]
  · rw [if_pos h6] at ht
    apply way_t; · exact beq_iff_eq.mpr h6
    ((with_reducible apply ex_augH); exact .tail (.tail .head); (with_reducible exact nu_int; apply ev_nat; exact nn6; apply pr_iaddN; apply asgX); exact .tail (.tail .head); exact .inl rfl)
    cases hus : unitsS ((text.drop k).length + 1) ((text.drop k).drop 6) [] with
    | none => rw [hus] at ht; cases ht
    | some r =>
    obtain ⟨us, J⟩ := r
    rw [hus] at ht
    cases ht
    rw [List.drop_drop] at hus
    have hl6 : k + 6 ≤ text.length := by
      have := congrArg List.length h6
      simp at this
      lia
    refine ex_newlistF fun b hb => ?_
    have hab : a ≠ b := hb _ (.head _)
    ((with_reducible apply asgX); exact .tail (.tail (.tail .head)); exact .inl rfl)
    refine ex_while (TuI text a b ts us k J) _ ⟨k + 6, [], J, by unfold toksE; (exact .same (.same (.same (.same (.undefL (.same (.same .nil))))))), rfl, hus, rfl, Nat.zero_le _⟩ ?_
    rintro f ⟨e, c⟩ ⟨K, acc, j, hw, hc, hsp, hK, hle⟩
    dsimp only at hw hc
    subst hc
    refine te_weak hw ?_
    unfold toksE
    have at' : text[K]? = (text.drop K)[0]? := by rw [List.getElem?_drop, Nat.add_zero]
    cases f with
    | zero => cases hsp
    | succ f =>
    unfold unitsS at hsp
    cases h0 : (text.drop K)[0]? with
    | none => rw [h0] at hsp; cases hsp
    | some c0 =>
    rw [h0] at hsp
    dsimp only at hsp
    have hkk : text[K]? = some c0 := at'.trans h0
    have hkl : K < text.length := (List.getElem?_eq_some_iff.mp hkk).1
    ((with_reducible apply te_compare); exact rfl; (with_reducible apply ev_sub; apply ev_nameH); exact .head; (with_reducible exact nu_str; apply ev_nameH); exact .tail (.tail .head); (with_reducible exact nu_int; apply si_strN); assumption; (exact Nat.le_trans (Nat.le_of_lt (by assumption)) (Nat.le_trans (by assumption) (by decide))); (with_reducible apply ev_strl; exact ls13; apply pr_sne; apply bool_ex))
    by_cases h41 : c0 = 41
    · rw [if_pos h41] at hsp
      cases hsp
      apply way_f; · exact sne_f h41
      refine freezeX (e' := toksE text (.raw (.ref a)) (.int (K : Nat)) (.lst (us.map unitV)) .undef) .head (by (exact .keep (.keep (.keep (.thaw (.keep (.keep (.keep .nil)))))))) ?_
      unfold toksE
      ((with_reducible apply ex_append); exact rfl; exact rfl; exact .tail .head; exact ⟨_, .head _⟩; (with_reducible apply ev_tuple; apply es_cons); exact rfl; (with_reducible apply ev_strl; exact ls14; apply es_cons); exact rfl; (with_reducible apply ev_nameH); exact .tail (.tail (.tail .head)); (with_reducible exact nu_lst; apply es_nil; apply lenOk); exact rfl; (with_reducible apply apX); exact .head; simp; lia; (with_reducible apply ex_augH); exact .tail (.tail .head); (with_reducible exact nu_int; apply ev_nat; exact nn1; apply pr_iaddN; apply asgX); exact .tail (.tail .head); exact .inl rfl; (with_reducible apply ex_nil; apply then_next; apply ex_nil))
      have := h (.lst (us.map unitV)) .undef
      rw [List.map_append, show k + (6 + J + 1) = K + 1 by lia] at this
      exact this
    · rw [if_neg h41] at hsp
      apply way_t; · exact sne_t h41
      cases hu : unitS (text.drop K) with
      | none => rw [hu] at hsp; cases hsp
      | some r =>
      obtain ⟨u, m⟩ := r
      rw [hu] at hsp
      dsimp only at hsp
      cases hr : unitsS f ((text.drop K).drop m) (acc ++ [u]) with
      | none => rw [hr] at hsp; cases hsp
      | some r =>
      obtain ⟨us', j'⟩ := r
      rw [hr] at hsp
      cases hsp
      rw [List.drop_drop] at hr
      ((with_reducible apply ex_assign_tup); exact rfl; exact rfl; (with_reducible apply ev_callN); exact rfl; exact .tail (.tail (.tail (.tail (.tail (.tail .head))))); assumption; (with_reducible apply es_cons); exact rfl; (with_reducible apply ev_nameH); exact .head; (with_reducible exact nu_str; apply es_cons); exact rfl; (with_reducible apply ev_nameH); exact .tail (.tail .head); (with_reducible exact nu_int; apply es_nil; apply PrW.ca))
      refine pr_unit hg hn hu ?_
      ((with_reducible apply as_tuple); exact rfl; exact rfl; (with_reducible apply assW_cons; apply as_nameX); exact .tail (.tail (.tail (.tail .head))); exact .inl rfl; (with_reducible apply assW_cons; apply as_nameX); exact .tail (.tail .head); exact .inl rfl; (with_reducible apply assW_nil; apply ex_append); exact rfl; exact rfl; exact .tail (.tail (.tail .head)); exact ⟨_, .head _⟩; (with_reducible apply ev_nameH); exact .tail (.tail (.tail (.tail .head))); (with_reducible exact nu_tup; apply apX); exact .head; simp; lia; (with_reducible apply ex_nil))
      have hm := unitS_pos hu
      exact ⟨f, Nat.lt_succ_self f, K + m, acc ++ [u], j', by (exact .same (.same (.same (.same (.undefL (.same (.same .nil))))))), by simp, hr, by lia, by simp; lia⟩
  · rw [if_neg h6] at ht
    apply way_f; · simpa using h6
    ((with_reducible apply ex_if; apply te_compare); exact rfl; (with_reducible apply ev_sub; apply ev_nameH); exact .head; (with_reducible exact nu_str; apply ev_slice; apply ow_some; apply ev_nameH); exact .tail (.tail .head); (with_reducible exact nu_int; apply ow_some; apply ev_binop; apply ev_nameH); exact .tail (.tail .head); (with_reducible exact nu_int; apply ev_nat; exact nn2; apply pr_addN; apply si_str_mid); assumption; (with_reducible apply ev_strl; exact ls15; apply pr_seq; apply bool_ex))
    rw [mid2]
    by_cases h2 : (text.drop k).take 2 = [46, 42]
    · rw [if_pos h2] at ht
      cases ht
      apply way_t; · exact beq_iff_eq.mpr h2
      ((with_reducible apply ex_append); exact rfl; exact rfl; exact .tail .head; exact ⟨_, .head _⟩; (with_reducible apply ev_tuple; apply es_cons); exact rfl; (with_reducible apply ev_strl; exact ls16; apply es_cons); exact rfl; (with_reducible apply ev_list; apply es_nil; apply lenOk); exact rfl; (with_reducible apply es_nil; apply lenOk); exact rfl; (with_reducible apply apX); exact .head; simp; lia; (with_reducible apply ex_augH); exact .tail (.tail .head); (with_reducible exact nu_int; apply ev_nat; exact nn2; apply pr_iaddN; apply asgX); exact .tail (.tail .head); exact .inl rfl; (with_reducible apply ex_nil; apply then_next; apply ex_nil; apply then_next; apply ex_nil))
      have := h us₀ u₀
      rw [List.map_append] at this
      exact this
    · rw [if_neg h2] at ht
      apply way_f; · simpa using h2
      cases hu : unitS (text.drop k) with
      | none => rw [hu] at ht; cases ht
      | some r =>
      obtain ⟨u, m'⟩ := r
      rw [hu] at ht
      cases ht
      ((with_reducible apply ex_assign_tup); exact rfl; exact rfl; (with_reducible apply ev_callN); exact rfl; exact .tail (.tail (.tail (.tail (.tail (.tail .head))))); assumption; (with_reducible apply es_cons); exact rfl; (with_reducible apply ev_nameH); exact .head; (with_reducible exact nu_str; apply es_cons); exact rfl; (with_reducible apply ev_nameH); exact .tail (.tail .head); (with_reducible exact nu_int; apply es_nil; apply PrW.ca))
      refine pr_unit hg hn hu ?_
      ((with_reducible apply as_tuple); exact rfl; exact rfl; (with_reducible apply assW_cons; apply as_nameX); exact .tail (.tail (.tail (.tail .head))); exact .inl rfl; (with_reducible apply assW_cons; apply as_nameX); exact .tail (.tail .head); exact .inl rfl; (with_reducible apply assW_nil; apply ex_append); exact rfl; exact rfl; exact .tail .head; exact ⟨_, .head _⟩; (with_reducible apply ev_tuple; apply es_cons); exact rfl; (with_reducible apply ev_strl; exact ls11; apply es_cons); exact rfl; (with_reducible apply ev_list; apply es_cons); exact rfl; (with_reducible apply ev_nameH); exact .tail (.tail (.tail (.tail .head))); (with_reducible exact nu_tup; apply es_nil; apply lenOk); exact rfl; (with_reducible apply es_nil; apply lenOk); exact rfl; (with_reducible apply apX); exact .head; simp; lia; (with_reducible apply ex_nil; apply then_next; apply ex_nil; apply then_next; apply ex_nil))
      have := h us₀ (unitV u)
      rw [List.map_append] at this
      exact this
end

section
theorem tokS_pos {s : List Nat} {t : Tk} {m : Nat} (h : tokS s = some (t, m)) : 1 ≤ m := by
  unfold tokS at h
  split at h
  · split at h
    · cases h
    · cases h; lia
  · split at h
    · cases h; lia
    · split at h
      · cases h
      · rename_i hu
        cases h
        exact unitS_pos hu
inductive TtI (text : List Nat) (a : Addr) (ts : List Tk) (f : Nat) (σ : LS) : Prop
  | mk (K : Nat) (acc : List Tk) (h0 : Weak σ.env (toksE text (.raw (.ref a)) (.int (K : Nat)) .undef .undef)) (h1 : σ.cells = [(a, .lst (acc.map tokV))]) (h2 : toksS f (text.drop K) acc = some ts) (h3 : acc.length ≤ K)
theorem toks_body (hg : HG g) {text : List Nat} (hn : text.length ≤ 1000000) (h3 : 3 ≤ text.length) (hpre : cut text none (some 4) = [40, 63, 115, 58]) (hsuf : cut text (some (-3)) none = [41, 92, 90]) {f : Nat} {ts : List Tk} (ht : toksS f (text.drop 4) [] = some ts) :
    ExW g F (n + 1) ⟨putAll (baseEnv [] gtab (fdAt g.w.params 88).scope.names) ([("text", .str text)] : List (Str × LV)), []⟩ (bodyAt g.w.params 88) fun lf _ => lf = .ret (.lst (ts.map tokV)) := by
  have e2 : putAll (baseEnv [] gtab (fdAt g.w.params 88).scope.names) ([("text", .str text)] : List (Str × LV)) = toksE text .undef .undef .undef .undef := rfl
  rw [e2]
  clear e2
  conv => arg 5; whnf
  unfold toksE
  ((with_reducible apply ex_if; apply te_bool; apply al_or; apply te_compare); exact rfl; (with_reducible apply ev_sub; apply ev_nameH); exact .head; (with_reducible exact nu_str; apply ev_slice; apply ow_none; apply ow_some; apply ev_nat; exact nn4))
  refine si_str_cut hn rfl rfl ?_
  rw [show cut text none (some ((4 : Nat) : Int)) = [40, 63, 115, 58] from hpre]
  ((with_reducible apply ev_strl; exact ls9; apply pr_sne; apply bool_ex))
  apply yaw_f; · rfl
  ((with_reducible apply al_or; apply te_compare); exact rfl; (with_reducible apply ev_sub; apply ev_nameH); exact .head; (with_reducible exact nu_str; apply ev_slice; apply ow_some; apply ev_unary; apply ev_nat; exact nn3; apply pr_neg; apply ow_none))
  refine si_str_cut hn rfl rfl ?_
  rw [show cut text (some (-((3 : Nat) : Int))) none = [41, 92, 90] from hsuf]
  ((with_reducible apply ev_strl; exact ls10; apply pr_sne; apply bool_ex))
  apply yaw_f; · rfl
  ((with_reducible apply al_or_nil))
  apply way_f; · rfl
  ((with_reducible apply ex_nil; apply then_next))
  refine ex_newlistX fun a => ?_
  ((with_reducible apply asgX); exact .tail .head; exact .inl rfl)
  ((with_reducible apply ex_assign); exact rfl; (with_reducible apply ev_nat; exact nn4; apply asgX); exact .tail (.tail .head); exact .inl rfl)
  refine ex_while (TtI text a ts) f ⟨4, [], by unfold toksE; (exact .same (.same (.same (.undefL (.undefL (.same (.same .nil))))))), rfl, ht, Nat.zero_le _⟩ ?_
  rintro f ⟨e, c⟩ ⟨K, acc, hw, hc, hsp, hle⟩
  dsimp only at hw hc
  subst hc
  refine te_weak hw ?_
  unfold toksE
  ((with_reducible apply te_compare); exact rfl; (with_reducible apply ev_nameH); exact .tail (.tail .head); (with_reducible exact nu_int; apply ev_binop; apply ev_callN); exact rfl; exact .tail (.tail (.tail (.tail (.tail .head)))); exact cal_bi; (with_reducible apply es_cons); exact rfl; (with_reducible apply ev_nameH); exact .head; (with_reducible exact nu_str; apply es_nil; apply PrW.ca; apply pr_len_str); assumption; (with_reducible apply ev_nat; exact nn3; apply pr_subN); assumption; (with_reducible apply pr_ltN; apply bool_ex))
  cases f with
  | zero => cases hsp
  | succ f =>
  unfold toksS at hsp
  rw [List.length_drop] at hsp
  by_cases hK : K < text.length - 3
  · rw [if_pos (by lia)] at hsp
    apply way_t; · exact decide_eq_true hK
    cases htk : tokS (text.drop K) with
    | none => rw [htk] at hsp; cases hsp
    | some r =>
    obtain ⟨t, m⟩ := r
    rw [htk] at hsp
    dsimp only at hsp
    rw [List.drop_drop] at hsp
    have hm := tokS_pos htk
    refine tok_turn hg hn (by lia) htk hle fun us u => ?_
    exact ⟨f, Nat.lt_succ_self f, K + m, acc ++ [t], by unfold toksE; (exact .same (.same (.same (.undefL (.undefL (.same (.same .nil))))))), rfl, hsp, by simp; lia⟩
  · rw [if_neg (by lia)] at hsp
    cases hsp
    apply way_f; · exact decide_eq_false hK
    refine freezeX (e' := toksE text (.lst (ts.map tokV)) (.int (K : Nat)) .undef .undef) .head (by (exact .keep (.thaw (.keep (.keep (.keep (.keep (.keep .nil)))))))) ?_
    unfold toksE
    ((with_reducible apply ex_return; apply ev_nameH); exact .tail .head; (with_reducible exact nu_lst))
    rfl
theorem toks_fn (h : HG g) : FnOkE g 88 (["text"] : List Str) :=
  fn_ok h (by decide) rfl rfl fun _ _ _ => of1 fun _ => rfl
theorem pr_toks (h : HG g) {text : List Nat} (hn : text.length ≤ 1000000) (h3 : 3 ≤ text.length) (hpre : cut text none (some 4) = [40, 63, 115, 58]) (hsuf : cut text (some (-3)) none = [41, 92, 90]) {f : Nat} {ts : List Tk} (ht : toksS f (text.drop 4) [] = some ts) {Φ : LV → Prop} (hΦ : Φ (.lst (ts.map tokV))) :
    PrW g (n + 2) [.str text] (fun vs => call (.ref 88) vs) Φ :=
  pr_fnE (toks_fn h) h.gt rfl fun F => (toks_body h hn h3 hpre hsuf ht).mono fun lf _ e => by rw [e]; exact hΦ
end

section
noncomputable abbrev itemV (i : Item) : LV := .tup [.str i.written, .bool i.barred, .lst (i.spans.map spanV)]
noncomputable abbrev strsV (ws : List (List Nat)) : LV := .lst (ws.map .str)
noncomputable abbrev wantsE (is : List Item) (name : List Nat) (ws : List (List Nat)) (w b s m : LV) : List (Str × Loc × LV) :=
  [("items", .local, .lst (is.map itemV)), ("name", .own, .str name), ("signs", .local, .lst ((signsS name).map fun s => .str [s])), ("wants", .local, strsV ws), ("written", .local, w), ("barred", .own, b), ("spans", .own, s), ("meant", .own, m)]
noncomputable def wantsBody (p : Params) : List Stmt := loopOf ((bodyAt p 115).drop 2)
theorem cl_next {elt target iter : Expr} {ifs : List Expr} {gs : List Comprehension} {e e₀ : List (Str × Loc × LV)} {out : List LV} (hf : ∀ x, foldedSetIterable iter F.env x = pure x)
    (h : ∀ c, EvW g F n ⟨e, c⟩ iter fun lv σ₂ => σ₂.cells = c ∧ ∃ items outs e₂, Weak σ₂.env e₂ ∧ Weak e₂ e₀ ∧ ItW g n target lv items ∧ out = List.flatten outs ∧
      All2 (fun x o => ∀ c', AsW g F n ⟨e₂, c'⟩ target x fun σ₃ => σ₃.cells = c' ∧ ClW g F n elt gs ifs σ₃.env o e₂) items outs) : ClW g F n elt (⟨target, iter, ifs, 0⟩ :: gs) [] e out e₀ :=
  ⟨rfl, hf, fun c => ⟨fun _ => h c, (fun e => nomatch e)⟩⟩
theorem want_turn (hg : HG g) {is : List Item} {name : List Nat} {ws : List (List Nat)} {i : Item} {m : LV} (hsp : i.spans.length ≤ 1000000) (hw : ∀ w ∈ ws, w.length ≤ 900000) (hl : ws.length ≤ 1000000) (hl' : (wantStep name ws i).length ≤ 1000000) {c : List (Addr × Ct)} {Φ : LFl → LS → Prop}
    (h : ∀ m, Φ .next ⟨wantsE is name (wantStep name ws i) (.str i.written) (.bool i.barred) (.lst (i.spans.map spanV)) m, c⟩) :
    ExW g F n ⟨wantsE is name ws (.str i.written) (.bool i.barred) (.lst (i.spans.map spanV)) m, c⟩ (wantsBody g.w.params) Φ := by
  conv => arg 5; whnf
  unfold wantsE
  unfold wantStep at h hl'
  skip
  by_cases h42 : i.written = [42]
  · rw [if_pos h42] at h
    refine ex_if ?_
    ((with_reducible apply te_compare); exact rfl; (with_reducible apply ev_nameH); exact .tail (.tail (.tail (.tail .head))); (with_reducible exact nu_str; apply ev_strl; exact ls18; apply pr_seq; apply bool_ex))
    apply way_t; · exact beq_iff_eq.mpr h42
    refine ex_compX (by (exact .tail (.tail (.tail .head)))) rfl hg.gt (by decide) rfl (fun _ => rfl) rfl ?_
    ((with_reducible apply ev_nameH); exact .tail (.tail (.tail .head)); (with_reducible exact nu_lst))
    refine ⟨_, ws.map fun w => [.str (w ++ [46, 46, 46])], ([(".0", .local, .undef), ("want", .local, .undef)] : List (Str × Loc × LV)), rfl, itw_lst, by rw [flat_one]; simpa using hl, fun F' => all2_map fun w hw' c' => ?_, ?_⟩
    · have hlw := hw w hw'
      ((with_reducible apply as_nameX); exact .tail .head; exact .inl rfl)
      refine ⟨rfl, cl_last fun c => ?_⟩
      ((with_reducible apply ev_binop; apply ev_nameH); exact .tail .head; (with_reducible exact nu_str; apply ev_strl; exact ls33))
      refine pr_sadd (by simp; (exact Nat.le_trans (by assumption) (by decide))) ?_
      exact ⟨rfl, rfl, by (exact .undefL (.undefL .nil))⟩
    rw [flat_one]
    ((with_reducible apply asgX); exact .tail (.tail (.tail .head)); exact .inl rfl; (with_reducible apply ex_nil; apply then_next; apply ex_nil))
    have := h m
    unfold wantsE at this
    rw [show strsV (ws.map fun w => w ++ [46, 46, 46]) = .lst (ws.map fun w => .str (w ++ [46, 46, 46])) from by unfold strsV; rw [List.map_map]; rfl] at this
    exact this
  · rw [if_neg h42] at h hl'
    refine ex_if ?_
    ((with_reducible apply te_compare); exact rfl; (with_reducible apply ev_nameH); exact .tail (.tail (.tail (.tail .head))); (with_reducible exact nu_str; apply ev_strl; exact ls18; apply pr_seq; apply bool_ex))
    apply way_f; · simpa using h42
    refine ex_assign_own (w := m) (Has.mem (by (exact .tail (.tail (.tail (.tail (.tail (.tail (.tail .head))))))))) ?_
    refine (ev_compX hg.gt (by decide) rfl (fun _ => rfl) rfl ?_)
    ((with_reducible apply ev_nameH); exact .tail (.tail .head); (with_reducible exact nu_lst))
    refine ⟨_, (signsS name).map fun s => if unitFits (i.barred, i.spans) s then [.str [s]] else [], ([(".0", .local, .undef), ("sign", .own, .undef), ("any", .glob, .raw (.builtin "any")), ("barred", .fixed, .bool i.barred), ("spans", .fixed, .lst (i.spans.map spanV))] : List (Str × Loc × LV)), rfl, itw_lst, ?_, fun F' => all2_map fun s _ c' => ?_, ?_⟩
    · rw [flat_if, List.length_map]
      refine Nat.le_trans (List.length_filter_le _ _) (Nat.le_trans (List.length_filter_le _ _) ?_)
      decide
    · ((with_reducible apply as_nameX); exact .tail .head; exact .inr rfl)
      refine ⟨rfl, cl_if fun c => ?_⟩
      ((with_reducible apply te_compare); exact rfl; (with_reducible apply ev_nameH); exact .tail (.tail (.tail .head)); (with_reducible exact nu_bool; apply ev_callN); exact rfl; exact .tail (.tail .head); exact cal_bi; (with_reducible apply es_cons); exact rfl)
      refine ev_compX hg.gt (by decide) rfl (fun _ => rfl) rfl ?_
      ((with_reducible apply ev_nameH); exact .tail (.tail (.tail (.tail .head))); (with_reducible exact nu_lst))
      refine ⟨_, i.spans.map fun p => [.bool (decide (p.1 ≤ s) && decide (s ≤ p.2))], ([(".0", .local, .undef), ("first", .local, .undef), ("last", .local, .undef), ("sign", .fixed, .str [s])] : List (Str × Loc × LV)), rfl, itw_lst, by rw [flat_one]; simpa using hsp, fun F' => all2_map fun p _ c' => ?_, ?_⟩
      · ((with_reducible apply as_tuple); exact rfl; exact rfl; (with_reducible apply assW_cons; apply as_nameX); exact .tail .head; exact .inl rfl; (with_reducible apply assW_cons; apply as_nameX); exact .tail (.tail .head); exact .inl rfl; (with_reducible apply assW_nil))
        refine ⟨rfl, cl_last fun c => ?_⟩
        ((with_reducible apply ev_chain2); exact rfl; (with_reducible apply ev_nameH); exact .tail .head; (with_reducible exact nu_str; apply ev_nameH); exact .tail (.tail (.tail .head)); (with_reducible exact nu_str; apply pr_sle1; apply bool_ex))
        refine ⟨fun hb => ?_, fun hb => ?_⟩
        · rw [hb]
          exact ⟨rfl, rfl, by (exact .undefL (.undefL (.undefL (.same .nil))))⟩
        · ((with_reducible apply ev_nameH); exact .tail (.tail .head); (with_reducible exact nu_str; apply pr_sle1))
          rw [hb]
          exact ⟨rfl, rfl, by (exact .undefL (.undefL (.undefL (.same .nil))))⟩
      rw [flat_one, show (i.spans.map fun p => LV.bool (decide (p.1 ≤ s) && decide (s ≤ p.2))) = (i.spans.map fun p => decide (p.1 ≤ s) && decide (s ≤ p.2)).map .bool from by simp]
      ((with_reducible apply es_nil; apply PrW.ca; apply pr_any; apply pr_bne; apply bool_ex))
      rw [show (i.spans.map fun p => decide (p.1 ≤ s) && decide (s ≤ p.2)).any id = i.spans.any fun p => decide (p.1 ≤ s) && decide (s ≤ p.2) from by rw [List.any_map]; rfl]
      refine ⟨fun hb => ?_, fun hb => ?_⟩
      · ((with_reducible apply ev_nameH); exact .tail .head; (with_reducible exact nu_str))
        rw [show unitFits (i.barred, i.spans) s = true from hb]
        exact ⟨rfl, rfl, by (exact .undefL (.undefO (.same (.same (.same .nil)))))⟩
      · rw [show unitFits (i.barred, i.spans) s = false from hb]
        exact ⟨rfl, rfl, by (exact .undefL (.undefO (.same (.same (.same .nil)))))⟩
    rw [flat_if]
    ((with_reducible apply asgX); exact .tail (.tail (.tail (.tail (.tail (.tail (.tail .head)))))); exact .inr rfl)
    refine ex_compX (by (exact .tail (.tail (.tail .head)))) rfl hg.gt (by decide) rfl (fun _ => rfl) rfl ?_
    ((with_reducible apply ev_nameH); exact .tail (.tail (.tail .head)); (with_reducible exact nu_lst))
    have hfl : (ws.map fun w => ((signsS name).filter (unitFits (i.barred, i.spans))).map fun s => LV.str (w ++ [s])).flatten = ((ws.map fun w => ((signsS name).filter fun s => unitFits (i.barred, i.spans) s).map fun s => w ++ [s]).flatten).map .str := by
      rw [List.map_flatten, List.map_map]
      congr 1
      refine List.map_congr_left fun w _ => ?_
      simp only [Function.comp, List.map_map]
      rfl
    refine ⟨_, ws.map fun w => ((signsS name).filter (unitFits (i.barred, i.spans))).map fun s => .str (w ++ [s]), ([(".0", .local, .undef), ("want", .local, .undef), ("sign", .local, .undef), ("meant", .fixed, .lst (((signsS name).filter (unitFits (i.barred, i.spans))).map fun s => .str [s]))] : List (Str × Loc × LV)), rfl, itw_lst, by rw [hfl, List.length_map]; exact hl', fun F' => all2_map fun w hw' c' => ?_, ?_⟩
    · have hlw := hw w hw'
      ((with_reducible apply as_nameX); exact .tail .head; exact .inl rfl)
      refine ⟨rfl, cl_next (fun _ => rfl) fun c => ?_⟩
      ((with_reducible apply ev_nameH); exact .tail (.tail (.tail .head)); (with_reducible exact nu_lst))
      refine ⟨rfl, _, ((signsS name).filter (unitFits (i.barred, i.spans))).map fun s => [.str (w ++ [s])], _, Weak.refl _, by (exact .undefL (.undefL (.undefL (.same .nil)))), itw_lst, by rw [flat_one], all2_map fun s _ c' => ?_⟩
      ((with_reducible apply as_nameX); exact .tail (.tail .head); exact .inl rfl)
      refine ⟨rfl, cl_last fun c => ?_⟩
      ((with_reducible apply ev_binop; apply ev_nameH); exact .tail .head; (with_reducible exact nu_str; apply ev_nameH); exact .tail (.tail .head); (with_reducible exact nu_str))
      refine pr_sadd (by simp; (exact Nat.le_trans (by assumption) (by decide))) ?_
      exact ⟨rfl, rfl, by (exact .undefL (.same (.undefL (.same .nil))))⟩
    rw [hfl]
    ((with_reducible apply asgX); exact .tail (.tail (.tail .head)); exact .inl rfl; (with_reducible apply ex_nil; apply then_next; apply ex_nil))
    exact h _
end

section
theorem wantStep_len {name : List Nat} {ws : List (List Nat)} {i : Item} {k : Nat} (h : ∀ w ∈ ws, w.length ≤ k) : ∀ w ∈ wantStep name ws i, w.length ≤ k + 3 := by
  intro w hw
  unfold wantStep at hw
  split at hw
  · obtain ⟨v, hv, rfl⟩ := List.mem_map.mp hw
    have := h v hv
    simp; assumption
  · obtain ⟨l, hl, hw⟩ := List.mem_flatten.mp hw
    obtain ⟨v, hv, rfl⟩ := List.mem_map.mp hl
    obtain ⟨s, _, rfl⟩ := List.mem_map.mp hw
    have := h v hv
    simp; lia
inductive WaI (is : List Item) (name : List Nat) (rest : List LV) (σ : LS) : Prop
  | mk (pre suf : List Item) (h0 : is = pre ++ suf) (h1 : Weak σ.env (wantsE is name (pre.foldl (wantStep name) [[]]) .undef .undef .undef .undef)) (h2 : σ.cells = []) (h3 : rest = suf.map itemV) (h4 : (∀ w ∈ pre.foldl (wantStep name) [[]], w.length ≤ 3 * pre.length))
theorem wants_body (hg : HG g) {is : List Item} {name : List Nat} (hil : is.length ≤ 100000) (hsp : ∀ i ∈ is, i.spans.length ≤ 1000000) (hb : ∀ pre suf, is = pre ++ suf → (pre.foldl (wantStep name) [[]]).length ≤ 1000000) :
    ExW g F n ⟨putAll (baseEnv [] gtab (fdAt g.w.params 115).scope.names) ([("items", .lst (is.map itemV)), ("name", .str name)] : List (Str × LV)), []⟩ (bodyAt g.w.params 115) fun lf _ => lf = .ret (strsV (wantsS name is)) := by
  have e2 : putAll (baseEnv [] gtab (fdAt g.w.params 115).scope.names) ([("items", .lst (is.map itemV)), ("name", .str name)] : List (Str × LV)) =
    ([("items", .local, .lst (is.map itemV)), ("name", .own, .str name), ("signs", .local, .undef), ("wants", .local, .undef), ("written", .local, .undef), ("barred", .own, .undef), ("spans", .own, .undef), ("meant", .own, .undef)] : List (Str × Loc × LV)) := rfl
  rw [e2]
  clear e2
  conv => arg 5; whnf
  refine ex_compX (by (exact .tail (.tail .head))) rfl hg.gt (by decide) rfl (fun _ => rfl) rfl ?_
  ((with_reducible apply ev_strl; exact ls17))
  refine ⟨_, sg.map fun s => if decide (s ∈ name) then [.str [s]] else [], ([(".0", .local, .undef), ("sign", .local, .undef), ("name", .fixed, .str name)] : List (Str × Loc × LV)), rfl, itw_str rfl (by decide), ?_, fun F' => ?_, ?_⟩
  · rw [flat_if, List.length_map]
    exact Nat.le_trans (List.length_filter_le _ _) (by decide)
  · refine all2_map (f := fun c => LV.str [c]) (l := sg) fun s _ c' => ?_
    ((with_reducible apply as_nameX); exact .tail .head; exact .inl rfl)
    refine ⟨rfl, cl_if fun c => ?_⟩
    ((with_reducible apply te_compare); exact rfl; (with_reducible apply ev_nameH); exact .tail .head; (with_reducible exact nu_str; apply ev_nameH); exact .tail (.tail .head); (with_reducible exact nu_str; apply pr_sin1; apply bool_ex))
    refine ⟨fun hb => ?_, fun hb => ?_⟩
    · ((with_reducible apply ev_nameH); exact .tail .head; (with_reducible exact nu_str))
      rw [hb]
      exact ⟨rfl, rfl, by (exact .undefL (.undefL (.same .nil)))⟩
    · rw [hb]
      exact ⟨rfl, rfl, by (exact .undefL (.undefL (.same .nil)))⟩
  rw [flat_if]
  ((with_reducible apply asgX); exact .tail (.tail .head); exact .inl rfl; (with_reducible apply ex_assign); exact rfl; (with_reducible apply ev_list; apply es_cons); exact rfl; (with_reducible apply ev_strl; exact ls28; apply es_nil; apply lenOk); exact rfl; (with_reducible apply asgX); exact .tail (.tail (.tail .head)); exact .inl rfl)
  refine ex_for (fun _ => rfl) ?_
  ((with_reducible apply ev_nameH); exact .head; (with_reducible exact nu_lst))
  refine ⟨_, itw_lst, (WaI is name),
    ⟨[], is, rfl, by unfold wantsE; (exact .same (.same (.same (.same (.undefL (.undefO (.undefO (.undefO .nil)))))))), rfl, rfl, by simp⟩, ?_, ?_⟩
  · rintro x rest' ⟨e, c⟩ it o' ⟨pre, suf, his, hw, hc, hr, hlen⟩
    dsimp only at hw hc
    subst hc
    cases suf with
    | nil => cases hr
    | cons i suf =>
    rw [List.map_cons] at hr
    injection hr with hx hrr
    subst hx hrr
    have hpl : pre.length ≤ 100000 := by rw [his] at hil; simp at hil; lia
    have his' : is = (pre ++ [i]) ++ suf := by rw [his]; simp
    have hfold : (pre ++ [i]).foldl (wantStep name) [[]] = wantStep name (pre.foldl (wantStep name) [[]]) i := by rw [List.foldl_append]; rfl
    refine as_weak hw ?_
    unfold wantsE
    ((with_reducible apply as_tuple); exact rfl; exact rfl; (with_reducible apply assW_cons; apply as_nameX); exact .tail (.tail (.tail (.tail .head))); exact .inl rfl; (with_reducible apply assW_cons; apply as_nameX); exact .tail (.tail (.tail (.tail (.tail .head)))); exact .inr rfl; (with_reducible apply assW_cons; apply as_nameX); exact .tail (.tail (.tail (.tail (.tail (.tail .head))))); exact .inr rfl; (with_reducible apply assW_nil))
    refine want_turn (is := is) (i := i) (m := .undef) hg (hsp i (by rw [his]; simp)) (fun w hw' => by have := hlen w hw'; lia) (hb pre _ his) (by rw [← hfold]; exact hb _ _ his') fun m => ?_
    refine ⟨[], .head, pre ++ [i], suf, his', by rw [hfold]; unfold wantsE; (exact .same (.same (.same (.same (.undefL (.undefO (.undefO (.undefO .nil)))))))), rfl, rfl, ?_⟩
    rw [hfold]
    intro w hw'
    have := wantStep_len hlen w hw'
    simp; assumption
  · rintro ⟨e, c⟩ ⟨pre, suf, his, hw, hc, hr, hlen⟩
    dsimp only at hw hc
    subst hc
    refine ex_weak hw ?_
    cases suf with
    | cons _ _ => cases hr
    | nil =>
    rw [List.append_nil] at his
    subst his
    unfold wantsE
    ((with_reducible apply ex_return; apply ev_nameH); exact .tail (.tail (.tail .head)); (with_reducible exact nu_lst))
    rfl
theorem wants_fn (h : HG g) : FnOkE g 115 (["items", "name"] : List Str) :=
  fn_ok h (by decide) rfl rfl fun _ _ _ => of2 fun _ _ => rfl
theorem pr_wants (h : HG g) {is : List Item} {name : List Nat} (hil : is.length ≤ 100000) (hsp : ∀ i ∈ is, i.spans.length ≤ 1000000) (hb : ∀ pre suf, is = pre ++ suf → (pre.foldl (wantStep name) [[]]).length ≤ 1000000) {Φ : LV → Prop} (hΦ : Φ (strsV (wantsS name is))) :
    PrW g (n + 1) [.lst (is.map itemV), .str name] (fun vs => call (.ref 115) vs) Φ :=
  pr_fnE (wants_fn h) h.gt rfl fun F => (wants_body h hil hsp hb).mono fun lf _ e => by rw [e]; exact hΦ
end

section
theorem str_ex {x : List Nat} {K : List Nat → Prop} (h : K x) : ∃ y, LV.str x = .str y ∧ K y := ⟨x, rfl, h⟩
theorem nat_ex {a : Nat} {K : Nat → Prop} (h : K a) : ∃ b : Nat, LV.int (a : Int) = .int (b : Int) ∧ K b := ⟨a, rfl, h⟩
theorem ex_callappH {e : List (Str × Loc × LV)} {c : List (Addr × Ct)} {x : Str} {xp pos spos : Pos} {arg : Expr} {rest : List Stmt} {l0 : Loc} {a : Addr} {Φ : LFl → LS → Prop} (hst : isStarred arg = false) (hm : Has e x l0 (.obj (boundApp a)))
    (h : EvW g F n ⟨e, c⟩ arg fun v σ₁ => ∃ l c', CUpd σ₁.cells a (.lst l) (.lst (l ++ [v])) c' ∧ l.length ≤ 1000000 ∧ ExW g F n ⟨σ₁.env, c'⟩ rest Φ) : ExW g F n ⟨e, c⟩ (.Expr (.Call (.Name x xp) [arg] [] pos) spos :: rest) Φ := ex_callapp hst hm.mem h
theorem ev_boundappH {e : List (Str × Loc × LV)} {c : List (Addr × Ct)} {x : Str} {xp pos : Pos} {l0 : Loc} {a : Addr} {l : List LV} {Φ : LV → LS → Prop} (hm : Has e x l0 (.raw (.ref a))) (hin : (a, Ct.lst l) ∈ c) (h : Φ (.obj (boundApp a)) ⟨e, c⟩) :
    EvW g F n ⟨e, c⟩ (.Attribute (.Name x xp) "append" pos) Φ := ev_boundapp hm.mem hin h
theorem pr_isubN {a b : Nat} {Φ : LV → Prop} (hb : b ≤ a) (h : Φ (.int ((a - b : Nat) : Int))) : PrW g n [.int a, .int b] (ibin .Sub) Φ := pr_isub (by rw [← Int.ofNat_sub hb]; exact h)
theorem ev_ecells {e : List (Str × Loc × LV)} {c : List (Addr × Ct)} {x : Str} {xp pos : Pos} {slice : Expr} {l0 : Loc} {a : Addr} {l : List LV} {Φ : LV → LS → Prop} (hm : Has e x l0 (.raw (.ref a))) (hin : (a, Ct.lst l) ∈ c)
    (h : EvW g F n ⟨e, c⟩ slice fun i σ₂ => σ₂ = ⟨e, c⟩ ∧ ∃ k j lv, i = .int k ∧ seqIndex? k l.length = some j ∧ l[j]? = some lv ∧ (-1000000 ≤ k ∧ k ≤ 1000000) ∧ Φ lv ⟨e, c⟩) : EvW g F n ⟨e, c⟩ (.Subscript (.Name x xp) slice pos) Φ := by
  refine ev_sub_cell (ev_nameH hm nu_raw (h.mono fun i σ₂ ⟨e1, k, j, lv, h1, h2, h3, h4, h5⟩ => ?_))
  subst e1
  exact ⟨a, l, k, lv, j, rfl, hin, h1, h2, h3, h4, h5⟩
end

section
noncomputable def elLoop (got : List Nat) : List (List Nat) → Nat → Nat → Bool
  | [], _, _ => true
  | w :: ws, s, e => if findS got w s e < 0 then false else elLoop got ws ((findS got w s e).toNat + w.length) e
noncomputable def elTail (got : List Nat) (ws : List (List Nat)) (sp : Nat) : Bool :=
  let wl := (ws.getLast?).getD []
  if wl = [] then (if got.length < sp then false else elLoop got ws sp got.length)
  else if wl.isSuffixOf got then (if got.length - wl.length < sp then false else elLoop got (ws.eraseIdx (ws.length - 1)) sp (got.length - wl.length))
  else false
noncomputable def elM (got : List Nat) (ws : List (List Nat)) : Bool :=
  let w0 := (ws[0]?).getD []
  if w0 = [] then elTail got ws 0
  else if w0.isPrefixOf got then elTail got (ws.eraseIdx 0) w0.length
  else false
noncomputable def ellS (want got : List Nat) : Bool := if isIn [46, 46, 46] want then elM got (splitS want [46, 46, 46]) else want == got
noncomputable abbrev ellE (want got : List Nat) (ws sp ep w : LV) : List (Str × Loc × LV) :=
  [("want", .local, .str want), ("got", .local, .str got), ("ws", .local, ws), ("startpos", .local, sp), ("endpos", .local, ep), ("w", .local, w), ("ELLIPSIS_MARKER", .glob, .str [46, 46, 46]), ("len", .glob, .raw (.builtin "len"))]
theorem findS_cases (x y : List Nat) (a b : Nat) : (∃ k : Nat, findS x y a b = (k : Int) ∧ k + y.length ≤ x.length) ∨ findS x y a b = -1 := by
  rcases findS_spec x y a b with ⟨h, _⟩ | ⟨k, h, _, h2, _⟩
  · exact .inr h
  · exact .inl ⟨k, h, by have := h2.1; lia⟩
theorem elLoop_cons {got w : List Nat} {ws : List (List Nat)} {s e : Nat} : elLoop got (w :: ws) s e = if findS got w s e < 0 then false else elLoop got ws ((findS got w s e).toNat + w.length) e := rfl
inductive ElI (want got : List Nat) (ws : List (List Nat)) (sp ep : Nat) (rest : List LV) (σ : LS) : Prop
  | mk (rs : List (List Nat)) (s : Nat) (h0 : Weak σ.env (ellE want got (.lst (ws.map .str)) (.int s) (.int ep) .undef)) (h1 : σ.cells = []) (h2 : rest = rs.map .str) (h3 : s ≤ got.length) (h4 : elLoop got rs s ep = elLoop got ws sp ep) (h5 : ∀ x ∈ rs, x.length ≤ 10000)
theorem ell_loop (hg : HG g) {want got : List Nat} (hgl : got.length ≤ 10000) {ws : List (List Nat)} {sp ep : Nat} {w : LV} (hsp : sp ≤ got.length) (hep : ep ≤ got.length) (hws : ∀ x ∈ ws, x.length ≤ 10000) :
    ExW g F n ⟨ellE want got (.lst (ws.map .str)) (.int sp) (.int ep) w, []⟩ ((bodyAt g.w.params 76).drop 9) fun lf _ => lf = .ret (.bool (elLoop got ws sp ep)) := by
  conv => arg 5; whnf
  unfold ellE
  refine ex_for (fun _ => rfl) ?_
  ((with_reducible apply ev_nameH); exact .tail (.tail .head); (with_reducible exact nu_lst))
  refine ⟨_, itw_lst, (ElI want got ws sp ep),
    ⟨ws, sp, by unfold ellE; (exact .same (.same (.same (.same (.same (.undefL (.same (.same .nil)))))))), rfl, rfl, hsp, rfl, hws⟩, ?_, ?_⟩
  · rintro x rest' ⟨e, c⟩ it o' ⟨rs, s, hw, hc, hr, hs, hl, hx⟩
    dsimp only at hw hc
    subst hc
    cases rs with
    | nil => cases hr
    | cons r rs =>
    rw [List.map_cons] at hr
    injection hr with h1 h2
    subst h1 h2
    have hrl := hx r (.head _)
    refine as_weak hw ?_
    unfold ellE
    ((with_reducible apply as_nameX); exact .tail (.tail (.tail (.tail (.tail .head)))); exact .inl rfl; (with_reducible apply ex_assign); exact rfl; (with_reducible apply ev_find4); exact rfl; exact rfl; exact rfl; exact rfl; exact rfl; (with_reducible apply ev_nameH); exact .tail .head; (with_reducible exact nu_str; apply str_ex; apply ev_nameH); exact .tail (.tail (.tail (.tail (.tail .head)))); (with_reducible exact nu_str; apply str_ex; apply ev_nameH); exact .tail (.tail (.tail .head)); (with_reducible exact nu_int; apply nat_ex; apply ev_nameH); exact .tail (.tail (.tail (.tail .head))); (with_reducible exact nu_int; apply nat_ex; apply asgX); exact .tail (.tail (.tail .head)); exact .inl rfl; (with_reducible apply ex_if; apply te_compare); exact rfl; (with_reducible apply ev_nameH); exact .tail (.tail (.tail .head)); (with_reducible exact nu_int; apply ev_nat; exact nn0))
    rw [elLoop_cons] at hl
    rcases findS_cases got r s ep with ⟨k, hk, hkl⟩ | hk
    · rw [hk] at hl
      rw [hk]
      ((with_reducible apply pr_ltN; apply bool_ex))
      apply way_f; · simp
      ((with_reducible apply ex_nil; apply then_next; apply ex_augH); exact .tail (.tail (.tail .head)); (with_reducible exact nu_int; apply ev_callN); exact rfl; exact .tail (.tail (.tail (.tail (.tail (.tail (.tail .head)))))); exact cal_bi; (with_reducible apply es_cons); exact rfl; (with_reducible apply ev_nameH); exact .tail (.tail (.tail (.tail (.tail .head)))); (with_reducible exact nu_str; apply es_nil; apply PrW.ca; apply pr_len_str); (exact Nat.le_trans (by assumption) (by decide)); (with_reducible apply pr_iaddN; apply asgX); exact .tail (.tail (.tail .head)); exact .inl rfl; (with_reducible apply ex_nil))
      rw [if_neg (by lia)] at hl
      exact ⟨[], .head, rs, k + r.length, by (exact .same (.same (.same (.same (.same (.undefL (.same (.same .nil)))))))), rfl, rfl, by assumption, by simpa using hl, fun y hy => hx y (.tail _ hy)⟩
    · rw [hk] at hl
      rw [hk]
      refine pr_lt ?_
      ((with_reducible apply bool_ex))
      apply way_t; · decide
      ((with_reducible apply ex_return; apply ev_bool; apply then_ret))
      rw [if_pos (by decide)] at hl
      exact ⟨[], .head, by rw [← hl]⟩
  · rintro ⟨e, c⟩ ⟨rs, s, hw, hc, hr, hs, hl, hx⟩
    dsimp only at hw hc
    subst hc
    cases rs with
    | cons _ _ => cases hr
    | nil =>
    refine ex_weak hw ?_
    unfold ellE
    ((with_reducible apply ex_return; apply ev_bool))
    rw [← hl]; rfl
end

section
theorem erase_map {α β : Type} (f : α → β) : ∀ (l : List α) (k : Nat), (l.map f).eraseIdx k = (l.eraseIdx k).map f
  | [], _ => rfl
  | _ :: _, 0 => rfl
  | x :: l, k + 1 => by simp only [List.map_cons, List.eraseIdx_cons_succ, erase_map f l k]
theorem ell_tail (hg : HG g) {want got : List Nat} (hgl : got.length ≤ 10000) {ws : List (List Nat)} {a : Addr} {sp : Nat} {w : LV} (hsp : sp ≤ got.length) (hws : ∀ x ∈ ws, x.length ≤ 10000) (hwl : ws.length ≤ 20000) (hne : ws ≠ []) :
    ExW g F n ⟨ellE want got (.raw (.ref a)) (.int sp) (.int got.length) w, [(a, .lst (ws.map .str))]⟩ ((bodyAt g.w.params 76).drop 6) fun lf _ => lf = .ret (.bool (elTail got ws sp)) := by
  conv => arg 5; whnf
  have hj : seqIndex? (-1) (ws.map LV.str).length = some (ws.length - 1) := by
    rw [List.length_map]; exact seqIndex_last (List.length_pos_iff.mpr hne)
  obtain ⟨wl, hl⟩ : ∃ wl, ws[ws.length - 1]? = some wl := ⟨_, List.getElem?_eq_getElem (by have := List.length_pos_iff.mpr hne; lia)⟩
  have hgl' : ws.getLast? = some wl := by rw [List.getLast?_eq_getElem?]; exact hl
  have hwll := hws wl (List.mem_of_getElem? hl)
  unfold elTail
  rw [hgl']
  dsimp only [Option.getD_some]
  unfold ellE
  refine ex_assign rfl ?_
  refine ev_ecells (by (exact .tail (.tail .head))) (.head _) ?_
  ((with_reducible apply ev_unary; apply ev_nat; exact nn1; apply pr_neg))
  refine ⟨rfl, -1, ws.length - 1, .str wl, rfl, hj, by rw [List.getElem?_map, hl]; rfl, by lia, ?_⟩
  ((with_reducible apply asgX); exact .tail (.tail (.tail (.tail (.tail .head)))); exact .inl rfl; (with_reducible apply ex_if; apply te_plain); exact rfl; (with_reducible apply ev_nameH); exact .tail (.tail (.tail (.tail (.tail .head)))); (with_reducible exact nu_str; apply pb_str); (exact Nat.le_trans (by assumption) (by decide)))
  by_cases hw0 : wl = []
  · rw [if_pos hw0]
    apply way_f; · subst hw0; rfl
    ((with_reducible apply ex_nil; apply then_next; apply ex_if; apply te_compare); exact rfl; (with_reducible apply ev_nameH); exact .tail (.tail (.tail .head)); (with_reducible exact nu_int; apply ev_nameH); exact .tail (.tail (.tail (.tail .head))); (with_reducible exact nu_int; apply pr_gtN; apply bool_ex))
    by_cases hlt : got.length < sp
    · lia
    rw [if_neg hlt]
    apply way_f; · exact decide_eq_false hlt
    refine freezeX (e' := ellE want got (.lst (ws.map .str)) (.int sp) (.int got.length) (.str wl)) .head (by (exact .keep (.keep (.thaw (.keep (.keep (.keep (.keep (.keep .nil))))))))) ?_
    ((with_reducible apply ex_nil; apply then_next))
    exact ell_loop hg hgl hsp (Nat.le_refl _) hws
  · rw [if_neg hw0]
    apply way_t; · cases wl with | nil => exact absurd rfl hw0 | cons _ _ => rfl
    ((with_reducible apply ex_if; apply te_plain); exact rfl; (with_reducible apply ev_ends); exact rfl; exact rfl; exact rfl; (with_reducible apply ev_nameH); exact .tail .head; (with_reducible exact nu_str; apply str_ex; apply ev_nameH); exact .tail (.tail (.tail (.tail (.tail .head)))); (with_reducible exact nu_str; apply str_ex; apply pb_bool))
    by_cases hsf : wl.isSuffixOf got = true
    · rw [if_pos hsf]
      have hwg : wl.length ≤ got.length := (List.isSuffixOf_iff_suffix.mp hsf).length_le
      apply way_t; · exact hsf
      ((with_reducible apply ex_augH); exact .tail (.tail (.tail (.tail .head))); (with_reducible exact nu_int; apply ev_callN); exact rfl; exact .tail (.tail (.tail (.tail (.tail (.tail (.tail .head)))))); exact cal_bi; (with_reducible apply es_cons); exact rfl; (with_reducible apply ev_nameH); exact .tail (.tail (.tail (.tail (.tail .head)))); (with_reducible exact nu_str; apply es_nil; apply PrW.ca; apply pr_len_str); (exact Nat.le_trans (by assumption) (Nat.le_trans (by assumption) (by decide))))
      refine pr_isubN hwg ?_
      ((with_reducible apply asgX); exact .tail (.tail (.tail (.tail .head))); exact .inl rfl)
      refine ex_del_cell ?_
      ((with_reducible apply ev_nameH); exact .tail (.tail .head); (with_reducible exact nu_raw; apply ev_unary; apply ev_nat; exact nn1; apply pr_neg))
      refine ⟨a, ws.map .str, -1, ws.length - 1, _, rfl, rfl, .head, hj, by lia, by rw [List.length_map]; (exact Nat.le_trans (by assumption) (by decide)), ?_⟩
      ((with_reducible apply ex_nil; apply then_next; apply ex_nil; apply then_next; apply ex_if; apply te_compare); exact rfl; (with_reducible apply ev_nameH); exact .tail (.tail (.tail .head)); (with_reducible exact nu_int; apply ev_nameH); exact .tail (.tail (.tail (.tail .head))); (with_reducible exact nu_int; apply pr_gtN; apply bool_ex))
      have hm : (ws.map LV.str).eraseIdx (ws.length - 1) = (ws.eraseIdx (ws.length - 1)).map LV.str := erase_map _ _ _
      rw [hm]
      by_cases hlt : got.length - wl.length < sp
      · rw [if_pos hlt]
        apply way_t; · exact decide_eq_true hlt
        ((with_reducible apply ex_return; apply ev_bool; apply then_ret))
        rfl
      · rw [if_neg hlt]
        apply way_f; · exact decide_eq_false hlt
        refine freezeX (e' := ellE want got (.lst ((ws.eraseIdx (ws.length - 1)).map .str)) (.int sp) (.int (got.length - wl.length : Nat)) (.str wl)) .head (by (exact .keep (.keep (.thaw (.keep (.keep (.keep (.keep (.keep .nil))))))))) ?_
        ((with_reducible apply ex_nil; apply then_next))
        exact ell_loop hg hgl hsp (Nat.sub_le _ _) fun x hx => hws x (List.mem_of_mem_eraseIdx hx)
    · rw [if_neg hsf]
      apply way_f; · exact Bool.eq_false_iff.mpr hsf
      ((with_reducible apply ex_return; apply ev_bool; apply then_ret; apply then_ret))
      rfl
theorem ell_body (hg : HG g) {want got : List Nat} (hw : want.length ≤ 10000) (hgl : got.length ≤ 10000) (h3 : isIn [46, 46, 46] want = true → 2 ≤ (splitS want [46, 46, 46]).length ∧ (splitS want [46, 46, 46]).length ≤ 20000 ∧ ∀ x ∈ splitS want [46, 46, 46], x.length ≤ 10000) :
    ExW g F n ⟨putAll (baseEnv [] gtab (fdAt g.w.params 76).scope.names) ([("want", .str want), ("got", .str got)] : List (Str × LV)), []⟩ (bodyAt g.w.params 76) fun lf _ => lf = .ret (.bool (ellS want got)) := by
  have e2 : putAll (baseEnv [] gtab (fdAt g.w.params 76).scope.names) ([("want", .str want), ("got", .str got)] : List (Str × LV)) = ellE want got .undef .undef .undef .undef := rfl
  rw [e2]
  clear e2
  conv => arg 5; whnf
  unfold ellE ellS
  ((with_reducible apply ex_if; apply te_compare); exact rfl; (with_reducible apply ev_nameH); exact .tail (.tail (.tail (.tail (.tail (.tail .head))))); (with_reducible exact nu_str; apply ev_nameH); exact .head; (with_reducible exact nu_str))
  refine pr_snotin ?_
  ((with_reducible apply bool_ex))
  by_cases hin : isIn [46, 46, 46] want = true
  · rw [if_pos hin]
    obtain ⟨k1, k2, k3⟩ := h3 hin
    apply way_f; · rw [hin]; rfl
    ((with_reducible apply ex_nil; apply then_next))
    refine ex_assign rfl ?_
    refine ev_split rfl rfl rfl ?_
    ((with_reducible apply ev_nameH); exact .head; (with_reducible exact nu_str; apply str_ex; apply ev_nameH); exact .tail (.tail (.tail (.tail (.tail (.tail .head))))); (with_reducible exact nu_str; apply str_ex))
    refine ⟨by simp, by (exact Nat.le_trans (by assumption) (by decide)), split_size _ (by (exact Nat.le_trans (by assumption) (by decide))), fun a ha => ?_⟩
    ((with_reducible apply asgX); exact .tail (.tail .head); exact .inl rfl)
    generalize hws : splitS want [46, 46, 46] = ws at k1 k2 k3
    refine ex_assert ?_
    ((with_reducible apply te_compare); exact rfl; (with_reducible apply ev_callN); exact rfl; exact .tail (.tail (.tail (.tail (.tail (.tail (.tail .head)))))); exact cal_bi; (with_reducible apply es_cons); exact rfl; (with_reducible apply ev_nameH); exact .tail (.tail .head); (with_reducible exact nu_raw; apply es_nil; apply ca_len_cell); exact .head _; simp; (exact Nat.le_trans (by assumption) (by decide)); (with_reducible apply ev_nat; exact nn2; apply pr_geN; apply bool_ex))
    refine ⟨by simpa using k1, ?_⟩
    refine ex_assign_swap (x := "startpos") (y := "endpos") (Has.mem (by (exact .tail (.tail (.tail .head))))) (Has.mem (by (exact .tail (.tail (.tail (.tail .head)))))) rfl rfl rfl rfl rfl ?_
    ((with_reducible apply ev_tuple; apply es_cons); exact rfl; (with_reducible apply ev_nat; exact nn0; apply es_cons); exact rfl; (with_reducible apply ev_callN); exact rfl; exact .tail (.tail (.tail (.tail (.tail (.tail (.tail .head)))))); exact cal_bi; (with_reducible apply es_cons); exact rfl; (with_reducible apply ev_nameH); exact .tail .head; (with_reducible exact nu_str; apply es_nil; apply PrW.ca; apply pr_len_str); (exact Nat.le_trans (by assumption) (by decide)); (with_reducible apply es_nil; apply lenOk); exact rfl)
    refine ⟨_, _, _, _, rfl, by (exact .tail (.tail (.tail (.tail .head)))), by (exact .tail (.tail (.tail .head))), ?_⟩
    obtain ⟨w0, hw0⟩ : ∃ w0, ws[0]? = some w0 := ⟨_, List.getElem?_eq_getElem (by (exact Nat.le_of_lt (by assumption)))⟩
    have hj : seqIndex? ((0 : Nat) : Int) (ws.map LV.str).length = some 0 := by rw [List.length_map]; exact seqIndex_nat (by (exact Nat.le_of_lt (by assumption)))
    have hw0l := k3 w0 (List.mem_of_getElem? hw0)
    unfold elM
    rw [hw0]
    dsimp only [Option.getD_some]
    refine ex_assign rfl ?_
    refine ev_ecells (by (exact .tail (.tail .head))) (.head _) ?_
    ((with_reducible apply ev_nat; exact nn0))
    refine ⟨rfl, _, 0, .str w0, rfl, hj, by rw [List.getElem?_map, hw0]; rfl, by lia, ?_⟩
    ((with_reducible apply asgX); exact .tail (.tail (.tail (.tail (.tail .head)))); exact .inl rfl; (with_reducible apply ex_if; apply te_plain); exact rfl; (with_reducible apply ev_nameH); exact .tail (.tail (.tail (.tail (.tail .head)))); (with_reducible exact nu_str; apply pb_str); (exact Nat.le_trans (by assumption) (by decide)))
    by_cases h0 : w0 = []
    · rw [if_pos h0]
      apply way_f; · subst h0; rfl
      ((with_reducible apply ex_nil; apply then_next))
      exact ell_tail hg hgl (Nat.zero_le _) k3 k2 (by intro h; subst h; simp at k1)
    · rw [if_neg h0]
      apply way_t; · cases w0 with | nil => exact absurd rfl h0 | cons _ _ => rfl
      ((with_reducible apply ex_if; apply te_plain); exact rfl; (with_reducible apply ev_starts); exact rfl; exact rfl; exact rfl; (with_reducible apply ev_nameH); exact .tail .head; (with_reducible exact nu_str; apply str_ex; apply ev_nameH); exact .tail (.tail (.tail (.tail (.tail .head)))); (with_reducible exact nu_str; apply str_ex; apply pb_bool))
      by_cases hp : w0.isPrefixOf got = true
      · rw [if_pos hp]
        have hwg : w0.length ≤ got.length := (List.isPrefixOf_iff_prefix.mp hp).length_le
        apply way_t; · exact hp
        ((with_reducible apply ex_assign); exact rfl; (with_reducible apply ev_callN); exact rfl; exact .tail (.tail (.tail (.tail (.tail (.tail (.tail .head)))))); exact cal_bi; (with_reducible apply es_cons); exact rfl; (with_reducible apply ev_nameH); exact .tail (.tail (.tail (.tail (.tail .head)))); (with_reducible exact nu_str; apply es_nil; apply PrW.ca; apply pr_len_str); (exact Nat.le_trans (by assumption) (Nat.le_trans (by assumption) (by decide))); (with_reducible apply asgX); exact .tail (.tail (.tail .head)); exact .inl rfl)
        refine ex_del_cell ?_
        ((with_reducible apply ev_nameH); exact .tail (.tail .head); (with_reducible exact nu_raw; apply ev_nat; exact nn0))
        refine ⟨a, ws.map .str, _, 0, _, rfl, rfl, .head, hj, by lia, by rw [List.length_map]; (exact Nat.le_trans (by assumption) (by decide)), ?_⟩
        ((with_reducible apply ex_nil; apply then_next; apply ex_nil; apply then_next))
        have hm : (ws.map LV.str).eraseIdx 0 = (ws.eraseIdx 0).map LV.str := erase_map _ _ _
        rw [hm]
        have hl := List.length_eraseIdx_of_lt (l := ws) (i := 0) (by (exact Nat.le_of_lt (by assumption)))
        exact ell_tail hg hgl hwg (fun x hx => k3 x (List.mem_of_mem_eraseIdx hx)) (by lia) (by intro h; rw [h] at hl; simp at hl; lia)
      · rw [if_neg hp]
        apply way_f; · exact Bool.eq_false_iff.mpr hp
        ((with_reducible apply ex_return; apply ev_bool; apply then_ret; apply then_ret))
        rfl
  · rw [if_neg hin]
    apply way_t; · rw [Bool.eq_false_iff.mpr hin]; rfl
    ((with_reducible apply ex_return; apply ev_compare); exact rfl; (with_reducible apply ev_nameH); exact .head; (with_reducible exact nu_str; apply ev_nameH); exact .tail .head; (with_reducible exact nu_str; apply pr_seq; apply then_ret))
    rfl
theorem ell_fn (h : HG g) : FnOkE g 76 (["want", "got"] : List Str) :=
  fn_ok h (by decide) rfl rfl fun _ _ _ => of2 fun _ _ => rfl
theorem pr_ell (h : HG g) {want got : List Nat} (hw : want.length ≤ 10000) (hgl : got.length ≤ 10000) (h3 : isIn [46, 46, 46] want = true → 2 ≤ (splitS want [46, 46, 46]).length ∧ (splitS want [46, 46, 46]).length ≤ 20000 ∧ ∀ x ∈ splitS want [46, 46, 46], x.length ≤ 10000) {Φ : LV → Prop} (hΦ : Φ (.bool (ellS want got))) :
    PrW g (n + 1) [.str want, .str got] (fun vs => call (.ref 76) vs) Φ :=
  pr_fnE (ell_fn h) h.gt rfl fun F => (ell_body h hw hgl h3).mono fun lf _ e => by rw [e]; exact hΦ
end

section
noncomputable def pcs : List (List Nat) := [[97], [38], [94], [92], [97, 45, 98], [98, 45, 99], [94, 45, 97], [98, 45, 97], [91], [126]]
noncomputable def pcsA : List (List Nat) := pcs ++ [[93]]
noncomputable def pcsB : List (List Nat) := pcs ++ [[45], []]
noncomputable def pcSpan (s : List Nat) : Nat × Nat := (s.headD 0, s.getLastD 0)
noncomputable def setItem (b : Bool) (p q : List Nat) : Item := ⟨([91] ++ (if b then [33] else [])) ++ joinL [] [p, q] ++ [93], b, ([p, q].filter fun s => s != []).map pcSpan⟩
inductive RowOk : Item → List Nat → Prop where
  | star {c k} : c ∈ sg → k < 3 → RowOk ⟨[42], false, []⟩ (times [c] k)
  | any {c} : c ∈ sg → RowOk ⟨[63], true, []⟩ [c]
  | plain {c} : c ∈ [97, 98, 94, 38] → RowOk ⟨[c], false, [(c, c)]⟩ [c]
  | set {b p q c} : p ∈ pcsA → q ∈ pcsB → c ∈ sg → RowOk (setItem b p q) [c]
noncomputable def wild (i : Item) : Bool := i.written.length != 1 || i.written == [63]
noncomputable abbrev rowV (r : Item × List Nat) : LV := .tup [itemV r.1, .str r.2]
noncomputable abbrev itE (kind : Nat) (rest : Int) (a b c d e : LV) : List (Str × Loc × LV) :=
  [("kind", .local, .int kind), ("rest", .local, .int rest), ("given", .local, a), ("plain", .local, b), ("pieces", .local, c), ("held", .local, d), ("spans", .local, e)]
theorem fmod_nat {a : Int} {b : Nat} (hb : 0 < b) : ∃ k : Nat, a.fmod b = (k : Int) ∧ k < b := by
  have h1 := Int.fmod_nonneg_of_pos a (b := (b : Int)) (by lia)
  have h2 := Int.fmod_lt_of_pos a (b := (b : Int)) (by lia)
  exact ⟨(a.fmod b).toNat, by lia, by lia⟩
theorem pr_modN {a : Int} {b : Nat} {Φ : LV → Prop} (hb : 0 < b) (h : ∀ k : Nat, k < b → Φ (.int k)) : PrW g n [.int a, .int b] (bin .Mod) Φ :=
  pr_mod (by lia) (let ⟨k, e, hk⟩ := fmod_nat hb; e ▸ h k hk)
theorem all_at {α : Type} {l : List α} {k : Nat} (h : k < l.length) : ∃ x, l[k]? = some x ∧ x ∈ l := ⟨l[k], List.getElem?_eq_getElem h, List.getElem_mem h⟩
theorem item_body (hg : HG g) {kind : Nat} {rest : Int} (hk : kind < 12) :
    ExW g F n ⟨putAll (baseEnv [] gtab (fdAt g.w.params 103).scope.names) ([("kind", .int kind), ("rest", .int rest)] : List (Str × LV)), []⟩ (bodyAt g.w.params 103) fun lf _ => ∃ i r, RowOk i r ∧ lf = .ret (rowV (i, r)) ∧ (wild i = true → kind = 3 ∨ 5 < kind) := by
  have e2 : putAll (baseEnv [] gtab (fdAt g.w.params 103).scope.names) ([("kind", .int kind), ("rest", .int rest)] : List (Str × LV)) = itE kind rest .undef .undef .undef .undef .undef := rfl
  rw [e2]
  clear e2
  conv => arg 5; whnf
  unfold itE
  ((with_reducible apply ex_assign); exact rfl; (with_reducible apply ev_sub; apply ev_strl; exact ls17; apply ev_binop; apply ev_binop; apply ev_nameH); exact .tail .head; (with_reducible exact nu_int; apply ev_binop; apply ev_nameH); exact .tail .head; (with_reducible exact nu_int; apply ev_nat; exact nn7))
  refine pr_fdiv (by decide) (by decide) ?_
  refine pr_add ?_
  ((with_reducible apply ev_nat; exact nn10))
  refine pr_modN (by decide) fun d hd' => ?_
  obtain ⟨c, hc, hcs⟩ := all_at (l := sg) (k := d) hd'
  refine si_strN (c := c) hc (by (exact Nat.le_trans (Nat.le_of_lt (by assumption)) (by decide))) ?_
  ((with_reducible apply asgX); exact .tail (.tail .head); exact .inl rfl; (with_reducible apply ex_if; apply te_compare); exact rfl; (with_reducible apply ev_nameH); exact .head; (with_reducible exact nu_int; apply ev_nat; exact nn3; apply pr_ltN; apply bool_ex))
  by_cases k3 : kind < 3
  · apply way_t; · exact decide_eq_true k3
    ((with_reducible apply ex_return; apply ev_tuple; apply es_cons); exact rfl; (with_reducible apply ev_tuple; apply es_cons); exact rfl; (with_reducible apply ev_strl; exact ls18; apply es_cons); exact rfl; (with_reducible apply ev_bool; apply es_cons); exact rfl; (with_reducible apply ev_list; apply es_nil; apply lenOk); exact rfl; (with_reducible apply es_nil; apply lenOk); exact rfl; (with_reducible apply es_cons); exact rfl; (with_reducible apply ev_binop; apply ev_nameH); exact .tail (.tail .head); (with_reducible exact nu_str; apply ev_binop; apply ev_nameH); exact .tail .head; (with_reducible exact nu_int; apply ev_nat; exact nn3))
    refine pr_modN (by decide) fun m hm' => ?_
    refine pr_smul (by simp) (by (exact Nat.le_trans (Nat.le_of_lt (by assumption)) (by decide))) ?_
    ((with_reducible apply es_nil; apply lenOk); exact rfl; (with_reducible apply then_ret))
    exact ⟨_, _, .star hcs hm', rfl, fun h => by simp [wild] at h⟩
  apply way_f; · exact decide_eq_false k3
  ((with_reducible apply ex_nil; apply then_next; apply ex_if; apply te_compare); exact rfl; (with_reducible apply ev_nameH); exact .head; (with_reducible exact nu_int; apply ev_nat; exact nn3; apply pr_eqN; apply bool_ex))
  by_cases e3 : kind = 3
  · apply way_t; · exact decide_eq_true e3
    ((with_reducible apply ex_return; apply ev_tuple; apply es_cons); exact rfl; (with_reducible apply ev_tuple; apply es_cons); exact rfl; (with_reducible apply ev_strl; exact ls19; apply es_cons); exact rfl; (with_reducible apply ev_bool; apply es_cons); exact rfl; (with_reducible apply ev_list; apply es_nil; apply lenOk); exact rfl; (with_reducible apply es_nil; apply lenOk); exact rfl; (with_reducible apply es_cons); exact rfl; (with_reducible apply ev_nameH); exact .tail (.tail .head); (with_reducible exact nu_str; apply es_nil; apply lenOk); exact rfl; (with_reducible apply then_ret))
    exact ⟨_, _, .any hcs, rfl, fun _ => .inl e3⟩
  apply way_f; · exact decide_eq_false e3
  ((with_reducible apply ex_nil; apply then_next; apply ex_if; apply te_compare); exact rfl; (with_reducible apply ev_nameH); exact .head; (with_reducible exact nu_int; apply ev_nat; exact nn6; apply pr_ltN; apply bool_ex))
  by_cases k6 : kind < 6
  · apply way_t; · exact decide_eq_true k6
    ((with_reducible apply ex_assign); exact rfl; (with_reducible apply ev_sub; apply ev_strl; exact ls20; apply ev_binop; apply ev_nameH); exact .tail .head; (with_reducible exact nu_int; apply ev_nat; exact nn4))
    refine pr_modN (by decide) fun m hm' => ?_
    obtain ⟨x, hx, hxs⟩ := all_at (l := [97, 98, 94, 38]) (k := m) hm'
    refine si_strN (c := x) hx (by (exact Nat.le_trans (Nat.le_of_lt (by assumption)) (by decide))) ?_
    ((with_reducible apply asgX); exact .tail (.tail (.tail .head)); exact .inl rfl; (with_reducible apply ex_return; apply ev_tuple; apply es_cons); exact rfl; (with_reducible apply ev_tuple; apply es_cons); exact rfl; (with_reducible apply ev_nameH); exact .tail (.tail (.tail .head)); (with_reducible exact nu_str; apply es_cons); exact rfl; (with_reducible apply ev_bool; apply es_cons); exact rfl; (with_reducible apply ev_list; apply es_cons); exact rfl; (with_reducible apply ev_tuple; apply es_cons); exact rfl; (with_reducible apply ev_nameH); exact .tail (.tail (.tail .head)); (with_reducible exact nu_str; apply es_cons); exact rfl; (with_reducible apply ev_nameH); exact .tail (.tail (.tail .head)); (with_reducible exact nu_str; apply es_nil; apply lenOk); exact rfl; (with_reducible apply es_nil; apply lenOk); exact rfl; (with_reducible apply es_nil; apply lenOk); exact rfl; (with_reducible apply es_cons); exact rfl; (with_reducible apply ev_nameH); exact .tail (.tail (.tail .head)); (with_reducible exact nu_str; apply es_nil; apply lenOk); exact rfl; (with_reducible apply then_ret))
    refine ⟨_, _, .plain hxs, rfl, fun h => ?_⟩
    simp [wild] at h
    simp at hxs
    lia
  apply way_f; · exact decide_eq_false k6
  ((with_reducible apply ex_nil; apply then_next; apply ex_assign); exact rfl; (with_reducible apply ev_list; apply es_cons); exact rfl; (with_reducible apply ev_strl; exact ls21; apply es_cons); exact rfl; (with_reducible apply ev_strl; exact ls22; apply es_cons); exact rfl; (with_reducible apply ev_strl; exact ls6; apply es_cons); exact rfl; (with_reducible apply ev_strl; exact ls3; apply es_cons); exact rfl; (with_reducible apply ev_strl; exact ls23; apply es_cons); exact rfl; (with_reducible apply ev_strl; exact ls24; apply es_cons); exact rfl; (with_reducible apply ev_strl; exact ls25; apply es_cons); exact rfl; (with_reducible apply ev_strl; exact ls26; apply es_cons); exact rfl; (with_reducible apply ev_strl; exact ls2; apply es_cons); exact rfl; (with_reducible apply ev_strl; exact ls27; apply es_nil; apply lenOk); exact rfl; (with_reducible apply asgX); exact .tail (.tail (.tail (.tail .head))); exact .inl rfl; (with_reducible apply ex_assign); exact rfl; (with_reducible apply ev_list; apply es_cons); exact rfl; (with_reducible apply ev_sub; apply ev_binop; apply ev_nameH); exact .tail (.tail (.tail (.tail .head))); (with_reducible exact nu_lst; apply ev_list; apply es_cons); exact rfl; (with_reducible apply ev_strl; exact ls7; apply es_nil; apply lenOk); exact rfl)
  refine pr_ladd (by decide) ?_
  ((with_reducible apply ev_binop; apply ev_nameH); exact .tail .head; (with_reducible exact nu_int; apply ev_nat; exact nn11))
  refine pr_modN (by decide) fun m hm' => ?_
  obtain ⟨p, hp, hps⟩ := all_at (l := pcsA) (k := m) hm'
  refine si_lst (lv := .str p) (show (pcsA.map LV.str)[m]? = _ by rw [List.getElem?_map, hp]; rfl) (by (exact Nat.le_trans (Nat.le_of_lt (by assumption)) (by decide))) ?_
  ((with_reducible apply es_cons); exact rfl; (with_reducible apply ev_sub; apply ev_binop; apply ev_nameH); exact .tail (.tail (.tail (.tail .head))); (with_reducible exact nu_lst; apply ev_list; apply es_cons); exact rfl; (with_reducible apply ev_strl; exact ls8; apply es_cons); exact rfl; (with_reducible apply ev_strl; exact ls28; apply es_nil; apply lenOk); exact rfl)
  refine pr_ladd (by decide) ?_
  ((with_reducible apply ev_binop; apply ev_binop; apply ev_nameH); exact .tail .head; (with_reducible exact nu_int; apply ev_nat; exact nn11))
  refine pr_fdiv (by decide) (by decide) ?_
  ((with_reducible apply ev_nat; exact nn12))
  refine pr_modN (by decide) fun m' hm2' => ?_
  obtain ⟨q, hq, hqs⟩ := all_at (l := pcsB) (k := m') hm2'
  refine si_lst (lv := .str q) (show (pcsB.map LV.str)[m']? = _ by rw [List.getElem?_map, hq]; rfl) (by (exact Nat.le_trans (Nat.le_of_lt (by assumption)) (by decide))) ?_
  ((with_reducible apply es_nil; apply lenOk); exact rfl; (with_reducible apply asgX); exact .tail (.tail (.tail (.tail (.tail .head)))); exact .inl rfl)
  refine ex_compX (by (exact .tail (.tail (.tail (.tail (.tail (.tail .head))))))) rfl hg.gt (by decide) rfl (fun _ => rfl) rfl ?_
  ((with_reducible apply ev_nameH); exact .tail (.tail (.tail (.tail (.tail .head)))); (with_reducible exact nu_lst))
  have hlen : ∀ s ∈ [p, q], s.length ≤ 3 := by
    have h1 : ∀ s ∈ pcsA, s.length ≤ 3 := by decide
    have h2 : ∀ s ∈ pcsB, s.length ≤ 3 := by decide
    intro s hs
    simp at hs
    rcases hs with rfl | rfl
    · exact h1 _ hps
    · exact h2 _ hqs
  have hsps : ([p, q].map fun s => if s != [] then [spanV (pcSpan s)] else []).flatten = (([p, q].filter fun s => s != []).map pcSpan).map spanV := by
    rw [flat_if (fun s : List Nat => s != []) (fun s => spanV (pcSpan s)), List.map_map]; rfl
  refine ⟨_, [p, q].map fun s => if s != [] then [spanV (pcSpan s)] else [], ([(".0", .local, .undef), ("piece", .local, .undef)] : List (Str × Loc × LV)), rfl, itw_lst, ?_, fun F' => all2_map (f := LV.str) (l := [p, q]) fun s hs c' => ?_, ?_⟩
  · rw [hsps, List.length_map, List.length_map]
    exact Nat.le_trans (List.length_filter_le _ _) (by simp)
  · ((with_reducible apply as_nameX); exact .tail .head; exact .inl rfl)
    refine ⟨rfl, cl_if fun c => ?_⟩
    ((with_reducible apply te_compare); exact rfl; (with_reducible apply ev_nameH); exact .tail .head; (with_reducible exact nu_str; apply ev_strl; exact ls28; apply pr_sne; apply bool_ex))
    have hsl := hlen s hs
    refine ⟨fun hb => ?_, fun hb => ?_⟩
    · rw [if_pos hb]
      cases s with
      | nil => cases hb
      | cons a s =>
      ((with_reducible apply ev_tuple; apply es_cons); exact rfl; (with_reducible apply ev_sub; apply ev_nameH); exact .tail .head; (with_reducible exact nu_str; apply ev_nat; exact nn0))
      refine si_strN (x := a :: s) (c := a) (k := 0) rfl (by lia) ?_
      ((with_reducible apply es_cons); exact rfl; (with_reducible apply ev_sub; apply ev_nameH); exact .tail .head; (with_reducible exact nu_str; apply ev_unary; apply ev_nat; exact nn1; apply pr_neg))
      refine si_str (c := (a :: s).getLastD 0) (k := s.length) (seqIndex_last (by simp)) (by rw [List.getLastD_eq_getLast?, List.getLast?_eq_getElem?]; simp) (by lia) ?_
      ((with_reducible apply es_nil; apply lenOk); exact rfl)
      exact ⟨rfl, rfl, by (exact .undefL (.undefL .nil))⟩
    · rw [hb]
      exact ⟨rfl, rfl, by (exact .undefL (.undefL .nil))⟩
  rw [hsps]
  ((with_reducible apply asgX); exact .tail (.tail (.tail (.tail (.tail (.tail .head))))); exact .inl rfl; (with_reducible apply ex_return; apply ev_tuple; apply es_cons); exact rfl; (with_reducible apply ev_tuple; apply es_cons); exact rfl; (with_reducible apply ev_binop; apply ev_binop; apply ev_binop; apply ev_strl; exact ls2; apply ev_ifexp; apply te_compare); exact rfl; (with_reducible apply ev_nameH); exact .head; (with_reducible exact nu_int; apply ev_nat; exact nn8; apply pr_gtN; apply bool_ex))
  have hpl := hlen p (by simp)
  have hql := hlen q (by simp)
  have hr : ∀ b : Bool, RowOk (setItem b p q) [c] := fun b => .set hps hqs hcs
  by_cases k8 : 8 < kind
  · have hr := hr true
    apply way_t; · exact decide_eq_true k8
    ((with_reducible apply ev_strl; exact ls29))
    refine pr_sadd (by decide) ?_
    ((with_reducible apply ev_joinC); exact rfl; exact rfl; (with_reducible exact ls28; apply ev_nameH); exact .tail (.tail (.tail (.tail (.tail .head)))); (with_reducible exact nu_lst))
    refine ⟨[p, q], rfl, by simp; lia, ?_⟩
    have hj : (joinL [] [p, q]).length ≤ 10 := by simp [joinL]; lia
    refine pr_sadd (by simp; lia) ?_
    ((with_reducible apply ev_strl; exact ls7))
    refine pr_sadd (by simp; (exact Nat.le_trans (by assumption) (by decide))) ?_
    ((with_reducible apply es_cons); exact rfl; (with_reducible apply ev_compare); exact rfl; (with_reducible apply ev_nameH); exact .head; (with_reducible exact nu_int; apply ev_nat; exact nn8; apply pr_gtN; apply es_cons); exact rfl; (with_reducible apply ev_nameH); exact .tail (.tail (.tail (.tail (.tail (.tail .head))))); (with_reducible exact nu_lst; apply es_nil; apply lenOk); exact rfl; (with_reducible apply es_cons); exact rfl; (with_reducible apply ev_nameH); exact .tail (.tail .head); (with_reducible exact nu_str; apply es_nil; apply lenOk); exact rfl)
    rw [show (decide (8 < kind)) = true from by simpa using k8]
    exact ⟨_, _, hr, rfl, fun _ => .inr (by (exact Nat.not_lt.mp (by assumption)))⟩
  · have hr := hr false
    apply way_f; · exact decide_eq_false k8
    ((with_reducible apply ev_strl; exact ls28))
    refine pr_sadd (by decide) ?_
    ((with_reducible apply ev_joinC); exact rfl; exact rfl; (with_reducible exact ls28; apply ev_nameH); exact .tail (.tail (.tail (.tail (.tail .head)))); (with_reducible exact nu_lst))
    refine ⟨[p, q], rfl, by simp; lia, ?_⟩
    have hj : (joinL [] [p, q]).length ≤ 10 := by simp [joinL]; lia
    refine pr_sadd (by simp; lia) ?_
    ((with_reducible apply ev_strl; exact ls7))
    refine pr_sadd (by simp; (exact Nat.le_trans (by assumption) (by decide))) ?_
    ((with_reducible apply es_cons); exact rfl; (with_reducible apply ev_compare); exact rfl; (with_reducible apply ev_nameH); exact .head; (with_reducible exact nu_int; apply ev_nat; exact nn8; apply pr_gtN; apply es_cons); exact rfl; (with_reducible apply ev_nameH); exact .tail (.tail (.tail (.tail (.tail (.tail .head))))); (with_reducible exact nu_lst; apply es_nil; apply lenOk); exact rfl; (with_reducible apply es_cons); exact rfl; (with_reducible apply ev_nameH); exact .tail (.tail .head); (with_reducible exact nu_str; apply es_nil; apply lenOk); exact rfl)
    rw [show (decide (8 < kind)) = false from by simpa using k8]
    exact ⟨_, _, hr, rfl, fun _ => .inr (by (exact Nat.not_lt.mp (by assumption)))⟩
theorem item_fn (h : HG g) : FnOkE g 103 (["kind", "rest"] : List Str) :=
  fn_ok h (by decide) rfl rfl fun _ _ _ => of2 fun _ _ => rfl
theorem pr_item (h : HG g) {kind : Nat} {rest : Int} (hk : kind < 12) {Φ : LV → Prop} (hΦ : ∀ i r, RowOk i r → (wild i = true → kind = 3 ∨ 5 < kind) → Φ (rowV (i, r))) :
    PrW g (n + 1) [.int kind, .int rest] (fun vs => call (.ref 103) vs) Φ :=
  pr_fnE (item_fn h) h.gt rfl fun F => (item_body h hk).mono fun lf _ ⟨i, r, h1, e, h2⟩ => by rw [e]; exact hΦ i r h1 h2
end

section
noncomputable abbrev rowsE (nums : List Int) (r : LV) (w : Nat) (a b : LV) : List (Str × Loc × LV) :=
  [("numbers", .local, .lst (nums.map .int)), ("rows", .local, r), ("wild", .local, .int w), ("number", .local, a), ("kind", .local, b), ("_law_item", .glob, .raw (.ref 103))]
noncomputable def wilds (rs : List (Item × List Nat)) : Nat := (rs.filter fun r => wild r.1).length
noncomputable def starRow : Item × List Nat := (⟨[42], false, []⟩, [])
noncomputable def endRow : Item × List Nat := (setItem true [98, 45, 97] [], [99])
structure RowsOk (rs : List (Item × List Nat)) : Prop where
  ok : ∀ r ∈ rs, RowOk r.1 r.2
  wl : wilds rs ≤ 2
  len : rs.length ≤ 8
noncomputable def rowsBody (p : Params) : List Stmt := loopOf ((bodyAt p 110).drop 2)
theorem wilds_add {rs : List (Item × List Nat)} {r : Item × List Nat} : wilds (rs ++ [r]) = wilds rs + (if wild r.1 then 1 else 0) := by
  unfold wilds
  rw [List.filter_append, List.length_append]
  congr 1
  by_cases h : wild r.1 = true
  · rw [if_pos h]; simp [h]
  · rw [if_neg h]; simp [h]
theorem rows_app (hg : HG g) {nums : List Int} {x : Int} {w k : Nat} {a : Addr} {rs : List (Item × List Nat)} {d : Addr × Ct} {c : List (Addr × Ct)} (hrs : rs.length ≤ 100) (hk : k < 12) (h1 : wilds rs ≤ min w 2) (h2 : k = 3 ∨ 5 < k → wilds rs + 1 ≤ min w 2) {Φ : LFl → LS → Prop}
    (h : ∀ r, RowOk r.1 r.2 → wilds (rs ++ [r]) ≤ min w 2 → Φ .next ⟨rowsE nums (.raw (.ref a)) w (.int x) (.int k), d :: (a, .lst ((rs ++ [r]).map rowV)) :: c⟩) :
    ExW g F (n + 1) ⟨rowsE nums (.raw (.ref a)) w (.int x) (.int k), d :: (a, .lst (rs.map rowV)) :: c⟩ ((rowsBody g.w.params).drop 2) Φ := by
  conv => arg 5; whnf
  unfold rowsE at h ⊢
  have hcal := (item_fn hg).cal
  have hl : (rs.map rowV).length ≤ 1000000 := by rw [List.length_map]; (exact Nat.le_trans (by assumption) (by decide))
  ((with_reducible apply ex_append); exact rfl; exact rfl; exact .tail .head; exact ⟨_, .tail _ (.head _)⟩; (with_reducible apply ev_callN); exact rfl; exact .tail (.tail (.tail (.tail (.tail .head)))); assumption; (with_reducible apply es_cons); exact rfl; (with_reducible apply ev_nameH); exact .tail (.tail (.tail (.tail .head))); (with_reducible exact nu_int; apply es_cons); exact rfl; (with_reducible apply ev_binop; apply ev_nameH); exact .tail (.tail (.tail .head)); (with_reducible exact nu_int; apply ev_nat; exact nn12))
  refine pr_fdiv (by decide) (by decide) ?_
  ((with_reducible apply es_nil; apply PrW.ca))
  refine pr_item hg hk fun i r hr hw => ?_
  ((with_reducible apply apX); exact .tail .head; assumption; (with_reducible apply ex_nil))
  have happ : rs.map rowV ++ [rowV (i, r)] = (rs ++ [(i, r)]).map rowV := by simp
  rw [happ]
  refine h (i, r) hr ?_
  rw [wilds_add]
  split
  · rename_i hwi; exact h2 (hw hwi)
  · exact h1
theorem rows_turn (hg : HG g) {nums : List Int} {x : Int} {w : Nat} {a : Addr} {rs : List (Item × List Nat)} {b : LV} {d : Addr × Ct} {c : List (Addr × Ct)} (hrs : rs.length ≤ 100) (hw : wilds rs ≤ min w 2) {Φ : LFl → LS → Prop}
    (h : ∀ w' r b, RowOk r.1 r.2 → wilds (rs ++ [r]) ≤ min w' 2 → Φ .next ⟨rowsE nums (.raw (.ref a)) w' (.int x) b, d :: (a, .lst ((rs ++ [r]).map rowV)) :: c⟩) :
    ExW g F (n + 1) ⟨rowsE nums (.raw (.ref a)) w (.int x) b, d :: (a, .lst (rs.map rowV)) :: c⟩ (rowsBody g.w.params) Φ := by
  conv => arg 5; whnf
  unfold rowsE
  ((with_reducible apply ex_assign); exact rfl; (with_reducible apply ev_binop; apply ev_nameH); exact .tail (.tail (.tail .head)); (with_reducible exact nu_int; apply ev_nat; exact nn12))
  refine pr_modN (by decide) fun k hk' => ?_
  ((with_reducible apply asgX); exact .tail (.tail (.tail (.tail .head))); exact .inl rfl; (with_reducible apply ex_if; apply te_bool; apply al_or; apply te_compare); exact rfl; (with_reducible apply ev_nameH); exact .tail (.tail (.tail (.tail .head))); (with_reducible exact nu_int; apply ev_nat; exact nn3; apply pr_eqN; apply bool_ex))
  have wildway : ExW g F (n + 1) ⟨rowsE nums (.raw (.ref a)) w (.int x) (.int k), d :: (a, .lst (rs.map rowV)) :: c⟩ (thenOf ((rowsBody g.w.params).drop 1)) (Then g F (n + 1) ((rowsBody g.w.params).drop 2) Φ) := by
    conv => arg 5; whnf
    unfold rowsE
    ((with_reducible apply ex_augH); exact .tail (.tail .head); (with_reducible exact nu_int; apply ev_nat; exact nn1; apply pr_iaddN; apply asgX); exact .tail (.tail .head); exact .inl rfl; (with_reducible apply ex_assign); exact rfl; (with_reducible apply ev_ifexp; apply te_compare); exact rfl; (with_reducible apply ev_nameH); exact .tail (.tail .head); (with_reducible exact nu_int; apply ev_nat; exact nn3; apply pr_ltN; apply bool_ex))
    by_cases h3 : w + 1 < 3
    · apply way_t; · exact decide_eq_true h3
      ((with_reducible apply ev_nameH); exact .tail (.tail (.tail (.tail .head))); (with_reducible exact nu_int; apply asgX); exact .tail (.tail (.tail (.tail .head))); exact .inl rfl; (with_reducible apply ex_nil; apply then_next))
      exact rows_app hg hrs hk' (by lia) (fun _ => by lia) fun r => h _ r _
    · apply way_f; · exact decide_eq_false h3
      ((with_reducible apply ev_nat; exact nn4; apply asgX); exact .tail (.tail (.tail (.tail .head))); exact .inl rfl; (with_reducible apply ex_nil; apply then_next))
      exact rows_app hg (k := 4) hrs (by lia) (by lia) (fun h => by lia) fun r => h _ r _
  by_cases e3 : k = 3
  · apply yaw_t; · exact decide_eq_true e3
    apply way_t; · rfl
    exact wildway
  apply yaw_f; · exact decide_eq_false e3
  ((with_reducible apply al_or; apply te_compare); exact rfl; (with_reducible apply ev_nameH); exact .tail (.tail (.tail (.tail .head))); (with_reducible exact nu_int; apply ev_nat; exact nn5; apply pr_gtN; apply bool_ex))
  by_cases e5 : 5 < k
  · apply yaw_t; · exact decide_eq_true e5
    apply way_t; · rfl
    exact wildway
  apply yaw_f; · exact decide_eq_false e5
  ((with_reducible apply al_or_nil))
  apply way_f; · rfl
  refine ex_nil (then_next ?_)
  exact rows_app hg hrs hk' hw (fun h => by lia) fun r => h _ r _
inductive RoI (nums : List Int) (a : Addr) (rest : List LV) (σ : LS) : Prop
  | mk (rs : List (Item × List Nat)) (w : Nat) (ys : List Int) (h0 : Weak σ.env (rowsE nums (.raw (.ref a)) w .undef .undef)) (h1 : σ.cells = [(a, .lst (rs.map rowV))]) (h2 : rest = ys.map .int) (h3 : rs.length + ys.length ≤ 6) (h4 : wilds rs ≤ min w 2) (h5 : ∀ r ∈ rs, RowOk r.1 r.2)
theorem rows_body (hg : HG g) {nums : List Int} (hn : nums.length ≤ 6) :
    ExW g F (n + 1) ⟨putAll (baseEnv [] gtab (fdAt g.w.params 110).scope.names) ([("numbers", .lst (nums.map .int))] : List (Str × LV)), []⟩ (bodyAt g.w.params 110) fun lf _ => ∃ rs, RowsOk rs ∧ lf = .ret (.lst (rs.map rowV)) := by
  conv => arg 5; whnf
  have e2 : putAll (baseEnv [] gtab (fdAt g.w.params 110).scope.names) ([("numbers", .lst (nums.map .int))] : List (Str × LV)) = ([("numbers", .local, .lst (nums.map .int)), ("rows", .local, .undef), ("wild", .local, .undef), ("number", .local, .undef), ("kind", .local, .undef), ("_law_item", .glob, .raw (.ref 103))] : List (Str × Loc × LV)) := rfl
  rw [e2]
  clear e2
  refine ex_newlistF fun a _ => ?_
  ((with_reducible apply asgX); exact .tail .head; exact .inl rfl; (with_reducible apply ex_assign); exact rfl; (with_reducible apply ev_nat; exact nn0; apply asgX); exact .tail (.tail .head); exact .inl rfl)
  refine ex_for (fun _ => rfl) ?_
  ((with_reducible apply ev_nameH); exact .head; (with_reducible exact nu_lst))
  refine ⟨_, itw_lst, (RoI nums a),
    ⟨[], 0, nums, by unfold rowsE; (exact .same (.same (.same (.undefL (.undefL (.same .nil)))))), rfl, rfl, by simpa using hn, by decide, by simp⟩, ?_, ?_⟩
  · rintro x rest' ⟨e, c⟩ it o' ⟨rs, w, ys, hw, hc, hr, hlen, hwl, hok⟩
    dsimp only at hw hc
    subst hc
    cases ys with
    | nil => cases hr
    | cons y ys =>
    rw [List.map_cons] at hr
    injection hr with h1 h2
    subst h1 h2
    simp at hlen
    refine as_weak hw ?_
    unfold rowsE
    ((with_reducible apply as_nameX); exact .tail (.tail (.tail .head)); exact .inl rfl)
    refine rows_turn (w := w) (b := .undef) hg (by lia) hwl fun w' r b hr hw' => ?_
    refine ⟨[(a, .lst ((rs ++ [r]).map rowV))], .head, rs ++ [r], w', ys, by unfold rowsE; (exact .same (.same (.same (.undefL (.undefL (.same .nil)))))), rfl, rfl, by simp; lia, hw', fun r' hr' => ?_⟩
    rcases List.mem_append.mp hr' with h | h
    · exact hok _ h
    · cases List.mem_singleton.mp h; exact hr
  · rintro ⟨e, c⟩ ⟨rs, w, ys, hw, hc, hr, hlen, hwl, hok⟩
    dsimp only at hw hc
    subst hc
    refine ex_weak hw ?_
    cases ys with
    | cons _ _ => cases hr
    | nil =>
    unfold rowsE
    ((with_reducible apply ex_if; apply te_compare); exact rfl; (with_reducible apply ev_nameH); exact .tail (.tail .head); (with_reducible exact nu_int; apply ev_nat; exact nn2; apply pr_ltN; apply bool_ex))
    by_cases h2 : w < 2
    · apply way_t; · exact decide_eq_true h2
      have hrl : rs.length ≤ 6 := hlen
      have hl : (rs.map rowV).length ≤ 900000 := by rw [List.length_map]; (exact Nat.le_trans (by assumption) (by decide))
      ((with_reducible apply ex_append); exact rfl; exact rfl; exact .tail .head; exact ⟨_, .head _⟩; (with_reducible apply ev_tuple; apply es_cons); exact rfl; (with_reducible apply ev_tuple; apply es_cons); exact rfl; (with_reducible apply ev_strl; exact ls18; apply es_cons); exact rfl; (with_reducible apply ev_bool; apply es_cons); exact rfl; (with_reducible apply ev_list; apply es_nil; apply lenOk); exact rfl; (with_reducible apply es_nil; apply lenOk); exact rfl; (with_reducible apply es_cons); exact rfl; (with_reducible apply ev_strl; exact ls28; apply es_nil; apply lenOk); exact rfl; (with_reducible apply apX); exact .head; (exact Nat.le_trans (by assumption) (by decide)); (with_reducible apply ex_append); exact rfl; exact rfl; exact .tail .head; exact ⟨_, .head _⟩; (with_reducible apply ev_tuple; apply es_cons); exact rfl; (with_reducible apply ev_tuple; apply es_cons); exact rfl; (with_reducible apply ev_strl; exact ls30; apply es_cons); exact rfl; (with_reducible apply ev_bool; apply es_cons); exact rfl; (with_reducible apply ev_list; apply es_cons); exact rfl; (with_reducible apply ev_tuple; apply es_cons); exact rfl; (with_reducible apply ev_strl; exact ls31; apply es_cons); exact rfl; (with_reducible apply ev_strl; exact ls21; apply es_nil; apply lenOk); exact rfl; (with_reducible apply es_nil; apply lenOk); exact rfl; (with_reducible apply es_nil; apply lenOk); exact rfl; (with_reducible apply es_cons); exact rfl; (with_reducible apply ev_strl; exact ls32; apply es_nil; apply lenOk); exact rfl; (with_reducible apply apX); exact .head; simp; (exact Nat.le_trans (by assumption) (by decide)); (with_reducible apply ex_nil; apply then_next))
      have happ : rs.map rowV ++ [.tup [.tup [.str [42], .bool false, .lst []], .str []]] ++ [.tup [.tup [.str [91, 33, 98, 45, 97, 93], .bool true, .lst [.tup [.str [98], .str [97]]]], .str [99]]] = (rs ++ [starRow] ++ [endRow]).map rowV := by
        rw [List.map_append, List.map_append]; rfl
      rw [happ]
      refine freezeX (e' := rowsE nums (.lst ((rs ++ [starRow] ++ [endRow]).map rowV)) w .undef .undef) .head (by (exact .keep (.thaw (.keep (.keep (.keep (.keep .nil))))))) ?_
      unfold rowsE
      ((with_reducible apply ex_return; apply ev_nameH); exact .tail .head; (with_reducible exact nu_lst))
      refine ⟨_, ⟨fun r hr' => ?_, ?_, by simp; assumption⟩, rfl⟩
      · rcases List.mem_append.mp hr' with h | h
        · rcases List.mem_append.mp h with h | h
          · exact hok _ h
          · cases List.mem_singleton.mp h; exact RowOk.star (c := 97) (k := 0) (by decide) (by decide)
        · cases List.mem_singleton.mp h; exact RowOk.set (b := true) (p := [98, 45, 97]) (q := []) (by decide) (by decide) (by decide)
      · rw [wilds_add, wilds_add]
        rw [if_neg (by decide), if_pos (by decide)]
        lia
    · apply way_f; · exact decide_eq_false h2
      have hrl : rs.length ≤ 6 := hlen
      refine ex_nil (then_next ?_)
      refine freezeX (e' := rowsE nums (.lst (rs.map rowV)) w .undef .undef) .head (by (exact .keep (.thaw (.keep (.keep (.keep (.keep .nil))))))) ?_
      unfold rowsE
      ((with_reducible apply ex_return; apply ev_nameH); exact .tail .head; (with_reducible exact nu_lst))
      exact ⟨rs, ⟨hok, by lia, by (exact Nat.le_trans (by assumption) (by decide))⟩, rfl⟩
theorem rows_fn (h : HG g) : FnOkE g 110 (["numbers"] : List Str) :=
  fn_ok h (by decide) rfl rfl fun _ _ _ => of1 fun _ => rfl
theorem pr_rows (h : HG g) {nums : List Int} (hn : nums.length ≤ 6) {Φ : LV → Prop} (hΦ : ∀ rs, RowsOk rs → Φ (.lst (rs.map rowV))) :
    PrW g (n + 2) [.lst (nums.map .int)] (fun vs => call (.ref 110) vs) Φ :=
  pr_fnE (rows_fn h) h.gt rfl fun F => (rows_body h hn).mono fun lf _ ⟨rs, h1, e⟩ => by rw [e]; exact hΦ rs h1
end

section
noncomputable def escC (c : Nat) : List Nat := if c ∈ [94, 38] then [92, c] else [c]
theorem keyOk_ok {e : DictEntry} (h : keyOk e = true) : ∃ k, Value.isInt k e.key = true ∧ e.hash = hashInt k := by
  unfold keyOk at h
  split at h
  · rename_i k t hk
    exact ⟨k, by rw [hk]; simp [Value.isInt], by simpa using h⟩
  · cases h
theorem isTy_eq {t : String} {v : Value} (h : isTy t v = true) : v = .type t := by
  unfold isTy at h
  split at h
  · rw [beq_iff_eq.mp h]
  · cases h
theorem isRef_eq {a : Addr} {v : Value} (h : isRef a v = true) : v = .ref a := by
  unfold isRef at h
  split at h
  · rw [beq_iff_eq.mp h]
  · cases h
theorem none_of {α : Type} {o : Option α} (h : o.isNone = true) : o = none := by cases o with
  | none => rfl
  | some _ => cases h
theorem mapAt_ok {es : Array DictEntry} {c : Nat} {r : List Nat} (h : mapAt es c r = true) : (findBy Value.isInt es (c : Int) = none ∧ r = [c]) ∨ ∃ y u, findBy Value.isInt es (c : Int) = some (.str y u) ∧ y.cps.toList = r ∧ y.length = 2 := by
  unfold mapAt at h
  split at h
  · rename_i e; exact .inl ⟨e, beq_iff_eq.mp h⟩
  · rename_i y u e
    simp only [Bool.and_eq_true, beq_iff_eq] at h
    refine .inr ⟨y, u, e, h.1, ?_⟩
    rw [← h.2, ← h.1]; rfl
  · cases h
theorem dict45 (h : HG g) : ∃ ob es ep, g.G 45 = some ob ∧ ob.ExactDict ∧ ob.data = .dict es ep ∧ (∀ e ∈ es, ∃ k, Value.isInt k e.key = true ∧ e.hash = hashInt k) ∧
    ∀ c ∈ ([97, 98, 94, 38] : List Nat), (findBy Value.isInt es (c : Int) = none ∧ escC c = [c]) ∨ ∃ y u, findBy Value.isInt es (c : Int) = some (.str y u) ∧ y.cps.toList = escC c ∧ y.length = 2 := by
  obtain ⟨ob, h1, h2⟩ := h.see (45, obj45) (chk 3 rfl) (by decide)
  simp only [obj45, Bool.and_eq_true] at h2
  obtain ⟨⟨⟨h2, h3⟩, h4⟩, h5⟩ := h2
  split at h5
  · rename_i es ep hd
    simp only [Bool.and_eq_true] at h5
    obtain ⟨⟨⟨⟨k, m1⟩, m2⟩, m3⟩, m4⟩ := h5
    refine ⟨ob, es, ep, h1, ⟨isTy_eq h2, none_of h3, Array.isEmpty_iff.mp h4⟩, hd, fun e he => keyOk_ok (List.all_eq_true.mp k e (Array.mem_toList_iff.mpr he)), fun c hc => ?_⟩
    simp only [List.mem_cons, List.not_mem_nil, or_false] at hc
    rcases hc with rfl | rfl | rfl | rfl
    · exact mapAt_ok m1
    · exact mapAt_ok m2
    · exact mapAt_ok m3
    · exact mapAt_ok m4
  · cases h5
theorem esc_body (hg : HG g) {c : Nat} (hc : c ∈ [97, 98, 94, 38]) :
    ExW g F n ⟨putAll (baseEnv [] gtab (fdAt g.w.params 55).scope.names) ([("pattern", .str [c])] : List (Str × LV)), []⟩ (bodyAt g.w.params 55) fun lf _ => lf = .ret (.str (escC c)) := by
  conv => arg 5; whnf
  have e2 : putAll (baseEnv [] gtab (fdAt g.w.params 55).scope.names) ([("pattern", .str [c])] : List (Str × LV)) = ([("pattern", .local, .str [c]), ("isinstance", .glob, .raw (.builtin "isinstance")), ("str", .glob, .raw (.type "str")), ("_special_chars_map", .glob, .raw (.ref 45))] : List (Str × Loc × LV)) := rfl
  rw [e2]
  clear e2
  ((with_reducible apply ex_if; apply te_plain); exact rfl; (with_reducible apply ev_callN); exact rfl; exact .tail .head; exact cal_bi; (with_reducible apply es_cons); exact rfl; (with_reducible apply ev_nameH); exact .head; (with_reducible exact nu_str; apply es_cons); exact rfl; (with_reducible apply ev_nameH); exact .tail (.tail .head); (with_reducible exact nu_raw; apply es_nil; apply PrW.ca; apply pr_isinst_str; apply pb_bool))
  apply way_t; · rfl
  ((with_reducible apply ex_return))
  obtain ⟨ob, es, ep, d1, d2, d3, d4, d5⟩ := dict45 hg
  refine ev_transl (a := 45) d1 d2 d3 d4 rfl rfl rfl rfl ?_
  ((with_reducible apply ev_nameH); exact .head; (with_reducible exact nu_str))
  refine ⟨c, escC c, rfl, ?_, d5 c hc, ?_⟩
  · simp at hc; lia
  ((with_reducible apply ev_nameH); exact .tail (.tail (.tail .head)); (with_reducible exact nu_raw))
  exact ⟨rfl, rfl⟩
theorem esc_fn (h : HG g) : FnOkE g 55 (["pattern"] : List Str) :=
  fn_ok h (by decide) rfl rfl fun _ _ _ => of1 fun _ => rfl
theorem pr_esc (h : HG g) {c : Nat} (hc : c ∈ [97, 98, 94, 38]) {Φ : LV → Prop} (hΦ : Φ (.str (escC c))) :
    PrW g (n + 1) [.str [c]] (fun vs => call (.ref 55) vs) Φ :=
  pr_fnE (esc_fn h) h.gt rfl fun F => (esc_body h hc).mono fun lf _ e => by rw [e]; exact hΦ
end

section
noncomputable def tailS : List (List (List Nat)) → List Nat
  | [] => []
  | [g] => [46, 42] ++ g.flatten
  | g :: h :: r => [40, 63, 62, 46, 42, 63] ++ g.flatten ++ [41] ++ tailS (h :: r)
noncomputable def GOk : List (List (List Nat)) → Prop
  | [] => True
  | [_] => True
  | g :: h :: r => g ≠ [] ∧ GOk (h :: r)
theorem tailS_nil : tailS [] = [] := rfl
theorem tailS_one {g : List (List Nat)} : tailS [g] = [46, 42] ++ g.flatten := rfl
theorem tailS_cons {g h : List (List Nat)} {r : List (List (List Nat))} : tailS (g :: h :: r) = [40, 63, 62, 46, 42, 63] ++ g.flatten ++ [41] ++ tailS (h :: r) := rfl
noncomputable def partsR (st : Addr) : List (List (List Nat)) → List LV
  | [] => []
  | g :: r => .raw (.ref st) :: g.map LV.str ++ partsR st r
theorem partsR_cons {st : Addr} {g : List (List Nat)} {r : List (List (List Nat))} : partsR st (g :: r) = .raw (.ref st) :: (g.map LV.str ++ partsR st r) := rfl
noncomputable abbrev joE (L : List LV) (st : Addr) (r ad : LV) (i : Nat) (fx : LV) : List (Str × Loc × LV) :=
  [("inp", .local, .lst L), ("STAR", .local, .raw (.ref st)), ("res", .local, r), ("add", .local, ad), ("i", .local, .int i), ("n", .local, .int L.length), ("fixed", .local, fx), ("len", .glob, .raw (.builtin "len"))]
theorem at_drop {α : Type} {L : List α} {i : Nat} {x : α} {r : List α} (h : L.drop i = x :: r) : L[i]? = some x ∧ i < L.length ∧ L.drop (i + 1) = r := by
  have h1 : L[i]? = some x := by
    have := List.getElem?_drop (xs := L) (i := i) (j := 0)
    rw [h] at this; simpa using this.symm
  refine ⟨h1, (List.getElem?_eq_some_iff.mp h1).1, ?_⟩
  have : L.drop (i + 1) = (L.drop i).drop 1 := by rw [List.drop_drop]
  rw [this, h]; rfl
theorem end_drop {α : Type} {L : List α} {i : Nat} (h : L.drop i = []) : L.length ≤ i := List.drop_eq_nil_iff.mp h
theorem jo_test {p1 p2 p3 p4 p5 p6 p7 p8 p9 : Pos} {L : List LV} (hL : L.length ≤ 100000) {st : Addr} {r ad fx : LV} {i : Nat} {ts : List (List Nat)} {gs : List (List (List Nat))} (hd : L.drop i = ts.map LV.str ++ partsR st gs) {c : List (Addr × Ct)} {Φ : Bool → LS → Prop}
    (ht : ∀ t tr, ts = t :: tr → i < L.length → Φ true ⟨joE L st r ad i fx, c⟩) (he : ts = [] → Φ false ⟨joE L st r ad i fx, c⟩) :
    TeW g F n ⟨joE L st r ad i fx, c⟩ (.BoolOp .And [.Compare (.Name "i" p1) [.Lt] [.Name "n" p2] p3, .Compare (.Subscript (.Name "inp" p4) (.Name "i" p5) p6) [.IsNot] [.Name "STAR" p7] p8] p9) Φ := by
  unfold joE
  ((with_reducible apply te_bool; apply al_and; apply te_compare); exact rfl; (with_reducible apply ev_nameH); exact .tail (.tail (.tail (.tail .head))); (with_reducible exact nu_int; apply ev_nameH); exact .tail (.tail (.tail (.tail (.tail .head)))); (with_reducible exact nu_int; apply pr_ltN; apply bool_ex))
  cases ts with
  | cons t tr =>
    obtain ⟨h1, h2, h3⟩ := at_drop hd
    apply way_t; · exact decide_eq_true h2
    ((with_reducible apply al_and; apply te_compare); exact rfl; (with_reducible apply ev_sub; apply ev_nameH); exact .head; (with_reducible exact nu_lst; apply ev_nameH); exact .tail (.tail (.tail (.tail .head))); (with_reducible exact nu_int; apply si_lst); assumption; (exact Nat.le_trans (Nat.le_of_lt (by assumption)) (Nat.le_trans (by assumption) (by decide))); (with_reducible apply ev_nameH); exact .tail .head; (with_reducible exact nu_raw; apply pr_isnot_str; apply bool_ex))
    refine ⟨fun _ => ?_, (fun e => nomatch e)⟩
    ((with_reducible apply al_and_nil))
    exact ht t tr rfl h2
  | nil =>
    cases gs with
    | nil =>
      have := end_drop hd
      apply way_f; · simpa using this
      exact he rfl
    | cons x y =>
      obtain ⟨h1, h2, h3⟩ := at_drop hd
      apply way_t; · exact decide_eq_true h2
      ((with_reducible apply al_and; apply te_compare); exact rfl; (with_reducible apply ev_sub; apply ev_nameH); exact .head; (with_reducible exact nu_lst; apply ev_nameH); exact .tail (.tail (.tail (.tail .head))); (with_reducible exact nu_int; apply si_lst); assumption; (exact Nat.le_trans (Nat.le_of_lt (by assumption)) (Nat.le_trans (by assumption) (by decide))); (with_reducible apply ev_nameH); exact .tail .head; (with_reducible exact nu_raw; apply pr_isnot_self; apply bool_ex))
      refine ⟨(fun e => nomatch e), fun _ => ?_⟩
      exact he rfl
noncomputable def joBody (p : Params) : List Stmt := loopOf ((bodyAt p 69).drop 4)
inductive JgI (L : List LV) (st a b : Addr) (i : Nat) (grp : List (List Nat)) (gs : List (List (List Nat))) (acc : List (List Nat)) (f : Nat) (σ : LS) : Prop
  | mk (j : Nat) (dn ts : List (List Nat)) (h0 : σ = ⟨joE L st (.raw (.ref a)) (.obj (boundApp a)) j (.raw (.ref b)), [(b, .lst (dn.map .str)), (a, .lst (acc.map LV.str))]⟩) (h1 : grp = dn ++ ts) (h2 : j = i + dn.length) (h3 : L.drop j = ts.map LV.str ++ partsR st gs) (h4 : f = ts.length)
theorem jo_group {L : List LV} (hL : L.length ≤ 100000) {st a : Addr} {i : Nat} {grp : List (List Nat)} {gs : List (List (List Nat))} {acc : List (List Nat)} (hd : L.drop i = grp.map LV.str ++ partsR st gs) (hg0 : grp ≠ []) (hal : acc.length ≤ 100000) (hgl : grp.flatten.length ≤ 100000) {w : LV} {Φ : LFl → LS → Prop}
    (hend : gs = [] → ∀ j fx, j = L.length → Φ .next ⟨joE L st (.raw (.ref a)) (.obj (boundApp a)) j fx, [(a, .lst ((acc ++ [[46, 42], grp.flatten]).map .str))]⟩)
    (hmid : ∀ h r, gs = h :: r → ∀ j fx, i < j → j < L.length → L.drop j = partsR st gs → Φ .next ⟨joE L st (.raw (.ref a)) (.obj (boundApp a)) j fx, [(a, .lst ((acc ++ [[40, 63, 62, 46, 42, 63] ++ grp.flatten ++ [41]]).map .str))]⟩) :
    ExW g F n ⟨joE L st (.raw (.ref a)) (.obj (boundApp a)) i w, [(a, .lst (acc.map .str))]⟩ ((joBody g.w.params).drop 4) Φ := by
  conv => arg 5; whnf
  refine ex_newlistF fun b hb => ?_
  unfold joE
  ((with_reducible apply asgX); exact .tail (.tail (.tail (.tail (.tail (.tail .head))))); exact .inl rfl)
  refine ex_while (JgI L st a b i grp gs acc) _ ⟨i, [], grp, rfl, rfl, rfl, hd, rfl⟩ ?_
  rintro f σ ⟨j, dn, ts, rfl, hgrp, hj, hdj, hf⟩
  refine jo_test hL hdj (fun t tr hts hlt => ⟨fun _ => ?_, (fun e => nomatch e)⟩) (fun hts => ⟨(fun e => nomatch e), fun _ => ?_⟩)
  · subst hts
    obtain ⟨h1, h2, h3⟩ := at_drop hdj
    have hdn : (dn.map LV.str).length ≤ 1000000 := by rw [List.length_map]; lia
    unfold joE
    ((with_reducible apply ex_append); exact rfl; exact rfl; exact .tail (.tail (.tail (.tail (.tail (.tail .head))))); exact ⟨_, .head _⟩; (with_reducible apply ev_sub; apply ev_nameH); exact .head; (with_reducible exact nu_lst; apply ev_nameH); exact .tail (.tail (.tail (.tail .head))); (with_reducible exact nu_int; apply si_lst); assumption; (exact Nat.le_trans (Nat.le_of_lt (by assumption)) (Nat.le_trans (by assumption) (by decide))); (with_reducible apply apX); exact .head; assumption; (with_reducible apply ex_augH); exact .tail (.tail (.tail (.tail .head))); (with_reducible exact nu_int; apply ev_nat; exact nn1; apply pr_iaddN; apply asgX); exact .tail (.tail (.tail (.tail .head))); exact .inl rfl; (with_reducible apply ex_nil))
    exact ⟨tr.length, by rw [hf]; simp, j + 1, dn ++ [t], tr, by simp, by simp [hgrp], by simp; lia, h3, rfl⟩
  · subst hts
    rw [List.append_nil] at hgrp
    subst hgrp
    have hne : 0 < grp.length := List.length_pos_iff.mpr hg0
    have hal' : (acc.map LV.str).length ≤ 1000000 := by rw [List.length_map]; (exact Nat.le_trans (by assumption) (by decide))
    have hal2 : (acc.map LV.str ++ [LV.str [46, 42]]).length ≤ 1000000 := by rw [List.length_append, List.length_map]; simp; (exact Nat.le_trans (by assumption) (by decide))
    have h2 : acc.map LV.str ++ [LV.str [46, 42]] ++ [LV.str grp.flatten] = (acc ++ [[46, 42], grp.flatten]).map LV.str := by simp
    have h1 : acc.map LV.str ++ [LV.str ([40, 63, 62, 46, 42, 63] ++ grp.flatten ++ [41])] = (acc ++ [[40, 63, 62, 46, 42, 63] ++ grp.flatten ++ [41]]).map LV.str := by simp
    refine freezeX (e' := joE L st (.raw (.ref a)) (.obj (boundApp a)) j (.lst (grp.map .str))) .head (by (exact .keep (.keep (.keep (.keep (.keep (.keep (.thaw (.keep .nil))))))))) ?_
    unfold joE
    ((with_reducible apply ex_assign); exact rfl; (with_reducible apply ev_joinC); exact rfl; exact rfl; (with_reducible exact ls28; apply ev_nameH); exact .tail (.tail (.tail (.tail (.tail (.tail .head))))); (with_reducible exact nu_lst))
    refine ⟨grp, rfl, by simp only [List.length_nil, Nat.mul_zero]; (exact Nat.le_trans (by assumption) (by decide)), ?_⟩
    rw [joinL_nil]
    ((with_reducible apply asgX); exact .tail (.tail (.tail (.tail (.tail (.tail .head))))); exact .inl rfl; (with_reducible apply ex_if; apply te_compare); exact rfl; (with_reducible apply ev_nameH); exact .tail (.tail (.tail (.tail .head))); (with_reducible exact nu_int; apply ev_nameH); exact .tail (.tail (.tail (.tail (.tail .head)))); (with_reducible exact nu_int; apply pr_eqN; apply bool_ex))
    cases gs with
    | nil =>
      have hjn' : j = L.length := by
        have := congrArg List.length hd
        rw [List.length_drop, List.length_append, List.length_map] at this
        simp [partsR] at this
        lia
      apply way_t; · exact decide_eq_true hjn'
      ((with_reducible apply ex_callappH); exact rfl; exact .tail (.tail (.tail .head)); (with_reducible apply ev_strl; exact ls15; apply apX); exact .head; assumption; (with_reducible apply ex_callappH); exact rfl; exact .tail (.tail (.tail .head)); (with_reducible apply ev_nameH); exact .tail (.tail (.tail (.tail (.tail (.tail .head))))); (with_reducible exact nu_str; apply apX); exact .head; assumption; (with_reducible apply ex_nil; apply then_next; apply ex_nil))
      rw [h2]
      exact hend rfl j _ hjn'
    | cons h r =>
      obtain ⟨k1, k2, k3⟩ := at_drop hdj
      apply way_f; · simp; lia
      ((with_reducible apply ex_callappH); exact rfl; exact .tail (.tail (.tail .head)); (with_reducible apply ev_joined; apply jo_cons; apply ev_strl; exact ls12; apply str_ex))
      refine ⟨by decide, jo_cons ?_⟩
      ((with_reducible apply ev_fmt; apply ev_nameH); exact .tail (.tail (.tail (.tail (.tail (.tail .head))))); (with_reducible exact nu_str; apply str_ex))
      refine ⟨by (exact Nat.le_trans (by assumption) (by decide)), ?_⟩
      ((with_reducible apply str_ex))
      refine ⟨by simp only [List.length_append, List.length_cons, List.length_nil]; lia, ?_⟩
      ((with_reducible apply jo_cons; apply ev_strl; exact ls13; apply str_ex))
      refine ⟨by simp only [List.length_append, List.length_cons, List.length_nil]; lia, ?_⟩
      refine jo_nil (by simp only [List.length_append, List.length_cons, List.length_nil]; lia) ?_
      ((with_reducible apply apX); exact .head; assumption; (with_reducible apply ex_nil; apply then_next; apply ex_nil))
      rw [List.nil_append, h1]
      exact hmid h r rfl j _ (by lia) k2 hdj
theorem jo_turn {L : List LV} (hL : L.length ≤ 100000) {st a : Addr} {i : Nat} {grp : List (List Nat)} {gs : List (List (List Nat))} {acc : List (List Nat)} (hd : L.drop i = partsR st (grp :: gs)) (hok : GOk (grp :: gs)) (hal : acc.length ≤ 90000) (hgl : grp.flatten.length ≤ 100000) {w : LV} {Φ : LFl → LS → Prop}
    (hbrk : gs = [] → grp = [] → ∀ j fx, j = L.length → Φ .brk ⟨joE L st (.raw (.ref a)) (.obj (boundApp a)) j fx, [(a, .lst ((acc ++ [[46, 42]]).map .str))]⟩)
    (hend : gs = [] → ∀ j fx, j = L.length → Φ .next ⟨joE L st (.raw (.ref a)) (.obj (boundApp a)) j fx, [(a, .lst ((acc ++ [[46, 42], grp.flatten]).map .str))]⟩)
    (hmid : ∀ h r, gs = h :: r → ∀ j fx, i < j → j < L.length → L.drop j = partsR st gs → Φ .next ⟨joE L st (.raw (.ref a)) (.obj (boundApp a)) j fx, [(a, .lst ((acc ++ [[40, 63, 62, 46, 42, 63] ++ grp.flatten ++ [41]]).map .str))]⟩) :
    ExW g F n ⟨joE L st (.raw (.ref a)) (.obj (boundApp a)) i w, [(a, .lst (acc.map .str))]⟩ (joBody g.w.params) Φ := by
  conv => arg 5; whnf
  unfold joE
  obtain ⟨h1, h2, h3⟩ := at_drop hd
  have hal' : (acc.map LV.str).length ≤ 1000000 := by rw [List.length_map]; (exact Nat.le_trans (by assumption) (by decide))
  refine ex_assert ?_
  ((with_reducible apply te_compare); exact rfl; (with_reducible apply ev_sub; apply ev_nameH); exact .head; (with_reducible exact nu_lst; apply ev_nameH); exact .tail (.tail (.tail (.tail .head))); (with_reducible exact nu_int; apply si_lst); assumption; (exact Nat.le_trans (Nat.le_of_lt (by assumption)) (Nat.le_trans (by assumption) (by decide))); (with_reducible apply ev_nameH); exact .tail .head; (with_reducible exact nu_raw; apply pr_is_self; apply bool_ex))
  refine ⟨rfl, ?_⟩
  ((with_reducible apply ex_augH); exact .tail (.tail (.tail (.tail .head))); (with_reducible exact nu_int; apply ev_nat; exact nn1; apply pr_iaddN; apply asgX); exact .tail (.tail (.tail (.tail .head))); exact .inl rfl; (with_reducible apply ex_if; apply te_compare); exact rfl; (with_reducible apply ev_nameH); exact .tail (.tail (.tail (.tail .head))); (with_reducible exact nu_int; apply ev_nameH); exact .tail (.tail (.tail (.tail (.tail .head)))); (with_reducible exact nu_int; apply pr_eqN; apply bool_ex))
  have h3' : L.drop (i + 1) = grp.map LV.str ++ partsR st gs := h3
  by_cases hi : i + 1 = L.length
  · apply way_t; · exact decide_eq_true hi
    have e0 : grp.map LV.str ++ partsR st gs = [] := by rw [← h3', hi, List.drop_length]
    have eg : grp = [] := by cases grp with | nil => rfl | cons _ _ => cases e0
    have es : gs = [] := by cases gs with | nil => rfl | cons _ _ => subst eg; cases e0
    ((with_reducible apply ex_callappH); exact rfl; exact .tail (.tail (.tail .head)); (with_reducible apply ev_strl; exact ls15; apply apX); exact .head; assumption)
    refine ex_break ?_
    have hh : acc.map LV.str ++ [LV.str [46, 42]] = (acc ++ [[46, 42]]).map LV.str := by simp
    rw [hh]
    exact hbrk es eg _ _ hi
  · apply way_f; · exact decide_eq_false hi
    have hg0 : grp ≠ [] := by
      intro h
      subst h
      cases gs with
      | nil => 
        have := end_drop h3'
        lia
      | cons x y => exact hok.1 rfl
    refine ex_nil (then_next ?_)
    refine ex_assert ?_
    obtain ⟨t, tr, ht⟩ := List.exists_cons_of_ne_nil hg0
    have h4 : L.drop (i + 1) = .str t :: (tr.map LV.str ++ partsR st gs) := by rw [h3', ht]; rfl
    obtain ⟨k1, k2, k3⟩ := at_drop h4
    ((with_reducible apply te_compare); exact rfl; (with_reducible apply ev_sub; apply ev_nameH); exact .head; (with_reducible exact nu_lst; apply ev_nameH); exact .tail (.tail (.tail (.tail .head))); (with_reducible exact nu_int; apply si_lst); assumption; (exact Nat.le_trans (Nat.le_of_lt (by assumption)) (Nat.le_trans (by assumption) (by decide))); (with_reducible apply ev_nameH); exact .tail .head; (with_reducible exact nu_raw; apply pr_isnot_str; apply bool_ex))
    refine ⟨rfl, ?_⟩
    exact jo_group hL h3' hg0 (by (exact Nat.le_trans (by assumption) (by decide))) hgl hend fun h r e j fx hj1 hj2 hj3 => hmid h r e j fx (by (exact Nat.le_of_lt (by assumption))) hj2 hj3
theorem jo_tail {L : List LV} (hL : L.length ≤ 100000) {st a : Addr} {acc : List (List Nat)} {W : List Nat} (hW : acc.flatten = W) (hWl : W.length ≤ 100000) {w : LV} :
    ExW g F n ⟨joE L st (.raw (.ref a)) (.obj (boundApp a)) L.length w, [(a, .lst (acc.map .str))]⟩ ((bodyAt g.w.params 69).drop 5) fun lf _ => lf = .ret (.str ([40, 63, 115, 58] ++ W ++ [41, 92, 90])) := by
  conv => arg 5; whnf
  unfold joE
  refine ex_assert ?_
  ((with_reducible apply te_compare); exact rfl; (with_reducible apply ev_nameH); exact .tail (.tail (.tail (.tail .head))); (with_reducible exact nu_int; apply ev_nameH); exact .tail (.tail (.tail (.tail (.tail .head)))); (with_reducible exact nu_int; apply pr_eqN; apply bool_ex))
  refine ⟨by simp, ?_⟩
  refine freezeX (e' := joE L st (.lst (acc.map .str)) (.obj (boundApp a)) L.length w) .head (by (exact .keep (.keep (.thaw (.keep (.keep (.keep (.keep (.keep .nil))))))))) ?_
  unfold joE
  ((with_reducible apply ex_assign); exact rfl; (with_reducible apply ev_joinC); exact rfl; exact rfl; (with_reducible exact ls28; apply ev_nameH); exact .tail (.tail .head); (with_reducible exact nu_lst))
  refine ⟨acc, rfl, by rw [hW]; simp only [List.length_nil, Nat.mul_zero]; (exact Nat.le_trans (by assumption) (by decide)), ?_⟩
  rw [joinL_nil, hW]
  ((with_reducible apply asgX); exact .tail (.tail .head); exact .inl rfl; (with_reducible apply ex_return; apply ev_joined; apply jo_cons; apply ev_strl; exact ls9; apply str_ex))
  refine ⟨by decide, jo_cons ?_⟩
  ((with_reducible apply ev_fmt; apply ev_nameH); exact .tail (.tail .head); (with_reducible exact nu_str; apply str_ex))
  refine ⟨by (exact Nat.le_trans (by assumption) (by decide)), ?_⟩
  ((with_reducible apply str_ex))
  refine ⟨by simp only [List.length_append, List.length_cons, List.length_nil]; lia, ?_⟩
  ((with_reducible apply jo_cons; apply ev_strl; exact ls10; apply str_ex))
  refine ⟨by simp only [List.length_append, List.length_cons, List.length_nil]; lia, ?_⟩
  refine jo_nil (by simp only [List.length_append, List.length_cons, List.length_nil]; lia) ?_
  skip
  rfl
theorem flat_app (acc : List (List Nat)) (x y : List Nat) : (acc ++ [x, y]).flatten = acc.flatten ++ (x ++ y) := by simp
theorem flat_app1 (acc : List (List Nat)) (x : List Nat) : (acc ++ [x]).flatten = acc.flatten ++ x := by simp
inductive JpI (L : List LV) (st a : Addr) (pre : List (List Nat)) (gs : List (List (List Nat))) (f : Nat) (σ : LS) : Prop
  | mk (j : Nat) (dn ts : List (List Nat)) (h0 : σ = ⟨joE L st (.raw (.ref a)) (.obj (boundApp a)) j .undef, [(a, .lst (dn.map LV.str))]⟩) (h1 : pre = dn ++ ts) (h2 : j = dn.length) (h3 : L.drop j = ts.map LV.str ++ partsR st gs) (h4 : f = ts.length)
inductive JoI (L : List LV) (st a : Addr) (W : List Nat) (f : Nat) (σ : LS) : Prop
  | mk (j : Nat) (acc : List (List Nat)) (fx : LV) (rs : List (List (List Nat))) (h0 : σ = ⟨joE L st (.raw (.ref a)) (.obj (boundApp a)) j fx, [(a, .lst (acc.map LV.str))]⟩) (h1 : L.drop j = partsR st rs) (h2 : acc.flatten ++ tailS rs = W) (h3 : GOk rs) (h4 : j ≤ L.length) (h5 : f = rs.length) (h6 : acc.length + 2 * rs.length ≤ 50000)
theorem jo_body (hg : HG g) {st : Addr} {pre : List (List Nat)} {gs : List (List (List Nat))} {L : List LV} (hLe : L = pre.map LV.str ++ partsR st gs) (hL : L.length ≤ 10000) (hok : GOk gs) (hW : (pre.flatten ++ tailS gs).length ≤ 100000) (hgs : gs.length ≤ 10000) :
    ExW g F n ⟨putAll (baseEnv [] gtab (fdAt g.w.params 69).scope.names) ([("inp", .lst L), ("STAR", .raw (.ref st))] : List (Str × LV)), []⟩ (bodyAt g.w.params 69) fun lf _ => lf = .ret (.str ([40, 63, 115, 58] ++ (pre.flatten ++ tailS gs) ++ [41, 92, 90])) := by
  conv => arg 5; whnf
  have e2 : putAll (baseEnv [] gtab (fdAt g.w.params 69).scope.names) ([("inp", .lst L), ("STAR", .raw (.ref st))] : List (Str × LV)) = ([("inp", .local, .lst L), ("STAR", .local, .raw (.ref st)), ("res", .local, .undef), ("add", .local, .undef), ("i", .local, .undef), ("n", .local, .undef), ("fixed", .local, .undef), ("len", .glob, .raw (.builtin "len"))] : List (Str × Loc × LV)) := rfl
  rw [e2]
  clear e2
  have hL' : L.length ≤ 100000 := by (exact Nat.le_trans (by assumption) (by decide))
  refine ex_newlistF fun a _ => ?_
  ((with_reducible apply asgX); exact .tail (.tail .head); exact .inl rfl; (with_reducible apply ex_assign); exact rfl)
  refine ev_boundappH (by (exact .tail (.tail .head))) (.head _) ?_
  ((with_reducible apply asgX); exact .tail (.tail (.tail .head)); exact .inl rfl)
  refine ex_assign_swap (x := "i") (y := "n") (Has.mem (by (exact .tail (.tail (.tail (.tail .head)))))) (Has.mem (by (exact .tail (.tail (.tail (.tail (.tail .head))))))) rfl rfl rfl rfl rfl ?_
  ((with_reducible apply ev_tuple; apply es_cons); exact rfl; (with_reducible apply ev_nat; exact nn0; apply es_cons); exact rfl; (with_reducible apply ev_callN); exact rfl; exact .tail (.tail (.tail (.tail (.tail (.tail (.tail .head)))))); exact cal_bi; (with_reducible apply es_cons); exact rfl; (with_reducible apply ev_nameH); exact .head; (with_reducible exact nu_lst; apply es_nil; apply PrW.ca; apply pr_len_lst); (exact Nat.le_trans (by assumption) (by decide)); (with_reducible apply es_nil; apply lenOk); exact rfl)
  refine ⟨_, _, _, _, rfl, by (exact .tail (.tail (.tail (.tail (.tail .head))))), by (exact .tail (.tail (.tail (.tail .head)))), ?_⟩
  refine ex_while (JpI L st a pre gs) _ ⟨0, [], pre, rfl, rfl, rfl, hLe, rfl⟩ ?_
  rintro f σ ⟨j, dn, ts, rfl, hpre, hj, hdj, hf⟩
  have hjl : j ≤ L.length := by
    rw [hLe, hpre, hj]; simp
  refine jo_test hL' hdj (fun t tr hts hlt => ⟨fun _ => ?_, (fun e => nomatch e)⟩) (fun hts => ⟨(fun e => nomatch e), fun _ => ?_⟩)
  · subst hts
    obtain ⟨h1, h2, h3⟩ := at_drop hdj
    have hdn : (dn.map LV.str).length ≤ 1000000 := by rw [List.length_map]; lia
    unfold joE
    ((with_reducible apply ex_callappH); exact rfl; exact .tail (.tail (.tail .head)); (with_reducible apply ev_sub; apply ev_nameH); exact .head; (with_reducible exact nu_lst; apply ev_nameH); exact .tail (.tail (.tail (.tail .head))); (with_reducible exact nu_int; apply si_lst); assumption; (exact Nat.le_trans (Nat.le_of_lt (by assumption)) (Nat.le_trans (by assumption) (by decide))); (with_reducible apply apX); exact .head; assumption; (with_reducible apply ex_augH); exact .tail (.tail (.tail (.tail .head))); (with_reducible exact nu_int; apply ev_nat; exact nn1; apply pr_iaddN; apply asgX); exact .tail (.tail (.tail (.tail .head))); exact .inl rfl; (with_reducible apply ex_nil))
    exact ⟨tr.length, by rw [hf]; simp, j + 1, dn ++ [t], tr, by simp, by simp [hpre], by simp; assumption, h3, rfl⟩
  · subst hts
    rw [List.append_nil] at hpre
    subst hpre
    generalize hWe : pre.flatten ++ tailS gs = W at hW ⊢
    refine ex_while (JoI L st a W) _
      ⟨j, pre, .undef, gs, rfl, hdj, hWe, hok, hjl, rfl, by lia⟩ ?_
    rintro f σ ⟨j, acc, fx, rs, rfl, hdr, hWr, hokr, hjl, hf, hal⟩
    unfold joE
    ((with_reducible apply te_compare); exact rfl; (with_reducible apply ev_nameH); exact .tail (.tail (.tail (.tail .head))); (with_reducible exact nu_int; apply ev_nameH); exact .tail (.tail (.tail (.tail (.tail .head)))); (with_reducible exact nu_int; apply pr_ltN; apply bool_ex))
    by_cases hjn : j < L.length
    · apply way_t; · exact decide_eq_true hjn
      cases rs with
      | nil => 
        have := end_drop hdr
        lia
      | cons grp rs =>
      simp only [List.length_cons] at hal hf
      have hgl : grp.flatten.length ≤ 100000 := by
        rw [← hWr] at hW
        cases rs with
        | nil => rw [tailS_one] at hW; simp only [List.length_append] at hW; lia
        | cons h r => rw [tailS_cons] at hW; simp only [List.length_append] at hW; lia
      refine jo_turn hL' hdr hokr (by lia) hgl (fun e1 e2 j fx hj => ?_) (fun e1 j fx hj => ?_) (fun h r e1 j fx hj1 hj2 hj3 => ?_)
      · subst e1 e2 hj
        exact jo_tail hL' (by rw [flat_app1]; exact hWr) hW
      · subst e1
        exact ⟨0, by lia, j, _, fx, [], rfl, by rw [hj, List.drop_length]; rfl, by rw [flat_app, tailS_nil, List.append_nil, ← tailS_one]; exact hWr, trivial, by lia, rfl, by simp; lia⟩
      · subst e1
        refine ⟨(h :: r).length, by lia, j, _, fx, h :: r, rfl, hj3, ?_, hokr.2, by (exact Nat.le_of_lt (by assumption)), rfl, by simp at hal ⊢; lia⟩
        rw [← hWr, flat_app1, tailS_cons, List.append_assoc]
    · apply way_f; · exact decide_eq_false hjn
      have hj : j = L.length := by lia
      have hr : rs = [] := by
        rw [hj, List.drop_length] at hdr
        cases rs with
        | nil => rfl
        | cons _ _ => cases hdr
      subst hr hj
      exact jo_tail hL' (by rw [← hWr, tailS_nil, List.append_nil]) hW
theorem jo_fn (h : HG g) : FnOkE g 69 (["inp", "STAR"] : List Str) :=
  fn_ok h (by decide) rfl rfl fun _ _ _ => of2 fun _ _ => rfl
theorem pr_jo (h : HG g) {st : Addr} {pre : List (List Nat)} {gs : List (List (List Nat))} {L : List LV} (hLe : L = pre.map LV.str ++ partsR st gs) (hL : L.length ≤ 10000) (hok : GOk gs) (hW : (pre.flatten ++ tailS gs).length ≤ 100000) (hgs : gs.length ≤ 10000) {Φ : LV → Prop} (hΦ : Φ (.str ([40, 63, 115, 58] ++ (pre.flatten ++ tailS gs) ++ [41, 92, 90]))) :
    PrW g (n + 1) [.lst L, .raw (.ref st)] (fun vs => call (.ref 69) vs) Φ :=
  pr_fnE (jo_fn h) h.gt rfl fun F => (jo_body h hLe hL hok hW hgs).mono fun lf _ e => by rw [e]; exact hΦ
end

section
noncomputable def trLoop (p : Params) : List Stmt := loopOf ((bodyAt p 62).drop 3)
noncomputable def trBrack (p : Params) : List Stmt := thenOf (elseOf (elseOf ((trLoop p).drop 2)))
noncomputable def trSet (p : Params) : List Stmt := elseOf ((trBrack p).drop 4)
structure Tr where
  pat : List Nat
  st : Addr
  a : Addr
noncomputable abbrev trE (t : Tr) (i : Nat) (c j s ch k ck : LV) : List (Str × Loc × LV) :=
  [("pat", .local, .str t.pat), ("STAR", .local, .raw (.ref t.st)), ("QUESTION_MARK", .local, .str [46]), ("res", .local, .raw (.ref t.a)), ("add", .local, .obj (boundApp t.a)), ("i", .local, .int i), ("n", .local, .int t.pat.length),
   ("c", .local, c), ("j", .local, j), ("stuff", .local, s), ("chunks", .local, ch), ("k", .local, k), ("chunk", .local, ck),
   ("len", .glob, .raw (.builtin "len")), ("range", .glob, .raw (.type "range")), ("_twin_re_1", .glob, .raw (.ref 36)), ("escape", .glob, .raw (.ref 55))]
noncomputable def mark1 (body : List Nat) : Nat := if body[0]? = some 33 then 1 else 0
noncomputable def mark2 (body : List Nat) : Nat := if body[mark1 body]? = some 93 then mark1 body + 1 else mark1 body
noncomputable def closeOk (body : List Nat) : Bool := decide (mark1 body < body.length) && (body.drop (mark2 body)).all fun c => c != 93
theorem tr_mark {t : Tr} (hn : t.pat.length ≤ 100000) {X : Str} {x d kc1 kc2 : Nat} (hX : X.cps.toList = [x]) {p1 p2 p3 p4 p5 p6 p7 p8 p9 p10 p11 p12 p13 p14 p15 : Pos} {i j : Nat} (hj : t.pat[j]? = some d) {c s ch k ck : LV} {cs : List (Addr × Ct)} {rest : List Stmt} {Φ : LFl → LS → Prop}
    (h : ExW g F n ⟨trE t i c (.int (if d = x then j + 1 else j : Nat)) s ch k ck, cs⟩ rest Φ) :
    ExW g F n ⟨trE t i c (.int j) s ch k ck, cs⟩ (.If (.BoolOp .And [.Compare (.Name "j" p1) [.Lt] [.Name "n" p2] p3, .Compare (.Subscript (.Name "pat" p4) (.Name "j" p5) p6) [.Eq] [.Constant (.str X) kc1 p7] p8] p9) [.Assign [.Name "j" p10] (.BinOp (.Name "j" p11) .Add (.Constant (.int 1) kc2 p12) p13) p14] [] p15 :: rest) Φ := by
  have hjl : j < t.pat.length := (List.getElem?_eq_some_iff.mp hj).1
  unfold trE
  ((with_reducible apply ex_if; apply te_bool; apply al_and; apply te_compare); exact rfl; (with_reducible apply ev_nameH); exact .tail (.tail (.tail (.tail (.tail (.tail (.tail (.tail .head))))))); (with_reducible exact nu_int; apply ev_nameH); exact .tail (.tail (.tail (.tail (.tail (.tail .head))))); (with_reducible exact nu_int; apply pr_ltN; apply bool_ex))
  apply way_t; · exact decide_eq_true hjl
  ((with_reducible apply al_and; apply te_compare); exact rfl; (with_reducible apply ev_sub; apply ev_nameH); exact .head; (with_reducible exact nu_str; apply ev_nameH); exact .tail (.tail (.tail (.tail (.tail (.tail (.tail (.tail .head))))))); (with_reducible exact nu_int; apply si_strN); assumption; (exact Nat.le_trans (Nat.le_of_lt (by assumption)) (Nat.le_trans (by assumption) (by decide))))
  refine ev_strl hX ?_
  ((with_reducible apply pr_seq; apply bool_ex))
  by_cases hd : d = x
  · rw [if_pos hd] at h
    refine ⟨fun _ => ?_, fun e => ?_⟩
    · ((with_reducible apply al_and_nil))
      apply way_t; · rfl
      ((with_reducible apply ex_assign); exact rfl; (with_reducible apply ev_binop; apply ev_nameH); exact .tail (.tail (.tail (.tail (.tail (.tail (.tail (.tail .head))))))); (with_reducible exact nu_int; apply ev_nat; exact nn1; apply pr_addN; apply asgX); exact .tail (.tail (.tail (.tail (.tail (.tail (.tail (.tail .head))))))); exact .inl rfl; (with_reducible apply ex_nil; apply then_next))
      exact h
    · subst hd; simp at e
  · rw [if_neg hd] at h
    refine ⟨fun e => ?_, fun _ => ?_⟩
    · simp at e; exact absurd e hd
    · apply way_f; · rfl
      refine ex_nil (then_next ?_)
      exact h
inductive TrI (t : Tr) (i : Nat) (c s ch k ck : LV) (cs : List (Addr × Ct)) (body : List Nat) (f : Nat) (σ : LS) : Prop
  | mk (x : Nat) (h0 : σ = ⟨trE t i c (.int (i + x : Nat)) s ch k ck, cs⟩) (h1 : mark2 body ≤ x) (h2 : x ≤ body.length) (h3 : f = body.length - x)
theorem tr_close {t : Tr} (hn : t.pat.length ≤ 100000) {i : Nat} {body r : List Nat} (hd : t.pat.drop i = body ++ 93 :: r) (hc : closeOk body = true) {c j s ch k ck : LV} {cs : List (Addr × Ct)} {Φ : LFl → LS → Prop}
    (h : ExW g F n ⟨trE t i c (.int (i + body.length : Nat)) s ch k ck, cs⟩ (trSet g.w.params) (Then g F n [] Φ)) :
    ExW g F n ⟨trE t i c j s ch k ck, cs⟩ (trBrack g.w.params) Φ := by
  conv => arg 5; whnf
  unfold closeOk at hc
  rw [Bool.and_eq_true] at hc
  obtain ⟨h1, h2⟩ := hc
  have h1 : mark1 body < body.length := of_decide_eq_true h1
  have at' : ∀ m, t.pat[i + m]? = (body ++ 93 :: r)[m]? := fun m => by rw [← hd, List.getElem?_drop]
  have hl : t.pat.length = i + body.length + 1 + r.length := by
    have := congrArg List.length hd
    rw [List.length_drop] at this
    simp at this
    lia
  have atb : ∀ m, m < body.length → t.pat[i + m]? = body[m]? := fun m hm => by rw [at', List.getElem?_append_left hm]
  have h0 : i < t.pat.length := by lia
  have e1 : ∀ d, body[0]? = some d → (if d = 33 then i + 1 else i) = i + mark1 body := by
    intro d hd
    unfold mark1
    rw [hd]
    by_cases h : d = 33
    · rw [if_pos h, if_pos (by rw [h])]
    · rw [if_neg h, if_neg (fun e => h (by injection e))]; rfl
  have e2 : ∀ d, body[mark1 body]? = some d → (if d = 93 then i + mark1 body + 1 else i + mark1 body) = i + mark2 body := by
    intro d hd
    unfold mark2
    rw [hd]
    by_cases h : d = 93
    · rw [if_pos h, if_pos (by rw [h])]; rfl
    · rw [if_neg h, if_neg (fun e => h (by injection e))]
  have hm2 : mark2 body ≤ body.length := by unfold mark2; split <;> (first | lia | omega)
  obtain ⟨d0, hd0⟩ : ∃ d, body[0]? = some d := ⟨_, List.getElem?_eq_getElem (by lia)⟩
  obtain ⟨d1, hd1⟩ : ∃ d, body[mark1 body]? = some d := ⟨_, List.getElem?_eq_getElem h1⟩
  refine ex_assign rfl ?_
  unfold trE
  ((with_reducible apply ev_nameH); exact .tail (.tail (.tail (.tail (.tail .head)))); (with_reducible exact nu_int; apply asgX); exact .tail (.tail (.tail (.tail (.tail (.tail (.tail (.tail .head))))))); exact .inl rfl)
  refine tr_mark hn (x := 33) ls29 (d := d0) (by rw [← hd0]; exact atb 0 (by lia)) ?_
  rw [e1 _ hd0]
  refine tr_mark hn (x := 93) ls7 (d := d1) (by rw [← hd1]; exact atb _ h1) ?_
  rw [e2 _ hd1]
  refine ex_while (TrI t i c s ch k ck cs body) _ ⟨mark2 body, rfl, Nat.le_refl _, hm2, rfl⟩ ?_
  rintro f σ ⟨x, rfl, hx1, hx2, hf⟩
  have hxl : i + x < t.pat.length := by lia
  unfold trE
  ((with_reducible apply te_bool; apply al_and; apply te_compare); exact rfl; (with_reducible apply ev_nameH); exact .tail (.tail (.tail (.tail (.tail (.tail (.tail (.tail .head))))))); (with_reducible exact nu_int; apply ev_nameH); exact .tail (.tail (.tail (.tail (.tail (.tail .head))))); (with_reducible exact nu_int; apply pr_ltN; apply bool_ex))
  apply way_t; · exact decide_eq_true hxl
  by_cases hxe : x = body.length
  · subst hxe
    have hq : t.pat[i + body.length]? = some 93 := by rw [at', List.getElem?_append_right (Nat.le_refl _)]; simp
    ((with_reducible apply al_and; apply te_compare); exact rfl; (with_reducible apply ev_sub; apply ev_nameH); exact .head; (with_reducible exact nu_str; apply ev_nameH); exact .tail (.tail (.tail (.tail (.tail (.tail (.tail (.tail .head))))))); (with_reducible exact nu_int; apply si_strN); assumption; (exact Nat.le_trans (Nat.le_of_lt (by assumption)) (Nat.le_trans (by assumption) (by decide))); (with_reducible apply ev_strl; exact ls7; apply pr_sne; apply bool_ex))
    refine ⟨(fun e => by simp at e), fun _ => ⟨(fun e => nomatch e), fun _ => ?_⟩⟩
    ((with_reducible apply ex_if; apply te_compare); exact rfl; (with_reducible apply ev_nameH); exact .tail (.tail (.tail (.tail (.tail (.tail (.tail (.tail .head))))))); (with_reducible exact nu_int; apply ev_nameH); exact .tail (.tail (.tail (.tail (.tail (.tail .head))))); (with_reducible exact nu_int; apply pr_geN; apply bool_ex))
    apply way_f; · simp; assumption
    exact h
  · obtain ⟨d, hq⟩ : ∃ d, body[x]? = some d := ⟨_, List.getElem?_eq_getElem (by lia)⟩
    have hq' : t.pat[i + x]? = some d := by rw [← hq]; exact atb x (by lia)
    have hd93 : (d != 93) = true := List.all_eq_true.mp h2 d (by
      have : (body.drop (mark2 body))[x - mark2 body]? = some d := by rw [List.getElem?_drop, ← hq]; congr 1; lia
      exact List.mem_of_getElem? this)
    ((with_reducible apply al_and; apply te_compare); exact rfl; (with_reducible apply ev_sub; apply ev_nameH); exact .head; (with_reducible exact nu_str; apply ev_nameH); exact .tail (.tail (.tail (.tail (.tail (.tail (.tail (.tail .head))))))); (with_reducible exact nu_int; apply si_strN); assumption; (exact Nat.le_trans (Nat.le_of_lt (by assumption)) (Nat.le_trans (by assumption) (by decide))); (with_reducible apply ev_strl; exact ls7; apply pr_sne; apply bool_ex))
    refine ⟨fun _ => ?_, fun e => ?_⟩
    · ((with_reducible apply al_and_nil))
      refine ⟨fun _ => ?_, (fun e => nomatch e)⟩
      ((with_reducible apply ex_assign); exact rfl; (with_reducible apply ev_binop; apply ev_nameH); exact .tail (.tail (.tail (.tail (.tail (.tail (.tail (.tail .head))))))); (with_reducible exact nu_int; apply ev_nat; exact nn1; apply pr_addN; apply asgX); exact .tail (.tail (.tail (.tail (.tail (.tail (.tail (.tail .head))))))); exact .inl rfl; (with_reducible apply ex_nil))
      exact ⟨body.length - (x + 1), by lia, x + 1, rfl, by lia, by lia, rfl⟩
    · simp at e hd93; exact absurd e hd93
end

section
theorem cut_one {α : Type} (c : α) (r : List α) : cut (c :: r) (some ((1 : Nat) : Int)) none = r := by
  unfold cut
  simp only [Option.elim, clipAt_nat]
  rw [show min 1 (c :: r).length = 1 from by simp]
  rw [List.drop_one, List.tail_cons, List.take_of_length_le (by simp)]
theorem cut_last {α : Type} (x : List α) (h : x ≠ []) : cut x none (some (-1)) = x.dropLast := by
  have hl := List.length_pos_iff.mpr h
  unfold cut
  simp only [Option.elim]
  rw [show clipAt x.length (-1) = x.length - 1 from by unfold clipAt; split <;> lia]
  simp [List.dropLast_eq_take]
noncomputable def finS (x : List Nat) : List Nat :=
  if x = [] then [40, 63, 33, 41]
  else if x = [33] then [46]
  else if x.head? = some 33 then [91] ++ ([94] ++ x.drop 1) ++ [93]
  else if x.head? = some 94 ∨ x.head? = some 91 then [91] ++ ([92] ++ x) ++ [93]
  else [91] ++ x ++ [93]
theorem tr_jo {e : List (Str × Loc × LV)} {cs : List (Addr × Ct)} {y : List Nat} {p1 p2 p3 : Pos} {kc : Nat} (hm : Has e "stuff" .local (.str y)) (hy : y.length ≤ 200000) {Φ : LV → LS → Prop} (h : Φ (.str ([91] ++ y ++ [93])) ⟨e, cs⟩) :
    ([] ++ [91] : List Nat).length ≤ 1000000 ∧ JoW g F n ⟨e, cs⟩ [.FormattedValue (.Name "stuff" p1) (-1) none p2, .Constant (.str "]") kc p3] ([] ++ [91]) Φ := by
  refine ⟨by decide, jo_cons ?_⟩
  refine ev_fmt (ev_nameH hm nu_str ⟨y, rfl, by (exact Nat.le_trans (by assumption) (by decide)), y, rfl, by simp; (exact Nat.le_trans (by assumption) (by decide)), ?_⟩)
  refine jo_cons (ev_strl ls7 ⟨[93], rfl, by simp; (exact Nat.le_trans (by assumption) (by decide)), jo_nil (by simp; (exact Nat.le_trans (by assumption) (by decide))) ?_⟩)
  exact h
theorem tr_fin {t : Tr} {i jn : Nat} {x : List Nat} (hx : x.length ≤ 100000) {c ch k ck : LV} {L : List LV} (hL : L.length ≤ 100000) {Φ : LFl → LS → Prop}
    (h : ∀ s, Φ .next ⟨trE t i c (.int jn) s ch k ck, [(t.a, .lst (L ++ [.str (finS x)]))]⟩) :
    ExW g F n ⟨trE t i c (.int jn) (.str x) ch k ck, [(t.a, .lst L)]⟩ ((trSet g.w.params).drop 4) Φ := by
  conv => arg 5; whnf
  unfold finS at h
  unfold trE at h ⊢
  ((with_reducible apply ex_if; apply te_not; apply te_plain); exact rfl; (with_reducible apply ev_nameH); exact .tail (.tail (.tail (.tail (.tail (.tail (.tail (.tail (.tail .head)))))))); (with_reducible exact nu_str; apply pb_str); (exact Nat.le_trans (by assumption) (by decide)))
  cases x with
  | nil =>
    rw [if_pos rfl] at h
    apply way_t; · rfl
    ((with_reducible apply ex_callappH); exact rfl; exact .tail (.tail (.tail (.tail .head))); (with_reducible apply ev_strl; exact ls1; apply apX); exact .head; (exact Nat.le_trans (by assumption) (by decide)); (with_reducible apply ex_nil; apply then_next; apply ex_nil))
    exact h _
  | cons d x =>
  rw [if_neg (by simp)] at h
  apply way_f; · rfl
  ((with_reducible apply ex_if; apply te_compare); exact rfl; (with_reducible apply ev_nameH); exact .tail (.tail (.tail (.tail (.tail (.tail (.tail (.tail (.tail .head)))))))); (with_reducible exact nu_str; apply ev_strl; exact ls29; apply pr_seq; apply bool_ex))
  by_cases h1 : d :: x = [33]
  · rw [if_pos h1] at h
    apply way_t; · rw [h1]; rfl
    ((with_reducible apply ex_callappH); exact rfl; exact .tail (.tail (.tail (.tail .head))); (with_reducible apply ev_strl; exact ls0; apply apX); exact .head; (exact Nat.le_trans (by assumption) (by decide)); (with_reducible apply ex_nil; apply then_next; apply ex_nil; apply then_next; apply ex_nil))
    exact h _
  rw [if_neg h1] at h
  apply way_f; · simpa using h1
  have h0 : (d :: x)[0]? = some d := rfl
  ((with_reducible apply ex_if; apply te_compare); exact rfl; (with_reducible apply ev_sub; apply ev_nameH); exact .tail (.tail (.tail (.tail (.tail (.tail (.tail (.tail (.tail .head)))))))); (with_reducible exact nu_str; apply ev_nat; exact nn0; apply si_strN); assumption; lia; (with_reducible apply ev_strl; exact ls29; apply pr_seq; apply bool_ex))
  by_cases h33 : d = 33
  · rw [if_pos (by rw [h33]; rfl)] at h
    apply way_t; · exact seq_t h33
    ((with_reducible apply ex_assign); exact rfl; (with_reducible apply ev_binop; apply ev_strl; exact ls6; apply ev_sub; apply ev_nameH); exact .tail (.tail (.tail (.tail (.tail (.tail (.tail (.tail (.tail .head)))))))); (with_reducible exact nu_str; apply ev_slice; apply ow_some; apply ev_nat; exact nn1; apply ow_none))
    refine si_str_cut (by (exact Nat.le_trans (by assumption) (by decide))) rfl rfl ?_
    rw [cut_one]
    refine pr_sadd (by simp at hx ⊢; lia) ?_
    ((with_reducible apply asgX); exact .tail (.tail (.tail (.tail (.tail (.tail (.tail (.tail (.tail .head)))))))); exact .inl rfl; (with_reducible apply ex_nil; apply then_next; apply ex_callappH); exact rfl; exact .tail (.tail (.tail (.tail .head))); (with_reducible apply ev_joined; apply jo_cons; apply ev_strl; exact ls2; apply str_ex))
    refine tr_jo (by (exact .tail (.tail (.tail (.tail (.tail (.tail (.tail (.tail (.tail .head)))))))))) (by simp at hx ⊢; (exact Nat.le_trans (by assumption) (by decide))) ?_
    ((with_reducible apply apX); exact .head; (exact Nat.le_trans (by assumption) (by decide)); (with_reducible apply ex_nil; apply then_next; apply ex_nil; apply then_next; apply ex_nil))
    exact h _
  rw [if_neg (by simpa using h33)] at h
  apply way_f; · exact seq_f h33
  ((with_reducible apply ex_if; apply te_compare); exact rfl; (with_reducible apply ev_sub; apply ev_nameH); exact .tail (.tail (.tail (.tail (.tail (.tail (.tail (.tail (.tail .head)))))))); (with_reducible exact nu_str; apply ev_nat; exact nn0; apply si_strN); assumption; lia; (with_reducible apply ev_tuple; apply es_cons); exact rfl; (with_reducible apply ev_strl; exact ls6; apply es_cons); exact rfl; (with_reducible apply ev_strl; exact ls2; apply es_nil; apply lenOk); exact rfl)
  refine pr_str_intup (l := [[94], [91]]) ?_
  ((with_reducible apply bool_ex))
  by_cases h94 : d = 94 ∨ d = 91
  · rw [if_pos (by rcases h94 with e | e <;> simp [e])] at h
    apply way_t; · rcases h94 with e | e <;> simp [e]
    ((with_reducible apply ex_assign); exact rfl; (with_reducible apply ev_binop; apply ev_strl; exact ls3; apply ev_nameH); exact .tail (.tail (.tail (.tail (.tail (.tail (.tail (.tail (.tail .head)))))))); (with_reducible exact nu_str))
    refine pr_sadd (by simp at hx ⊢; lia) ?_
    ((with_reducible apply asgX); exact .tail (.tail (.tail (.tail (.tail (.tail (.tail (.tail (.tail .head)))))))); exact .inl rfl; (with_reducible apply ex_nil; apply then_next; apply ex_nil; apply then_next; apply ex_callappH); exact rfl; exact .tail (.tail (.tail (.tail .head))); (with_reducible apply ev_joined; apply jo_cons; apply ev_strl; exact ls2; apply str_ex))
    refine tr_jo (by (exact .tail (.tail (.tail (.tail (.tail (.tail (.tail (.tail (.tail .head)))))))))) (by simp at hx ⊢; (exact Nat.le_trans (by assumption) (by decide))) ?_
    ((with_reducible apply apX); exact .head; (exact Nat.le_trans (by assumption) (by decide)); (with_reducible apply ex_nil; apply then_next; apply ex_nil; apply then_next; apply ex_nil))
    exact h _
  · rw [if_neg (by simpa using h94)] at h
    apply way_f; · simpa using h94
    ((with_reducible apply ex_nil; apply then_next; apply ex_nil; apply then_next; apply ex_callappH); exact rfl; exact .tail (.tail (.tail (.tail .head))); (with_reducible apply ev_joined; apply jo_cons; apply ev_strl; exact ls2; apply str_ex))
    refine tr_jo (by (exact .tail (.tail (.tail (.tail (.tail (.tail (.tail (.tail (.tail .head)))))))))) (by (exact Nat.le_trans (by assumption) (by decide))) ?_
    ((with_reducible apply apX); exact .head; (exact Nat.le_trans (by assumption) (by decide)); (with_reducible apply ex_nil; apply then_next; apply ex_nil; apply then_next; apply ex_nil))
    exact h _
end

section
theorem tr_sub (hg : HG g) (H : HT g) (PI : PatIn g 36) (hcode : F.env.code = .ref 61) (hq : F.env.qual ++ "<lambda>" = lamQual) {t : Tr} {i jn : Nat} {x : List Nat} (hx : ∀ c ∈ x, c < 128) (hn : x.length ≤ 10000) {c ch k ck : LV} {L : List LV} (hL : L.length ≤ 100000) {Φ : LFl → LS → Prop}
    (h : ∀ s, Φ .next ⟨trE t (jn + 1) c (.int jn) s ch k ck, [(t.a, .lst (L ++ [.str (finS (subS x))]))]⟩) :
    ExW g F (n + 3) ⟨trE t i c (.int jn) (.str x) ch k ck, [(t.a, .lst L)]⟩ ((trSet g.w.params).drop 2) Φ := by
  conv => arg 5; whnf
  refine ex_assign rfl ?_
  refine ev_sub_lam hg.gt H PI hcode hq rfl (Has.mem (by unfold trE; (exact .tail (.tail (.tail (.tail (.tail (.tail (.tail (.tail (.tail (.tail (.tail (.tail (.tail (.tail (.tail .head))))))))))))))))) (Has.mem (by unfold trE; (exact .tail (.tail (.tail (.tail (.tail (.tail (.tail (.tail (.tail .head))))))))))) hx hn ?_
  unfold trE
  ((with_reducible apply asgX); exact .tail (.tail (.tail (.tail (.tail (.tail (.tail (.tail (.tail .head)))))))); exact .inl rfl)
  have := subS_len x
  refine ex_assign rfl ?_
  ((with_reducible apply ev_binop; apply ev_nameH); exact .tail (.tail (.tail (.tail (.tail (.tail (.tail (.tail .head))))))); (with_reducible exact nu_int; apply ev_nat; exact nn1; apply pr_addN; apply asgX); exact .tail (.tail (.tail (.tail (.tail .head)))); exact .inl rfl)
  exact tr_fin (i := jn + 1) (by lia) hL h
theorem mid_mid {pat body r : List Nat} {i : Nat} (hd : pat.drop i = body ++ r) : mid pat i (i + body.length) = body := by
  unfold mid
  rw [hd, show i + body.length - i = body.length from by lia]
  exact List.take_left' rfl
noncomputable def rep1 (x : List Nat) : List Nat := x.flatMap fun d => if d = 92 then [92, 92] else [d]
theorem rep1_len (x : List Nat) : (rep1 x).length ≤ 2 * x.length := by
  have := replS_len x 92 92
  rw [replS_one] at this
  exact this
theorem rep1_small {x : List Nat} (h : ∀ c ∈ x, c < 128) : ∀ c ∈ rep1 x, c < 128 := by
  intro c hc
  unfold rep1 at hc
  obtain ⟨d, hd, hcd⟩ := List.mem_flatMap.mp hc
  split at hcd
  · simp at hcd; lia
  · cases List.mem_singleton.mp hcd; exact h _ hd
theorem tr_plain (hg : HG g) (H : HT g) (PI : PatIn g 36) (hcode : F.env.code = .ref 61) (hq : F.env.qual ++ "<lambda>" = lamQual) {t : Tr} (hn : t.pat.length ≤ 100000) {i : Nat} {body r : List Nat} (hd : t.pat.drop i = body ++ r) (hb : ∀ c ∈ body, c < 128) (hbl : body.length ≤ 1000) (h45 : 45 ∉ body)
    {c s ch k ck : LV} {L : List LV} (hL : L.length ≤ 100000) {Φ : LFl → LS → Prop}
    (h : ∀ s, Φ .next ⟨trE t (i + body.length + 1) c (.int (i + body.length : Nat)) s ch k ck, [(t.a, .lst (L ++ [.str (finS (subS (rep1 body)))]))]⟩) :
    ExW g F (n + 3) ⟨trE t i c (.int (i + body.length : Nat)) s ch k ck, [(t.a, .lst L)]⟩ (trSet g.w.params) Φ := by
  have hn' : t.pat.length ≤ 1000000 := by (exact Nat.le_trans (by assumption) (by decide))
  conv => arg 5; whnf
  refine ex_assign rfl ?_
  unfold trE
  ((with_reducible apply ev_sub; apply ev_nameH); exact .head; (with_reducible exact nu_str; apply ev_slice; apply ow_some; apply ev_nameH); exact .tail (.tail (.tail (.tail (.tail .head)))); (with_reducible exact nu_int; apply ow_some; apply ev_nameH); exact .tail (.tail (.tail (.tail (.tail (.tail (.tail (.tail .head))))))); (with_reducible exact nu_int; apply si_str_mid); assumption; (with_reducible apply asgX); exact .tail (.tail (.tail (.tail (.tail (.tail (.tail (.tail (.tail .head)))))))); exact .inl rfl)
  rw [mid_mid hd]
  skip
  refine ex_if ?_
  ((with_reducible apply te_compare); exact rfl; (with_reducible apply ev_strl; exact ls8; apply ev_nameH); exact .tail (.tail (.tail (.tail (.tail (.tail (.tail (.tail (.tail .head)))))))); (with_reducible exact nu_str; apply pr_snotin1; apply bool_ex))
  apply way_t; · simpa using h45
  refine ex_assign rfl ?_
  refine ev_replace (Nat.le_of_eq H.tk1.symm) (ly := [92]) (lz := [92, 92]) (by decide) (by decide) (by decide) (by decide) rfl rfl ?_
  ((with_reducible apply ev_nameH); exact .tail (.tail (.tail (.tail (.tail (.tail (.tail (.tail (.tail .head)))))))); (with_reducible exact nu_str; apply str_ex))
  refine ⟨by (exact Nat.le_trans (by assumption) (by decide)), ?_⟩
  rw [replS_one]
  ((with_reducible apply asgX); exact .tail (.tail (.tail (.tail (.tail (.tail (.tail (.tail (.tail .head)))))))); exact .inl rfl)
  have := rep1_len body
  refine ex_nil (then_next ?_)
  exact tr_sub hg H PI hcode hq (x := rep1 body) (rep1_small hb) (by lia) hL h
end

section
noncomputable def trHy (p : Params) : List Stmt := elseOf ((trSet p).drop 1)
theorem pr_isadd {a b : List Nat} {Φ : LV → Prop} (hn : a.length + b.length ≤ 1000000) (h : Φ (.str (a ++ b))) : PrW g n [.str a, .str b] (ibin .Add) Φ := by
  refine ⟨?_⟩; intro A P s vs Q E r S x q
  obtain ⟨u, v, rfl, h1, h2⟩ := x.two; obtain ⟨t, rfl⟩ := h1.toStr; obtain ⟨t', rfl⟩ := h2.toStr
  refine wpAny_tk (iadd_str (fun t₁ tk hk => ?_) ?_)
  · refine pr_same S q ?_ h hk
    have e : ((⟨a.toArray⟩ : Str) ++ ⟨b.toArray⟩) = ⟨(a ++ b).toArray⟩ := Str.ext' (by rw [Str.cps_append]; simp)
    rw [e]; exact .str _ _
  · show a.toArray.size + b.toArray.size ≤ sizeLine
    rw [sizeLine_eq]; simp; (exact Nat.le_trans (by assumption) (by decide))
noncomputable def fix1 (cs : List (List Nat)) (q : Nat) (a b : List Nat) : List (List Nat) := (cs.set q (a.dropLast ++ b.drop 1)).eraseIdx (q + 1)
theorem tr_fix {t : Tr} {i q : Nat} {cs : List (List Nat)} (hcl : cs.length ≤ 1000) {a' b' : List Nat} {x y : Nat} (hq : cs[q]? = some a') (hq1 : cs[q + 1]? = some b') (hx : a'.getLast? = some x) (hy : b'.head? = some y) (hal : a'.length ≤ 1000) (hbl : b'.length ≤ 1000)
    {c j s ck : LV} {b : Addr} {d : Addr × Ct} {es : List (Addr × Ct)} {Φ : LFl → LS → Prop}
    (h : Φ .next ⟨trE t i c j s (.raw (.ref b)) (.int (q + 1 : Nat)) ck, d :: (b, .lst ((if y < x then fix1 cs q a' b' else cs).map .str)) :: es⟩) :
    ExW g F n ⟨trE t i c j s (.raw (.ref b)) (.int (q + 1 : Nat)) ck, d :: (b, .lst (cs.map .str)) :: es⟩ (loopOf ((trHy g.w.params).drop 5)) Φ := by
  conv => arg 5; whnf
  have ne : a' ≠ [] := by intro e; subst e; cases hx
  have hl1 : q + 1 < cs.length := (List.getElem?_eq_some_iff.mp hq1).1
  have hm : (cs.map LV.str).length = cs.length := List.length_map _
  have gq : (cs.map LV.str)[q]? = some (.str a') := by rw [List.getElem?_map, hq]; rfl
  have gq1 : (cs.map LV.str)[q + 1]? = some (.str b') := by rw [List.getElem?_map, hq1]; rfl
  have jq : seqIndex? ((q : Nat) : Int) (cs.map LV.str).length = some q := seqIndex_nat (by lia)
  have jq1 : seqIndex? ((q + 1 : Nat) : Int) (cs.map LV.str).length = some (q + 1) := seqIndex_nat (by lia)
  have hlast : a'[a'.length - 1]? = some x := by rw [← hx, List.getLast?_eq_getElem?]
  have hhead : b'[0]? = some y := by rw [← hy, List.head?_eq_getElem?]
  unfold trE at h ⊢
  refine ex_if (te_compare rfl ?_)
  refine ev_sub (ev_ecells (by (exact .tail (.tail (.tail (.tail (.tail (.tail (.tail (.tail (.tail (.tail .head))))))))))) (.tail _ (.head _)) ?_)
  ((with_reducible apply ev_binop; apply ev_nameH); exact .tail (.tail (.tail (.tail (.tail (.tail (.tail (.tail (.tail (.tail (.tail .head)))))))))); (with_reducible exact nu_int; apply ev_nat; exact nn1; apply pr_subN); lia)
  refine ⟨rfl, _, q, .str a', rfl, jq, gq, by lia, ?_⟩
  ((with_reducible apply ev_unary; apply ev_nat; exact nn1; apply pr_neg))
  refine si_str (c := x) (k := a'.length - 1) (seqIndex_last (List.length_pos_iff.mpr ne)) hlast (by lia) ?_
  refine ev_sub (ev_ecells (by (exact .tail (.tail (.tail (.tail (.tail (.tail (.tail (.tail (.tail (.tail .head))))))))))) (.tail _ (.head _)) ?_)
  ((with_reducible apply ev_nameH); exact .tail (.tail (.tail (.tail (.tail (.tail (.tail (.tail (.tail (.tail (.tail .head)))))))))); (with_reducible exact nu_int))
  refine ⟨rfl, _, q + 1, .str b', rfl, jq1, gq1, by lia, ?_⟩
  ((with_reducible apply ev_nat; exact nn0; apply si_strN); assumption; lia; (with_reducible apply pr_sgt1; apply bool_ex))
  by_cases hxy : y < x
  · rw [if_pos hxy] at h
    apply way_t; · exact decide_eq_true hxy
    refine ex_set_cell rfl ?_
    refine ev_binop ?_
    refine ev_sub (ev_ecells (by (exact .tail (.tail (.tail (.tail (.tail (.tail (.tail (.tail (.tail (.tail .head))))))))))) (.tail _ (.head _)) ?_)
    ((with_reducible apply ev_binop; apply ev_nameH); exact .tail (.tail (.tail (.tail (.tail (.tail (.tail (.tail (.tail (.tail (.tail .head)))))))))); (with_reducible exact nu_int; apply ev_nat; exact nn1; apply pr_subN); lia)
    refine ⟨rfl, _, q, .str a', rfl, jq, gq, by lia, ?_⟩
    ((with_reducible apply ev_slice; apply ow_none; apply ow_some; apply ev_unary; apply ev_nat; exact nn1; apply pr_neg))
    refine si_str_cut (by (exact Nat.le_trans (by assumption) (by decide))) rfl rfl ?_
    rw [show cut a' none (some (-((1 : Nat) : Int))) = a'.dropLast from cut_last _ ne]
    refine ev_sub (ev_ecells (by (exact .tail (.tail (.tail (.tail (.tail (.tail (.tail (.tail (.tail (.tail .head))))))))))) (.tail _ (.head _)) ?_)
    ((with_reducible apply ev_nameH); exact .tail (.tail (.tail (.tail (.tail (.tail (.tail (.tail (.tail (.tail (.tail .head)))))))))); (with_reducible exact nu_int))
    refine ⟨rfl, _, q + 1, .str b', rfl, jq1, gq1, by lia, ?_⟩
    ((with_reducible apply ev_slice; apply ow_some; apply ev_nat; exact nn1; apply ow_none))
    refine si_str_cut (by (exact Nat.le_trans (by assumption) (by decide))) rfl rfl ?_
    have hcut : cut b' (some ((1 : Nat) : Int)) none = b'.drop 1 := by
      cases b' with
      | nil => cases hy
      | cons _ r => exact cut_one _ _
    rw [hcut]
    refine pr_sadd (by simp; lia) ?_
    ((with_reducible apply ev_nameH); exact .tail (.tail (.tail (.tail (.tail (.tail (.tail (.tail (.tail (.tail .head))))))))); (with_reducible exact nu_raw; apply ev_binop; apply ev_nameH); exact .tail (.tail (.tail (.tail (.tail (.tail (.tail (.tail (.tail (.tail (.tail .head)))))))))); (with_reducible exact nu_int; apply ev_nat; exact nn1; apply pr_subN); lia)
    refine ⟨b, cs.map .str, _, q, _, rfl, rfl, by (exact .tail .head), jq, by lia, ?_⟩
    refine ex_del_cell ?_
    ((with_reducible apply ev_nameH); exact .tail (.tail (.tail (.tail (.tail (.tail (.tail (.tail (.tail (.tail .head))))))))); (with_reducible exact nu_raw; apply ev_nameH); exact .tail (.tail (.tail (.tail (.tail (.tail (.tail (.tail (.tail (.tail (.tail .head)))))))))); (with_reducible exact nu_int))
    have hset : (cs.map LV.str).set q (.str (a'.dropLast ++ b'.drop 1)) = (cs.set q (a'.dropLast ++ b'.drop 1)).map .str := by rw [List.map_set]
    rw [hset]
    refine ⟨b, _, _, q + 1, _, rfl, rfl, by (exact .tail .head), seqIndex_nat (by simp; assumption), by lia, by simp; (exact Nat.le_trans (by assumption) (by decide)), ?_⟩
    rw [erase_map]
    ((with_reducible apply ex_nil; apply then_next; apply ex_nil))
    exact h
  · rw [if_neg hxy] at h
    apply way_f; · exact decide_eq_false hxy
    ((with_reducible apply ex_nil; apply then_next; apply ex_nil))
    exact h
end

section
noncomputable def go45 (body : List Nat) : Nat → Nat → Option Nat
  | 0, _ => none
  | f + 1, k => if k < body.length then (if body[k]? = some 45 then some k else go45 body f (k + 1)) else none
noncomputable def at45 (body : List Nat) (k : Nat) : Option Nat := go45 body (body.length + 1) k
theorem go45_none {body : List Nat} : ∀ {f k : Nat}, go45 body f k = none → body.length < k + f → ∀ m, k ≤ m → m < body.length → body[m]? ≠ some 45
  | 0, k, _, hl, m, h1, h2 => by lia
  | f + 1, k, h, hl, m, h1, h2 => by
    unfold go45 at h
    rw [if_pos (by (exact Nat.lt_of_le_of_lt (by assumption) (by assumption)))] at h
    split at h
    · cases h
    · rename_i hk
      by_cases e : m = k
      · rw [e]; exact hk
      · exact go45_none h (by lia) m (by lia) h2
theorem go45_some {body : List Nat} : ∀ {f k m : Nat}, go45 body f k = some m → k ≤ m ∧ body[m]? = some 45 ∧ ∀ x, k ≤ x → x < m → body[x]? ≠ some 45
  | 0, k, m, h => by cases h
  | f + 1, k, m, h => by
    unfold go45 at h
    split at h
    · split at h
      · rename_i hk
        cases h
        exact ⟨Nat.le_refl _, hk, fun x h1 h2 => by lia⟩
      · rename_i hk
        obtain ⟨h1, h2, h3⟩ := go45_some h
        exact ⟨by (exact Nat.le_of_lt (by assumption)), h2, fun x hx1 hx2 => by
          by_cases e : x = k
          · rw [e]; exact hk
          · exact h3 x (by lia) hx2⟩
    · cases h
theorem stand45 {pat : List Nat} {b x : Nat} : Stands pat [45] b x ↔ x + 1 ≤ b ∧ pat[x]? = some 45 := by
  unfold Stands
  have e : (pat.drop x).take [45].length = [45] ↔ pat[x]? = some 45 := by
    have h0 : pat[x]? = (pat.drop x)[0]? := by rw [List.getElem?_drop, Nat.add_zero]
    rw [h0]
    cases pat.drop x with
    | nil => simp
    | cons a r => simp
  rw [e]; rfl
theorem find45 {pat body r : List Nat} {i : Nat} (hd : pat.drop i = body ++ r) (k : Nat) : (at45 body k = none ∧ findS pat [45] (i + k) (i + body.length) = -1) ∨ ∃ m, at45 body k = some m ∧ k ≤ m ∧ m < body.length ∧ findS pat [45] (i + k) (i + body.length) = ((i + m : Nat) : Int) := by
  have atb : ∀ m, m < body.length → pat[i + m]? = body[m]? := fun m hm => by
    have : pat[i + m]? = (pat.drop i)[m]? := by rw [List.getElem?_drop]
    rw [this, hd, List.getElem?_append_left hm]
  have hl : body ≠ [] → i + body.length ≤ pat.length := fun hb => by
    have := congrArg List.length hd
    rw [List.length_drop, List.length_append] at this
    have := List.length_pos_iff.mpr hb
    lia
  rcases findS_spec pat [45] (i + k) (i + body.length) with ⟨h1, h2⟩ | ⟨x, h1, h2, h3, h4⟩
  · cases h : at45 body k with
    | none => exact .inl ⟨rfl, h1⟩
    | some m =>
      obtain ⟨k1, k2, k3⟩ := go45_some h
      have hm := (List.getElem?_eq_some_iff.mp k2).1
      have hb : body ≠ [] := by intro e; subst e; simp at hm
      have := hl hb
      exact absurd (stand45.mpr ⟨by lia, (atb m hm).trans k2⟩) (h2 (i + m) (by lia))
  · obtain ⟨s1, s2⟩ := stand45.mp h3
    have hxl : x - i < body.length := by lia
    have hx : body[x - i]? = some 45 := by rw [← atb _ hxl, ← s2]; congr 1; lia
    have hb : body ≠ [] := by intro e; subst e; simp at hxl
    have := hl hb
    cases h : at45 body k with
    | none => exact absurd hx (go45_none h (by lia) _ (by lia) hxl)
    | some m =>
      obtain ⟨k1, k2, k3⟩ := go45_some h
      have hm := (List.getElem?_eq_some_iff.mp k2).1
      refine .inr ⟨m, rfl, k1, hm, ?_⟩
      have e : m = x - i := by
        rcases Nat.lt_trichotomy m (x - i) with q | q | q
        · exact absurd (stand45.mpr ⟨by lia, (atb m hm).trans k2⟩) (h4 (i + m) (by lia) (by lia))
        · exact q
        · exact absurd hx (k3 _ (by lia) q)
      rw [h1, e]
      congr 1; lia
noncomputable def chunkL : Nat → List Nat → Nat → Nat → List (List Nat) → Option (List (List Nat) × Nat)
  | 0, _, _, _, _ => none
  | f + 1, body, s, k, acc => match at45 body k with
    | none => some (acc, s)
    | some m => chunkL f body (m + 1) (m + 3) (acc ++ [mid body s m])
noncomputable def lastUp (acc : List (List Nat)) : Option (List (List Nat)) := match acc[acc.length - 1]? with
  | none => none
  | some l => if l.length ≤ 1000 then some (acc.set (acc.length - 1) (l ++ [45])) else none
noncomputable def chunksS (body : List Nat) : Option (List (List Nat)) := match chunkL (body.length + 1) body 0 (mark1 body + 1) [] with
  | none => none
  | some (acc, s) => if mid body s body.length ≠ [] then some (acc ++ [mid body s body.length]) else lastUp acc
noncomputable def fixS : Nat → List (List Nat) → Option (List (List Nat))
  | 0, cs => some cs
  | q + 1, cs => match cs[q]?, cs[q + 1]? with
    | some a, some b => match a.getLast?, b.head? with
      | some x, some y => if a.length ≤ 100 ∧ b.length ≤ 100 then fixS q (if y < x then fix1 cs q a b else cs) else none
      | _, _ => none
    | _, _ => none
theorem mid_shift {pat body r : List Nat} {i s m : Nat} (hd : pat.drop i = body ++ r) (hm : m ≤ body.length) : mid pat (i + s) (i + m) = mid body s m := by
  unfold mid
  rw [← List.drop_drop, hd, show i + m - (i + s) = m - s from by lia]
  by_cases hs : s ≤ body.length
  · rw [List.drop_append_of_le_length hs, List.take_append_of_le_length (by rw [List.length_drop]; lia)]
  · rw [show m - s = 0 from by lia]; simp
end

section
theorem fix1_len {cs : List (List Nat)} {q : Nat} {a b : List Nat} : (fix1 cs q a b).length ≤ cs.length := by
  unfold fix1
  exact Nat.le_trans (List.length_eraseIdx_le _ _) (by rw [List.length_set]; exact Nat.le_refl _)
theorem range_down : ∀ m : Nat, m < 41 → Builtin.Range.rangeSize (m : Int) 0 (-1) = (m : Int) ∧ Builtin.Range.small (m : Int) 0 (-1) = true := by decide
theorem rangeL_down (q : Nat) : rangeL ((q + 1 : Nat) : Int) (-1) (q + 1) = .int ((q + 1 : Nat) : Int) :: rangeL ((q : Nat) : Int) (-1) q := by
  unfold rangeL
  rw [show ((q + 1 : Nat) : Int) + (-1) = ((q : Nat) : Int) from by lia]
  cases q <;> rfl
inductive RgI (t : Tr) (i : Nat) (c : LV) (jn : Nat) (s : LV) (b : Addr) (ck : LV) (L : List LV) (cs1 : List (List Nat)) (rest : List LV) (σ : LS) : Prop
  | mk (q : Nat) (cs' : List (List Nat)) (kv : LV) (h0 : σ = ⟨trE t i c (.int jn) s (.raw (.ref b)) kv ck, [(b, .lst (cs'.map .str)), (t.a, .lst L)]⟩) (h1 : rest = rangeL ((q : Nat) : Int) (-1) q) (h2 : fixS q cs' = some cs1) (h3 : cs'.length ≤ 40) (h4 : q ≤ 40)
theorem tr_join (hg : HG g) (H : HT g) (PI : PatIn g 36) (hcode : F.env.code = .ref 61) (hq : F.env.qual ++ "<lambda>" = lamQual) {t : Tr} {i jn : Nat} {b : Addr} {cs cs1 : List (List Nat)} (hcl : cs.length ≤ 40) (hc0 : 0 < cs.length) (hf : fixS (cs.length - 1) cs = some cs1) (hb1 : ∀ x ∈ cs1, x.length ≤ 10000)
    (hx : ∀ c ∈ joinL [45] (cs1.map escS), c < 128) (hn : (joinL [45] (cs1.map escS)).length ≤ 10000) {c k s ck : LV} {L : List LV} (hL : L.length ≤ 100000) {Φ : LFl → LS → Prop}
    (h : ∀ s ch k ck, Φ .next ⟨trE t (jn + 1) c (.int jn) s ch k ck, [(t.a, .lst (L ++ [.str (finS (subS (joinL [45] (cs1.map escS))))]))]⟩) :
    ExW g F (n + 3) ⟨trE t i c (.int jn) s (.raw (.ref b)) k ck, [(b, .lst (cs.map .str)), (t.a, .lst L)]⟩ ((trHy g.w.params).drop 5) (Then g F (n + 3) ((trSet g.w.params).drop 2) Φ) := by
  conv => arg 5; whnf
  refine ex_for (fun _ => rfl) ?_
  have hml : (cs.map LV.str).length = cs.length := List.length_map _
  unfold trE
  ((with_reducible apply ev_callN); exact rfl; exact .tail (.tail (.tail (.tail (.tail (.tail (.tail (.tail (.tail (.tail (.tail (.tail (.tail (.tail .head))))))))))))); exact cal_ty; (with_reducible apply es_cons); exact rfl; (with_reducible apply ev_binop; apply ev_callN); exact rfl; exact .tail (.tail (.tail (.tail (.tail (.tail (.tail (.tail (.tail (.tail (.tail (.tail (.tail .head)))))))))))); exact cal_bi; (with_reducible apply es_cons); exact rfl; (with_reducible apply ev_nameH); exact .tail (.tail (.tail (.tail (.tail (.tail (.tail (.tail (.tail (.tail .head))))))))); (with_reducible exact nu_raw; apply es_nil; apply ca_len_cell); exact .head _; lia; (with_reducible apply ev_nat; exact nn1; apply pr_subN); lia; (with_reducible apply es_cons); exact rfl; (with_reducible apply ev_nat; exact nn0; apply es_cons); exact rfl; (with_reducible apply ev_unary; apply ev_nat; exact nn1; apply pr_neg; apply es_nil; apply PrW.ca))
  rw [hml]
  refine pr_range3 (by decide) (by decide) fun _ _ _ => ?_
  rw [show (-((1 : Nat) : Int)) = -1 from rfl, show ((0 : Nat) : Int) = 0 from rfl]
  obtain ⟨r1, r2⟩ := range_down (cs.length - 1) (by lia)
  refine ⟨_, itw_range rfl r1 r2, (RgI t i c jn s b ck L cs1),
    ⟨cs.length - 1, cs, k, rfl, rfl, hf, hcl, by lia⟩, ?_, ?_⟩
  · rintro x rest' σ it o' ⟨q, cs', kv, rfl, hr, hfq, hl, hq40⟩
    cases q with
    | zero => cases hr
    | succ q =>
    rw [rangeL_down] at hr
    injection hr with hr1 hr2
    subst hr1 hr2
    unfold fixS at hfq
    cases e1 : cs'[q]? with
    | none => rw [e1] at hfq; cases hfq
    | some a' =>
    cases e2 : cs'[q + 1]? with
    | none => rw [e1, e2] at hfq; cases hfq
    | some b' =>
    rw [e1, e2] at hfq
    dsimp only at hfq
    cases e3 : a'.getLast? with
    | none => rw [e3] at hfq; cases hfq
    | some x =>
    cases e4 : b'.head? with
    | none => rw [e3, e4] at hfq; cases hfq
    | some y =>
    rw [e3, e4] at hfq
    dsimp only at hfq
    by_cases hl2 : a'.length ≤ 100 ∧ b'.length ≤ 100
    · rw [if_pos hl2] at hfq
      unfold trE
      ((with_reducible apply as_nameX); exact .tail (.tail (.tail (.tail (.tail (.tail (.tail (.tail (.tail (.tail (.tail .head)))))))))); exact .inl rfl)
      refine tr_fix (t := t) (by (exact Nat.le_trans (by assumption) (by decide))) e1 e2 e3 e4 (by lia) (by lia) ?_
      refine ⟨_, .head, q, _, _, rfl, rfl, hfq, ?_, by (exact Nat.le_of_lt (by assumption))⟩
      split
      · exact Nat.le_trans fix1_len hl
      · exact hl
    · rw [if_neg hl2] at hfq; cases hfq
  · rintro σ ⟨q, cs', kv, rfl, hr, hfq, hl, hq40⟩
    cases q with
    | succ q => rw [rangeL_down] at hr; cases hr
    | zero =>
    cases hfq
    refine freezeX (e' := trE t i c (.int jn) s (.lst (cs1.map .str)) kv ck) .head (by (exact .keep (.keep (.keep (.keep (.keep (.keep (.keep (.keep (.keep (.keep (.thaw (.keep (.keep (.keep (.keep (.keep (.keep .nil)))))))))))))))))) ?_
    refine ex_assign rfl ?_
    refine ev_join_gen H hcode (Has.mem (by unfold trE; (exact .tail (.tail (.tail (.tail (.tail (.tail (.tail (.tail (.tail (.tail .head)))))))))))) (by decide) rfl rfl rfl hb1 (by (exact Nat.le_trans (by assumption) (by decide))) ?_
    unfold trE
    ((with_reducible apply asgX); exact .tail (.tail (.tail (.tail (.tail (.tail (.tail (.tail (.tail .head)))))))); exact .inl rfl)
    refine ex_nil (then_next ?_)
    exact tr_sub hg H PI hcode hq hx hn hL fun s => h _ _ _ _
end

section
inductive ChI (t : Tr) (i : Nat) (c : LV) (body : List Nat) (b : Addr) (ck : LV) (L : List LV) (accF : List (List Nat)) (sF : Nat) (f : Nat) (σ : LS) : Prop
  | mk (s k : Nat) (acc : List (List Nat)) (h0 : σ = ⟨trE t (i + s) c (.int (i + body.length : Nat)) (.str body) (.raw (.ref b)) (.int (i + k : Nat)) ck, [(b, .lst (acc.map .str)), (t.a, .lst L)]⟩) (h1 : chunkL f body s k acc = some (accF, sF)) (h2 : acc.length + f ≤ 1000)
theorem tr_cells {t : Tr} (hn : t.pat.length ≤ 100000) {i : Nat} {body r : List Nat} (hd : t.pat.drop i = body ++ r) {b : Addr} {s0 k0 f : Nat} {acc0 accF : List (List Nat)} {sF : Nat} (hch : chunkL f body s0 k0 acc0 = some (accF, sF)) (hal : acc0.length + f ≤ 1000)
    {c ck : LV} {L : List LV} {Φ : LFl → LS → Prop}
    (h : ∀ kv, ExW g F n ⟨trE t (i + sF) c (.int (i + body.length : Nat)) (.str body) (.raw (.ref b)) kv ck, [(b, .lst (accF.map .str)), (t.a, .lst L)]⟩ ((trHy g.w.params).drop 3) Φ) :
    ExW g F n ⟨trE t (i + s0) c (.int (i + body.length : Nat)) (.str body) (.raw (.ref b)) (.int (i + k0 : Nat)) ck, [(b, .lst (acc0.map .str)), (t.a, .lst L)]⟩ ((trHy g.w.params).drop 2) Φ := by
  have hn' : t.pat.length ≤ 1000000 := by (exact Nat.le_trans (by assumption) (by decide))
  conv => arg 5; whnf
  refine ex_while (ChI t i c body b ck L accF sF) f ⟨s0, k0, acc0, rfl, hch, hal⟩ ?_
  rintro f σ ⟨s, k, acc, rfl, hc, hl⟩
  cases f with
  | zero => cases hc
  | succ f =>
  unfold chunkL at hc
  unfold trE
  ((with_reducible apply te_plain); exact rfl; (with_reducible apply ev_bool; apply pb_bool))
  refine ⟨fun _ => ?_, (fun e => nomatch e)⟩
  ((with_reducible apply ex_assign); exact rfl; (with_reducible apply ev_find4); exact rfl; exact rfl; exact rfl; exact rfl; exact rfl; (with_reducible apply ev_nameH); exact .head; (with_reducible exact nu_str; apply str_ex; apply ev_strl; exact ls8; apply str_ex; apply ev_nameH); exact .tail (.tail (.tail (.tail (.tail (.tail (.tail (.tail (.tail (.tail (.tail .head)))))))))); (with_reducible exact nu_int; apply nat_ex; apply ev_nameH); exact .tail (.tail (.tail (.tail (.tail (.tail (.tail (.tail .head))))))); (with_reducible exact nu_int; apply nat_ex; apply asgX); exact .tail (.tail (.tail (.tail (.tail (.tail (.tail (.tail (.tail (.tail (.tail .head)))))))))); exact .inl rfl; (with_reducible apply ex_if; apply te_compare); exact rfl; (with_reducible apply ev_nameH); exact .tail (.tail (.tail (.tail (.tail (.tail (.tail (.tail (.tail (.tail (.tail .head)))))))))); (with_reducible exact nu_int; apply ev_nat; exact nn0))
  rcases find45 hd k with ⟨h1, h2⟩ | ⟨m, h1, h2, h3, h4⟩
  · rw [h1] at hc
    cases hc
    rw [h2]
    refine pr_lt ?_
    ((with_reducible apply bool_ex))
    apply way_t; · decide
    refine ex_break ?_
    exact h _
  · rw [h1] at hc
    dsimp only at hc
    rw [h4]
    have hml : (acc.map LV.str).length ≤ 1000000 := by rw [List.length_map]; lia
    ((with_reducible apply pr_ltN; apply bool_ex))
    apply way_f; · simp
    ((with_reducible apply ex_nil; apply then_next; apply ex_append); exact rfl; exact rfl; exact .tail (.tail (.tail (.tail (.tail (.tail (.tail (.tail (.tail (.tail .head))))))))); exact ⟨_, .head _⟩; (with_reducible apply ev_sub; apply ev_nameH); exact .head; (with_reducible exact nu_str; apply ev_slice; apply ow_some; apply ev_nameH); exact .tail (.tail (.tail (.tail (.tail .head)))); (with_reducible exact nu_int; apply ow_some; apply ev_nameH); exact .tail (.tail (.tail (.tail (.tail (.tail (.tail (.tail (.tail (.tail (.tail .head)))))))))); (with_reducible exact nu_int; apply si_str_mid); assumption; (with_reducible apply apX); exact .head; assumption; (with_reducible apply ex_assign); exact rfl; (with_reducible apply ev_binop; apply ev_nameH); exact .tail (.tail (.tail (.tail (.tail (.tail (.tail (.tail (.tail (.tail (.tail .head)))))))))); (with_reducible exact nu_int; apply ev_nat; exact nn1; apply pr_addN; apply asgX); exact .tail (.tail (.tail (.tail (.tail .head)))); exact .inl rfl; (with_reducible apply ex_assign); exact rfl; (with_reducible apply ev_binop; apply ev_nameH); exact .tail (.tail (.tail (.tail (.tail (.tail (.tail (.tail (.tail (.tail (.tail .head)))))))))); (with_reducible exact nu_int; apply ev_nat; exact nn3; apply pr_addN; apply asgX); exact .tail (.tail (.tail (.tail (.tail (.tail (.tail (.tail (.tail (.tail (.tail .head)))))))))); exact .inl rfl; (with_reducible apply ex_nil))
    rw [mid_shift hd (by (exact Nat.le_of_lt (by assumption)))]
    have happ : acc.map LV.str ++ [LV.str (mid body s m)] = (acc ++ [mid body s m]).map LV.str := by simp
    rw [happ]
    exact ⟨f, Nat.lt_succ_self f, m + 1, m + 3, acc ++ [mid body s m], rfl, hc, by simp; lia⟩
theorem tr_hyph (hg : HG g) (H : HT g) (PI : PatIn g 36) (hcode : F.env.code = .ref 61) (hq : F.env.qual ++ "<lambda>" = lamQual) {t : Tr} (hn : t.pat.length ≤ 100000) {i : Nat} {body r : List Nat} (hd : t.pat.drop i = body ++ r) (hbl : body.length ≤ 900) (h45 : 45 ∈ body)
    {cs cs1 : List (List Nat)} (hcs : chunksS body = some cs) (hcl : cs.length ≤ 40) (hf : fixS (cs.length - 1) cs = some cs1) (hb1 : ∀ x ∈ cs1, x.length ≤ 10000)
    (hx : ∀ c ∈ joinL [45] (cs1.map escS), c < 128) (hjn : (joinL [45] (cs1.map escS)).length ≤ 10000) {c k s ch ck : LV} {L : List LV} (hL : L.length ≤ 100000) {Φ : LFl → LS → Prop}
    (h : ∀ s ch k ck, Φ .next ⟨trE t (i + body.length + 1) c (.int (i + body.length : Nat)) s ch k ck, [(t.a, .lst (L ++ [.str (finS (subS (joinL [45] (cs1.map escS))))]))]⟩) :
    ExW g F (n + 3) ⟨trE t i c (.int (i + body.length : Nat)) s ch k ck, [(t.a, .lst L)]⟩ (trSet g.w.params) Φ := by
  have hn' : t.pat.length ≤ 1000000 := by (exact Nat.le_trans (by assumption) (by decide))
  have hbp : 0 < body.length := List.length_pos_iff.mpr (by intro e; subst e; cases h45)
  obtain ⟨d0, hd0⟩ : ∃ d, body[0]? = some d := ⟨_, List.getElem?_eq_getElem hbp⟩
  have hpi : t.pat[i]? = some d0 := by
    have : t.pat[i]? = (t.pat.drop i)[0]? := by rw [List.getElem?_drop, Nat.add_zero]
    rw [this, hd, List.getElem?_append_left hbp, hd0]
  have hil : i < t.pat.length := (List.getElem?_eq_some_iff.mp hpi).1
  have hmk : mark1 body = if d0 = 33 then 1 else 0 := by
    unfold mark1
    rw [hd0]
    by_cases e : d0 = 33
    · rw [if_pos (by rw [e]), if_pos e]
    · rw [if_neg (fun q => e (by injection q)), if_neg e]
  conv => arg 5; whnf
  refine ex_assign rfl ?_
  unfold trE
  ((with_reducible apply ev_sub; apply ev_nameH); exact .head; (with_reducible exact nu_str; apply ev_slice; apply ow_some; apply ev_nameH); exact .tail (.tail (.tail (.tail (.tail .head)))); (with_reducible exact nu_int; apply ow_some; apply ev_nameH); exact .tail (.tail (.tail (.tail (.tail (.tail (.tail (.tail .head))))))); (with_reducible exact nu_int; apply si_str_mid); assumption; (with_reducible apply asgX); exact .tail (.tail (.tail (.tail (.tail (.tail (.tail (.tail (.tail .head)))))))); exact .inl rfl)
  rw [mid_mid hd]
  skip
  refine ex_if ?_
  ((with_reducible apply te_compare); exact rfl; (with_reducible apply ev_strl; exact ls8; apply ev_nameH); exact .tail (.tail (.tail (.tail (.tail (.tail (.tail (.tail (.tail .head)))))))); (with_reducible exact nu_str; apply pr_snotin1; apply bool_ex))
  apply way_f; · simpa using h45
  refine ex_newlistF fun b hb => ?_
  have hbt : t.a ≠ b := hb (t.a, .lst L) (.head _)
  refine ⟨_, _, by (exact .tail (.tail (.tail (.tail (.tail (.tail (.tail (.tail (.tail (.tail .head)))))))))), .inl rfl, ?_⟩
  have main : ∀ ck, ExW g F (n + 3) ⟨trE t i c (.int (i + body.length : Nat)) (.str body) (.raw (.ref b)) (.int (i + (mark1 body + 1) : Nat)) ck, [(b, .lst []), (t.a, .lst L)]⟩ ((trHy g.w.params).drop 2) (Then g F (n + 3) ((trSet g.w.params).drop 2) Φ) := by
    intro ck
    unfold chunksS at hcs
    cases hch : chunkL (body.length + 1) body 0 (mark1 body + 1) [] with
    | none => rw [hch] at hcs; cases hcs
    | some y =>
    obtain ⟨acc, sF⟩ := y
    rw [hch] at hcs
    dsimp only at hcs
    refine tr_cells (s0 := 0) (acc0 := []) hn hd hch (by simp; (exact Nat.le_trans (by assumption) (by decide))) fun kv => ?_
    conv => arg 5; whnf
    refine ex_assign rfl ?_
    unfold trE
    ((with_reducible apply ev_sub; apply ev_nameH); exact .head; (with_reducible exact nu_str; apply ev_slice; apply ow_some; apply ev_nameH); exact .tail (.tail (.tail (.tail (.tail .head)))); (with_reducible exact nu_int; apply ow_some; apply ev_nameH); exact .tail (.tail (.tail (.tail (.tail (.tail (.tail (.tail .head))))))); (with_reducible exact nu_int; apply si_str_mid); assumption; (with_reducible apply asgX); exact .tail (.tail (.tail (.tail (.tail (.tail (.tail (.tail (.tail (.tail (.tail (.tail .head))))))))))); exact .inl rfl)
    rw [mid_shift hd (Nat.le_refl _)]
    have hacc : acc.length ≤ 1000 := by
      split at hcs
      · cases hcs; simp at hcl; (exact Nat.le_trans (by assumption) (by decide))
      · unfold lastUp at hcs
        split at hcs
        · cases hcs
        · split at hcs
          · cases hcs; simp at hcl; (exact Nat.le_trans (by assumption) (by decide))
          · cases hcs
    have hml : (acc.map LV.str).length ≤ 1000000 := by rw [List.length_map]; (exact Nat.le_trans (by assumption) (by decide))
    have hmm : (mid body sF body.length).length ≤ 1000 := by unfold mid; rw [List.length_take, List.length_drop]; lia
    refine ex_if ?_
    ((with_reducible apply te_plain); exact rfl; (with_reducible apply ev_nameH); exact .tail (.tail (.tail (.tail (.tail (.tail (.tail (.tail (.tail (.tail (.tail (.tail .head))))))))))); (with_reducible exact nu_str; apply pb_str); (exact Nat.le_trans (by assumption) (by decide)))
    by_cases hne : mid body sF body.length ≠ []
    · rw [if_pos hne] at hcs
      cases hcs
      apply way_t; · 
        cases e : mid body sF body.length with
        | nil => exact absurd e hne
        | cons _ _ => rfl
      ((with_reducible apply ex_append); exact rfl; exact rfl; exact .tail (.tail (.tail (.tail (.tail (.tail (.tail (.tail (.tail (.tail .head))))))))); exact ⟨_, .head _⟩; (with_reducible apply ev_nameH); exact .tail (.tail (.tail (.tail (.tail (.tail (.tail (.tail (.tail (.tail (.tail (.tail .head))))))))))); (with_reducible exact nu_str; apply apX); exact .head; assumption)
      have happ : acc.map LV.str ++ [LV.str (mid body sF body.length)] = (acc ++ [mid body sF body.length]).map LV.str := by simp
      rw [happ]
      refine ex_nil (then_next ?_)
      exact tr_join hg H PI hcode hq hcl (by simp) hf hb1 hx hjn hL h
    · rw [if_neg hne] at hcs
      have hne : mid body sF body.length = [] := Classical.not_not.mp hne
      apply way_f; · rw [hne]; rfl
      unfold lastUp at hcs
      cases hla : acc[acc.length - 1]? with
      | none => rw [hla] at hcs; cases hcs
      | some l =>
      rw [hla] at hcs
      dsimp only at hcs
      by_cases hll : l.length ≤ 1000
      case neg => rw [if_neg hll] at hcs; cases hcs
      rw [if_pos hll] at hcs
      cases hcs
      have hap : 0 < acc.length := by have := (List.getElem?_eq_some_iff.mp hla).1; lia
      refine ex_aug_cell (fun _ _ _ => rfl) ?_
      ((with_reducible apply ev_nameH); exact .tail (.tail (.tail (.tail (.tail (.tail (.tail (.tail (.tail (.tail .head))))))))); (with_reducible exact nu_raw; apply ev_unary; apply ev_nat; exact nn1; apply pr_neg))
      refine ⟨b, acc.map .str, _, acc.length - 1, .str l, rfl, rfl, .head _, by rw [List.length_map]; exact seqIndex_last hap, by rw [List.getElem?_map, hla]; rfl, by lia, ?_⟩
      ((with_reducible apply ev_strl; exact ls8))
      refine pr_isadd (by simp; (exact Nat.le_trans (by assumption) (by decide))) ?_
      have hset : (acc.map LV.str).set (acc.length - 1) (.str (l ++ [45])) = (acc.set (acc.length - 1) (l ++ [45])).map .str := by rw [List.map_set]
      rw [hset]
      refine ⟨_, by (exact .head), ?_⟩
      refine ex_nil (then_next ?_)
      exact tr_join hg H PI hcode hq hcl (by simp; assumption) hf hb1 hx hjn hL h
  refine ex_assign rfl ?_
  ((with_reducible apply ev_ifexp; apply te_compare); exact rfl; (with_reducible apply ev_sub; apply ev_nameH); exact .head; (with_reducible exact nu_str; apply ev_nameH); exact .tail (.tail (.tail (.tail (.tail .head)))); (with_reducible exact nu_int; apply si_strN); assumption; (exact Nat.le_trans (Nat.le_of_lt (by assumption)) (Nat.le_trans (by assumption) (by decide))); (with_reducible apply ev_strl; exact ls29; apply pr_seq; apply bool_ex))
  by_cases e33 : d0 = 33
  · rw [if_pos e33] at hmk
    apply way_t; · exact seq_t e33
    ((with_reducible apply ev_binop; apply ev_nameH); exact .tail (.tail (.tail (.tail (.tail .head)))); (with_reducible exact nu_int; apply ev_nat; exact nn2; apply pr_addN; apply asgX); exact .tail (.tail (.tail (.tail (.tail (.tail (.tail (.tail (.tail (.tail (.tail .head)))))))))); exact .inl rfl)
    have := main ck
    rw [hmk] at this
    exact this
  · rw [if_neg e33] at hmk
    apply way_f; · exact seq_f e33
    ((with_reducible apply ev_binop; apply ev_nameH); exact .tail (.tail (.tail (.tail (.tail .head)))); (with_reducible exact nu_int; apply ev_nat; exact nn1; apply pr_addN; apply asgX); exact .tail (.tail (.tail (.tail (.tail (.tail (.tail (.tail (.tail (.tail (.tail .head)))))))))); exact .inl rfl)
    have := main ck
    rw [hmk] at this
    exact this
end

section
theorem te_cell {e : List (Str × Loc × LV)} {cs : List (Addr × Ct)} {x : Str} {pos : Pos} {l0 : Loc} {a : Addr} {l : List LV} {Φ : Bool → LS → Prop} (hm : Has e x l0 (.raw (.ref a))) (hin : (a, Ct.lst l) ∈ cs) (hn : l.length ≤ 1000000) (h : Φ (!l.isEmpty) ⟨e, cs⟩) : TeW g F n ⟨e, cs⟩ (.Name x pos) Φ := by
  refine ⟨?_⟩; intro A P s Q E r S q
  have e1 : ∀ t, isTrue (.Name x pos) F.env t = (do let v ← t; standAt (Expr.pos (.Name x pos)); holding [v] (truthy v)) := fun t => rfl
  rw [e1]
  refine wpAny_bind ((ev_name (n := n) (Φ := fun lv σ₁ => lv = .raw (.ref a) ∧ σ₁ = ⟨e, cs⟩) hm.mem nu_raw ⟨rfl, rfl⟩).run A P s _ E r S fun P₁ s₁ σ₁ lv v le₁ S₁ h₁ ⟨k1, k2⟩ => ?_)
  subst k1 k2
  rw [h₁.toRaw]
  refine wpAny_bind (wpAny_standAt (wpAny_holding ?_))
  obtain ⟨vs, hl, hvl⟩ := S₁.cells _ _ hin
  have hs : vs.size = l.length := hvl.size
  have e2 : vs.isEmpty = l.isEmpty := by unfold Array.isEmpty; rw [hs]; cases l <;> simp
  exact wpAny_truthy_list hl.isList (by lia) (q P₁ _ ⟨e, cs⟩ _ le₁ (S₁.toks (s₁.toks + 1 + 1) (by lia)) (by rw [e2]; exact h))
inductive Part where
  | star
  | txt (s : List Nat)
deriving DecidableEq
noncomputable def pV (st : Addr) : Part → LV
  | .star => .raw (.ref st)
  | .txt s => .str s
noncomputable def partsAdd (ps : List Part) : Option (List Nat) → List Part
  | none => if ps.getLast? = some .star then ps else ps ++ [.star]
  | some t => ps ++ [.txt t]
noncomputable abbrev trCells (t : Tr) (ps : List Part) : List (Addr × Ct) := [(t.a, .lst (ps.map (pV t.st)))]
theorem at_here {pat : List Nat} {i c : Nat} {r : List Nat} (hd : pat.drop i = c :: r) : pat[i]? = some c ∧ i < pat.length ∧ pat.drop (i + 1) = r := at_drop hd
theorem tr_star {t : Tr} (hn : t.pat.length ≤ 100000) {i : Nat} {r : List Nat} (hd : t.pat.drop i = 42 :: r) {ps : List Part} (hps : ps.length ≤ 100000) {c j s ch k ck : LV} {Φ : LFl → LS → Prop}
    (h : ∀ c, Φ .next ⟨trE t (i + 1) c j s ch k ck, trCells t (partsAdd ps none)⟩) :
    ExW g F n ⟨trE t i c j s ch k ck, trCells t ps⟩ (trLoop g.w.params) Φ := by
  conv => arg 5; whnf
  obtain ⟨h1, h2, h3⟩ := at_here hd
  have hml : (ps.map (pV t.st)).length ≤ 1000000 := by rw [List.length_map]; (exact Nat.le_trans (by assumption) (by decide))
  unfold trE trCells partsAdd at *
  ((with_reducible apply ex_assign); exact rfl; (with_reducible apply ev_sub; apply ev_nameH); exact .head; (with_reducible exact nu_str; apply ev_nameH); exact .tail (.tail (.tail (.tail (.tail .head)))); (with_reducible exact nu_int; apply si_strN); assumption; (exact Nat.le_trans (Nat.le_of_lt (by assumption)) (Nat.le_trans (by assumption) (by decide))); (with_reducible apply asgX); exact .tail (.tail (.tail (.tail (.tail (.tail (.tail .head)))))); exact .inl rfl; (with_reducible apply ex_assign); exact rfl; (with_reducible apply ev_binop; apply ev_nameH); exact .tail (.tail (.tail (.tail (.tail .head)))); (with_reducible exact nu_int; apply ev_nat; exact nn1; apply pr_addN; apply asgX); exact .tail (.tail (.tail (.tail (.tail .head)))); exact .inl rfl; (with_reducible apply ex_if; apply te_compare); exact rfl; (with_reducible apply ev_nameH); exact .tail (.tail (.tail (.tail (.tail (.tail (.tail .head)))))); (with_reducible exact nu_str; apply ev_strl; exact ls18; apply pr_seq; apply bool_ex))
  apply way_t; · rfl
  refine ex_if (te_bool (al_or (te_not (te_cell (by (exact .tail (.tail (.tail .head)))) (.head _) hml ?_))))
  have happ : ps.map (pV t.st) ++ [.raw (.ref t.st)] = (ps ++ [Part.star]).map (pV t.st) := by simp [pV]
  cases hl : ps.getLast? with
  | none =>
    have : ps = [] := List.getLast?_eq_none_iff.mp hl
    subst this
    rw [if_neg (by simp)] at h
    apply yaw_t; · rfl
    apply way_t; · rfl
    ((with_reducible apply ex_callappH); exact rfl; exact .tail (.tail (.tail (.tail .head))); (with_reducible apply ev_nameH); exact .tail .head; (with_reducible exact nu_raw; apply apX); exact .head; assumption; (with_reducible apply ex_nil; apply then_next; apply ex_nil; apply then_next; apply ex_nil))
    exact h _
  | some p =>
    have hne : ps ≠ [] := by intro e; subst e; cases hl
    have hpl := List.length_pos_iff.mpr hne
    have hat : (ps.map (pV t.st))[ps.length - 1]? = some (pV t.st p) := by rw [List.getElem?_map, ← List.getLast?_eq_getElem?, hl]; rfl
    apply yaw_f; · cases ps with | nil => exact absurd rfl hne | cons _ _ => rfl
    refine al_or (te_compare rfl ?_)
    refine ev_ecells (by (exact .tail (.tail (.tail .head)))) (.head _) ?_
    ((with_reducible apply ev_unary; apply ev_nat; exact nn1; apply pr_neg))
    refine ⟨rfl, -1, ps.length - 1, pV t.st p, rfl, by rw [List.length_map]; exact seqIndex_last hpl, hat, by lia, ?_⟩
    ((with_reducible apply ev_nameH); exact .tail .head; (with_reducible exact nu_raw))
    cases p with
    | star =>
      rw [hl, if_pos rfl] at h
      refine pr_isnot_self ?_
      ((with_reducible apply bool_ex))
      apply yaw_f; · rfl
      ((with_reducible apply al_or_nil))
      apply way_f; · rfl
      ((with_reducible apply ex_nil; apply then_next; apply ex_nil; apply then_next; apply ex_nil))
      exact h _
    | txt x =>
      rw [hl, if_neg (by simp)] at h
      refine pr_isnot_str ?_
      ((with_reducible apply bool_ex))
      apply yaw_t; · rfl
      apply way_t; · rfl
      ((with_reducible apply ex_callappH); exact rfl; exact .tail (.tail (.tail (.tail .head))); (with_reducible apply ev_nameH); exact .tail .head; (with_reducible exact nu_raw; apply apX); exact .head; assumption; (with_reducible apply ex_nil; apply then_next; apply ex_nil; apply then_next; apply ex_nil))
      rw [happ]
      exact h _
theorem tr_quest {t : Tr} (hn : t.pat.length ≤ 100000) {i : Nat} {r : List Nat} (hd : t.pat.drop i = 63 :: r) {ps : List Part} (hps : ps.length ≤ 100000) {c j s ch k ck : LV} {Φ : LFl → LS → Prop}
    (h : ∀ c, Φ .next ⟨trE t (i + 1) c j s ch k ck, trCells t (partsAdd ps (some [46]))⟩) :
    ExW g F n ⟨trE t i c j s ch k ck, trCells t ps⟩ (trLoop g.w.params) Φ := by
  conv => arg 5; whnf
  obtain ⟨h1, h2, h3⟩ := at_here hd
  have hml : (ps.map (pV t.st)).length ≤ 1000000 := by rw [List.length_map]; (exact Nat.le_trans (by assumption) (by decide))
  unfold trE trCells partsAdd at *
  have happ : ps.map (pV t.st) ++ [.str [46]] = (ps ++ [Part.txt [46]]).map (pV t.st) := by simp [pV]
  ((with_reducible apply ex_assign); exact rfl; (with_reducible apply ev_sub; apply ev_nameH); exact .head; (with_reducible exact nu_str; apply ev_nameH); exact .tail (.tail (.tail (.tail (.tail .head)))); (with_reducible exact nu_int; apply si_strN); assumption; (exact Nat.le_trans (Nat.le_of_lt (by assumption)) (Nat.le_trans (by assumption) (by decide))); (with_reducible apply asgX); exact .tail (.tail (.tail (.tail (.tail (.tail (.tail .head)))))); exact .inl rfl; (with_reducible apply ex_assign); exact rfl; (with_reducible apply ev_binop; apply ev_nameH); exact .tail (.tail (.tail (.tail (.tail .head)))); (with_reducible exact nu_int; apply ev_nat; exact nn1; apply pr_addN; apply asgX); exact .tail (.tail (.tail (.tail (.tail .head)))); exact .inl rfl; (with_reducible apply ex_if; apply te_compare); exact rfl; (with_reducible apply ev_nameH); exact .tail (.tail (.tail (.tail (.tail (.tail (.tail .head)))))); (with_reducible exact nu_str; apply ev_strl; exact ls18; apply pr_seq; apply bool_ex))
  apply way_f; · rfl
  ((with_reducible apply ex_if; apply te_compare); exact rfl; (with_reducible apply ev_nameH); exact .tail (.tail (.tail (.tail (.tail (.tail (.tail .head)))))); (with_reducible exact nu_str; apply ev_strl; exact ls19; apply pr_seq; apply bool_ex))
  apply way_t; · rfl
  ((with_reducible apply ex_callappH); exact rfl; exact .tail (.tail (.tail (.tail .head))); (with_reducible apply ev_nameH); exact .tail (.tail .head); (with_reducible exact nu_str; apply apX); exact .head; assumption; (with_reducible apply ex_nil; apply then_next; apply ex_nil; apply then_next; apply ex_nil))
  rw [happ]
  exact h _
theorem tr_sign (hg : HG g) {t : Tr} (hn : t.pat.length ≤ 100000) {i x : Nat} {r : List Nat} (hx : x ∈ [97, 98, 94, 38]) (hd : t.pat.drop i = x :: r) {ps : List Part} (hps : ps.length ≤ 100000) {c j s ch k ck : LV} {Φ : LFl → LS → Prop}
    (h : ∀ c, Φ .next ⟨trE t (i + 1) c j s ch k ck, trCells t (partsAdd ps (some (escC x)))⟩) :
    ExW g F (n + 1) ⟨trE t i c j s ch k ck, trCells t ps⟩ (trLoop g.w.params) Φ := by
  conv => arg 5; whnf
  obtain ⟨h1, h2, h3⟩ := at_here hd
  have hml : (ps.map (pV t.st)).length ≤ 1000000 := by rw [List.length_map]; (exact Nat.le_trans (by assumption) (by decide))
  have hcal := (esc_fn hg).cal
  unfold trE trCells partsAdd at *
  have happ : ps.map (pV t.st) ++ [.str (escC x)] = (ps ++ [Part.txt (escC x)]).map (pV t.st) := by simp [pV]
  have n1 : x ≠ 42 ∧ x ≠ 63 ∧ x ≠ 91 := by simp at hx; lia
  ((with_reducible apply ex_assign); exact rfl; (with_reducible apply ev_sub; apply ev_nameH); exact .head; (with_reducible exact nu_str; apply ev_nameH); exact .tail (.tail (.tail (.tail (.tail .head)))); (with_reducible exact nu_int; apply si_strN); assumption; (exact Nat.le_trans (Nat.le_of_lt (by assumption)) (Nat.le_trans (by assumption) (by decide))); (with_reducible apply asgX); exact .tail (.tail (.tail (.tail (.tail (.tail (.tail .head)))))); exact .inl rfl; (with_reducible apply ex_assign); exact rfl; (with_reducible apply ev_binop; apply ev_nameH); exact .tail (.tail (.tail (.tail (.tail .head)))); (with_reducible exact nu_int; apply ev_nat; exact nn1; apply pr_addN; apply asgX); exact .tail (.tail (.tail (.tail (.tail .head)))); exact .inl rfl; (with_reducible apply ex_if; apply te_compare); exact rfl; (with_reducible apply ev_nameH); exact .tail (.tail (.tail (.tail (.tail (.tail (.tail .head)))))); (with_reducible exact nu_str; apply ev_strl; exact ls18; apply pr_seq; apply bool_ex))
  apply way_f; · simp; exact n1.1
  ((with_reducible apply ex_if; apply te_compare); exact rfl; (with_reducible apply ev_nameH); exact .tail (.tail (.tail (.tail (.tail (.tail (.tail .head)))))); (with_reducible exact nu_str; apply ev_strl; exact ls19; apply pr_seq; apply bool_ex))
  apply way_f; · simp; exact n1.2.1
  ((with_reducible apply ex_if; apply te_compare); exact rfl; (with_reducible apply ev_nameH); exact .tail (.tail (.tail (.tail (.tail (.tail (.tail .head)))))); (with_reducible exact nu_str; apply ev_strl; exact ls2; apply pr_seq; apply bool_ex))
  apply way_f; · simp; exact n1.2.2
  ((with_reducible apply ex_callappH); exact rfl; exact .tail (.tail (.tail (.tail .head))); (with_reducible apply ev_callN); exact rfl; exact .tail (.tail (.tail (.tail (.tail (.tail (.tail (.tail (.tail (.tail (.tail (.tail (.tail (.tail (.tail (.tail .head))))))))))))))); assumption; (with_reducible apply es_cons); exact rfl; (with_reducible apply ev_nameH); exact .tail (.tail (.tail (.tail (.tail (.tail (.tail .head)))))); (with_reducible exact nu_str; apply es_nil; apply PrW.ca))
  refine pr_esc hg hx ?_
  ((with_reducible apply apX); exact .head; assumption; (with_reducible apply ex_nil; apply then_next; apply ex_nil; apply then_next; apply ex_nil; apply then_next; apply ex_nil))
  rw [happ]
  exact h _
noncomputable def esc1 (x : List Nat) : List Nat := x.flatMap fun c => if c = 92 then [92, 92] else if c = 45 then [92, 45] else [c]
noncomputable def setPart (body : List Nat) : Option (List Nat) :=
  if closeOk body && body.all (fun c => decide (c < 128)) && decide (body.length ≤ 900) then
    if 45 ∈ body then match chunksS body with
      | none => none
      | some cs => if cs.length ≤ 40 ∧ 0 < cs.length then match fixS (cs.length - 1) cs with
          | none => none
          | some cs1 => if cs1.all (fun x => decide (x.length ≤ 10000)) && (joinL [45] (cs1.map esc1)).all (fun c => decide (c < 128)) && decide ((joinL [45] (cs1.map esc1)).length ≤ 10000) then some (finS (subS (joinL [45] (cs1.map esc1)))) else none
        else none
    else some (finS (subS (rep1 body)))
  else none
theorem tr_setT (hg : HG g) (H : HT g) (PI : PatIn g 36) (hcode : F.env.code = .ref 61) (hq : F.env.qual ++ "<lambda>" = lamQual) {t : Tr} (hn : t.pat.length ≤ 100000) {i : Nat} {body r txt : List Nat} (hd : t.pat.drop i = 91 :: (body ++ 93 :: r)) (hs : setPart body = some txt) {ps : List Part} (hps : ps.length ≤ 100000) {c j s ch k ck : LV} {Φ : LFl → LS → Prop}
    (h : ∀ c j s ch k ck, Φ .next ⟨trE t (i + 1 + body.length + 1) c j s ch k ck, trCells t (partsAdd ps (some txt))⟩) :
    ExW g F (n + 3) ⟨trE t i c j s ch k ck, trCells t ps⟩ (trLoop g.w.params) Φ := by
  conv => arg 5; whnf
  obtain ⟨h1, h2, h3⟩ := at_here hd
  have hml : (ps.map (pV t.st)).length ≤ 100000 := by rw [List.length_map]; assumption
  unfold partsAdd at h
  have happ : ∀ x, ps.map (pV t.st) ++ [.str x] = (ps ++ [Part.txt x]).map (pV t.st) := fun x => by simp [pV]
  unfold setPart at hs
  split at hs
  case isFalse => cases hs
  rename_i hc
  rw [Bool.and_eq_true, Bool.and_eq_true] at hc
  obtain ⟨⟨hc1, hc2⟩, hc3⟩ := hc
  have hc3 := of_decide_eq_true hc3
  have hc2 : ∀ c ∈ body, c < 128 := fun c hm => of_decide_eq_true (List.all_eq_true.mp hc2 c hm)
  refine ex_assign rfl ?_
  unfold trE
  ((with_reducible apply ev_sub; apply ev_nameH); exact .head; (with_reducible exact nu_str; apply ev_nameH); exact .tail (.tail (.tail (.tail (.tail .head)))); (with_reducible exact nu_int; apply si_strN); assumption; (exact Nat.le_trans (Nat.le_of_lt (by assumption)) (Nat.le_trans (by assumption) (by decide))); (with_reducible apply asgX); exact .tail (.tail (.tail (.tail (.tail (.tail (.tail .head)))))); exact .inl rfl)
  refine ex_assign rfl ?_
  ((with_reducible apply ev_binop; apply ev_nameH); exact .tail (.tail (.tail (.tail (.tail .head)))); (with_reducible exact nu_int; apply ev_nat; exact nn1; apply pr_addN; apply asgX); exact .tail (.tail (.tail (.tail (.tail .head)))); exact .inl rfl)
  refine ex_if ?_
  ((with_reducible apply te_compare); exact rfl; (with_reducible apply ev_nameH); exact .tail (.tail (.tail (.tail (.tail (.tail (.tail .head)))))); (with_reducible exact nu_str; apply ev_strl; exact ls18; apply pr_seq; apply bool_ex))
  apply way_f; · rfl
  refine ex_if ?_
  ((with_reducible apply te_compare); exact rfl; (with_reducible apply ev_nameH); exact .tail (.tail (.tail (.tail (.tail (.tail (.tail .head)))))); (with_reducible exact nu_str; apply ev_strl; exact ls19; apply pr_seq; apply bool_ex))
  apply way_f; · rfl
  refine ex_if ?_
  ((with_reducible apply te_compare); exact rfl; (with_reducible apply ev_nameH); exact .tail (.tail (.tail (.tail (.tail (.tail (.tail .head)))))); (with_reducible exact nu_str; apply ev_strl; exact ls2; apply pr_seq; apply bool_ex))
  apply way_t; · rfl
  refine tr_close (t := t) (i := i + 1) (r := r) (by assumption) h3 hc1 ?_
  by_cases h45 : 45 ∈ body
  · rw [if_pos h45] at hs
    cases e1 : chunksS body with
    | none => rw [e1] at hs; cases hs
    | some cs =>
    rw [e1] at hs
    dsimp only at hs
    by_cases hcl : cs.length ≤ 40 ∧ 0 < cs.length
    case neg => rw [if_neg hcl] at hs; cases hs
    rw [if_pos hcl] at hs
    cases e2 : fixS (cs.length - 1) cs with
    | none => rw [e2] at hs; cases hs
    | some cs1 =>
    rw [e2] at hs
    dsimp only at hs
    split at hs
    case isFalse => cases hs
    rename_i hk
    cases hs
    rw [Bool.and_eq_true, Bool.and_eq_true] at hk
    have ee : escS = esc1 := funext fun x => escS_eq x
    obtain ⟨⟨k1, k2⟩, k3⟩ := hk
    rw [← ee] at k2 k3 h
    refine tr_hyph hg H PI hcode hq hn h3 hc3 h45 e1 hcl.1 e2 (fun x hx => of_decide_eq_true (List.all_eq_true.mp k1 x hx)) (fun c hx => of_decide_eq_true (List.all_eq_true.mp k2 c hx)) (of_decide_eq_true k3) hml fun s ch k ck => ?_
    rw [happ]
    exact ex_nil (then_next (ex_nil (then_next (ex_nil (then_next (ex_nil (h _ _ _ _ _ _)))))))
  · rw [if_neg h45] at hs
    cases hs
    refine tr_plain hg H PI hcode hq hn h3 hc2 (by (exact Nat.le_trans (by assumption) (by decide))) h45 hml fun s => ?_
    rw [happ]
    exact ex_nil (then_next (ex_nil (then_next (ex_nil (then_next (ex_nil (h _ _ _ _ _ _)))))))
end

section
noncomputable def itemT (i : Item) : Option (List Nat) := match i.written with
  | [42] => none
  | [63] => some [46]
  | [c] => some (escC c)
  | w => some ((setPart (w.drop 1).dropLast).getD [])
noncomputable def bodyOf (b : Bool) (p q : List Nat) : List Nat := (if b then [33] else []) ++ joinL [] [p, q]
theorem bodies_ok : ∀ b : Bool, ∀ p ∈ pcsA, ∀ q ∈ pcsB, (setPart (bodyOf b p q)).isSome = true := by decide +kernel
noncomputable def ItemOk (i : Item) : Prop := ∃ run, RowOk i run
theorem item_cases {i : Item} (h : ItemOk i) : (i.written = [42] ∧ itemT i = none) ∨ (i.written = [63] ∧ itemT i = some [46]) ∨ (∃ c, c ∈ [97, 98, 94, 38] ∧ i.written = [c] ∧ itemT i = some (escC c)) ∨
    ∃ body txt, i.written = 91 :: (body ++ [93]) ∧ setPart body = some txt ∧ itemT i = some txt := by
  obtain ⟨run, h⟩ := h
  cases h with
  | star => exact .inl ⟨rfl, rfl⟩
  | any => exact .inr (.inl ⟨rfl, rfl⟩)
  | plain hc =>
    refine .inr (.inr (.inl ⟨_, hc, rfl, ?_⟩))
    simp only [List.mem_cons, List.not_mem_nil, or_false] at hc
    rcases hc with rfl | rfl | rfl | rfl <;> rfl
  | @set b p q _ hp hq _ =>
    obtain ⟨txt, ht⟩ := Option.isSome_iff_exists.mp (bodies_ok b p hp q hq)
    have hw : (setItem b p q).written = 91 :: (bodyOf b p q ++ [93]) := rfl
    refine .inr (.inr (.inr ⟨bodyOf b p q, txt, hw, ht, ?_⟩))
    unfold itemT
    rw [hw]
    cases hb : bodyOf b p q ++ [93] with
    | nil => simp at hb
    | cons x r =>
      show some ((setPart ((91 :: x :: r).drop 1).dropLast).getD []) = some txt
      rw [← hb]
      simp [ht]
noncomputable def partsF (ps : List Part) (ts : List (Option (List Nat))) : List Part := ts.foldl partsAdd ps
theorem partsAdd_len (ps : List Part) (t : Option (List Nat)) : (partsAdd ps t).length ≤ ps.length + 1 := by
  unfold partsAdd
  split
  · split <;> simp
  · simp
theorem partsF_len : ∀ (ts : List (Option (List Nat))) (ps : List Part), (partsF ps ts).length ≤ ps.length + ts.length
  | [], ps => Nat.le_refl _
  | t :: ts, ps => by
    have := partsF_len ts (partsAdd ps t)
    have := partsAdd_len ps t
    unfold partsF at *
    simp only [List.foldl_cons, List.length_cons]
    lia
theorem partsF_snoc (ps : List Part) (ts : List (Option (List Nat))) (t : Option (List Nat)) : partsF ps (ts ++ [t]) = partsAdd (partsF ps ts) t := by unfold partsF; rw [List.foldl_append]; rfl
inductive TrJ (t : Tr) (is : List Item) (pat : List Nat) (f : Nat) (σ : LS) : Prop
  | mk (i : Nat) (c j s ch k ck : LV) (dn rs : List Item) (h0 : σ = ⟨trE t i c j s ch k ck, trCells t (partsF [] (dn.map itemT))⟩) (h1 : is = dn ++ rs) (h2 : pat.drop i = (rs.map (·.written)).flatten) (h3 : i ≤ pat.length) (h4 : f = rs.length)
theorem tr_body (hg : HG g) (H : HT g) (PI : PatIn g 36) (hcode : F.env.code = .ref 61) (hq : F.env.qual ++ "<lambda>" = lamQual) {is : List Item} (hok : ∀ i ∈ is, ItemOk i) (hil : is.length ≤ 1000) {pat : List Nat} (hpat : pat = (is.map (·.written)).flatten) (hn : pat.length ≤ 100000) {st : Addr} :
    ExW g F (n + 3) ⟨putAll (baseEnv [] gtab (fdAt g.w.params 62).scope.names) ([("pat", .str pat), ("STAR", .raw (.ref st)), ("QUESTION_MARK", .str [46])] : List (Str × LV)), []⟩ (bodyAt g.w.params 62) fun lf _ => lf = .ret (.lst ((partsF [] (is.map itemT)).map (pV st))) := by
  have hn' : pat.length ≤ 1000000 := by (exact Nat.le_trans (by assumption) (by decide))
  conv => arg 5; whnf
  have e2 : putAll (baseEnv [] gtab (fdAt g.w.params 62).scope.names) ([("pat", .str pat), ("STAR", .raw (.ref st)), ("QUESTION_MARK", .str [46])] : List (Str × LV)) = ([("pat", .local, .str pat), ("STAR", .local, .raw (.ref st)), ("QUESTION_MARK", .local, .str [46]), ("res", .local, .undef), ("add", .local, .undef), ("i", .local, .undef), ("n", .local, .undef),
    ("c", .local, .undef), ("j", .local, .undef), ("stuff", .local, .undef), ("chunks", .local, .undef), ("k", .local, .undef), ("chunk", .local, .undef),
    ("len", .glob, .raw (.builtin "len")), ("range", .glob, .raw (.type "range")), ("_twin_re_1", .glob, .raw (.ref 36)), ("escape", .glob, .raw (.ref 55))] : List (Str × Loc × LV)) := rfl
  rw [e2]
  clear e2
  refine ex_newlistF fun a _ => ?_
  ((with_reducible apply asgX); exact .tail (.tail (.tail .head)); exact .inl rfl; (with_reducible apply ex_assign); exact rfl)
  refine ev_boundappH (by (exact .tail (.tail (.tail .head)))) (.head _) ?_
  ((with_reducible apply asgX); exact .tail (.tail (.tail (.tail .head))); exact .inl rfl)
  refine ex_assign_swap (x := "i") (y := "n") (Has.mem (by (exact .tail (.tail (.tail (.tail (.tail .head))))))) (Has.mem (by (exact .tail (.tail (.tail (.tail (.tail (.tail .head)))))))) rfl rfl rfl rfl rfl ?_
  ((with_reducible apply ev_tuple; apply es_cons); exact rfl; (with_reducible apply ev_nat; exact nn0; apply es_cons); exact rfl; (with_reducible apply ev_callN); exact rfl; exact .tail (.tail (.tail (.tail (.tail (.tail (.tail (.tail (.tail (.tail (.tail (.tail (.tail .head)))))))))))); exact cal_bi; (with_reducible apply es_cons); exact rfl; (with_reducible apply ev_nameH); exact .head; (with_reducible exact nu_str; apply es_nil; apply PrW.ca; apply pr_len_str); assumption; (with_reducible apply es_nil; apply lenOk); exact rfl)
  refine ⟨_, _, _, _, rfl, by (exact .tail (.tail (.tail (.tail (.tail (.tail .head)))))), by (exact .tail (.tail (.tail (.tail (.tail .head))))), ?_⟩
  let t : Tr := ⟨pat, st, a⟩
  refine ex_while (TrJ t is pat) _
    ⟨0, .undef, .undef, .undef, .undef, .undef, .undef, [], is, rfl, rfl, hpat, Nat.zero_le _, rfl⟩ ?_
  rintro f σ ⟨i, c, j, s, ch, k, ck, dn, rs, rfl, his, hd, hi, hf⟩
  have hpl : (partsF [] (dn.map itemT)).length ≤ 100000 := by
    have := partsF_len (dn.map itemT) []
    rw [List.length_map] at this
    have : is.length = dn.length + rs.length := by rw [his]; simp
    simp at *
    lia
  have lst : (t.pat.drop i).length = t.pat.length - i := List.length_drop
  unfold trE
  ((with_reducible apply te_compare); exact rfl; (with_reducible apply ev_nameH); exact .tail (.tail (.tail (.tail (.tail .head)))); (with_reducible exact nu_int; apply ev_nameH); exact .tail (.tail (.tail (.tail (.tail (.tail .head))))); (with_reducible exact nu_int; apply pr_ltN; apply bool_ex))
  cases rs with
  | nil =>
    have hie : i = pat.length := by
      have := end_drop hd
      lia
    apply way_f; · show decide (i < pat.length) = false; simp [hie]
    refine ex_assert ?_
    ((with_reducible apply te_compare); exact rfl; (with_reducible apply ev_nameH); exact .tail (.tail (.tail (.tail (.tail .head)))); (with_reducible exact nu_int; apply ev_nameH); exact .tail (.tail (.tail (.tail (.tail (.tail .head))))); (with_reducible exact nu_int; apply pr_eqN; apply bool_ex))
    refine ⟨by show (i == pat.length) = true; simp [hie], ?_⟩
    rw [List.append_nil] at his
    subst his
    refine freezeX (e' := ([("pat", .local, .str pat), ("STAR", .local, .raw (.ref st)), ("QUESTION_MARK", .local, .str [46]), ("res", .local, .lst ((partsF [] (is.map itemT)).map (pV st))), ("add", .local, .obj (boundApp a)), ("i", .local, .int i), ("n", .local, .int pat.length), ("c", .local, c), ("j", .local, j), ("stuff", .local, s), ("chunks", .local, ch), ("k", .local, k), ("chunk", .local, ck), ("len", .glob, .raw (.builtin "len")), ("range", .glob, .raw (.type "range")), ("_twin_re_1", .glob, .raw (.ref 36)), ("escape", .glob, .raw (.ref 55))] : List (Str × Loc × LV))) .head (by (exact .keep (.keep (.keep (.thaw (.keep (.keep (.keep (.keep (.keep (.keep (.keep (.keep (.keep (.keep (.keep (.keep (.keep .nil)))))))))))))))))) ?_
    ((with_reducible apply ex_return; apply ev_nameH); exact .tail (.tail (.tail .head)); (with_reducible exact nu_lst))
    rfl
  | cons x rs =>
    have hx : ItemOk x := hok x (by rw [his]; simp)
    have his' : is = (dn ++ [x]) ++ rs := by rw [his]; simp
    have hsn : partsF [] ((dn ++ [x]).map itemT) = partsAdd (partsF [] (dn.map itemT)) (itemT x) := by rw [List.map_append]; exact partsF_snoc _ _ _
    rw [List.map_cons, List.flatten_cons] at hd
    have fin : ∀ (m : Nat), m = x.written.length → ∀ c j s ch k ck, ∃ j', j' < f ∧ TrJ t is pat j' ⟨trE t (i + m) c j s ch k ck, trCells t (partsAdd (partsF [] (dn.map itemT)) (itemT x))⟩ := by
      intro m hm c j s ch k ck
      have hdl : pat.length - i = x.written.length + ((rs.map (·.written)).flatten).length := by
        have := congrArg List.length hd
        rw [List.length_drop, List.length_append] at this
        exact this
      refine ⟨rs.length, by rw [hf]; simp, i + m, c, j, s, ch, k, ck, dn ++ [x], rs, by rw [hsn], his', ?_, by lia, rfl⟩
      rw [← List.drop_drop, hd, hm]
      exact List.drop_left' rfl
    have hil : i < pat.length ∨ x.written = [] := by
      by_cases h : i < pat.length
      · exact .inl h
      · right
        have : pat.drop i = [] := List.drop_eq_nil_of_le (by (exact Nat.not_lt.mp (by assumption)))
        rw [this] at hd
        exact (List.append_eq_nil_iff.mp hd.symm).1
    rcases item_cases hx with ⟨hw, ht⟩ | ⟨hw, ht⟩ | ⟨z, hz, hw, ht⟩ | ⟨body, txt, hw, hs, ht⟩
    all_goals
      have hil : i < pat.length := hil.resolve_right (by rw [hw]; simp)
      apply way_t
      · simpa using hil
      rw [hw] at hd fin
      rw [ht] at fin
    · exact tr_star hn hd hpl fun c => fin 1 rfl _ _ _ _ _ _
    · exact tr_quest hn hd hpl fun c => fin 1 rfl _ _ _ _ _ _
    · exact tr_sign hg hn hz hd hpl fun c => fin 1 rfl _ _ _ _ _ _
    · refine tr_setT hg H PI hcode hq hn (body := body) (r := (rs.map (·.written)).flatten) (by rw [show t.pat.drop i = pat.drop i from rfl, hd]; simp) hs hpl fun c j s ch k ck => ?_
      have := fin (body.length + 2) (by simp) c j s ch k ck
      rw [show i + 1 + body.length + 1 = i + (body.length + 2) from by lia]
      exact this
theorem qual62 (pm cd doc : Value) : (fdD 62 pm cd doc).qualname = Str.ofString "_translate" := rfl
theorem lamq : Str.ofString "_translate" ++ Str.ofString ".<locals>." ++ Str.ofString "<lambda>" = lamQual := by decide
theorem tr_fn (h : HG g) : FnOkE g 62 (["pat", "STAR", "QUESTION_MARK"] : List Str) :=
  fn_ok h (by decide) rfl rfl fun _ _ _ => of3 fun _ _ _ => rfl
theorem pr_tr (h : HG g) (H : HT g) (PI : PatIn g 36) {is : List Item} (hok : ∀ i ∈ is, ItemOk i) (hil : is.length ≤ 1000) {pat : List Nat} (hpat : pat = (is.map (·.written)).flatten) (hn : pat.length ≤ 100000) {st : Addr} {Φ : LV → Prop} (hΦ : Φ (.lst ((partsF [] (is.map itemT)).map (pV st)))) :
    PrW g (n + 4) [.str pat, .raw (.ref st), .str [46]] (fun vs => call (.ref 62) vs) Φ :=
  let ⟨_, _, _, hc62, K⟩ := (tr_fn h).ex
  pr_fnC K h.gt rfl fun F hc hq => (tr_body h H PI (hc.trans (hc62 rfl)) (by rw [hq, qual62]; exact lamq) hok hil hpat hn).mono fun lf _ e => by rw [e]; exact hΦ
end

section
noncomputable def mrg : Bool → List (Option (List Nat)) → List Part
  | _, [] => []
  | _, some t :: r => .txt t :: mrg false r
  | true, none :: r => mrg true r
  | false, none :: r => .star :: mrg true r
noncomputable def isStarL (ps : List Part) : Bool := decide (ps.getLast? = some .star)
theorem partsF_mrg : ∀ (ts : List (Option (List Nat))) (ps : List Part), partsF ps ts = ps ++ mrg (isStarL ps) ts
  | [], ps => by unfold partsF mrg; simp
  | some t :: ts, ps => by
    show partsF (ps ++ [.txt t]) ts = _
    rw [partsF_mrg ts]
    have : isStarL (ps ++ [Part.txt t]) = false := by unfold isStarL; simp
    rw [this]
    show _ = ps ++ (.txt t :: mrg false ts)
    simp
  | none :: ts, ps => by
    show partsF (if ps.getLast? = some .star then ps else ps ++ [.star]) ts = _
    by_cases h : ps.getLast? = some .star
    · rw [if_pos h, partsF_mrg ts]
      have : isStarL ps = true := by unfold isStarL; simp [h]
      rw [this]; rfl
    · rw [if_neg h, partsF_mrg ts]
      have h1 : isStarL ps = false := by unfold isStarL; simp [h]
      have h2 : isStarL (ps ++ [Part.star]) = true := by unfold isStarL; simp
      rw [h1, h2]
      show _ = ps ++ (.star :: mrg true ts)
      simp
noncomputable def grpG : List Part → List (List Nat) × List (List (List Nat))
  | [] => ([], [])
  | .txt t :: r => (t :: (grpG r).1, (grpG r).2)
  | .star :: r => ([], (grpG r).1 :: (grpG r).2)
theorem grpG_eq (st : Addr) : ∀ ps : List Part, ps.map (pV st) = (grpG ps).1.map LV.str ++ partsR st (grpG ps).2
  | [] => rfl
  | .txt t :: r => by
    have := grpG_eq st r
    simp only [List.map_cons, grpG, this, pV, List.cons_append]
  | .star :: r => by
    have := grpG_eq st r
    simp only [List.map_cons, grpG, this, pV, List.map_nil, List.nil_append, partsR_cons]
theorem grpG_ok : ∀ ts : List (Option (List Nat)), GOk (grpG (mrg false ts)).2 ∧ GOk ((grpG (mrg true ts)).1 :: (grpG (mrg true ts)).2)
  | [] => ⟨trivial, trivial⟩
  | some t :: r => by
    obtain ⟨h1, h2⟩ := grpG_ok r
    refine ⟨h1, ?_⟩
    show GOk ((t :: (grpG (mrg false r)).1) :: (grpG (mrg false r)).2)
    cases e : (grpG (mrg false r)).2 with
    | nil => trivial
    | cons h q => exact ⟨by simp, by rw [← e]; exact h1⟩
  | none :: r => by
    obtain ⟨h1, h2⟩ := grpG_ok r
    exact ⟨h2, h2⟩
theorem mrg_len : ∀ (ts : List (Option (List Nat))) (b : Bool), (mrg b ts).length ≤ ts.length
  | [], b => Nat.zero_le _
  | some t :: r, b => by cases b <;> (show (Part.txt t :: mrg false r).length ≤ _; have := mrg_len r false; simp; assumption)
  | none :: r, true => by show (mrg true r).length ≤ _; have := mrg_len r true; simp; lia
  | none :: r, false => by show (Part.star :: mrg true r).length ≤ _; have := mrg_len r true; simp; assumption
theorem grpG_len : ∀ ps : List Part, (grpG ps).2.length ≤ ps.length
  | [] => Nat.zero_le _
  | .txt t :: r => by have := grpG_len r; simp only [grpG, List.length_cons]; lia
  | .star :: r => by have := grpG_len r; simp only [grpG, List.length_cons]; lia
noncomputable abbrev grpI (is : List Item) : List (List Nat) × List (List (List Nat)) := grpG (mrg false (is.map itemT))
noncomputable def textI (is : List Item) : List Nat := [40, 63, 115, 58] ++ ((grpI is).1.flatten ++ tailS (grpI is).2) ++ [41, 92, 90]
theorem tran_body (hg : HG g) (H : HT g) (PI : PatIn g 36) {is : List Item} (hok : ∀ i ∈ is, ItemOk i) (hil : is.length ≤ 1000) {pat : List Nat} (hpat : pat = (is.map (·.written)).flatten) (hn : pat.length ≤ 100000) (ht : (textI is).length ≤ 90000) :
    ExW g F (n + 4) ⟨putAll (baseEnv [] gtab (fdAt g.w.params 43).scope.names) ([("pat", .str pat)] : List (Str × LV)), []⟩ (bodyAt g.w.params 43) fun lf _ => lf = .ret (.str (textI is)) := by
  conv => arg 5; whnf
  have e2 : putAll (baseEnv [] gtab (fdAt g.w.params 43).scope.names) ([("pat", .str pat)] : List (Str × LV)) = ([("pat", .local, .str pat), ("STAR", .local, .undef), ("parts", .local, .undef), ("object", .glob, .raw (.type "object")), ("_translate", .glob, .raw (.ref 62)), ("_join_translated_parts", .glob, .raw (.ref 69))] : List (Str × Loc × LV)) := rfl
  rw [e2]
  clear e2
  have hc1 := (tr_fn hg).cal
  have hc2 := (jo_fn hg).cal
  ((with_reducible apply ex_assign); exact rfl; (with_reducible apply ev_callN); exact rfl; exact .tail (.tail (.tail .head)); exact cal_ty; (with_reducible apply es_nil; apply PrW.ca; apply pr_object))
  intro st
  ((with_reducible apply asgX); exact .tail .head; exact .inl rfl; (with_reducible apply ex_assign); exact rfl; (with_reducible apply ev_callN); exact rfl; exact .tail (.tail (.tail (.tail .head))); assumption; (with_reducible apply es_cons); exact rfl; (with_reducible apply ev_nameH); exact .head; (with_reducible exact nu_str; apply es_cons); exact rfl; (with_reducible apply ev_nameH); exact .tail .head; (with_reducible exact nu_raw; apply es_cons); exact rfl; (with_reducible apply ev_strl; exact ls0; apply es_nil; apply PrW.ca))
  refine pr_tr hg H PI hok hil hpat hn ?_
  ((with_reducible apply asgX); exact .tail (.tail .head); exact .inl rfl; (with_reducible apply ex_return; apply ev_callN); exact rfl; exact .tail (.tail (.tail (.tail (.tail .head)))); assumption; (with_reducible apply es_cons); exact rfl; (with_reducible apply ev_nameH); exact .tail (.tail .head); (with_reducible exact nu_lst; apply es_cons); exact rfl; (with_reducible apply ev_nameH); exact .tail .head; (with_reducible exact nu_raw; apply es_nil; apply PrW.ca))
  have e1 : partsF [] (is.map itemT) = mrg false (is.map itemT) := by rw [partsF_mrg]; rfl
  rw [e1]
  have hl := mrg_len (is.map itemT) false
  have hl2 := grpG_len (mrg false (is.map itemT))
  rw [List.length_map] at hl
  refine pr_jo (n := n + 3) hg (grpG_eq st _) (by rw [List.length_map]; (exact Nat.le_trans (by assumption) (Nat.le_trans (by assumption) (by decide)))) (grpG_ok _).1 (by unfold textI grpI at ht; simp only [List.length_append] at ht ⊢; lia) (by lia) ?_
  skip
  rfl
theorem tran_fn (h : HG g) : FnOkE g 43 (["pat"] : List Str) :=
  fn_ok h (by decide) rfl rfl fun _ _ _ => of1 fun _ => rfl
theorem pr_tran (h : HG g) (H : HT g) (PI : PatIn g 36) {is : List Item} (hok : ∀ i ∈ is, ItemOk i) (hil : is.length ≤ 1000) {pat : List Nat} (hpat : pat = (is.map (·.written)).flatten) (hn : pat.length ≤ 100000) (ht : (textI is).length ≤ 90000) {Φ : LV → Prop} (hΦ : Φ (.str (textI is))) :
    PrW g (n + 5) [.str pat] (fun vs => call (.ref 43) vs) Φ :=
  pr_fnE (tran_fn h) h.gt rfl fun F => (tran_body h H PI hok hil hpat hn ht).mono fun lf _ e => by rw [e]; exact hΦ
end

section
structure Pl (is : List Item) (name : List Nat) : Prop where
  il : is.length ≤ 1000
  ok : ∀ i ∈ is, ItemOk i
  tl : (textI is).length ≤ 90000
  pl : ((is.map (·.written)).flatten).length ≤ 100000
  sp : ∀ i ∈ is, i.spans.length ≤ 1000000
  nl : name.length ≤ 10000
  wb : ∀ pre suf, is = pre ++ suf → (pre.foldl (wantStep name) [[]]).length ≤ 1000000
  wl : ∀ w ∈ wantsS name is, w.length ≤ 10000 ∧ (isIn [46, 46, 46] w = true → 2 ≤ (splitS w [46, 46, 46]).length ∧ (splitS w [46, 46, 46]).length ≤ 20000 ∧ ∀ x ∈ splitS w [46, 46, 46], x.length ≤ 10000)
  law : ∃ f ts, toksS f ((textI is).drop 4) [] = some ts ∧ (∀ t ∈ ts, TkOk t) ∧ takesS name ts = decide (0 < ((wantsS name is).filter fun w => ellS w name).length)
noncomputable abbrev lwE (script : List Int) (R : List (Item × List Nat)) (k nm j it tk mt : LV) : List (Str × Loc × LV) :=
  [("script", .local, .lst (script.map .int)), ("rows", .local, .lst (R.map rowV)), ("k", .local, k), ("name", .own, nm), ("j", .local, j), ("items", .local, it), ("tokens", .local, tk), ("matched", .local, mt),
   ("_law_rows", .glob, .raw (.ref 110)), ("range", .glob, .raw (.type "range")), ("len", .glob, .raw (.builtin "len")), ("_law_tokens", .glob, .raw (.ref 88)), ("translate", .glob, .raw (.ref 43)), ("_law_wants", .glob, .raw (.ref 115)), ("_law_takes", .glob, .raw (.ref 98))]
noncomputable def lwLoop (p : Params) : List Stmt := loopOf ((bodyAt p 120).drop 1)
theorem cut_front {α : Type} (x : List α) (j : Nat) : cut x none (some (j : Int)) = x.take j := by
  unfold cut
  simp only [Option.elim, clipAt_nat, List.drop_zero, Nat.sub_zero]
  by_cases h : j ≤ x.length
  · rw [Nat.min_eq_left h]
  · rw [Nat.min_eq_right (by lia), List.take_of_length_le (Nat.le_refl _), List.take_of_length_le (by lia)]
theorem flat_one' {α : Type} (f : α → LV) (l : List α) : (l.map fun x => [f x]).flatten = l.map f := flat_one f l
theorem cut_pre (W : List Nat) : cut ([40, 63, 115, 58] ++ W ++ [41, 92, 90]) none (some 4) = [40, 63, 115, 58] := by
  rw [show (some 4 : Option Int) = some ((4 : Nat) : Int) from rfl, cut_front, List.append_assoc]
  rfl
theorem cut_suf (W : List Nat) : cut ([40, 63, 115, 58] ++ W ++ [41, 92, 90]) (some (-3)) none = [41, 92, 90] := by
  unfold cut
  simp only [Option.elim]
  have hl : ([40, 63, 115, 58] ++ W ++ [41, 92, 90]).length = W.length + 7 := by simp
  rw [hl, show clipAt (W.length + 7) (-3) = W.length + 4 from by unfold clipAt; split <;> lia]
  rw [show W.length + 4 = ([40, 63, 115, 58] ++ W).length from by simp, List.drop_left]
  rw [List.take_of_length_le (by simp)]
theorem lw_turn (hg : HG g) (H : HT g) (PI : PatIn g 36) {script : List Int} {R : List (Item × List Nat)} {j : Nat} {is : List Item} (his : (R.take j).map (·.1) = is) (hR : R.length ≤ 1000) (hj : j ≤ 1000) {name : List Nat} (P : Pl is name) {k it tk mt : LV} {cs : List (Addr × Ct)} {Φ : LFl → LS → Prop}
    (h : ∀ it tk mt, Φ .next ⟨lwE script R k (.str name) (.int j) it tk mt, cs⟩) :
    ExW g F (n + 5) ⟨lwE script R k (.str name) (.int j) it tk mt, cs⟩ (loopOf ((lwLoop g.w.params).drop 1)) Φ := by
  conv => arg 5; whnf
  have c88 := (toks_fn hg).cal
  have c43 := (tran_fn hg).cal
  have c115 := (wants_fn hg).cal
  have c98 := (takes_fn hg).cal
  have c76 := (ell_fn hg).cal
  have hRl : (R.map rowV).length ≤ 1000000 := by rw [List.length_map]; (exact Nat.le_trans (by assumption) (by decide))
  unfold lwE
  refine ex_compX (by (exact .tail (.tail (.tail (.tail (.tail .head)))))) rfl hg.gt (by decide) rfl (fun _ => rfl) rfl ?_
  ((with_reducible apply ev_sub; apply ev_nameH); exact .tail .head; (with_reducible exact nu_lst; apply ev_slice; apply ow_none; apply ow_some; apply ev_nameH); exact .tail (.tail (.tail (.tail .head))); (with_reducible exact nu_int))
  refine si_lst_cut hRl rfl rfl ?_
  rw [cut_front, ← List.map_take]
  have hf1 : ((R.take j).map fun r => [itemV r.1]).flatten = is.map itemV := by rw [flat_one' (fun r : Item × List Nat => itemV r.1), ← his, List.map_map]; rfl
  have hil := P.il
  refine ⟨_, (R.take j).map fun r => [itemV r.1], ([(".0", .local, .undef), ("item", .local, .undef), ("run", .local, .undef)] : List (Str × Loc × LV)), rfl, itw_lst, by rw [hf1, List.length_map]; (exact Nat.le_trans (by assumption) (by decide)), fun F' => all2_map fun r _ c' => ?_, ?_⟩
  · ((with_reducible apply as_tuple); exact rfl; exact rfl; (with_reducible apply assW_cons; apply as_nameX); exact .tail .head; exact .inl rfl; (with_reducible apply assW_cons; apply as_nameX); exact .tail (.tail .head); exact .inl rfl; (with_reducible apply assW_nil))
    refine ⟨rfl, cl_last fun c => ?_⟩
    ((with_reducible apply ev_nameH); exact .tail .head; (with_reducible exact nu_tup))
    exact ⟨rfl, rfl, by (exact .undefL (.undefL (.undefL .nil)))⟩
  rw [hf1]
  ((with_reducible apply asgX); exact .tail (.tail (.tail (.tail (.tail .head)))); exact .inl rfl)
  refine ex_assign rfl ?_
  ((with_reducible apply ev_callN); exact rfl; exact .tail (.tail (.tail (.tail (.tail (.tail (.tail (.tail (.tail (.tail (.tail .head)))))))))); assumption; (with_reducible apply es_cons); exact rfl; (with_reducible apply ev_callN); exact rfl; exact .tail (.tail (.tail (.tail (.tail (.tail (.tail (.tail (.tail (.tail (.tail (.tail .head))))))))))); assumption; (with_reducible apply es_cons); exact rfl; (with_reducible apply ev_joinC); exact rfl; exact rfl; (with_reducible exact ls28))
  have hf2 : (is.map fun i => [LV.str i.written]).flatten = (is.map (·.written)).map .str := by rw [flat_one' (fun i : Item => LV.str i.written), List.map_map]; rfl
  refine ev_compX hg.gt (by decide) rfl (fun _ => rfl) rfl ?_
  ((with_reducible apply ev_nameH); exact .tail (.tail (.tail (.tail (.tail .head)))); (with_reducible exact nu_lst))
  refine ⟨_, is.map fun i => [LV.str i.written], ([(".0", .local, .undef), ("written", .local, .undef), ("barred", .local, .undef), ("spans", .local, .undef)] : List (Str × Loc × LV)), rfl, itw_lst, by rw [hf2, List.length_map, List.length_map]; (exact Nat.le_trans (by assumption) (by decide)), fun F' => all2_map fun r _ c' => ?_, ?_⟩
  · ((with_reducible apply as_tuple); exact rfl; exact rfl; (with_reducible apply assW_cons; apply as_nameX); exact .tail .head; exact .inl rfl; (with_reducible apply assW_cons; apply as_nameX); exact .tail (.tail .head); exact .inl rfl; (with_reducible apply assW_cons; apply as_nameX); exact .tail (.tail (.tail .head)); exact .inl rfl; (with_reducible apply assW_nil))
    refine ⟨rfl, cl_last fun c => ?_⟩
    ((with_reducible apply ev_nameH); exact .tail .head; (with_reducible exact nu_str))
    exact ⟨rfl, rfl, by (exact .undefL (.undefL (.undefL (.undefL .nil))))⟩
  rw [hf2]
  have hpl := P.pl
  refine ⟨is.map (·.written), rfl, by rw [List.length_map]; simp only [List.length_nil]; (exact Nat.le_trans (by assumption) (by decide)), ?_⟩
  rw [joinL_nil]
  ((with_reducible apply es_nil; apply PrW.ca))
  refine pr_tran hg H PI P.ok P.il rfl P.pl P.tl ?_
  ((with_reducible apply es_nil; apply PrW.ca))
  obtain ⟨f, ts, ht1, ht2, ht3⟩ := P.law
  have htl := P.tl
  refine pr_toks (n := n + 3) (text := textI is) hg (by (exact Nat.le_trans (by assumption) (by decide))) (by unfold textI; rw [List.length_append, List.length_append]; simp only [List.length_cons]; lia) (cut_pre _) (cut_suf _) ht1 ?_
  ((with_reducible apply asgX); exact .tail (.tail (.tail (.tail (.tail (.tail .head))))); exact .inl rfl)
  refine ex_compX (by (exact .tail (.tail (.tail (.tail (.tail (.tail (.tail .head)))))))) rfl hg.gt (by decide) rfl (fun _ => rfl) rfl ?_
  ((with_reducible apply ev_callN); exact rfl; exact .tail (.tail (.tail (.tail (.tail (.tail (.tail (.tail (.tail (.tail (.tail (.tail (.tail .head)))))))))))); assumption; (with_reducible apply es_cons); exact rfl; (with_reducible apply ev_nameH); exact .tail (.tail (.tail (.tail (.tail .head)))); (with_reducible exact nu_lst; apply es_cons); exact rfl; (with_reducible apply ev_nameH); exact .tail (.tail (.tail .head)); (with_reducible exact nu_str; apply es_nil; apply PrW.ca))
  refine pr_wants (n := n + 4) hg (by (exact Nat.le_trans (by assumption) (by decide))) P.sp P.wb ?_
  have hf3 : ((wantsS name is).map fun w => if ellS w name then [LV.str w] else []).flatten = ((wantsS name is).filter fun w => ellS w name).map .str := flat_if (fun w => ellS w name) LV.str _
  have hwl : (wantsS name is).length ≤ 1000000 := P.wb is [] (by simp)
  have hfl : ((wantsS name is).filter fun w => ellS w name).length ≤ 1000000 := Nat.le_trans (List.length_filter_le _ _) hwl
  refine ⟨_, (wantsS name is).map fun w => if ellS w name then [LV.str w] else [], ([(".0", .local, .undef), ("want", .local, .undef), ("_ellipsis_match", .glob, .raw (.ref 76)), ("name", .fixed, .str name)] : List (Str × Loc × LV)), rfl, itw_lst, by rw [hf3, List.length_map]; exact hfl, fun F' => all2_map fun w hw c' => ?_, ?_⟩
  · obtain ⟨w1, w2⟩ := P.wl w hw
    ((with_reducible apply as_nameX); exact .tail .head; exact .inl rfl)
    refine ⟨rfl, cl_if fun c => ?_⟩
    ((with_reducible apply te_plain); exact rfl; (with_reducible apply ev_callN); exact rfl; exact .tail (.tail .head); assumption; (with_reducible apply es_cons); exact rfl; (with_reducible apply ev_nameH); exact .tail .head; (with_reducible exact nu_str; apply es_cons); exact rfl; (with_reducible apply ev_nameH); exact .tail (.tail (.tail .head)); (with_reducible exact nu_str; apply es_nil; apply PrW.ca))
    refine pr_ell (n := n + 4) hg w1 P.nl w2 ?_
    ((with_reducible apply pb_bool))
    refine ⟨fun hb => ?_, fun hb => ?_⟩
    · rw [hb]
      ((with_reducible apply ev_nameH); exact .tail .head; (with_reducible exact nu_str))
      exact ⟨rfl, rfl, by (exact .undefL (.undefL (.same (.same .nil))))⟩
    · rw [hb]
      exact ⟨rfl, rfl, by (exact .undefL (.undefL (.same (.same .nil))))⟩
  rw [hf3]
  ((with_reducible apply asgX); exact .tail (.tail (.tail (.tail (.tail (.tail (.tail .head)))))); exact .inl rfl)
  refine ex_if ?_
  ((with_reducible apply te_compare); exact rfl; (with_reducible apply ev_callN); exact rfl; exact .tail (.tail (.tail (.tail (.tail (.tail (.tail (.tail (.tail (.tail (.tail (.tail (.tail (.tail .head))))))))))))); assumption; (with_reducible apply es_cons); exact rfl; (with_reducible apply ev_nameH); exact .tail (.tail (.tail (.tail (.tail (.tail .head))))); (with_reducible exact nu_lst; apply es_cons); exact rfl; (with_reducible apply ev_nameH); exact .tail (.tail (.tail .head)); (with_reducible exact nu_str; apply es_nil; apply PrW.ca))
  refine pr_takes (n := n + 3) hg (by have := P.nl; (exact Nat.le_trans (by assumption) (by decide))) ht2 ?_
  ((with_reducible apply ev_compare); exact rfl; (with_reducible apply ev_callN); exact rfl; exact .tail (.tail (.tail (.tail (.tail (.tail (.tail (.tail (.tail (.tail .head))))))))); exact cal_bi; (with_reducible apply es_cons); exact rfl; (with_reducible apply ev_nameH); exact .tail (.tail (.tail (.tail (.tail (.tail (.tail .head)))))); (with_reducible exact nu_lst; apply es_nil; apply PrW.ca; apply pr_len_lst); simp; assumption; (with_reducible apply ev_nat; exact nn0; apply pr_gtN; apply pr_bne; apply bool_ex))
  rw [List.length_map, ht3]
  apply way_f; · simp
  refine ex_nil (then_next (ex_nil ?_))
  exact h _ _ _
noncomputable def row0 : Item × List Nat := (⟨[97], false, [(97, 97)]⟩, [97])
inductive LwI (script : List Int) (R : List (Item × List Nat)) (rest : List LV) (σ : LS) : Prop
  | mk (ks : List Nat) (kv nm j it tk mt : LV) (h0 : σ = ⟨lwE script R kv nm j it tk mt, []⟩) (h1 : rest = ks.map (fun (k : Nat) => LV.int (k : Int))) (h2 : ∀ k ∈ ks, k ≤ R.length)
inductive LwJ (script : List Int) (R : List (Item × List Nat)) (k : Nat) (it₁ : Addr) (o₁ : Obj) (rest : List LV) (σ : LS) : Prop
  | mk (js : List Nat) (j it tk mt : LV) (h0 : σ = ⟨lwE script R (.int k) (.str ((R.take k).map (·.2)).flatten) j it tk mt, [(it₁, .raw o₁)]⟩) (h1 : rest = js.map (fun (k : Nat) => LV.int (k : Int))) (h2 : ∀ j ∈ js, j ≤ R.length)
theorem law_rest (hg : HG g) (H : HT g) (PI : PatIn g 36) {R : List (Item × List Nat)} (hP : ∀ k j, k ≤ R.length → j ≤ R.length → Pl ((R.take j).map (·.1)) ((R.take k).map (·.2)).flatten) (hRl : R.length ≤ 9) {script : List Int} :
    ExW g F (n + 5) ⟨lwE script R .undef .undef .undef .undef .undef .undef, []⟩ ((bodyAt g.w.params 120).drop 1) fun lf _ => lf = .ret (.bool true) := by
  conv => arg 5; whnf
  have hRm : (R.map rowV).length ≤ 1000000 := by rw [List.length_map]; (exact Nat.le_trans (by assumption) (by decide))
  unfold lwE
  refine ex_for (fun _ => rfl) ?_
  ((with_reducible apply ev_callN); exact rfl; exact .tail (.tail (.tail (.tail (.tail (.tail (.tail (.tail (.tail .head)))))))); exact cal_ty; (with_reducible apply es_cons); exact rfl; (with_reducible apply ev_binop; apply ev_callN); exact rfl; exact .tail (.tail (.tail (.tail (.tail (.tail (.tail (.tail (.tail (.tail .head))))))))); exact cal_bi; (with_reducible apply es_cons); exact rfl; (with_reducible apply ev_nameH); exact .tail .head; (with_reducible exact nu_lst; apply es_nil; apply PrW.ca; apply pr_len_lst); assumption; (with_reducible apply ev_nat; exact nn1; apply pr_addN; apply es_nil; apply PrW.ca; apply pr_range1); intro _ _ _)
  rw [show (R.map rowV).length = R.length from List.length_map _]
  refine ⟨_, itw_range rfl (size_nat 0 (R.length + 1)) (small_nat (a := 0) (b := R.length + 1) (Nat.zero_le _) (by lia)), (LwI script R),
    ⟨List.range' 0 (R.length + 1 - 0), .undef, .undef, .undef, .undef, .undef, .undef, rfl, rangeL_nat _ _, fun k hk => by have := List.mem_range'_1.mp hk; lia⟩, ?_, ?_⟩
  · rintro x rest' σ it₁ o₁ ⟨ks, kv, nm, j, it, tk, mt, rfl, hr, hk⟩
    cases ks with
    | nil => cases hr
    | cons k ks =>
    rw [List.map_cons] at hr
    injection hr with h1 h2
    subst h1 h2
    have hkl := hk k (.head _)
    unfold lwE
    ((with_reducible apply as_nameX); exact .tail (.tail .head); exact .inl rfl)
    refine ex_assign rfl ?_
    ((with_reducible apply ev_joinC); exact rfl; exact rfl; (with_reducible exact ls28))
    refine ev_compX hg.gt (by decide) rfl (fun _ => rfl) rfl ?_
    ((with_reducible apply ev_sub; apply ev_nameH); exact .tail .head; (with_reducible exact nu_lst; apply ev_slice; apply ow_none; apply ow_some; apply ev_nameH); exact .tail (.tail .head); (with_reducible exact nu_int))
    refine si_lst_cut hRm rfl rfl ?_
    rw [cut_front, ← List.map_take]
    have hf1 : ((R.take k).map fun r => [LV.str r.2]).flatten = ((R.take k).map (·.2)).map .str := by rw [flat_one' (fun r : Item × List Nat => LV.str r.2), List.map_map]; rfl
    have hnl := (hP k k hkl hkl).nl
    have hcl : ((R.take k).map (·.2)).length ≤ 9 := by rw [List.length_map, List.length_take]; lia
    refine ⟨_, (R.take k).map fun r => [LV.str r.2], ([(".0", .local, .undef), ("item", .local, .undef), ("run", .local, .undef)] : List (Str × Loc × LV)), rfl, itw_lst, by rw [hf1, List.length_map]; (exact Nat.le_trans (by assumption) (by decide)), fun F' => all2_map fun r _ c' => ?_, ?_⟩
    · ((with_reducible apply as_tuple); exact rfl; exact rfl; (with_reducible apply assW_cons; apply as_nameX); exact .tail .head; exact .inl rfl; (with_reducible apply assW_cons; apply as_nameX); exact .tail (.tail .head); exact .inl rfl; (with_reducible apply assW_nil))
      refine ⟨rfl, cl_last fun c => ?_⟩
      ((with_reducible apply ev_nameH); exact .tail (.tail .head); (with_reducible exact nu_str))
      exact ⟨rfl, rfl, by (exact .undefL (.undefL (.undefL .nil)))⟩
    rw [hf1]
    refine ⟨(R.take k).map (·.2), rfl, by simp only [List.length_nil, Nat.mul_zero]; (exact Nat.le_trans (by assumption) (by decide)), ?_⟩
    rw [joinL_nil]
    ((with_reducible apply asgX); exact .tail (.tail (.tail .head)); exact .inr rfl)
    refine ex_for (fun _ => rfl) ?_
    ((with_reducible apply ev_list; apply es_cons); exact rfl; (with_reducible apply ev_nameH); exact .tail (.tail .head); (with_reducible exact nu_int; apply es_cons); exact rfl; (with_reducible apply ev_callN); exact rfl; exact .tail (.tail (.tail (.tail (.tail (.tail (.tail (.tail (.tail (.tail .head))))))))); exact cal_bi; (with_reducible apply es_cons); exact rfl; (with_reducible apply ev_nameH); exact .tail .head; (with_reducible exact nu_lst; apply es_nil; apply PrW.ca; apply pr_len_lst); assumption; (with_reducible apply es_nil; apply lenOk); exact rfl)
    rw [show (R.map rowV).length = R.length from List.length_map _]
    refine ⟨_, itw_lst, (LwJ script R k it₁ o₁),
      ⟨[k, R.length], j, it, tk, mt, rfl, rfl, fun x hx => by simp at hx; lia⟩, ?_, ?_⟩
    · rintro x rest' σ it₂ o₂ ⟨js, j, it, tk, mt, rfl, hr, hj⟩
      cases js with
      | nil => cases hr
      | cons y js =>
      rw [List.map_cons] at hr
      injection hr with h1 h2
      subst h1 h2
      have hyl := hj y (.head _)
      unfold lwE
      ((with_reducible apply as_nameX); exact .tail (.tail (.tail (.tail .head))); exact .inl rfl)
      refine lw_turn hg H PI rfl (by (exact Nat.le_trans (by assumption) (by decide))) (by (exact Nat.le_trans (by assumption) (Nat.le_trans (by assumption) (by decide)))) (hP k y hkl hyl) fun it tk mt => ?_
      exact ⟨_, .head, js, _, it, tk, mt, rfl, rfl, fun z hz => hj z (.tail _ hz)⟩
    · rintro σ ⟨js, j, it, tk, mt, rfl, hr, hj⟩
      refine ex_nil ?_
      exact ⟨_, .head, ks, _, _, j, it, tk, mt, rfl, rfl, fun z hz => hk z (.tail _ hz)⟩
  · rintro σ ⟨ks, kv, nm, j, it, tk, mt, rfl, hr, hk⟩
    ((with_reducible apply ex_return; apply ev_bool))
    rfl
end

section
noncomputable def LoopS (got : List Nat) : List (List Nat) → Nat → Nat → Prop
  | [], s, e => s ≤ e
  | w :: ws, s, e => ∃ q, s ≤ q ∧ Stands got w e q ∧ LoopS got ws (q + w.length) e
theorem loopS_le {got : List Nat} : ∀ {ws : List (List Nat)} {s e : Nat}, LoopS got ws s e → s ≤ e
  | [], _, _, h => h
  | w :: ws, s, e, ⟨q, h1, h2, h3⟩ => by have := loopS_le h3; lia
theorem loopS_mono {got : List Nat} : ∀ {ws : List (List Nat)} {s s' e : Nat}, s' ≤ s → LoopS got ws s e → LoopS got ws s' e
  | [], _, _, _, h, k => Nat.le_trans h k
  | w :: ws, s, s', e, h, ⟨q, h1, h2, h3⟩ => ⟨q, Nat.le_trans h h1, h2, h3⟩
theorem elLoop_iff {got : List Nat} : ∀ {ws : List (List Nat)} {s e : Nat}, e ≤ got.length → s ≤ e → (elLoop got ws s e = true ↔ LoopS got ws s e)
  | [], s, e, _, h => ⟨fun _ => h, fun _ => rfl⟩
  | w :: ws, s, e, he, h => by
    rw [elLoop_cons]
    rcases findS_spec got w s e with ⟨h1, h2⟩ | ⟨k, h1, h2, h3, h4⟩
    · rw [h1, if_pos (by decide)]
      refine ⟨fun z => (by cases z), ?_⟩
      rintro ⟨q, k1, k2, _⟩
      rw [Nat.min_eq_left he] at h2
      exact absurd k2 (h2 q k1)
    · rw [Nat.min_eq_left he] at h3 h4
      rw [h1, if_neg (by lia), Int.toNat_natCast, elLoop_iff he h3.1]
      constructor
      · intro z; exact ⟨k, h2, h3, z⟩
      · rintro ⟨q, k1, k2, k3⟩
        have hk : k ≤ q := by
          by_cases c : k ≤ q
          · exact c
          · exact absurd k2 (h4 q k1 (by (exact Nat.not_le.mp (by assumption))))
        exact loopS_mono (by lia) k3
theorem loopS_snoc {got : List Nat} : ∀ {ms : List (List Nat)} {s e : Nat}, LoopS got (ms ++ [[]]) s e ↔ LoopS got ms s e
  | [], s, e => by
    constructor
    · rintro ⟨q, h1, h2, h3⟩; exact Nat.le_trans h1 h3
    · intro h; exact ⟨s, Nat.le_refl _, ⟨h, rfl⟩, h⟩
  | w :: ms, s, e => by
    constructor
    · rintro ⟨q, h1, h2, h3⟩; exact ⟨q, h1, h2, loopS_snoc.mp h3⟩
    · rintro ⟨q, h1, h2, h3⟩; exact ⟨q, h1, h2, loopS_snoc.mpr h3⟩
theorem elTail_iff {got : List Nat} {ms : List (List Nat)} {l : List Nat} {sp : Nat} (hsp : sp ≤ got.length) : elTail got (ms ++ [l]) sp = true ↔ LoopS got ms sp (got.length - l.length) ∧ l <:+ got := by
  unfold elTail
  have hg : ((ms ++ [l]).getLast?).getD [] = l := by simp
  have he : (ms ++ [l]).eraseIdx ((ms ++ [l]).length - 1) = ms := by
    rw [show (ms ++ [l]).length - 1 = ms.length from by simp, List.eraseIdx_append_of_length_le (Nat.le_refl _)]
    simp
  rw [hg]
  dsimp only
  by_cases h0 : l = []
  · rw [if_pos h0, if_neg (by (exact Nat.not_lt.mpr (by assumption))), elLoop_iff (Nat.le_refl _) hsp]
    subst h0
    rw [loopS_snoc]
    exact ⟨fun z => ⟨z, List.nil_suffix⟩, fun z => z.1⟩
  · rw [if_neg h0]
    by_cases hs : l <:+ got
    · have hl := hs.length_le
      rw [if_pos (List.isSuffixOf_iff_suffix.mpr hs), he]
      by_cases hlt : got.length - l.length < sp
      · rw [if_pos hlt]
        refine ⟨fun z => (by cases z), fun z => ?_⟩
        have := loopS_le z.1
        lia
      · rw [if_neg hlt, elLoop_iff (Nat.sub_le _ _) (by (exact Nat.not_lt.mp (by assumption)))]
        exact ⟨fun z => ⟨z, hs⟩, fun z => z.1⟩
    · rw [if_neg (fun z => hs (List.isSuffixOf_iff_suffix.mp z))]
      exact ⟨fun z => (by cases z), fun z => absurd z.2 hs⟩
theorem elM_iff {got : List Nat} {w : List Nat} {ms : List (List Nat)} {l : List Nat} : elM got (w :: (ms ++ [l])) = true ↔ w <+: got ∧ LoopS got ms w.length (got.length - l.length) ∧ l <:+ got := by
  unfold elM
  have hg : ((w :: (ms ++ [l]))[0]?).getD [] = w := rfl
  rw [hg]
  dsimp only
  by_cases h0 : w = []
  · rw [if_pos h0, ← List.cons_append, elTail_iff (Nat.zero_le _)]
    subst h0
    constructor
    · rintro ⟨⟨q, h1, h2, h3⟩, h4⟩
      exact ⟨List.nil_prefix, loopS_mono (Nat.zero_le _) h3, h4⟩
    · rintro ⟨_, h1, h2⟩
      exact ⟨⟨0, Nat.le_refl _, ⟨by have := loopS_le h1; simp, rfl⟩, h1⟩, h2⟩
  · rw [if_neg h0]
    by_cases hp : w <+: got
    · rw [if_pos (List.isPrefixOf_iff_prefix.mpr hp)]
      show elTail got (ms ++ [l]) w.length = true ↔ _
      rw [elTail_iff hp.length_le]
      exact ⟨fun z => ⟨hp, z⟩, fun z => z.2⟩
    · rw [if_neg (fun z => hp (List.isPrefixOf_iff_prefix.mp z))]
      exact ⟨fun z => (by cases z), fun z => absurd z.1 hp⟩
theorem segT_lit {got : List Nat} {l : List Nat} : ∀ {ms : List (List Nat)} {s : Nat}, s ≤ got.length → (SegT (lits (ms ++ [l])) (got.drop s) ↔ LoopS got ms s (got.length - l.length) ∧ l <:+ got)
  | [], s, hs => by
    constructor
    · rintro ⟨a, x, e, k⟩
      have := fitX_lit.mp k
      subst this
      have hl := congrArg List.length e
      rw [List.length_drop, List.length_append] at hl
      refine ⟨by show s ≤ _; lia, ⟨got.take s ++ a, ?_⟩⟩
      rw [List.append_assoc, ← e, List.take_append_drop]
    · rintro ⟨h1, t, ht⟩
      have h1 : s ≤ got.length - l.length := h1
      refine ⟨t.drop s, l, ?_, fitX_lit.mpr rfl⟩
      rw [← ht, List.drop_append_of_le_length (by rw [← ht] at h1; simp at h1; assumption)]
  | w :: ms, s, hs => by
    have hne : ∃ t r, lits (ms ++ [l]) = t :: r := by
      cases ms with
      | nil => exact ⟨_, _, rfl⟩
      | cons a b => exact ⟨_, _, rfl⟩
    obtain ⟨t, r, hne⟩ := hne
    have e0 : lits ((w :: ms) ++ [l]) = w.map litP :: t :: r := by rw [← hne]; rfl
    rw [e0]
    constructor
    · rintro ⟨a, x, b, e, k, m⟩
      have := fitX_lit.mp k
      subst this
      have hl := congrArg List.length e
      rw [List.length_drop, List.length_append, List.length_append] at hl
      have hb : got.drop (s + a.length + x.length) = b := by
        rw [← List.drop_drop, ← List.drop_drop, e, List.drop_left' rfl, List.drop_left' rfl]
      rw [← hne, ← hb] at m
      obtain ⟨m1, m2⟩ := (segT_lit (by lia)).mp m
      refine ⟨⟨s + a.length, by lia, ⟨loopS_le m1, ?_⟩, m1⟩, m2⟩
      rw [← List.drop_drop, e, List.drop_left' rfl, List.take_left' rfl]
    · rintro ⟨⟨q, h1, ⟨h2, h3⟩, h4⟩, h5⟩
      have m := (segT_lit (l := l) (by lia)).mpr ⟨h4, h5⟩
      refine ⟨(got.drop s).take (q - s), w, got.drop (q + w.length), ?_, fitX_lit.mpr rfl, by rw [← hne]; exact m⟩
      have hq : got.drop q = w ++ got.drop (q + w.length) := by
        conv => lhs; rw [← List.take_append_drop w.length (got.drop q), h3, List.drop_drop]
      conv => lhs; rw [drop_split h1, hq]
theorem ell_iff {css : List (List Nat)} (hne : css ≠ []) (h46 : ∀ c ∈ css, 46 ∉ c) {name : List Nat} : ellS (dots css) name = true ↔ SegM (lits css) name := by
  unfold ellS
  match css, hne with
  | [c], _ =>
    have : isIn [46, 46, 46] (dots [c]) = false := isIn_plain (h46 c (.head _))
    rw [this, if_neg (by simp)]
    show (c == name) = true ↔ FitX (c.map litP) name
    rw [fitX_lit, beq_iff_eq]
    exact eq_comm
  | w :: d :: r, _ =>
    rw [isIn_dots (by simp) h46, if_pos rfl, splitS_dots (by simp) h46]
    obtain ⟨ms, l, hml⟩ : ∃ ms l, d :: r = ms ++ [l] := ⟨(d :: r).dropLast, (d :: r).getLast (by simp), (List.dropLast_concat_getLast (by simp)).symm⟩
    rw [hml, elM_iff]
    have hne : ∃ t r', lits (ms ++ [l]) = t :: r' := by rw [← hml]; exact ⟨_, _, rfl⟩
    obtain ⟨t, r', hne⟩ := hne
    have e0 : lits (w :: (ms ++ [l])) = w.map litP :: t :: r' := by rw [← hne]; rfl
    rw [e0]
    constructor
    · rintro ⟨⟨b, hb⟩, h2⟩
      refine ⟨w, b, hb.symm, fitX_lit.mpr rfl, ?_⟩
      rw [← hne]
      have hd : name.drop w.length = b := by rw [← hb]; exact List.drop_left' rfl
      rw [← hd]
      exact (segT_lit (by rw [← hb]; simp)).mpr h2
    · rintro ⟨x, b, e, k, m⟩
      have := fitX_lit.mp k
      subst this
      have hd : name.drop x.length = b := by rw [e]; exact List.drop_left' rfl
      rw [← hne, ← hd] at m
      exact ⟨⟨b, e.symm⟩, (segT_lit (by rw [e]; simp)).mp m⟩
end

section
theorem span1_mono {s rest : List Nat} {p : Nat × Nat} {m : Nat} (h : span1 s = some (p, m)) : span1 (s ++ rest) = some (p, m) ∧ m ≤ s.length := by
  match s, h with
  | [], h => cases h
  | [_], h => cases h
  | a :: b :: s, h =>
    unfold span1 at h ⊢
    simp only [List.cons_append, List.getElem?_cons_zero, List.getElem?_cons_succ] at h ⊢
    by_cases hb : b = 45
    · rw [if_pos hb] at h ⊢
      match s, h with
      | [], h => cases h
      | c :: s, h =>
        simp only [List.cons_append, List.getElem?_cons_zero] at h ⊢
        by_cases hc : c ≠ 93
        · rw [if_pos hc] at h ⊢
          by_cases h92 : c = 92
          · simp only [if_pos h92] at h ⊢
            match s, h with
            | [], h => cases h
            | d :: s, h =>
              simp only [List.cons_append, List.getElem?_cons_zero, List.getElem?_cons_succ] at h ⊢
              cases h
              exact ⟨rfl, by simp⟩
          · simp only [if_neg h92] at h ⊢
            simp only [List.getElem?_cons_zero, List.getElem?_cons_succ] at h ⊢
            cases h
            exact ⟨rfl, by simp⟩
        · rw [if_neg hc] at h ⊢
          cases h
          exact ⟨rfl, by simp⟩
    · rw [if_neg hb] at h ⊢
      cases h
      exact ⟨rfl, by simp⟩
theorem spanS_mono {s rest : List Nat} {p : Nat × Nat} {m : Nat} (h : spanS s = some (p, m)) : spanS (s ++ rest) = some (p, m) ∧ m ≤ s.length := by
  match s, h with
  | [], h => cases h
  | a :: s, h =>
    unfold spanS at h ⊢
    simp only [List.cons_append, List.getElem?_cons_zero, List.drop_succ_cons, List.drop_zero] at h ⊢
    by_cases ha : a = 92
    · rw [if_pos ha] at h ⊢
      cases e : span1 s with
      | none => rw [e] at h; cases h
      | some y =>
        obtain ⟨p', m'⟩ := y
        rw [e] at h
        cases h
        obtain ⟨h1, h2⟩ := span1_mono (rest := rest) e
        rw [h1]
        exact ⟨rfl, by simp; lia⟩
    · rw [if_neg ha] at h ⊢
      rw [← List.cons_append]
      exact span1_mono h
theorem spansS_mono {rest : List Nat} : ∀ {f f' : Nat} {s : List Nat} {acc r : List (Nat × Nat)} {j : Nat}, f ≤ f' → spansS f s acc = some (r, j) → spansS f' (s ++ rest) acc = some (r, j)
  | 0, _, _, _, _, _, _, h => by cases h
  | f + 1, 0, _, _, _, _, hf, h => by lia
  | f + 1, f' + 1, s, acc, r, j, hf, h => by
    unfold spansS at h ⊢
    by_cases ha : acc.isEmpty = true
    · simp only [ha, if_true] at h ⊢
      cases e : spanS s with
      | none => rw [e] at h; cases h
      | some y =>
        obtain ⟨p, m⟩ := y
        rw [e] at h
        dsimp only at h
        obtain ⟨h1, h2⟩ := spanS_mono (rest := rest) e
        rw [h1]
        dsimp only
        cases e2 : spansS f (s.drop m) (acc ++ [p]) with
        | none => rw [e2] at h; cases h
        | some z =>
          obtain ⟨r', j'⟩ := z
          rw [e2] at h
          rw [List.drop_append_of_le_length h2, spansS_mono (by lia) e2]
          exact h
    · simp only [ha] at h ⊢
      match s, h with
      | [], h => cases h
      | c :: s, h =>
        simp only [List.cons_append, List.getElem?_cons_zero, Bool.false_eq_true, if_false] at h ⊢
        by_cases hc : (c != 93) = true
        · rw [hc] at h ⊢
          dsimp only at h ⊢
          cases e : spanS (c :: s) with
          | none => rw [e] at h; cases h
          | some y =>
            obtain ⟨p, m⟩ := y
            rw [e] at h
            dsimp only at h
            obtain ⟨h1, h2⟩ := spanS_mono (rest := rest) e
            rw [← List.cons_append, h1]
            dsimp only
            cases e2 : spansS f ((c :: s).drop m) (acc ++ [p]) with
            | none => rw [e2] at h; cases h
            | some z =>
              obtain ⟨r', j'⟩ := z
              rw [e2] at h
              rw [List.drop_append_of_le_length h2, spansS_mono (by lia) e2]
              exact h
        · rw [Bool.eq_false_iff.mpr hc] at h ⊢
          exact h
theorem unitS_mono {s rest : List Nat} {u : LUnit} {m : Nat} (h : unitS (91 :: s) = some (u, m)) : unitS (91 :: s ++ rest) = some (u, m) := by
  match s, h with
  | [], h => cases h
  | b :: s, h =>
    unfold unitS at h ⊢
    simp only [List.cons_append, List.getElem?_cons_zero, List.getElem?_cons_succ] at h ⊢
    rw [if_neg (by decide)] at h ⊢
    rw [if_neg (by simp)] at h ⊢
    rw [if_neg (by simp)] at h ⊢
    try dsimp only at h ⊢
    have hm : (if b = 94 then 2 else 1) ≤ (91 :: b :: s).length := by split <;> simp
    cases e : spansS (91 :: b :: s).length ((91 :: b :: s).drop (if b = 94 then 2 else 1)) [] with
    | none => rw [e] at h; cases h
    | some y =>
      obtain ⟨sp, j⟩ := y
      rw [e] at h
      have := spansS_mono (rest := rest) (f' := (91 :: b :: (s ++ rest)).length) (by simp) e
      rw [← List.drop_append_of_le_length hm, List.cons_append, List.cons_append] at this
      rw [this]
      exact h
structure TU (x : List Nat × LUnit) : Prop where
  uni : ∀ rest, unitS (x.1 ++ rest) = some (x.2, x.1.length)
  head : ∃ h r, x.1 = h :: r ∧ h ≠ 41 ∧ h ≠ 42
  tok : ∀ rest : List Nat, rest.head? ≠ some 42 → tokS (x.1 ++ rest) = some (.one x.2, x.1.length)
  sp : x.2.2.length ≤ 1000
theorem tok_of {t rest : List Nat} {u : LUnit} (h1 : unitS (t ++ rest) = some (u, t.length)) (h6 : (t ++ rest).take 6 ≠ [40, 63, 62, 46, 42, 63]) (h2 : (t ++ rest).take 2 ≠ [46, 42]) : tokS (t ++ rest) = some (.one u, t.length) := by
  unfold tokS
  rw [if_neg h6, if_neg h2, h1]
noncomputable def uT (t : List Nat) : LUnit := match unitS t with
  | some (u, _) => u
  | none => (false, [])
noncomputable def txtOk (t : List Nat) (b : Bool) (spans : List (Nat × Nat)) : Bool := match unitS t with
  | some (u, m) => decide (m = t.length) && sg.all (fun c => unitFits u c == unitFits (b, spans) c) && decide (u.2.length ≤ 1000) && (t.head? == some 91 || t == [46] || t == [40, 63, 33, 41])
  | none => false
theorem sets_ok : ∀ b : Bool, ∀ p ∈ pcsA, ∀ q ∈ pcsB, txtOk ((setPart (bodyOf b p q)).getD []) b (setItem b p q).spans = true := by decide +kernel
theorem tu_set {t : List Nat} {b : Bool} {spans : List (Nat × Nat)} (h : txtOk t b spans = true) : TU (t, uT t) ∧ ∀ c ∈ sg, unitFits (uT t) c = unitFits (b, spans) c := by
  unfold txtOk at h
  unfold uT
  cases e : unitS t with
  | none => rw [e] at h; cases h
  | some y =>
    obtain ⟨u, m⟩ := y
    rw [e] at h
    simp only [Bool.and_eq_true, decide_eq_true_eq, Bool.or_eq_true, beq_iff_eq] at h
    obtain ⟨⟨⟨h1, h2⟩, h3⟩, h4⟩ := h
    subst h1
    refine ⟨?_, fun c hc => by have := List.all_eq_true.mp h2 c hc; simpa using this⟩
    rcases h4 with (h4 | h4) | h4
    · match t, h4, e with
      | d :: t, h4, e =>
        have hd : d = 91 := by simpa using h4
        subst hd
        exact ⟨fun rest => unitS_mono e, ⟨91, t, rfl, by decide, by decide⟩, fun rest _ => tok_of (unitS_mono e) (by simp) (by simp), h3⟩
    · subst h4
      have hu : u = (true, []) := by
        have : unitS [46] = some ((true, []), 1) := rfl
        rw [this] at e; cases e; rfl
      subst hu
      exact ⟨fun rest => rfl, ⟨46, [], rfl, by decide, by decide⟩, fun rest hr => tok_of rfl (by simp) (by cases rest with | nil => simp | cons d r => simp at hr ⊢; exact hr), h3⟩
    · subst h4
      have hu : u = (false, []) := by
        have : unitS [40, 63, 33, 41] = some ((false, []), 4) := rfl
        rw [this] at e; cases e; rfl
      subst hu
      exact ⟨fun rest => rfl, ⟨40, _, rfl, by decide, by decide⟩, fun rest hr => tok_of rfl (by simp) (by simp), h3⟩
theorem tu_any : TU ([46], uT [46]) := ⟨fun rest => rfl, ⟨46, [], rfl, by decide, by decide⟩, fun rest hr => tok_of rfl (by simp) (by cases rest with | nil => simp | cons d r => simp at hr ⊢; exact hr), by decide⟩
theorem tu_sign {c : Nat} (hc : c ∈ [97, 98, 94, 38]) : TU (escC c, uT (escC c)) ∧ ∀ d, unitFits (uT (escC c)) d = unitFits (false, [(c, c)]) d := by
  simp only [List.mem_cons, List.not_mem_nil, or_false] at hc
  rcases hc with rfl | rfl | rfl | rfl
  · exact ⟨⟨fun rest => rfl, ⟨_, _, rfl, by decide, by decide⟩, fun rest hr => tok_of rfl (by simp [escC]) (by simp [escC]), by decide⟩, fun d => rfl⟩
  · exact ⟨⟨fun rest => rfl, ⟨_, _, rfl, by decide, by decide⟩, fun rest hr => tok_of rfl (by simp [escC]) (by simp [escC]), by decide⟩, fun d => rfl⟩
  · exact ⟨⟨fun rest => rfl, ⟨_, _, rfl, by decide, by decide⟩, fun rest hr => tok_of rfl (by simp [escC]) (by simp [escC]), by decide⟩, fun d => rfl⟩
  · exact ⟨⟨fun rest => rfl, ⟨_, _, rfl, by decide, by decide⟩, fun rest hr => tok_of rfl (by simp [escC]) (by simp [escC]), by decide⟩, fun d => rfl⟩
theorem item_tu {i : Item} (h : ItemOk i) : (i.written = [42] ∧ itemT i = none) ∨ (i.written ≠ [42] ∧ ∃ t, itemT i = some t ∧ TU (t, uT t) ∧ ∀ c ∈ sg, unitFits (uT t) c = accI i c) := by
  obtain ⟨run, h⟩ := h
  cases h with
  | star => exact .inl ⟨rfl, rfl⟩
  | any => exact .inr ⟨by decide, _, rfl, tu_any, fun c _ => rfl⟩
  | @plain c hc =>
    obtain ⟨h1, h2⟩ := tu_sign hc
    have hc' := hc
    simp only [List.mem_cons, List.not_mem_nil, or_false] at hc'
    refine .inr ⟨?_, escC c, ?_, h1, fun d _ => h2 d⟩
    · rcases hc' with rfl | rfl | rfl | rfl <;> decide
    · rcases hc' with rfl | rfl | rfl | rfl <;> rfl
  | @set b p q _ hp hq _ =>
    obtain ⟨h1, h2⟩ := tu_set (sets_ok b p hp q hq)
    have ok : ItemOk (setItem b p q) := ⟨[97], .set hp hq (by decide)⟩
    have hw : (setItem b p q).written = 91 :: (bodyOf b p q ++ [93]) := rfl
    refine .inr ⟨by rw [hw]; simp, _, ?_, h1, fun c hc => h2 c hc⟩
    obtain ⟨txt, ht⟩ := Option.isSome_iff_exists.mp (bodies_ok b p hp q hq)
    unfold itemT
    rw [hw]
    cases hb : bodyOf b p q ++ [93] with
    | nil => simp at hb
    | cons x r =>
      show some ((setPart ((91 :: x :: r).drop 1).dropLast).getD []) = _
      rw [← hb]
      simp
end

section
noncomputable abbrev txs (T : List (List Nat × LUnit)) : List (List Nat) := T.map (·.1)
noncomputable abbrev uns (T : List (List Nat × LUnit)) : List LUnit := T.map (·.2)
theorem toksS_succ {f : Nat} {s : List Nat} {acc : List Tk} : toksS (f + 1) s acc = if 3 < s.length then match tokS s with
      | none => none
      | some (t, m) => toksS f (s.drop m) (acc ++ [t])
    else some acc := rfl
theorem drop2 (X : List Nat) : List.drop 2 ([46, 42] ++ X) = X := rfl
theorem drop6 (X : List Nat) : List.drop 6 ([40, 63, 62, 46, 42, 63] ++ X) = X := rfl
theorem txs_head {T : List (List Nat × LUnit)} (hT : ∀ x ∈ T, TU x) {X : List Nat} (hX : X.head? ≠ some 42) : ((txs T).flatten ++ X).head? ≠ some 42 := by
  cases T with
  | nil => exact hX
  | cons x T =>
    obtain ⟨h, r, e, _, h2⟩ := (hT x (.head _)).head
    simp only [txs, List.map_cons, List.flatten_cons, e, List.cons_append, List.head?_cons]
    simpa using h2
theorem toks_ones : ∀ (T : List (List Nat × LUnit)) (f : Nat) (X : List Nat) (acc : List Tk), (∀ x ∈ T, TU x) → X.head? ≠ some 42 → 3 ≤ X.length → toksS (f + T.length) ((txs T).flatten ++ X) acc = toksS f X (acc ++ (uns T).map .one)
  | [], f, X, acc, _, _, _ => by simp
  | x :: T, f, X, acc, hT, hX, hl => by
    have hx := hT x (.head _)
    obtain ⟨h, r, e, h1, h2⟩ := hx.head
    have hT' : ∀ y ∈ T, TU y := fun y hy => hT y (.tail _ hy)
    have ee : (txs (x :: T)).flatten ++ X = x.1 ++ ((txs T).flatten ++ X) := by simp [txs]
    rw [ee]
    show toksS ((f + T.length) + 1) _ _ = _
    rw [toksS_succ]
    have hlen : 3 < (x.1 ++ ((txs T).flatten ++ X)).length := by rw [e]; simp only [List.length_append, List.length_cons]; lia
    rw [if_pos hlen, hx.tok _ (txs_head hT' hX)]
    dsimp only
    rw [List.drop_left' rfl, toks_ones T f X _ hT' hX hl]
    simp
theorem units_all : ∀ (T : List (List Nat × LUnit)) (f : Nat) (X : List Nat) (acc : List LUnit), (∀ x ∈ T, TU x) → T.length < f → unitsS f ((txs T).flatten ++ 41 :: X) acc = some (acc ++ uns T, (txs T).flatten.length)
  | [], 0, _, _, _, h => by lia
  | [], f + 1, X, acc, _, _ => by simp [unitsS]
  | x :: T, 0, _, _, _, h => by lia
  | x :: T, f + 1, X, acc, hT, hf => by
    have hx := hT x (.head _)
    obtain ⟨h, r, e, h1, h2⟩ := hx.head
    have hT' : ∀ y ∈ T, TU y := fun y hy => hT y (.tail _ hy)
    have ee : (txs (x :: T)).flatten ++ 41 :: X = x.1 ++ ((txs T).flatten ++ 41 :: X) := by simp [txs]
    rw [ee]
    unfold unitsS
    have h0 : (x.1 ++ ((txs T).flatten ++ 41 :: X))[0]? = some h := by rw [e]; rfl
    rw [h0]
    dsimp only
    rw [if_neg h1, hx.uni]
    dsimp only
    rw [List.drop_left' rfl, units_all T f X _ hT' (by simp at hf; assumption)]
    simp [txs, uns]
noncomputable def gsTx (gs : List (List (List Nat × LUnit))) : List (List (List Nat)) := gs.map txs
noncomputable def gsUn (gs : List (List (List Nat × LUnit))) : List (List LUnit) := gs.map uns
theorem tail_head : ∀ gs : List (List (List Nat × LUnit)), (tailS (gsTx gs) ++ [41, 92, 90]).head? ≠ some 42
  | [] => by decide
  | [g] => by simp [gsTx, tailS]
  | g :: h :: r => by simp [gsTx, tailS]
theorem toks_tail : ∀ (gs : List (List (List Nat × LUnit))) (acc : List Tk), (∀ g ∈ gs, ∀ x ∈ g, TU x) → ∃ f, toksS f (tailS (gsTx gs) ++ [41, 92, 90]) acc = some (acc ++ tailTk (gsUn gs))
  | [], acc, _ => ⟨1, by simp [toksS, gsTx, gsUn, tailS, tailTk]⟩
  | [g], acc, hg => by
    refine ⟨(1 + g.length) + 1, ?_⟩
    have ee : tailS (gsTx [g]) ++ [41, 92, 90] = [46, 42] ++ ((txs g).flatten ++ [41, 92, 90]) := by simp [gsTx, tailS]
    rw [ee, toksS_succ]
    rw [if_pos (by simp)]
    have ht : tokS ([46, 42] ++ ((txs g).flatten ++ [41, 92, 90])) = some (.run, 2) := by
      unfold tokS
      rw [if_neg (by simp), if_pos (by simp)]
    rw [ht]
    dsimp only
    rw [drop2, toks_ones g 1 _ _ (hg g (.head _)) (by decide) (by decide)]
    unfold toksS
    rw [if_neg (by decide)]
    simp [gsUn, tailTk]
  | g :: h :: r, acc, hg => by
    obtain ⟨f, hf⟩ := toks_tail (h :: r) (acc ++ [.held (uns g)]) (fun g' hg' => hg g' (.tail _ hg'))
    refine ⟨f + 1, ?_⟩
    have ee : tailS (gsTx (g :: h :: r)) ++ [41, 92, 90] = [40, 63, 62, 46, 42, 63] ++ ((txs g).flatten ++ 41 :: (tailS (gsTx (h :: r)) ++ [41, 92, 90])) := by
      show ([40, 63, 62, 46, 42, 63] ++ (txs g).flatten ++ [41] ++ tailS (gsTx (h :: r))) ++ [41, 92, 90] = _
      simp
    rw [ee, toksS_succ]
    rw [if_pos (by simp)]
    have ht : tokS ([40, 63, 62, 46, 42, 63] ++ ((txs g).flatten ++ 41 :: (tailS (gsTx (h :: r)) ++ [41, 92, 90]))) = some (.held (uns g), 6 + (txs g).flatten.length + 1) := by
      unfold tokS
      rw [if_pos (by simp)]
      rw [drop6]
      rw [units_all g _ _ _ (hg g (.head _)) ?_]
      · rfl
      · have : g.length ≤ (txs g).flatten.length := by
          have : ∀ T : List (List Nat × LUnit), (∀ x ∈ T, TU x) → T.length ≤ (txs T).flatten.length := by
            intro T hT
            induction T with
            | nil => exact Nat.zero_le _
            | cons x T ih =>
              obtain ⟨a, b, e, _⟩ := (hT x (.head _)).head
              have := ih fun y hy => hT y (.tail _ hy)
              simp only [txs, List.map_cons, List.flatten_cons, List.length_append, List.length_cons, e] at this ⊢
              lia
          exact this g (hg g (.head _))
        simp only [List.length_append, List.length_cons]
        lia
    rw [ht]
    dsimp only
    have hd : List.drop (6 + (txs g).flatten.length + 1) ([40, 63, 62, 46, 42, 63] ++ ((txs g).flatten ++ 41 :: (tailS (gsTx (h :: r)) ++ [41, 92, 90]))) = tailS (gsTx (h :: r)) ++ [41, 92, 90] := by
      rw [show 6 + (txs g).flatten.length + 1 = 6 + ((txs g).flatten.length + 1) from by lia, ← List.drop_drop, drop6]
      rw [← List.drop_drop, List.drop_left' rfl]
      rfl
    rw [hd]
    · rw [hf]
      simp [gsUn, tailTk]
theorem grpG_mrg : ∀ (b : Bool) (ts : List (Option (List Nat))), grpG (mrg b ts) = grpM b ts
  | b, [] => by cases b <;> rfl
  | b, some t :: r => by
    rw [grpM_some]
    have : mrg b (some t :: r) = .txt t :: mrg false r := by cases b <;> rfl
    rw [this]
    show (t :: (grpG (mrg false r)).1, (grpG (mrg false r)).2) = _
    rw [grpG_mrg false r]
  | true, none :: r => grpG_mrg true r
  | false, none :: r => by
    show ([], (grpG (mrg true r)).1 :: (grpG (mrg true r)).2) = _
    rw [grpG_mrg true r]; rfl
theorem grpM_mem {α : Type} : ∀ {b : Bool} {l : List (Option α)} {a : α}, (a ∈ (grpM b l).1 ∨ ∃ g ∈ (grpM b l).2, a ∈ g) → some a ∈ l
  | b, [], a, h => by
    cases b <;> (rcases h with h | ⟨g, h, _⟩ <;> cases h)
  | b, some t :: r, a, h => by
    rw [grpM_some] at h
    rcases h with h | h
    · rcases List.mem_cons.mp h with rfl | h
      · exact .head _
      · exact .tail _ (grpM_mem (.inl h))
    · exact .tail _ (grpM_mem (.inr h))
  | true, none :: r, a, h => .tail _ (grpM_mem (b := true) h)
  | false, none :: r, a, h => by
    rcases h with h | ⟨g, h, hg⟩
    · cases h
    · rcases List.mem_cons.mp h with rfl | h
      · exact .tail _ (grpM_mem (b := true) (.inl hg))
      · exact .tail _ (grpM_mem (b := true) (.inr ⟨g, h, hg⟩))
noncomputable def pairI (i : Item) : Option (List Nat × LUnit) := (itemT i).map fun t => (t, uT t)
noncomputable abbrev grpP (is : List Item) : List (List Nat × LUnit) × List (List (List Nat × LUnit)) := grpM false (is.map pairI)
theorem grpI_pair (is : List Item) : grpI is = (txs (grpP is).1, gsTx (grpP is).2) := by
  have e : is.map itemT = (is.map pairI).map (Option.map (·.1)) := by
    rw [List.map_map]
    refine List.map_congr_left fun i _ => ?_
    show itemT i = ((itemT i).map fun t => (t, uT t)).map (·.1)
    cases itemT i <;> rfl
  show grpG (mrg false (is.map itemT)) = _
  rw [grpG_mrg, e, grpM_map]
  rfl
theorem pairs_tu {is : List Item} (hok : ∀ i ∈ is, ItemOk i) {x : List Nat × LUnit} (h : some x ∈ is.map pairI) : TU x := by
  obtain ⟨i, hi, e⟩ := List.mem_map.mp h
  rcases item_tu (hok i hi) with ⟨_, ht⟩ | ⟨_, t, ht, hu, _⟩
  · unfold pairI at e; rw [ht] at e; cases e
  · unfold pairI at e; rw [ht] at e; cases e; exact hu
noncomputable def tksI (is : List Item) : List Tk := (uns (grpP is).1).map .one ++ tailTk (gsUn (grpP is).2)
theorem toks_text {is : List Item} (hok : ∀ i ∈ is, ItemOk i) : ∃ f, toksS f ((textI is).drop 4) [] = some (tksI is) := by
  have h1 : ∀ x ∈ (grpP is).1, TU x := fun x hx => pairs_tu hok (grpM_mem (.inl hx))
  have h2 : ∀ g ∈ (grpP is).2, ∀ x ∈ g, TU x := fun g hg x hx => pairs_tu hok (grpM_mem (.inr ⟨g, hg, hx⟩))
  obtain ⟨f, hf⟩ := toks_tail (grpP is).2 ((uns (grpP is).1).map .one) h2
  refine ⟨f + (grpP is).1.length, ?_⟩
  have e : (textI is).drop 4 = (txs (grpP is).1).flatten ++ (tailS (gsTx (grpP is).2) ++ [41, 92, 90]) := by
    unfold textI
    rw [grpI_pair]
    show ((txs (grpP is).1).flatten ++ tailS (gsTx (grpP is).2)) ++ [41, 92, 90] = _
    rw [List.append_assoc]
  rw [e, toks_ones _ _ _ _ h1 (tail_head _) (by simp), List.nil_append, hf]
  rfl
theorem takes_items {is : List Item} (hok : ∀ i ∈ is, ItemOk i) {name : List Nat} (hn : ∀ c ∈ name, c ∈ sg) : takesS name (tksI is) = true ↔ SegM (accs (segO (is.map optI))) name := by
  unfold tksI
  rw [left_all]
  have e1 : pds (uns (grpP is).1 :: gsUn (grpP is).2) = (grpM false ((is.map pairI).map (Option.map fun x => pdU x.2))).1 :: (grpM false ((is.map pairI).map (Option.map fun x => pdU x.2))).2 := by
    rw [grpM_map]
    simp only [pds, uns, gsUn, List.map_cons, List.map_map]
    congr 1
    refine List.map_congr_left fun g _ => ?_
    simp [uns]
  rw [e1, (seg_merge _ _).1]
  have e2 : (is.map pairI).map (Option.map fun x => pdU x.2) = (is.map optI).map (Option.map fun i => pdU (uT ((itemT i).getD []))) := by
    rw [List.map_map, List.map_map]
    refine List.map_congr_left fun i hi => ?_
    show ((itemT i).map fun t => (t, uT t)).map (fun x => pdU x.2) = (optI i).map fun i => pdU (uT ((itemT i).getD []))
    rcases item_tu (hok i hi) with ⟨hw, ht⟩ | ⟨hw, t, ht, _, _⟩
    · unfold optI; rw [if_pos hw, ht]; rfl
    · unfold optI; rw [if_neg hw, ht]; simp [ht]
  rw [e2, segO_map]
  have key : ∀ g ∈ segO (is.map optI), ∀ i ∈ g, ∀ c, c ∈ sg → pdU (uT ((itemT i).getD [])) c = accI i c := by
    intro g hg i hi c hc
    obtain ⟨i', hi', e⟩ := List.mem_map.mp (segO_mem hg hi)
    unfold optI at e
    split at e
    · cases e
    · rename_i hw
      cases e
      rcases item_tu (hok i hi') with ⟨hw', _⟩ | ⟨_, t, ht, _, hu⟩
      · exact absurd hw' hw
      · rw [ht]; exact hu c hc
  exact ⟨segM_congr (S := fun c => c ∈ sg) key hn, segM_congr (S := fun c => c ∈ sg) (fun g hg i hi c hc => (key g hg i hi c hc).symm) hn⟩
theorem chX_sub {sn : List Nat} : ∀ {g : List Item} {c : List Nat}, ChX sn g c → ∀ d ∈ c, d ∈ sn
  | [], [], _, d, hd => by cases hd
  | i :: g, s :: x, h, d, hd => by
    rcases List.mem_cons.mp hd with rfl | hd
    · exact h.1
    · exact chX_sub h.2.2 d hd
theorem chS_sub {sn : List Nat} : ∀ {gs : List (List Item)} {cs : List (List Nat)}, ChS sn gs cs → ∀ c ∈ cs, ∀ d ∈ c, d ∈ sn
  | [], [], _, c, hc, _, _ => by cases hc
  | g :: gs, c :: cs, h, c', hc, d, hd => by
    rcases List.mem_cons.mp hc with rfl | hc
    · exact chX_sub h.1 d hd
    · exact chS_sub h.2 c' hc d hd
theorem no46 {name : List Nat} {gs : List (List Item)} {cs : List (List Nat)} (h : ChS (signsS name) gs cs) : ∀ c ∈ cs, 46 ∉ c := by
  intro c hc h46
  have := chS_sub h c hc 46 h46
  have := (List.mem_filter.mp this).1
  revert this
  decide
theorem wants_items {is : List Item} {name : List Nat} (hn : ∀ c ∈ name, c ∈ sg) : (∃ w ∈ wantsS name is, ellS w name = true) ↔ SegM (accs (segO (is.map optI))) name := by
  have hs : ∀ c ∈ name, c ∈ signsS name := fun c hc => List.mem_filter.mpr ⟨hn c hc, by simpa using hc⟩
  rw [← choiceM (sn := signsS name) hs]
  obtain ⟨s, t, es⟩ := segO_ne (is.map optI)
  constructor
  · rintro ⟨w, hw, he⟩
    obtain ⟨w0, hw0, css, hc, e⟩ := (wants_iff is [[]] w).mp hw
    cases List.mem_singleton.mp hw0
    rw [List.nil_append] at e
    subst e
    exact ⟨css, hc, (ell_iff (chS_ne hc (by rw [es]; simp)) (no46 hc)).mp he⟩
  · rintro ⟨css, hc, h⟩
    exact ⟨dots css, (wants_iff is [[]] _).mpr ⟨[], .head _, css, hc, rfl⟩, (ell_iff (chS_ne hc (by rw [es]; simp)) (no46 hc)).mpr h⟩
theorem law_plain {is : List Item} (hok : ∀ i ∈ is, ItemOk i) {name : List Nat} (hn : ∀ c ∈ name, c ∈ sg) : takesS name (tksI is) = decide (0 < ((wantsS name is).filter fun w => ellS w name).length) := by
  rw [Bool.eq_iff_iff, takes_items hok hn, ← wants_items hn, decide_eq_true_eq, List.length_pos_iff_exists_mem]
  constructor
  · rintro ⟨w, h1, h2⟩; exact ⟨w, List.mem_filter.mpr ⟨h1, h2⟩⟩
  · rintro ⟨w, h⟩; exact ⟨w, (List.mem_filter.mp h).1, (List.mem_filter.mp h).2⟩
end

section
theorem mem_times {c : Nat} : ∀ {k d : Nat}, d ∈ times [c] k → d = c
  | 0, d, h => by cases h
  | k + 1, d, h => by
    have e : times [c] (k + 1) = times [c] k ++ [c] ∨ times [c] (k + 1) = [c] ++ times [c] k := by first | exact .inl rfl | exact .inr rfl
    rcases e with e | e <;> rw [e] at h <;> rcases List.mem_append.mp h with h | h
    · exact mem_times h
    · exact List.mem_singleton.mp h
    · exact List.mem_singleton.mp h
    · exact mem_times h
theorem row_run {i : Item} {r : List Nat} (h : RowOk i r) : (∀ c ∈ r, c ∈ sg) ∧ r.length ≤ 3 := by
  cases h with
  | @star c k hc hk =>
    refine ⟨fun d hd => by rw [mem_times hd]; exact hc, ?_⟩
    have : ∀ k, k < 3 → ∀ c : Nat, (times [c] k).length ≤ 3 := by
      intro k hk c
      match k, hk with
      | 0, _ => exact Nat.zero_le _
      | 1, _ => exact Nat.le_of_ble_eq_true rfl
      | 2, _ => exact Nat.le_of_ble_eq_true rfl
    exact this k hk c
  | any hc => exact ⟨fun d hd => by cases List.mem_singleton.mp hd; exact hc, by simp⟩
  | plain hc =>
    refine ⟨fun d hd => ?_, by simp⟩
    cases List.mem_singleton.mp hd
    simp only [List.mem_cons, List.not_mem_nil, or_false] at hc
    rcases hc with rfl | rfl | rfl | rfl <;> decide
  | set hp hq hc => exact ⟨fun d hd => by cases List.mem_singleton.mp hd; exact hc, by simp⟩
theorem sets_len : ∀ b : Bool, ∀ p ∈ pcsA, ∀ q ∈ pcsB, (setItem b p q).written.length ≤ 20 ∧ (setItem b p q).spans.length ≤ 2 ∧ ((setPart (bodyOf b p q)).getD []).length ≤ 40 := by decide +kernel
theorem item_len {i : Item} (h : ItemOk i) : i.written.length ≤ 20 ∧ i.spans.length ≤ 2 ∧ ∀ t, itemT i = some t → t.length ≤ 40 := by
  obtain ⟨run, h⟩ := h
  cases h with
  | star => exact ⟨by decide, by decide, fun t e => by cases e⟩
  | any => exact ⟨by decide, by decide, fun t e => by cases e; decide⟩
  | plain hc =>
    simp only [List.mem_cons, List.not_mem_nil, or_false] at hc
    refine ⟨by simp, by simp, fun t e => ?_⟩
    rcases hc with rfl | rfl | rfl | rfl <;> (cases e; decide)
  | @set b p q _ hp hq _ =>
    obtain ⟨h1, h2, h3⟩ := sets_len b p hp q hq
    refine ⟨h1, h2, fun t e => ?_⟩
    have hw : (setItem b p q).written = 91 :: (bodyOf b p q ++ [93]) := rfl
    unfold itemT at e
    rw [hw] at e
    cases hb : bodyOf b p q ++ [93] with
    | nil => simp at hb
    | cons x r =>
      rw [hb] at e
      have e : some ((setPart ((91 :: x :: r).drop 1).dropLast).getD []) = some t := e
      rw [← hb] at e
      simp at e
      rw [← e]; exact h3
theorem flat_len {l : List (List Nat)} {k : Nat} (h : ∀ x ∈ l, x.length ≤ k) : l.flatten.length ≤ l.length * k := by
  induction l with
  | nil => simp
  | cons x l ih =>
    have := ih fun y hy => h y (.tail _ hy)
    have := h x (.head _)
    rw [List.flatten_cons, List.length_append, List.length_cons, Nat.succ_mul]
    lia
theorem tailS_len {k m : Nat} : ∀ {gs : List (List (List Nat))}, (∀ g ∈ gs, g.length ≤ m ∧ ∀ x ∈ g, x.length ≤ k) → (tailS gs).length ≤ gs.length * (m * k + 7)
  | [], _ => by simp [tailS]
  | [g], h => by
    obtain ⟨h1, h2⟩ := h g (.head _)
    have := flat_len h2
    have := Nat.mul_le_mul_right k h1
    rw [tailS_one]
    simp only [List.length_append, List.length_cons, List.length_nil]
    lia
  | g :: d :: r, h => by
    obtain ⟨h1, h2⟩ := h g (.head _)
    have := flat_len h2
    have := Nat.mul_le_mul_right k h1
    have ih := tailS_len (gs := d :: r) fun g' hg' => h g' (.tail _ hg')
    rw [tailS_cons]
    have e : (g :: d :: r).length * (m * k + 7) = (d :: r).length * (m * k + 7) + (m * k + 7) := by rw [List.length_cons, Nat.succ_mul]
    rw [e]
    simp only [List.length_append, List.length_cons, List.length_nil] at ih ⊢
    lia
theorem grpM_len {α : Type} : ∀ (b : Bool) (l : List (Option α)), (grpM b l).1.length ≤ l.length ∧ (grpM b l).2.length ≤ l.length ∧ ∀ g ∈ (grpM b l).2, g.length ≤ l.length
  | b, [] => by cases b <;> exact ⟨Nat.le_refl _, Nat.le_refl _, fun g h => (by cases h)⟩
  | b, some t :: r => by
    obtain ⟨h1, h2, h3⟩ := grpM_len false r
    rw [grpM_some]
    simp only [List.length_cons]
    exact ⟨by lia, by lia, fun g hg => Nat.le_succ_of_le (h3 g hg)⟩
  | true, none :: r => by
    obtain ⟨h1, h2, h3⟩ := grpM_len true r
    show (grpM true r).1.length ≤ _ ∧ (grpM true r).2.length ≤ _ ∧ ∀ g ∈ (grpM true r).2, _
    simp only [List.length_cons]
    exact ⟨by lia, by lia, fun g hg => Nat.le_succ_of_le (h3 g hg)⟩
  | false, none :: r => by
    obtain ⟨h1, h2, h3⟩ := grpM_len true r
    show 0 ≤ _ ∧ ((grpM true r).1 :: (grpM true r).2).length ≤ _ ∧ ∀ g ∈ (grpM true r).1 :: (grpM true r).2, _
    simp only [List.length_cons]
    refine ⟨Nat.zero_le _, by lia, fun g hg => ?_⟩
    rcases List.mem_cons.mp hg with rfl | hg
    · lia
    · exact Nat.le_succ_of_le (h3 g hg)
theorem text_len {is : List Item} (hok : ∀ i ∈ is, ItemOk i) (hl : is.length ≤ 9) : (textI is).length ≤ 90000 := by
  have hm : ∀ {x : List Nat × LUnit}, some x ∈ is.map pairI → x.1.length ≤ 40 := by
    intro x h
    obtain ⟨i, hi, e⟩ := List.mem_map.mp h
    unfold pairI at e
    cases ht : itemT i with
    | none => rw [ht] at e; cases e
    | some t => rw [ht] at e; cases e; exact (item_len (hok i hi)).2.2 t ht
  obtain ⟨g1, g2, g3⟩ := grpM_len false (is.map pairI)
  rw [List.length_map] at g1 g2 g3
  unfold textI
  rw [grpI_pair]
  have f1 := flat_len (l := txs (grpP is).1) (k := 40) (fun x hx => by
    obtain ⟨y, hy, rfl⟩ := List.mem_map.mp hx
    exact hm (grpM_mem (.inl hy)))
  have f2 := tailS_len (gs := gsTx (grpP is).2) (k := 40) (m := 9) (fun g hg => by
    obtain ⟨y, hy, rfl⟩ := List.mem_map.mp hg
    refine ⟨by rw [List.length_map]; exact Nat.le_trans (g3 y hy) hl, fun x hx => ?_⟩
    obtain ⟨z, hz, rfl⟩ := List.mem_map.mp hx
    exact hm (grpM_mem (.inr ⟨y, hy, hz⟩)))
  rw [List.length_map] at f1
  have e : (gsTx (grpP is).2).length = (grpP is).2.length := List.length_map _
  rw [e] at f2
  have f1' : (grpP is).1.length * 40 ≤ 9 * 40 := Nat.mul_le_mul_right _ (Nat.le_trans g1 hl)
  have f2' : (grpP is).2.length * (9 * 40 + 7) ≤ 9 * (9 * 40 + 7) := Nat.mul_le_mul_right _ (Nat.le_trans g2 hl)
  simp only [List.length_append, List.length_cons, List.length_nil]
  lia
theorem tks_ok {is : List Item} (hok : ∀ i ∈ is, ItemOk i) (hl : is.length ≤ 9) : ∀ t ∈ tksI is, TkOk t := by
  obtain ⟨g1, g2, g3⟩ := grpM_len false (is.map pairI)
  rw [List.length_map] at g1 g2 g3
  have h1 : ∀ x ∈ (grpP is).1, TU x := fun x hx => pairs_tu hok (grpM_mem (.inl hx))
  have h2 : ∀ g ∈ (grpP is).2, ∀ x ∈ g, TU x := fun g hg x hx => pairs_tu hok (grpM_mem (.inr ⟨g, hg, hx⟩))
  have one : ∀ x : List Nat × LUnit, TU x → TkOk (.one x.2) := fun x hx => ⟨by show [x.2].length ≤ _; simp, fun u hu => by cases List.mem_singleton.mp hu; have := hx.sp; (exact Nat.le_trans (by assumption) (by decide))⟩
  have run : TkOk .run := ⟨Nat.zero_le _, fun u hu => by cases hu⟩
  have tl : ∀ gs : List (List (List Nat × LUnit)), (∀ g ∈ gs, g.length ≤ 9 ∧ ∀ x ∈ g, TU x) → ∀ t ∈ tailTk (gsUn gs), TkOk t := by
    intro gs
    induction gs with
    | nil => intro _ t ht; cases ht
    | cons g gs ih =>
      intro hg t ht
      obtain ⟨k1, k2⟩ := hg g (.head _)
      cases gs with
      | nil =>
        rcases List.mem_cons.mp ht with rfl | ht
        · exact run
        · obtain ⟨u, hu, rfl⟩ := List.mem_map.mp ht
          obtain ⟨x, hx, rfl⟩ := List.mem_map.mp hu
          exact one x (k2 x hx)
      | cons d r =>
        rcases List.mem_cons.mp ht with rfl | ht
        · refine ⟨by show (uns g).length ≤ _; rw [List.length_map]; (exact Nat.le_trans (by assumption) (by decide)), fun u hu => ?_⟩
          obtain ⟨x, hx, rfl⟩ := List.mem_map.mp (show u ∈ uns g from hu)
          have := (k2 x hx).sp
          (exact Nat.le_trans (by assumption) (by decide))
        · exact ih (fun g' hg' => hg g' (.tail _ hg')) t ht
  intro t ht
  rcases List.mem_append.mp ht with ht | ht
  · obtain ⟨u, hu, rfl⟩ := List.mem_map.mp ht
    obtain ⟨x, hx, rfl⟩ := List.mem_map.mp hu
    exact one x (h1 x hx)
  · exact tl _ (fun g hg => ⟨Nat.le_trans (g3 g hg) hl, h2 g hg⟩) t ht
noncomputable def wildN (is : List Item) : Nat := (is.filter wild).length
theorem sg_len (name : List Nat) : (signsS name).length ≤ 10 := Nat.le_trans (List.length_filter_le _ _) (by decide)
theorem one_sign : ∀ c ∈ [97, 98, 94, 38], (sg.filter fun s => unitFits (false, [(c, c)]) s).length ≤ 1 := by decide
theorem meant_len {i : Item} (h : ItemOk i) (name : List Nat) (hs : i.written ≠ [42]) : ((signsS name).filter fun s => accI i s).length ≤ if wild i then 10 else 1 := by
  obtain ⟨run, h⟩ := h
  by_cases hw : wild i = true
  · rw [if_pos hw]
    exact Nat.le_trans (List.length_filter_le _ _) (sg_len name)
  · rw [if_neg hw]
    cases h with
    | star => exact absurd rfl hs
    | any => exact absurd rfl hw
    | @plain c hc =>
      have h1 := one_sign c hc
      unfold signsS
      rw [List.filter_filter]
      have : (sg.filter fun s => (decide (s ∈ name) && unitFits (false, [(c, c)]) s)).length ≤ (sg.filter fun s => unitFits (false, [(c, c)]) s).length := by
        rw [← List.filter_filter]
        exact List.length_filter_le _ _
      refine Nat.le_trans ?_ h1
      refine Nat.le_trans (Nat.le_of_eq ?_) this
      congr 1
      refine List.filter_congr fun s _ => ?_
      exact Bool.and_comm _ _
    | @set b p q _ hp hq _ =>
      have : (setItem b p q).written = 91 :: (bodyOf b p q ++ [93]) := rfl
      refine absurd ?_ hw
      unfold wild
      rw [this]
      simp
theorem flat_map_len {α β : Type} {f : α → List β} {k : Nat} : ∀ {l : List α}, (∀ x ∈ l, (f x).length ≤ k) → (l.map f).flatten.length ≤ l.length * k
  | [], _ => by simp
  | x :: l, h => by
    have := flat_map_len (l := l) fun y hy => h y (.tail _ hy)
    have := h x (.head _)
    rw [List.map_cons, List.flatten_cons, List.length_append, List.length_cons, Nat.succ_mul]
    lia
theorem wants_len {name : List Nat} : ∀ (is : List Item) (ws : List (List Nat)), (∀ i ∈ is, ItemOk i) → (is.foldl (wantStep name) ws).length ≤ ws.length * 10 ^ wildN is
  | [], ws, _ => by simp [wildN]
  | i :: is, ws, h => by
    rw [List.foldl_cons]
    refine Nat.le_trans (wants_len is _ fun j hj => h j (.tail _ hj)) ?_
    have hi := h i (.head _)
    have step : (wantStep name ws i).length ≤ ws.length * (if wild i then 10 else 1) := by
      unfold wantStep
      by_cases hw : i.written = [42]
      · rw [if_pos hw, List.length_map]
        split <;> lia
      · rw [if_neg hw]
        refine flat_map_len fun w _ => ?_
        rw [List.length_map]
        exact meant_len hi name hw
    have e : wildN (i :: is) = (if wild i then 1 else 0) + wildN is := by
      unfold wildN
      by_cases hw : wild i = true
      · simp [hw]; lia
      · simp [hw]
    rw [e]
    by_cases hw : wild i = true
    · rw [if_pos hw] at step ⊢
      rw [Nat.pow_add, Nat.pow_one, ← Nat.mul_assoc]
      exact Nat.mul_le_mul_right _ step
    · rw [if_neg hw] at step ⊢
      rw [Nat.zero_add]
      exact Nat.mul_le_mul_right _ (by lia)
end

section
theorem wl_len {name : List Nat} : ∀ (is : List Item) (ws : List (List Nat)) (k : Nat), (∀ w ∈ ws, w.length ≤ k) → ∀ w ∈ is.foldl (wantStep name) ws, w.length ≤ k + 3 * is.length
  | [], ws, k, h => h
  | i :: is, ws, k, h => by
    intro w hw
    have := wl_len is _ (k + 3) (wantStep_len h) w hw
    simp only [List.length_cons]
    lia
theorem segO_len {α : Type} : ∀ l : List (Option α), (segO l).length ≤ l.length + 1
  | [] => Nat.le_refl _
  | none :: r => by show (segO r).length + 1 ≤ _; have := segO_len r; simp; assumption
  | some p :: r => by
    obtain ⟨s, t, e⟩ := segO_ne r
    have := segO_len r
    rw [segO_some e]
    rw [e] at this
    simp at this ⊢
    lia
theorem chS_len {sn : List Nat} : ∀ {gs : List (List Item)} {cs : List (List Nat)}, ChS sn gs cs → cs.length = gs.length
  | [], [], _ => rfl
  | _ :: gs, _ :: cs, h => by have := chS_len h.2; simp [this]
theorem dots_le : ∀ {css : List (List Nat)} {c : List Nat}, c ∈ css → c.length ≤ (dots css).length
  | [], c, h => by cases h
  | [s], c, h => by cases List.mem_singleton.mp h; exact Nat.le_refl _
  | s :: t :: r, c, h => by
    show _ ≤ (s ++ [46, 46, 46] ++ dots (t :: r)).length
    rcases List.mem_cons.mp h with rfl | h
    · simp only [List.length_append]; lia
    · have := dots_le h
      simp only [List.length_append]; lia
theorem row_ok {rs : List (Item × List Nat)} (h : RowsOk rs) : ∀ r ∈ row0 :: rs, RowOk r.1 r.2 := by
  intro r hr
  rcases List.mem_cons.mp hr with rfl | hr
  · exact .plain (by decide)
  · exact h.ok r hr
theorem wildN_le {rs : List (Item × List Nat)} (h : RowsOk rs) {pre suf : List Item} {j : Nat} (e : ((row0 :: rs).take j).map (·.1) = pre ++ suf) : wildN pre ≤ 2 := by
  have h1 : wildN pre ≤ wildN (pre ++ suf) := by
    unfold wildN
    rw [List.filter_append, List.length_append]
    lia
  rw [← e] at h1
  have h2 : ∀ l : List (Item × List Nat), wildN (l.map (·.1)) = wilds l := by
    intro l
    unfold wildN wilds
    rw [List.filter_map, List.length_map]
    rfl
  rw [h2] at h1
  have h3 : wilds ((row0 :: rs).take j) ≤ wilds (row0 :: rs) := by
    conv => rhs; rw [← List.take_append_drop j (row0 :: rs)]
    unfold wilds
    rw [List.filter_append, List.length_append]
    lia
  have h4 : wilds (row0 :: rs) = wilds rs := rfl
  have := h.wl
  lia
theorem pl_all {rs : List (Item × List Nat)} (h : RowsOk rs) {k j : Nat} : Pl (((row0 :: rs).take j).map (·.1)) (((row0 :: rs).take k).map (·.2)).flatten := by
  have hlen := h.len
  have hok : ∀ i ∈ ((row0 :: rs).take j).map (·.1), ItemOk i := by
    intro i hi
    obtain ⟨r, hr, rfl⟩ := List.mem_map.mp hi
    exact ⟨r.2, row_ok h r (List.mem_of_mem_take hr)⟩
  have hil : (((row0 :: rs).take j).map (·.1)).length ≤ 9 := by rw [List.length_map, List.length_take, List.length_cons]; lia
  have hrun : ∀ x ∈ ((row0 :: rs).take k).map (·.2), (∀ c ∈ x, c ∈ sg) ∧ x.length ≤ 3 := by
    intro x hx
    obtain ⟨r, hr, rfl⟩ := List.mem_map.mp hx
    exact row_run (row_ok h r (List.mem_of_mem_take hr))
  have hnl : (((row0 :: rs).take k).map (·.2)).flatten.length ≤ 27 := by
    have := flat_len (k := 3) fun x hx => (hrun x hx).2
    have h2 : (((row0 :: rs).take k).map (·.2)).length ≤ 9 := by rw [List.length_map, List.length_take, List.length_cons]; lia
    have := Nat.mul_le_mul_right 3 h2
    (exact Nat.le_trans (by assumption) (Nat.le_trans (by assumption) (by decide)))
  have hn : ∀ c ∈ (((row0 :: rs).take k).map (·.2)).flatten, c ∈ sg := by
    intro c hc
    obtain ⟨x, hx, hcx⟩ := List.mem_flatten.mp hc
    exact (hrun x hx).1 c hcx
  have hw : ∀ pre suf, ((row0 :: rs).take j).map (·.1) = pre ++ suf → wildN pre ≤ 2 := fun pre suf e => wildN_le h e
  generalize ((row0 :: rs).take j).map (·.1) = is at hok hil hw
  generalize (((row0 :: rs).take k).map (·.2)).flatten = name at hnl hn
  have hwb : ∀ pre suf, is = pre ++ suf → (pre.foldl (wantStep name) [[]]).length ≤ 1000000 := by
    intro pre suf e
    have h1 := wants_len (name := name) pre [[]] fun i hi => hok i (by rw [e]; exact List.mem_append_left _ hi)
    have h2 : 10 ^ wildN pre ≤ 10 ^ 2 := Nat.pow_le_pow_right (by decide) (hw pre suf e)
    simp at h1
    (exact Nat.le_trans (by assumption) (Nat.le_trans (by assumption) (by decide)))
  refine ⟨by (exact Nat.le_trans (by assumption) (by decide)), hok, text_len hok hil, ?_, fun i hi => by have := (item_len (hok i hi)).2.1; (exact Nat.le_trans (by assumption) (by decide)), by (exact Nat.le_trans (by assumption) (by decide)), hwb, fun w hwm => ?_, ?_⟩
  · have := flat_len (l := is.map (·.written)) (k := 20) fun x hx => by
      obtain ⟨i, hi, rfl⟩ := List.mem_map.mp hx
      exact (item_len (hok i hi)).1
    rw [List.length_map] at this
    have := Nat.mul_le_mul_right 20 hil
    (exact Nat.le_trans (by assumption) (Nat.le_trans (by assumption) (by decide)))
  · have hl := wl_len is [[]] 0 (by simp) w hwm
    refine ⟨by lia, fun hin => ?_⟩
    obtain ⟨w0, hw0, css, hc, e⟩ := (wants_iff is [[]] w).mp hwm
    cases List.mem_singleton.mp hw0
    rw [List.nil_append] at e
    subst e
    have h46 := no46 hc
    have hcl := chS_len hc
    have hsl := segO_len (is.map optI)
    rw [List.length_map] at hsl
    match css, hc with
    | [], hc => obtain ⟨s, t, es⟩ := segO_ne (is.map optI); rw [es] at hc; exact hc.elim
    | [c], hc => rw [show dots [c] = c from rfl, isIn_plain (h46 c (.head _))] at hin; cases hin
    | c :: d :: r, hc =>
      rw [splitS_dots (by simp) h46]
      exact ⟨by simp, by lia, fun x hx => by have := dots_le hx; lia⟩
  · obtain ⟨f, hf⟩ := toks_text hok
    exact ⟨f, tksI is, hf, tks_ok hok hil, law_plain hok hn⟩
theorem law_fn (h : HG g) : FnOkE g 120 (["script"] : List Str) :=
  fn_ok h (by decide) rfl rfl fun _ _ _ => of1 fun _ => rfl
end

section
theorem evS_strl {x : Str} {k : Nat} {pos : Pos} {lx : List Nat} {Φ : LV → LS → Prop} (hx : x.cps.toList = lx) (h : Φ (.str lx) σ) : EvS g F n σ (.Constant (.str x) k pos) Φ := evS_str (by rw [hx]; exact h)
theorem law_body (h0 : g.tk0 = 0) (hg : HG (up g)) (H : HT (up g)) (PI : PatIn (up g) 36) {script : List Int} (hs : script.length ≤ 1000000) :
    ExW g F (n + 5) ⟨putAll (baseEnv [] gtab (fdAt g.w.params 120).scope.names) ([("script", .lst (script.map .int))] : List (Str × LV)), []⟩ (bodyAt g.w.params 120) fun lf _ => lf = .ret (.bool true) := by
  conv => arg 5; whnf
  have e2 : putAll (baseEnv [] gtab (fdAt g.w.params 120).scope.names) ([("script", .lst (script.map .int))] : List (Str × LV)) = ([("script", .local, .lst (script.map .int)), ("rows", .local, .undef), ("k", .local, .undef), ("name", .own, .undef), ("j", .local, .undef), ("items", .local, .undef), ("tokens", .local, .undef), ("matched", .local, .undef),
    ("_law_rows", .glob, .raw (.ref 110)), ("range", .glob, .raw (.type "range")), ("len", .glob, .raw (.builtin "len")), ("_law_tokens", .glob, .raw (.ref 88)), ("translate", .glob, .raw (.ref 43)), ("_law_wants", .glob, .raw (.ref 115)), ("_law_takes", .glob, .raw (.ref 98))] : List (Str × Loc × LV)) := rfl
  rw [e2]
  clear e2
  have c110 := (rows_fn hg).cal
  have hsl : (script.map LV.int).length ≤ 1000000 := by rw [List.length_map]; exact hs
  refine ex_assignS h0 rfl ?_
  refine evS_binop ?_
  refine evS_list (esS_cons rfl (evS_tuple (esS_cons rfl (evS_tuple (esS_cons rfl (evS_strl ls21 ?_))))))
  ((with_reducible apply es_cons); exact rfl; (with_reducible apply ev_bool; apply es_cons); exact rfl; (with_reducible apply ev_list; apply es_cons); exact rfl; (with_reducible apply ev_tuple; apply es_cons); exact rfl; (with_reducible apply ev_strl; exact ls21; apply es_cons); exact rfl; (with_reducible apply ev_strl; exact ls21; apply es_nil; apply lenOk); exact rfl; (with_reducible apply es_nil; apply lenOk); exact rfl; (with_reducible apply es_nil; apply lenOk); exact rfl; (with_reducible apply es_cons); exact rfl; (with_reducible apply ev_strl; exact ls21; apply es_nil; apply lenOk); exact rfl; (with_reducible apply es_nil; apply lenOk); exact rfl; (with_reducible apply ev_callN); exact rfl; exact .tail (.tail (.tail (.tail (.tail (.tail (.tail (.tail .head))))))); assumption; (with_reducible apply es_cons); exact rfl; (with_reducible apply ev_sub; apply ev_nameH); exact .head; (with_reducible exact nu_lst; apply ev_slice; apply ow_none; apply ow_some; apply ev_nat; exact nn6))
  refine si_lst_cut hsl rfl rfl ?_
  rw [cut_front, ← List.map_take]
  ((with_reducible apply es_nil; apply PrW.ca))
  refine pr_rows (n := n + 3) hg (by rw [List.length_take]; lia) fun rs hrs => ?_
  skip
  have hrl := hrs.len
  refine pr_ladd (by rw [List.length_map]; simp; lia) ?_
  ((with_reducible apply asgX); exact .tail .head; exact .inl rfl)
  have hR0 : [LV.tup [LV.tup [LV.str [97], LV.bool false, LV.lst [LV.tup [LV.str [97], LV.str [97]]]], LV.str [97]]] ++ rs.map rowV = (row0 :: rs).map rowV := rfl
  rw [hR0]
  exact law_rest hg H PI (fun k j _ _ => pl_all hrs) (by simp; assumption)
end

section
theorem lookup_mem' {β : Type} {x : Str} {b : β} : ∀ {l : List (Str × β)}, l.lookup x = some b → (x, b) ∈ l
  | [], h => by cases h
  | (y, c) :: l, h => by
    rw [List.lookup_cons] at h
    cases e : x == y with
    | true => rw [e] at h; cases h; rw [beq_iff_eq.mp e]; exact .head _
    | false => rw [e] at h; exact .tail _ (lookup_mem' h)
theorem at3_ok {o : Obj} {es : Array DictEntry} {ep : Nat} (hd : o.data = .dict es ep) (h : obj3 o = true) : (∀ p ∈ fnTab, nsFind es p.1 = some (.ref p.2)) ∧ (∀ p ∈ biL, nsFind es p.1 = none) ∧ ∃ s t, nsFind es "ELLIPSIS_MARKER" = some (.str s t) ∧ s.cps.toList = [46, 46, 46] := by
  unfold obj3 at h
  rw [hd] at h
  simp only [Bool.and_eq_true, List.all_eq_true] at h
  obtain ⟨⟨h1, h2⟩, h3⟩ := h
  refine ⟨fun p hp => ?_, fun p hp => none_of (h2 p.1 (List.mem_map_of_mem (f := (·.1)) hp)), ?_⟩
  · have q := h1 p hp
    cases e : nsFind es p.1 with
    | none => rw [e] at q; cases q
    | some v => rw [e] at q; exact congrArg some (isRef_eq q)
  · split at h3
    · rename_i s t e; exact ⟨s, t, e, beq_iff_eq.mp h3⟩
    · cases h3
theorem gt_ok {mg mb : Str → Option Value} {o : Obj} {es : Array DictEntry} {ep : Nat} (hd : o.data = .dict es ep) (h3 : obj3 o = true) (Gg : ∀ x, nsFind es x = mg x) (Gb : ∀ x : Str, x ≠ "__name__" → mb x = bootBuiltins x) {P : PM} :
    ∀ x lv, gtab x = some lv → ∃ v, (mg x = some v ∨ (mg x = none ∧ mb x = some v)) ∧ V P lv v := by
  intro x lv h
  obtain ⟨k1, k2, s, t, k3, k4⟩ := at3_ok hd h3
  rcases List.mem_append.mp (lookup_mem' h) with h | h
  · obtain ⟨p, hp, e⟩ := List.mem_map.mp h
    cases e
    exact ⟨_, .inl ((Gg _).symm.trans (k1 p hp)), .raw _⟩
  · rcases List.mem_cons.mp h with e | h
    · cases e
      refine ⟨_, .inl ((Gg _).symm.trans k3), ?_⟩
      rw [← k4]
      exact V.strS s t
    · obtain ⟨p, hp, e⟩ := List.mem_map.mp h
      cases e
      have nb : ∀ p ∈ biL, p.1 ≠ Str.ofString "__name__" := by decide
      have bb : ∀ p ∈ biL, bootBuiltins p.1 = some p.2 := by
        simp only [biL, List.forall_mem_cons]
        exact ⟨rfl, rfl, rfl, rfl, rfl, rfl, rfl, rfl, fun _ h => nomatch h⟩
      exact ⟨_, .inr ⟨(Gg _).symm.trans (k2 p hp), (Gb _ (nb p hp)).trans (bb p hp)⟩, .raw _⟩
theorem pat_ok {g : GC} (h : HG g) : PatIn g 36 := by
  obtain ⟨ob, h1, h2⟩ := h.see (36, obj36) (chk 2 rfl) (by decide)
  obtain ⟨o5, g1, g2⟩ := h.see (35, obj35) (chk 1 rfl) (by decide)
  simp only [obj36, Bool.and_eq_true] at h2
  obtain ⟨⟨h2, h3⟩, h4⟩ := h2
  simp only [obj35] at g2
  split at h4
  · rename_i fs hd
    simp only [Bool.and_eq_true, beq_iff_eq] at h4
    split at g2
    · rename_i vs k hs
      refine ⟨ob, fs, 35, o5, vs, k, h1, isTy_eq h2, none_of h3, hd, isRef_eq h4.1.1, h4.1.2, h4.2, g1, hs, ?_⟩
      apply Array.toList_inj.mp
      rw [Array.toList_map, Array.toList_map, List.map_map]
      exact (beq_iff_eq.mp g2).trans rfl
    · cases g2
  · cases h4
theorem at57_ok {o : Obj} (h : obj57 o = true) : o = tabObj #[] := by
  obtain ⟨c, d, sl, dt⟩ := o
  simp only [obj57, Bool.and_eq_true] at h
  obtain ⟨⟨⟨h1, h2⟩, h3⟩, h4⟩ := h
  split at h4
  · rename_i vs e
    cases e
    rw [Array.isEmpty_iff.mp h4, Array.isEmpty_iff.mp h3, none_of h2]
    cases c with
    | none => rfl
    | _ => cases h1
  · cases h4
theorem at61_ok {h : Heap} {o : Obj} (e : h.get? 61 = some o) (k : obj61 o = true) : CodeHd h 61 57 := by
  simp only [obj61, Bool.and_eq_true] at k
  obtain ⟨k1, k2⟩ := k
  split at k2
  · rename_i vs hd
    simp only [Bool.and_eq_true] at k2
    obtain ⟨⟨⟨⟨m1, m2⟩, m3⟩, m4⟩, m5⟩ := k2
    split at m2
    · rename_i file tf e2
      split at m3
      · rename_i fl tg e3
        split at m4
        · rename_i inF e4
          split at m5
          · rename_i tx tt e5
            have m1 := isRef_eq m1
            refine ⟨o, vs, file, tf, fl, tg, inF, tx, tt, e, isTy_eq k1, hd, ?_, m1, e2, e3, e4, e5, by decide⟩
            rw [Array.getD_eq_getD_getElem?] at m1
            cases q : vs[11]? with
            | none => rw [q] at m1; cases m1
            | some v => rw [q] at m1; exact congrArg some m1
          · cases m5
        · cases m4
      · cases m3
    · cases m2
  · cases k2
theorem vl_intsAre {P : PM} : ∀ {vs : List Value} {ns : List Int}, IntsAre vs ns → VL P (ns.map .int) vs
  | _, _, .nil => .nil
  | _, _, .cons n t r => .cons (.int n t) (vl_intsAre r)
theorem rec_in : ∀ a ∈ fnAddrs, recAt a ∈ recsOf view ∧ ((recAt a).name, a) ∈ fnTab := by
  simp only [fnAddrs, List.forall_mem_cons]
  have k : ∀ {a i j : Nat}, (recsOf view)[i]? = some (recAt a) → fnTab[j]? = some ((recAt a).name, a) → recAt a ∈ recsOf view ∧ ((recAt a).name, a) ∈ fnTab := fun h1 h2 => ⟨List.mem_of_getElem? h1, List.mem_of_getElem? h2⟩
  exact ⟨k (i := 0) (j := 0) rfl rfl, k (i := 1) (j := 2) rfl rfl, k (i := 2) (j := 3) rfl rfl, k (i := 3) (j := 4) rfl rfl, k (i := 4) (j := 5) rfl rfl, k (i := 5) (j := 6) rfl rfl, k (i := 6) (j := 7) rfl rfl, k (i := 7) (j := 8) rfl rfl, k (i := 8) (j := 9) rfl rfl, k (i := 9) (j := 10) rfl rfl, k (i := 10) (j := 11) rfl rfl, k (i := 11) (j := 12) rfl rfl, k (i := 12) (j := 13) rfl rfl, fun _ h => nomatch h⟩
end

section
structure EndAt (mg mb : Str → Option Value) (h : Heap) : Prop where
  seen : Seen h
  g : h.Ns mainGlobals mg
  b : h.Ns builtinsNs mb
  nl : h.NoLimit
  fn : ∀ d ∈ recsOf view, ∃ a o pm code doc, mg d.name = some (.ref a) ∧ h.get? a = some o ∧ o.data = .func (docDef d.name d.params d.body d.scope pm code doc) ∧ h.CodeRec code d.name
  bi : ∀ x : Str, x ≠ "__name__" → mb x = bootBuiltins x
  bm : ∃ bm ob, mg "__builtins__" = some (.ref bm) ∧ bm ≠ builtinsNs ∧ h.get? bm = some ob ∧ ob.cls = .type "module" ∧ ob.dict = some builtinsNs ∧ ob.data = .plain
noncomputable def but57 (h : Heap) : PM := fun b => if b = 57 then none else h.get? b
theorem but57_in {h : Heap} {b : Addr} {o : Obj} (hb : b ≠ 57) (e : h.get? b = some o) : but57 h b = some o := (if_neg hb).trans e
theorem but57_of {h : Heap} {b : Addr} {o : Obj} (e : but57 h b = some o) : b ≠ 57 ∧ h.get? b = some o := by
  unfold but57 at e
  split at e
  · cases e
  · exact ⟨‹_›, e⟩
theorem ns_but {h h' : Heap} {a : Addr} {m : Str → Option Value} (k : ∀ b o, but57 h b = some o → h'.get? b = some o) (ha : a ≠ 57) (n : h.Ns a m) : h'.Ns a m :=
  let ⟨o, es, ep, e, r⟩ := n; ⟨o, es, ep, k _ _ (but57_in ha e), r⟩
theorem nl_but {h h' : Heap} (k : ∀ b o, but57 h b = some o → h'.get? b = some o) (n : h.NoLimit) : h'.NoLimit :=
  let ⟨mc, e, hm⟩ := n; ⟨mc, ns_but k (by decide) e, hm⟩
noncomputable def endG (w : World) (os : OsState) {mg mb : Str → Option Value} {h : Heap} (E : EndAt mg mb h) : GC :=
  ⟨PySem.Challenge.rw_ij0037_01.row.prog, w, but57 h, 57, TabOk, 0, fun le h => ⟨h.tri, fun cv e => (h.lam cv e).mono le⟩, os, mg, mb, fun _ k => ns_but k (by decide) E.g, fun _ k => ns_but k (by decide) E.b, fun _ k => nl_but k E.nl⟩
section
variable {mg mb : Str → Option Value} {h : Heap} (E : EndAt mg mb h)
include E
theorem EndAt.g57 : h.get? 57 = some (tabObj #[]) := by
  obtain ⟨o, h1, h2⟩ := E.seen (57, obj57) (chk 4 rfl)
  rw [← at57_ok h2]; exact h1
theorem EndAt.cd57 : CodeHd h 61 57 := by
  obtain ⟨o, h1, h2⟩ := E.seen (61, obj61) (chk 5 rfl)
  exact at61_ok h1 h2
theorem EndAt.gl : ∃ o es ep, h.get? 3 = some o ∧ o.data = .dict es ep ∧ obj3 o = true ∧ ∀ x, nsFind es x = mg x := by
  obtain ⟨o3, es3, ep3, G3, hd3, _, hf3⟩ := E.g
  obtain ⟨o, h1, h2⟩ := E.seen (3, obj3) (chk 0 rfl)
  rw [show h.get? 3 = some o3 from G3] at h1
  cases h1
  exact ⟨o3, es3, ep3, G3, hd3, h2, hf3⟩
theorem EndAt.mgF : ∀ p ∈ fnTab, mg p.1 = some (.ref p.2) := fun p hp => by
  obtain ⟨o3, es3, ep3, G3, hd3, h3, hf3⟩ := E.gl
  exact (hf3 _).symm.trans ((at3_ok hd3 h3).1 p hp)
theorem EndAt.fns : ∀ a ∈ fnAddrs, ∃ o pm cd doc, but57 h a = some o ∧ o.data = .func (fdD a pm cd doc) ∧ (a = 62 → cd = .ref 61) ∧ ∀ h' : Heap, (∀ b o, but57 h b = some o → h'.get? b = some o) → h'.CodeRec cd (recAt a).name := by
  intro a ha
  obtain ⟨r1, r2⟩ := rec_in a ha
  obtain ⟨a', o, pm, cd, doc, q1, q2, q3, q4⟩ := E.fn _ r1
  rw [E.mgF _ r2] at q1
  cases q1
  have n57 : a ≠ 57 := by rintro rfl; revert ha; decide
  refine ⟨o, pm, cd, doc, but57_in n57 q2, q3, ?_, ?_⟩
  · rintro rfl
    obtain ⟨o', h1, h2⟩ := E.seen (62, obj62) (chk 6 rfl)
    rw [show h.get? 62 = some o from q2] at h1
    cases h1
    simp only [obj62] at h2
    rw [q3] at h2
    exact isRef_eq h2
  · obtain ⟨c, oc, vs, t, rfl, c1, c2, c3⟩ := q4
    refine fun h k => ⟨c, oc, vs, t, rfl, k _ _ (but57_in ?_ c1), c2, c3⟩
    rintro rfl
    rw [E.g57] at c1
    cases c1
    cases c2
    cases c3
theorem EndAt.gt : ∀ x lv, gtab x = some lv → ∃ v, (mg x = some v ∨ (mg x = none ∧ mb x = some v)) ∧ V (but57 h) lv v := by
  obtain ⟨o3, es3, ep3, G3, hd3, h3, hf3⟩ := E.gl
  exact gt_ok hd3 h3 hf3 E.bi
theorem EndAt.hg {w : World} {os : OsState} : HG (endG w os E) := ⟨E.fns, fun p hp hn => let ⟨o, h1, h2⟩ := E.seen p hp; ⟨o, but57_in hn h1, h2⟩, E.gt⟩
theorem EndAt.hgu {w : World} {os : OsState} : HG (up (endG w os E)) := ⟨E.fns, fun p hp hn => let ⟨o, h1, h2⟩ := E.seen p hp; ⟨o, but57_in hn h1, h2⟩, E.gt⟩
theorem EndAt.ht {w : World} {os : OsState} : HT (up (endG w os E)) := by
  refine ⟨rfl, rfl, (show (3 : Nat) ≠ 57 by decide), fun h1 k _ => ?_, fun h1 k => ?_⟩
  · obtain ⟨o, vs, file, tf, flags, tg, inF, text, tt, c1, c⟩ := E.cd57
    exact ⟨o, vs, file, tf, flags, tg, inF, text, tt, k _ _ (but57_in (by decide) c1), c⟩
  obtain ⟨bm, ob, b1, b2, b3, b4, b5, b6⟩ := E.bm
  have n57 : bm ≠ 57 := fun e => by
    rw [e, E.g57] at b3
    cases b3
    cases b4
  refine ⟨bm, ob, b1, b2, ?_, n57, k _ _ (but57_in n57 b3), b4, b5, b6⟩
  intro e
  obtain ⟨o3, es3, ep3, G3, hd3, h3, hf3⟩ := E.gl
  rw [e, show h.get? mainGlobals = some o3 from G3] at b3
  cases b3
  rw [b6] at hd3
  cases hd3
theorem EndAt.gst {w : World} {s : Shared} (hs : s.heap = h) (hgens : s.gens = #[]) : GSt (endG w s.os E) (but57 h) s := by
  subst hs
  refine ⟨fun b o e => (but57_of e).2, .refl _, ⟨#[], E.g57, ⟨trivial, fun cv e => by cases e⟩⟩, ?_, .of_eq hgens, rfl, Nat.zero_le _⟩
  exact if_pos rfl
theorem EndAt.arg {la : Addr} {lv : Array Value} {script : List Int} (hList : h.IsList la lv) (hI : IntsAre lv.toList script) : VL (but57 h) [.lst (script.map .int)] [Value.ref la] := by
  obtain ⟨o, h1, h2, n, h3⟩ := hList
  have hla : la ≠ 57 := by
    rintro rfl
    rw [E.g57] at h1; cases h1; cases h2
  refine .cons ?_ .nil
  unfold V
  exact ⟨la, o, _, n, rfl, but57_in hla h1, h2, h3, by simpa using vl_intsAre hI⟩
theorem EndAt.kept {h' : Heap} {ps : Array Value} (t1 : h'.get? 57 = some (tabObj ps)) (kp : ∀ b o, b ≠ 57 → h.get? b = some o → h'.get? b = some o) : OldK h h' := by
  refine ⟨fun b o e => ?_, fun b o e => ?_⟩
  · by_cases hb : b = 57
    · subst hb
      rw [E.g57] at e
      cases e
      refine .inr (.inl ⟨?_, rfl, #[], ps, rfl, ?_⟩)
      · obtain ⟨o, vs, file, tf, flags, tg, inF, text, tt, c1, c2, c3, c4, c5, _⟩ := E.cd57
        exact ⟨61, o, vs, c1, c2, c3, c4⟩
      · rw [t1]; simp
    · exact .inl (kp b o hb e)
  · by_cases hb : b = 57
    · subst hb; exact ⟨_, t1⟩
    · exact ⟨o, kp b o hb e⟩
end
theorem the_end : PySem.Challenge.rw_ij0037_01.Holds := by
  refine hd ?_
  intro w s₀ s₁ mg mb G Y a o pm cd doc dV kV ho hod hcr hdf hmg hgens args vals as hpre hlay hrd hwell has
  have T := G.T
  have E : EndAt mg mb s₁.heap := ⟨Y, T.g, T.b, T.nolimit, T.fn, T.builtins, T.bmain⟩
  clear hod hcr hdf G Y T ho
  wrow_args hpre hlay hrd hwell has
  rename_i script _ _ _ _ _ _ _ la lv _ hList _ _ _ hInts _ hc _
  have a120 : a = 120 := by
    have m1 : mg (Str.ofString "law") = some (.ref 120) := E.mgF ("law", 120) (List.mem_of_getElem? (i := 13) rfl)
    have m2 : mg (Str.ofString "law") = some (.ref a) := hmg
    rw [m1] at m2
    cases m2
    rfl
  subst a120
  have main : PrW (endG w s₁.os E) 6 [.lst (script.map .int)] (fun vs => call (.ref 120) vs) fun v => v = .bool true :=
    pr_fnE (law_fn E.hg) E.hg.gt rfl fun F => (law_body rfl E.hgu E.ht (pat_ok E.hgu) (by simp at hc; lia)).mono fun lf _ e => by rw [e]
  refine main.run callerA (but57 s₁.heap) s₁ [Value.ref la] _ _ ⟨rfl, by decide, by decide⟩ (E.gst rfl hgens) (E.arg hList hInts) fun P' s' lv' v R' G' hv e => ?_
  subst e
  rw [hv.toBool]
  refine ⟨.inl ⟨_, _, [], rfl, fun _ => rfl, ReadsW.bool true, ?_, fun _ => ⟨List.nodup_nil, fun _ hm => (nomatch hm)⟩⟩, ?_, G'.os, G'.bare⟩
  · first | rfl | wrow_post
  · obtain ⟨ps, t1, _⟩ := G'.tab
    exact E.kept t1 fun b o hb e => R'.keep b o hb e
end

end
end LL
end

open PySem PySem.W PyProof.Rows
theorem PySem.Challenge.cw_ij0037_01_holds : PySem.Challenge.rw_ij0037_01.Holds := by
  exact LL.the_end

import PyProof.Rows.All
import Wide.All
import OpenK.AllK
import Wide.FinOn
import Lean
import PySem.Challenge.RW_rs0091_01
set_option Elab.async false
section
local macro_rules | `(tactic| omega) => `(tactic| first | lia | omega +splitDisjunctions)

section
open PySem PySem.W PyProof.Rows
set_option maxRecDepth 100000
namespace Mine

noncomputable def TB : Addr := 143
/-! the lambda of _law_order -/
noncomputable def lamE : Expr := match (PySem.Challenge.pw_rs0091_01.main.body[22]? : Option Stmt) with
  | some (.FunctionDef _ _ body _ _ _ _ _ _ _) => (match (body[1]? : Option Stmt) with
    | some (.For _ _ fb _ _) => (match (fb[0]? : Option Stmt) with
      | some (.Expr (.Call _ _ (⟨_, e, _⟩ :: _) _) _) => e
      | _ => .Name Str.empty default)
    | _ => .Name Str.empty default)
  | _ => .Name Str.empty default
noncomputable def lamParams : Arguments := match lamE with | .Lambda a _ _ _ => a | _ => default
noncomputable def lamBody : Expr := match lamE with | .Lambda _ b _ _ => b | _ => .Name Str.empty default
noncomputable def lamScope : Scope := match lamE with | .Lambda _ _ sc _ => sc | _ => default
noncomputable def lamQual : Str := Str.ofString "_law_order.<locals>.<lambda>"
structure LamFd (fd : FuncData) (c c' : Addr) : Prop where
  params : fd.params = lamParams
  body : fd.body = .expr lamBody
  scope : fd.scope = lamScope
  glob : fd.globals = mainGlobals
  blt : fd.builtins = builtinsNs
  clo : fd.closure = [(Str.ofString "depths", c)]
  dflt : fd.defaults = .none
  kwd : fd.kwdefaults = .none
  code : fd.code = .ref c'
  qual : fd.qualname = lamQual
/-! values: a Python value of the heap reads as plain data, over addresses that meet P; the lambda reads as a mark with what its cell holds -/
mutual
inductive VR (P : Addr → Prop) (h : Heap) : Value → PyData → Prop
  | none : VR P h .none .none
  | bool (b) : VR P h (.bool b) (.bool b)
  | int (i t) : VR P h (.int i t) (.int i)
  | str (x t) : VR P h (.str x t) (.str x)
  | list {a vs n xs} : P a → h.get? a = some { cls := .type "list", data := .seq (List.toArray vs) n } → VRs P h vs xs → VR P h (.ref a) (.list xs)
  | tuple {a vs n xs} : P a → h.get? a = some { cls := .type "tuple", data := .seq (List.toArray vs) n } → VRs P h vs xs → VR P h (.ref a) (.tuple xs)
  | fn {a c c' fd oc vs t ocl rv d} : P a → h.get? a = some { cls := .type "function", data := .func fd } → LamFd fd c c' → P c' → c' ≠ TB → h.get? c' = some oc → oc.data = .fields vs → vs[1]? = some (.str lamQual t) →
      P c → h.get? c = some ocl → ocl.data = .cell (some rv) → VR P h rv d → VR P h (.ref a) (.dict [(.none, d)])
inductive VRs (P : Addr → Prop) (h : Heap) : List Value → List PyData → Prop
  | nil : VRs P h [] []
  | cons {v vs d ds} : VR P h v d → VRs P h vs ds → VRs P h (v :: vs) (d :: ds)
end

theorem VR.inv {P : Addr → Prop} {h : Heap} {v : Value} {d : PyData} (r : VR P h v d) : match d with
    | .none => v = .none
    | .bool b => v = .bool b
    | .int i => ∃ t, v = .int i t
    | .str x => ∃ t, v = .str x t
    | .list xs => ∃ a vs n, v = .ref a ∧ P a ∧ h.get? a = some { cls := .type "list", data := .seq (List.toArray vs) n } ∧ VRs P h vs xs
    | .tuple xs => ∃ a vs n, v = .ref a ∧ P a ∧ h.get? a = some { cls := .type "tuple", data := .seq (List.toArray vs) n } ∧ VRs P h vs xs
    | .dict _ => True := by
  cases r with
  | none => rfl
  | bool b => rfl
  | int i t => exact ⟨_, rfl⟩
  | str x t => exact ⟨_, rfl⟩
  | list p e r => exact ⟨_, _, _, rfl, p, e, r⟩
  | tuple p e r => exact ⟨_, _, _, rfl, p, e, r⟩
  | fn => trivial
theorem VRs.inv {P : Addr → Prop} {h : Heap} {vs : List Value} {ds : List PyData} (r : VRs P h vs ds) : match ds with
    | [] => vs = []
    | d :: ds => ∃ v ws, vs = v :: ws ∧ VR P h v d ∧ VRs P h ws ds := by
  cases r with
  | nil => rfl
  | cons a b => exact ⟨_, _, rfl, a, b⟩
section
variable {P : Addr → Prop} {h : Heap} {v : Value} {vs : List Value}
theorem VR.none' (r : VR P h v .none) : v = .none := VR.inv r
theorem VR.bool' {b : Bool} (r : VR P h v (.bool b)) : v = .bool b := VR.inv r
theorem VR.int' {i : Int} (r : VR P h v (.int i)) : ∃ t, v = .int i t := VR.inv r
theorem VR.str' {x : Str} (r : VR P h v (.str x)) : ∃ t, v = .str x t := VR.inv r
theorem VR.isList {xs : List PyData} (r : VR P h v (.list xs)) : ∃ a vs n, v = .ref a ∧ P a ∧ h.get? a = some { cls := .type "list", data := .seq (List.toArray vs) n } ∧ VRs P h vs xs := VR.inv r
theorem VR.isTuple {xs : List PyData} (r : VR P h v (.tuple xs)) : ∃ a vs n, v = .ref a ∧ P a ∧ h.get? a = some { cls := .type "tuple", data := .seq (List.toArray vs) n } ∧ VRs P h vs xs := VR.inv r
theorem VRs.nil' (r : VRs P h vs []) : vs = [] := VRs.inv r
theorem VRs.cons' {d : PyData} {ds : List PyData} (r : VRs P h vs (d :: ds)) : ∃ v ws, vs = v :: ws ∧ VR P h v d ∧ VRs P h ws ds := VRs.inv r
theorem VRs.one' {d : PyData} (r : VRs P h vs [d]) : ∃ v, vs = [v] ∧ VR P h v d := by
  obtain ⟨v, ws, rfl, a, b⟩ := r.cons'
  rw [b.nil']; exact ⟨v, rfl, a⟩
end
theorem VR.move {P P' : Addr → Prop} {h h' : Heap} (hk : ∀ b o, P b → h.get? b = some o → P' b ∧ h'.get? b = some o) {v : Value} {d : PyData} (r : VR P h v d) : VR P' h' v d :=
  VR.rec (motive_1 := fun v d _ => VR P' h' v d) (motive_2 := fun vs ds _ => VRs P' h' vs ds) .none .bool .int .str (fun p e _ ih => .list (hk _ _ p e).1 (hk _ _ p e).2 ih) (fun p e _ ih => .tuple (hk _ _ p e).1 (hk _ _ p e).2 ih)
    (fun p e L p' n e1 e2 e3 pc e4 e5 _ ih => .fn (hk _ _ p e).1 (hk _ _ p e).2 L (hk _ _ p' e1).1 n (hk _ _ p' e1).2 e2 e3 (hk _ _ pc e4).1 (hk _ _ pc e4).2 e5 ih) .nil (fun _ _ a b => .cons a b) r
theorem VRs.move {P P' : Addr → Prop} {h h' : Heap} (hk : ∀ b o, P b → h.get? b = some o → P' b ∧ h'.get? b = some o) : ∀ {vs : List Value} {ds : List PyData}, VRs P h vs ds → VRs P' h' vs ds
  | _, [], r => by rw [r.nil']; exact .nil
  | _, _ :: _, r => by obtain ⟨_, _, rfl, a, b⟩ := r.cons'; exact .cons (a.move hk) (VRs.move hk b)
theorem VR.reads {P : Addr → Prop} {h : Heap} {v : Value} {d : PyData} (r : VR P h v d) : d.canLay0 = true → ∃ as, Reads h v d as :=
  VR.rec (motive_1 := fun v d _ => d.canLay0 = true → ∃ as, Reads h v d as) (motive_2 := fun vs ds _ => PyData.canLayAll0 ds = true → ∃ as, ReadsAll h vs ds as) (fun _ => ⟨_, .none⟩) (fun _ _ => ⟨_, .bool _⟩) (fun _ _ _ => ⟨_, .int _ _⟩) (fun _ _ _ => ⟨_, .str _ _⟩)
    (fun _ e _ ih k => let ⟨_, q⟩ := ih (by simpa [PyData.canLay0] using k); ⟨_, .list e rfl rfl q⟩) (fun _ e _ ih k => let ⟨_, q⟩ := ih (by simpa [PyData.canLay0] using k); ⟨_, .tuple e rfl rfl q⟩)
    (fun _ _ _ _ _ _ _ _ _ _ _ _ _ k => by simp [PyData.canLay0] at k) (fun _ => ⟨_, .nil⟩) (fun _ _ a b k => let ⟨k1, k2⟩ : _ ∧ _ := by simpa [PyData.canLayAll0] using k
      let ⟨_, q⟩ := a k1; let ⟨_, r⟩ := b k2; ⟨_, .cons q r⟩) r

section
variable {P : Addr → Prop} {h : Heap}
theorem VRs.length : ∀ {vs : List Value} {ds : List PyData}, VRs P h vs ds → vs.length = ds.length
  | _, [], r => by rw [r.nil']; rfl
  | _, _ :: _, r => by obtain ⟨_, _, rfl, _, b⟩ := r.cons'; exact congrArg (· + 1) (VRs.length b)
theorem VRs.get : ∀ {vs : List Value} {ds : List PyData}, VRs P h vs ds → ∀ {i : Nat} {d : PyData}, ds[i]? = some d → ∃ v, vs[i]? = some v ∧ VR P h v d
  | _, [], _, _, _, e => by cases e
  | _, _ :: _, r, 0, _, e => by obtain ⟨_, _, rfl, a, b⟩ := r.cons'; cases e; exact ⟨_, rfl, a⟩
  | _, _ :: _, r, i + 1, _, e => by obtain ⟨_, _, rfl, a, b⟩ := r.cons'; exact b.get (i := i) e
theorem VRs.append : ∀ {vs ws : List Value} {ds es : List PyData}, VRs P h vs ds → VRs P h ws es → VRs P h (vs ++ ws) (ds ++ es)
  | _, _, [], _, r, q => by rw [r.nil']; exact q
  | _, _, _ :: _, _, r, q => by obtain ⟨_, _, rfl, a, b⟩ := r.cons'; exact .cons a (b.append q)
theorem VRs.take : ∀ {vs : List Value} {ds : List PyData}, VRs P h vs ds → ∀ n, VRs P h (vs.take n) (ds.take n)
  | _, _, _, 0 => .nil
  | _, [], r, _ + 1 => by rw [r.nil']; exact .nil
  | _, _ :: _, r, n + 1 => by obtain ⟨_, _, rfl, a, b⟩ := r.cons'; exact .cons a (b.take n)
theorem VRs.drop : ∀ {vs : List Value} {ds : List PyData}, VRs P h vs ds → ∀ n, VRs P h (vs.drop n) (ds.drop n)
  | _, _, r, 0 => r
  | _, [], r, _ + 1 => by rw [r.nil']; exact .nil
  | _, _ :: _, r, n + 1 => by obtain ⟨_, _, rfl, a, b⟩ := r.cons'; exact b.drop n
theorem VRs.snoc {vs : List Value} {ds : List PyData} (r : VRs P h vs ds) {v : Value} {d : PyData} (q : VR P h v d) : VRs P h (vs ++ [v]) (ds ++ [d]) := r.append (.cons q .nil)
theorem VRs.ints : ∀ {vs : List Value} {ns : List Int}, VRs P h vs (ns.map PyData.int) → IntsAre vs ns
  | _, [], r => by rw [VRs.nil' r]; exact .nil
  | _, _ :: _, r => by obtain ⟨_, _, rfl, a, b⟩ := VRs.cons' r; obtain ⟨_, rfl⟩ := a.int'; exact .cons _ _ (VRs.ints b)
theorem VRs.ofInts {vs : List Value} {ns : List Int} (r : IntsAre vs ns) : VRs P h vs (ns.map PyData.int) := by
  induction r with
  | nil => exact .nil
  | cons n t _ ih => exact .cons (.int n t) ih
theorem isList_of {a : Addr} {vs : Array Value} {n : Nat} (e : h.get? a = some { cls := .type "list", data := .seq vs n }) : h.IsList a vs := ⟨_, e, rfl, n, rfl⟩
theorem isTuple_of {a : Addr} {vs : Array Value} {n : Nat} (e : h.get? a = some { cls := .type "tuple", data := .seq vs n }) : h.IsTuple a vs := ⟨_, e, rfl, n, rfl⟩
end
end Mine
end

section
open PySem PySem.W PyProof.Rows
set_option maxRecDepth 100000
namespace Mine

noncomputable abbrev pg : Program := PySem.Challenge.pw_rs0091_01
noncomputable abbrev MM (w : World) : Model := model pg w
noncomputable def CO : Addr := 147
noncomputable def lamPre : Str := Str.ofString "_law_order.<locals>."
noncomputable def lamPos : Pos := ⟨152, 35, 152, 60⟩
noncomputable def TabOk (h : Heap) : Prop := ∃ ps, h.IsCode CO TB ps ∧ h.TableAt CO TB ps ∧ (ps = #[] ∨ ∃ c', c' ≠ TB ∧ codeAmong lamPos ps.toList = some (.ref c') ∧ h.CodeRec (.ref c') lamQual)
noncomputable def Plain (o : Obj) : Prop := o.cls ≠ .none ∨ ∀ vs, o.data ≠ .fields vs
/-- what meets P stands as it stood -/
noncomputable def Keep (P : Addr → Prop) (h h' : Heap) : Prop := ∀ b o, P b → (Plain o ∨ b ≠ TB) → h.get? b = some o → h'.get? b = some o
noncomputable abbrev All : Addr → Prop := fun _ => True

structure BH where
  w : World
  hB : Heap
  os : OsState
  mg : Str → Option Value
  mb : Str → Option Value
structure BaseOk (B : BH) : Prop where
  g : B.hB.Ns mainGlobals B.mg
  b : B.hB.Ns builtinsNs B.mb
  lim : B.hB.NoLimit
structure Inv (B : BH) (s : Shared) : Prop where
  base : BaseOk B
  keep : Keep All B.hB s.heap
  tab : TabOk s.heap
  bare : AllBare s.gens
  os : s.os = B.os
structure StepP (P : Addr → Prop) (G : Nat → Prop) (s s' : Shared) : Prop where
  keep : Keep P s.heap s'.heap
  live : ∀ b o, P b → s.heap.get? b = some o → ∃ o', s'.heap.get? b = some o'
  tab : TabOk s.heap → TabOk s'.heap
  gens : ∀ (g : Nat) (x : GenState), G g → s.gens[g]? = some x → s'.gens[g]? = some x
  gsize : s.gens.size ≤ s'.gens.size
  bare : AllBare s.gens → AllBare s'.gens
  os : s'.os = s.os
noncomputable abbrev AllG : Nat → Prop := fun _ => True
noncomputable abbrev Step := StepP All AllG

theorem Keep.refl (P : Addr → Prop) (h : Heap) : Keep P h h := fun _ _ _ _ e => e
theorem Keep.trans {P : Addr → Prop} {h h' h'' : Heap} (a : Keep P h h') (b : Keep P h' h'') : Keep P h h'' := fun x o p q e => b x o p q (a x o p q e)
theorem Keep.mono {P P' : Addr → Prop} {h h' : Heap} (a : Keep P h h') (k : ∀ b, P' b → P b) : Keep P' h h' := fun x o p q e => a x o (k x p) q e
theorem Keep.of {P : Addr → Prop} {h h' : Heap} (k : ∀ b o, h.get? b = some o → h'.get? b = some o) : Keep P h h' := fun x o _ _ e => k x o e
theorem TabOk.keeps {h h' : Heap} (t : TabOk h) (k : ∀ b o, h.get? b = some o → h'.get? b = some o) : TabOk h' := by
  obtain ⟨ps, a, b, c⟩ := t
  exact ⟨ps, a.keeps k, b.keeps k, c.imp id fun ⟨c', n, e, r⟩ => ⟨c', n, e, r.keeps k⟩⟩
/-- only objects that are no records have changed -/
theorem TabOk.keepsBut {h h' : Heap} (t : TabOk h) (k : ∀ b o vs, o.data = .fields vs → o.cls = .none ∨ o.cls = .type "code" → h.get? b = some o → h'.get? b = some o) (hc : ∀ c o vs, h.get? c = some o → o.data = .fields vs → (∃ q t, vs[1]? = some (.str q t)) → h'.get? c = some o) : TabOk h' := by
  obtain ⟨ps, a, b, c⟩ := t
  obtain ⟨⟨o', vs', e1, e2, e3, e4⟩, e5⟩ := b
  obtain ⟨o, vs, file, tf, flags, tg, inF, text, tt, op, ho, hd, h11, h2, h7, h9, h10, hop, hpd, htr, hne⟩ := a
  have k1 := k _ _ _ e3 (.inr e2) e1
  have k2 := k _ _ _ rfl (.inl rfl) e5
  have eo : o = o' := Option.some.inj (ho.symm.trans e1)
  subst eo
  have eop : op = { cls := .none, data := .fields ps } := Option.some.inj (hop.symm.trans e5)
  subst eop
  refine ⟨ps, ⟨o, vs, file, tf, flags, tg, inF, text, tt, _, k1, hd, h11, h2, h7, h9, h10, k2, hpd, htr, hne⟩, ⟨⟨o, vs', k1, e2, e3, e4⟩, k2⟩, c.imp id fun ⟨c', n, e, r⟩ => ⟨c', n, e, ?_⟩⟩
  obtain ⟨c, o, vs, t, x1, x2, x3, x4⟩ := r
  exact ⟨c, o, vs, t, x1, hc _ _ _ x2 x3 ⟨_, _, x4⟩, x3, x4⟩

theorem StepP.refl (P : Addr → Prop) (G : Nat → Prop) (s : Shared) : StepP P G s s := ⟨.refl _ _, fun _ o _ e => ⟨o, e⟩, id, fun _ _ _ e => e, Nat.le_refl _, id, rfl⟩
theorem StepP.trans {P : Addr → Prop} {G : Nat → Prop} {s s' s'' : Shared} (a : StepP P G s s') (b : StepP P G s' s'') : StepP P G s s'' :=
  ⟨a.keep.trans b.keep, fun x o p e => let ⟨o', e'⟩ := a.live x o p e; b.live x o' p e', fun t => b.tab (a.tab t), fun g x q e => b.gens g x q (a.gens g x q e), Nat.le_trans a.gsize b.gsize, fun t => b.bare (a.bare t), b.os.trans a.os⟩
theorem StepP.mono {P P' : Addr → Prop} {G G' : Nat → Prop} {s s' : Shared} (a : StepP P G s s') (k : ∀ b, P' b → P b) (kg : ∀ b, G' b → G b) : StepP P' G' s s' := ⟨a.keep.mono k, fun b o p e => a.live b o (k b p) e, a.tab, fun g x q e => a.gens g x (kg g q) e, a.gsize, a.bare, a.os⟩
theorem Step.any {P : Addr → Prop} {G : Nat → Prop} {s s' : Shared} (a : Step s s') : StepP P G s s' := StepP.mono a (fun _ _ => trivial) fun _ _ => trivial
/-- the heap alone has grown -/
theorem Step.heap {s s' : Shared} (k : ∀ b o, s.heap.get? b = some o → s'.heap.get? b = some o) (g : s'.gens = s.gens) (o : s'.os = s.os) : Step s s' :=
  ⟨.of k, fun b o _ e => ⟨o, k b o e⟩, fun t => t.keeps k, fun _ _ _ e => g ▸ e, Nat.le_of_eq (by rw [g]), fun t => g ▸ t, o⟩
theorem StepP.lv {s s' : Shared} (t : StepP All AllG s s') : ∀ b o, s.heap.get? b = some o → ∃ o', s'.heap.get? b = some o' := fun b o e => t.live b o trivial e
theorem Step.toks {s : Shared} {tk : Nat} {d : Drawn} : Step s { s with toks := tk, drawn := d } := .heap (fun _ _ e => e) rfl rfl
theorem Step.push {s : Shared} {o : Obj} {tk : Nat} : Step s { s with heap := s.heap.push o, toks := tk } :=
  .heap (fun _ _ e => Heap.get?_push_of_some _ e) rfl rfl
theorem Inv.step {B : BH} {s s' : Shared} (i : Inv B s) (t : Step s s') : Inv B s' := ⟨i.base, i.keep.trans t.keep, t.tab i.tab, t.bare i.bare, t.os.trans i.os⟩
theorem Inv.stepP {B : BH} {P : Addr → Prop} {G : Nat → Prop} {s s' : Shared} (i : Inv B s) (t : StepP P G s s') (hp : ∀ b o, B.hB.get? b = some o → P b) : Inv B s' :=
  ⟨i.base, fun b o p q e => t.keep b o (hp b o e) q (i.keep b o p q e), t.tab i.tab, t.bare i.bare, t.os.trans i.os⟩

theorem Plain.type {o : Obj} {n : String} (h : o.cls = .type n) : Plain o := .inl (by rw [h]; intro e; cases e)
theorem VR.step {P : Addr → Prop} {h h' : Heap} {v d} (r : VR P h v d) (k : Keep P h h') : VR P h' v d := by
  refine VR.rec (motive_1 := fun v d _ => VR P h' v d) (motive_2 := fun vs ds _ => VRs P h' vs ds) .none .bool .int .str ?_ ?_ ?_ .nil ?_ r
  · intro a vs n xs p e _ ih; exact .list p (k _ _ p (.inl (.type rfl)) e) ih
  · intro a vs n xs p e _ ih; exact .tuple p (k _ _ p (.inl (.type rfl)) e) ih
  · intro a c c' fd oc vs t ocl rv d p e L p' n e1 e2 e3 pc e4 e5 _ ih
    exact .fn p (k _ _ p (.inl (.type rfl)) e) L p' n (k _ _ p' (.inr n) e1) e2 e3 pc (k _ _ pc (.inl (.inr fun vs q => by rw [e5] at q; cases q)) e4) e5 ih
  · intro v vs d ds _ _ a b; exact .cons a b
theorem VRs.step {P : Addr → Prop} {h h' : Heap} (k : Keep P h h') : ∀ {vs ds}, VRs P h vs ds → VRs P h' vs ds
  | _, _, .nil => .nil
  | _, _, .cons a b => .cons (a.step k) (VRs.step k b)
/-- the same heap, another P -/
theorem VR.narrow {P P' : Addr → Prop} {h : Heap} {v d} (r : VR P h v d) (k : ∀ b o, h.get? b = some o → P b → P' b) : VR P' h v d := r.move fun b _ p e => ⟨k b _ e p, e⟩
theorem VRs.narrow {P P' : Addr → Prop} {h : Heap} {v d} (r : VRs P h v d) (k : ∀ b o, h.get? b = some o → P b → P' b) : VRs P' h v d := r.move fun b _ p e => ⟨k b _ e p, e⟩

noncomputable def Fresh (P : Addr → Prop) (h : Heap) : Prop := ∀ a, h.get? a = none → P a
theorem get_size (h : Heap) : h.get? h.objs.size = none := by
  cases q : h.get? h.objs.size with
  | none => rfl
  | some o => exact absurd (Heap.lt_size q) (Nat.lt_irrefl _)
theorem Fresh.le {P : Addr → Prop} {h h' : Heap} (f : Fresh P h) (l : ∀ b o, h.get? b = some o → ∃ o', h'.get? b = some o') : Fresh P h' := fun a q => f a (by
  cases e : h.get? a with
  | none => rfl
  | some o => obtain ⟨o', e'⟩ := l a o e; rw [q] at e'; cases e')
theorem Fresh.leP {P N : Addr → Prop} {G : Nat → Prop} {s s' : Shared} (f : Fresh P s.heap) (t : StepP N G s s') (hx : ∀ b, ¬ N b → P b ∨ ∃ o, s'.heap.get? b = some o) : Fresh P s'.heap := fun a q => by
  by_cases n : N a
  · refine f a ?_
    cases e : s.heap.get? a with
    | none => rfl
    | some o => obtain ⟨o', e'⟩ := t.live a o n e; rw [q] at e'; cases e'
  · rcases hx a n with p | ⟨o, e⟩
    · exact p
    · rw [q] at e; cases e
theorem Fresh.new {P : Addr → Prop} {h : Heap} (f : Fresh P h) : P h.objs.size := f _ (get_size h)

structure Room (d : Nat) (A : Around) : Prop where
  handled : A.handled = none
  depth : A.depth + 4 * d < recursionLimit
  units : A.units + 100 * d < cLine
theorem Room.le {d d' : Nat} {A : Around} (r : Room d A) (h : d' ≤ d) : Room d' A := ⟨r.handled, by have := r.depth; omega, by have := r.units; omega⟩

/-! frames -/
noncomputable abbrev Fm := List (Option PyData)
structure Cx where
  ns : List Str
  sc : Scope
  own : Option Nat
  cw : Str → Bool := fun _ => true
  cd : Bool := false

noncomputable def Rd (h : Heap) (env : Env) (x : Str) (v : Value) : Prop :=
  (env.kindOf x = some .local ∧ ∃ m, h.Ns env.locals m ∧ m x = some v) ∨
  ((env.kindOf x = some .cell ∨ env.kindOf x = some .free) ∧ ∃ c, env.cells.lookup x = some c ∧ h.IsCell c (some v))

structure FrameOk (cx : Cx) (P W : Addr → Prop) (h : Heap) (env : Env) (fr : Fm) : Prop where
  sc : env.scope = cx.sc
  kind : cx.sc.kind = .function
  glob : env.globals = mainGlobals
  blt : env.builtins = builtinsNs
  ns : ∃ m, h.Ns env.locals m
  wl : W env.locals
  wp : ∀ b, W b → ¬ P b
  wlt : ∀ b, W b → ∃ o, h.get? b = some o
  cl : ∀ x c, env.cells.lookup x = some c → ∃ v, h.IsCell c v
  has : (∀ x, cx.sc.names.lookup x = some .cell ∨ cx.sc.names.lookup x = some .free → ∃ c, env.cells.lookup x = some c) ∧ (cx.cd = true → env.code = .ref CO ∧ env.qual = lamPre)
  slot : ∀ i x d, cx.ns[i]? = some x → fr[i]? = some (some d) → cx.own ≠ some i → ∃ rv, Rd h env x rv ∧ VR P h rv d
  own : ∀ i x d, cx.own = some i → cx.ns[i]? = some x → fr[i]? = some (some d) → ∃ a vs n ds, d = .list ds ∧ Rd h env x (.ref a) ∧ W a ∧ h.get? a = some { cls := .type "list", data := .seq (List.toArray vs) n } ∧ VRs P h vs ds

theorem Heap.Ns.kept {h h' : Heap} {a : Addr} {m : Str → Option Value} (n : h.Ns a m) (k : ∀ o, h.get? a = some o → Plain o → h'.get? a = some o) : h'.Ns a m := by
  obtain ⟨o, es, ep, e, dd, r⟩ := n
  exact ⟨o, es, ep, k o e (.inr fun vs q => by rw [dd] at q; cases q), dd, r⟩
theorem IsCell.kept {h h' : Heap} {a : Addr} {v : Option Value} (n : h.IsCell a v) (k : ∀ o, h.get? a = some o → Plain o → h'.get? a = some o) : h'.IsCell a v := by
  obtain ⟨o, e, dd⟩ := n
  exact ⟨o, k o e (.inr fun vs q => by rw [dd] at q; cases q), dd⟩
theorem Rd.keeps {h h' : Heap} {env : Env} {x : Str} {v : Value} (k : Keep All h h') (r : Rd h env x v) : Rd h' env x v := by
  rcases r with ⟨a, m, b, c⟩ | ⟨a, c, e1, e2⟩
  · exact .inl ⟨a, m, Heap.Ns.kept b fun o e p => k _ _ trivial (.inl p) e, c⟩
  · exact .inr ⟨a, c, e1, IsCell.kept e2 fun o e p => k _ _ trivial (.inl p) e⟩
theorem FrameOk.step {cx : Cx} {P W : Addr → Prop} {s s' : Shared} {env : Env} {fr : Fm} (F : FrameOk cx P W s.heap env fr) (t : Step s s') : FrameOk cx P W s'.heap env fr := by
  have k := t.keep
  obtain ⟨m, n1⟩ := F.ns
  refine ⟨F.sc, F.kind, F.glob, F.blt, ⟨m, Heap.Ns.kept n1 fun o e p => k _ _ trivial (.inl p) e⟩, F.wl, F.wp, fun b w => let ⟨o, e⟩ := F.wlt b w; t.lv b o e, fun x c q => let ⟨v, e⟩ := F.cl x c q; ⟨v, IsCell.kept e fun o e p => k _ _ trivial (.inl p) e⟩, F.has, fun i x d a b c => ?_, fun i x d a b c => ?_⟩
  · obtain ⟨rv, r, q⟩ := F.slot i x d a b c
    exact ⟨rv, r.keeps k, q.step (k.mono fun _ _ => trivial)⟩
  · obtain ⟨a', vs, n, ds, e, r, p, q, z⟩ := F.own i x d a b c
    exact ⟨a', vs, n, ds, e, r.keeps k, p, k _ _ trivial (.inl (.type rfl)) q, z.step (k.mono fun _ _ => trivial)⟩

/-- what an expression means, and that the machine does it -/
noncomputable def SimE (B : BH) (d : Nat) (cx : Cx) (e : Expr) (f : Fm → Option PyData) : Prop :=
  ∀ {A : Around} {s : Shared} {env : Env} {fr : Fm} {P W : Addr → Prop} {dv : PyData} {Q : Value → Shared → Prop} {E : Value → Shared → Prop},
    Room d A → Inv B s → FrameOk cx P W s.heap env fr → Fresh P s.heap → f fr = some dv →
    (∀ rv s', Step s s' → VR P s'.heap rv dv → Q rv s') → wpAny (MM B.w) A (eval e env) Q E s
end Mine
end

section
open PySem PySem.W PyProof.Rows PySem.Calls
set_option maxRecDepth 100000
namespace Mine

section
variable {B : BH} {d : Nat} {cx : Cx}

theorem simE_int {i : Int} {k : Nat} {pos : Pos} : SimE B d cx (.Constant (.int i) k pos) fun _ => some (.int i) := by
  intro A s env fr P W dv Q E _ _ _ _ e h
  cases e
  exact wpAny_Constant_int (h _ _ .toks (.int _ _))
theorem simE_str {x : Str} {k : Nat} {pos : Pos} : SimE B d cx (.Constant (.str x) k pos) fun _ => some (.str x) := by
  intro A s env fr P W dv Q E _ _ _ _ e h
  cases e
  exact wpAny_Constant_str (h _ _ .toks (.str _ _))
theorem simE_none {k : Nat} {pos : Pos} : SimE B d cx (.Constant .none k pos) fun _ => some .none := by
  intro A s env fr P W dv Q E _ _ _ _ e h
  cases e
  exact wpAny_Constant_none (h _ _ (.refl _ _ _) .none)
theorem simE_bool {b : Bool} {k : Nat} {pos : Pos} : SimE B d cx (.Constant (.bool b) k pos) fun _ => some (.bool b) := by
  intro A s env fr P W dv Q E _ _ _ _ e h
  cases e
  exact wpAny_Constant_bool (h _ _ (.refl _ _ _) (.bool _))

noncomputable def getV (i : Nat) (fr : Fm) : Option PyData := (fr[i]?).join
theorem getV_eq {i : Nat} {fr : Fm} {dv : PyData} (e : getV i fr = some dv) : fr[i]? = some (some dv) := by
  unfold getV at e
  cases q : fr[i]? with
  | none => rw [q] at e; cases e
  | some o => rw [q] at e; cases o with
    | none => cases e
    | some x => cases e; rfl

theorem wp_load {A : Around} {s : Shared} {env : Env} {x : Str} {v : Value} {Q E} (w : World) (hk : env.scope.kind = .function) (r : Rd s.heap env x v) (h : Q v s) (hc : (x == Str.ofString "__classdict__") = false) : wpAny (MM w) A (loadName env x) Q E s := by
  rcases r with ⟨a, m, b, c⟩ | ⟨a | a, c, e1, e2⟩
  · exact wpAny_loadName_local hk a b c h
  · exact wpAny_loadName_cell hk a e1 e2 h
  · exact wpAny_loadName_free hk a e1 e2 h hc

theorem simE_var {x : Str} {pos : Pos} (i : Nat) (hi : cx.ns[i]? = some x) (ho : cx.own ≠ some i) (hc : (x == Str.ofString "__classdict__") = false) (hd : (x == ("__debug__" : Str)) = false) : SimE B d cx (.Name x pos) (getV i) := by
  intro A s env fr P W dv Q E _ _ F _ e h
  obtain ⟨rv, r, q⟩ := F.slot i x dv hi (getV_eq e) ho
  exact wpAny_Name (wp_load B.w (by rw [F.sc]; exact F.kind) r (h _ _ (.refl _ _ _) q) hc) hd

/-! a list of expressions -/
noncomputable def SimL (B : BH) (d : Nat) (cx : Cx) (es : List Expr) (f : Fm → Option (List PyData)) : Prop :=
  ∀ {A : Around} {s : Shared} {env : Env} {fr : Fm} {P W : Addr → Prop} {dv : List PyData} {pos : Pos} {Q : List Value → Shared → Prop} {E : Value → Shared → Prop},
    Room d A → Inv B s → FrameOk cx P W s.heap env fr → Fresh P s.heap → f fr = some dv →
    (∀ rv s', Step s s' → VRs P s'.heap rv dv → Q rv s') → wpAny (MM B.w) A (spliced (backTo pos (starEach es env))) Q E s
theorem simL_nil : SimL B d cx [] fun _ => some [] := by
  intro A s env fr P W dv pos Q E _ _ _ _ e h
  cases e
  exact wpAny_pure (h _ _ (.refl _ _ _) .nil)
noncomputable def consF (f : Fm → Option PyData) (g : Fm → Option (List PyData)) (fr : Fm) : Option (List PyData) := (f fr).bind fun a => (g fr).bind fun b => some (a :: b)
theorem bind_some {α β : Type} {x : Option α} {f : α → Option β} {b : β} (h : x.bind f = some b) : ∃ a, x = some a ∧ f a = some b := by
  cases x with
  | none => cases h
  | some a => exact ⟨a, rfl, h⟩
theorem simL_cons {e : Expr} {es : List Expr} {f g} (he : SimE B d cx e f) (hs : SimL B d cx es g)
    (hst : ∀ env, starEach (e :: es) env = (false, eval e env) :: starEach es env := by intro _; rfl) : SimL B d cx (e :: es) (consF f g) := by
  intro A s env fr P W dv pos Q E R I F fp ev h
  obtain ⟨a, e1, ev⟩ := bind_some ev
  obtain ⟨b, e2, ev⟩ := bind_some ev
  cases ev
  rw [hst]
  show wpAny _ A (spliced ((false, eval e env) :: backTo pos (starEach es env))) _ _ _
  unfold spliced
  refine wpAny_bind (he R I F fp e1 fun rv s1 t1 r1 => wpAny_bind (wpAny_pure (wpAny_bind (wpAny_holding (hs R (I.step t1) (F.step t1) (fp.le t1.lv) e2 fun rvs s2 t2 r2 => wpAny_pure ?_)))))
  exact h _ _ (t1.trans t2) (.cons (r1.step (t2.keep.mono fun _ _ => trivial)) r2)

theorem simE_list {es : List Expr} {pos : Pos} {f} (hs : SimL B d cx es f) : SimE B d cx (.List es pos) fun fr => (f fr).bind fun ds => if ds.length ≤ 1000 then some (.list ds) else none := by
  intro A s env fr P W dv Q E R I F fp ev h
  obtain ⟨a, e1, ev⟩ := bind_some ev
  split at ev
  · rename_i hl
    cases ev
    refine wpAny_List_spliced (hs R I F fp e1 fun rvs s1 t1 r1 => ⟨by rw [r1.length]; have : sizeLine = 2 ^ 24 := rfl; omega, h _ _ (t1.trans Step.push) ?_⟩)
    exact VR.list (fp.le t1.lv).new (Heap.get?_push_size _ rfl) (r1.step (Keep.of fun _ _ e => Heap.get?_push_of_some _ e))
  · cases ev
theorem simE_tuple {es : List Expr} {k : Nat} {pos : Pos} {f} (hs : SimL B d cx es f) : SimE B d cx (.Tuple es k pos) fun fr => (f fr).bind fun ds => if ds.length ≤ 1000 then some (.tuple ds) else none := by
  intro A s env fr P W dv Q E R I F fp ev h
  obtain ⟨a, e1, ev⟩ := bind_some ev
  split at ev
  · rename_i hl
    cases ev
    refine wpAny_Tuple_spliced (hs R I F fp e1 fun rvs s1 t1 r1 => ⟨by rw [r1.length]; have : sizeLine = 2 ^ 24 := rfl; omega, h _ _ (t1.trans Step.push) ?_⟩)
    exact VR.tuple (fp.le t1.lv).new (Heap.get?_push_size _ rfl) (r1.step (Keep.of fun _ _ e => Heap.get?_push_of_some _ e))
  · cases ev
end
end Mine
end

section
open PySem PySem.W PyProof.Rows PySem.Calls
set_option maxRecDepth 100000
namespace Mine

noncomputable def rep {α : Type} (l : List α) (n : Int) : List α := (List.replicate n.toNat l).flatten
noncomputable def isI : PyData → Option Int
  | .int i => some i
  | _ => none
noncomputable def isS : PyData → Option Str
  | .str x => some x
  | _ => none
noncomputable def isL : PyData → Option (List PyData)
  | .list l => some l
  | _ => none
noncomputable def isT : PyData → Option (List PyData)
  | .tuple l => some l
  | _ => none
noncomputable def isB : PyData → Option Bool
  | .bool b => some b
  | _ => none
noncomputable def isN : PyData → Option Unit
  | .none => some ()
  | _ => none
noncomputable def isD : PyData → Option Unit
  | .dict _ => some ()
  | _ => none
theorem isI_eq : ∀ {d : PyData} {i : Int}, isI d = some i → d = .int i
  | .int _, _, h => congrArg PyData.int (Option.some.inj h)
theorem isS_eq : ∀ {d : PyData} {x : Str}, isS d = some x → d = .str x
  | .str _, _, h => congrArg PyData.str (Option.some.inj h)
theorem isL_eq : ∀ {d : PyData} {l : List PyData}, isL d = some l → d = .list l
  | .list _, _, h => congrArg PyData.list (Option.some.inj h)
theorem isT_eq : ∀ {d : PyData} {l : List PyData}, isT d = some l → d = .tuple l
  | .tuple _, _, h => congrArg PyData.tuple (Option.some.inj h)
theorem isB_eq : ∀ {d : PyData} {b : Bool}, isB d = some b → d = .bool b
  | .bool _, _, h => congrArg PyData.bool (Option.some.inj h)
theorem isN_eq : ∀ {d : PyData} {u : Unit}, isN d = some u → d = .none
  | .none, _, _ => rfl
theorem isD_eq : ∀ {d : PyData} {u : Unit}, isD d = some u → ∃ l, d = .dict l
  | .dict l, _, _ => ⟨l, rfl⟩
noncomputable def two {α β γ : Type} (p : PyData → Option α) (q : PyData → Option β) (f : α → β → Option γ) (a b : PyData) : Option γ := (p a).bind fun x => (q b).bind fun y => f x y
theorem two_some {α β γ : Type} {p : PyData → Option α} {q : PyData → Option β} {f : α → β → Option γ} {a b : PyData} {c : γ} (h : two p q f a b = some c) : ∃ x y, p a = some x ∧ q b = some y ∧ f x y = some c := by
  obtain ⟨x, e1, h⟩ := bind_some h
  obtain ⟨y, e2, h⟩ := bind_some h
  exact ⟨x, y, e1, e2, h⟩
theorem two_int {γ : Type} {f : Int → Int → Option γ} {a b : PyData} {c : γ} (h : two isI isI f a b = some c) : ∃ x y, a = .int x ∧ b = .int y ∧ f x y = some c := by
  obtain ⟨x, y, e1, e2, h⟩ := two_some h
  exact ⟨x, y, isI_eq e1, isI_eq e2, h⟩
theorem two_str {γ : Type} {f : Str → Str → Option γ} {a b : PyData} {c : γ} (h : two isS isS f a b = some c) : ∃ x y, a = .str x ∧ b = .str y ∧ f x y = some c := by
  obtain ⟨x, y, e1, e2, h⟩ := two_some h
  exact ⟨x, y, isS_eq e1, isS_eq e2, h⟩
theorem two_list {γ : Type} {f : List PyData → List PyData → Option γ} {a b : PyData} {c : γ} (h : two isL isL f a b = some c) : ∃ x y, a = .list x ∧ b = .list y ∧ f x y = some c := by
  obtain ⟨x, y, e1, e2, h⟩ := two_some h
  exact ⟨x, y, isL_eq e1, isL_eq e2, h⟩
theorem or_some {γ : Type} {a b : Option γ} {c : γ} (h : a.or b = some c) : a = some c ∨ b = some c := by
  cases a with
  | none => exact .inr h
  | some x => exact .inl h
/-- by kind: an int, a text, a list -/
noncomputable def caseA {γ : Type} (fi : Int → Option γ) (fs : Str → Option γ) (fl : List PyData → Option γ) : PyData → Option γ
  | .int i => fi i
  | .str x => fs x
  | .list l => fl l
  | _ => none
theorem caseA_some {γ : Type} {fi : Int → Option γ} {fs : Str → Option γ} {fl : List PyData → Option γ} {d : PyData} {c : γ} (h : caseA fi fs fl d = some c) :
    (∃ i, d = .int i ∧ fi i = some c) ∨ (∃ x, d = .str x ∧ fs x = some c) ∨ ∃ l, d = .list l ∧ fl l = some c := by
  cases d with
  | int i => exact .inl ⟨i, rfl, h⟩
  | str x => exact .inr (.inl ⟨x, rfl, h⟩)
  | list l => exact .inr (.inr ⟨l, rfl, h⟩)
  | _ => exact nomatch h
theorem bindI_some {γ : Type} {d : PyData} {f : Int → Option γ} {c : γ} (h : (isI d).bind f = some c) : ∃ i, d = .int i ∧ f i = some c := let ⟨i, e, h⟩ := bind_some h; ⟨i, isI_eq e, h⟩
theorem bindS_some {γ : Type} {d : PyData} {f : Str → Option γ} {c : γ} (h : (isS d).bind f = some c) : ∃ i, d = .str i ∧ f i = some c := let ⟨i, e, h⟩ := bind_some h; ⟨i, isS_eq e, h⟩
theorem bindL_some {γ : Type} {d : PyData} {f : List PyData → Option γ} {c : γ} (h : (isL d).bind f = some c) : ∃ i, d = .list i ∧ f i = some c := let ⟨i, e, h⟩ := bind_some h; ⟨i, isL_eq e, h⟩
theorem if_some {γ : Type} {p : Prop} [Decidable p] {z c : γ} (h : (if p then some z else none) = some c) : p ∧ z = c := by
  by_cases q : p
  · rw [if_pos q] at h; exact ⟨q, Option.some.inj h⟩
  · rw [if_neg q] at h; exact nomatch h
section
variable {γ : Type} {a b : PyData} {c : γ} {x y : Value} {P : Addr → Prop} {h : Heap}
theorem ii_elim {f : Int → Int → Option γ} (hx : VR P h x a) (hy : VR P h y b) (hc : two isI isI f a b = some c) (G : Value → Value → Prop) (g : ∀ i j t u, f i j = some c → G (.int i t) (.int j u)) : G x y := by
  obtain ⟨i, j, rfl, rfl, e⟩ := two_int hc
  obtain ⟨t, rfl⟩ := hx.int'
  obtain ⟨u, rfl⟩ := hy.int'
  exact g i j t u e
theorem ss_elim {f : Str → Str → Option γ} (hx : VR P h x a) (hy : VR P h y b) (hc : two isS isS f a b = some c) (G : Value → Value → Prop) (g : ∀ i j t u, f i j = some c → G (.str i t) (.str j u)) : G x y := by
  obtain ⟨i, j, rfl, rfl, e⟩ := two_str hc
  obtain ⟨t, rfl⟩ := hx.str'
  obtain ⟨u, rfl⟩ := hy.str'
  exact g i j t u e
theorem i_elim {f : Int → Option γ} (hx : VR P h x a) (hc : (isI a).bind f = some c) (G : Value → Prop) (g : ∀ i t, f i = some c → G (.int i t)) : G x := by
  obtain ⟨i, rfl, e⟩ := bindI_some hc
  obtain ⟨t, rfl⟩ := hx.int'
  exact g i t e
theorem s_elim {f : Str → Option γ} (hx : VR P h x a) (hc : (isS a).bind f = some c) (G : Value → Prop) (g : ∀ i t, f i = some c → G (.str i t)) : G x := by
  obtain ⟨i, rfl, e⟩ := bindS_some hc
  obtain ⟨t, rfl⟩ := hx.str'
  exact g i t e
theorem l_elim {f : List PyData → Option γ} (hx : VR P h x a) (hc : (isL a).bind f = some c) (G : Value → Prop) (g : ∀ xs l vs n, P l → h.get? l = some { cls := .type "list", data := .seq (List.toArray vs) n } → VRs P h vs xs → f xs = some c → G (.ref l)) : G x := by
  obtain ⟨i, rfl, e⟩ := bindL_some hc
  obtain ⟨l, vs, n, rfl, p, q, r⟩ := hx.isList
  exact g i l vs n p q r e
theorem a_elim {fi : Int → Option γ} {fs : Str → Option γ} {fl : List PyData → Option γ} (hx : VR P h x a) (hc : caseA fi fs fl a = some c) (G : Value → Prop) (gi : ∀ i t, fi i = some c → G (.int i t)) (gs : ∀ i t, fs i = some c → G (.str i t))
    (gl : ∀ xs l vs n, P l → h.get? l = some { cls := .type "list", data := .seq (List.toArray vs) n } → VRs P h vs xs → fl xs = some c → G (.ref l)) : G x := by
  rcases caseA_some hc with ⟨i, rfl, e⟩ | ⟨i, rfl, e⟩ | ⟨i, rfl, e⟩
  · obtain ⟨t, rfl⟩ := hx.int'
    exact gi i t e
  · obtain ⟨t, rfl⟩ := hx.str'
    exact gs i t e
  · obtain ⟨l, vs, n, rfl, p, q, r⟩ := hx.isList
    exact gl i l vs n p q r e
end
/-- the binary operators that the text uses, over plain data; none: not covered -/
noncomputable def binV (op : Operator) (a b : PyData) : Option PyData := match op with
  | .Add => caseA (fun i => (isI b).bind fun j => some (.int (i + j))) (fun x => (isS b).bind fun y => if x.length + y.length ≤ 100000 then some (.str (x ++ y)) else none) (fun l => (isL b).bind fun m => if l.length + m.length ≤ 100000 then some (.list (l ++ m)) else none) a
  | .Sub => two isI isI (fun a b => some (.int (a - b))) a b
  | .FloorDiv => two isI isI (fun a b => if 0 < b ∧ b < 1000 then some (.int (a.fdiv b)) else none) a b
  | .Mod => two isI isI (fun a b => if b = 0 then none else some (.int (a.fmod b))) a b
  | .Pow => two isI isI (fun a n => if a = 10 ∧ n = 6 then some (.int 1000000) else none) a b
  | .Mult => caseA (fun n => (isS b).bind fun x => if x.length ≤ 1000 ∧ -1000 < n ∧ n < 1000 then some (.str (Txt.mul x n)) else none) (fun x => (isI b).bind fun n => if x.length ≤ 1000 ∧ -1000 < n ∧ n < 1000 then some (.str (Txt.mul x n)) else none)
      (fun l => (isI b).bind fun n => if l.length ≤ 1000 ∧ -1000 < n ∧ n < 1000 then some (.list (rep l n)) else none) a
  | _ => none

theorem pylong_small {a b : Int} (h0 : 0 < b) (h : b < 1000) : Builtin.divisionGoesByPylong a b = false := by
  unfold Builtin.divisionGoesByPylong
  have hb : (if b == 0 then 0 else b.natAbs.log2 / 30 + 1) ≤ 1 := by
    rw [if_neg (by simp; omega)]
    have : b.natAbs.log2 < 10 := (Nat.log2_lt (by omega)).mpr (by omega)
    omega
  simp only [Bool.and_eq_false_iff, decide_eq_false_iff_not]
  left
  omega

theorem VRs.rep {P : Addr → Prop} {h : Heap} {vs : List Value} {ds : List PyData} (r : VRs P h vs ds) : ∀ k : Nat, VRs P h (List.replicate k vs).flatten (List.replicate k ds).flatten
  | 0 => .nil
  | k + 1 => by
    rw [List.replicate_succ, List.replicate_succ, List.flatten_cons, List.flatten_cons]
    exact r.append (r.rep k)

theorem mulOk_small {x : Str} {n : Int} (h1 : x.length ≤ 1000) (h2 : -1000 < n) (h3 : n < 1000) : MulOk x n := by
  refine ⟨?_, fun h _ => ?_, fun h _ => ?_⟩
  · rw [decide_eq_false (by omega), decide_eq_false (by omega)]; rfl
  · have : (1000 : Int) ≤ (2 ^ 63 - 1) / n := by
      rw [Int.le_ediv_iff_mul_le (by omega)]; omega
    omega
  · have h4 : n.toNat ≤ 1000 := by omega
    have := Nat.mul_le_mul h1 h4
    refine decide_eq_false ?_
    have : sizeLine = 2 ^ 24 := rfl
    omega

theorem mul_rng {n : Int} (h1 : -1000 < n) (h2 : n < 1000) : -(2 ^ 63 : Int) ≤ n ∧ n < 2 ^ 63 ∧ n.toNat ≤ 1000 := by omega
section
variable {B : BH} {A : Around} {s : Shared} {P : Addr → Prop} {Q : Value → Shared → Prop} {E : Value → Shared → Prop} {x y : Value} {a b c : PyData}

theorem mul_int_str {w : World} {n : Int} {u t : Tok} {z : Str} (hok : MulOk z n) (h : ∀ t' k, Q (.str (Txt.mul z n) t') { s with toks := k }) : wpAny (MM w) A (binaryOp .Mult (.int n u) (.str z t)) Q E s := by
  refine lm_binaryOp_repeat_right (T := "str") (U := "int") (by decide) (fun s' => typeIs_int s' n u) (typeIs_str s z t) F.fills_int_mul noFill_str_mul F.slot_int_mul lm_noRepeat_int repeat_str F.slot_int_index.lookup
    (call_gives F.slot_int_mul (typeIs_int s n u) F.entry_int_mul (F.args_int_mul_2 _ _) (AutoIntG3.int___mul___int_str_0 n u z t)
      ⟨rfl, typeIs_str _ z t, call_gives F.slot_str_mul (typeIs_str s z t) F.entry_str_mul (F.args_str_mul_2 _ _) (gives_str_mul z n t u hok.1 hok.2.1 hok.2.2) ?_⟩)
  unfold Txt.mul at h
  by_cases h1 : n < 1
  · rw [if_pos h1]; have h' := h s.toks (s.toks + 1); rw [if_pos h1] at h'; exact ⟨by decide, h'⟩
  · rw [if_neg h1]; refine post_val_or_made (fun hc => fits_reps (hok.2.2 h1 (by simpa using hc))) fun t' k => ?_
    have h' := h t' k; rw [if_neg h1] at h'; exact h'

theorem mul_list_any {w : World} {l : Addr} {vs : List Value} {n : Int} {u : Tok} (hl : s.heap.IsList l vs.toArray) (hlo : -(2 ^ 63 : Int) ≤ n) (hhi : n < 2 ^ 63) (hsz : vs.length * n.toNat ≤ 2 ^ 24)
    (h : Q (.ref s.heap.objs.size) { s with heap := s.heap.push { cls := .type "list", data := .seq (List.replicate n.toNat vs).flatten.toArray } }) : wpAny (MM w) A (binaryOp .Mult (.ref l) (.int n u)) Q E s := by
  obtain ⟨⟨cls, d, data, sl⟩, ho, hcl, k, hd⟩ := id hl
  simp only at hcl hd
  subst hcl hd
  have hsz' : vs.toArray.size * n.toNat ≤ 2 ^ 24 := by simpa using hsz
  refine wpAny_binaryOp_repeat_ref (T := "list") (U := "int") (by decide) ⟨_, ho, rfl⟩ (fun s' => typeIs_int s' n u) noFill_list_mul F.fills_int_mul F.slot_int_rmul repeat_list F.slot_int_index.lookup
    (call_meets F.slot_int_rmul (typeIs_int s n u) F.entry_int_rmul (F.args_int_rmul_2 _ _) (lm_int_rmul_list_any n u l vs.toArray k d sl)
      ⟨ho, rfl, ⟨_, ho, rfl⟩, call_meets F.slot_list_mul ⟨_, ho, rfl⟩ F.entry_list_mul (F.args_list_mul_2 _ _)
        (lm_list_mul_any l vs.toArray k d sl n u (by simp [Builtin.List.listFitsIndex]; omega) (by omega) (by simp [Builtin.List.listTooLong, sizeLine]; omega))
        ⟨ho, ?_⟩⟩)
  rw [listMul_foldl_if]
  exact h

theorem add_lists_any {w : World} {l b : Addr} {vs ws : List Value} (hl : s.heap.IsList l vs.toArray) (hb : s.heap.IsList b ws.toArray) (hsz : vs.length + ws.length ≤ sizeLine)
    (h : Q (.ref s.heap.objs.size) { s with heap := s.heap.push { cls := .type "list", data := .seq (vs ++ ws).toArray } }) : wpAny (MM w) A (binaryOp .Add (.ref l) (.ref b)) Q E s := by
  obtain ⟨⟨cls, dd, data, sl⟩, ho, hc, n, hd⟩ := id hl
  obtain ⟨⟨cls2, dd2, data2, sl2⟩, ho2, hc2, n2, hd2⟩ := id hb
  simp only at hc hd hc2 hd2
  subst hc hd hc2 hd2
  have e : vs.toArray ++ ws.toArray = (vs ++ ws).toArray := by simp
  refine concat_meets ⟨_, ho, rfl⟩ ⟨_, ho2, rfl⟩ noFill_list_add seq_list_add PySem.F.slot_list_add PySem.F.entry_list_add (PySem.F.args_list_add_2 _ _) (list_addW l b vs.toArray ws.toArray n n2 dd dd2 sl sl2 (by simpa using hsz)) ⟨ho, ho2, ?_⟩
  rw [e]
  exact h

theorem bin_ok {op : Operator} (hx : VR P s.heap x a) (hy : VR P s.heap y b) (fp : Fresh P s.heap) (hc : binV op a b = some c) (h : ∀ rv s', Step s s' → VR P s'.heap rv c → Q rv s') : wpAny (MM B.w) A (binaryOp op x y) Q E s := by
  have hi : ∀ {i t k tk}, PyData.int i = c → Q (.int i t) { s with toks := k, drawn := tk } := fun e => h _ _ .toks (by rw [← e]; exact .int _ _)
  have hs : ∀ {i t k tk}, PyData.str i = c → Q (.str i t) { s with toks := k, drawn := tk } := fun e => h _ _ .toks (by rw [← e]; exact .str _ _)
  have hl : ∀ {vs ds}, VRs P s.heap vs ds → PyData.list ds = c → Q (.ref s.heap.objs.size) { s with heap := s.heap.push { cls := .type "list", data := .seq vs.toArray } } := fun r e => h _ _ Step.push (by
    rw [← e]; exact .list fp.new (Heap.get?_push_size _ rfl) (r.step (Keep.of fun _ _ e => Heap.get?_push_of_some _ e)))
  have sl : sizeLine = 2 ^ 24 := rfl
  cases op
  case Add =>
    refine a_elim hx hc (fun x => wpAny (MM B.w) A (binaryOp .Add x y) Q E s) (fun i t e => ?_) (fun i t e => ?_) fun xs l1 v1 n1 p1 i1 r1 e => ?_
    · exact i_elim hy e (fun y => wpAny (MM B.w) A (binaryOp .Add (.int i t) y) Q E s) fun j u e => add_int (hi (Option.some.inj e))
    · exact s_elim hy e (fun y => wpAny (MM B.w) A (binaryOp .Add (.str i t) y) Q E s) fun j u e => by
        obtain ⟨hz, e⟩ := if_some e
        exact add_str (fun t' k => hs e) (by rw [sl]; exact Nat.le_trans hz (by decide))
    · exact l_elim hy e (fun y => wpAny (MM B.w) A (binaryOp .Add (.ref l1) y) Q E s) fun ys l2 v2 n2 p2 i2 r2 e => by
        obtain ⟨hz, e⟩ := if_some e
        refine add_lists_any (isList_of i1) (isList_of i2) ?_ (hl (r1.append r2) e)
        rw [r1.length, r2.length, sl]; exact Nat.le_trans hz (by decide)
  case Sub => exact ii_elim hx hy hc (fun x y => wpAny (MM B.w) A (binaryOp .Sub x y) Q E s) fun i j t u e => sub_int (hi (Option.some.inj e))
  case FloorDiv =>
    exact ii_elim hx hy hc (fun x y => wpAny (MM B.w) A (binaryOp .FloorDiv x y) Q E s) fun i j t u e => by
      obtain ⟨hb, e⟩ := if_some e
      exact floordiv_int (Int.ne_of_gt hb.1) (hi e) (.inl (pylong_small hb.1 hb.2))
  case Mod =>
    exact ii_elim hx hy hc (fun x y => wpAny (MM B.w) A (binaryOp .Mod x y) Q E s) fun i j t u e => by
      split at e
      · exact nomatch e
      · exact mod_int' (by assumption) (hi (Option.some.inj e))
  case Pow =>
    exact ii_elim hx hy hc (fun x y => wpAny (MM B.w) A (binaryOp .Pow x y) Q E s) fun i j t u e => by
      obtain ⟨hab, e1⟩ := if_some e
      obtain ⟨rfl, rfl⟩ := hab
      exact pow_int (by decide) (by decide +kernel) (hi (Eq.trans (congrArg PyData.int (by decide +kernel)) e1))
  case Mult =>
    refine a_elim hx hc (fun x => wpAny (MM B.w) A (binaryOp .Mult x y) Q E s) (fun i t e => ?_) (fun i t e => ?_) fun xs l1 v1 n1 p1 i1 r1 e => ?_
    · exact s_elim hy e (fun y => wpAny (MM B.w) A (binaryOp .Mult (.int i t) y) Q E s) fun j u e => by
        obtain ⟨hb, e⟩ := if_some e
        exact mul_int_str (mulOk_small hb.1 hb.2.1 hb.2.2) fun t' k => hs e
    · exact i_elim hy e (fun y => wpAny (MM B.w) A (binaryOp .Mult (.str i t) y) Q E s) fun j u e => by
        obtain ⟨hb, e⟩ := if_some e
        exact SB.mul (mulOk_small hb.1 hb.2.1 hb.2.2) fun t' k => hs e
    · exact i_elim hy e (fun y => wpAny (MM B.w) A (binaryOp .Mult (.ref l1) y) Q E s) fun n u e => by
        obtain ⟨hb, e⟩ := if_some e
        refine mul_list_any (isList_of i1) (mul_rng hb.2.1 hb.2.2).1 (mul_rng hb.2.1 hb.2.2).2.1 ?_ (hl (r1.rep _) e)
        rw [r1.length]
        exact Nat.le_trans (Nat.mul_le_mul hb.1 (mul_rng hb.2.1 hb.2.2).2.2) (by decide)
  all_goals exact nomatch hc
end
end Mine
end

section
open PySem PySem.W PyProof.Rows PySem.Calls
set_option maxRecDepth 100000
namespace Mine
open PySem.SeqAt

noncomputable def pairLt (a b c d : Int) : Bool := if a == c then decide (b < d) else decide (a < c)

theorem tuple_ltPair (l b : Addr) (n n2 : Nat) (dd dd2 : Option Addr) (sl sl2 : Array (Option Value)) (x y z u : Int) (t1 t2 t3 t4 : Tok) :
    Meets (Builtin.«tuple.__lt__» ⟨[.ref l, .ref b], []⟩)
      (fun A R s => s.heap.get? l = some { cls := .type "tuple", dict := dd, data := .seq #[.int x t1, .int y t2] n, slots := sl } ∧ s.heap.get? b = some { cls := .type "tuple", dict := dd2, data := .seq #[.int z t3, .int u t4] n2, slots := sl2 } ∧
        R (.ok (.ret (.bool (pairLt x y z u)))) s) :=
  .of_wp fun prog w A R s h => by
    obtain ⟨hp, g, d, tk, os⟩ := s; obtain ⟨hl, hb, h⟩ := h
    have f2 := AutoSeq1.sub_tuple_tuple
    have key : ∀ (p q : Int) (tp tq : Tok) (R' : Value → Shared → Prop) (s : Shared), R' (.bool (decide (p < q))) s → wpAny (model prog w) A.in1 (richCompare .Lt (.int p tp) (.int q tq)) R' (fun e s' => R (.error e) s') s := fun p q tp tq R' s h => lt_int (A := A.in1) h
    wp_walk using wpAny_loadPart' hl, wpAny_loadPart' hb
    refine wpAny_eqBool_int ?_
    unfold pairLt at h
    cases hxz : x == z with
    | false =>
      rw [hxz] at h
      refine wpAny_ite_true rfl ?_
      refine wpAny_bind (wpAny_rule (wpAny_bind (key _ _ _ _ _ _ (wpAny_bind (wpAny_pure (wpAny_pure (wpAny_pure (wpAny_pure ?_))))))))
      exact ⟨_, rfl, h⟩
    | true =>
      rw [hxz] at h
      refine wpAny_ite_false rfl ?_
      refine wpAny_pure ?_
      wp_walk
      refine wpAny_eqBool_int ?_
      cases hyu : y == u with
      | false =>
        refine wpAny_ite_true rfl ?_
        refine wpAny_bind (wpAny_rule (wpAny_bind (key _ _ _ _ _ _ (wpAny_bind (wpAny_pure (wpAny_pure (wpAny_pure (wpAny_pure ?_))))))))
        exact ⟨_, rfl, h⟩
      | true =>
        have e : y = u := by simpa using hyu
        subst e
        refine wpAny_ite_false rfl ?_
        refine wpAny_pure (wpAny_pure (wpAny_pure ?_))
        refine ⟨_, rfl, ?_⟩
        have : decide (y < y) = false := decide_eq_false (by omega)
        simp only [this, if_true] at h
        exact h

noncomputable def isP (d : PyData) : Option (Int × Int) := (isT d).bind fun l => match l with
  | [x, y] => (isI x).bind fun i => (isI y).bind fun j => some (i, j)
  | _ => none
theorem isP_eq {d : PyData} {q : Int × Int} (h : isP d = some q) : d = .tuple [.int q.1, .int q.2] := by
  obtain ⟨l, e1, h⟩ := bind_some h
  rw [isT_eq e1]
  rcases l with _ | ⟨x, _ | ⟨y, _ | ⟨z, l⟩⟩⟩
  · exact nomatch h
  · exact nomatch h
  · obtain ⟨i, e2, h⟩ := bind_some h
    obtain ⟨j, e3, h⟩ := bind_some h
    rw [isI_eq e2, isI_eq e3, ← Option.some.inj h]
  · exact nomatch h
/-- the comparisons that the text uses, over plain data; none: not covered -/
noncomputable def cmpV (op : CmpOp) (a b : PyData) : Option Bool := match op with
  | .Eq => (two isI isI (fun a b => some (a == b)) a b).or (two isS isS (fun a b => some (a == b)) a b)
  | .NotEq => (two isI isI (fun a b => some (a != b)) a b).or ((two isS isS (fun a b => some (!(a == b))) a b).or (two isL isL (fun a b => if shaped (.list a) && shaped (.list b) then some (!(PyData.list a).eqv (.list b)) else none) a b))
  | .Lt => (two isI isI (fun a b => some (decide (a < b))) a b).or (two isP isP (fun p q => some (pairLt p.1 p.2 q.1 q.2)) a b)
  | .Gt => two isI isI (fun a b => some (decide (b < a))) a b
  | .Is => (two isN isN (fun _ _ => some true) a b).or ((two isI isN (fun _ _ => some false) a b).or ((two isD isN (fun _ _ => some false) a b).or (two isB isB (fun a b => some (a == b)) a b)))
  | .In => two isI isP (fun a q => some (q.1 == a || q.2 == a)) a b
  | .NotIn => two isS isS (fun a b => some (!Txt.contains b a)) a b
  | _ => none

section
variable {B : BH} {A : Around} {s : Shared} {P : Addr → Prop} {Q : Value → Shared → Prop} {E : Value → Shared → Prop} {x y : Value} {a b : PyData} {c : Bool} {d : Nat} {cx : Cx}
theorem lt_pair {w : World} {l r : Addr} {p q u v : Int} {t1 t2 t3 t4 : Tok} (hl : s.heap.IsTuple l #[.int p t1, .int q t2]) (hr : s.heap.IsTuple r #[.int u t3, .int v t4]) (hu : A.units < cLine) (h : Q (.bool (pairLt p q u v)) s) :
    wpAny (MM w) A (compareOp .Lt (.ref l) (.ref r)) Q E s := by
  obtain ⟨⟨cls, dd, data, sl⟩, ho, hc, n, hd⟩ := id hl
  obtain ⟨⟨cls2, dd2, data2, sl2⟩, ho2, hc2, n2, hd2⟩ := id hr
  simp only at hc hd hc2 hd2
  subst hc hd hc2 hd2
  exact richCompare_meets_room (op := .Lt) ⟨_, ho, rfl⟩ ⟨_, ho2, rfl⟩ F.slot_tuple_lt F.entry_tuple_lt (F.args_tuple_lt_2 _ _) (tuple_ltPair l r n n2 dd dd2 sl sl2 p q u v t1 t2 t3 t4)
    ⟨ho, ho2, show Value.bool (pairLt p q u v) ≠ Value.notImplemented ∧ Q (.bool (pairLt p q u v)) s from ⟨(fun x => nomatch x), h⟩⟩ hu
theorem VR.pair {h : Heap} {v : Value} {p q : Int} (r : VR P h v (.tuple [.int p, .int q])) : ∃ a t1 t2, v = .ref a ∧ h.IsTuple a #[.int p t1, .int q t2] := by
  obtain ⟨a, vs, n, rfl, _, hl', rs⟩ := r.isTuple
  obtain ⟨_, _, rfl, r1, rs⟩ := rs.cons'
  obtain ⟨_, rfl, r2⟩ := rs.one'
  obtain ⟨_, rfl⟩ := r1.int'
  obtain ⟨_, rfl⟩ := r2.int'
  exact ⟨_, _, _, rfl, isTuple_of hl'⟩
theorem VR.plain {h : Heap} {v : Value} {l : List (PyData × PyData)} (r : VR P h v (.dict l)) : ∃ a, v = .ref a := by
  cases r; exact ⟨_, rfl⟩
theorem VR.as {h : Heap} {v : Value} {d d' : PyData} (r : VR P h v d) (e : d = d') : VR P h v d' := e ▸ r
theorem cmp_ok {op : CmpOp} (R : Room d A) (hd : 0 < d) (hx : VR P s.heap x a) (hy : VR P s.heap y b) (hc : cmpV op a b = some c) (h : Q (.bool c) s) : wpAny (MM B.w) A (compareOp op x y) Q E s := by
  have hu : A.units + 64 < cLine := by have := R.units; omega
  have hb : ∀ {b : Bool}, some b = some c → Q (.bool b) s := fun e => by rw [Option.some.inj e]; exact h
  cases op
  case Eq =>
    rcases or_some hc with hc | hc
    · exact ii_elim hx hy hc (fun x y => wpAny (MM B.w) A (compareOp .Eq x y) Q E s) fun i j t u e => eq_int (hb e)
    · exact ss_elim hx hy hc (fun x y => wpAny (MM B.w) A (compareOp .Eq x y) Q E s) fun i j t u e => eq_str (hb e)
  case NotEq =>
    rcases or_some hc with hc | hc
    · exact ii_elim hx hy hc (fun x y => wpAny (MM B.w) A (compareOp .NotEq x y) Q E s) fun i j t u e => ne_int (hb e)
    · rcases or_some hc with hc | hc
      · exact ss_elim hx hy hc (fun x y => wpAny (MM B.w) A (compareOp .NotEq x y) Q E s) fun i j t u e => ne_str (hb e)
      · obtain ⟨i, j, rfl, rfl, e⟩ := two_list hc
        obtain ⟨hs, e⟩ := if_some e
        obtain ⟨h1, h2⟩ := Bool.and_eq_true_iff.mp hs
        obtain ⟨_, r1⟩ := hx.reads (canLay_of_shaped h1)
        obtain ⟨_, r2⟩ := hy.reads (canLay_of_shaped h2)
        exact compareNe_shaped r1 r2 h1 h2 hu (hb (congrArg some e))
  case Lt =>
    rcases or_some hc with hc | hc
    · exact ii_elim hx hy hc (fun x y => wpAny (MM B.w) A (compareOp .Lt x y) Q E s) fun i j t u e => lt_int (hb e)
    · obtain ⟨p, q, e1, e2, e⟩ := two_some hc
      obtain ⟨_, _, _, rfl, h1⟩ := (hx.as (isP_eq e1)).pair
      obtain ⟨_, _, _, rfl, h2⟩ := (hy.as (isP_eq e2)).pair
      exact lt_pair h1 h2 (Nat.lt_of_le_of_lt (Nat.le_add_right _ 64) hu) (hb e)
  case Gt => exact ii_elim hx hy hc (fun x y => wpAny (MM B.w) A (compareOp .Gt x y) Q E s) fun i j t u e => gt_int (hb e)
  case Is =>
    rcases or_some hc with hc | hc
    · obtain ⟨p, q, e1, e2, e⟩ := two_some hc
      rw [(hx.as (isN_eq e1)).none', (hy.as (isN_eq e2)).none']
      exact wpAny_is_plain rfl (hb e)
    · rcases or_some hc with hc | hc
      · obtain ⟨p, q, e1, e2, e⟩ := two_some hc
        obtain ⟨_, rfl⟩ := (hx.as (isI_eq e1)).int'
        rw [(hy.as (isN_eq e2)).none']
        exact wpAny_is_plain rfl (hb e)
      · rcases or_some hc with hc | hc
        · obtain ⟨p, q, e1, e2, e⟩ := two_some hc
          obtain ⟨l, e1⟩ := isD_eq e1
          obtain ⟨_, rfl⟩ := (hx.as (e1)).plain
          rw [(hy.as (isN_eq e2)).none']
          exact wpAny_is_plain rfl (hb e)
        · obtain ⟨p, q, e1, e2, e⟩ := two_some hc
          rw [(hx.as (isB_eq e1)).bool', (hy.as (isB_eq e2)).bool']
          refine wpAny_is_plain rfl ?_
          have h := hb e
          cases p <;> cases q <;> exact h
  case In =>
    obtain ⟨a0, q, e1, e2, e⟩ := two_some hc
    obtain ⟨_, t1, t2, rfl, h1⟩ := (hy.as (isP_eq e2)).pair
    obtain ⟨_, rfl⟩ := (hx.as (isI_eq e1)).int'
    refine in_tupleAt (fun v => match v with | .int i _ => i == a0 | _ => false) h1 (fun v hv => ?_) (by simpa using hb e)
    simp only [List.mem_toArray, List.mem_cons, List.not_mem_nil, or_false] at hv
    rcases hv with rfl | rfl
    · exact EqAt.int_int _ _ _ _
    · exact EqAt.int_int _ _ _ _
  case NotIn => exact ss_elim hx hy hc (fun x y => wpAny (MM B.w) A (compareOp .NotIn x y) Q E s) fun i j t u e => SB.notContains (hb e)
  all_goals exact nomatch hc

/-! an expression that is a bin-op, a comparison -/
noncomputable def binF (op : Operator) (f g : Fm → Option PyData) (fr : Fm) : Option PyData := (f fr).bind fun a => (g fr).bind fun b => binV op a b
theorem simE_bin {l r : Expr} {op : Operator} {pos : Pos} {f g} (hl : SimE B d cx l f) (hr : SimE B d cx r g) : SimE B d cx (.BinOp l op r pos) (binF op f g) := by
  intro A s env fr P W dv Q E R I F fp ev h
  obtain ⟨a, e1, ev⟩ := bind_some ev
  obtain ⟨b, e2, ev⟩ := bind_some ev
  refine wpAny_BinOp (hl R I F fp e1 fun rv s1 t1 r1 => hr R (I.step t1) (F.step t1) (fp.le t1.lv) e2 fun rv2 s2 t2 r2 => ?_)
  exact bin_ok (B := B) (r1.step (t2.keep.mono fun _ _ => trivial)) r2 (fp.le (t1.trans t2).lv) ev fun rv s3 t3 r3 => h _ _ ((t1.trans t2).trans t3) r3

/-- a test -/
noncomputable def SimT (B : BH) (d : Nat) (cx : Cx) (e : Expr) (f : Fm → Option Bool) : Prop :=
  ∀ {A : Around} {s : Shared} {env : Env} {fr : Fm} {P W : Addr → Prop} {dv : Bool} {Q : Bool → Shared → Prop} {E : Value → Shared → Prop},
    Room d A → Inv B s → FrameOk cx P W s.heap env fr → Fresh P s.heap → f fr = some dv →
    (∀ s', Step s s' → Q dv s') → wpAny (MM B.w) A (isTrue e env (eval e env)) Q E s
noncomputable def cmpF (op : CmpOp) (f g : Fm → Option PyData) (fr : Fm) : Option Bool := (f fr).bind fun a => (g fr).bind fun b => cmpV op a b
theorem simT_cmp {l r : Expr} {op : CmpOp} {pos : Pos} {f g} (hl : SimE B d cx l f) (hr : SimE B d cx r g) (hd : 0 < d) (hm : behindInMarks op r = false) : SimT B d cx (.Compare l [op] [r] pos) (cmpF op f g) := by
  intro A s env fr P W dv Q E R I F fp ev h
  obtain ⟨a, e1, ev⟩ := bind_some ev
  obtain ⟨b, e2, ev⟩ := bind_some ev
  refine wpAny_isTrue_Compare1 (hl R I F fp e1 fun rv s1 t1 r1 => hr R (I.step t1) (F.step t1) (fp.le t1.lv) e2 fun rv2 s2 t2 r2 => ?_) hm
  exact cmp_ok (B := B) R hd (r1.step (t2.keep.mono fun _ _ => trivial)) r2 ev (wpAny_truthy_bool (h _ (t1.trans t2)))
theorem simE_cmp {l r : Expr} {op : CmpOp} {pos : Pos} {f g} (hl : SimE B d cx l f) (hr : SimE B d cx r g) (hd : 0 < d) (hm : behindInMarks op r = false) : SimE B d cx (.Compare l [op] [r] pos) fun fr => (cmpF op f g fr).map .bool := by
  intro A s env fr P W dv Q E R I F fp ev h
  obtain ⟨c, ev', e3⟩ := Option.map_eq_some_iff.mp ev
  clear ev
  subst e3
  obtain ⟨a, e1, ev⟩ := bind_some ev'
  obtain ⟨b, e2, ev⟩ := bind_some ev
  refine wpAny_Compare1 (hl R I F fp e1 fun rv s1 t1 r1 => hr R (I.step t1) (F.step t1) (fp.le t1.lv) e2 fun rv2 s2 t2 r2 => ?_) hm
  exact cmp_ok (B := B) R hd (r1.step (t2.keep.mono fun _ _ => trivial)) r2 ev (h _ _ (t1.trans t2) (.bool _))
/-- x or y -/
noncomputable def orF (f g : Fm → Option Bool) (fr : Fm) : Option Bool := (f fr).bind fun a => if a then some true else g fr
theorem simT_or {x y : Expr} {pos : Pos} {f g} (hx : SimT B d cx x f) (hy : SimT B d cx y g) : SimT B d cx (.BoolOp .Or [x, y] pos) (orF f g) := by
  intro A s env fr P W dv Q E R I F fp ev h
  obtain ⟨a, e1, ev⟩ := bind_some ev
  refine wpAny_isTrue_BoolOp (wpAny_allTrue_Or_cons (hx R I F fp e1 fun s1 t1 => ?_))
  cases a with
  | true => cases ev; exact h _ t1
  | false =>
    refine wpAny_allTrue_Or_cons (hy R (I.step t1) (F.step t1) (fp.le t1.lv) ev fun s2 t2 => ?_)
    cases dv with
    | true => exact h _ (t1.trans t2)
    | false => exact wpAny_allTrue_Or_nil (h _ (t1.trans t2))
/-- a test that is a plain bool (a flag, a call) -/
theorem simT_val {e : Expr} {f} (he : SimE B d cx e f) (hm : ∀ env v, isTrue e env v = (do let v ← v; standAt e.pos; holding [v] (truthy v)) := by intro _ _; rfl) : SimT B d cx e fun fr => (f fr).bind fun v => match v with | .bool b => some b | _ => none := by
  intro A s env fr P W dv Q E R I F fp ev h
  obtain ⟨a, e1, ev⟩ := bind_some ev
  cases a <;> first | cases ev | skip
  rw [hm]
  refine wpAny_bind (he R I F fp e1 fun rv s1 t1 r1 => wpAny_bind (wpAny_standAt (wpAny_holding ?_)))
  cases r1
  exact wpAny_truthy_bool (h _ t1)
end
end Mine
end

section
open PySem PySem.W PyProof.Rows PySem.Calls
set_option maxRecDepth 100000
namespace Mine

section
variable {B : BH} {d : Nat} {cx : Cx}

/-! names of the module and of the built-ins -/
noncomputable def glob (B : BH) (x : Str) : Option Value := (B.mg x).or (B.mb x)
theorem Inv.nsG {s : Shared} (I : Inv B s) : s.heap.Ns mainGlobals B.mg := Heap.Ns.kept I.base.g fun _ e p => I.keep _ _ trivial (.inl p) e
theorem Inv.nsB {s : Shared} (I : Inv B s) : s.heap.Ns builtinsNs B.mb := Heap.Ns.kept I.base.b fun _ e p => I.keep _ _ trivial (.inl p) e
theorem Inv.lim {s : Shared} (I : Inv B s) : s.heap.NoLimit := by
  obtain ⟨mc, n, q⟩ := I.base.lim
  exact ⟨mc, Heap.Ns.kept n fun _ e p => I.keep _ _ trivial (.inl p) e, q⟩
theorem wp_glob {A : Around} {s : Shared} {env : Env} {x : Str} {v : Value} {Q E} (I : Inv B s) (hk : env.scope.kind = .function) (hg : env.kindOf x = some .globalImplicit) (eg : env.globals = mainGlobals) (eb : env.builtins = builtinsNs)
    (hv : glob B x = some v) (h : Q v s) : wpAny (MM B.w) A (loadName env x) Q E s := by
  have e : loadName env x = loadGlobal env x := by
    unfold loadName
    have h1 : env.blockKind = .function := by unfold Env.blockKind; rw [hk]; rfl
    rw [hg, h1, hk]
    rfl
  rw [e]
  unfold loadGlobal
  rw [eg, eb]
  refine wpAny_bind (wpAny_nsGet I.nsG ?_)
  unfold glob at hv
  cases q : B.mg x with
  | some u => rw [q] at hv; cases hv; exact wpAny_pure h
  | none =>
    rw [q] at hv
    refine wpAny_bind (wpAny_nsGet I.nsB ?_)
    have hv' : B.mb x = some v := hv
    rw [hv']
    exact wpAny_pure h

/-! calls of a value that is no method -/
noncomputable def CallOk (B : BH) (d : Nat) (fv : Value) (F : List PyData → Option PyData) : Prop :=
  ∀ {A : Around} {s : Shared} {P : Addr → Prop} {args : List PyData} {rvs : List Value} {dv : PyData} {Q E : Value → Shared → Prop},
    Room d A → Inv B s → Fresh P s.heap → VRs P s.heap rvs args → F args = some dv → (∀ rv s', Step s s' → VR P s'.heap rv dv → Q rv s') → wpAny (MM B.w) A (call fv rvs) Q E s
noncomputable def Callee (B : BH) (fv : Value) : Prop := (∃ id, fv = .builtin id) ∨ (∃ T, fv = .type T) ∨ ∃ a o fd, fv = .ref a ∧ B.hB.get? a = some o ∧ Plain o ∧ o.data = .func fd

theorem callWith_any {A : Around} {s : Shared} {env : Env} {pos : Pos} {fv : Value} {e : Expr} {rest : List Expr} {Q E} (hc : Callee B fv)
    (he : starEach (e :: rest) env = (false, eval e env) :: starEach rest env) (hplain : (backTo pos (starEach rest env)).any (·.1) = false)
    (h : wpAny (MM B.w) A (spliced (backTo pos (starEach (e :: rest) env))) (fun vs s₁ => Inv B s₁ ∧ wpAny (MM B.w) A (call fv vs) Q E s₁) E s) :
    wpAny (MM B.w) A (callWith pos fv [] (backTo pos (starEach (e :: rest) env)) []) Q E s := by
  have hp : (backTo pos (starEach (e :: rest) env)).any (·.1) = false := by rw [he]; show (false || (backTo pos (starEach rest env)).any (·.1)) = false; rw [hplain]; rfl
  rcases hc with ⟨id, rfl⟩ | ⟨T, rfl⟩ | ⟨a, o, fd, rfl, ho, pl, hd⟩
  · rw [he] at h hp ⊢
    exact callWith_builtin hp (evalArgs_plain (wpAny_mono h (fun _ _ q => q.2) fun _ _ x => x))
  · rw [he] at h hp ⊢
    exact PySem.callWith_type hp (evalArgs_plain (wpAny_mono h (fun _ _ q => q.2) fun _ _ x => x))
  · rw [he] at h hp ⊢
    exact callWith_function (o := o) (fd := fd) (evalArgs_plain (wpAny_mono h (fun _ _ q => ⟨⟨q.1.keep _ _ trivial (.inl pl) ho, hd⟩, q.2⟩) fun _ _ x => x))

noncomputable def callF (f : Fm → Option (List PyData)) (F : List PyData → Option PyData) (fr : Fm) : Option PyData := (f fr).bind F
theorem simE_call {x : Str} {np pos : Pos} {e : Expr} {rest : List Expr} {fv : Value} {f F} (hs : SimL B d cx (e :: rest) f) (hF : CallOk B d fv F) (hc : Callee B fv) (hv : glob B x = some fv) (hk : cx.sc.names.lookup x = some .globalImplicit)
    (hd : (x == ("__debug__" : Str)) = false) (he : ∀ env, starEach (e :: rest) env = (false, eval e env) :: starEach rest env := by intro _; rfl) (hplain : ∀ env, (backTo pos (starEach rest env)).any (·.1) = false := by intro _; rfl) :
    SimE B d cx (.Call (.Name x np) (e :: rest) [] pos) (callF f F) := by
  intro A s env fr P W dv Q E R I F' fp ev h
  obtain ⟨a, e1, ev⟩ := bind_some ev
  have hkd : env.scope.kind = .function := by rw [F'.sc]; exact F'.kind
  refine wpAny_Call_NameR (wpAny_Name (wp_glob I hkd (by unfold Env.kindOf; rw [F'.sc]; exact hk) F'.glob F'.blt hv ?_) hd)
  refine callWith_any hc (he env) (hplain env) (hs R I F' fp e1 fun rvs s1 t1 r1 => ⟨I.step t1, ?_⟩)
  exact hF R (I.step t1) (fp.le t1.lv) r1 ev fun rv s2 t2 r2 => h _ _ (t1.trans t2) r2

/-! methods of a built-in type -/
noncomputable def MethOk (B : BH) (d : Nat) (id : String) (F : PyData → List PyData → Option PyData) : Prop :=
  ∀ {A : Around} {s : Shared} {P : Addr → Prop} {a : PyData} {args : List PyData} {x : Value} {rvs : List Value} {dv : PyData} {Q E : Value → Shared → Prop},
    Room d A → Inv B s → Fresh P s.heap → VR P s.heap x a → VRs P s.heap rvs args → F a args = some dv → (∀ rv s', Step s s' → VR P s'.heap rv dv → Q rv s') → wpAny (MM B.w) A (call (.builtin id) (x :: rvs)) Q E s
noncomputable def isOf : String → PyData → Bool
  | "str", .str _ => true
  | "list", .list _ => true
  | _, _ => false
theorem typeIs_of {P : Addr → Prop} {s : Shared} {T : String} {v : Value} {a : PyData} (h : isOf T a = true) (r : VR P s.heap v a) : s.TypeIs v T ∧ ∀ b, v = .ref b → ∃ ob, s.heap.get? b = some ob ∧ ob.dict = none := by
  unfold isOf at h
  split at h
  · obtain ⟨_, rfl⟩ := VR.str' r; exact ⟨typeIs_str _ _ _, fun b e => by cases e⟩
  · obtain ⟨a, vs, n, rfl, p, e, r⟩ := r.isList
    exact ⟨⟨_, e, rfl⟩, fun b q => by cases q; exact ⟨_, e, rfl⟩⟩
  · cases h
noncomputable def methF (T : String) (f : Fm → Option PyData) (g : Fm → Option (List PyData)) (F : PyData → List PyData → Option PyData) (fr : Fm) : Option PyData := (f fr).bind fun a => (g fr).bind fun bs => if isOf T a then F a bs else none
theorem simE_meth {o : Expr} {name : Str} {apos pos : Pos} {e : Expr} {rest : List Expr} {T id : String} {f g F} (ho : SimE B d cx o f) (hs : SimL B d cx (e :: rest) g) (hF : MethOk B d id F)
    (hb : ∀ env, attributeBase o name env (eval o env) = eval o env) (hl : (apos.endLine == pos.line) = true) (hP : PlainAttrs T) (hS : Slot T name id) (hT : typeOf (.builtin id) = pure (.type "method_descriptor"))
    (he : ∀ env, starEach (e :: rest) env = (false, eval e env) :: starEach rest env := by intro _; rfl) (hplain : ∀ env, (backTo pos (starEach rest env)).any (·.1) = false := by intro _; rfl)
    (hq : ∀ env, ((((backTo pos (starEach (e :: rest) env)).all fun x => !x.fst) && (backToKw pos (keywordEach [] env)).all fun x => x.fst.isSome) && decide (((e :: rest).length + ([] : List Keyword).length + if ([] : List Keyword).isEmpty = true then 0 else 1) < 30)) = true := by intro _; rfl) :
    SimE B d cx (.Call (.Attribute o name apos) (e :: rest) [] pos) (methF T f g F) := by
  intro A s env fr P W dv Q E R I F' fp ev h
  obtain ⟨a, e1, ev⟩ := bind_some ev
  obtain ⟨bs, e2, ev⟩ := bind_some ev
  split at ev
  · rename_i ht
    refine wpAny_Call_method (hb env) (hq env) hl hP hS hT (ho R I F' fp e1 fun rv s1 t1 r1 => ?_)
    obtain ⟨q1, q2⟩ := typeIs_of ht r1
    refine ⟨q1, q2, ?_⟩
    have hp : (backTo pos (starEach (e :: rest) env)).any (·.1) = false := by rw [he env]; show (false || (backTo pos (starEach rest env)).any (·.1)) = false; rw [hplain]; rfl
    have key : wpAny (MM B.w) A (spliced (backTo pos (starEach (e :: rest) env))) (fun vs s2 => wpAny (MM B.w) A (call (.builtin id) ([rv] ++ vs) []) Q E s2) E s1 :=
      hs R (I.step t1) (F'.step t1) (fp.le t1.lv) e2 fun rvs s2 t2 r2 => hF R (I.step (t1.trans t2)) (fp.le (t1.trans t2).lv) (r1.step (t2.keep.mono fun _ _ => trivial)) r2 ev fun rv s3 t3 r3 => h _ _ ((t1.trans t2).trans t3) r3
    rw [he env] at key hp ⊢
    exact callWith_builtin hp (evalArgs_plain key)
  · exact nomatch ev
end
end Mine
end

section
open PySem PySem.W PyProof.Rows PySem.Calls
set_option maxRecDepth 100000
namespace Mine

/-- by kind: a text, a list, a tuple -/
noncomputable def caseB {γ : Type} (fs : Str → Option γ) (fl ft : List PyData → Option γ) : PyData → Option γ
  | .str x => fs x
  | .list l => fl l
  | .tuple l => ft l
  | _ => none
theorem b_elim {γ : Type} {a : PyData} {c : γ} {x : Value} {P : Addr → Prop} {h : Heap} {fs : Str → Option γ} {fl ft : List PyData → Option γ} (hx : VR P h x a) (hc : caseB fs fl ft a = some c) (G : Value → Prop) (gs : ∀ i t, fs i = some c → G (.str i t))
    (gl : ∀ xs l vs n, h.get? l = some { cls := .type "list", data := .seq (List.toArray vs) n } → VRs P h vs xs → fl xs = some c → G (.ref l)) (gt : ∀ xs l vs n, h.get? l = some { cls := .type "tuple", data := .seq (List.toArray vs) n } → VRs P h vs xs → ft xs = some c → G (.ref l)) : G x := by
  cases a with
  | str i => obtain ⟨t, rfl⟩ := hx.str'; exact gs i t hc
  | list i => obtain ⟨l, vs, n, rfl, p, q, r⟩ := hx.isList; exact gl i l vs n q r hc
  | tuple i => obtain ⟨l, vs, n, rfl, p, q, r⟩ := hx.isTuple; exact gt i l vs n q r hc
  | _ => exact nomatch hc
noncomputable def itemV (a b : PyData) : Option PyData := caseB (fun x => (isI b).bind fun k => if -100000 < k ∧ k < 100000 then ((seqIndex? k x.length).bind (x.cps[·]?)).map fun c => .str ⟨#[c]⟩ else none)
  (fun xs => (isI b).bind fun k => if -100000 < k ∧ k < 100000 then (seqIndex? k xs.length).bind (xs[·]?) else none) (fun xs => (isI b).bind fun k => if -100000 < k ∧ k < 100000 then (seqIndex? k xs.length).bind (xs[·]?) else none) a
noncomputable def pick {α : Type} (l : List α) (lo hi : Option Int) : List α := (l.drop (lo.elim 0 (clipAt l.length))).take (hi.elim l.length (clipAt l.length) - lo.elim 0 (clipAt l.length))
noncomputable def sliceV (a : PyData) (lo hi : Option Int) : Option PyData := caseA (fun _ => none) (fun x => if x.length ≤ 100000 then some (.str (Txt.slice x lo hi)) else none) (fun xs => if xs.length ≤ 100000 then some (.list (pick xs lo hi)) else none) a

theorem VRs.pick {P : Addr → Prop} {h : Heap} {vs : List Value} {ds : List PyData} (r : VRs P h vs ds) (lo hi : Option Int) : VRs P h (Mine.pick vs lo hi) (Mine.pick ds lo hi) := by
  unfold Mine.pick
  rw [r.length]
  exact (r.drop _).take _
theorem slicePick_eq (vs : List Value) (lo hi : Option Int) : slicePick vs.toArray lo hi none = (pick vs lo hi).toArray := by
  rw [slicePick_plain]
  simp [pick]

section
variable {B : BH} {d : Nat} {cx : Cx}
theorem seqIndex_cases {k : Int} {n j : Nat} (h : seqIndex? k n = some j) : (0 ≤ k ∧ k.toNat = j ∧ j < n) ∨ (k < 0 ∧ -(n : Int) ≤ k ∧ (k + n).toNat = j ∧ j < n) := by
  unfold seqIndex? at h
  by_cases hk : k < 0
  · simp only [if_pos hk] at h
    by_cases hq : (decide (0 ≤ k + (n : Int)) && decide (k + (n : Int) < n)) = true
    · rw [if_pos hq] at h; obtain rfl := Option.some.inj h
      simp only [Bool.and_eq_true, decide_eq_true_eq] at hq
      right; omega
    · rw [if_neg hq] at h; exact nomatch h
  · simp only [if_neg hk] at h
    by_cases hq : (decide (0 ≤ k) && decide (k < (n : Int))) = true
    · rw [if_pos hq] at h; obtain rfl := Option.some.inj h
      simp only [Bool.and_eq_true, decide_eq_true_eq] at hq
      left; omega
    · rw [if_neg hq] at h; exact nomatch h
theorem getItem_ok {A : Around} {s : Shared} {P : Addr → Prop} {x y : Value} {a b c : PyData} {value slice : Expr} {Q E} (hx : VR P s.heap x a) (hy : VR P s.heap y b) (hc : itemV a b = some c)
    (hsl : ∀ o i, subscripted slice false o i = operate [o, i] (getItem o i)) (h : ∀ rv s', Step s s' → VR P s'.heap rv c → Q rv s') : wpAny (MM B.w) A (subscriptTail value slice x y) Q E s := by
  have ite_some : ∀ {p : Prop} [Decidable p] {z : Option PyData}, (if p then z else none) = some c → p ∧ z = some c := fun {p} _ {z} q => by
    by_cases hp : p
    · rw [if_pos hp] at q; exact ⟨hp, q⟩
    · rw [if_neg hp] at q; exact nomatch q
  refine b_elim hx hc (fun x => wpAny (MM B.w) A (subscriptTail value slice x y) Q E s) (fun z t e => ?_) (fun xs l vs n e r e0 => ?_) fun xs l vs n e r e0 => ?_
  · exact i_elim hy e (fun y => wpAny (MM B.w) A (subscriptTail value slice (.str z t) y) Q E s) fun k u e0 => by
      obtain ⟨hk, e0⟩ := ite_some e0
      obtain ⟨ch, hc', e3⟩ := Option.map_eq_some_iff.mp e0
      refine tail_any (T := "str") (typeIs_str _ _ _) slot_str_getitem.lookup (getItem_str ?_ hc' (h _ _ .toks (by rw [← e3]; exact .str _ _))) (hsl _ _)
      rw [decide_eq_false (by omega), decide_eq_false (by omega)]; rfl
  · exact i_elim hy e0 (fun y => wpAny (MM B.w) A (subscriptTail value slice (.ref l) y) Q E s) fun k u e0 => by
      obtain ⟨hk, e0⟩ := ite_some e0
      obtain ⟨j, hj, hc⟩ := bind_some e0
      obtain ⟨v, hv, rv⟩ := r.get hc
      have i1 := isList_of e
      have ln := r.length
      refine tail_any (T := "list") ⟨_, e, rfl⟩ slot_list_getitem.lookup ?_ (hsl _ _)
      rcases seqIndex_cases hj with ⟨h0, h1, h2⟩ | ⟨h0, h3, h1, h2⟩
      · exact wpAny_getItem_list i1 h0 (by omega) (by rw [h1]; simpa using hv) (h _ _ (.refl _ _ _) rv)
      · refine wpAny_getItem_list_neg i1 h0 (by simp only [List.size_toArray]; omega) (by omega) ?_ (h _ _ (.refl _ _ _) rv)
        simp only [List.size_toArray, ln, h1]
        simpa using hv
  · exact i_elim hy e0 (fun y => wpAny (MM B.w) A (subscriptTail value slice (.ref l) y) Q E s) fun k u e0 => by
      obtain ⟨hk, e0⟩ := ite_some e0
      obtain ⟨j, hj, hc⟩ := bind_some e0
      obtain ⟨v, hv, rv⟩ := r.get hc
      exact item_tupleT ⟨_, e, rfl, n, rfl⟩ (by omega) (by omega) (by rw [r.length]; exact hj) hv (h _ _ (.refl _ _ _) rv) (hsl _ _)
noncomputable def subF (f g : Fm → Option PyData) (fr : Fm) : Option PyData := (f fr).bind fun a => (g fr).bind fun b => itemV a b
theorem simE_sub {value slice : Expr} {pos : Pos} {f g} (hv : SimE B d cx value f) (hi : SimE B d cx slice g) (hsl : ∀ o i, subscripted slice false o i = operate [o, i] (getItem o i) := by intro _ _; rfl) : SimE B d cx (.Subscript value slice pos) (subF f g) := by
  intro A s env fr P W dv Q E R I F fp ev h
  obtain ⟨a, e1, ev⟩ := bind_some ev
  obtain ⟨b, e2, ev⟩ := bind_some ev
  refine Subscript_ (hv R I F fp e1 fun rv s1 t1 r1 => hi R (I.step t1) (F.step t1) (fp.le t1.lv) e2 fun rv2 s2 t2 r2 => ?_)
  exact getItem_ok (B := B) (r1.step (t2.keep.mono fun _ _ => trivial)) r2 ev hsl fun rv s3 t3 r3 => h _ _ ((t1.trans t2).trans t3) r3

/-! slices: parts that are absent or ints -/
noncomputable def SimP (B : BH) (d : Nat) (cx : Cx) (e : Option Expr) (f : Fm → Option (Option Int)) : Prop :=
  ∀ {A : Around} {s : Shared} {env : Env} {fr : Fm} {P W : Addr → Prop} {dv : Option Int} {Q : Value → Shared → Prop} {E : Value → Shared → Prop},
    Room d A → Inv B s → FrameOk cx P W s.heap env fr → Fresh P s.heap → f fr = some dv →
    (∀ p s', Step s s' → p.map (·.1) = dv → Q (partValue p) s') → wpAny (MM B.w) A (evalPart e env) Q E s
theorem simP_none : SimP B d cx none fun _ => some none := by
  intro A s env fr P W dv Q E R I F fp ev h
  obtain rfl := Option.some.inj ev
  exact wpAny_evalPart_none (h none _ (.refl _ _ _) rfl)
theorem simP_some {e : Expr} {f} (he : SimE B d cx e f) : SimP B d cx (some e) fun fr => (f fr).bind fun v => match v with | .int i => some (some i) | _ => none := by
  intro A s env fr P W dv Q E R I F fp ev h
  obtain ⟨a, e1, ev⟩ := bind_some ev
  cases a <;> first | cases ev | skip
  refine wpAny_evalPart_some (he R I F fp e1 fun rv s1 t1 r1 => ?_)
  obtain ⟨_, rfl⟩ := VR.int' r1
  exact h (some (_, _)) _ t1 rfl
theorem isPart_of (p : Option (Int × Tok)) : IsPart (partValue p) (p.map (·.1)) := by
  cases p with
  | none => exact .none
  | some q => obtain ⟨i, t⟩ := q; exact .int i t
noncomputable def sliceF (f : Fm → Option PyData) (g k : Fm → Option (Option Int)) (fr : Fm) : Option PyData := (f fr).bind fun a => (g fr).bind fun lo => (k fr).bind fun hi => sliceV a lo hi
theorem simE_slice {value : Expr} {lower upper : Option Expr} {p pos : Pos} {f g k} (hv : SimE B d cx value f) (hl : SimP B d cx lower g) (hu : SimP B d cx upper k) : SimE B d cx (.Subscript value (.Slice lower upper none p) pos) (sliceF f g k) := by
  intro A s env fr P W dv Q E R I F fp ev h
  obtain ⟨a, e1, ev⟩ := bind_some ev
  obtain ⟨l, e2, ev⟩ := bind_some ev
  obtain ⟨u, e3, ev⟩ := bind_some ev
  refine Subscript_ (hv R I F fp e1 fun rv s1 t1 r1 => wpAny_Slice (hl R (I.step t1) (F.step t1) (fp.le t1.lv) e2 fun pl s2 t2 q2 => ?_))
  have t12 := t1.trans t2
  refine hu R (I.step t12) (F.step t12) (fp.le t12.lv) e3 fun pu s3 t3 q3 => wpAny_evalPart_none ?_
  have t13 := t12.trans t3
  have r3 := r1.step (t2.keep.mono fun _ _ => trivial) |>.step (t3.keep.mono fun _ _ => trivial)
  have hsl : (s3.heap.push { cls := .type "slice", data := .fields #[partValue pl, partValue pu, .none] }).get? s3.heap.objs.size = some { cls := .type "slice", data := .fields #[partValue pl, partValue pu, .none] } := Heap.get?_push_size _ rfl
  subst q2 q3
  rcases caseA_some ev with ⟨_, _, e5⟩ | ⟨x0, rfl, e5⟩ | ⟨l0, rfl, e5⟩
  · exact nomatch e5
  rotate_left
  · obtain ⟨hz, e6⟩ := if_some e5
    · obtain rfl := e6
      obtain ⟨x, vs, n, rfl, px, e, r⟩ := r3.isList
      have e' := Heap.get?_push_of_some { cls := .type "slice", data := .fields #[partValue pl, partValue pu, .none] } e
      refine tail_any (T := "list") ⟨_, e', rfl⟩ slot_list_getitem.lookup (wpAny_getItem_list_slice (isList_of e') ⟨_, hsl, rfl, rfl⟩ (isPart_of pl) (isPart_of pu) .none (by simp) ?_ ?_) rfl
      · rw [slicePick_eq]
        refine h _ _ ((t13.trans Step.push).trans Step.push) (.list (fp.le (t13.trans Step.push).lv).new (Heap.get?_push_size _ rfl) ?_)
        exact (r.pick _ _).step (Keep.of fun _ _ e => Heap.get?_push_of_some _ (Heap.get?_push_of_some _ e))
      · have := r.length; have : sizeLine = 2 ^ 24 := rfl; simp only [List.size_toArray]; omega
  · obtain ⟨hz, e6⟩ := if_some e5
    · obtain rfl := e6
      obtain ⟨_, rfl⟩ := VR.str' r3
      refine tail_any (T := "str") (typeIs_str _ _ _) slot_str_getitem.lookup (wpAny_getItem_str_slice (l := pl) (u := pu) (st := none) ⟨_, hsl, rfl, rfl⟩ rfl ?_) rfl
      refine post_val_or_str ⟨Nat.le_trans (Txt.slice_le _ _ _) (by have : sizeLine = 2 ^ 24 := rfl; omega), fun t' tk => ?_⟩
      exact h _ _ (t13.trans Step.push) (.str _ _)
end
end Mine
end

section
open PySem PySem.W PyProof.Rows PySem.Calls
set_option maxRecDepth 100000
namespace Mine

noncomputable def intsOf : List PyData → Option (List Int)
  | [] => some []
  | .int i :: r => (intsOf r).map (i :: ·)
  | _ :: _ => none
noncomputable def strsOf : List PyData → Option (List Str)
  | [] => some []
  | .str x :: r => (strsOf r).map (x :: ·)
  | _ :: _ => none
theorem intsOf_eq : ∀ {l : List PyData} {ns : List Int}, intsOf l = some ns → l = ns.map .int
  | [], _, h => by cases h; rfl
  | .int i :: r, ns, h => by
    obtain ⟨a, e, q⟩ := Option.map_eq_some_iff.mp h
    subst q
    rw [intsOf_eq e]; rfl
  | .none :: _, _, h | .bool _ :: _, _, h | .str _ :: _, _, h | .list _ :: _, _, h | .tuple _ :: _, _, h | .dict _ :: _, _, h => by cases h
theorem strsOf_eq : ∀ {l : List PyData} {ns : List Str}, strsOf l = some ns → l = ns.map .str
  | [], _, h => by cases h; rfl
  | .str i :: r, ns, h => by
    obtain ⟨a, e, q⟩ := Option.map_eq_some_iff.mp h
    subst q
    rw [strsOf_eq e]; rfl
  | .none :: _, _, h | .bool _ :: _, _, h | .int _ :: _, _, h | .list _ :: _, _, h | .tuple _ :: _, _, h | .dict _ :: _, _, h => by cases h
theorem intsOf_map : ∀ ns : List Int, intsOf (ns.map .int) = some ns
  | [] => rfl
  | i :: r => by show (intsOf (r.map .int)).map (i :: ·) = _; rw [intsOf_map r]; rfl
theorem strsOf_map : ∀ ns : List Str, strsOf (ns.map .str) = some ns
  | [] => rfl
  | i :: r => by show (strsOf (r.map .str)).map (i :: ·) = _; rw [strsOf_map r]; rfl

theorem VRs.strs {P : Addr → Prop} {h : Heap} : ∀ {vs : List Value} {ns : List Str}, VRs P h vs (ns.map PyData.str) → ∃ l : List (Str × Tok), vs = strValues l ∧ l.map (·.1) = ns
  | _, [], r => ⟨[], VRs.nil' r, rfl⟩
  | _, n :: ns, r => by
    obtain ⟨_, _, rfl, a, b⟩ := VRs.cons' r
    obtain ⟨t, rfl⟩ := a.str'
    obtain ⟨l, rfl, e2⟩ := VRs.strs b
    exact ⟨(n, t) :: l, rfl, congrArg (n :: ·) e2⟩
theorem VRs.ofStrs {P : Addr → Prop} {h : Heap} : ∀ (l : List (Str × Tok)), VRs P h (strValues l) ((l.map (·.1)).map PyData.str)
  | [] => .nil
  | (x, t) :: l => .cons (.str x t) (VRs.ofStrs l)

noncomputable def arg1 : List PyData → Option PyData
  | [a] => some a
  | _ => none
theorem arg1_eq {l : List PyData} {a : PyData} (h : arg1 l = some a) : l = [a] := by
  rcases l with _ | ⟨x, _ | ⟨y, l⟩⟩
  · exact nomatch h
  · exact congrArg (fun z => [z]) (Option.some.inj h)
  · exact nomatch h
noncomputable def arg2 : List PyData → Option (PyData × PyData)
  | [a, b] => some (a, b)
  | _ => none
theorem arg2_eq {l : List PyData} {q : PyData × PyData} (h : arg2 l = some q) : l = [q.1, q.2] := by
  rcases l with _ | ⟨x, _ | ⟨y, _ | ⟨z, l⟩⟩⟩
  · exact nomatch h
  · exact nomatch h
  · rw [← Option.some.inj h]
  · exact nomatch h
theorem bind1_some {P : Addr → Prop} {h : Heap} {γ : Type} {l : List PyData} {vs : List Value} {f : PyData → Option γ} {c : γ} (r : VRs P h vs l) (ev : (arg1 l).bind f = some c) : ∃ v a, vs = [v] ∧ VR P h v a ∧ f a = some c := by
  obtain ⟨a, e, ev⟩ := bind_some ev
  obtain rfl := arg1_eq e
  obtain ⟨v, e, r⟩ := r.one'
  exact ⟨v, a, e, r, ev⟩
theorem bind2_some {P : Addr → Prop} {h : Heap} {γ : Type} {l : List PyData} {vs : List Value} {f : PyData × PyData → Option γ} {c : γ} (r : VRs P h vs l) (ev : (arg2 l).bind f = some c) : ∃ v w a b, vs = [v, w] ∧ VR P h v a ∧ VR P h w b ∧ f (a, b) = some c := by
  obtain ⟨⟨a, b⟩, e, ev⟩ := bind_some ev
  obtain rfl := arg2_eq e
  obtain ⟨v, _, rfl, r1, r⟩ := r.cons'
  obtain ⟨w, rfl, r2⟩ := r.one'
  exact ⟨v, w, a, b, rfl, r1, r2, ev⟩
noncomputable def lenV (args : List PyData) : Option PyData := (arg1 args).bind (caseA (fun _ => none) (fun x => if x.length ≤ 10000000 then some (.int x.length) else none) (fun xs => if xs.length ≤ 10000000 then some (.int xs.length) else none))
noncomputable def sumFit (ns : List Int) : Bool := (List.range ns.length).all fun j => decide (-(2 ^ 63) ≤ ns.getD j 0 ∧ ns.getD j 0 < 2 ^ 63) && decide (-(2 ^ 63) ≤ (ns.take (j + 1)).sum ∧ (ns.take (j + 1)).sum < 2 ^ 63)
noncomputable def sumV (args : List PyData) : Option PyData := (arg1 args).bind fun a => (isL a).bind fun xs => (intsOf xs).bind fun ns => if sumFit ns then some (.int ns.sum) else none
noncomputable def maxV : List PyData → Option PyData
  | [a] => (isL a).bind fun xs => (intsOf xs).bind fun ns => ns.max?.map .int
  | [a, b] => two isI isI (fun a b => some (.int (if b > a then b else a))) a b
  | _ => none
noncomputable def minV (args : List PyData) : Option PyData := (arg2 args).bind fun q => two isI isI (fun a b => some (.int (if b < a then b else a))) q.1 q.2
noncomputable def listV (args : List PyData) : Option PyData := (arg1 args).bind fun a => (isS a).bind fun x => if x.length ≤ 100000 then some (.list (x.cps.toList.map fun c => .str ⟨#[c]⟩)) else none

section
variable {B : BH} {d : Nat}
theorem len_ok : CallOk B d (.builtin "len") lenV := by
  intro A s P args rvs dv Q E R I fp r ev h
  obtain ⟨v, a, rfl, r1, ev⟩ := bind1_some r ev
  rcases caseA_some ev with ⟨_, _, e1⟩ | ⟨x, rfl, e1⟩ | ⟨l, rfl, e1⟩
  · exact nomatch e1
  · split at e1
    · obtain rfl := Option.some.inj e1
      obtain ⟨t, rfl⟩ := r1.str'
      exact len_str (by omega) (h _ _ .toks (.int _ _))
    · exact nomatch e1
  · split at e1
    · obtain rfl := Option.some.inj e1
      obtain ⟨a, vs, n, rfl, p, e, r⟩ := r1.isList
      have := r.length
      refine call_len_list (isList_of e) (by simp only [List.size_toArray]; omega) ?_
      rw [List.size_toArray, this]
      exact h _ _ .toks (.int _ _)
    · exact nomatch e1
theorem allInts_of {vs : List Value} {ns : List Int} (h : IntsAre vs ns) : ∃ xs : Array (Int × Tok), vs.toArray = intItems xs ∧ xs.toList.map (·.1) = ns := by
  obtain ⟨xs, e⟩ := h.allInts.items
  refine ⟨xs, e, ?_⟩
  rw [← nums_intItems, ← e]
  exact h.numsOf
theorem sum_ok : CallOk B d (.builtin "sum") sumV := by
  intro A s P args rvs dv Q E R I fp r ev h
  obtain ⟨v, a0, rfl, r1, ev⟩ := bind1_some r ev
  obtain ⟨xs0, rfl, e0⟩ := bindL_some ev
  replace ev := e0
  obtain ⟨ns, e1, ev⟩ := bind_some ev
  split at ev
  · rename_i hf
    obtain rfl := Option.some.inj ev
    obtain ⟨a, vs, n, rfl, p, e, r⟩ := r1.isList
    rw [intsOf_eq e1] at r
    obtain ⟨xs, e2, e3⟩ := allInts_of r.ints
    have il := isList_of e
    rw [e2] at il
    refine sum_intList R.handled il (fun j hj => ?_) fun h' tk t' hk => ?_
    · rw [numAt_eq, preSum_eq, e3]
      have hj' : j < ns.length := by rw [← e3]; simpa using hj
      have := List.all_eq_true.mp hf j (List.mem_range.mpr hj')
      simp only [Bool.and_eq_true, decide_eq_true_eq] at this
      exact this
    · rw [preSum_eq, List.take_of_length_le (by simp), e3]
      exact h _ _ (.heap hk rfl rfl) (.int _ _)
  · exact nomatch ev
theorem max_ok : CallOk B d (.builtin "max") maxV := by
  intro A s P args rvs dv Q E R I fp r ev h
  rcases args with _ | ⟨a0, _ | ⟨b0, _ | ⟨c0, rest⟩⟩⟩
  · exact nomatch ev
  · obtain ⟨xs0, rfl, e0⟩ := bindL_some ev
    replace ev := e0
    obtain ⟨ns, e1, ev⟩ := bind_some ev
    obtain ⟨m, em, ev⟩ := Option.map_eq_some_iff.mp ev
    subst ev
    obtain ⟨v0, rfl, r1⟩ := r.one'
    obtain ⟨a, vs, n, rfl, p, e, r⟩ := r1.isList
    rw [intsOf_eq e1] at r
    obtain ⟨xs, e2, e3⟩ := allInts_of r.ints
    have il := isList_of e
    rw [e2] at il
    have hne : ns ≠ [] := by rintro rfl; cases em
    have hsz : 0 < xs.size := by
      have : 0 < ns.length := List.length_pos_iff.mpr hne
      rw [← e3] at this; simpa using this
    refine max_intList R.handled il hsz fun v h' tk hv hk => ?_
    obtain ⟨t, rfl⟩ := intItems_at hv
    obtain ⟨h1, h2⟩ := argBest_gt (numAt xs) (xs.size - 1)
    have hm : numAt xs (argBest (fun i j => decide (numAt xs i > numAt xs j)) (xs.size - 1)) = m := by
      refine Option.some.inj (Eq.trans ?_ em)
      symm
      rw [List.max?_eq_some_iff]
      refine ⟨?_, fun b hb => ?_⟩
      · rw [numAt_eq, ← e3]; exact getD_mem (by rw [List.length_map, Array.length_toList]; omega)
      · rw [← e3] at hb
        obtain ⟨j, hj, rfl⟩ := mem_getD hb
        rw [List.length_map, Array.length_toList] at hj
        rw [← numAt_eq]; exact h2 j (by omega)
    rw [hm]
    exact h _ _ (.heap hk rfl rfl) (.int _ _)
  · obtain ⟨v, _, rfl, r1, r⟩ := r.cons'
    obtain ⟨w, rfl, r2⟩ := r.one'
    obtain ⟨i, j, e1, e2, ev⟩ := two_int ev
    obtain rfl := e1
    obtain rfl := e2
    obtain rfl := Option.some.inj ev
    obtain ⟨_, rfl⟩ := r1.int'
    obtain ⟨_, rfl⟩ := r2.int'
    refine max_two_ints R.handled fun h' tk hk => ?_
    refine h _ _ (.heap hk rfl rfl) ?_
    split <;> exact .int _ _
  · exact nomatch ev
theorem min_ok : CallOk B d (.builtin "min") minV := by
  intro A s P args rvs dv Q E R I fp r ev h
  obtain ⟨v, w, a, b, rfl, r1, r2, ev⟩ := bind2_some r ev
  obtain ⟨i, j, e1, e2, ev⟩ := two_int ev
  obtain rfl := e1
  obtain rfl := e2
  obtain rfl := Option.some.inj ev
  obtain ⟨_, rfl⟩ := r1.int'
  obtain ⟨_, rfl⟩ := r2.int'
  refine min_two_ints R.handled fun h' tk hk => ?_
  refine h _ _ (.heap hk rfl rfl) ?_
  split <;> exact .int _ _
theorem signs_vr {P : Addr → Prop} {h : Heap} : ∀ (cs : List Nat) (vs : List Value), vs.length = cs.length → (∀ (j : Nat) v, vs[j]? = some v → ∃ c u, cs[j]? = some c ∧ v = .str ⟨#[c]⟩ u) → VRs P h vs (cs.map fun c => .str ⟨#[c]⟩)
  | [], vs, hl, _ => by rw [List.length_eq_zero_iff.mp hl]; exact .nil
  | c :: cs, vs, hl, hv => by
    obtain ⟨v, ws, rfl⟩ := List.exists_cons_of_length_eq_add_one hl
    obtain ⟨c', u, e1, e2⟩ := hv 0 v rfl
    obtain rfl := Option.some.inj e1
    subst e2
    exact .cons (.str _ _) (signs_vr cs ws (Nat.succ.inj hl) fun j v q => hv (j + 1) v q)
theorem list_ok : CallOk B d (.type "list") listV := by
  intro A s P args rvs dv Q E R I fp r ev h
  obtain ⟨v, a0, rfl, r1, ev⟩ := bind1_some r ev
  obtain ⟨x, rfl, e0⟩ := bindS_some ev
  replace ev := e0
  obtain ⟨t, rfl⟩ := r1.str'
  · split at ev
    · rename_i hz
      obtain rfl := Option.some.inj ev
      refine call_list_str R.handled x t (fun h' tk acc' c' hk hS hacc => ?_) (by have : sizeLine = 2 ^ 24 := rfl; have : x.cps.size = x.length := rfl; omega)
      refine h _ _ (.heap hk rfl rfl) ?_
      have e : acc' = acc'.toList.toArray := by simp
      rw [e] at hS
      refine .list fp.new hS ?_
      refine signs_vr x.cps.toList acc'.toList (by simpa using hacc.1) fun j v hv => ?_
      obtain ⟨c, u, e1, e2⟩ := hacc.2 j v (by simpa using hv)
      exact ⟨c, u, by simpa using e1, e2⟩
    · exact nomatch ev

/-! methods -/
noncomputable def joinV (a : PyData) (args : List PyData) : Option PyData := (isS a).bind fun x => (arg1 args).bind fun b => (isL b).bind fun l => (strsOf l).bind fun ts => if JoinOk x ts then some (.str (Txt.join x ts)) else none
theorem join_ok : MethOk B d "str.join" joinV := by
  intro A s P a args x rvs dv Q E R I fp r0 r ev h
  obtain ⟨x, rfl, e0⟩ := bindS_some ev
  replace ev := e0
  obtain ⟨v, a0, rfl, r1, ev⟩ := bind1_some r ev
  obtain ⟨xs0, rfl, e0⟩ := bindL_some ev
  replace ev := e0
  · obtain ⟨ts, e1, ev⟩ := bind_some ev
    split at ev
    · rename_i hf
      obtain rfl := Option.some.inj ev
      obtain ⟨a, vs, n, rfl, p, e, r⟩ := r1.isList
      rw [strsOf_eq e1] at r
      obtain ⟨l, rfl, e3⟩ := r.strs
      obtain ⟨_, rfl⟩ := r0.str'
      exact SC.join (isList_of e) e3 hf fun t' k => h _ _ .toks (.str _ _)
    · exact nomatch ev
noncomputable def splitV (a : PyData) (args : List PyData) : Option PyData := (isS a).bind fun x => (arg1 args).bind fun b => (isS b).bind fun y => if (y.length == 0) = false ∧ x.length ≤ 100000 ∧ (Builtin.Str.partsBetween x (Builtin.Str.occurrences x y 0 x.length (x.length + 1)) y.length).length ≤ 100000 then some (.list ((Txt.split x y).map .str)) else none
theorem split_exact {w : World} {A : Around} {s : Shared} {x y : Str} {t u : Tok} {Q E : Value → Shared → Prop} (hy : (y.length == 0) = false) (hz : x.length ≤ sizeLine) (hz2 : (Builtin.Str.partsBetween x (Builtin.Str.occurrences x y 0 x.length (x.length + 1)) y.length).length ≤ sizeLine)
    (h : ∀ (l : List (Str × Tok)) tk, l.map (·.1) = Txt.split x y → Q (.ref s.heap.objs.size) { s with heap := s.heap.push { cls := .type "list", data := .seq (List.toArray (strValues l)) }, toks := tk }) : wpAny (MM w) A (call (.builtin "str.split") [.str x t, .str y u]) Q E s := by
  by_cases h1 : (decide (x.length < y.length) || decide (Builtin.Str.strKind x < Builtin.Str.strKind y)) = true
  · refine call_meets F.slot_str_split (typeIs_str _ _ _) F.entry_str_split (F.args_str_split_2 _ _) (meets_str_split_cannot_occur x y t u h1) ?_
    exact h [(x, t)] s.toks (by unfold Txt.split; rw [if_pos h1]; rfl)
  · have h1' := Bool.eq_false_iff.mpr h1
    by_cases hf : (Builtin.Str.occurrences x y 0 x.length (x.length + 1)).isEmpty = true
    · refine call_meets F.slot_str_split (typeIs_str _ _ _) F.entry_str_split (F.args_str_split_2 _ _) (meets_str_split_not_found x y t u h1' hy hf) ?_
      exact h [(x, t)] s.toks (by unfold Txt.split; rw [if_neg h1, if_pos hf]; rfl)
    · refine call_meets F.slot_str_split (typeIs_str _ _ _) F.entry_str_split (F.args_str_split_2 _ _) (meets_str_split_sep x y t u h1' hy (Bool.eq_false_iff.mpr hf) hz hz2) ?_
      show wants Q E _ { s with toks := _, heap := s.heap.push { cls := .type "list", data := .seq (strsFrom s.toks (Builtin.Str.partsBetween x (Builtin.Str.occurrences x y 0 x.length (x.length + 1)) y.length)).toArray } }
      rw [strsFrom_eq]
      exact h (numbered s.toks _) _ ((numbered_texts _ _).trans (by unfold Txt.split; rw [if_neg h1, if_neg hf]))
theorem split_ok : MethOk B d "str.split" splitV := by
  intro A s P a args x rvs dv Q E R I fp r0 r ev h
  obtain ⟨x, rfl, e0⟩ := bindS_some ev
  replace ev := e0
  obtain ⟨v, a0, rfl, r1, ev⟩ := bind1_some r ev
  obtain ⟨y, rfl, e0⟩ := bindS_some ev
  replace ev := e0
  · split at ev
    · rename_i hf
      obtain rfl := Option.some.inj ev
      obtain ⟨_, rfl⟩ := r1.str'
      obtain ⟨_, rfl⟩ := r0.str'
      have hsl : sizeLine = 2 ^ 24 := rfl
      exact split_exact hf.1 (by omega) (by omega) fun l tk el => h _ _ Step.push (.list fp.new (Heap.get?_push_size _ rfl) (by rw [← el]; exact VRs.ofStrs l))
    · exact nomatch ev
noncomputable def indexV (a : PyData) (args : List PyData) : Option PyData := (isL a).bind fun l => (arg1 args).bind fun b => (isI b).bind fun k => (intsOf l).bind fun ns => if k ∈ ns ∧ (PyData.list (ns.map .int)).layable0 = true then some (.int (List.idxOf k ns)) else none
theorem index_ok : MethOk B d "list.index" indexV := by
  intro A s P a args x rvs dv Q E R I fp r0 r ev h
  obtain ⟨l0, rfl, e0⟩ := bindL_some ev
  replace ev := e0
  obtain ⟨v, a0, rfl, r1, ev⟩ := bind1_some r ev
  obtain ⟨k, rfl, e0⟩ := bindI_some ev
  replace ev := e0
  · obtain ⟨ns, e1, ev⟩ := bind_some ev
    split at ev
    · rename_i hf
      obtain rfl := Option.some.inj ev
      obtain ⟨_, rfl⟩ := r1.int'
      obtain ⟨a, vs, n, rfl, p, e, r⟩ := r0.isList
      rw [intsOf_eq e1] at r
      exact index_list_ints (isList_of e) r.ints hf.2 hf.1 (h _ _ .toks (.int _ _))
    · exact nomatch ev
end
end Mine
end

section
open PySem PySem.W PyProof.Rows PySem.Calls
set_option maxRecDepth 100000
namespace Mine

inductive Out where
  | next (fr : Fm)
  | ret (v : PyData)

structure FrameW (B : BH) (cx : Cx) (W : Addr → Prop) (h : Heap) (env : Env) : Prop where
  cellW : ∀ x c, cx.cw x = true → env.cells.lookup x = some c → W c
  cinj : ∀ x y c, cx.cw x = true → env.cells.lookup x = some c → env.cells.lookup y = some c → x = y
  base : ∀ b o, W b → B.hB.get? b = some o → False

noncomputable abbrev NotW (W : Addr → Prop) : Addr → Prop := fun b => ¬ W b

theorem sameBut_step {W : Addr → Prop} {s : Shared} {h' : Heap} {a : Addr} {oa : Obj} {tk : Nat} (hs : Heap.SameBut a s.heap h') (w : W a) (ha : s.heap.get? a = some oa) (hd : ∀ vs, oa.data ≠ .fields vs) :
    StepP (NotW W) AllG s { s with heap := h', toks := tk } := by
  refine ⟨fun b o p _ e => (hs.2 b fun q => p (q ▸ w)).trans e, fun b o p e => ⟨o, (hs.2 b fun q => p (q ▸ w)).trans e⟩, fun t => ?_, fun _ _ _ e => e, Nat.le_refl _, id, rfl⟩
  · refine t.keepsBut (fun b o vs hv _ e => (hs.2 b fun q => ?_).trans e) fun c o vs e hv _ => (hs.2 c fun q => ?_).trans e
    · subst q; rw [ha] at e; obtain rfl := Option.some.inj e; exact hd vs hv
    · subst q; rw [ha] at e; obtain rfl := Option.some.inj e; exact hd vs hv

theorem sameBut_lv {h h' : Heap} {a : Addr} {oa' : Obj} (hs : Heap.SameBut a h h') (ha' : h'.get? a = some oa') : ∀ b o, h.get? b = some o → ∃ o', h'.get? b = some o' := fun b o e => by
  by_cases q : b = a
  · subst q; exact ⟨_, ha'⟩
  · exact ⟨o, (hs.2 b q).trans e⟩
theorem ns_uniq {h : Heap} {a : Addr} {m m' : Str → Option Value} (n : h.Ns a m) (n' : h.Ns a m') : m = m' := by
  obtain ⟨o1, es1, ep1, q1, q2, q3, q4⟩ := n
  obtain ⟨o2, es2, ep2, w1, w2, w3, w4⟩ := n'
  rw [q1] at w1; obtain rfl := Option.some.inj w1; rw [q2] at w2; cases w2
  funext y
  rw [← q4, w4]
theorem ns_ne_cell {h : Heap} {a c : Addr} {m : Str → Option Value} {v : Option Value} (n : h.Ns a m) (x : h.IsCell c v) : c ≠ a := by
  obtain ⟨o1, es1, ep1, q1, q2, _⟩ := n
  obtain ⟨o2, w1, w2⟩ := x
  rintro rfl
  rw [q1] at w1; obtain rfl := Option.some.inj w1; rw [q2] at w2; cases w2
theorem ns_ne_seq {h : Heap} {a c : Addr} {m : Str → Option Value} {o : Obj} {vs : Array Value} {k : Nat} (n : h.Ns a m) (e : h.get? c = some o) (dd : o.data = .seq vs k) : c ≠ a := by
  obtain ⟨o1, es1, ep1, q1, q2, _⟩ := n
  rintro rfl
  rw [q1] at e; obtain rfl := Option.some.inj e; rw [q2] at dd; cases dd
theorem cell_ne_seq {h : Heap} {a c : Addr} {v : Option Value} {o : Obj} {vs : Array Value} {k : Nat} (n : h.IsCell a v) (e : h.get? c = some o) (dd : o.data = .seq vs k) : c ≠ a := by
  obtain ⟨o1, q1, q2⟩ := n
  rintro rfl
  rw [q1] at e; obtain rfl := Option.some.inj e; rw [q2] at dd; cases dd

section
variable {B : BH} {cx : Cx} {A : Around} {s : Shared} {env : Env} {fr : Fm} {P W : Addr → Prop}
/-- a name stored: which address has changed, and that the rest reads as it did -/
theorem store_raw {x : Str} {rv : Value} {Q : Unit → Shared → Prop} {E : Value → Shared → Prop}
    (F : FrameOk cx P W s.heap env fr) (FW : FrameW B cx W s.heap env) (hk : cx.sc.names.lookup x = some .local ∨ (cx.sc.names.lookup x = some .cell ∧ cx.cw x = true))
    (h : ∀ (a : Addr) (h' : Heap) (tk : Nat), Heap.SameBut a s.heap h' → W a → (∃ oa, s.heap.get? a = some oa ∧ ∀ vs, oa.data ≠ .fields vs) → (∃ oa', h'.get? a = some oa') → (∀ l vs (n : Nat), s.heap.get? l = some { cls := .type "list", data := .seq vs n } → l ≠ a) →
      (∃ m, h'.Ns env.locals m) → Rd h' env x rv → (∀ y v, y ≠ x → Rd s.heap env y v → Rd h' env y v) → (∀ y c, env.cells.lookup y = some c → ∃ v, h'.IsCell c v) → Q () { s with heap := h', toks := tk }) : wpAny (MM B.w) A (storeName env x rv) Q E s := by
  obtain ⟨m₀, nL⟩ := F.ns
  have hkd : env.scope.kind = .function := by rw [F.sc]; exact F.kind
  have cellne : ∀ y c, env.cells.lookup y = some c → c ≠ env.locals := fun y c q => by
    obtain ⟨v, e1⟩ := F.cl y c q
    exact ns_ne_cell nL e1
  rcases hk with hk | ⟨hk, hcw⟩
  · have hkind : env.kindOf x = some .local := by unfold Env.kindOf; rw [F.sc]; exact hk
    refine wpAny_storeName_local hkind nL (fun h' n' hs => ?_) (by rw [hkd]; rfl)
    refine h env.locals h' _ hs F.wl ?_ ?_ (fun l vs n e => ns_ne_seq nL e rfl) ⟨_, n'⟩ (.inl ⟨hkind, _, n', by simp⟩) (fun y v hyx R' => ?_) fun y c q => ?_
    · obtain ⟨o, es, ep, e, dd, _⟩ := nL; exact ⟨o, e, fun vs q => by rw [dd] at q; cases q⟩
    · obtain ⟨o, es, ep, e, dd, _⟩ := n'; exact ⟨o, e⟩
    · rcases R' with ⟨k, m, n, e⟩ | ⟨k, c, e1, e2⟩
      · refine .inl ⟨k, _, n', ?_⟩
        simp only [if_neg hyx]
        rw [← ns_uniq n nL]; exact e
      · exact .inr ⟨k, c, e1, IsCell.kept e2 fun o e _ => (hs.2 c (cellne y c e1)).trans e⟩
    · obtain ⟨v, e1⟩ := F.cl y c q
      exact ⟨v, IsCell.kept e1 fun o e _ => (hs.2 c (cellne y c q)).trans e⟩
  · have hkind : env.kindOf x = some .cell := by unfold Env.kindOf; rw [F.sc]; exact hk
    obtain ⟨c, ec⟩ := F.has.1 x (.inl hk)
    have wc := FW.cellW x c hcw ec
    obtain ⟨v0, e1⟩ := F.cl x c ec
    refine wpAny_storeName_cell hkd hkind ec e1 fun h' hc' hs => ?_
    refine h c h' s.toks hs wc ?_ ?_ (fun l vs n e => cell_ne_seq e1 e rfl) ⟨m₀, nL.sameBut hs (Ne.symm (cellne x c ec))⟩ (.inr ⟨.inl hkind, c, ec, hc'⟩) (fun y v hyx R' => ?_) fun y c' q => ?_
    · obtain ⟨o, e, dd⟩ := e1; exact ⟨o, e, fun vs q => by rw [dd] at q; cases q⟩
    · obtain ⟨o, e, dd⟩ := hc'; exact ⟨o, e⟩
    · rcases R' with ⟨k, m, n, e⟩ | ⟨k, c', e2, e3⟩
      · exact .inl ⟨k, m, n.sameBut hs (Ne.symm (cellne x c ec)), e⟩
      · exact .inr ⟨k, c', e2, IsCell.kept e3 fun o e _ => (hs.2 c' fun z => hyx (FW.cinj x y c hcw ec (z ▸ e2)).symm).trans e⟩
    · by_cases z : c' = c
      · subst z; exact ⟨_, hc'⟩
      · obtain ⟨v, e2⟩ := F.cl y c' q
        exact ⟨v, IsCell.kept e2 fun o e _ => (hs.2 c' z).trans e⟩

theorem ns_ne {i j : Nat} {x y : Str} (hnd : cx.ns.Nodup) (hi : cx.ns[i]? = some x) (hj : cx.ns[j]? = some y) (q : j ≠ i) : y ≠ x := fun z => by
  subst z
  obtain ⟨q1, _⟩ := List.getElem?_eq_some_iff.mp hj
  exact q ((List.getElem?_inj q1 hnd).mp (hj.trans hi.symm))
theorem store_ok {i : Nat} {x : Str} {rv : Value} {d : PyData} {Q : Unit → Shared → Prop} {E : Value → Shared → Prop}
    (F : FrameOk cx P W s.heap env fr) (FW : FrameW B cx W s.heap env) (hi : cx.ns[i]? = some x) (ho : cx.own ≠ some i) (hl : i < fr.length) (hk : cx.sc.names.lookup x = some .local ∨ (cx.sc.names.lookup x = some .cell ∧ cx.cw x = true)) (hnd : cx.ns.Nodup)
    (r : VR P s.heap rv d) (h : ∀ s', StepP (NotW W) AllG s s' → FrameOk cx P W s'.heap env (fr.set i (some d)) → FrameW B cx W s'.heap env → Q () s') : wpAny (MM B.w) A (storeName env x rv) Q E s := by
  refine store_raw F FW hk ?_
  rintro a h' tk hs wa ⟨oa, ea, da⟩ ⟨oa', ea'⟩ hlist hns hx hy hcell
  have st : StepP (NotW W) AllG s { s with heap := h', toks := tk } := sameBut_step hs wa ea da
  have lv := sameBut_lv hs ea'
  have kp : Keep P s.heap h' := st.keep.mono fun b p w => F.wp b w p
  refine h _ st ⟨F.sc, F.kind, F.glob, F.blt, hns, F.wl, F.wp, fun b w => let ⟨o, e⟩ := F.wlt b w; lv b o e, hcell, F.has, fun j y dd a1 b1 c1 => ?_, fun j y dd a1 b1 c1 => ?_⟩ ⟨FW.cellW, FW.cinj, FW.base⟩
  · by_cases q : j = i
    · subst q
      rw [List.getElem?_set_self hl] at b1
      cases b1
      have : y = x := Option.some.inj (a1.symm.trans hi)
      subst this
      exact ⟨rv, hx, r.step kp⟩
    · rw [List.getElem?_set_ne (Ne.symm q)] at b1
      obtain ⟨rv', R', V'⟩ := F.slot j y dd a1 b1 c1
      exact ⟨rv', hy y rv' (ns_ne hnd hi a1 q) R', V'.step kp⟩
  · by_cases q : j = i
    · subst q; exact absurd a1 ho
    · rw [List.getElem?_set_ne (Ne.symm q)] at c1
      obtain ⟨l, vs, n, ds, e0, R', w, e1, r1⟩ := F.own j y dd a1 b1 c1
      exact ⟨l, vs, n, ds, e0, hy y _ (ns_ne hnd hi b1 q) R', w, (hs.2 l (hlist _ _ _ e1)).trans e1, r1.step kp⟩
noncomputable abbrev With (W : Addr → Prop) (l : Addr) : Addr → Prop := fun b => W b ∨ b = l
/-- the frame's own list stored for the first time: its address is the frame's from now on -/
theorem store_own {i : Nat} {x : Str} {l : Addr} {vs : List Value} {n : Nat} {ds : List PyData} {Q : Unit → Shared → Prop} {E : Value → Shared → Prop}
    (F : FrameOk cx P W s.heap env fr) (FW : FrameW B cx W s.heap env) (hi : cx.ns[i]? = some x) (ho : cx.own = some i) (hl : i < fr.length) (hk : cx.sc.names.lookup x = some .local ∨ (cx.sc.names.lookup x = some .cell ∧ cx.cw x = true)) (hnd : cx.ns.Nodup)
    (hp : ¬ P l) (e : s.heap.get? l = some { cls := .type "list", data := .seq vs.toArray n }) (r : VRs P s.heap vs ds) (hB : ∀ o, B.hB.get? l = some o → False)
    (h : ∀ s', StepP (NotW W) AllG s s' → FrameOk cx P (With W l) s'.heap env (fr.set i (some (.list ds))) → FrameW B cx (With W l) s'.heap env → Q () s') : wpAny (MM B.w) A (storeName env x (.ref l)) Q E s := by
  refine store_raw F FW hk ?_
  rintro a h' tk hs wa ⟨oa, ea, da⟩ ⟨oa', ea'⟩ hlist hns hx hy hcell
  have st : StepP (NotW W) AllG s { s with heap := h', toks := tk } := sameBut_step hs wa ea da
  have lv := sameBut_lv hs ea'
  have kp : Keep P s.heap h' := st.keep.mono fun b p w => F.wp b w p
  refine h _ st ⟨F.sc, F.kind, F.glob, F.blt, hns, .inl F.wl, fun b w p => w.elim (fun w => F.wp b w p) fun z => hp (z ▸ p), fun b w => ?_, hcell, F.has, fun j y dd a1 b1 c1 => ?_, fun j y dd a1 b1 c1 => ?_⟩ ⟨fun y c q1 q2 => .inl (FW.cellW y c q1 q2), FW.cinj, fun b o w q => w.elim (fun w => FW.base b o w q) fun z => hB o (z ▸ q)⟩
  · rcases w with w | rfl
    · obtain ⟨o, e⟩ := F.wlt b w; exact lv b o e
    · exact lv _ _ e
  · by_cases q : j = i
    · subst q; exact absurd ho c1
    · rw [List.getElem?_set_ne (Ne.symm q)] at b1
      obtain ⟨rv', R', V'⟩ := F.slot j y dd a1 b1 c1
      exact ⟨rv', hy y rv' (ns_ne hnd hi a1 q) R', V'.step kp⟩
  · have q : j = i := Option.some.inj (a1.symm.trans ho)
    subst q
    rw [List.getElem?_set_self hl] at c1
    cases c1
    have : y = x := Option.some.inj (b1.symm.trans hi)
    subst this
    exact ⟨l, vs, n, ds, rfl, hx, .inr rfl, (hs.2 l (hlist _ _ _ e)).trans e, r.step kp⟩
end
end Mine
end

section
open PySem PySem.W PyProof.Rows PySem.Calls
set_option maxRecDepth 100000
namespace Mine

noncomputable abbrev Or1 (P W : Addr → Prop) : Addr → Prop := fun b => P b ∨ W b
noncomputable def Post (B : BH) (cx : Cx) (P W : Addr → Prop) (env : Env) (s : Shared) (o : Out) (fl : Flow) (s' : Shared) : Prop :=
  StepP (NotW W) AllG s s' ∧ match o with
    | .next fr' => fl = .next ∧ FrameOk cx P W s'.heap env fr' ∧ FrameW B cx W s'.heap env
    | .ret v => ∃ rv, fl = .ret rv ∧ VR (Or1 P W) s'.heap rv v
/-- one statement; a block -/
noncomputable def Sim1 (B : BH) (d : Nat) (cx : Cx) (st : Stmt) (f : Fm → Option Out) : Prop :=
  ∀ {A : Around} {s : Shared} {env : Env} {fr : Fm} {P W : Addr → Prop} {o : Out} {Q : Flow → Shared → Prop} {E : Value → Shared → Prop},
    Room d A → Inv B s → FrameOk cx P W s.heap env fr → FrameW B cx W s.heap env → Fresh P s.heap → f fr = some o → (∀ fl s', Post B cx P W env s o fl s' → Q fl s') → wpAny (MM B.w) A (exec st env) Q E s
noncomputable def SimS (B : BH) (d : Nat) (cx : Cx) (st : List Stmt) (f : Fm → Option Out) : Prop :=
  ∀ {A : Around} {s : Shared} {env : Env} {fr : Fm} {P W : Addr → Prop} {o : Out} {Q : Flow → Shared → Prop} {E : Value → Shared → Prop},
    Room d A → Inv B s → FrameOk cx P W s.heap env fr → FrameW B cx W s.heap env → Fresh P s.heap → f fr = some o → (∀ fl s', Post B cx P W env s o fl s' → Q fl s') → wpAny (MM B.w) A (execs st env) Q E s

theorem FrameW.step {B : BH} {cx : Cx} {W : Addr → Prop} {s s' : Shared} {env : Env} (F : FrameW B cx W s.heap env) (_ : Step s s') : FrameW B cx W s'.heap env := ⟨F.cellW, F.cinj, F.base⟩
theorem Inv.stepW {B : BH} {cx : Cx} {W : Addr → Prop} {s s' : Shared} {h : Heap} {env : Env} (I : Inv B s) (F : FrameW B cx W h env) (t : StepP (NotW W) AllG s s') : Inv B s' := I.stepP t fun b o e w => F.base b o w e

section
variable {B : BH} {d : Nat} {cx : Cx}
noncomputable def seqF (f g : Fm → Option Out) (fr : Fm) : Option Out := (f fr).bind fun o => match o with | .next fr' => g fr' | .ret v => some (.ret v)
theorem simS_nil : SimS B d cx [] fun fr => some (.next fr) := by
  intro A s env fr P W o Q E R I F FW fp ev h
  obtain rfl := Option.some.inj ev
  exact wpAny_execs_nil (h _ _ ⟨.refl _ _ _, rfl, F, FW⟩)
theorem simS_cons {st : Stmt} {rest : List Stmt} {f g} (h1 : Sim1 B d cx st f) (h2 : SimS B d cx rest g) : SimS B d cx (st :: rest) (seqF f g) := by
  intro A s env fr P W o Q E R I F FW fp ev h
  obtain ⟨o1, e1, ev⟩ := bind_some ev
  refine wpAny_execs_cons (h1 R I F FW fp e1 fun fl s1 p1 => ?_)
  obtain ⟨t1, p1⟩ := p1
  cases o1 with
  | next fr1 =>
    obtain ⟨rfl, F1, W1⟩ := p1
    refine h2 R (I.stepW FW t1) F1 W1 (fp.leP t1 fun b n => .inr (F1.wlt b (Classical.not_not.mp n))) ev fun fl s2 p2 => h _ _ ⟨t1.trans p2.1, p2.2⟩
  | ret v =>
    obtain ⟨rv, rfl, r1⟩ := p1
    obtain rfl := Option.some.inj ev
    exact h _ _ ⟨t1, rv, rfl, r1⟩

/-- the names stand once each, and i names a local or a cell -/
structure Slot1 (cx : Cx) (i : Nat) (x : Str) : Prop where
  at_ : cx.ns[i]? = some x
  own : cx.own ≠ some i
  kind : cx.sc.names.lookup x = some .local ∨ (cx.sc.names.lookup x = some .cell ∧ cx.cw x = true)
  nd : cx.ns.Nodup

noncomputable def setF (i : Nat) (f : Fm → Option PyData) (fr : Fm) : Option Out := (f fr).bind fun v => if i < fr.length then some (.next (fr.set i (some v))) else none
theorem sim1_assign {x : Str} {pos' pos : Pos} {value : Expr} {i : Nat} {f} (hv : SimE B d cx value f) (hi : Slot1 cx i x) (hs : ∀ env, swapsWith value (some (.Name x pos')) pos.line env = pure false := by intro _; rfl) :
    Sim1 B d cx (.Assign [.Name x pos'] value pos) (setF i f) := by
  intro A s env fr P W o Q E R I F FW fp ev h
  obtain ⟨v, e1, ev⟩ := bind_some ev
  split at ev
  · rename_i hl
    obtain rfl := Option.some.inj ev
    refine wpAny_Assign_Name (hv R I F fp e1 fun rv s1 t1 r1 => ?_) (hs env)
    exact store_ok (F.step t1) (FW.step t1) hi.at_ hi.own hl hi.kind hi.nd r1 fun s2 t2 F2 W2 => h _ _ ⟨(Step.any t1).trans t2, rfl, F2, W2⟩
  · exact nomatch ev

/-- x op= e for ints and texts -/
noncomputable def iopV (op : Operator) (a b : PyData) : Option PyData := match op with
  | .Add => caseA (fun i => (isI b).bind fun j => some (.int (i + j))) (fun x => (isS b).bind fun y => if x.length + y.length ≤ 100000 then some (.str (x ++ y)) else none) (fun _ => none) a
  | .Sub => two isI isI (fun a b => some (.int (a - b))) a b
  | _ => none
theorem iop_ok {A : Around} {s : Shared} {P : Addr → Prop} {Q E : Value → Shared → Prop} {op : Operator} {x y : Value} {a b c : PyData} (hx : VR P s.heap x a) (hy : VR P s.heap y b) (hc : iopV op a b = some c) (h : ∀ rv s', Step s s' → VR P s'.heap rv c → Q rv s') : wpAny (MM B.w) A (inplaceOp op x y) Q E s := by
  have hi : ∀ {i t k tk}, PyData.int i = c → Q (.int i t) { s with toks := k, drawn := tk } := fun e => h _ _ .toks (by rw [← e]; exact .int _ _)
  cases op
  case Add =>
    refine a_elim hx hc (fun x => wpAny (MM B.w) A (inplaceOp .Add x y) Q E s) (fun i t e => ?_) (fun i t e => ?_) fun xs l1 v1 n1 p1 i1 r1 e => nomatch e
    · exact i_elim hy e (fun y => wpAny (MM B.w) A (inplaceOp .Add (.int i t) y) Q E s) fun j u e => wpAny_iadd_int (hi (Option.some.inj e))
    · exact s_elim hy e (fun y => wpAny (MM B.w) A (inplaceOp .Add (.str i t) y) Q E s) fun j u e => by
        obtain ⟨hz, e⟩ := if_some e
        exact iadd_str (fun t' k => h _ _ .toks (by rw [← e]; exact .str _ _)) (Nat.le_trans hz (by have : sizeLine = 2 ^ 24 := rfl; rw [this]; decide))
  case Sub => exact ii_elim hx hy hc (fun x y => wpAny (MM B.w) A (inplaceOp .Sub x y) Q E s) fun i j t u e => AutoIntOps.isub_0 (hi (Option.some.inj e))
  all_goals exact nomatch hc
noncomputable def augF (op : Operator) (i : Nat) (f : Fm → Option PyData) (fr : Fm) : Option Out := (getV i fr).bind fun a => (f fr).bind fun b => (iopV op a b).bind fun c => if i < fr.length then some (.next (fr.set i (some c))) else none
theorem sim1_aug {x : Str} {pos' pos : Pos} {value : Expr} {i : Nat} {op : Operator} {f} (hv : SimE B d cx value f) (hi : Slot1 cx i x) (hc : (x == Str.ofString "__classdict__") = false) : Sim1 B d cx (.AugAssign (.Name x pos') op value pos) (augF op i f) := by
  intro A s env fr P W o Q E R I F FW fp ev h
  obtain ⟨a, e1, ev⟩ := bind_some ev
  obtain ⟨b, e2, ev⟩ := bind_some ev
  obtain ⟨c, e3, ev⟩ := bind_some ev
  split at ev
  · rename_i hl
    obtain rfl := Option.some.inj ev
    obtain ⟨rv, rd, r⟩ := F.slot i x a hi.at_ (getV_eq e1) hi.own
    refine wpAny_AugAssign_Name (wp_load B.w (by rw [F.sc]; exact F.kind) rd (hv R I F fp e2 fun rv2 s1 t1 r1 => ?_) hc)
    refine iop_ok (B := B) (r.step (t1.keep.mono fun _ _ => trivial)) r1 e3 fun rv3 s2 t2 r2 => ?_
    have t12 := t1.trans t2
    exact store_ok (F.step t12) (FW.step t12) hi.at_ hi.own hl hi.kind hi.nd r2 fun s3 t3 F3 W3 => h _ _ ⟨(Step.any t12).trans t3, rfl, F3, W3⟩
  · exact nomatch ev

noncomputable def iteF (t : Fm → Option Bool) (f g : Fm → Option Out) (fr : Fm) : Option Out := (t fr).bind fun b => if b then f fr else g fr
theorem sim1_if {test : Expr} {body orelse : List Stmt} {pos : Pos} {t f g} (ht : SimT B d cx test t) (hf : SimS B d cx body f) (hg : SimS B d cx orelse g) : Sim1 B d cx (.If test body orelse pos) (iteF t f g) := by
  intro A s env fr P W o Q E R I F FW fp ev h
  obtain ⟨b, e1, ev⟩ := bind_some ev
  refine wpAny_If (ht R I F fp e1 fun s1 t1 => ?_)
  cases b with
  | true => exact hf R (I.step t1) (F.step t1) (FW.step t1) (fp.le t1.lv) ev fun fl s2 p2 => h _ _ ⟨(Step.any t1).trans p2.1, p2.2⟩
  | false => exact hg R (I.step t1) (F.step t1) (FW.step t1) (fp.le t1.lv) ev fun fl s2 p2 => h _ _ ⟨(Step.any t1).trans p2.1, p2.2⟩
theorem VR.up {P P' : Addr → Prop} {h : Heap} {v d} (r : VR P h v d) (k : ∀ b, P b → P' b) : VR P' h v d := r.move fun b _ p e => ⟨k b p, e⟩
/-- an expression that may read the frame's own list whole -/
noncomputable def SimO (B : BH) (d : Nat) (cx : Cx) (e : Expr) (f : Fm → Option PyData) : Prop :=
  ∀ {A : Around} {s : Shared} {env : Env} {fr : Fm} {P W : Addr → Prop} {dv : PyData} {Q : Value → Shared → Prop} {E : Value → Shared → Prop},
    Room d A → Inv B s → FrameOk cx P W s.heap env fr → Fresh P s.heap → f fr = some dv →
    (∀ rv s', Step s s' → VR (Or1 P W) s'.heap rv dv → Q rv s') → wpAny (MM B.w) A (eval e env) Q E s
theorem simO_of {e : Expr} {f} (he : SimE B d cx e f) : SimO B d cx e f := fun R I F fp ev h => he R I F fp ev fun rv s' t r => h rv s' t (r.up fun _ => .inl)
theorem simO_var {x : Str} {pos : Pos} (i : Nat) (hi : cx.ns[i]? = some x) (hc : (x == Str.ofString "__classdict__") = false) (hd : (x == ("__debug__" : Str)) = false) : SimO B d cx (.Name x pos) (getV i) := by
  intro A s env fr P W dv Q E _ _ F _ e h
  by_cases ho : cx.own = some i
  · obtain ⟨a, vs, n, ds, e0, rd, w, e1, r⟩ := F.own i x dv ho hi (getV_eq e)
    subst e0
    exact wpAny_Name (wp_load B.w (by rw [F.sc]; exact F.kind) rd (h _ _ (.refl _ _ _) (.list (.inr w) e1 (r.move fun b _ p e => ⟨.inl p, e⟩))) hc) hd
  · obtain ⟨rv, r, q⟩ := F.slot i x dv hi (getV_eq e) ho
    exact wpAny_Name (wp_load B.w (by rw [F.sc]; exact F.kind) r (h _ _ (.refl _ _ _) (q.up fun _ => .inl)) hc) hd
theorem simO_pair {e1 e2 : Expr} {k : Nat} {pos : Pos} {f g} (h1 : SimO B d cx e1 f) (h2 : SimO B d cx e2 g) (he1 : ∀ env, starEach [e1, e2] env = (false, eval e1 env) :: starEach [e2] env := by intro _; rfl)
    (he2 : ∀ env, starEach [e2] env = (false, eval e2 env) :: starEach [] env := by intro _; rfl) : SimO B d cx (.Tuple [e1, e2] k pos) fun fr => (f fr).bind fun a => (g fr).bind fun b => some (.tuple [a, b]) := by
  intro A s env fr P W dv Q E R I F fp ev h
  obtain ⟨a, ea, ev⟩ := bind_some ev
  obtain ⟨b, eb, ev⟩ := bind_some ev
  obtain rfl := Option.some.inj ev
  refine wpAny_Tuple_spliced (args_cons (h1 R I F fp ea fun rv s1 t1 r1 => args_cons (h2 R (I.step t1) (F.step t1) (fp.le t1.lv) eb fun rv2 s2 t2 r2 => args_nil ⟨by have : sizeLine = 2 ^ 24 := rfl; simp; omega, h _ _ ((t1.trans t2).trans Step.push) ?_⟩) (he2 env)) (he1 env))
  have kp : Keep (Or1 P W) s2.heap (s2.heap.push { cls := .type "tuple", data := .seq [rv, rv2].toArray }) := Keep.of fun _ _ e => Heap.get?_push_of_some _ e
  exact VR.tuple (.inl (fp.le (t1.trans t2).lv).new) (Heap.get?_push_size _ rfl) (.cons ((r1.step (t2.keep.mono fun _ _ => trivial)).step kp) (.cons (r2.step kp) .nil))
noncomputable def retF (f : Fm → Option PyData) (fr : Fm) : Option Out := (f fr).map .ret
theorem sim1_retO {e : Expr} {pos : Pos} {f} (he : SimO B d cx e f) : Sim1 B d cx (.Return (some e) pos) (retF f) := by
  intro A s env fr P W o Q E R I F FW fp ev h
  obtain ⟨v, e1, e2⟩ := Option.map_eq_some_iff.mp ev
  subst e2
  exact wpAny_Return_some (he R I F fp e1 fun rv s1 t1 r1 => h _ _ ⟨Step.any t1, rv, rfl, r1⟩)
theorem sim1_ret {e : Expr} {pos : Pos} {f} (he : SimE B d cx e f) : Sim1 B d cx (.Return (some e) pos) (retF f) := sim1_retO (simO_of he)
/-- a statement that is never come to -/
theorem sim1_never {st : Stmt} : Sim1 B d cx st fun _ => none := by
  intro A s env fr P W o Q E R I F FW fp ev h
  exact nomatch ev

/-- a while, its turns counted down by fuel -/
noncomputable def whileF (t : Fm → Option Bool) (f : Fm → Option Out) : Nat → Fm → Option Out
  | 0, _ => none
  | n + 1, fr => (t fr).bind fun b => if b then (f fr).bind fun o => match o with | .next fr' => whileF t f n fr' | .ret v => some (.ret v) else some (.next fr)
theorem sim1_while {test : Expr} {body : List Stmt} {pos : Pos} {t f} (n : Nat) (ht : SimT B d cx test t) (hf : SimS B d cx body f) : Sim1 B d cx (.While test body [] pos) (whileF t f n) := by
  intro A s env fr P W o Q E R I F FW fp ev h
  refine wpAny_While (codeAny_whileLoop (I := fun k s' => StepP (NotW W) AllG s s' ∧ Inv B s' ∧ Fresh P s'.heap ∧ ∃ fr', FrameOk cx P W s'.heap env fr' ∧ FrameW B cx W s'.heap env ∧ whileF t f k fr' = some o) ?_ n ⟨.refl _ _ _, I, fp, fr, F, FW, ev⟩)
  rintro k s1 ⟨t1, I1, fp1, fr1, F1, W1, ev1⟩
  cases k with
  | zero => cases ev1
  | succ k =>
    obtain ⟨b, e1, ev1⟩ := bind_some ev1
    refine ht R I1 F1 fp1 e1 fun s2 t2 => ?_
    cases b with
    | false =>
      cases ev1
      exact wpAny_execs_nil (h _ _ ⟨t1.trans (Step.any t2), rfl, F1.step t2, W1.step t2⟩)
    | true =>
      obtain ⟨o1, e2, ev1⟩ := bind_some ev1
      refine hf R (I1.step t2) (F1.step t2) (W1.step t2) (fp1.le t2.lv) e2 fun fl s3 p3 => ?_
      obtain ⟨t3, p3⟩ := p3
      have t13 := t1.trans ((Step.any t2).trans t3)
      cases o1 with
      | next fr3 =>
        obtain ⟨rfl, F3, W3⟩ := p3
        exact ⟨k, Nat.lt_succ_self _, t13, (I1.step t2).stepW W1 t3, (fp1.le t2.lv).leP t3 fun b n => .inr (F3.wlt b (Classical.not_not.mp n)), fr3, F3, W3, ev1⟩
      | ret v =>
        obtain ⟨rv, rfl, r3⟩ := p3
        obtain rfl := Option.some.inj ev1
        exact h _ _ ⟨t13, rv, rfl, r3⟩
end
end Mine
end

section
open PySem PySem.W PyProof.Rows PySem.Calls
set_option maxRecDepth 100000
namespace Mine

section
variable {B : BH} {d : Nat} {cx : Cx}

/-- the frame's own list, written anew where it lies -/
theorem own_upd {s : Shared} {env : Env} {fr : Fm} {P W : Addr → Prop} {i : Nat} {x : Str} {a : Addr} {vs vs' : List Value} {n n' tk : Nat} {ds' : List PyData} {h' : Heap} (F : FrameOk cx P W s.heap env fr) (FW : FrameW B cx W s.heap env)
    (ho : cx.own = some i) (hi : cx.ns[i]? = some x) (hl : i < fr.length) (rd : Rd s.heap env x (.ref a)) (w : W a) (e : s.heap.get? a = some { cls := .type "list", data := .seq vs.toArray n }) (hs : Heap.SameBut a s.heap h')
    (e' : h'.get? a = some { cls := .type "list", data := .seq vs'.toArray n' }) (r' : VRs P h' vs' ds') :
    StepP (NotW W) AllG s { s with heap := h', toks := tk } ∧ FrameOk cx P W h' env (fr.set i (some (.list ds'))) ∧ FrameW B cx W h' env ∧ Rd h' env x (.ref a) := by
  have st : StepP (NotW W) AllG s { s with heap := h', toks := tk } := sameBut_step hs w e (fun vs q => by cases q)
  have lv := sameBut_lv hs e'
  have kp : Keep P s.heap h' := st.keep.mono fun b p w => F.wp b w p
  obtain ⟨m, nL⟩ := F.ns
  have hne : env.locals ≠ a := Ne.symm (ns_ne_seq nL e rfl)
  have cne : ∀ c v, s.heap.IsCell c v → c ≠ a := fun c v q => Ne.symm (cell_ne_seq q e rfl)
  have rdk : ∀ y v, Rd s.heap env y v → Rd h' env y v := fun y v r => by
    rcases r with ⟨k, m, n, q⟩ | ⟨k, c, e1, e2⟩
    · exact .inl ⟨k, m, n.sameBut hs hne, q⟩
    · exact .inr ⟨k, c, e1, IsCell.kept e2 fun o e _ => (hs.2 c (cne c _ e2)).trans e⟩
  refine ⟨st, ⟨F.sc, F.kind, F.glob, F.blt, ⟨m, nL.sameBut hs hne⟩, F.wl, F.wp, fun b w => let ⟨o, e⟩ := F.wlt b w; lv b o e, fun y c q => ?_, F.has, fun j y dd a1 b1 c1 => ?_, fun j y dd a1 b1 c1 => ?_⟩, ⟨FW.cellW, FW.cinj, FW.base⟩, rdk _ _ rd⟩
  · obtain ⟨v, q⟩ := F.cl y c q
    exact ⟨v, IsCell.kept q fun o e _ => (hs.2 c (cne c _ q)).trans e⟩
  · have q : j ≠ i := by rintro rfl; exact c1 ho
    rw [List.getElem?_set_ne (Ne.symm q)] at b1
    obtain ⟨rv', R', V'⟩ := F.slot j y dd a1 b1 c1
    exact ⟨rv', rdk _ _ R', V'.step kp⟩
  · have q : j = i := Option.some.inj (a1.symm.trans ho)
    subst q
    rw [List.getElem?_set_self hl] at c1
    cases c1
    have : y = x := Option.some.inj (b1.symm.trans hi)
    subst this
    exact ⟨a, vs', n', ds', rfl, rdk _ _ rd, w, e', r'⟩

/-- a name stored again with what it holds -/
theorem restore_ok {A : Around} {s : Shared} {env : Env} {fr : Fm} {P W : Addr → Prop} {x : Str} {v : Value} {Q : Unit → Shared → Prop} {E : Value → Shared → Prop} (F : FrameOk cx P W s.heap env fr) (FW : FrameW B cx W s.heap env) (hk : cx.sc.names.lookup x = some .local) (rd : Rd s.heap env x v)
    (h : ∀ s', StepP (NotW W) AllG s s' → FrameOk cx P W s'.heap env fr → FrameW B cx W s'.heap env → Q () s') : wpAny (MM B.w) A (storeName env x v) Q E s := by
  have hkd : env.scope.kind = .function := by rw [F.sc]; exact F.kind
  have hkind : env.kindOf x = some .local := by unfold Env.kindOf; rw [F.sc]; exact hk
  obtain ⟨m, nL⟩ := F.ns
  refine wpAny_storeName_local hkind nL (fun h' n' hs => ?_) (by rw [hkd]; rfl)
  obtain ⟨o, es, ep, e, dd, _⟩ := id nL
  obtain ⟨o', es', ep', e', dd', _⟩ := id n'
  have st : StepP (NotW W) AllG s { s with heap := h', toks := s.toks + 1 } := sameBut_step hs F.wl e (fun vs q => by rw [dd] at q; cases q)
  have lv := sameBut_lv hs e'
  have kp : Keep P s.heap h' := st.keep.mono fun b p w => F.wp b w p
  have hx : m x = some v := by
    rcases rd with ⟨k, m1, n1, q⟩ | ⟨k, _⟩
    · rw [← ns_uniq n1 nL]; exact q
    · rw [hkind] at k; rcases k with k | k <;> cases k
  have rdk : ∀ y u, Rd s.heap env y u → Rd h' env y u := fun y u r => by
    rcases r with ⟨k, m1, n1, q⟩ | ⟨k, c, e1, e2⟩
    · refine .inl ⟨k, _, n', ?_⟩
      rw [ns_uniq n1 nL] at q
      by_cases z : y = x
      · subst z; simp only [if_true]; rw [← hx]; exact q
      · simp only [if_neg z]; exact q
    · exact .inr ⟨k, c, e1, IsCell.kept e2 fun o e _ => (hs.2 c (ns_ne_cell nL e2)).trans e⟩
  refine h _ st ⟨F.sc, F.kind, F.glob, F.blt, ⟨_, n'⟩, F.wl, F.wp, fun b w => let ⟨o, e⟩ := F.wlt b w; lv b o e, fun y c q => ?_, F.has, fun j y dd a1 b1 c1 => ?_, fun j y dd a1 b1 c1 => ?_⟩ ⟨FW.cellW, FW.cinj, FW.base⟩
  · obtain ⟨v, q⟩ := F.cl y c q
    exact ⟨v, IsCell.kept q fun o e _ => (hs.2 c (ns_ne_cell nL q)).trans e⟩
  · obtain ⟨rv', R', V'⟩ := F.slot j y dd a1 b1 c1
    exact ⟨rv', rdk _ _ R', V'.step kp⟩
  · obtain ⟨l, vs, n, ds, e0, R', w, e1, r1⟩ := F.own j y dd a1 b1 c1
    exact ⟨l, vs, n, ds, e0, rdk _ _ R', w, (hs.2 l (ns_ne_seq nL e1 rfl)).trans e1, r1.step kp⟩

/-! reading the own list -/
noncomputable def ownV (i : Nat) (fr : Fm) : Option (List PyData) := (getV i fr).bind fun v => match v with | .list ds => some ds | _ => none
theorem ownV_eq {i : Nat} {fr : Fm} {ds : List PyData} (e : ownV i fr = some ds) : fr[i]? = some (some (.list ds)) := by
  obtain ⟨v, e1, e2⟩ := bind_some e
  cases v <;> first | cases e2 | skip
  exact getV_eq e1
/-- own[e], a plain item -/
noncomputable def ownItemF (i : Nat) (g : Fm → Option PyData) (fr : Fm) : Option PyData := (ownV i fr).bind fun ds => (g fr).bind fun b => itemV (.list ds) b
theorem VRs.up {P P' : Addr → Prop} {h : Heap} {vs ds} (r : VRs P h vs ds) (k : ∀ b, P b → P' b) : VRs P' h vs ds := r.move fun b _ p e => ⟨k b p, e⟩
theorem simE_ownItem {x : Str} {np pos : Pos} {slice : Expr} {i : Nat} {g} (ho : cx.own = some i) (hi : cx.ns[i]? = some x) (hg : SimE B d cx slice g) (hc : (x == Str.ofString "__classdict__") = false) (hd : (x == ("__debug__" : Str)) = false)
    (hsl : ∀ o i, subscripted slice false o i = operate [o, i] (getItem o i) := by intro _ _; rfl) : SimE B d cx (.Subscript (.Name x np) slice pos) (ownItemF i g) := by
  intro A s env fr P W dv Q E R I F fp ev h
  obtain ⟨ds, e1, ev⟩ := bind_some ev
  obtain ⟨b, e2, ev⟩ := bind_some ev
  obtain ⟨a, vs, n, ds', e0, rd, w, e, r⟩ := F.own i x _ ho hi (ownV_eq e1)
  cases e0
  refine Subscript_ (wpAny_Name (wp_load B.w (by rw [F.sc]; exact F.kind) rd (hg R I F fp e2 fun rv2 s2 t2 r2 => ?_) hc) hd)
  -- the item reads over P
  have e' := t2.keep _ _ trivial (.inl (.type rfl)) e
  have r' := r.step (t2.keep.mono fun _ _ => trivial)
  · obtain ⟨k, rfl, e5⟩ := bindI_some ev
    split at e5
    · rename_i hk
      obtain ⟨j, hj, hcx⟩ := bind_some e5
      obtain ⟨_, rfl⟩ := VR.int' r2
      obtain ⟨v, hv, rv⟩ := r'.get hcx
      have i1 := isList_of e'
      have ln := r'.length
      refine tail_any (T := "list") ⟨_, e', rfl⟩ slot_list_getitem.lookup ?_ (hsl _ _)
      rcases seqIndex_cases hj with ⟨h0, h1, h2⟩ | ⟨h0, h3, h1, h2⟩
      · exact wpAny_getItem_list i1 h0 (by omega) (by rw [h1]; simpa using hv) (h _ _ t2 rv)
      · refine wpAny_getItem_list_neg i1 h0 (by simp only [List.size_toArray]; omega) (by omega) ?_ (h _ _ t2 rv)
        simp only [List.size_toArray, ln, h1]
        simpa using hv
    · exact nomatch e5
/-- len(own) -/
theorem simE_ownLen {x : Str} {lp np pos : Pos} {i : Nat} (ho : cx.own = some i) (hi : cx.ns[i]? = some x) (hv : glob B (Str.ofString "len") = some (.builtin "len")) (hk : cx.sc.names.lookup (Str.ofString "len") = some .globalImplicit) (hc : (x == Str.ofString "__classdict__") = false) (hd : (x == ("__debug__" : Str)) = false) :
    SimE B d cx (.Call (.Name (Str.ofString "len") lp) [.Name x np] [] pos) fun fr => (ownV i fr).bind fun ds => if ds.length ≤ 100000 then some (.int ds.length) else none := by
  intro A s env fr P W dv Q E R I F fp ev h
  obtain ⟨ds, e1, ev⟩ := bind_some ev
  split at ev
  · obtain rfl := Option.some.inj ev
    obtain ⟨a, vs, n, ds', e0, rd, w, e, r⟩ := F.own i x _ ho hi (ownV_eq e1)
    cases e0
    have hkd : env.scope.kind = .function := by rw [F.sc]; exact F.kind
    refine wpAny_Call_NameR (wpAny_Name (wp_glob I hkd (by unfold Env.kindOf; rw [F.sc]; exact hk) F.glob F.blt hv ?_) (by decide))
    refine callWith_any (B := B) (.inl ⟨_, rfl⟩) rfl rfl (args_cons (wpAny_Name (wp_load B.w hkd rd (args_nil ⟨I, ?_⟩) hc) hd))
    have := r.length
    refine call_len_list (isList_of e) (by simp only [List.size_toArray]; omega) ?_
    rw [List.size_toArray, this]
    exact h _ _ .toks (.int _ _)
  · exact nomatch ev
/-- sep.join(own) -/
theorem simE_ownJoin {o : Expr} {x : Str} {apos np pos : Pos} {i : Nat} {f} (hf : SimE B d cx o f) (ho : cx.own = some i) (hi : cx.ns[i]? = some x) (hb : ∀ env, attributeBase o (Str.ofString "join") env (eval o env) = eval o env) (hl : (apos.endLine == pos.line) = true)
    (hc : (x == Str.ofString "__classdict__") = false) (hd : (x == ("__debug__" : Str)) = false) :
    SimE B d cx (.Call (.Attribute o (Str.ofString "join") apos) [.Name x np] [] pos) fun fr => (f fr).bind fun a => (ownV i fr).bind fun ds => joinV a [.list ds] := by
  intro A s env fr P W dv Q E R I F fp ev h
  obtain ⟨a, e1, ev⟩ := bind_some ev
  obtain ⟨ds, e2, ev⟩ := bind_some ev
  obtain ⟨z, rfl, e5⟩ := bindS_some ev
  refine wpAny_Call_method (hb env) rfl hl PySem.F.plainAttrs_str PySem.F.slot_str_join PySem.F.type_str_join (hf R I F fp e1 fun rv s1 t1 r1 => ?_)
  obtain ⟨_, rfl⟩ := VR.str' r1
  refine ⟨typeIs_str _ _ _, (fun b q => by cases q), ?_⟩
  have F1 := F.step t1
  obtain ⟨a, vs, n, ds', e0, rd, w, e, r⟩ := F1.own i x _ ho hi (ownV_eq e2)
  cases e0
  refine callWith_builtin rfl (evalArgs_plain (args_cons (env := env) (pos := pos) (rest := []) (wpAny_Name (wp_load B.w (by rw [F.sc]; exact F.kind) rd (args_nil ?_) hc) hd)))
  obtain ⟨ts, e3, e6⟩ := bind_some (x := strsOf ds) e5
  split at e6
  · rename_i hf
    obtain rfl := Option.some.inj e6
    rw [strsOf_eq e3] at r
    obtain ⟨l, rfl, e4⟩ := r.strs
    exact SC.join (isList_of e) e4 hf fun t' k => h _ _ (t1.trans Step.toks) (.str _ _)
  · exact nomatch e6

/-! own.append(e) -/
noncomputable def appF (i : Nat) (f : Fm → Option PyData) (fr : Fm) : Option Out := (ownV i fr).bind fun ds => (f fr).bind fun v => if i < fr.length ∧ ds.length ≤ 100000 then some (.next (fr.set i (some (.list (ds ++ [v]))))) else none
theorem sim1_append {x : Str} {apos np pos pos2 : Pos} {elt : Expr} {i : Nat} {f} (hf : SimE B d cx elt f) (ho : cx.own = some i) (hi : cx.ns[i]? = some x) (hl : (apos.endLine == pos.line) = true) (hc : (x == Str.ofString "__classdict__") = false) (hd : (x == ("__debug__" : Str)) = false)
    (hst : ∀ env, starEach [elt] env = [(false, eval elt env)] := by intro _; rfl) :
    Sim1 B d cx (.Expr (.Call (.Attribute (.Name x np) (Str.ofString "append") apos) [elt] [] pos) pos2) (appF i f) := by
  intro A s env fr P W o Q E R I F FW fp ev h
  obtain ⟨ds, e1, ev⟩ := bind_some ev
  obtain ⟨v, e2, ev⟩ := bind_some ev
  split at ev
  · rename_i hz
    obtain rfl := Option.some.inj ev
    obtain ⟨a, vs, n, ds', e0, rd, w, e, r⟩ := F.own i x _ ho hi (ownV_eq e1)
    cases e0
    have hkd : env.scope.kind = .function := by rw [F.sc]; exact F.kind
    refine wpAny_Expr_any (wpAny_Call_append rfl (by rw [hst env]; rfl) hl (by rw [hst env]; rfl) (wpAny_Name (wp_load B.w hkd rd ⟨a, _, rfl, ⟨_, n, e, rfl, rfl, rfl⟩, ?_⟩ hc) hd)) (by unfold interactive; rw [hkd]; rfl) rfl
    refine hf R I F fp e2 fun rv s1 t1 r1 => ?_
    have e' := t1.keep _ _ trivial (.inl (.type rfl)) e
    have F1 := F.step t1
    have r' := r.step (t1.keep.mono fun _ _ => trivial)
    have ln := r'.length
    refine wpAny_list_append_plain ⟨n, e'⟩ (fun h' hl' hs => ?_) (by have : sizeLine = 2 ^ 24 := rfl; simp only [List.size_toArray]; omega)
    obtain ⟨n', e''⟩ := hl'
    have ep : vs.toArray.push rv = (vs ++ [rv]).toArray := by simp
    rw [ep] at e''
    have kp : Keep P s1.heap h' := fun b o p q e => (hs.2 b fun z => F.wp a w (z ▸ p)).trans e
    obtain ⟨st, F2, W2, rd2⟩ := own_upd (tk := s1.toks) F1 (FW.step t1) ho hi hz.1 (rd.keeps t1.keep) w e' hs e'' ((r'.step kp).snoc (r1.step kp))
    exact h _ _ ⟨(Step.any t1).trans st, rfl, F2, W2⟩
  · exact nomatch ev

/-! own += e -/
theorem iadd_lists {w : World} {A : Around} {s : Shared} {l b : Addr} {vs ws : List Value} {n k : Nat} {Q E : Value → Shared → Prop} (hl : s.heap.get? l = some { cls := .type "list", data := .seq vs.toArray n }) (hb : s.heap.get? b = some { cls := .type "list", data := .seq ws.toArray k })
    (hz : vs.length + ws.length ≤ 1000000) (h : ∀ h' n', Heap.SameBut l s.heap h' → h'.get? l = some { cls := .type "list", data := .seq (vs ++ ws).toArray n' } → Q (.ref l) { s with heap := h' }) : wpAny (MM w) A (inplaceOp .Add (.ref l) (.ref b)) Q E s := by
  have hfi : fillsInplaceSlot (.type "list") "add" (Operator.Add == .Add) = pure false := by
    unfold fillsInplaceSlot
    show (typeLookup (.type "list") (dunderI "add") >>= fun fi => pure (fi.isSome && !isSeqSlot fi)) = pure false
    rw [PySem.F.slot_list_iadd.lookup]; rfl
  have hsi : seqSlot? (.type "list") (dunderI "add") = pure (some (.builtin "list.__iadd__")) := by
    unfold seqSlot?
    rw [PySem.F.slot_list_iadd.lookup]; rfl
  have sz : sizeLine = 2 ^ 24 := rfl
  unfold inplaceOp
  refine wpAny_holding ?_
  refine wpAny_bind (wpAny_typeOf ⟨_, hl, rfl⟩ (wpAny_bind (wpAny_of_eq hfi ?_)))
  refine wpAny_ite_false rfl ?_
  refine wpAny_bind (wpAny_binaryOp1_none (nm := "add") ⟨_, hl, rfl⟩ ⟨_, hb, rfl⟩ noFill_list_add ?_)
  refine wpAny_bind (wpAny_of_eq hsi ?_)
  refine wpAny_bind (wpAny_rule ?_)
  refine call_meets PySem.F.slot_list_iadd ⟨_, hl, rfl⟩ PySem.F.entry_list_iadd (PySem.F.args_list_iadd_2 _ _) (AutoSeq1.list___iadd___list_list_0 l vs.toArray n b ws.toArray k ?_ ?_ ?_) ⟨hl, hb, ?_⟩
  · simp [Builtin.List.listTooLong]; intro _; omega
  · simp only [List.size_toArray]; omega
  · simp only [List.size_toArray]; omega
  · refine h _ (if (vs ++ ws).toArray.size == vs.toArray.size then n else n + 1) (Heap.SameBut.update ..) ?_
    rw [Heap.get?_update_self _ hl rfl]
    simp [Obj.mapSeq]
noncomputable def extF (i : Nat) (f : Fm → Option PyData) (fr : Fm) : Option Out := (ownV i fr).bind fun ds => (f fr).bind fun v => match v with
  | .list es => if i < fr.length ∧ ds.length + es.length ≤ 100000 then some (.next (fr.set i (some (.list (ds ++ es))))) else none
  | _ => none
theorem sim1_extend {x : Str} {np pos : Pos} {value : Expr} {i : Nat} {f} (hf : SimE B d cx value f) (ho : cx.own = some i) (hi : cx.ns[i]? = some x) (hk : cx.sc.names.lookup x = some .local) (hc : (x == Str.ofString "__classdict__") = false) :
    Sim1 B d cx (.AugAssign (.Name x np) .Add value pos) (extF i f) := by
  intro A s env fr P W o Q E R I F FW fp ev h
  obtain ⟨ds, e1, ev⟩ := bind_some ev
  obtain ⟨v, e2, ev⟩ := bind_some ev
  split at ev
  · rename_i es
    split at ev
    · rename_i hz
      obtain rfl := Option.some.inj ev
      obtain ⟨a, vs, n, ds', e0, rd, w, e, r⟩ := F.own i x _ ho hi (ownV_eq e1)
      cases e0
      have hkd : env.scope.kind = .function := by rw [F.sc]; exact F.kind
      refine wpAny_AugAssign_Name (wp_load B.w hkd rd (hf R I F fp e2 fun rv s1 t1 r1 => ?_) hc)
      obtain ⟨b, ws, k, rfl, pb, eb, rb⟩ := r1.isList
      have e' := t1.keep _ _ trivial (.inl (.type rfl)) e
      have r' := r.step (t1.keep.mono fun _ _ => trivial)
      have l1 := r'.length
      have l2 := rb.length
      refine iadd_lists e' eb (by omega) fun h' n' hs e'' => ?_
      have F1 := F.step t1
      have kp : Keep P s1.heap h' := fun b o p q e => (hs.2 b fun z => F.wp a w (z ▸ p)).trans e
      obtain ⟨st, F2, W2, rd2⟩ := own_upd (tk := s1.toks) F1 (FW.step t1) ho hi hz.1 (rd.keeps t1.keep) w e' hs e'' ((r'.step kp).append (rb.step kp))
      -- the name is stored again
      exact restore_ok (s := { s1 with heap := h' }) F2 W2 hk rd2 fun s3 t3 F3 W3 => h _ _ ⟨((Step.any t1).trans st).trans t3, rfl, F3, W3⟩
    · exact nomatch ev
  · exact nomatch ev
end
end Mine
end

section
open PySem PySem.W PyProof.Rows PySem.Calls
set_option maxRecDepth 100000
namespace Mine

theorem Inv.lives {B : BH} {s : Shared} (I : Inv B s) : ∀ b o, B.hB.get? b = some o → ∃ o', s.heap.get? b = some o' := fun b o e => by
  by_cases q : b = TB
  · subst q
    obtain ⟨ps, _, t, _⟩ := I.tab
    exact ⟨_, t.2⟩
  · exact ⟨o, I.keep b o trivial (.inr q) e⟩
noncomputable abbrev NotG (X : Nat → Prop) : Nat → Prop := fun g => ¬ X g
/-- an iterator: its own addresses are X (its generators XG); it hands out these data, whatever the frame (W) does between -/
noncomputable def Iter (B : BH) (d : Nat) (P W X : Addr → Prop) (XG : Nat → Prop) (target : Expr) (it : Value) : List PyData → Shared → Prop
  | [], s => ∀ (s₂ : Shared) (A : Around), StepP (NotW W) AllG s s₂ → Room d A → Inv B s₂ → Fresh P s₂.heap →
      wpAny (MM B.w) A (pyNext it) (fun r s1 => r = none ∧ StepP (NotW X) (NotG XG) s₂ s1) (fun _ _ => False) s₂
  | v :: rest, s => ∀ (s₂ : Shared) (A : Around), StepP (NotW W) AllG s s₂ → Room d A → Inv B s₂ → Fresh P s₂.heap →
      wpAny (MM B.w) A (pyNext it) (fun r s1 => ∃ rv, r = some rv ∧ wpAny (MM B.w) A (letOwnedTupleGo target it rv)
        (fun _ s3 => StepP (NotW X) (NotG XG) s₂ s3 ∧ (∀ b, X b → ∃ o, s3.heap.get? b = some o) ∧ VR P s3.heap rv v ∧ Iter B d P W X XG target it rest s3) (fun _ _ => False) s1) (fun _ _ => False) s₂
theorem Iter.later {B : BH} {d : Nat} {P W X : Addr → Prop} {XG : Nat → Prop} {target : Expr} {it : Value} {l : List PyData} {s s' : Shared} (h : Iter B d P W X XG target it l s) (t : StepP (NotW W) AllG s s') : Iter B d P W X XG target it l s' := by
  cases l with
  | nil => exact fun s₂ A t' => h s₂ A (t.trans t')
  | cons v rest => exact fun s₂ A t' => h s₂ A (t.trans t')

noncomputable def SelfI (B : BH) (W : Addr → Prop) (it : Value) (s : Shared) : Prop := ∀ (s₂ : Shared) (A : Around) (Q E : Value → Shared → Prop), StepP (NotW W) AllG s s₂ → Q it s₂ → wpAny (MM B.w) A (pyIter it) Q E s₂
noncomputable abbrev But (P X : Addr → Prop) : Addr → Prop := fun b => P b ∧ ¬ X b
/-- an expression that is looped over -/
noncomputable def SimI (B : BH) (d : Nat) (cx : Cx) (e target : Expr) (f : Fm → Option (List PyData)) : Prop :=
  ∀ {A : Around} {s : Shared} {env : Env} {fr : Fm} {P W : Addr → Prop} {items : List PyData} {Q : Value → Shared → Prop} {E : Value → Shared → Prop},
    Room d A → Inv B s → FrameOk cx P W s.heap env fr → Fresh P s.heap → f fr = some items →
    (∀ it s' X XG, Step s s' → (∀ b o, s.heap.get? b = some o → ¬ X b) → (∀ b, X b → ∃ o, s'.heap.get? b = some o) → (∀ g, g < s.gens.size → ¬ XG g) →
      (∀ P' W', (∀ b o, s'.heap.get? b = some o → P b → ¬ X b → P' b) → (∀ b, P' b → ¬ X b) → (∀ b, W' b → ¬ P' b) → (∀ b, X b → ¬ W' b) → Iter B d P' W' X XG target it items s' ∧ SelfI B W' it s') → Q it s') →
    wpAny (MM B.w) A (eval e env) (fun x s1 => wpAny (MM B.w) A (pyIter x) Q E s1) E s

/-- what an assignment of a value does -/
noncomputable def SimA (B : BH) (cx : Cx) (target : Expr) (g : PyData → Fm → Option Fm) : Prop :=
  ∀ {A : Around} {s : Shared} {env : Env} {fr fr' : Fm} {P W : Addr → Prop} {rv : Value} {v : PyData} {Q : Unit → Shared → Prop} {E : Value → Shared → Prop},
    A.handled = none → FrameOk cx P W s.heap env fr → FrameW B cx W s.heap env → VR P s.heap rv v → g v fr = some fr' →
    (∀ s', StepP (NotW W) AllG s s' → FrameOk cx P W s'.heap env fr' → FrameW B cx W s'.heap env → Q () s') → wpAny (MM B.w) A (assign target env rv) Q E s

/-- what stands through a turn of a generator: what was there when it was made, and all that is no iterator -/
noncomputable def iterCls (o : Obj) : Prop := (o.cls = .type "enumerate" ∨ o.cls = .type "str_ascii_iterator" ∨ o.cls = .type "str_iterator") ∧ ∃ vs, o.data = .fields vs ∧ ∀ q t, vs[1]? ≠ some (.str q t)
/-- what a value's reading rests on -/
noncomputable def Still (b : Addr) (o : Obj) : Prop := ¬ iterCls o ∧ (Plain o ∨ b ≠ TB)
theorem Still.seq {b : Addr} {vs : Array Value} {n : Nat} {T : String} : Still b { cls := .type T, data := .seq vs n } := ⟨fun q => (by obtain ⟨_, _, e, _⟩ := q; cases e), .inl (.type rfl)⟩
theorem Still.func {b : Addr} {fd : FuncData} {T : String} : Still b { cls := .type T, data := .func fd } := ⟨fun q => (by obtain ⟨_, _, e, _⟩ := q; cases e), .inl (.type rfl)⟩
theorem Still.cell {b : Addr} {o : Obj} {v : Option Value} (e : o.data = .cell v) : Still b o := ⟨fun q => (by obtain ⟨_, _, e', _⟩ := q; rw [e] at e'; cases e'), .inl (.inr fun vs q => by rw [e] at q; cases q)⟩
theorem Still.code {b : Addr} {o : Obj} {vs : Array Value} {x : Str} {t : Tok} (n : b ≠ TB) (e : o.data = .fields vs) (e2 : vs[1]? = some (.str x t)) : Still b o := ⟨fun q => (by obtain ⟨_, _, e', k⟩ := q; rw [e] at e'; cases e'; exact k _ _ e2), .inr n⟩
noncomputable def NX (X : Addr → Prop) (hC : Heap) (h : Heap) : Addr → Prop := fun b => ¬ X b ∧ ((∃ o, hC.get? b = some o) ∨ ∀ o, h.get? b = some o → ¬ iterCls o)
/-- what was there when it was made is there -/
noncomputable def AliveC (hC h : Heap) : Prop := ∀ b o, hC.get? b = some o → ∃ o', h.get? b = some o'
noncomputable def IterG (B : BH) (A : Around) (P W X : Addr → Prop) (XG : Nat → Prop) (hC : Heap) (target : Expr) (it : Value) : List PyData → Shared → Prop
  | [], s => ∀ (s₂ : Shared), StepP (NotW W) AllG s s₂ → AliveC hC s₂.heap → Inv B s₂ → Fresh P s₂.heap →
      wpAny (MM B.w) A (pyNext it) (fun r s1 => r = none ∧ StepP (NX X hC s₂.heap) (NotG XG) s₂ s1) (fun _ _ => False) s₂
  | v :: rest, s => ∀ (s₂ : Shared), StepP (NotW W) AllG s s₂ → AliveC hC s₂.heap → Inv B s₂ → Fresh P s₂.heap →
      wpAny (MM B.w) A (pyNext it) (fun r s1 => ∃ rv, r = some rv ∧ wpAny (MM B.w) A (letOwnedTupleGo target it rv)
        (fun _ s3 => StepP (NX X hC s₂.heap) (NotG XG) s₂ s3 ∧ AliveC hC s3.heap ∧ VR P s3.heap rv v ∧ IterG B A P W X XG hC target it rest s3) (fun _ _ => False) s1) (fun _ _ => False) s₂
theorem IterG.later {B : BH} {A : Around} {P W X : Addr → Prop} {XG : Nat → Prop} {hC : Heap} {target : Expr} {it : Value} {l : List PyData} {s s' : Shared} (h : IterG B A P W X XG hC target it l s) (t : StepP (NotW W) AllG s s') : IterG B A P W X XG hC target it l s' := by
  cases l with
  | nil => exact fun s₂ t' => h s₂ (t.trans t')
  | cons v rest => exact fun s₂ t' => h s₂ (t.trans t')
theorem Iter.grow {B : BH} {d : Nat} {A : Around} {P W X : Addr → Prop} {XG : Nat → Prop} {hC : Heap} {target : Expr} {it : Value} (R : Room d A) : ∀ (l : List PyData) (s : Shared), Iter B d P W X XG target it l s → IterG B A P W X XG hC target it l s
  | [], s, h => fun s₂ t _ I fp => wpAny_mono (h s₂ A t R I fp) (fun r s1 q => ⟨q.1, q.2.mono (fun b n => n.1) fun _ g => g⟩) fun _ _ q => q
  | v :: rest, s, h => fun s₂ t al I fp => wpAny_mono (h s₂ A t R I fp) (fun r s1 q => by
      obtain ⟨rv, e, hr⟩ := q
      refine ⟨rv, e, wpAny_mono hr (fun _ s3 q => ?_) fun _ _ q => q⟩
      obtain ⟨t3, xl3, r3, It3⟩ := q
      refine ⟨t3.mono (fun b n => n.1) fun _ g => g, fun b o e => ?_, r3, Iter.grow R rest s3 It3⟩
      obtain ⟨o', e'⟩ := al b o e
      by_cases x : X b
      · exact xl3 b x
      · exact t3.live b o' x e') fun _ _ q => q
/-- an expression that is looped over by a for: a generator may stand there -/
noncomputable def SimG (B : BH) (d : Nat) (cx : Cx) (e target : Expr) (f : Fm → Option (List PyData)) : Prop :=
  ∀ {A : Around} {s : Shared} {env : Env} {fr : Fm} {P W : Addr → Prop} {items : List PyData} {Q : Value → Shared → Prop} {E : Value → Shared → Prop},
    Room d A → Inv B s → FrameOk cx P W s.heap env fr → Fresh P s.heap → f fr = some items →
    (∀ it s' X XG, Step s s' → (∀ b o, s.heap.get? b = some o → ¬ X b) → (∀ b, X b → ∃ o, s'.heap.get? b = some o) → (∀ g, g < s.gens.size → ¬ XG g) →
      (∀ P' W', (∀ b o, s'.heap.get? b = some o → P b → ¬ X b → P' b) → (∀ b, P' b → ¬ X b) → (∀ b, W' b → ¬ P' b) → (∀ b, X b → ¬ W' b) → (∀ b, W' b → ∃ o, s'.heap.get? b = some o) → Fresh P' s'.heap → IterG B A P' W' X XG s'.heap target it items s') → Q it s') →
    wpAny (MM B.w) A (eval e env) (fun x s1 => wpAny (MM B.w) A (pyIter x) Q E s1) E s
theorem SimI.grow {B : BH} {d : Nat} {cx : Cx} {e target : Expr} {f} (h : SimI B d cx e target f) : SimG B d cx e target f := by
  intro A s env fr P W items Q E R I F fp ev q
  exact h R I F fp ev fun it s' X XG t h0 hl hg hI => q it s' X XG t h0 hl hg fun P' W' a b c d _ _ => (hI P' W' a b c d).1.grow R

section
variable {B : BH} {d : Nat} {cx : Cx}
noncomputable def putV (i : Nat) (v : PyData) (fr : Fm) : Option Fm := if i < fr.length then some (fr.set i (some v)) else none
theorem simA_name {x : Str} {pos : Pos} {i : Nat} (hi : Slot1 cx i x) : SimA B cx (.Name x pos) (putV i) := by
  intro A s env fr fr' P W rv v Q E hh F FW r ev h
  unfold putV at ev
  split at ev
  · rename_i hl
    obtain rfl := Option.some.inj ev
    exact wpAny_assign_Name (store_ok F FW hi.at_ hi.own hl hi.kind hi.nd r h)
  · exact nomatch ev
noncomputable def putV2 (i j : Nat) (v : PyData) (fr : Fm) : Option Fm := match v with
  | .tuple [a, b] => (putV i a fr).bind (putV j b)
  | _ => none
theorem simA_pair {x y : Str} {p1 p2 pos : Pos} {k i j : Nat} (hi : Slot1 cx i x) (hj : Slot1 cx j y) : SimA B cx (.Tuple [.Name x p1, .Name y p2] k pos) (putV2 i j) := by
  intro A s env fr fr' P W rv v Q E hh F FW r ev h
  unfold putV2 at ev
  split at ev
  · rename_i a b
    obtain ⟨fr1, e1, e2⟩ := bind_some ev
    obtain ⟨t, vs, n, rfl, p, e, rs⟩ := r.isTuple
    obtain ⟨_, _, rfl, ra, rs⟩ := VRs.cons' rs; obtain ⟨_, _, rfl, rb, rs⟩ := VRs.cons' rs
    obtain rfl := VRs.nil' rs
    refine wpAny_assign_Tuple hh (isTuple_of e) rfl rfl fun h' hx => ?_
    have st : Step s { s with heap := h' } := .heap (fun b o q => hx b o (Nat.ne_of_lt (Heap.lt_size q)) q) rfl rfl
    show wpAny _ _ (assignInOrder [assign (.Name x p1) env, assign (.Name y p2) env] [_, _]) _ _ _
    unfold assignInOrder
    have ra' := ra.step (st.keep.mono fun _ _ => trivial)
    have rb' := rb.step (st.keep.mono fun _ _ => trivial)
    refine wpAny_bind (wpAny_holding (simA_name (B := B) (pos := p1) hi hh (F.step st) (FW.step st) ra' e1 fun s1 t1 F1 W1 => ?_))
    unfold assignInOrder
    refine wpAny_bind (wpAny_holding (simA_name (B := B) (pos := p2) hj hh F1 W1 (rb'.step (t1.keep.mono fun b p w => F.wp b w p)) e2 fun s2 t2 F2 W2 => ?_))
    unfold assignInOrder
    exact wpAny_pure (h _ (((Step.any st).trans t1).trans t2) F2 W2)
  · exact nomatch ev

/-- the frame's reading stands when an iterator has moved -/
theorem FrameOk.stepX {P W X : Addr → Prop} {G : Nat → Prop} {s s' : Shared} {env : Env} {fr : Fm} (F : FrameOk cx P W s.heap env fr) (t : StepP (NotW X) G s s') (hW : ∀ b, W b → ¬ X b) (hP : ∀ b, P b → ¬ X b) (hc : ∀ x c, env.cells.lookup x = some c → ¬ X c) : FrameOk cx P W s'.heap env fr := by
  have kp : Keep P s.heap s'.heap := t.keep.mono hP
  have rdk : ∀ y u, Rd s.heap env y u → Rd s'.heap env y u := fun y u r => by
    rcases r with ⟨k, m1, n1, q⟩ | ⟨k, c, e1, e2⟩
    · exact .inl ⟨k, m1, Heap.Ns.kept n1 fun o e p => t.keep _ _ (hW _ F.wl) (.inl p) e, q⟩
    · exact .inr ⟨k, c, e1, IsCell.kept e2 fun o e p => t.keep _ _ (hc y c e1) (.inl p) e⟩
  obtain ⟨m, nL⟩ := F.ns
  refine ⟨F.sc, F.kind, F.glob, F.blt, ⟨m, Heap.Ns.kept nL fun o e p => t.keep _ _ (hW _ F.wl) (.inl p) e⟩, F.wl, F.wp, fun b w => let ⟨o, e⟩ := F.wlt b w; t.live b o (hW b w) e, fun x c q => let ⟨v, e⟩ := F.cl x c q; ⟨v, IsCell.kept e fun o e' p => t.keep _ _ (hc x c q) (.inl p) e'⟩, F.has, fun j y dd a1 b1 c1 => ?_, fun j y dd a1 b1 c1 => ?_⟩
  · obtain ⟨rv', R', V'⟩ := F.slot j y dd a1 b1 c1
    exact ⟨rv', rdk _ _ R', V'.step kp⟩
  · obtain ⟨l, vs, n, ds, e0, R', w, e1, r1⟩ := F.own j y dd a1 b1 c1
    exact ⟨l, vs, n, ds, e0, rdk _ _ R', w, t.keep _ _ (hW l w) (.inl (.type rfl)) e1, r1.step kp⟩
theorem FrameW.stepX {W X : Addr → Prop} {G : Nat → Prop} {s s' : Shared} {env : Env} (F : FrameW B cx W s.heap env) (_ : StepP (NotW X) G s s') : FrameW B cx W s'.heap env := ⟨F.cellW, F.cinj, F.base⟩
theorem VRs.stepV {P : Addr → Prop} {h h' : Heap} (k : ∀ b o, P b → Still b o → h.get? b = some o → h'.get? b = some o) {v d} (r : VR P h v d) : VR P h' v d := by
  refine VR.rec (motive_1 := fun v d _ => VR P h' v d) (motive_2 := fun vs ds _ => VRs P h' vs ds) .none .bool .int .str ?_ ?_ ?_ .nil ?_ r
  · intro a vs n xs p e _ ih; exact .list p (k _ _ p .seq e) ih
  · intro a vs n xs p e _ ih; exact .tuple p (k _ _ p .seq e) ih
  · intro a c c' fd oc vs t ocl rv d p e L p' n e1 e2 e3 pc e4 e5 _ ih
    exact .fn p (k _ _ p .func e) L p' n (k _ _ p' (.code n e2 e3) e1) e2 e3 pc (k _ _ pc (.cell e5) e4) e5 ih
  · intro v vs d ds _ _ a b; exact .cons a b
theorem VRs.stepVs {P : Addr → Prop} {h h' : Heap} (k : ∀ b o, P b → Still b o → h.get? b = some o → h'.get? b = some o) : ∀ {v d}, VRs P h v d → VRs P h' v d
  | _, _, .nil => .nil
  | _, _, .cons a b => .cons (VRs.stepV k a) (VRs.stepVs k b)
/-- the frame's reading stands when a generator has moved -/
theorem FrameOk.stepN {P W N : Addr → Prop} {G : Nat → Prop} {s s' : Shared} {env : Env} {fr : Fm} (F : FrameOk cx P W s.heap env fr) (t : StepP N G s s') (hW : ∀ b, W b → N b) (hP : ∀ b o, P b → s.heap.get? b = some o → Still b o → N b) (hc : ∀ x c, env.cells.lookup x = some c → N c) : FrameOk cx P W s'.heap env fr := by
  have kp : ∀ b o, P b → Still b o → s.heap.get? b = some o → s'.heap.get? b = some o := fun b o p c e => t.keep b o (hP b o p e c) c.2 e
  have rdk : ∀ y u, Rd s.heap env y u → Rd s'.heap env y u := fun y u r => by
    rcases r with ⟨k, m1, n1, q⟩ | ⟨k, c, e1, e2⟩
    · exact .inl ⟨k, m1, Heap.Ns.kept n1 fun o e p => t.keep _ _ (hW _ F.wl) (.inl p) e, q⟩
    · exact .inr ⟨k, c, e1, IsCell.kept e2 fun o e p => t.keep _ _ (hc y c e1) (.inl p) e⟩
  obtain ⟨m, nL⟩ := F.ns
  refine ⟨F.sc, F.kind, F.glob, F.blt, ⟨m, Heap.Ns.kept nL fun o e p => t.keep _ _ (hW _ F.wl) (.inl p) e⟩, F.wl, F.wp, fun b w => let ⟨o, e⟩ := F.wlt b w; t.live b o (hW b w) e, fun x c q => let ⟨v, e⟩ := F.cl x c q; ⟨v, IsCell.kept e fun o e' p => t.keep _ _ (hc x c q) (.inl p) e'⟩, F.has, fun j y dd a1 b1 c1 => ?_, fun j y dd a1 b1 c1 => ?_⟩
  · obtain ⟨rv', R', V'⟩ := F.slot j y dd a1 b1 c1
    exact ⟨rv', rdk _ _ R', VRs.stepV kp V'⟩
  · obtain ⟨l, vs, n, ds, e0, R', w, e1, r1⟩ := F.own j y dd a1 b1 c1
    exact ⟨l, vs, n, ds, e0, rdk _ _ R', w, t.keep _ _ (hW l w) (.inl (.type rfl)) e1, VRs.stepVs kp r1⟩
/-- another P for the same frame -/
theorem FrameOk.narrow {P P' W : Addr → Prop} {h : Heap} {env : Env} {fr : Fm} (F : FrameOk cx P W h env fr) (k : ∀ b o, h.get? b = some o → P b → P' b) (wp : ∀ b, W b → ¬ P' b) : FrameOk cx P' W h env fr :=
  ⟨F.sc, F.kind, F.glob, F.blt, F.ns, F.wl, wp, F.wlt, F.cl, F.has, fun j y dd a b c => let ⟨rv, r, v⟩ := F.slot j y dd a b c; ⟨rv, r, v.narrow k⟩,
    fun j y dd a b c => let ⟨l, vs, n, ds, e0, r, w, e1, v⟩ := F.own j y dd a b c; ⟨l, vs, n, ds, e0, r, w, e1, v.narrow k⟩⟩

noncomputable def forF (g : PyData → Fm → Option Fm) (f : Fm → Option Out) : List PyData → Fm → Option Out
  | [], fr => some (.next fr)
  | v :: rest, fr => (g v fr).bind fun fr1 => (f fr1).bind fun o => match o with | .next fr2 => forF g f rest fr2 | .ret v => some (.ret v)
theorem sim1_forG {target iter : Expr} {body : List Stmt} {pos : Pos} {fi g f} (hi : SimG B d cx iter target fi) (ha : SimA B cx target g) (hb : SimS B d cx body f) (hfs : ∀ env x, foldedSetIterable iter env x = pure x := by intro _ _; rfl) :
    Sim1 B d cx (.For target iter body [] pos) fun fr => (fi fr).bind fun items => forF g f items fr := by
  intro A s env fr P W o Q E R I F FW fp ev h
  obtain ⟨items, e1, ev⟩ := bind_some ev
  refine wpAny_For (hi R I F fp e1 fun it s0 X XG t0 hX0 hXl hXG hIt => ?_) (hfs env)
  -- what is X's is no one else's
  have hWX : ∀ b, W b → ¬ X b := fun b w => let ⟨o, e⟩ := F.wlt b w; hX0 b o e
  have hW0 : ∀ b, W b → ∃ o, s0.heap.get? b = some o := fun b w => let ⟨o, e⟩ := F.wlt b w; t0.lv b o e
  have hXP : ∀ b, X b → P b := fun b x => fp b (by
    cases q : s.heap.get? b with
    | none => rfl
    | some o => exact absurd x (hX0 b o q))
  have F0 := F.step t0
  have F0' : FrameOk cx (But P X) W s0.heap env fr := by
    -- what the frame reads was there before the iterator
    refine ⟨F0.sc, F0.kind, F0.glob, F0.blt, F0.ns, F0.wl, fun b w p => F0.wp b w p.1, F0.wlt, F0.cl, F0.has, fun j y dd a b c => ?_, fun j y dd a b c => ?_⟩
    · obtain ⟨rv, r, v⟩ := F.slot j y dd a b c
      exact ⟨rv, r.keeps t0.keep, (v.narrow (P' := But P X) fun b o e p => ⟨p, hX0 b o e⟩).step (t0.keep.mono fun _ _ => trivial)⟩
    · obtain ⟨l, vs, n, ds, e0, r, w, e1, v⟩ := F.own j y dd a b c
      exact ⟨l, vs, n, ds, e0, r.keeps t0.keep, w, t0.keep _ _ trivial (.inl (.type rfl)) e1, (v.narrow (P' := But P X) fun b o e p => ⟨p, hX0 b o e⟩).step (t0.keep.mono fun _ _ => trivial)⟩
  have fp0 : Fresh (But P X) s0.heap := fun a q => ⟨(fp.le t0.lv) a q, fun x => by obtain ⟨o, e⟩ := hXl a x; rw [q] at e; exact nomatch e⟩
  have It := hIt (But P X) W (fun _ _ _ p x => ⟨p, x⟩) (fun _ p => p.2) (fun b w p => F.wp b w p.1) (fun b x w => hWX b w x) hW0 fp0
  -- what stood before the loop is not the iterator's
  have old : ∀ (h : Heap) b o, s.heap.get? b = some o → NX X s0.heap h b := fun h b o e => ⟨hX0 b o e, .inl (t0.lv b o e)⟩
  have wN : ∀ (h : Heap) b, W b → NX X s0.heap h b := fun h b w => let ⟨o, e⟩ := F.wlt b w; old h b o e
  have cN : ∀ (h : Heap) x c, env.cells.lookup x = some c → NX X s0.heap h c := fun h x c q => let ⟨_, o, e, _⟩ := F.cl x c q; old h c o e
  have pN : ∀ (h : Heap) b o, But P X b → h.get? b = some o → Still b o → NX X s0.heap h b := fun h b o p e c => ⟨p.2, .inr fun o' e' i => by
    rw [e] at e'; obtain rfl := Option.some.inj e'
    exact c.1 i⟩
  have cls : ∀ {s1 s2 : Shared} {N : Addr → Prop} {G : Nat → Prop}, StepP (NotW W) AllG s s1 → StepP N G s1 s2 → (∀ b o, s.heap.get? b = some o → ¬ W b → N b) → (∀ g, g < s.gens.size → G g) → StepP (NotW W) AllG s s2 := fun t t2 hN hG =>
    ⟨fun b o p q e => t2.keep b o (hN b o e p) q (t.keep b o p q e), fun b o p e => let ⟨o', e'⟩ := t.live b o p e; t2.live b o' (hN b o e p) e', fun x => t2.tab (t.tab x),
      fun g x _ e => t2.gens g x (hG g (Array.getElem?_eq_some_iff.mp e).1) (t.gens g x trivial e), Nat.le_trans t.gsize t2.gsize, fun x => t2.bare (t.bare x), t2.os.trans t.os⟩
  refine codeAny_forLoop_any (I := fun k s' => ∃ rest fr', k = rest.length ∧ StepP (NotW W) AllG s s' ∧ Inv B s' ∧ AliveC s0.heap s'.heap ∧ FrameOk cx (But P X) W s'.heap env fr' ∧ FrameW B cx W s'.heap env ∧
    IterG B A (But P X) W X XG s0.heap target it rest s' ∧ forF g f rest fr' = some o) ?_ items.length ⟨items, fr, rfl, Step.any t0, I.step t0, fun _ o e => ⟨o, e⟩, F0', FW.step t0, It, ev⟩
  have afp : ∀ {h : Heap}, AliveC s0.heap h → Fresh (But P X) h := fun al a q => fp0 a (by
    cases e : s0.heap.get? a with
    | none => rfl
    | some o => obtain ⟨o', e'⟩ := al a o e; rw [q] at e'; exact nomatch e')
  rintro k s1 ⟨rest, fr1, rfl, t1, I1, al1, F1, W1, It1, ev1⟩
  cases rest with
  | nil =>
    cases ev1
    refine wpAny_mono (It1 s1 (.refl _ _ _) al1 I1 (afp al1)) (fun r s2 hr => ?_) fun _ _ q => q.elim
    obtain ⟨rfl, t2⟩ := hr
    refine wpAny_execs_nil (h _ _ ⟨cls t1 t2 (fun b o e _ => old _ b o e) hXG, rfl, ?_, ⟨W1.cellW, W1.cinj, W1.base⟩⟩)
    exact (F1.stepN t2 (wN _) (pN _) (cN _)).narrow (fun b _ _ p => p.1) F.wp
  | cons v rest =>
    obtain ⟨fr2, e2, ev1⟩ := bind_some ev1
    obtain ⟨o1, e3, ev1⟩ := bind_some ev1
    refine wpAny_mono (It1 s1 (.refl _ _ _) al1 I1 (afp al1)) (fun r s2 hr => ?_) fun _ _ q => q.elim
    obtain ⟨rv, rfl, hr⟩ := hr
    refine wpAny_mono hr (fun _ s3 hr => ?_) fun _ _ q => q.elim
    obtain ⟨t3, al3, r3, It3⟩ := hr
    have F3 := F1.stepN t3 (wN _) (pN _) (cN _)
    have W3 : FrameW B cx W s3.heap env := ⟨W1.cellW, W1.cinj, W1.base⟩
    have I3 : Inv B s3 := I1.stepP t3 fun b o e => let ⟨o', e'⟩ := I.lives b o e; old _ b o' e'
    refine ha R.handled F3 W3 r3 e2 fun s4 t4 F4 W4 => ?_
    have fp3 : Fresh (But P X) s3.heap := afp al3
    have fp4 : Fresh (But P X) s4.heap := fp3.leP t4 fun b n => .inr (F4.wlt b (Classical.not_not.mp n))
    refine hb R (I3.stepW W3 t4) F4 W4 fp4 e3 fun fl s5 p5 => ?_
    obtain ⟨t5, p5⟩ := p5
    have t45 := t4.trans t5
    have t15 : StepP (NotW W) AllG s s5 := (cls t1 t3 (fun b o e _ => old _ b o e) hXG).trans t45
    cases o1 with
    | next fr5 =>
      obtain ⟨rfl, F5, W5⟩ := p5
      exact ⟨_, Nat.lt_succ_self _, rest, fr5, rfl, t15, I3.stepW W3 t45, fun b o e => let ⟨o1, e1⟩ := al3 b o e; (Classical.em (W b)).elim (fun w => F5.wlt b w) fun w => t45.live b o1 w e1, F5, W5, It3.later t45, ev1⟩
    | ret u =>
      obtain ⟨ru, rfl, r5⟩ := p5
      obtain rfl := Option.some.inj ev1
      exact h _ _ ⟨t15, ru, rfl, r5.narrow fun b _ _ p => p.imp (·.1) id⟩
theorem sim1_for {target iter : Expr} {body : List Stmt} {pos : Pos} {fi g f} (hi : SimI B d cx iter target fi) (ha : SimA B cx target g) (hb : SimS B d cx body f) (hfs : ∀ env x, foldedSetIterable iter env x = pure x := by intro _ _; rfl) :
    Sim1 B d cx (.For target iter body [] pos) fun fr => (fi fr).bind fun items => forF g f items fr := sim1_forG hi.grow ha hb hfs
end
end Mine
end

section
open PySem PySem.W PyProof.Rows PySem.Calls
set_option maxRecDepth 100000
namespace Mine

/-- an object that is no record of a code or of a text's table -/
noncomputable def NoRec (o : Obj) : Prop := ∀ vs, o.data = .fields vs → o.cls ≠ .none ∧ o.cls ≠ .type "code" ∧ ∀ q t, vs[1]? ≠ some (.str q t)
theorem step_but {X : Addr → Prop} {G : Nat → Prop} {s s' : Shared} (hk : ∀ b o, ¬ X b → s.heap.get? b = some o → s'.heap.get? b = some o) (hn : ∀ b o, X b → s.heap.get? b = some o → NoRec o) (g : s'.gens = s.gens) (o : s'.os = s.os) : StepP (NotW X) G s s' := by
  refine ⟨fun b o p _ e => hk b o p e, fun b o p e => ⟨o, hk b o p e⟩, fun t => ?_, fun _ _ _ e => g ▸ e, Nat.le_of_eq (by rw [g]), fun t => g ▸ t, o⟩
  refine t.keepsBut (fun b o vs hv hc e => hk b o (fun x => ?_) e) fun c o vs e hv hq => hk c o (fun x => ?_) e
  · rcases hc with hc | hc
    · exact (hn b o x e vs hv).1 hc
    · exact (hn b o x e vs hv).2.1 hc
  · obtain ⟨q, t, e1⟩ := hq
    exact (hn c o x e vs hv).2.2 q t e1

section
variable {B : BH} {d : Nat} {cx : Cx} {P W : Addr → Prop}

theorem noRec_listIter {h : Heap} {a l : Addr} {i : Nat} {o : Obj} (x : h.IsListIter a l i) (e : h.get? a = some o) : NoRec o := by
  obtain ⟨o', e1, c, dd⟩ := x
  rw [e] at e1; obtain rfl := Option.some.inj e1
  intro vs q
  rw [dd] at q; cases q
  exact ⟨(by rw [c]; simp), (by rw [c]; simp), fun q t z => by simp at z⟩

theorem Heap.IsListIter.kept {h h' : Heap} {a l : Addr} {i : Nat} (x : h.IsListIter a l i) (k : ∀ o, h.get? a = some o → Plain o → h'.get? a = some o) : h'.IsListIter a l i := by
  obtain ⟨o, e, c, r⟩ := x
  exact ⟨o, k o e (.type c), c, r⟩

/-- over a list -/
theorem iter_list {it l : Addr} {target : Expr} {vs : List Value} {ds : List PyData} {n : Nat} (hne : l ≠ it) (pl : P l) (hw : ∀ b, W b → ¬ P b) (hx : ¬ P it) (hwi : ¬ W it) (ht : ∀ v, letOwnedTupleGo target (.ref it) v = pure ()) :
    ∀ (rest : List PyData) (i : Nat) (s : Shared), ds.drop i = rest → s.heap.IsListIter it l i → s.heap.get? l = some { cls := .type "list", data := .seq vs.toArray n } → VRs P s.heap vs ds → Iter B d P W (· = it) (fun _ => False) target (.ref it) rest s := by
  intro rest
  induction rest with
  | nil =>
    intro i s hd hI hl hr s₂ A t R I fp
    have kP : ∀ b o, P b → Plain o → s.heap.get? b = some o → s₂.heap.get? b = some o := fun b o p pl e => t.keep b o (fun w => hw b w p) (.inl pl) e
    have hI2 := Heap.IsListIter.kept hI fun o e p => t.keep it o hwi (.inl p) e
    have hl2 := kP l _ pl (.type rfl) hl
    have hn : vs.toArray[i]? = none := by
      have := List.drop_eq_nil_iff.mp hd
      simp only [List.getElem?_toArray, List.getElem?_eq_none_iff, hr.length]; exact this
    refine wpAny_pyNext_list_end R.handled hI2 (isList_of hl2) hn fun h' hx => ⟨rfl, ?_⟩
    exact step_but (s' := { s₂ with heap := h' }) (fun b o x e => hx b o x e) (fun b o x e => by subst x; exact noRec_listIter hI2 e) rfl rfl
  | cons v rest ih =>
    intro i s hd hI hl hr s₂ A t R I fp
    have kp : Keep P s.heap s₂.heap := t.keep.mono fun b p w => hw b w p
    have hI2 := Heap.IsListIter.kept hI fun o e p => t.keep it o hwi (.inl p) e
    have hl2 := kp l _ pl (.inl (.type rfl)) hl
    have hr2 := hr.step kp
    have hi : ds[i]? = some v := by
      have := congrArg (·[0]?) hd
      simpa using this
    have hd' : ds.drop (i + 1) = rest := by rw [← List.drop_drop, hd]; rfl
    obtain ⟨rv, hv, r⟩ := hr2.get hi
    refine wpAny_pyNext_list_item hI2 (isList_of hl2) (by simpa using hv) fun h' hI' hs => ⟨rv, rfl, ?_⟩
    rw [ht rv]
    have st : StepP (NotW (· = it)) (NotG fun _ => False) s₂ { s₂ with heap := h' } := step_but (fun b o x e => (hs.2 b x).trans e) (fun b o x e => by subst x; exact noRec_listIter hI2 e) rfl rfl
    have kp' : Keep P s₂.heap h' := fun b o p _ e => (hs.2 b fun z => hx (z ▸ p)).trans e
    refine wpAny_pure ⟨st, fun b x => ?_, r.step kp', ih (i + 1) _ hd' hI' ((hs.2 l hne).trans hl2) (hr2.step kp')⟩
    subst x
    obtain ⟨o, e, _⟩ := hI'
    exact ⟨o, e⟩

noncomputable def asList (f : Fm → Option PyData) (fr : Fm) : Option (List PyData) := (f fr).bind fun v => match v with | .list l => some l | _ => none
theorem simI_list {e target : Expr} {f} (he : SimE B d cx e f) (ht : ∀ it v, letOwnedTupleGo target it v = pure () := by intro _ _; rfl) : SimI B d cx e target (asList f) := by
  intro A s env fr P W items Q E R I F fp ev h
  obtain ⟨v, e1, ev⟩ := bind_some ev
  cases v <;> first | cases ev | skip
  refine he R I F fp e1 fun rv s1 t1 r1 => ?_
  obtain ⟨l, vs, n, rfl, p, el, r⟩ := r1.isList
  refine wpAny_pyIter_list (isList_of el) ?_
  have hne : l ≠ s1.heap.objs.size := Nat.ne_of_lt (Heap.lt_size el)
  have fresh : s1.heap.get? s1.heap.objs.size = none := get_size _
  refine h (.ref s1.heap.objs.size) _ (· = s1.heap.objs.size) (fun _ => False) (t1.trans Step.push) (fun b o q x => ?_) (fun b x => ?_) (fun _ _ x => x) fun P' W' hP hPX hwp hxw => ⟨?_, ?_⟩
  · subst x
    obtain ⟨o', e'⟩ := t1.lv _ _ q
    rw [fresh] at e'; exact nomatch e'
  · subst x; exact ⟨_, Heap.get?_push_size _ rfl⟩
  · refine iter_list (vs := vs) (n := n) hne (hP l _ (Heap.get?_push_of_some _ el) p hne) hwp (fun q => hPX _ q rfl) (hxw _ rfl) (fun v => ht _ v) items 0 _ rfl ⟨_, Heap.get?_push_size _ rfl, rfl, rfl⟩ (Heap.get?_push_of_some _ el) ?_
    exact r.move fun b o p e => ⟨hP b o (Heap.get?_push_of_some _ e) p (Nat.ne_of_lt (Heap.lt_size e)), Heap.get?_push_of_some _ e⟩
  · intro s₂ A Q E t q
    have hI : (s1.heap.push { cls := .type "list_iterator", data := .fields #[.ref l, .int 0 0] }).IsListIter s1.heap.objs.size l 0 := ⟨_, Heap.get?_push_size _ rfl, rfl, rfl⟩
    exact wpAny_pyIter_listiter (Heap.IsListIter.kept hI fun o e p => t.keep _ o (hxw _ rfl) (.inl p) e) q

/-! ranges -/
theorem noRec_rangeIter {o : Obj} {x l st : Int} (e : o = { cls := .type "range_iterator", data := .fields #[rawInt x, rawInt l, rawInt st] }) : NoRec o := by
  subst e
  intro vs q
  cases q
  exact ⟨by simp, by simp, fun q t z => by simp [rawInt] at z⟩
noncomputable def rng (x step : Int) : Nat → List PyData
  | 0 => []
  | n + 1 => .int x :: rng (x + step) step n
theorem iter_range {it : Addr} {target : Expr} {step : Int} (hx : ¬ P it) (hwi : ¬ W it) (ht : ∀ v, letOwnedTupleGo target (.ref it) v = pure ()) :
    ∀ (n : Nat) (x : Int) (s : Shared), IsRangeIter s.heap it x n step → Iter B d P W (· = it) (fun _ => False) target (.ref it) (rng x step n) s := by
  intro n
  induction n with
  | zero =>
    intro x s hI s₂ A t R I fp
    have hI2 : IsRangeIter s₂.heap it x 0 step := t.keep it _ hwi (.inl (.type rfl)) hI
    refine wpAny_pyNext_range_end R.handled hI2 (Int.le_refl _) fun h' hx => ⟨rfl, ?_⟩
    exact step_but (s' := { s₂ with heap := h' }) (fun b o x e => hx b o x e) (fun b o x e => by subst x; rw [hI2] at e; obtain rfl := Option.some.inj e; exact noRec_rangeIter rfl) rfl rfl
  | succ n ih =>
    intro x s hI s₂ A t R I fp
    have hI2 : IsRangeIter s₂.heap it x (n + 1 : Nat) step := t.keep it _ hwi (.inl (.type rfl)) hI
    refine wpAny_pyNext_range_item hI2 (by omega) fun h' hI' hs => ⟨_, rfl, ?_⟩
    rw [ht]
    have e : ((n + 1 : Nat) : Int) - 1 = n := by omega
    rw [e] at hI'
    refine wpAny_pure ⟨step_but (fun b o x e => (hs.2 b x).trans e) (fun b o x e => by subst x; rw [hI2] at e; obtain rfl := Option.some.inj e; exact noRec_rangeIter rfl) rfl rfl, fun b x => ?_, .int _ _, ih _ _ hI'⟩
    subst x
    exact ⟨_, hI'⟩
noncomputable def rangeV : List PyData → Option (List PyData)
  | [a] => (isI a).bind fun n => if -1000000 < n ∧ n < 1000000 then some (rng 0 1 n.toNat) else none
  | [a, b, c] => (isI a).bind fun a => (isI b).bind fun b => (isI c).bind fun c => if c = 2 ∧ 0 ≤ a ∧ a < 1000 ∧ 0 ≤ b ∧ b < 1000000 then some (rng a 2 (if a < b then ((b - a - 1) / 2 + 1).toNat else 0)) else none
  | _ => none
theorem fits_of {x : Int} (h : -1000000000 < x ∧ x < 1000000000) : Builtin.Range.rangeFitsLong x = true := by
  unfold Builtin.Range.rangeFitsLong
  simp only [Bool.and_eq_true, decide_eq_true_eq]
  omega
theorem small_of {a b c : Int} {n : Nat} (ha : -1000000 < a ∧ a < 1000001) (hb : -1000000 < b ∧ b < 1000001) (hc : 0 < c ∧ c < 3) (hz : Builtin.Range.rangeSize a b c = (n : Nat)) (hn : n < 10000001) : Builtin.Range.small a b c = true := by
  unfold Builtin.Range.small
  rw [hz, fits_of (by omega), fits_of (by omega), fits_of (by omega), fits_of (by omega), if_pos (by omega), fits_of (by omega)]
  simp
theorem call_rng {A : Around} {s : Shared} {P : Addr → Prop} {args items : List PyData} {rvs : List Value} {Q E : Value → Shared → Prop} (r : VRs P s.heap rvs args) (ev : rangeV args = some items)
    (h : ∀ h' tk a b c t u v n, (∀ b o, s.heap.get? b = some o → h'.get? b = some o) → IsRange h' s.heap.objs.size a b c t u v → Builtin.Range.small a b c = true → Builtin.Range.rangeSize a b c = (n : Nat) → items = rng a c n → Q (.ref s.heap.objs.size) { s with heap := h', toks := tk }) :
    wpAny (MM B.w) A (call (.type "range") rvs) Q E s := by
  rcases args with _ | ⟨a0, _ | ⟨b0, _ | ⟨c0, _ | ⟨d0, rest⟩⟩⟩⟩
  · exact nomatch ev
  · obtain ⟨n, rfl, e1⟩ := bindI_some ev
    split at e1
    · rename_i hc
      obtain rfl := Option.some.inj e1
      obtain ⟨_, rfl, r1⟩ := r.one'
      obtain ⟨t, rfl⟩ := r1.int'
      have hz : Builtin.Range.rangeSize 0 n 1 = (n.toNat : Nat) := by
        unfold Builtin.Range.rangeSize
        rw [if_pos (by decide)]
        split <;> omega
      refine call_range_1 (h _ _ 0 n 1 _ _ _ n.toNat (fun _ _ e => Heap.get?_push_of_some _ e) (IsRange.new ..) ?_ hz rfl)
      exact small_of (by omega) (by omega) (by omega) hz (by omega)
    · exact nomatch e1
  · exact nomatch ev
  · obtain ⟨a, rfl, e1⟩ := bindI_some ev
    obtain ⟨b, rfl, e2⟩ := bindI_some e1
    obtain ⟨c, rfl, e3⟩ := bindI_some e2
    split at e3
    · rename_i hc
      obtain rfl := Option.some.inj e3
      obtain ⟨_, _, rfl, r1, r⟩ := r.cons'
      obtain ⟨_, _, rfl, r2, r⟩ := r.cons'
      obtain ⟨_, rfl, r3⟩ := r.one'
      obtain ⟨_, rfl⟩ := r1.int'
      obtain ⟨_, rfl⟩ := r2.int'
      obtain ⟨_, rfl⟩ := r3.int'
      obtain ⟨rfl, h0, h1, h3, h2⟩ := hc
      have hz : Builtin.Range.rangeSize a b 2 = ((if a < b then ((b - a - 1) / 2 + 1).toNat else 0 : Nat) : Int) := by
        unfold Builtin.Range.rangeSize
        rw [if_pos (by decide)]
        split <;> omega
      refine call_range_3 (by decide) (h _ _ a b 2 _ _ _ _ (fun _ _ e => Heap.get?_push_of_some _ e) (IsRange.new ..) ?_ hz rfl) (.inl (pylong_small (by decide) (by decide)))
      exact small_of (by omega) (by omega) (by omega) hz (by split <;> omega)
    · exact nomatch e3
  · exact nomatch ev
theorem simI_range {x : Str} {np pos : Pos} {e target : Expr} {rest : List Expr} {f} (hs : SimL B d cx (e :: rest) f) (hv : glob B x = some (.type "range")) (hk : cx.sc.names.lookup x = some .globalImplicit) (hd : (x == ("__debug__" : Str)) = false)
    (ht : ∀ it v, letOwnedTupleGo target it v = pure () := by intro _ _; rfl) (he : ∀ env, starEach (e :: rest) env = (false, eval e env) :: starEach rest env := by intro _; rfl) (hplain : ∀ env, (backTo pos (starEach rest env)).any (·.1) = false := by intro _; rfl) :
    SimI B d cx (.Call (.Name x np) (e :: rest) [] pos) target fun fr => (f fr).bind rangeV := by
  intro A s env fr P W items Q E R I F fp ev h
  obtain ⟨args, e1, ev⟩ := bind_some ev
  have hkd : env.scope.kind = .function := by rw [F.sc]; exact F.kind
  refine wpAny_Call_NameR (wpAny_Name (wp_glob I hkd (by unfold Env.kindOf; rw [F.sc]; exact hk) F.glob F.blt hv ?_) hd)
  refine callWith_any (B := B) (.inr (.inl ⟨_, rfl⟩)) (he env) (hplain env) (hs R I F fp e1 fun rvs s1 t1 r1 => ⟨I.step t1, ?_⟩)
  refine call_rng (B := B) r1 ev fun h' tk a b c t u v n hk' hr hsm hz hit => ?_
  refine wpAny_pyIter_range hr hsm ?_
  have t2 : Step s { s1 with heap := h', toks := tk } := t1.trans (Step.heap hk' rfl rfl)
  have fresh : h'.get? h'.objs.size = none := get_size _
  rw [hz]
  refine h _ _ (· = h'.objs.size) (fun _ => False) (t2.trans Step.push) (fun b o q x => ?_) (fun b x => ?_) (fun _ _ x => x) fun P' W' hP hPX hwp hxw => ⟨?_, ?_⟩
  · subst x
    obtain ⟨o', e'⟩ := t2.lv _ _ q
    have e'' : h'.get? h'.objs.size = some o' := e'
    rw [fresh] at e''; exact nomatch e''
  · subst x; exact ⟨_, Heap.get?_push_size _ rfl⟩
  · rw [hit]
    exact iter_range (fun q => hPX _ q rfl) (hxw _ rfl) (fun v => ht _ v) n a _ (Heap.get?_push_size _ rfl)
  · intro s₂ A Q E t q
    have hI : IsRangeIter (h'.push { cls := .type "range_iterator", data := .fields #[rawInt a, rawInt n, rawInt c] }) h'.objs.size a n c := Heap.get?_push_size _ rfl
    exact wpAny_pyIter_rangeiter (t.keep _ _ (hxw _ rfl) (.inl (.type rfl)) hI) q
end
end Mine
end

section
open PySem PySem.W PyProof.Rows PySem.Calls
set_option maxRecDepth 100000
namespace Mine
section
variable {B : BH} {d : Nat} {cx : Cx} {P W : Addr → Prop}

theorem noRec_enum {o : Obj} {a b : Value} {it : Addr} {i : Int} {c : Value} (e : o = { cls := .type "enumerate", data := .fields #[a, .bool false, .ref it, rawInt i, b, c] }) : NoRec o := by
  subst e
  intro vs q
  cases q
  exact ⟨by simp, by simp, fun q t z => by simp at z⟩
noncomputable def enumL (i : Nat) : List PyData → List PyData
  | [] => []
  | v :: r => .tuple [.int i, v] :: enumL (i + 1) r
noncomputable abbrev Two (a b : Addr) : Addr → Prop := fun x => x = a ∨ x = b

theorem iter_enumL {e it l : Addr} {elts : List Expr} {k : Nat} {pos : Pos} {vs : List Value} {ds : List PyData} {n : Nat} (hei : e ≠ it) (hle : l ≠ e) (hli : l ≠ it) (pl : P l) (hw : ∀ b, W b → ¬ P b) (hxe : ¬ P e) (hxi : ¬ P it) (hwe : ¬ W e) (hwi : ¬ W it) :
    ∀ (rest : List PyData) (i : Nat) (old : Value) (s : Shared), ds.drop i = rest → IsEnum s.heap e it i old → s.heap.IsListIter it l i → s.heap.get? l = some { cls := .type "list", data := .seq vs.toArray n } → VRs P s.heap vs ds →
      Iter B d P W (Two e it) (fun _ => False) (.Tuple elts k pos) (.ref e) (enumL i rest) s := by
  intro rest
  induction rest with
  | nil =>
    intro i old s hd hE hI hl hr s₂ A t R I fp
    have kp : Keep P s.heap s₂.heap := t.keep.mono fun b p w => hw b w p
    have hE2 : IsEnum s₂.heap e it i old := t.keep e _ hwe (.inl (.type rfl)) hE
    have hI2 := Heap.IsListIter.kept hI fun o e p => t.keep it o hwi (.inl p) e
    have hl2 := kp l _ pl (.inl (.type rfl)) hl
    have hn : vs.toArray[i]? = none := by
      have := List.drop_eq_nil_iff.mp hd
      simp only [List.getElem?_toArray, List.getElem?_eq_none_iff, hr.length]; exact this
    refine wpAny_pyNext_enum_end R.handled hE2 hI2 (isList_of hl2) hn fun h' hx => ⟨rfl, ?_⟩
    exact step_but (s' := { s₂ with heap := h' }) (fun b o x q => hx b o (fun z => x (.inr z)) q) (fun b o x q => by
      rcases x with rfl | rfl
      · rw [hE2] at q; obtain rfl := Option.some.inj q; exact noRec_enum rfl
      · exact noRec_listIter hI2 q) rfl rfl
  | cons v rest ih =>
    intro i old s hd hE hI hl hr s₂ A t R I fp
    have kp : Keep P s.heap s₂.heap := t.keep.mono fun b p w => hw b w p
    have hE2 : IsEnum s₂.heap e it i old := t.keep e _ hwe (.inl (.type rfl)) hE
    have hI2 := Heap.IsListIter.kept hI fun o e p => t.keep it o hwi (.inl p) e
    have hl2 := kp l _ pl (.inl (.type rfl)) hl
    have hr2 := hr.step kp
    have hi : ds[i]? = some v := by
      have := congrArg (·[0]?) hd
      simpa using this
    have hd' : ds.drop (i + 1) = rest := by rw [← List.drop_drop, hd]; rfl
    obtain ⟨rv, hv, r⟩ := hr2.get hi
    have hsz : ∀ b o, s₂.heap.get? b = some o → b ≠ s₂.heap.objs.size := fun b o q => Nat.ne_of_lt (Heap.lt_size q)
    refine wpAny_pyNext_enum_item hE2 hI2 (isList_of hl2) (by simpa using hv) hei fun h1 hE' hI' ht hz hk => ⟨_, rfl, ?_⟩
    refine wpAny_letOwnedTupleGo_enum hE' fun h2 hE'' hs => ?_
    have hs' : Heap.SameBut e h1 h2 := hs
    have e1 : e ≠ s₂.heap.objs.size := hsz e _ hE2
    have kk : ∀ b o, b ≠ e → b ≠ it → s₂.heap.get? b = some o → h2.get? b = some o := fun b o z1 z2 q => (hs'.2 b z1).trans (hk b o z1 z2 q)
    have kp' : Keep P s₂.heap h2 := fun b o p _ q => kk b o (fun z => hxe (z ▸ p)) (fun z => hxi (z ▸ p)) q
    have ht2 := (hs'.2 _ (Ne.symm e1)).trans ht
    have hI2' : h2.IsListIter it l (i + 1) := Heap.IsListIter.kept hI' fun o q _ => (hs'.2 it (Ne.symm hei)).trans q
    refine ⟨step_but (fun b o x q => kk b o (fun z => x (.inl z)) (fun z => x (.inr z)) q) (fun b o x q => ?_) rfl rfl, fun b x => ?_, ?_, ih (i + 1) rv _ hd' (by exact hE'') hI2' (kk l _ hle hli hl2) (hr2.step kp')⟩
    · rcases x with rfl | rfl
      · rw [hE2] at q; obtain rfl := Option.some.inj q; exact noRec_enum rfl
      · exact noRec_listIter hI2 q
    · rcases x with rfl | rfl
      · exact ⟨_, hE''⟩
      · obtain ⟨o, q, _⟩ := hI2'; exact ⟨o, q⟩
    · exact VR.tuple (vs := [.int i s₂.toks, rv]) (fp.new) ht2 (.cons (.int _ _) (.cons (r.step kp') .nil))

theorem noRec_strIter {h : Heap} {a : Addr} {ty : String} {x : Str} {t : Tok} {i : Nat} {o : Obj} (hty : ty = "str_ascii_iterator" ∨ ty = "str_iterator") (y : h.IsStrIter a ty x t i) (e : h.get? a = some o) : NoRec o := by
  obtain ⟨o', e1, c, dd⟩ := y
  rw [e] at e1; obtain rfl := Option.some.inj e1
  intro vs q
  rw [dd] at q; cases q
  exact ⟨by rw [c]; simp, by rw [c]; rcases hty with rfl | rfl <;> simp, fun q t z => by simp at z⟩
theorem ty_cases (x : Str) : strIterType x = "str_ascii_iterator" ∨ strIterType x = "str_iterator" := by
  unfold strIterType
  split
  · exact .inl rfl
  · exact .inr rfl
theorem draws_str {w : World} {A : Around} (hh : A.handled = none) (it : Addr) (x : Str) (t : Tok) :
    Draws pg w A it [it] x.cps.size (fun i v => ∃ c u, x.cps[i]? = some c ∧ v = .str ⟨#[c]⟩ u) (fun i h => h.IsStrIter it (strIterType x) x t i) := by
  rcases ty_cases x with e | e
  · rw [e]; exact Draws.strAscii hh it x t
  · rw [e]; exact Draws.strWide hh it x t
theorem IsStrIter.kept {h h' : Heap} {a : Addr} {ty : String} {x : Str} {t : Tok} {i : Nat} (y : h.IsStrIter a ty x t i) (k : ∀ o, h.get? a = some o → Plain o → h'.get? a = some o) : h'.IsStrIter a ty x t i := by
  obtain ⟨o, e, c, r⟩ := y
  exact ⟨o, k o e (.type c), c, r⟩
noncomputable def signs (x : Str) : List PyData := x.cps.toList.map fun c => .str ⟨#[c]⟩
theorem iter_enumS {e it : Addr} {elts : List Expr} {k : Nat} {pos : Pos} {x : Str} {t0 : Tok} (hei : e ≠ it) (hxe : ¬ P e) (hxi : ¬ P it) (hwe : ¬ W e) (hwi : ¬ W it) :
    ∀ (rest : List PyData) (i : Nat) (old : Value) (s : Shared), (signs x).drop i = rest → i ≤ x.cps.size → IsEnum s.heap e it i old → s.heap.IsStrIter it (strIterType x) x t0 i →
      Iter B d P W (Two e it) (fun _ => False) (.Tuple elts k pos) (.ref e) (enumL i rest) s := by
  intro rest
  induction rest with
  | nil =>
    intro i old s hd hle hE hI s₂ A t R I fp
    have hE2 : IsEnum s₂.heap e it i old := t.keep e _ hwe (.inl (.type rfl)) hE
    have hI2 := IsStrIter.kept hI fun o e p => t.keep it o hwi (.inl p) e
    have hn : i = x.cps.size := by
      have := List.drop_eq_nil_iff.mp hd
      simp only [signs, List.length_map, Array.length_toList] at this
      omega
    subst hn
    refine wpAny_pyNext_enum_endD (draws_str (A := A.in1) R.handled it x t0) hE2 hI2 fun h' hx => ⟨rfl, ?_⟩
    exact step_but (s' := { s₂ with heap := h' }) (fun b o x q => hx b o (fun z => x (.inr z)) q) (fun b o x q => by
      rcases x with rfl | rfl
      · rw [hE2] at q; obtain rfl := Option.some.inj q; exact noRec_enum rfl
      · exact noRec_strIter (ty_cases _) hI2 q) rfl rfl
  | cons v rest ih =>
    intro i old s hd hle hE hI s₂ A t R I fp
    have hE2 : IsEnum s₂.heap e it i old := t.keep e _ hwe (.inl (.type rfl)) hE
    have hI2 := IsStrIter.kept hI fun o e p => t.keep it o hwi (.inl p) e
    have hi : (signs x)[i]? = some v := by
      have := congrArg (·[0]?) hd
      simpa using this
    have hlt : i < x.cps.size := by
      obtain ⟨q, _⟩ := List.getElem?_eq_some_iff.mp hi
      simpa [signs] using q
    have hd' : (signs x).drop (i + 1) = rest := by rw [← List.drop_drop, hd]; rfl
    have hsz : ∀ b o, s₂.heap.get? b = some o → b ≠ s₂.heap.objs.size := fun b o q => Nat.ne_of_lt (Heap.lt_size q)
    refine wpAny_pyNext_enum_itemD (draws_str (A := A.in1) R.handled it x t0) hE2 hI2 hlt hei (by simpa using hei) fun y h1 tk hy hE' hI' ht hz hk => ⟨_, rfl, ?_⟩
    obtain ⟨c, u, ec, rfl⟩ := hy
    have ev : v = .str ⟨#[c]⟩ := by
      simp only [signs, List.getElem?_map, Array.getElem?_toList, ec, Option.map_some] at hi
      exact (Option.some.inj hi).symm
    subst ev
    refine wpAny_letOwnedTupleGo_enum hE' fun h2 hE'' hs => ?_
    have hs' : Heap.SameBut e h1 h2 := hs
    have e1 : e ≠ s₂.heap.objs.size := hsz e _ hE2
    have kk : ∀ b o, b ≠ e → b ≠ it → s₂.heap.get? b = some o → h2.get? b = some o := fun b o z1 z2 q => (hs'.2 b z1).trans (hk b o z1 z2 q)
    have ht2 := (hs'.2 _ (Ne.symm e1)).trans ht
    have hI2' : h2.IsStrIter it (strIterType x) x t0 (i + 1) := IsStrIter.kept hI' fun o q _ => (hs'.2 it (Ne.symm hei)).trans q
    refine ⟨step_but (fun b o x q => kk b o (fun z => x (.inl z)) (fun z => x (.inr z)) q) (fun b o x q => ?_) rfl rfl, fun b x => ?_, ?_, ih (i + 1) _ _ hd' (by omega) (by exact hE'') hI2'⟩
    · rcases x with rfl | rfl
      · rw [hE2] at q; obtain rfl := Option.some.inj q; exact noRec_enum rfl
      · exact noRec_strIter (ty_cases _) hI2 q
    · rcases x with rfl | rfl
      · exact ⟨_, hE''⟩
      · obtain ⟨o, q, _⟩ := hI2'; exact ⟨o, q⟩
    · exact VR.tuple (vs := [.int i tk, .str ⟨#[c]⟩ u]) (fp.new) ht2 (.cons (.int _ _) (.cons (.str _ _) .nil))

noncomputable def enumV (args : List PyData) : Option (List PyData) := (arg1 args).bind (caseA (fun _ => none) (fun x => some (enumL 0 (signs x))) (fun l => some (enumL 0 l)))
theorem simI_enum {x : Str} {np pos tpos : Pos} {e : Expr} {elts : List Expr} {k : Nat} {f} (hs : SimL B d cx [e] f) (hv : glob B x = some (.type "enumerate")) (hk : cx.sc.names.lookup x = some .globalImplicit) (hd : (x == ("__debug__" : Str)) = false)
    (he : ∀ env, starEach [e] env = [(false, eval e env)] := by intro _; rfl) : SimI B d cx (.Call (.Name x np) [e] [] pos) (.Tuple elts k tpos) fun fr => (f fr).bind enumV := by
  intro A s env fr P W items Q E R I F fp ev h
  obtain ⟨args, e1, ev⟩ := bind_some ev
  have hkd : env.scope.kind = .function := by rw [F.sc]; exact F.kind
  refine wpAny_Call_NameR (wpAny_Name (wp_glob I hkd (by unfold Env.kindOf; rw [F.sc]; exact hk) F.glob F.blt hv ?_) hd)
  refine callWith_any (B := B) (.inr (.inl ⟨_, rfl⟩)) (he env) rfl (hs R I F fp e1 fun rvs s1 t1 r1 => ⟨I.step t1, ?_⟩)
  have nl : ∀ b, s1.heap.objs.size ≤ b → ∀ o, s.heap.get? b = some o → False := fun b hb o q => by
    obtain ⟨o', e'⟩ := t1.lv _ _ q
    exact absurd (Heap.lt_size e') (Nat.not_lt.mpr hb)
  obtain ⟨w0, a0, rfl, q1, ev⟩ := bind1_some r1 ev
  rcases caseA_some ev with ⟨_, _, e5⟩ | ⟨x, rfl, e5⟩ | ⟨l0, rfl, e5⟩
  · exact nomatch e5
  rotate_left
  · obtain rfl := Option.some.inj e5
    obtain ⟨l, vs, n, rfl, p, el, r⟩ := q1.isList
    refine call_enumerate_list (isList_of el) fun h' hE hI hz hk' => ?_
    refine wpAny_pyIter_enum hE ?_
    have t2 : Step s1 { s1 with heap := h' } := Step.heap hk' rfl rfl
    have hl : l < s1.heap.objs.size := Heap.lt_size el
    refine h _ _ (Two (s1.heap.objs.size + 1) s1.heap.objs.size) (fun _ => False) (t1.trans t2) (fun b o q x => ?_) (fun b x => ?_) (fun _ _ x => x) fun P' W' hP hPX hwp hxw => ⟨?_, ?_⟩
    · rcases x with rfl | rfl
      · exact nl _ (Nat.le_succ _) o q
      · exact nl _ (Nat.le_refl _) o q
    · rcases x with rfl | rfl
      · exact ⟨_, hE⟩
      · obtain ⟨o, q, _⟩ := hI; exact ⟨o, q⟩
    · refine iter_enumL (vs := vs) (n := n) (Nat.succ_ne_self _) (Nat.ne_of_lt (Nat.lt_succ_of_lt hl)) (Nat.ne_of_lt hl) (hP l _ (hk' _ _ el) p fun x => x.elim (Nat.ne_of_lt (Nat.lt_succ_of_lt hl)) (Nat.ne_of_lt hl)) hwp (fun q => hPX _ q (.inl rfl)) (fun q => hPX _ q (.inr rfl)) (hxw _ (.inl rfl)) (hxw _ (.inr rfl)) _ 0 .none _ rfl hE hI (hk' _ _ el) ?_
      exact r.move fun b o p e => ⟨hP b o (hk' _ _ e) p fun x => x.elim (Nat.ne_of_lt (Nat.lt_succ_of_lt (Heap.lt_size e))) (Nat.ne_of_lt (Heap.lt_size e)), hk' _ _ e⟩
    · intro s₂ A Q E t q
      have hE2 : IsEnum s₂.heap (s1.heap.objs.size + 1) s1.heap.objs.size 0 .none := t.keep _ _ (hxw _ (.inl rfl)) (.inl (.type rfl)) hE
      exact wpAny_pyIter_enum hE2 q
  · obtain rfl := Option.some.inj e5
    obtain ⟨_, rfl⟩ := q1.str'
    refine call_enumerate_str fun h' hE hI hz hk' => ?_
    refine wpAny_pyIter_enum hE ?_
    have t2 : Step s1 { s1 with heap := h' } := Step.heap hk' rfl rfl
    refine h _ _ (Two (s1.heap.objs.size + 1) s1.heap.objs.size) (fun _ => False) (t1.trans t2) (fun b o q x => ?_) (fun b x => ?_) (fun _ _ x => x) fun P' W' hP hPX hwp hxw => ⟨?_, ?_⟩
    · rcases x with rfl | rfl
      · exact nl _ (Nat.le_succ _) o q
      · exact nl _ (Nat.le_refl _) o q
    · rcases x with rfl | rfl
      · exact ⟨_, hE⟩
      · obtain ⟨o, q, _⟩ := hI; exact ⟨o, q⟩
    · exact iter_enumS (Nat.succ_ne_self _) (fun q => hPX _ q (.inl rfl)) (fun q => hPX _ q (.inr rfl)) (hxw _ (.inl rfl)) (hxw _ (.inr rfl)) _ 0 .none _ rfl (Nat.zero_le _) hE hI
    · intro s₂ A Q E t q
      have hE2 : IsEnum s₂.heap (s1.heap.objs.size + 1) s1.heap.objs.size 0 .none := t.keep _ _ (hxw _ (.inl rfl)) (.inl (.type rfl)) hE
      exact wpAny_pyIter_enum hE2 q
end
end Mine
end

section
open PySem PySem.W PyProof.Rows PySem.Calls
set_option maxRecDepth 100000
namespace Mine

/-! comprehensions -/
theorem closure_ok {scope : Scope} {env : Env} (h : ∀ x, (x, NameKind.free) ∈ scope.names → ∃ c, env.cells.lookup x = some c) :
    ∃ cl, closureFor scope env = pure cl ∧ (∀ x c, cl.lookup x = some c → env.cells.lookup x = some c) ∧ (∀ x, (x, NameKind.free) ∈ scope.names → ∃ c, cl.lookup x = some c) := by
  have key : ∀ (names : List (Str × NameKind)) (cs : List (Str × Addr)), (∀ x, (x, NameKind.free) ∈ names → ∃ c, env.cells.lookup x = some c) → (∀ x c, cs.lookup x = some c → env.cells.lookup x = some c) →
      ∃ cl, (forIn names cs fun (x : Str × NameKind) (r : List (Str × Addr)) => (do
        if (x.2 == NameKind.free) = true then do
          let c ← cellOf env x.1
          pure (ForInStep.yield ((x.1, c) :: r))
        else pure (ForInStep.yield r) : Sem (ForInStep (List (Str × Addr))))) = pure cl ∧ (∀ x c, cl.lookup x = some c → env.cells.lookup x = some c) ∧ (∀ x c, cs.lookup x = some c → ∃ c', cl.lookup x = some c') ∧ (∀ x, (x, NameKind.free) ∈ names → ∃ c, cl.lookup x = some c) := by
    intro names
    induction names with
    | nil => intro cs _ hc; exact ⟨cs, rfl, hc, fun x c e => ⟨c, e⟩, fun x q => nomatch q⟩
    | cons p r ih =>
      obtain ⟨n, k⟩ := p
      intro cs hf hc
      by_cases hk : (k == NameKind.free) = true
      · have ek : k = .free := by simpa using hk
        subst ek
        obtain ⟨c, ec⟩ := hf n (.head _)
        have hco : cellOf env n = pure c := by unfold cellOf; rw [ec]
        obtain ⟨cl, e1, e2, e3, e4⟩ := ih ((n, c) :: cs) (fun x q => hf x (.tail _ q)) (fun x c' q => by
          rw [List.lookup_cons] at q
          cases hx : x == n with
          | true => rw [hx] at q; obtain rfl := Option.some.inj q; have : x = n := by simpa using hx
                    subst this; exact ec
          | false => rw [hx] at q; exact hc x c' q)
        refine ⟨cl, ?_, e2, fun x c' q => ?_, fun x q => ?_⟩
        · rw [List.forIn_cons]
          simp only [hk, if_true, hco, pure_bind]
          exact e1
        · cases hx : x == n with
          | true => exact e3 x c (by rw [List.lookup_cons, hx])
          | false => exact e3 x c' (by rw [List.lookup_cons, hx]; exact q)
        · cases q with
          | head => exact e3 n c (by rw [List.lookup_cons]; simp)
          | tail _ q => exact e4 x q
      · obtain ⟨cl, e1, e2, e3, e4⟩ := ih cs (fun x q => hf x (.tail _ q)) hc
        refine ⟨cl, ?_, e2, e3, fun x q => ?_⟩
        · rw [List.forIn_cons]
          simp only [if_neg hk, pure_bind]
          exact e1
        · cases q with
          | head => exact absurd rfl hk
          | tail _ q => exact e4 x q
  obtain ⟨cl, e1, e2, _, e4⟩ := key scope.names [] h (fun x c q => nomatch q)
  refine ⟨cl, ?_, e2, e4⟩
  unfold closureFor
  exact congrArg (fun m : Sem (List (Str × Addr)) => m >>= fun cs => pure cs) e1
end Mine
end

section
open PySem PySem.W PyProof.Rows PySem.Calls
set_option maxRecDepth 100000
namespace Mine

noncomputable def relab (csc sc : Scope) : Scope :=
  { csc with names := csc.names.map fun (n, k) => if (k == .free && sc.kind == .function && sc.names.lookup n == some .cell) then (n, .cell) else (n, k) }
theorem relabel_eq (csc : Scope) (env : Env) : relabel csc env = relab csc env.scope := rfl

theorem lookup_relab {csc sc : Scope} {x : Str} : (relab csc sc).names.lookup x = (csc.names.lookup x).map fun k => if (k == .free && sc.kind == .function && sc.names.lookup x == some .cell) then .cell else k := by
  show List.lookup x (csc.names.map _) = _
  induction csc.names with
  | nil => rfl
  | cons p r ih =>
    obtain ⟨n, k⟩ := p
    rw [List.map_cons]
    cases hx : x == n with
    | true =>
      have e : x = n := by simpa using hx
      subst e
      by_cases hc : (k == NameKind.free && sc.kind == .function && sc.names.lookup x == some .cell) = true
      · simp only [hc, if_true, List.lookup_cons, hx, Option.map_some]
      · simp only [if_neg hc, List.lookup_cons, hx, Option.map_some]
    | false =>
      by_cases hc : (k == NameKind.free && sc.kind == .function && sc.names.lookup n == some .cell) = true
      · simp only [hc, if_true, List.lookup_cons, hx]; exact ih
      · simp only [if_neg hc, List.lookup_cons, hx]; exact ih

/-! the cells of a new frame -/
theorem cellsFrom_look : ∀ (names : List (Str × NameKind)) (h : Heap) (acc : List (Str × Addr)) (x : Str) (c : Addr), (cellsFrom h.objs.size names acc).lookup x = some c →
    (acc.lookup x = some c ∧ (x, NameKind.cell) ∉ names) ∨ (h.objs.size ≤ c ∧ (x, NameKind.cell) ∈ names ∧ (pushCells h names).IsCell c none)
  | [], _, _, _, _, e => .inl ⟨e, fun q => nomatch q⟩
  | (name, kind) :: r, h, acc, x, c, e => by
    unfold cellsFrom at e
    unfold pushCells
    split at e
    · rename_i hk
      have ek : kind = .cell := by simpa using hk
      subst ek
      have := cellsFrom_look r (h.push { cls := .type "cell", data := .cell none }) ((name, h.objs.size) :: acc) x c (by rw [Heap.size_push]; exact e)
      rw [if_pos hk]
      rcases this with ⟨e1, e2⟩ | ⟨e1, e2, e3⟩
      · rw [List.lookup_cons] at e1
        cases hx : x == name with
        | true =>
          rw [hx] at e1; obtain rfl := Option.some.inj e1
          have : x = name := by simpa using hx
          subst this
          exact .inr ⟨Nat.le_refl _, .head _, ⟨_, pushCells_keeps _ _ _ _ (Heap.get?_push_size _ rfl), rfl⟩⟩
        | false =>
          rw [hx] at e1
          refine .inl ⟨e1, fun q => ?_⟩
          cases q with
          | head => simp at hx
          | tail _ q => exact e2 q
      · rw [Heap.size_push] at e1
        exact .inr ⟨Nat.le_of_succ_le e1, .tail _ e2, e3⟩
    · rename_i hk
      rw [if_neg hk]
      rcases cellsFrom_look r h acc x c e with ⟨e1, e2⟩ | ⟨e1, e2, e3⟩
      · refine .inl ⟨e1, fun q => ?_⟩
        cases q with
        | head => exact hk (by rfl)
        | tail _ q => exact e2 q
      · exact .inr ⟨e1, .tail _ e2, e3⟩
theorem cellsFrom_has : ∀ (names : List (Str × NameKind)) (n : Nat) (acc : List (Str × Addr)) (x : Str), ((x, NameKind.cell) ∈ names ∨ (acc.lookup x).isSome) → ((cellsFrom n names acc).lookup x).isSome
  | [], _, _, _, h => h.elim (fun q => nomatch q) id
  | (name, kind) :: r, n, acc, x, h => by
    unfold cellsFrom
    split
    · refine cellsFrom_has r _ _ x ?_
      rw [List.lookup_cons]
      cases hx : x == name with
      | true => exact .inr rfl
      | false =>
        refine h.imp (fun q => ?_) id
        cases q with
        | head => simp at hx
        | tail _ q => exact q
    · rename_i hk
      refine cellsFrom_has r _ _ x (h.imp (fun q => ?_) id)
      cases q with
      | head => exact absurd rfl hk
      | tail _ q => exact q
theorem cellsFrom_keep {names : List (Str × NameKind)} {h : Heap} {acc : List (Str × Addr)} {x : Str} {c : Addr} (e : acc.lookup x = some c) (hn : (x, NameKind.cell) ∉ names) : (cellsFrom h.objs.size names acc).lookup x = some c := by
  have := cellsFrom_has names h.objs.size acc x (.inr (by rw [e]; rfl))
  obtain ⟨c', e'⟩ := Option.isSome_iff_exists.mp this
  rcases cellsFrom_look names h acc x c' e' with ⟨e1, _⟩ | ⟨_, e2, _⟩
  · rw [e', ← e1, e]
  · exact absurd e2 hn
theorem cellsFrom_inj : ∀ (names : List (Str × NameKind)) (h : Heap) (acc : List (Str × Addr)) (x y : Str) (c : Addr), (∀ z d, acc.lookup z = some d → d < h.objs.size) → h.objs.size ≤ c →
    (cellsFrom h.objs.size names acc).lookup x = some c → (cellsFrom h.objs.size names acc).lookup y = some c → x = y
  | [], _, _, x, _, c, ha, hc, ex, _ => absurd (ha x c ex) (Nat.not_lt.mpr hc)
  | (name, kind) :: r, h, acc, x, y, c, ha, hc, ex, ey => by
    unfold cellsFrom at ex ey
    split at ex
    · rename_i hk
      rw [if_pos hk] at ey
      have sz : (h.push { cls := .type "cell", data := .cell none }).objs.size = h.objs.size + 1 := Heap.size_push ..
      rw [← sz] at ex ey
      have ha' : ∀ z d, List.lookup z ((name, h.objs.size) :: acc) = some d → d < (h.push { cls := .type "cell", data := .cell none }).objs.size := fun z d q => by
        rw [sz]
        rw [List.lookup_cons] at q
        cases hz : z == name with
        | true => rw [hz] at q; obtain rfl := Option.some.inj q; exact Nat.lt_succ_self _
        | false => rw [hz] at q; exact Nat.lt_succ_of_lt (ha z d q)
      by_cases hce : c = h.objs.size
      · have one : ∀ z, List.lookup z (cellsFrom (h.push { cls := .type "cell", data := .cell none }).objs.size r ((name, h.objs.size) :: acc)) = some c → z = name := fun z ez => by
          rcases cellsFrom_look r _ _ z c ez with ⟨e1, _⟩ | ⟨e1, _⟩
          · rw [List.lookup_cons] at e1
            cases hz : z == name with
            | true => simpa using hz
            | false => rw [hz] at e1; exact absurd (ha z c e1) (Nat.not_lt.mpr hc)
          · rw [sz, hce] at e1; exact absurd e1 (Nat.not_succ_le_self _)
        rw [one x ex, one y ey]
      · exact cellsFrom_inj r _ _ x y c ha' (by rw [sz]; exact Nat.lt_of_le_of_ne hc (Ne.symm hce)) ex ey
    · rename_i hk
      rw [if_neg hk] at ey
      exact cellsFrom_inj r h acc x y c ha hc ex ey

theorem newEnv_comp {M : Model} {A : Around} {E : Value → Shared → Prop} {s : Shared} {scope : Scope} {cl : List (Str × Addr)} {g : Addr} {q : Str} {env : Env} {Q : Env → Shared → Prop}
    (h : ∀ h', h' = pushCells (s.heap.push { cls := .type "dict", data := .dict #[] }) scope.names → h'.Ns s.heap.objs.size (fun _ => none) → Q (newEnv scope s.heap.objs.size g (cellsFrom (s.heap.push { cls := .type "dict", data := .dict #[] }).objs.size scope.names cl) q none .none (some env) builtinsNs) { s with heap := h' }) :
    wpAny M A (newFunctionEnv scope g cl [] q none .none (some env)) Q E s := by
  simp only [newFunctionEnv, Option.isSome_some, if_true]
  refine wpAny_bind (wpAny_alloc ?_)
  refine wpAny_bind (wpAny_layCells _ (fun name kind cells => by cases hkc : kind == NameKind.cell <;> simp [hkc]) _ _ _ _ ?_)
  refine wpAny_bind ?_
  rw [List.forIn_nil]
  exact wpAny_pure (wpAny_pure (h _ rfl ((Heap.Ns.new s.heap (.type "dict")).keeps (pushCells_keeps _ _))))

/-- the inner frame of a comprehension: what it sees of the frame around (idxs), and its own names (xs) -/
noncomputable def inCx (cx : Cx) (csc : Scope) (idxs : List Nat) (xs : List Str) : Cx :=
  { ns := idxs.filterMap (cx.ns[·]?) ++ xs, sc := relab csc cx.sc, own := none, cw := fun x => csc.names.lookup x == some .cell }
noncomputable def nodupB : List Str → Bool
  | [] => true
  | x :: r => !r.contains x && nodupB r
theorem nodupB_ok : ∀ {l : List Str}, nodupB l = true → l.Nodup
  | [], _ => List.nodup_nil
  | x :: r, h => by
    unfold nodupB at h
    obtain ⟨h1, h2⟩ := Bool.and_eq_true_iff.mp h
    exact List.nodup_cons.mpr ⟨by simpa using h1, nodupB_ok h2⟩
theorem mem_of_look {csc : Scope} {x : Str} {k : NameKind} (e : csc.names.lookup x = some k) : (x, k) ∈ csc.names := PySem.mem_of_lookup e
theorem look_of_mem : ∀ {l : List (Str × NameKind)} {x : Str} {k : NameKind}, (l.map (·.1)).Nodup → (x, k) ∈ l → l.lookup x = some k
  | (n, k') :: r, x, k, nd, h => by
    rw [List.map_cons, List.nodup_cons] at nd
    rw [List.lookup_cons]
    cases h with
    | head => simp
    | tail _ h =>
      have : (x == n) = false := by
        simp only [beq_eq_false_iff_ne]
        rintro rfl
        exact nd.1 (List.mem_map.mpr ⟨_, h, rfl⟩)
      rw [this]
      exact look_of_mem nd.2 h
structure CompOk (cx : Cx) (csc : Scope) (idxs : List Nat) : Prop where
  kind : csc.kind = .function
  nd : (csc.names.map (·.1)).Nodup
  free : ∀ x, (x, NameKind.free) ∈ csc.names → cx.sc.names.lookup x = some .cell ∨ cx.sc.names.lookup x = some .free
  vis : ∀ i, i ∈ idxs → ∃ x, cx.ns[i]? = some x ∧ cx.own ≠ some i ∧ (x, NameKind.free) ∈ csc.names
noncomputable def compOkB (cx : Cx) (csc : Scope) (idxs : List Nat) : Bool :=
  (csc.kind == .function) && nodupB (csc.names.map (·.1)) && (csc.names.all fun y => !(y.2 == .free) || (cx.sc.names.lookup y.1 == some .cell || cx.sc.names.lookup y.1 == some .free)) &&
    idxs.all fun i => match cx.ns[i]? with | some x => !(cx.own == some i) && csc.names.contains (x, NameKind.free) | none => false
theorem compOk {cx : Cx} {csc : Scope} {idxs : List Nat} (h : compOkB cx csc idxs = true) : CompOk cx csc idxs := by
  unfold compOkB at h
  simp only [Bool.and_eq_true] at h
  obtain ⟨⟨⟨h1, h2⟩, h3⟩, h4⟩ := h
  refine ⟨by simpa using h1, nodupB_ok h2, fun x hx => ?_, fun i hi => ?_⟩
  · have := List.all_eq_true.mp h3 _ hx
    simpa using this
  · have := List.all_eq_true.mp h4 i hi
    split at this
    · rename_i x hx
      simp only [Bool.and_eq_true] at this
      exact ⟨x, hx, by simpa using this.1, by simpa using this.2⟩
    · cases this
noncomputable def inF (idxs : List Nat) (k : Nat) (fr : Fm) : Fm := idxs.map (fun i => (fr[i]?).join) ++ List.replicate k none
theorem filterMap_get {α β : Type} {f : α → Option β} : ∀ {l : List α}, (∀ a ∈ l, (f a).isSome) → ∀ j : Nat, (l.filterMap f)[j]? = (l[j]?).bind f
  | [], _, j => by simp
  | a :: l, h, j => by
    obtain ⟨b, e⟩ := Option.isSome_iff_exists.mp (h a (.head _))
    rw [List.filterMap_cons_some e]
    cases j with
    | zero => simp [e]
    | succ j => simpa using filterMap_get (fun a q => h a (.tail _ q)) j
theorem filterMap_len {α β : Type} {f : α → Option β} : ∀ {l : List α}, (∀ a ∈ l, (f a).isSome) → (l.filterMap f).length = l.length
  | [], _ => rfl
  | a :: l, h => by
    obtain ⟨b, e⟩ := Option.isSome_iff_exists.mp (h a (.head _))
    rw [List.filterMap_cons_some e, List.length_cons, List.length_cons, filterMap_len fun a q => h a (.tail _ q)]
theorem inF_get {cx : Cx} {csc : Scope} {idxs : List Nat} {xs : List Str} {k : Nat} {fr : Fm} {j : Nat} {x : Str} {d : PyData} (H : CompOk cx csc idxs) (e : (inF idxs k fr)[j]? = some (some d)) (hx : (inCx cx csc idxs xs).ns[j]? = some x) :
    ∃ i, cx.ns[i]? = some x ∧ cx.own ≠ some i ∧ (x, NameKind.free) ∈ csc.names ∧ fr[i]? = some (some d) := by
  have hs : ∀ a ∈ idxs, (cx.ns[a]?).isSome := fun a q => let ⟨x, e, _⟩ := H.vis a q; by rw [e]; rfl
  unfold inF at e
  unfold inCx at hx
  rw [List.getElem?_append] at e
  split at e
  · rename_i hj
    rw [List.length_map] at hj
    rw [List.getElem?_append_left (by rw [filterMap_len hs]; exact hj), filterMap_get hs] at hx
    rw [List.getElem?_map] at e
    obtain ⟨i, e1, e2⟩ := Option.map_eq_some_iff.mp e
    rw [e1] at hx
    have hx' : cx.ns[i]? = some x := hx
    obtain ⟨x', e3, e4, e5⟩ := H.vis i (List.mem_of_getElem? e1)
    rw [hx'] at e3; obtain rfl := Option.some.inj e3
    refine ⟨i, hx', e4, e5, ?_⟩
    cases q : fr[i]? with
    | none => rw [q] at e2; cases e2
    | some o => rw [q] at e2; rw [← e2]; rfl
  · rw [List.getElem?_replicate] at e
    split at e <;> exact nomatch e
end Mine
end

section
open PySem PySem.W PyProof.Rows PySem.Calls
set_option maxRecDepth 100000
namespace Mine

section
variable {B : BH} {d : Nat} {cx cx' : Cx}
/-- the tests of a clause -/
noncomputable def SimC (B : BH) (d : Nat) (cx : Cx) (ifs : List Expr) (f : Fm → Option Bool) : Prop :=
  ∀ {A : Around} {s : Shared} {env : Env} {fr : Fm} {P W : Addr → Prop} {dv : Bool} {Q : Bool → Shared → Prop} {E : Value → Shared → Prop},
    Room d A → Inv B s → FrameOk cx P W s.heap env fr → Fresh P s.heap → f fr = some dv → (∀ s', Step s s' → Q dv s') →
    wpAny (MM B.w) A (forIn ifs true fun c r => if r = true then do let ok ← isTrue c env (eval c env); pure (ForInStep.yield ok) else pure (ForInStep.yield r)) Q E s
theorem simC_nil : SimC B d cx [] fun _ => some true := by
  intro A s env fr P W dv Q E R I F fp ev h
  obtain rfl := Option.some.inj ev
  exact wpAny_tests_nil (h _ (.refl _ _ _))
theorem simC_one {c : Expr} {t} (hc : SimT B d cx c t) : SimC B d cx [c] t := by
  intro A s env fr P W dv Q E R I F fp ev h
  exact wpAny_tests_one (hc R I F fp ev h)

noncomputable def compGo (g : PyData → Fm → Option Fm) (t : Fm → Option Bool) (f : Fm → Option PyData) : List PyData → Fm → Option (List PyData)
  | [], _ => some []
  | v :: rest, fr => (g v fr).bind fun fr1 => (t fr1).bind fun b => if b then (f fr1).bind fun y => (compGo g t f rest fr1).map (y :: ·) else compGo g t f rest fr1

/-- the list that a comprehension fills: its address is no one else's -/
theorem append_step {s : Shared} {h' : Heap} {D : Addr} {vs vs' : List Value} {n n' : Nat} (e : s.heap.get? D = some { cls := .type "list", data := .seq vs.toArray n }) (hs : Heap.SameBut D s.heap h') : StepP (NotW (· = D)) AllG s { s with heap := h' } :=
  step_but (fun b o x q => (hs.2 b x).trans q) (fun b o x q => by subst x; rw [e] at q; obtain rfl := Option.some.inj q; intro vs z; cases z) rfl rfl

theorem comp_loop {elt target iter : Expr} {ifs : List Expr} {csc : Scope} {pos : Pos} {it : Value} {D : Addr} {cenv : Env} {P W X : Addr → Prop} {XG : Nat → Prop} {g t f} {A : Around} {R : Result → Shared → Prop}
    (ha : SimA B cx' target g) (ht : SimC B d cx' ifs t) (hf : SimE B d cx' elt f) (hWD : ¬ W D) (hPD : ¬ P D) (hXD : ¬ X D) (hPX : ∀ b, P b → ¬ X b) (hWX : ∀ b, W b → ¬ X b) (hcX : ∀ x c, cenv.cells.lookup x = some c → ¬ X c) (hcD : ∀ x c, cenv.cells.lookup x = some c → c ≠ D)
    (hBX : ∀ b o, B.hB.get? b = some o → ¬ X b) (hBD : ∀ o, B.hB.get? D = some o → False) (RM : Room d A) :
    ∀ (rest : List PyData) (s : Shared) (fr : Fm) (vs : List Value) (ds out : List PyData) (n : Nat), Inv B s → Fresh P s.heap → FrameOk cx' P W s.heap cenv fr → FrameW B cx' W s.heap cenv → Iter B d P (fun b => W b ∨ b = D) X XG target it rest s →
      s.heap.get? D = some { cls := .type "list", data := .seq vs.toArray n } → VRs P s.heap vs ds → (∀ b, X b → ∃ o, s.heap.get? b = some o) → compGo g t f rest fr = some out → ds.length + rest.length ≤ 100000 →
      (∀ s' vs' n', StepP (fun b => ¬ W b ∧ b ≠ D ∧ ¬ X b) (NotG XG) s s' → (∃ m, s'.heap.Ns cenv.locals m) → s'.heap.get? D = some { cls := .type "list", data := .seq (List.toArray vs') n' } → VRs P s'.heap vs' (ds ++ out) → R (.ok .next) s') →
      codeAny (MM B.w) A (.compLoop (.ListComp elt [⟨target, iter, ifs, 0⟩] csc pos) 0 it (.ref D) cenv) R s := by
  intro rest
  induction rest with
  | nil =>
    intro s fr vs ds out n I fp F FW It eD rD xl ev hz h
    cases ev
    refine codeAny_of_tree ?_
    show wpAny _ A ((compTurn (.ListComp elt [⟨target, iter, ifs, 0⟩] csc pos) 0 it (.ref D) cenv).onRaise (fun x => do noteFrame x cenv; theTreesLotGoes x)) _ _ s
    refine wpAny_noted ?_
    rw [compTurn_list]
    refine wpAny_bind (wpAny_standAt (wpAny_bind (wpAny_mono (It s A (.refl _ _ _) RM I fp) (fun r s1 hr => ?_) fun _ _ q => q.elim)))
    obtain ⟨rfl, t1⟩ := hr
    refine wpAny_pure ?_
    have F1 := F.stepX t1 hWX hPX hcX
    refine h s1 vs n (t1.mono (fun _ p => p.2.2) fun _ p => p) F1.ns (t1.keep _ _ hXD (.inl (.type rfl)) eD) ?_
    rw [List.append_nil]
    exact rD.step (t1.keep.mono hPX)
  | cons v rest ih =>
    intro s fr vs ds out n I fp F FW It eD rD xl ev hz h
    obtain ⟨fr1, e1, ev⟩ := bind_some ev
    obtain ⟨b, e2, ev⟩ := bind_some ev
    refine codeAny_of_tree ?_
    show wpAny _ A ((compTurn (.ListComp elt [⟨target, iter, ifs, 0⟩] csc pos) 0 it (.ref D) cenv).onRaise (fun x => do noteFrame x cenv; theTreesLotGoes x)) _ _ s
    refine wpAny_noted ?_
    rw [compTurn_list]
    refine wpAny_bind (wpAny_standAt (wpAny_bind (wpAny_mono (It s A (.refl _ _ _) RM I fp) (fun r s1 hr => ?_) fun _ _ q => q.elim)))
    obtain ⟨rv, rfl, hr⟩ := hr
    refine wpAny_bind (wpAny_mono hr (fun _ s3 hr => ?_) fun _ _ q => q.elim)
    obtain ⟨t3, xl3, r3, It3⟩ := hr
    have F3 := F.stepX t3 hWX hPX hcX
    have W3 := FW.stepX t3
    have I3 : Inv B s3 := I.stepP t3 fun b o e => hBX b o e
    have fp3 : Fresh P s3.heap := fp.leP t3 fun b n => .inr (xl3 b (Classical.not_not.mp n))
    have eD3 := t3.keep _ _ hXD (.inl (.type rfl)) eD
    have rD3 := rD.step (t3.keep.mono hPX)
    refine wpAny_bind (ha RM.handled F3 W3 r3 e1 fun s4 t4 F4 W4 => ?_)
    have I4 := I3.stepW W3 t4
    have fp4 : Fresh P s4.heap := fp3.leP t4 fun b n => .inr (F4.wlt b (Classical.not_not.mp n))
    have kp4 : Keep P s3.heap s4.heap := t4.keep.mono fun b p w => F.wp b w p
    have eD4 := t4.keep D _ hWD (.inl (.type rfl)) eD3
    have rD4 := rD3.step kp4
    refine wpAny_bind (ht RM I4 F4 fp4 e2 fun s5 t5 => ?_)
    have I5 := I4.step t5
    have F5 := F4.step t5
    have W5 := W4.step t5
    have fp5 := fp4.le t5.lv
    have eD5 := t5.keep D _ trivial (.inl (.type rfl)) eD4
    have rD5 := rD4.step (t5.keep.mono fun _ _ => trivial)
    have tI : StepP (fun b => ¬ (W b ∨ b = D)) AllG s3 s5 := (t4.mono (fun b p w => p (.inl w)) fun _ q => q).trans (Step.any t5)
    have xl5 : ∀ b, X b → ∃ o, s5.heap.get? b = some o := fun b x => let ⟨o, e⟩ := xl3 b x; let ⟨o', e'⟩ := t4.live b o (fun w => hWX b w x) e; t5.lv b o' e'
    have tA : StepP (fun b => ¬ W b ∧ b ≠ D ∧ ¬ X b) (NotG XG) s s5 := (t3.mono (fun _ p => p.2.2) fun _ p => p).trans ((t4.mono (fun _ p => p.1) fun _ _ => trivial).trans (Step.any t5))
    cases b with
    | false =>
      refine wpAny_pure ⟨rfl, ih s5 fr1 vs ds out n I5 fp5 F5 W5 (It3.later tI) eD5 rD5 xl5 ev (by simp only [List.length_cons] at hz; omega) fun s' vs' n' tt hn hD' r' => h s' vs' n' (tA.trans tt) hn hD' r'⟩
    | true =>
      obtain ⟨y, e3, ev⟩ := bind_some ev
      obtain ⟨out', e4, e5⟩ := Option.map_eq_some_iff.mp ev
      subst e5
      refine wpAny_bind (wpAny_bind (hf RM I5 F5 fp5 e3 fun ry s6 t6 r6 => wpAny_bind ?_))
      have F6 := F5.step t6
      have W6 := W5.step t6
      have fp6 := fp5.le t6.lv
      have eD6 := t6.keep D _ trivial (.inl (.type rfl)) eD5
      have rD6 := rD5.step (t6.keep.mono fun _ _ => trivial)
      have ln := rD6.length
      refine wpAny_list_append_plain ⟨n, eD6⟩ (fun h' hl' hs => ?_) (by have : sizeLine = 2 ^ 24 := rfl; simp only [List.size_toArray, List.length_cons] at hz ⊢; omega)
      obtain ⟨n', e''⟩ := hl'
      have ep : vs.toArray.push ry = (vs ++ [ry]).toArray := by simp
      rw [ep] at e''
      have t7 : StepP (NotW (· = D)) AllG s6 { s6 with heap := h' } := append_step (vs' := vs) (n' := n) eD6 hs
      have kp7 : Keep P s6.heap h' := t7.keep.mono fun b p z => hPD (z ▸ p)
      have F7 := F6.stepX t7 (fun b w z => hWD (z ▸ w)) (fun b p z => hPD (z ▸ p)) (fun x c q => hcD x c q)
      have W7 := W6.stepX t7
      have I7 : Inv B { s6 with heap := h' } := (I5.step t6).stepP t7 fun b o e z => by subst z; exact hBD o e
      have fp7 : Fresh P h' := Fresh.leP (s' := { s6 with heap := h' }) fp6 t7 fun b n => .inr ⟨_, (Classical.not_not.mp n : b = D) ▸ e''⟩
      have tI7 : StepP (fun b => ¬ (W b ∨ b = D)) AllG s3 { s6 with heap := h' } := (tI.trans (Step.any t6)).trans (t7.mono (fun b p z => p (.inr z)) fun _ q => q)
      have xl7 : ∀ b, X b → ∃ o, h'.get? b = some o := fun b x => let ⟨o, e⟩ := xl5 b x; let ⟨o', e'⟩ := t6.lv b o e; ⟨o', (hs.2 b fun z => hXD (z ▸ x)).trans e'⟩
      have tB : StepP (fun b => ¬ W b ∧ b ≠ D ∧ ¬ X b) (NotG XG) s { s6 with heap := h' } := (tA.trans (Step.any t6)).trans (t7.mono (fun _ p => p.2.1) fun _ _ => trivial)
      refine wpAny_pure (wpAny_pure ⟨rfl, ih { s6 with heap := h' } fr1 (vs ++ [ry]) (ds ++ [y]) out' n' I7 fp7 F7 W7 (It3.later tI7) e'' ((rD6.step kp7).snoc (r6.step kp7)) xl7 e4 (by simp only [List.length_cons, List.length_append, List.length_nil] at hz ⊢; omega) fun s' vs' n' tt hn hD' r' => h s' vs' n' (tB.trans tt) hn hD' ?_⟩)
      rw [List.append_assoc] at r'
      exact r'
end
end Mine
end

section
open PySem PySem.W PyProof.Rows PySem.Calls
set_option maxRecDepth 100000
namespace Mine

theorem Step.close {N : Addr → Prop} {G : Nat → Prop} {s s' s'' : Shared} (t : Step s s') (t2 : StepP N G s' s'') (hN : ∀ b o, s.heap.get? b = some o → N b) (hG : ∀ g, g < s.gens.size → G g) : Step s s'' :=
  ⟨fun b o _ q e => t2.keep b o (hN b o e) q (t.keep b o trivial q e), fun b o _ e => let ⟨o', e'⟩ := t.lv b o e; t2.live b o' (hN b o e) e', fun x => t2.tab (t.tab x),
    fun g x _ e => t2.gens g x (hG g (Array.getElem?_eq_some_iff.mp e).1) (t.gens g x trivial e), Nat.le_trans t.gsize t2.gsize, fun x => t2.bare (t.bare x), t2.os.trans t.os⟩

section
variable {B : BH} {d : Nat} {cx : Cx}

theorem comp_core {elt target iter : Expr} {ifs : List Expr} {csc : Scope} {pos : Pos} {idxs : List Nat} {xs : List Str} {k : Nat} {fi g t f} {use : Option (Value → Sem Unit)} {cl : List (Str × Addr)}
    {A : Around} {s : Shared} {env : Env} {fr : Fm} {P W : Addr → Prop} {items out : List PyData} {Q : Value → Shared → Prop} {E : Value → Shared → Prop}
    (H : CompOk cx csc idxs) (hi : SimI B d cx iter target fi) (ha : SimA B (inCx cx csc idxs xs) target g) (ht : SimC B d (inCx cx csc idxs xs) ifs t) (hf : SimE B d (inCx cx csc idxs xs) elt f)
    (R : Room d A) (I : Inv B s) (F : FrameOk cx P W s.heap env fr) (fp : Fresh P s.heap) (e1 : fi fr = some items) (e2 : compGo g t f items (inF idxs k fr) = some out) (hz : items.length ≤ 100000)
    (hcl : ∀ x c, cl.lookup x = some c → env.cells.lookup x = some c) (hcl' : ∀ x, (x, NameKind.free) ∈ csc.names → ∃ c, cl.lookup x = some c)
    (h : ∀ D C s', Step s s' → s.heap.get? D = none → s.heap.get? C = none → C ≠ D → (∃ m, s'.heap.Ns C m) → VR (But P (· = C)) s'.heap (.ref D) (.list out) → compPost (MM B.w) A E use Q (.ref D) C (.ok .next) s') :
    wpAny (MM B.w) A (eval iter env) (fun x s₁ => wpAny (MM B.w) A (pyIter x) (fun it s₂ => wpAny (MM B.w) A (newList []) (fun acc s₃ =>
      wpAny (MM B.w) A (newFunctionEnv csc env.globals cl [] env.qual none .none (some env)) (fun cenv s₄ =>
        codeAny (MM B.w) A (.compStart (.ListComp elt [⟨target, iter, ifs, 0⟩] csc pos) 0 it acc { cenv with scope := relabel csc env }) (compPost (MM B.w) A E use Q acc cenv.locals) s₄) E s₃) E s₂) E s₁) E s := by
  refine hi R I F fp e1 fun it s0 X XG t0 hX0 hXl hXG hIt => ?_
  refine wpAny_newObj_type (newEnv_comp fun h4 e4 n4 => ?_)
  dsimp only at e4 n4 ⊢
  generalize hD : s0.heap.objs.size = D at *
  generalize hh1 : s0.heap.push { cls := .type "list", dict := none, data := .seq ([] : List Value).toArray } = h1 at *
  have eD1 : h1.get? D = some { cls := .type "list", data := .seq ([] : List Value).toArray } := by rw [← hh1, ← hD]; exact Heap.get?_push_size _ rfl
  have k01 : ∀ b o, s0.heap.get? b = some o → h1.get? b = some o := fun b o e => by rw [← hh1]; exact Heap.get?_push_of_some _ e
  have fD : s0.heap.get? D = none := by rw [← hD]; exact get_size _
  have fC : h1.get? h1.objs.size = none := get_size _
  generalize hC : h1.objs.size = C at *
  generalize hh2 : h1.push { cls := .type "dict", dict := none, data := .dict #[] } = h2 at *
  have k12 : ∀ b o, h1.get? b = some o → h2.get? b = some o := fun b o e => by rw [← hh2]; exact Heap.get?_push_of_some _ e
  have k14 : ∀ b o, h1.get? b = some o → h4.get? b = some o := fun b o e => by rw [e4]; exact pushCells_keeps _ _ _ _ (k12 b o e)
  have hCD : C ≠ D := by rintro rfl; rw [fC] at eD1; exact nomatch eD1
  have z2 : h2.objs.size = C + 1 := by rw [← hh2, Heap.size_push, hC]
  generalize hcs : cellsFrom h2.objs.size csc.names cl = cs at *
  let s4 : Shared := { s0 with heap := h4 }
  have t4 : Step s0 s4 := .heap (fun b o e => k14 b o (k01 b o e)) rfl rfl
  have lvs : ∀ b o, s.heap.get? b = some o → ∃ o', h1.get? b = some o' := fun b o e => let ⟨o', e'⟩ := t0.lv b o e; ⟨o', k01 b o' e'⟩
  have clc : ∀ x c, cs.lookup x = some c → (cl.lookup x = some c ∧ (x, NameKind.cell) ∉ csc.names) ∨ (C < c ∧ (x, NameKind.cell) ∈ csc.names ∧ h4.IsCell c none) := fun x c q => by
    rw [← hcs] at q
    have := cellsFrom_look csc.names h2 cl x c q
    rw [z2, ← e4] at this
    exact this
  have newc : ∀ c, C < c → h1.get? c = none := fun c hc => by
    cases q : h1.get? c with
    | none => rfl
    | some o => exact absurd (Heap.lt_size q) (by rw [hC]; exact Nat.not_lt.mpr (Nat.le_of_lt hc))
  have outc : ∀ x c, cl.lookup x = some c → ∃ v, s.heap.IsCell c v := fun x c q => F.cl x c (hcl x c q)
  let W' : Addr → Prop := fun b => h1.get? b = none ∧ ∃ o, h4.get? b = some o
  let P' : Addr → Prop := fun b => P b ∧ ¬ X b ∧ b ≠ D ∧ ¬ W' b
  have hXs : ∀ b, X b → ∃ o, h1.get? b = some o := fun b x => let ⟨o, e⟩ := hXl b x; ⟨o, k01 b o e⟩
  have hWX : ∀ b, W' b → ¬ X b := fun b w x => by obtain ⟨o, e⟩ := hXs b x; rw [w.1] at e; exact nomatch e
  have hWD : ¬ W' D := fun w => by rw [w.1] at eD1; exact nomatch eD1
  have hXD : ¬ X D := fun x => by obtain ⟨o, e⟩ := hXl D x; rw [fD] at e; exact nomatch e
  have hP' : ∀ b o, s0.heap.get? b = some o → P b → ¬ X b → P' b := fun b o e p x => ⟨p, x, fun z => (by subst z; rw [fD] at e; exact nomatch e), fun w => (by have := w.1; rw [k01 b o e] at this; exact nomatch this)⟩
  have hP's : ∀ b o, s.heap.get? b = some o → P b → P' b := fun b o e p => let ⟨o', e'⟩ := t0.lv b o e; hP' b o' e' p (hX0 b o e)
  have hXc : ∀ x c, cs.lookup x = some c → ¬ X c := fun x c q xx => by
    rcases clc x c q with ⟨q1, _⟩ | ⟨q1, _⟩
    · obtain ⟨v, o, e, _⟩ := outc x c q1
      exact hX0 c o e xx
    · obtain ⟨o, e⟩ := hXs c xx
      rw [newc c q1] at e; exact nomatch e
  have hDc : ∀ x c, cs.lookup x = some c → c ≠ D := fun x c q z => by
    subst z
    rcases clc x c q with ⟨q1, _⟩ | ⟨q1, _⟩
    · obtain ⟨v, o, e, _⟩ := outc x c q1
      obtain ⟨o', e'⟩ := t0.lv c o e
      rw [fD] at e'; exact nomatch e'
    · rw [newc c q1] at eD1; exact nomatch eD1
  obtain ⟨It, Sf⟩ := hIt P' (fun b => W' b ∨ b = D) hP' (fun b p => p.2.1) (fun b w p => w.elim p.2.2.2 p.2.2.1) (fun b x w => w.elim (fun w => hWX b w x) fun z => hXD (z ▸ x))
  have I4 : Inv B s4 := (I.step t0).step t4
  have fp4 : Fresh P' h4 := fun a q => by
    have q1 : h1.get? a = none := by
      cases e : h1.get? a with
      | none => rfl
      | some o => rw [k14 a o e] at q; exact nomatch q
    refine ⟨fp a ?_, fun x => ?_, fun z => ?_, fun w => ?_⟩
    · cases e : s.heap.get? a with
      | none => rfl
      | some o => obtain ⟨o', e'⟩ := lvs a o e; rw [q1] at e'; exact nomatch e'
    · obtain ⟨o, e⟩ := hXs a x; rw [q1] at e; exact nomatch e
    · subst z; rw [q1] at eD1; exact nomatch eD1
    · obtain ⟨o, e⟩ := w.2; rw [q] at e; exact nomatch e
  have kd : ∀ x k, (relab csc cx.sc).names.lookup x = some k → (k = .free ∨ k = .cell ∨ k = .local ∨ True) := fun _ _ _ => .inr (.inr (.inr trivial))
  have F4 : FrameOk (inCx cx csc idxs xs) P' W' h4 { newEnv csc C env.globals cs env.qual none .none (some env) builtinsNs with scope := relabel csc env } (inF idxs k fr) := by
    refine ⟨by rw [relabel_eq, F.sc]; rfl, H.kind, F.glob, F.blt, ⟨_, n4⟩, ⟨fC, ?_⟩, fun b w p => p.2.2.2 w, fun b w => w.2, fun x c q => ?_, ⟨fun x q => ?_, fun q => by cases q⟩, fun j x dd a1 b1 _ => ?_, fun i x dd a1 => ?_⟩
    · obtain ⟨o, _, _, e, _⟩ := n4; exact ⟨o, e⟩
    · rcases clc x c q with ⟨q1, _⟩ | ⟨_, _, q1⟩
      · obtain ⟨v, cc⟩ := outc x c q1
        refine ⟨v, IsCell.kept cc fun o e pl => ?_⟩
        exact k14 _ _ (k01 _ _ (t0.keep c o trivial (.inl pl) e))
      · exact ⟨_, q1⟩
    · show ∃ c, cs.lookup x = some c
      have q' : (csc.names.lookup x = some .cell) ∨ csc.names.lookup x = some .free := by
        have q1 : (relab csc cx.sc).names.lookup x = some .cell ∨ (relab csc cx.sc).names.lookup x = some .free := q
        rw [lookup_relab] at q1
        cases e : csc.names.lookup x with
        | none => rw [e] at q1; rcases q1 with q1 | q1 <;> cases q1
        | some kk =>
          rw [e] at q1
          cases kk <;> first | exact .inl rfl | exact .inr rfl | (rcases q1 with q1 | q1 <;> (simp at q1))
      rw [← hcs]
      refine Option.isSome_iff_exists.mp (cellsFrom_has _ _ _ x (q'.imp mem_of_look fun q => ?_))
      obtain ⟨c, e⟩ := hcl' x (mem_of_look q)
      rw [e]; rfl
    · obtain ⟨i, e3, e4', e5, e6⟩ := inF_get H b1 a1
      obtain ⟨rv, rd, vr⟩ := F.slot i x dd e3 e6 e4'
      have hsf := look_of_mem H.nd e5
      have hk := H.free x e5
      have nc : (x, NameKind.cell) ∉ csc.names := fun q => by rw [look_of_mem H.nd q] at hsf; cases hsf
      refine ⟨rv, ?_, (vr.narrow hP's).step ?_⟩
      · rcases rd with ⟨kk, _⟩ | ⟨kk, c, ec, ic⟩
        · unfold Env.kindOf at kk
          rw [F.sc] at kk
          rw [kk] at hk
          rcases hk with hk | hk <;> cases hk
        · obtain ⟨c', ec'⟩ := hcl' x e5
          have : c' = c := Option.some.inj ((hcl x c' ec').symm.trans ec)
          subst this
          refine .inr ⟨?_, c', ?_, IsCell.kept ic fun o e pl => k14 _ _ (k01 _ _ (t0.keep c' o trivial (.inl pl) e))⟩
          · show (relabel csc env).names.lookup x = some .cell ∨ (relabel csc env).names.lookup x = some .free
            rw [relabel_eq, lookup_relab, hsf]
            simp only [Option.map_some]
            split
            · exact .inl rfl
            · exact .inr rfl
          · show cs.lookup x = some c'
            rw [← hcs]
            exact cellsFrom_keep ec' nc
      · intro b o _ q e
        exact k14 _ _ (k01 _ _ (t0.keep b o trivial q e))
    · cases a1
  have W4 : FrameW B (inCx cx csc idxs xs) W' h4 { newEnv csc C env.globals cs env.qual none .none (some env) builtinsNs with scope := relabel csc env } := by
    have cwm : ∀ x, (inCx cx csc idxs xs).cw x = true → (x, NameKind.cell) ∈ csc.names := fun x q => mem_of_look (by simpa [inCx] using q)
    refine ⟨fun x c q e => ?_, fun x y c q ex ey => ?_, fun b o w e => ?_⟩
    · rcases clc x c e with ⟨_, q1⟩ | ⟨q1, _, q2⟩
      · exact absurd (cwm x q) q1
      · obtain ⟨o, e, _⟩ := q2; exact ⟨newc c q1, o, e⟩
    · have ex' : cs.lookup x = some c := ex
      rcases clc x c ex' with ⟨_, q1⟩ | ⟨q1, _, q2⟩
      · exact absurd (cwm x q) q1
      · have ey' : cs.lookup y = some c := ey
        rw [← hcs] at ex' ey'
        refine cellsFrom_inj csc.names h2 cl x y c (fun z dd q => ?_) (by rw [z2]; exact q1) ex' ey'
        obtain ⟨v, o, e, _⟩ := outc z dd q
        obtain ⟨o', e'⟩ := lvs dd o e
        exact Heap.lt_size (k12 _ _ e')
    · obtain ⟨o', e'⟩ := I.lives b o e
      obtain ⟨o'', e''⟩ := lvs b o' e'
      rw [w.1] at e''; exact nomatch e''
  have loop : codeAny (MM B.w) A (.compLoop (.ListComp elt [⟨target, iter, ifs, 0⟩] csc pos) 0 it (.ref D) { newEnv csc C env.globals cs env.qual none .none (some env) builtinsNs with scope := relabel csc env })
      (compPost (MM B.w) A E use Q (.ref D) C) s4 := by
    refine comp_loop (B := B) (P := P') (W := W') (X := X) (XG := XG) ha ht hf hWD (fun p => p.2.2.1 rfl) hXD (fun b p => p.2.1) hWX (fun x c q => hXc x c q) (fun x c q => hDc x c q) (fun b o e => let ⟨o', e'⟩ := I.lives b o e; hX0 b o' e')
      (fun o e => ?_) R items s4 _ [] [] out 0 I4 fp4 F4 W4 (It.later (Step.any t4)) (k14 _ _ eD1) .nil (fun b x => let ⟨o, e⟩ := hXs b x; ⟨o, k14 b o e⟩) e2 (by simpa using hz) fun s' vs' n' tt hn hD' r' => ?_
    · obtain ⟨o', e'⟩ := I.lives D o e
      obtain ⟨o'', e''⟩ := t0.lv D o' e'
      rw [fD] at e''; exact nomatch e''
    · have ts : Step s s' := Step.close (t0.trans t4) tt (fun b o e => ⟨fun w => ?_, fun z => ?_, hX0 b o e⟩) fun g hg => hXG g hg
      · refine h D C s' ts ?_ ?_ hCD hn (.list ⟨?_, fun z => hCD z.symm⟩ hD' (r'.narrow fun b o _ p => ⟨p.1, fun z => ?_⟩))
        · cases e : s.heap.get? D with
          | none => rfl
          | some o => obtain ⟨o', e'⟩ := t0.lv D o e; rw [fD] at e'; exact nomatch e'
        · cases e : s.heap.get? C with
          | none => rfl
          | some o => obtain ⟨o', e'⟩ := lvs C o e; rw [fC] at e'; exact nomatch e'
        · refine fp D ?_
          cases e : s.heap.get? D with
          | none => rfl
          | some o => obtain ⟨o', e'⟩ := t0.lv D o e; rw [fD] at e'; exact nomatch e'
        · subst z
          exact p.2.2.2 ⟨fC, let ⟨o, _, _, e, _⟩ := n4; ⟨o, e⟩⟩
      · obtain ⟨o', e'⟩ := lvs b o e; rw [w.1] at e'; exact nomatch e'
      · obtain ⟨o', e'⟩ := t0.lv b o e; subst z; rw [fD] at e'; exact nomatch e'
  exact codeAny_compStart_list loop (Sf s4 A _ _ (Step.any t4) loop)
end
end Mine
end

section
open PySem PySem.W PyProof.Rows PySem.Calls
set_option maxRecDepth 100000
namespace Mine

theorem Step.closeP {N M : Addr → Prop} {G : Nat → Prop} {s s' s'' : Shared} (t : Step s s') (t2 : StepP N G s' s'') (hN : ∀ b o, s.heap.get? b = some o → M b → N b) (hG : ∀ g, g < s.gens.size → G g) : StepP M AllG s s'' :=
  ⟨fun b o p q e => t2.keep b o (hN b o e p) q (t.keep b o trivial q e), fun b o p e => let ⟨o', e'⟩ := t.lv b o e; t2.live b o' (hN b o e p) e', fun x => t2.tab (t.tab x),
    fun g x _ e => t2.gens g x (hG g (Array.getElem?_eq_some_iff.mp e).1) (t.gens g x trivial e), Nat.le_trans t.gsize t2.gsize, fun x => t2.bare (t.bare x), t2.os.trans t.os⟩
/-- an address that is not in the heap: a change there is no one's -/
theorem but_step {s : Shared} {h' : Heap} {C : Addr} {m : Str → Option Value} (hs : Heap.SameBut C s.heap h') (n : s.heap.Ns C m) : StepP (NotW (· = C)) AllG s { s with heap := h' } := by
  obtain ⟨o, es, ep, e, dd, _⟩ := n
  exact step_but (fun b o x q => (hs.2 b x).trans q) (fun b o' x q => by subst x; rw [e] at q; obtain rfl := Option.some.inj q; intro vs z; rw [dd] at z; cases z) rfl rfl

section
variable {B : BH} {d : Nat} {cx : Cx}
noncomputable def compF (fi : Fm → Option (List PyData)) (g : PyData → Fm → Option Fm) (t : Fm → Option Bool) (f : Fm → Option PyData) (idxs : List Nat) (k : Nat) (fr : Fm) : Option PyData :=
  (fi fr).bind fun items => if items.length ≤ 100000 then (compGo g t f items (inF idxs k fr)).map .list else none
theorem comp_closure {s : Shared} {env : Env} {fr : Fm} {P W : Addr → Prop} {csc : Scope} {idxs : List Nat} (H : CompOk cx csc idxs) (F : FrameOk cx P W s.heap env fr) :
    ∃ cl, closureFor csc env = pure cl ∧ (∀ x c, cl.lookup x = some c → env.cells.lookup x = some c) ∧ (∀ x, (x, NameKind.free) ∈ csc.names → ∃ c, cl.lookup x = some c) :=
  closure_ok fun x hx => F.has.1 x (H.free x hx)
theorem simE_comp {elt target iter : Expr} {ifs : List Expr} {csc : Scope} {pos : Pos} {idxs : List Nat} {xs : List Str} {k : Nat} {fi g t f}
    (H : CompOk cx csc idxs) (hi : SimI B d cx iter target fi) (ha : SimA B (inCx cx csc idxs xs) target g) (ht : SimC B d (inCx cx csc idxs xs) ifs t) (hf : SimE B d (inCx cx csc idxs xs) elt f)
    (hs : ∀ env x, foldedSetIterable iter env x = pure x := by intro _ _; rfl) : SimE B d cx (.ListComp elt [⟨target, iter, ifs, 0⟩] csc pos) (compF fi g t f idxs k) := by
  intro A s env fr P W dv Q E R I F fp ev h
  obtain ⟨items, e1, ev⟩ := bind_some ev
  split at ev
  · rename_i hz
    obtain ⟨out, e2, e3⟩ := Option.map_eq_some_iff.mp ev
    subst e3
    obtain ⟨cl, hc, hc1, hc2⟩ := comp_closure H F
    rw [eval_ListComp]
    refine wpAny_comprehension_free (use := none) rfl (hs env) hc H.kind (fun y hy hl => look_of_mem H.nd (hl ▸ hy)) (comp_core (B := B) H hi ha ht hf R I F fp e1 e2 hz hc1 hc2 fun D C s' ts fD fC hne hn vr => ?_)
    obtain ⟨m, hn⟩ := hn
    refine ⟨m, hn, fun h' hs' => ?_⟩
    have tb := but_step hs' hn
    refine h _ _ (Step.close ts tb (fun b o e z => by subst z; rw [fC] at e; exact nomatch e) fun _ _ => trivial) ?_
    exact (vr.step (tb.keep.mono fun b p => p.2)).up fun b p => p.1
  · exact nomatch ev

/-- x = [..]: the value goes straight into the name -/
theorem sim1_assignComp {x : Str} {pos' spos : Pos} {elt target iter : Expr} {ifs : List Expr} {csc : Scope} {pos : Pos} {idxs : List Nat} {xs : List Str} {k i : Nat} {fi g t f}
    (H : CompOk cx csc idxs) (hi : SimI B d cx iter target fi) (ha : SimA B (inCx cx csc idxs xs) target g) (ht : SimC B d (inCx cx csc idxs xs) ifs t) (hf : SimE B d (inCx cx csc idxs xs) elt f) (hx : Slot1 cx i x)
    (hk : cx.sc.names.lookup x = some .local) (hl : (pos'.line == pos.line) = true) (hn : (csc.names.any fun (n, k) => n == x && (k == .local || k == .cell)) = false)
    (hs : ∀ env x, foldedSetIterable iter env x = pure x := by intro _ _; rfl) : Sim1 B d cx (.Assign [.Name x pos'] (.ListComp elt [⟨target, iter, ifs, 0⟩] csc pos) spos) (setF i (compF fi g t f idxs k)) := by
  intro A s env fr P W o Q E R I F FW fp ev h
  obtain ⟨v, e1, ev⟩ := bind_some ev
  split at ev
  · rename_i hlen
    obtain rfl := Option.some.inj ev
    obtain ⟨items, e0, e1'⟩ := bind_some e1
    split at e1'
    · rename_i hz
      obtain ⟨out, e2, e3⟩ := Option.map_eq_some_iff.mp e1'
      subst e3
      obtain ⟨cl, hc, hc1, hc2⟩ := comp_closure H F
      have hsw : swapsWith (.ListComp elt [⟨target, iter, ifs, 0⟩] csc pos) (some (.Name x pos')) spos.line env = pure true := by
        unfold swapsWith
        have h1 : env.blockKind = .function := by unfold Env.blockKind; rw [F.sc, F.kind]; rfl
        have h2 : env.kindOf x = some .local := by unfold Env.kindOf; rw [F.sc]; exact hk
        show (pure (env.blockKind == .function && env.kindOf x == some .local && pos'.line == pos.line && !(csc.names.any fun (n, k) => n == x && (k == .local || k == .cell))) : Sem Bool) = pure true
        rw [h1, h2, hl, hn]; rfl
      rw [exec_Assign_Name_used _ _ _ _ hsw]
      refine wpAny_bind (wpAny_standAt (wpAny_bind ?_))
      show wpAny _ A (do let _ ← comprehension (.ListComp elt [⟨target, iter, ifs, 0⟩] csc pos) csc env _ (newList []) false (eval iter env) (some (assign (.Name x pos') env))) _ _ s
      refine wpAny_bind (wpAny_mono (wpAny_comprehension_free (Q := fun _ s' => Q .next s') (use := some (assign (.Name x pos') env)) rfl (hs env) hc H.kind (fun y hy hl => look_of_mem H.nd (hl ▸ hy)) (comp_core (B := B) H hi ha ht hf R I F fp e0 e2 hz hc1 hc2 fun D C s' ts fD fC hne hnC vr => ?_)) (fun _ _ q => wpAny_pure (wpAny_pure q)) fun _ _ q => q)
      show wpAny _ _ (assign (.Name x pos') env (.ref D)) _ _ _
      -- the frame does not look at C
      have F0 : FrameOk cx (But P (· = C)) W s.heap env fr := F.narrow (fun b o e p => ⟨p, fun z => by subst z; rw [fC] at e; exact nomatch e⟩) fun b w p => F.wp b w p.1
      refine wpAny_assign_Name (store_ok (F0.step ts) (FW.step ts) hx.at_ hx.own hlen hx.kind hx.nd vr fun s2 t2 F2 W2 => ?_)
      obtain ⟨m, hnC⟩ := hnC
      have wC : ¬ W C := fun w => by obtain ⟨o, e⟩ := F.wlt C w; rw [fC] at e; exact nomatch e
      obtain ⟨oC, esC, epC, eC, ddC, kC⟩ := id hnC
      have n2 : s2.heap.Ns C m := Heap.Ns.kept hnC fun o e pl => t2.keep C o wC (.inl pl) e
      refine ⟨m, n2, fun h' hs' => ?_⟩
      have tb := but_step hs' n2
      have tt : StepP (NotW W) AllG s { s2 with heap := h' } := Step.closeP (N := fun b => ¬ W b ∧ b ≠ C) ts ((t2.mono (fun b p => p.1) fun _ q => q).trans (tb.mono (fun b p => p.2) fun _ q => q)) (fun b o e w => ⟨w, fun z => by subst z; rw [fC] at e; exact nomatch e⟩) fun _ _ => trivial
      have F3 := F2.stepX tb (fun b w z => wC (z ▸ w)) (fun b p => p.2) (fun y c q z => by subst z; obtain ⟨v, o, e, _⟩ := F.cl y c q; rw [fC] at e; exact nomatch e)
      exact h _ _ ⟨tt, rfl, F3.narrow (fun b _ _ p => p.1) F.wp, W2.stepX tb⟩
    · exact nomatch e1'
  · exact nomatch ev
end
end Mine
end

section
open PySem PySem.W PyProof.Rows PySem.Calls
set_option maxRecDepth 100000
namespace Mine

/-- a body that ends by a return -/
noncomputable def SimR (B : BH) (d : Nat) (cx : Cx) (st : List Stmt) (f : Fm → Option PyData) : Prop :=
  ∀ {A : Around} {s : Shared} {env : Env} {fr : Fm} {P W : Addr → Prop} {v : PyData} {Q : Flow → Shared → Prop} {E : Value → Shared → Prop},
    Room d A → Inv B s → FrameOk cx P W s.heap env fr → FrameW B cx W s.heap env → Fresh P s.heap → f fr = some v → (∀ rv s', StepP (NotW W) AllG s s' → VR (Or1 P W) s'.heap rv v → Q (.ret rv) s') → wpAny (MM B.w) A (execs st env) Q E s

section
variable {B : BH} {d : Nat} {cx : Cx}
noncomputable def outV : Out → Option PyData
  | .ret v => some v
  | .next _ => none
noncomputable def seqR (f : Fm → Option Out) (g : Fm → Option PyData) (fr : Fm) : Option PyData := (f fr).bind fun o => match o with | .next fr' => g fr' | .ret v => some v
theorem simR_cons {st : Stmt} {rest : List Stmt} {f g} (h1 : Sim1 B d cx st f) (h2 : SimR B d cx rest g) : SimR B d cx (st :: rest) (seqR f g) := by
  intro A s env fr P W v Q E R I F FW fp ev h
  obtain ⟨o1, e1, ev⟩ := bind_some ev
  refine wpAny_execs_cons (h1 R I F FW fp e1 fun fl s1 p1 => ?_)
  obtain ⟨t1, p1⟩ := p1
  cases o1 with
  | next fr1 =>
    obtain ⟨rfl, F1, W1⟩ := p1
    exact h2 R (I.stepW FW t1) F1 W1 (fp.leP t1 fun b n => .inr (F1.wlt b (Classical.not_not.mp n))) ev fun rv s2 t2 r2 => h _ _ (t1.trans t2) r2
  | ret v =>
    obtain ⟨rv, rfl, r1⟩ := p1
    obtain rfl := Option.some.inj ev
    exact h _ _ t1 r1

/-- what stands between: the list at a is new -/
theorem own_end {s s1 s2 s3 : Shared} {P W : Addr → Prop} {a : Addr} {Q : Flow → Shared → Prop} {v : PyData} (fp : Fresh P s.heap) (na : s.heap.get? a = none) (t1 : Step s s1) (t2 : StepP (NotW W) AllG s1 s2) (t3 : StepP (NotW (With W a)) AllG s2 s3) {rv : Value}
    (r : VR (Or1 (But P (· = a)) (With W a)) s3.heap rv v) (h : ∀ rv s', StepP (NotW W) AllG s s' → VR (Or1 P W) s'.heap rv v → Q (.ret rv) s') : Q (.ret rv) s3 := by
  refine h _ _ (Step.closeP (N := fun b => ¬ With W a b) t1 ((t2.mono (fun b p q => p (.inl q)) fun _ q => q).trans t3) (fun b o e w q => q.elim w fun z => by subst z; rw [na] at e; exact nomatch e) fun _ _ => trivial) (r.up fun b p => ?_)
  rcases p with p | p | rfl
  · exact .inl p.1
  · exact .inr p
  · exact .inl (fp _ na)

structure OwnAt (cx : Cx) (i : Nat) (x : Str) : Prop where
  at_ : cx.ns[i]? = some x
  own : cx.own = some i
  kind : cx.sc.names.lookup x = some .local
  nd : cx.ns.Nodup

/-- x = [..], x the frame's own list -/
theorem simR_own {x : Str} {p1 p2 pos : Pos} {es : List Expr} {rest : List Stmt} {i : Nat} {f g} (hs : SimL B d cx es f) (hi : OwnAt cx i x) (hr : SimR B d cx rest g) :
    SimR B d cx (.Assign [.Name x p1] (.List es p2) pos :: rest) fun fr => (f fr).bind fun ds => if i < fr.length ∧ ds.length ≤ 1000 then g (fr.set i (some (.list ds))) else none := by
  intro A s env fr P W v Q E R I F FW fp ev h
  obtain ⟨ds, e1, ev⟩ := bind_some ev
  split at ev
  · rename_i hz
    refine wpAny_execs_cons (wpAny_Assign_Name (wpAny_List_spliced (hs R I F fp e1 fun rvs s1 t1 r1 => ⟨by rw [r1.length]; have : sizeLine = 2 ^ 24 := rfl; omega, ?_⟩)) rfl)
    have na : s.heap.get? s1.heap.objs.size = none := by
      cases e : s.heap.get? s1.heap.objs.size with
      | none => rfl
      | some o => obtain ⟨o', e'⟩ := t1.lv _ o e; rw [get_size] at e'; exact nomatch e'
    have na1 : s1.heap.get? s1.heap.objs.size = none := get_size _
    generalize ha : s1.heap.objs.size = a at *
    have eA : (s1.heap.push { cls := .type "list", data := .seq rvs.toArray }).get? a = some { cls := .type "list", data := .seq rvs.toArray } := by rw [← ha]; exact Heap.get?_push_size _ rfl
    have t2 : Step s { s1 with heap := s1.heap.push { cls := .type "list", data := .seq rvs.toArray } } := t1.trans Step.push
    have F0 : FrameOk cx (But P (· = a)) W s.heap env fr := F.narrow (fun b o e p => ⟨p, fun z => by subst z; rw [na] at e; exact nomatch e⟩) fun b w p => F.wp b w p.1
    have r2 : VRs (But P (· = a)) (s1.heap.push { cls := .type "list", data := .seq rvs.toArray }) rvs ds :=
      (r1.narrow (P' := But P (· = a)) fun b o e p => ⟨p, fun z => by subst z; rw [na1] at e; exact nomatch e⟩).step (Keep.of fun _ _ e => Heap.get?_push_of_some _ e)
    refine store_own (F0.step t2) (FW.step t2) hi.at_ hi.own hz.1 (.inl hi.kind) hi.nd (fun p => p.2 rfl) eA r2 (fun o e => ?_) fun s3 t3 F3 W3 => ?_
    · obtain ⟨o', e'⟩ := I.lives _ o e
      rw [na] at e'; exact nomatch e'
    · have fp3 : Fresh (But P (· = a)) s3.heap := fun b q => by
        refine ⟨fp b ?_, fun z => ?_⟩
        · cases e : s.heap.get? b with
          | none => rfl
          | some o =>
            by_cases w : W b
            · obtain ⟨o', e'⟩ := F3.wlt b (.inl w); rw [q] at e'; exact nomatch e'
            · obtain ⟨o', e'⟩ := t2.lv b o e; obtain ⟨o'', e''⟩ := t3.live b o' w e'; rw [q] at e''; exact nomatch e''
        · obtain ⟨o', e'⟩ := F3.wlt b (.inr z); rw [q] at e'; exact nomatch e'
      exact hr R ((I.step t2).stepW FW t3) F3 W3 fp3 ev fun rv s4 t4 r4 => own_end fp na t2 t3 t4 r4 h
  · exact nomatch ev

theorem isTup_of {h : Heap} {a : Addr} {vs : Array Value} {n : Nat} (e : h.get? a = some { cls := .type "tuple", data := .seq vs n }) : IsTup h a vs := ⟨_, e, rfl, n, rfl⟩
/-- the two names' stores, the last one first -/
theorem simR_own2 {x y : Str} {p1 p2 p3 tp vp pos : Pos} {k k' : Nat} {e2 : Expr} {rest : List Stmt} {i j : Nat} {f g} (hf : SimE B d cx e2 f) (hi : OwnAt cx i x) (hj : Slot1 cx j y) (hkj : cx.sc.names.lookup y = some .local) (hr : SimR B d cx rest g)
    (hsw : ∀ env : Env, env.blockKind = .function → env.kindOf x = some .local → env.kindOf y = some .local → swappedStores [.Tuple [.Name x p1, .Name y p2] k tp] (.Tuple [.List [] p3, e2] k' vp) env = pure (some [x, y]))
    (he1 : ∀ env, starEach [.List [] p3, e2] env = (false, eval (.List [] p3) env) :: starEach [e2] env := by intro _; rfl) (he2 : ∀ env, starEach [e2] env = (false, eval e2 env) :: starEach [] env := by intro _; rfl) :
    SimR B d cx (.Assign [.Tuple [.Name x p1, .Name y p2] k tp] (.Tuple [.List [] p3, e2] k' vp) pos :: rest) fun fr => (f fr).bind fun a => if i < fr.length ∧ j < fr.length then g ((fr.set j (some a)).set i (some (.list []))) else none := by
  intro A s env fr P W v Q E R I F FW fp ev h
  obtain ⟨b2, e1, ev⟩ := bind_some ev
  split at ev
  · rename_i hz
    have hb : env.blockKind = .function := by unfold Env.blockKind; rw [F.sc, F.kind]; rfl
    have hx' : env.kindOf x = some .local := by unfold Env.kindOf; rw [F.sc]; exact hi.kind
    have hy' : env.kindOf y = some .local := by unfold Env.kindOf; rw [F.sc]; exact hkj
    have na : s.heap.get? s.heap.objs.size = none := get_size _
    generalize ha : s.heap.objs.size = a at *
    have F0 : FrameOk cx (But P (· = a)) W s.heap env fr := F.narrow (fun b o e p => ⟨p, fun z => by subst z; rw [na] at e; exact nomatch e⟩) fun b w p => F.wp b w p.1
    refine wpAny_execs_cons (Assign_Tuple_swapped (wpAny_Tuple_spliced (args_cons (wpAny_List_spliced (args_nil ⟨by simp, ?_⟩)) (he1 env))) rfl (hsw env hb hx' hy'))
    rw [ha]
    have eA : (s.heap.push { cls := .type "list", data := .seq ([] : List Value).toArray }).get? a = some { cls := .type "list", data := .seq ([] : List Value).toArray } := by rw [← ha]; exact Heap.get?_push_size _ rfl
    have t0 : Step s { s with heap := s.heap.push { cls := .type "list", data := .seq ([] : List Value).toArray } } := Step.push
    have fp0 : Fresh (But P (· = a)) (s.heap.push { cls := .type "list", data := .seq ([] : List Value).toArray }) := fun b q => ⟨(fp.le t0.lv) b q, fun z => by subst z; rw [eA] at q; exact nomatch q⟩
    refine args_cons (hf R (I.step t0) (F0.step t0) fp0 e1 fun rv s2 t2 r2 => args_nil ⟨by have : sizeLine = 2 ^ 24 := rfl; simp; omega, ?_⟩) (he2 env)
    have eA2 := t2.keep a _ trivial (.inl (.type rfl)) eA
    let s3 : Shared := { s2 with heap := s2.heap.push { cls := .type "tuple", data := .seq [Value.ref a, rv].toArray } }
    have t3 : Step s2 s3 := Step.push
    have eT : s3.heap.get? s2.heap.objs.size = some { cls := .type "tuple", data := .seq [Value.ref a, rv].toArray } := Heap.get?_push_size _ rfl
    refine unpackItems_tuple (s := s3) (items := [Value.ref a, rv].toArray) R.handled (isTup_of eT) fun h' hx => ?_
    have t4 : Step s3 { s3 with heap := h' } := .heap (fun b o q => hx b o (Nat.ne_of_lt (Heap.lt_size q)) q) rfl rfl
    have t14 : Step s { s3 with heap := h' } := t0.trans (t2.trans (t3.trans t4))
    have eA4 := (t3.trans t4).keep a _ trivial (.inl (.type rfl)) eA2
    show wpAny _ _ (assignInOrder [bindName env y, bindName env x] [rv, .ref a]) _ _ _
    unfold assignInOrder
    refine wpAny_bind (wpAny_holding (wpAny_bindName (store_ok (F0.step t14) (FW.step t14) hj.at_ hj.own hz.2 hj.kind hj.nd (r2.step ((t3.trans t4).keep.mono fun _ _ => trivial)) fun s5 t5 F5 W5 => ?_)))
    unfold assignInOrder
    have na5 : ¬ W a := fun w => by obtain ⟨o, e⟩ := F.wlt a w; rw [na] at e; exact nomatch e
    refine wpAny_bind (wpAny_holding (wpAny_bindName (store_own F5 W5 hi.at_ hi.own (by rw [List.length_set]; exact hz.1) (.inl hi.kind) hi.nd (fun p => p.2 rfl) (vs := []) (t5.keep a _ na5 (.inl (.type rfl)) eA4) .nil (fun o e => ?_) fun s6 t6 F6 W6 => ?_)))
    · obtain ⟨o', e'⟩ := I.lives _ o e
      rw [na] at e'; exact nomatch e'
    unfold assignInOrder
    refine wpAny_pure ?_
    have t56 := t5.trans t6
    have fp6 : Fresh (But P (· = a)) s6.heap := fun b q => by
      refine ⟨fp b ?_, fun z => ?_⟩
      · cases e : s.heap.get? b with
        | none => rfl
        | some o =>
          by_cases w : W b
          · obtain ⟨o', e'⟩ := F6.wlt b (.inl w); rw [q] at e'; exact nomatch e'
          · obtain ⟨o', e'⟩ := t14.lv b o e; obtain ⟨o'', e''⟩ := t56.live b o' w e'; rw [q] at e''; exact nomatch e''
      · obtain ⟨o', e'⟩ := F6.wlt b (.inr z); rw [q] at e'; exact nomatch e'
    exact hr R ((I.step t14).stepW FW t56) F6 W6 fp6 ev fun rv s4 t4 r4 => own_end fp na t14 t56 t4 r4 h
  · exact nomatch ev
/-- three names, the own list in the middle -/
theorem simR_own3 {x y z : Str} {p1 p2 p2' p3 tp vp pos : Pos} {k k' : Nat} {e1 e2 : Expr} {rest : List Stmt} {i j l : Nat} {f1 f2 g} (hf1 : SimE B d cx e1 f1) (hf2 : SimE B d cx e2 f2) (hi : OwnAt cx i x) (hl : Slot1 cx l z) (hkl : cx.sc.names.lookup z = some .local) (hj : Slot1 cx j y)
    (hkj : cx.sc.names.lookup y = some .local) (hr : SimR B d cx rest g)
    (hsw : ∀ env : Env, env.blockKind = .function → env.kindOf z = some .local → env.kindOf x = some .local → env.kindOf y = some .local → swappedStores [.Tuple [.Name z p2', .Name x p1, .Name y p2] k tp] (.Tuple [e1, .List [] p3, e2] k' vp) env = pure (some [z, x, y]))
    (he0 : ∀ env, starEach [e1, .List [] p3, e2] env = (false, eval e1 env) :: starEach [.List [] p3, e2] env := by intro _; rfl)
    (he1 : ∀ env, starEach [.List [] p3, e2] env = (false, eval (.List [] p3) env) :: starEach [e2] env := by intro _; rfl) (he2 : ∀ env, starEach [e2] env = (false, eval e2 env) :: starEach [] env := by intro _; rfl) :
    SimR B d cx (.Assign [.Tuple [.Name z p2', .Name x p1, .Name y p2] k tp] (.Tuple [e1, .List [] p3, e2] k' vp) pos :: rest) fun fr => (f1 fr).bind fun c => (f2 fr).bind fun a => if i < fr.length ∧ j < fr.length ∧ l < fr.length then g (((fr.set j (some a)).set i (some (.list []))).set l (some c)) else none := by
  intro A s env fr P W v Q E R I F FW fp ev h
  obtain ⟨b1, ec, ev⟩ := bind_some ev
  obtain ⟨b2, ea, ev⟩ := bind_some ev
  split at ev
  · rename_i hz
    have hb : env.blockKind = .function := by unfold Env.blockKind; rw [F.sc, F.kind]; rfl
    have hx' : env.kindOf x = some .local := by unfold Env.kindOf; rw [F.sc]; exact hi.kind
    have hy' : env.kindOf y = some .local := by unfold Env.kindOf; rw [F.sc]; exact hkj
    have hz' : env.kindOf z = some .local := by unfold Env.kindOf; rw [F.sc]; exact hkl
    refine wpAny_execs_cons (Assign_Tuple_swapped (wpAny_Tuple_spliced (args_cons (hf1 R I F fp ec fun rv1 s1 t1 r1 => ?_) (he0 env))) rfl (hsw env hb hz' hx' hy'))
    refine args_cons (wpAny_List_spliced (args_nil ⟨by simp, ?_⟩)) (he1 env)
    have na1 : s1.heap.get? s1.heap.objs.size = none := get_size _
    generalize ha : s1.heap.objs.size = a at *
    have na : s.heap.get? a = none := by
      cases e : s.heap.get? a with
      | none => rfl
      | some o => obtain ⟨o', e'⟩ := t1.lv _ o e; rw [na1] at e'; exact nomatch e'
    have F0 : FrameOk cx (But P (· = a)) W s.heap env fr := F.narrow (fun b o e p => ⟨p, fun z => by subst z; rw [na] at e; exact nomatch e⟩) fun b w p => F.wp b w p.1
    have r1' : VR (But P (· = a)) s1.heap rv1 b1 := r1.narrow fun b o e p => ⟨p, fun z => by subst z; rw [na1] at e; exact nomatch e⟩
    have eA : (s1.heap.push { cls := .type "list", data := .seq ([] : List Value).toArray }).get? a = some { cls := .type "list", data := .seq ([] : List Value).toArray } := by rw [← ha]; exact Heap.get?_push_size _ rfl
    let s1' : Shared := { s1 with heap := s1.heap.push { cls := .type "list", data := .seq ([] : List Value).toArray } }
    have t0' : Step s1 s1' := Step.push
    have t0 : Step s s1' := t1.trans t0'
    have fp0 : Fresh (But P (· = a)) s1'.heap := fun b q => ⟨(fp.le t0.lv) b q, fun z => by subst z; rw [eA] at q; exact nomatch q⟩
    refine args_cons (hf2 R (I.step t0) (F0.step t0) fp0 ea fun rv s2 t2 r2 => args_nil ⟨by have : sizeLine = 2 ^ 24 := rfl; simp; omega, ?_⟩) (he2 env)
    have eA2 := t2.keep a _ trivial (.inl (.type rfl)) eA
    let s3 : Shared := { s2 with heap := s2.heap.push { cls := .type "tuple", data := .seq [rv1, Value.ref a, rv].toArray } }
    have t3 : Step s2 s3 := Step.push
    have eT : s3.heap.get? s2.heap.objs.size = some { cls := .type "tuple", data := .seq [rv1, Value.ref a, rv].toArray } := Heap.get?_push_size _ rfl
    refine unpackItems_tuple (s := s3) (items := [rv1, Value.ref a, rv].toArray) R.handled (isTup_of eT) fun h' hx => ?_
    have t4 : Step s3 { s3 with heap := h' } := .heap (fun b o q => hx b o (Nat.ne_of_lt (Heap.lt_size q)) q) rfl rfl
    have t14 : Step s { s3 with heap := h' } := t0.trans (t2.trans (t3.trans t4))
    have eA4 := (t3.trans t4).keep a _ trivial (.inl (.type rfl)) eA2
    show wpAny _ _ (assignInOrder [bindName env y, bindName env x, bindName env z] [rv, .ref a, rv1]) _ _ _
    unfold assignInOrder
    refine wpAny_bind (wpAny_holding (wpAny_bindName (store_ok (F0.step t14) (FW.step t14) hj.at_ hj.own hz.2.1 hj.kind hj.nd (r2.step ((t3.trans t4).keep.mono fun _ _ => trivial)) fun s5 t5 F5 W5 => ?_)))
    unfold assignInOrder
    have na5 : ¬ W a := fun w => by obtain ⟨o, e⟩ := F.wlt a w; rw [na] at e; exact nomatch e
    refine wpAny_bind (wpAny_holding (wpAny_bindName (store_own F5 W5 hi.at_ hi.own (by rw [List.length_set]; exact hz.1) (.inl hi.kind) hi.nd (fun p => p.2 rfl) (vs := []) (t5.keep a _ na5 (.inl (.type rfl)) eA4) .nil (fun o e => ?_) fun s6 t6 F6 W6 => ?_)))
    · obtain ⟨o', e'⟩ := I.lives _ o e
      rw [na] at e'; exact nomatch e'
    unfold assignInOrder
    have t56 := t5.trans t6
    have r1c := r1'.step ((t0'.trans (t2.trans (t3.trans t4))).keep.mono fun _ _ => trivial)
    refine wpAny_bind (wpAny_holding (wpAny_bindName (store_ok F6 W6 hl.at_ hl.own (by rw [List.length_set, List.length_set]; exact hz.2.2) hl.kind hl.nd (r1c.step (t56.keep.mono fun b p w => F.wp b w p.1)) fun s7 t7 F7 W7 => ?_)))
    unfold assignInOrder
    refine wpAny_pure ?_
    have t57 : StepP (NotW (With W a)) AllG { s3 with heap := h' } s7 := (t56.mono (fun b p q => p (.inl q)) fun _ q => q).trans t7
    have fp7 : Fresh (But P (· = a)) s7.heap := fun b q => by
      refine ⟨fp b ?_, fun z => ?_⟩
      · cases e : s.heap.get? b with
        | none => rfl
        | some o =>
          by_cases w : With W a b
          · obtain ⟨o', e'⟩ := F7.wlt b w; rw [q] at e'; exact nomatch e'
          · obtain ⟨o', e'⟩ := t14.lv b o e; obtain ⟨o'', e''⟩ := t57.live b o' w e'; rw [q] at e''; exact nomatch e''
      · obtain ⟨o', e'⟩ := F7.wlt b (.inr z); rw [q] at e'; exact nomatch e'
    have I7 : Inv B s7 := ((I.step t14).stepW FW t56).stepW W6 t7
    exact hr R I7 F7 W7 fp7 ev fun rv s8 t8 r8 => own_end (s2 := { s3 with heap := h' }) fp na t14 (.refl _ _ _) (t57.trans t8) r8 h
  · exact nomatch ev

/-- x, y = e -/
theorem sim1_assignPair {target value : Expr} {elts : List Expr} {k : Nat} {tp pos : Pos} {f g} (hv : SimE B d cx value f) (ha : SimA B cx (.Tuple elts k tp) g)
    (hs : ∀ env, swapsWithSole [.Tuple elts k tp] value pos.line env = pure false := by intro _; rfl) (hw : ∀ env, swappedStores [.Tuple elts k tp] value env = pure none := by intro _; rfl) :
    Sim1 B d cx (.Assign [.Tuple elts k tp] value pos) fun fr => (f fr).bind fun v => (g v fr).map .next := by
  intro A s env fr P W o Q E R I F FW fp ev h
  obtain ⟨v, e1, ev⟩ := bind_some ev
  obtain ⟨fr', e2, e3⟩ := Option.map_eq_some_iff.mp ev
  subst e3
  refine Assign_Tuple (hv R I F fp e1 fun rv s1 t1 r1 => ?_) (hs env) (hw env)
  exact ha R.handled (F.step t1) (FW.step t1) r1 e2 fun s2 t2 F2 W2 => h _ _ ⟨(Step.any t1).trans t2, rfl, F2, W2⟩
end
end Mine
end

section
open PySem PySem.W PyProof.Rows PySem.Calls
set_option maxRecDepth 100000
namespace Mine

theorem Room.deeper {d : Nat} {A : Around} (r : Room (d + 1) A) (env : Env) : Room d (A.deeper env) :=
  ⟨r.handled, by have := r.depth; show A.depth + 1 + 4 * d < _; omega, by have := r.units; show A.units + 3 + 100 * d < _; omega⟩

theorem bindL_keep {kf : Str → Option NameKind} : ∀ (binds : List (Str × Value)) (m : Str → Option Value) (x : Str), (∀ y ∈ binds, y.1 ≠ x) → bindL kf binds m x = m x
  | [], m, x, _ => rfl
  | (n, v) :: r, m, x, h => by
    unfold bindL
    rw [bindL_keep r _ x fun y hy => h y (.tail _ hy)]
    split
    · have : n ≠ x := h (n, v) (.head _)
      simp only [if_neg (Ne.symm this)]
    · rfl
theorem bindC_keep {kf : Str → Option NameKind} : ∀ (binds : List (Str × Value)) (m : Str → Option Value) (x : Str), (∀ y ∈ binds, y.1 ≠ x) → bindC kf binds m x = m x
  | [], m, x, _ => rfl
  | (n, v) :: r, m, x, h => by
    unfold bindC
    rw [bindC_keep r _ x fun y hy => h y (.tail _ hy)]
    split
    · rfl
    · have : n ≠ x := h (n, v) (.head _)
      simp only [if_neg (Ne.symm this)]
theorem bindL_get {kf : Str → Option NameKind} {x : Str} {v : Value} (hk : kf x = some .local) : ∀ (binds : List (Str × Value)) (m : Str → Option Value), (binds.map (·.1)).Nodup → (x, v) ∈ binds → bindL kf binds m x = some v
  | (n, u) :: r, m, nd, h => by
    rw [List.map_cons, List.nodup_cons] at nd
    unfold bindL
    cases h with
    | head =>
      rw [if_pos hk, bindL_keep r _ x fun y hy z => nd.1 (List.mem_map.mpr ⟨y, hy, z⟩)]
      simp
    | tail _ h => exact bindL_get hk r _ nd.2 h
theorem bindC_get {kf : Str → Option NameKind} {x : Str} {v : Value} (hk : kf x ≠ some .local) : ∀ (binds : List (Str × Value)) (m : Str → Option Value), (binds.map (·.1)).Nodup → (x, v) ∈ binds → bindC kf binds m x = some v
  | (n, u) :: r, m, nd, h => by
    rw [List.map_cons, List.nodup_cons] at nd
    unfold bindC
    cases h with
    | head =>
      rw [if_neg hk, bindC_keep r _ x fun y hy z => nd.1 (List.mem_map.mpr ⟨y, hy, z⟩)]
      simp
    | tail _ h => exact bindC_get hk r _ nd.2 h

theorem zip_get {α β : Type} : ∀ {xs : List α} {ys : List β} {i : Nat} {x : α} {y : β}, xs[i]? = some x → ys[i]? = some y → (x, y) ∈ xs.zip ys
  | a :: xs, b :: ys, 0, x, y, h1, h2 => by cases h1; cases h2; exact .head _
  | a :: xs, b :: ys, i + 1, x, y, h1, h2 => .tail _ (zip_get (i := i) h1 h2)
theorem zip_fst_nodup {α β : Type} : ∀ {xs : List α} {ys : List β}, xs.Nodup → ((xs.zip ys).map (·.1)).Nodup
  | [], _, _ => List.nodup_nil
  | _ :: _, [], _ => List.nodup_nil
  | a :: xs, b :: ys, h => by
    rw [List.nodup_cons] at h
    rw [List.zip_cons_cons, List.map_cons, List.nodup_cons]
    refine ⟨fun q => ?_, zip_fst_nodup h.2⟩
    obtain ⟨p, hp, e⟩ := List.mem_map.mp q
    have e' : p.1 = a := e
    exact h.1 (e' ▸ (List.of_mem_zip (a := p.1) (b := p.2) hp).1)

/-- a function of the module, as the base heap holds it -/
structure FnAt (B : BH) (a : Addr) (fd : FuncData) (body : List Stmt) (ps : List Str) : Prop where
  o : ∃ o, B.hB.get? a = some o ∧ Plain o ∧ o.data = .func fd
  code : ∃ c o vs t, fd.code = .ref c ∧ c ≠ TB ∧ B.hB.get? c = some o ∧ o.data = .fields vs ∧ vs[1]? = some (.str fd.qualname t)
  body : fd.body = .stmts body
  clo : fd.closure = []
  glob : fd.globals = mainGlobals
  blt : fd.builtins = builtinsNs
  kind : fd.scope.kind = .function
  ps : ∀ x ∈ ps, fd.scope.names.lookup x = some .local ∨ fd.scope.names.lookup x = some .cell

theorem FnAt.codeAt {B : BH} {a : Addr} {fd : FuncData} {body : List Stmt} {ps : List Str} (H : FnAt B a fd body ps) {s : Shared} (I : Inv B s) : s.heap.CodeRec fd.code fd.qualname := by
  obtain ⟨c, o, vs, t, e, q, e1, e2, e3⟩ := H.code
  exact ⟨c, o, vs, t, e, I.keep c o trivial (.inr q) e1, e2, e3⟩
theorem FnAt.objAt {B : BH} {a : Addr} {fd : FuncData} {body : List Stmt} {ps : List Str} (H : FnAt B a fd body ps) {s : Shared} (I : Inv B s) : ∃ o, s.heap.get? a = some o ∧ o.data = .func fd := by
  obtain ⟨o, e, p, q⟩ := H.o
  exact ⟨o, I.keep a o trivial (.inl p) e, q⟩

section
variable {B : BH} {d : Nat}
/-- the frame of a call, as it begins -/
theorem frame_new {sc : Scope} {nm : List Str} {own : Option Nat} {cd : Bool} {A : Around} {s s1 : Shared} {env : Env} {P : Addr → Prop} {ps : List Str} {rvs : List Value} {args : List PyData} {k : Nat} {m cm : Str → Option Value}
    (I : Inv B s) (fp : Fresh P s.heap) (r : VRs P s.heap rvs args) (hsc : env.scope = sc) (hkind : sc.kind = .function) (hg : env.globals = mainGlobals) (hb : env.builtins = builtinsNs)
    (x : InCallC s env.locals m env.cells cm s1) (hhas : ∀ x, sc.names.lookup x = some .cell ∨ sc.names.lookup x = some .free → ∃ c, env.cells.lookup x = some c) (hcd : cd = true → env.code = .ref CO ∧ env.qual = lamPre)
    (hps : ∀ x ∈ ps, sc.names.lookup x = some .local ∨ sc.names.lookup x = some .cell) (hns : nm.take ps.length = ps)
    (hown : ∀ i, own = some i → ps.length ≤ i) (hz : rvs.length = ps.length)
    (hl : ∀ (i : Nat) (x : Str) (v : Value), ps[i]? = some x → rvs[i]? = some v → sc.names.lookup x = some .local → m x = some v) (hc : ∀ (i : Nat) (x : Str) (v : Value), ps[i]? = some x → rvs[i]? = some v → sc.names.lookup x = some .cell → cm x = some v) :
    let W : Addr → Prop := fun b => s.heap.get? b = none ∧ ∃ o, s1.heap.get? b = some o
    let P' : Addr → Prop := fun b => P b ∧ ¬ W b
    Step s s1 ∧ FrameOk { ns := nm, sc := sc, own := own, cd := cd } P' W s1.heap env (args.map some ++ List.replicate k none) ∧ FrameW B { ns := nm, sc := sc, own := own, cd := cd } W s1.heap env ∧ Fresh P' s1.heap := by
  intro W P'
  have t : Step s s1 := by
    obtain ⟨h', tk, rfl⟩ := x.toInCall.same
    exact .heap x.toInCall.keep rfl rfl
  have nL : s.heap.get? env.locals = none := by
    cases e : s.heap.get? env.locals with
    | none => rfl
    | some o => exact absurd (Heap.lt_size e) (Nat.not_lt.mpr x.toInCall.fresh)
  have kp : ∀ b o, s.heap.get? b = some o → P b → P' b := fun b o e p => ⟨p, fun w => by have := w.1; rw [e] at this; exact nomatch this⟩
  have newc : ∀ n c, env.cells.lookup n = some c → W c := fun n c q => by
    have ab := x.above n c (mem_of_lookup q)
    refine ⟨?_, ?_⟩
    · cases e : s.heap.get? c with
      | none => rfl
      | some o => exact absurd (Heap.lt_size e) (Nat.not_lt.mpr (Nat.le_trans x.toInCall.fresh (Nat.le_of_lt ab)))
    · obtain ⟨o, e, _⟩ := x.cell n c q; exact ⟨o, e⟩
  refine ⟨t, ⟨hsc, hkind, hg, hb, ⟨_, x.toInCall.ns⟩, ⟨nL, let ⟨o, _, _, e, _⟩ := x.toInCall.ns; ⟨o, e⟩⟩, fun b w p => p.2 w, fun b w => w.2, fun n c q => ⟨_, x.cell n c q⟩, ⟨hhas, hcd⟩, fun i y dd a1 b1 c1 => ?_, fun i y dd a1 b1 c1 => ?_⟩,
    ⟨fun n c _ q => newc n c q, fun n n' c _ q q' => name_of_addr x.apart (mem_of_lookup q) (mem_of_lookup q'), fun b o w e => ?_⟩, fun b q => ⟨(fp.le t.lv) b q, fun w => by obtain ⟨o, e⟩ := w.2; rw [q] at e; exact nomatch e⟩⟩
  · rw [List.getElem?_append] at b1
    split at b1
    · rename_i hi
      rw [List.length_map, ← r.length, hz] at hi
      rw [List.getElem?_map] at b1
      obtain ⟨dd', e1, e2⟩ := Option.map_eq_some_iff.mp b1
      obtain rfl := Option.some.inj e2
      obtain ⟨v, e3, rv⟩ := r.get e1
      have ey : ps[i]? = some y := by
        have a1' : nm[i]? = some y := a1
        rw [← hns, List.getElem?_take, if_pos hi]; exact a1'
      refine ⟨v, ?_, (rv.narrow kp).step (t.keep.mono fun _ _ => trivial)⟩
      rcases hps y (List.mem_of_getElem? ey) with hk | hk
      · exact .inl ⟨by unfold Env.kindOf; rw [hsc]; exact hk, _, x.toInCall.ns, hl i y v ey e3 hk⟩
      · obtain ⟨c, ec⟩ := hhas y (.inl hk)
        refine .inr ⟨.inl (by unfold Env.kindOf; rw [hsc]; exact hk), c, ec, ?_⟩
        have := x.cell y c ec
        rw [hc i y v ey e3 hk] at this
        exact this
    · rw [List.getElem?_replicate] at b1
      split at b1 <;> exact nomatch b1
  · have hge := hown i a1
    rw [List.getElem?_append_right (by rw [List.length_map, ← r.length, hz]; exact hge), List.getElem?_replicate] at c1
    split at c1 <;> exact nomatch c1
  · obtain ⟨o', e'⟩ := I.lives b o e
    rw [w.1] at e'; exact nomatch e'

noncomputable def argF (n : Nat) (dflt : List PyData) (k : Nat) (f : Fm → Option PyData) (args : List PyData) : Option PyData := if args.length = n then f ((args ++ dflt).map some ++ List.replicate k none) else none
/-- a call of a function of the module -/
theorem callOk_func {a : Addr} {fd : FuncData} {body : List Stmt} {nm ps : List Str} {own : Option Nat} {cd : Bool} {n k : Nat} {dvs : List Value} {dds : List PyData} {f : Fm → Option PyData} (H : FnAt B a fd body ps)
    (hb : ∀ (s : Shared) (rvs : List Value), Inv B s → rvs.length = n → BindsTo s fd ⟨rvs, []⟩ (ps.zip (rvs ++ dvs))) (hd : ∀ (P : Addr → Prop) (h : Heap), VRs P h dvs dds) (hn : ps.length = n + dds.length)
    (hnd : ps.Nodup) (hns : nm.take ps.length = ps) (hown : ∀ i, own = some i → ps.length ≤ i) (hco : fd.scope.isCoroutine = false) (hgen : fd.scope.isGenerator = false) (hfree : ∀ y ∈ fd.scope.names, y.2 ≠ .free) (hcd : cd = true → fd.code = .ref CO ∧ fd.qualname ++ ".<locals>." = lamPre)
    (hR : SimR B d { ns := nm, sc := fd.scope, own := own, cd := cd } body f) : CallOk B (d + 1) (.ref a) (argF n dds k f) := by
  intro A s P args rvs dv Q E R I fp r ev h
  unfold argF at ev
  split at ev
  · rename_i hlen
    obtain ⟨o, ho, hdata⟩ := H.objAt I
    have hz : rvs.length = n := r.length.trans hlen
    have hzz : (rvs ++ dvs).length = ps.length := by rw [List.length_append, hz, (hd P s.heap).length, hn]
    have ndz : ((ps.zip (rvs ++ dvs)).map (·.1)).Nodup := zip_fst_nodup hnd
    have cellsH : ∀ x, fd.scope.names.lookup x = some .cell → ((cellsFrom (s.heap.objs.size + 1) fd.scope.names []).lookup x).isSome = true := fun x q => cellsFrom_has _ _ _ x (.inl (PySem.mem_of_lookup q))
    refine wpAny_call (codeAny_call_function (by have := R.depth; omega) ho hdata hco hgen H.body (H.codeAt I) (hb s rvs I hz _ _ _ _ ?_))
    rw [H.clo]
    refine wpAny_newFunctionEnv_cells H.kind (fun y hy => ?_) fun env he s1 x => ?_
    · rcases H.ps y.1 (List.of_mem_zip hy).1 with q | q
      · exact .inl q
      · exact .inr ⟨q, cellsH _ q⟩
    · have hsc : env.scope = fd.scope := by rw [he]; rfl
      have hcs : env.cells = cellsFrom (s.heap.objs.size + 1) fd.scope.names [] := by rw [he]; rfl
      have hgl : env.globals = mainGlobals := by rw [he]; exact H.glob
      have hbl : env.builtins = builtinsNs := by rw [he]; exact H.blt
      have hko : env.kindOf = fun y => fd.scope.names.lookup y := by funext y; unfold Env.kindOf; rw [hsc]
      refine ⟨I.lim.keeps x.toInCall.keep, codeAny_func ?_⟩
      obtain ⟨t, F1, W1, fp1⟩ := frame_new (B := B) (sc := fd.scope) (nm := nm) (own := own) (A := A) (k := k) (ps := ps) I fp (r.append (hd P s.heap)) hsc H.kind hgl hbl x (fun y q => by
        rcases q with q | q
        · rw [hcs]; exact Option.isSome_iff_exists.mp (cellsH y q)
        · exact absurd rfl (hfree _ (PySem.mem_of_lookup q))) (fun q => by rw [he]; exact hcd q) H.ps hns hown hzz
        (fun i y v e1 e2 hk => by rw [hko]; exact bindL_get hk _ _ ndz (zip_get e1 e2))
        (fun i y v e1 e2 hk => by rw [hko]; exact bindC_get (by show fd.scope.names.lookup y ≠ _; rw [hk]; intro q; cases q) _ _ ndz (zip_get e1 e2))
      refine hR (R.deeper env) (I.step t) F1 W1 fp1 ev fun rv s2 t2 r2 => ?_
      refine h _ _ (Step.close t t2 (fun b o e w => by have := w.1; rw [e] at this; exact nomatch this) fun _ _ => trivial) (r2.up fun b p => ?_)
      rcases p with p | w
      · exact p.1
      · exact fp b w.1
  · exact nomatch ev
end
end Mine
end

section
open PySem PySem.W PyProof.Rows PySem.Calls
set_option maxRecDepth 100000
namespace Mine
open PySem (Sem)

section
variable {M : Model} {A : Around} {R : GenEnd} {Y : Protocol} {n : Nat} {s₀ : Shared} {c : Code} {fs : List Frame} {s : Shared} {env : Env}
theorem seg_bw {α β : Type} {m : Sem α} {k : α → Sem β} {K : β → Sem Fin} {H : Value → Sem Fin} {gd : Bool → Bool} {lv : List Value → List Value}
    (h : wpAny M (A.over c fs) m (fun a s' => Seg M A R Y n s₀ c ((k a).wrap K H gd lv) fs s') (fun x s' => Seg M A R Y n s₀ c (H x) fs s') s) : Seg M A R Y n s₀ c ((m >>= k).wrap K H gd lv) fs s := by
  rw [Sem.bind_eq_wrap', Sem.wrap_wrap]
  exact seg_wrap h
/-- without a raise -/
theorem seg_bw' {α β : Type} {m : Sem α} {k : α → Sem β} {K : β → Sem Fin} {H : Value → Sem Fin} {gd : Bool → Bool} {lv : List Value → List Value}
    (h : wpAny M (A.over c fs) m (fun a s' => Seg M A R Y n s₀ c ((k a).wrap K H gd lv) fs s') (fun _ _ => False) s) : Seg M A R Y n s₀ c ((m >>= k).wrap K H gd lv) fs s := seg_bw (wpAny_mono h (fun _ _ q => q) fun _ _ q => q.elim)
theorem seg_w' {α : Type} {m : Sem α} {K : α → Sem Fin} {H : Value → Sem Fin} {gd : Bool → Bool} {lv : List Value → List Value}
    (h : wpAny M (A.over c fs) m (fun a s' => Seg M A R Y n s₀ c (K a) fs s') (fun _ _ => False) s) : Seg M A R Y n s₀ c (m.wrap K H gd lv) fs s := seg_wrap (wpAny_mono h (fun _ _ q => q) fun _ _ q => q.elim)
variable {K : Flow → Sem Fin} {H : Value → Sem Fin} {gd : Bool → Bool} {lv : List Value → List Value}
theorem seg_If {test : Expr} {body orelse : List Stmt} {pos : Pos}
    (h : wpAny M (A.over c fs) (isTrue test env (eval test env)) (fun b s' => Seg M A R Y n s₀ c ((if b = true then execs body env else execs orelse env).wrap K H gd lv) fs s') (fun _ _ => False) s) :
    Seg M A R Y n s₀ c ((exec (.If test body orelse pos) env).wrap K H gd lv) fs s := by
  show Seg _ A R Y n s₀ c ((standAt pos >>= fun _ => (isTrue test env (eval test env) >>= fun b => if b = true then execs body env else execs orelse env)).wrap K H gd lv) fs s
  exact seg_bw' (wpAny_standAt (seg_bw' h))
theorem seg_For {target iter : Expr} {body : List Stmt} {pos : Pos} (hfs : ∀ x, foldedSetIterable iter env x = pure x)
    (h : wpAny M (A.over c fs) (eval iter env) (fun x s1 => wpAny M (A.over c fs) (pyIter x) (fun it s2 => ∀ p, Seg M A R Y n s₀ (.forLoop target it body [] env) (M.den (.forLoop target it body [] env))
      (.ret (fun r => ((match r with | .ok f => (.pure f : Sem Flow) | .error e => .raise e).onRaise fun (x : Value) => do
        if (← field x 1) == Value.none then unsupported "frame.own-activation:exception-without-traceback"
        setFlight x env.frame).wrap K H gd lv) none (gd false) (lv []) c p [] :: fs) s2) (fun _ _ => False) s1) (fun _ _ => False) s) :
    Seg M A R Y n s₀ c ((exec (.For target iter body [] pos) env).wrap K H gd lv) fs s := by
  show Seg _ A R Y n s₀ c ((standAt pos >>= fun _ => (eval iter env >>= fun v => (foldedSetIterable iter env v >>= fun x => (standAt iter.pos >>= fun _ => (holding [x] (pyIter x) >>= fun it => runOwn (.forLoop target it body [] env) env))))).wrap K H gd lv) fs s
  refine seg_bw' (wpAny_standAt (seg_bw' (wpAny_mono h (fun v s1 h1 => ?_) fun _ _ q => q)))
  refine seg_bw' (wpAny_of_eq (hfs v) (seg_bw' (wpAny_standAt (seg_bw' (wpAny_holding (wpAny_mono h1 (fun it s2 h2 => ?_) fun _ _ q => q))))))
  exact seg_call h2
end

section
variable {prog : Program} {w : World} {A : Around} {R : GenEnd} {Y : Protocol} {n : Nat} {s₀ : Shared} {fs : List Frame} {s : Shared} {env : Env} {k : Result → Sem Fin} {hh : Option Value} {g : Bool} {l : List Value} {c₁ : Code} {p₁ : Pos} {kp : List Value}
noncomputable def loopK (target : Expr) (it : Value) (body : List Stmt) (env : Env) (f : Flow) : Sem Fin := match f with
  | .next | .cont => .pure (.again (.forLoop target it body [] env))
  | .brk => .pure (.done .next)
  | .ret v => .pure (.done (.ret v))
noncomputable def loopH (env : Env) (e : Value) : Sem Fin := (do noteFrame e env; theTreesLotGoes e : Sem Unit).wrap (fun _ => .raise e) .raise id id
theorem seg_forLoop {target : Expr} {it : Value} {body : List Stmt}
    (h : wpAny (model prog w) (A.over (.forLoop target it body [] env) (.ret k hh g l c₁ p₁ kp :: fs)) (pyNext it) (fun r s' => match r with
        | none => Seg (model prog w) A R Y n s₀ c₁ (k (.ok .next)) fs s'
        | some v => wpAny (model prog w) (A.over (.forLoop target it body [] env) (.ret k hh g l c₁ p₁ kp :: fs)) (letOwnedTupleGo target it v) (fun _ s2 =>
            wpAny (model prog w) (A.over (.forLoop target it body [] env) (.ret k hh g l c₁ p₁ kp :: fs)) (assign target env v) (fun _ s3 =>
              Seg (model prog w) A R Y n s₀ (.forLoop target it body [] env) ((execs body env).wrap (loopK target it body env) (loopH env) id id) (.ret k hh g l c₁ p₁ kp :: fs) s3) (fun _ _ => False) s2) (fun _ _ => False) s') (fun _ _ => False) s) :
    Seg (model prog w) A R Y n s₀ (.forLoop target it body [] env) ((model prog w).den (.forLoop target it body [] env)) (.ret k hh g l c₁ p₁ kp :: fs) s := by
  show Seg _ A R Y n s₀ _ ((forTurn target it body [] env).onRaise (fun x => do noteFrame x env; theTreesLotGoes x)) _ s
  rw [Sem.onRaise_eq_wrap]
  unfold forTurn
  refine seg_bw' (wpAny_standAt (seg_bw' (wpAny_onRaise (wpAny_mono h (fun r s1 h1 => ?_) fun _ _ q => q.elim))))
  cases r with
  | none =>
    show Seg _ A R Y n s₀ _ (.pure (.again (.block [] env))) _ s1
    refine seg_again rfl ?_
    show Seg _ A R Y n s₀ _ (leafOf (.ok .next)) _ s1
    exact seg_leaf _ h1
  | some v =>
    refine seg_bw' (wpAny_mono h1 (fun _ s2 h2 => ?_) fun _ _ q => q)
    refine seg_bw' (wpAny_mono h2 (fun _ s3 h3 => ?_) fun _ _ q => q)
    rw [Sem.bind_eq_wrap', Sem.wrap_wrap]
    rw [Sem.wrap_congr (execs body env) (K' := loopK target it body env) (H' := loopH env) _ _ (fun f => by cases f <;> rfl) (fun e => by
      show (do noteFrame e env; theTreesLotGoes e : Sem Unit).bind (fun _ => .raise e) = _
      rw [Sem.bind_eq_wrap]; rfl)]
    exact h3
end
end Mine
end

section
open PySem PySem.W PyProof.Rows PySem.Calls
set_option maxRecDepth 100000
namespace Mine

noncomputable def fnBody (i : Nat) : List Stmt := match pg.main.body[i]? with
  | some (.FunctionDef _ _ body _ _ _ _ _ _ _) => body
  | _ => []
noncomputable def fnScope (i : Nat) : Scope := match pg.main.body[i]? with
  | some (.FunctionDef _ _ _ _ _ _ sc _ _ _) => sc
  | _ => default

noncomputable def flat : PyData → Bool
  | .int _ | .str _ | .bool _ | .none => true
  | _ => false
theorem VR.flat {P P' : Addr → Prop} {h h' : Heap} {v : Value} {d : PyData} (r : VR P h v d) (f : flat d = true) : VR P' h' v d := by
  cases r with
  | none => exact .none
  | bool b => exact .bool b
  | int i t => exact .int i t
  | str x t => exact .str x t
  | list => cases f
  | tuple => cases f
  | fn => cases f
noncomputable abbrev NoP : Addr → Prop := fun _ => False
theorem FrameOk.flat {cx : Cx} {P W : Addr → Prop} {h : Heap} {env : Env} {fr : Fm} (F : FrameOk cx P W h env fr) (ho : cx.own = none) (hf : ∀ (i : Nat) d, fr[i]? = some (some d) → flat d = true) : FrameOk cx NoP W h env fr :=
  ⟨F.sc, F.kind, F.glob, F.blt, F.ns, F.wl, fun _ _ p => p, F.wlt, F.cl, F.has, fun i x d a b c => let ⟨rv, r, v⟩ := F.slot i x d a b c; ⟨rv, r, v.flat (hf i d b)⟩, fun i x d a => by rw [ho] at a; exact nomatch a⟩
theorem FrameOk.fits {cx : Cx} {P W : Addr → Prop} {h : Heap} {env : Env} {fr : Fm} (F : FrameOk cx NoP W h env fr) (wp : ∀ b, W b → ¬ P b) : FrameOk cx P W h env fr := F.narrow (fun _ _ _ p => p.elim) wp
/-- a frame of its locals alone stands where they stand -/
theorem FrameOk.at_ {cx : Cx} {L : Addr} {h h' : Heap} {env : Env} {fr : Fm} (F : FrameOk cx NoP (· = L) h env fr) (ho : cx.own = none) (hL : env.locals = L) (hc : env.cells = []) (hk : ∀ o, Plain o → h.get? L = some o → h'.get? L = some o) : FrameOk cx NoP (· = L) h' env fr := by
  subst hL
  obtain ⟨m, nL⟩ := F.ns
  have nL' : h'.Ns env.locals m := Heap.Ns.kept nL fun o e p => hk o p e
  refine ⟨F.sc, F.kind, F.glob, F.blt, ⟨m, nL'⟩, F.wl, fun _ _ p => p, fun b w => by subst w; obtain ⟨o, _, _, e, _⟩ := nL'; exact ⟨o, e⟩, fun x c q => (by rw [hc] at q; cases q), F.has, fun i x d a b c => ?_, fun i x d a => by rw [ho] at a; exact nomatch a⟩
  obtain ⟨rv, r, v⟩ := F.slot i x d a b c
  refine ⟨rv, ?_, v.move fun b o p _ => p.elim⟩
  rcases r with ⟨k, m1, n1, q⟩ | ⟨k, c, e1, e2⟩
  · exact .inl ⟨k, m1, Heap.Ns.kept n1 fun o e p => hk o p e, q⟩
  · rw [hc] at e1; cases e1

/-! what an iteration over the escaped signs hands out -/
noncomputable def bsl : Str := Str.ofString "\\"
noncomputable def escL : Bool → Int → Nat → List Nat → List (Int × Str)
  | true, p, _, [] => [(p, bsl)]
  | false, _, _, [] => []
  | true, _, i, c :: cs => (i, bsl ++ ⟨#[c]⟩) :: escL false i (i + 1) cs
  | false, _, i, c :: cs => if (⟨#[c]⟩ : Str) == bsl then escL true i (i + 1) cs else (i, ⟨#[c]⟩) :: escL false i (i + 1) cs
noncomputable def escD (q : Int × Str) : PyData := .tuple [.int q.1, .str q.2]

noncomputable def gCx : Cx := { ns := [Str.ofString "addr", Str.ofString "pos", Str.ofString "escape", Str.ofString "ch"], sc := fnScope 6, own := none }
theorem gSlot1 : Slot1 gCx 1 (Str.ofString "pos") := ⟨rfl, by decide, .inl (by decide +kernel), nodupB_ok (by decide +kernel)⟩
theorem gSlot2 : Slot1 gCx 2 (Str.ofString "escape") := ⟨rfl, by decide, .inl (by decide +kernel), nodupB_ok (by decide +kernel)⟩
theorem gSlot3 : Slot1 gCx 3 (Str.ofString "ch") := ⟨rfl, by decide, .inl (by decide +kernel), nodupB_ok (by decide +kernel)⟩
theorem gVar {B : BH} {d : Nat} {i : Nat} {x : Str} {pos : Pos} (hi : gCx.ns[i]? = some x) (hc : (x == Str.ofString "__classdict__") = false) (hd : (x == ("__debug__" : Str)) = false) : SimE B d gCx (.Name x pos) (getV i) := simE_var i hi (by intro q; cases q) hc hd

/-- where a generator runs: its object, its locals, the heap when it was made -/
structure GC (B : BH) (A : Around) (hC : Heap) (G L : Addr) (g : Nat) (env : Env) : Prop where
  loc : env.locals = L
  cells : env.cells = []
  gl : G ≠ L
  lvL : ∃ o, hC.get? L = some o
  lvG : ∃ o, hC.get? G = some o
  nb : ∀ o, B.hB.get? L = some o → False
  nbG : ∀ o, B.hB.get? G = some o → False
  base : ∀ b o, B.hB.get? b = some o → ∃ o', hC.get? b = some o'
  room : Room 3 A
  enum : glob B (Str.ofString "enumerate") = some (.type "enumerate")
noncomputable abbrev GX (_G L : Addr) : Addr → Prop := fun b => b = L
structure EvG (hC : Heap) (G L : Addr) (s₀ s : Shared) : Prop where
  step : StepP (NX (GX G L) hC s₀.heap) AllG s₀ s
  al : AliveC hC s.heap
noncomputable abbrev KeepG (hC : Heap) (G L : Addr) : Addr → Prop := fun b => b = G ∨ b = L ∨ hC.get? b = none
theorem EvG.refl {hC : Heap} (G L : Addr) {s : Shared} (al : AliveC hC s.heap) : EvG hC G L s s := ⟨.refl _ _ _, al⟩
theorem EvG.go {hC : Heap} {G L : Addr} {s₀ s s' : Shared} {N : Addr → Prop} {X : Nat → Prop} (e : EvG hC G L s₀ s) (t : StepP N X s s') (al : AliveC hC s'.heap) (hN : ∀ b o, s₀.heap.get? b = some o → NX (GX G L) hC s₀.heap b → N b) (hG : ∀ g, g < s₀.gens.size → X g) : EvG hC G L s₀ s' :=
  ⟨⟨fun b o p q r => t.keep b o (hN b o r p) q (e.step.keep b o p q r), fun b o p r => let ⟨o', e'⟩ := e.step.live b o p r; t.live b o' (hN b o r p) e', fun x => t.tab (e.step.tab x),
    fun g x p r => t.gens g x (hG g (Array.getElem?_eq_some_iff.mp r).1) (e.step.gens g x p r), Nat.le_trans e.step.gsize t.gsize, fun x => t.bare (e.step.bare x), t.os.trans e.step.os⟩, al⟩
theorem EvG.goS {hC : Heap} {G L : Addr} {s₀ s s' : Shared} (e : EvG hC G L s₀ s) (t : Step s s') : EvG hC G L s₀ s' := e.go t (fun b o r => let ⟨o', e'⟩ := e.al b o r; t.lv b o' e') (fun _ _ _ _ => trivial) fun _ _ => trivial
/-- the generator's locals written -/
theorem EvG.goL {hC : Heap} {G L : Addr} {s₀ s s' : Shared} (e : EvG hC G L s₀ s) (t : StepP (NotW (· = L)) AllG s s') (hl : ∃ o, s'.heap.get? L = some o) : EvG hC G L s₀ s' :=
  e.go t (fun b o r => by
    obtain ⟨o', e'⟩ := e.al b o r
    by_cases z : b = L
    · subst z; exact hl
    · exact t.live b o' z e') (fun b o _ n z => n.1 z) fun _ _ => trivial

section
variable {B : BH} {A : Around} {hC : Heap} {G L : Addr} {g : Nat} {env : Env} {full : List (Int × Str)}
noncomputable def gR (hC : Heap) (G L : Addr) : GenEnd := fun n s₀ r s₁ => r = .ok (.ret .none) ∧ (n = 0 ∧ EvG hC G L s₀ s₁)
noncomputable def gY (B : BH) (hC : Heap) (G L : Addr) (full : List (Int × Str)) : Protocol := fun n s₀ v s kap =>
  ∃ q, full[full.length - 1 - n]? = some q ∧ VR (fun b => hC.get? b = none) s.heap v (escD q) ∧ EvG hC G L s₀ s ∧ ∀ s'', StepP (KeepG hC G L) AllG s s'' → AliveC hC s''.heap → Inv B s'' → kap (.send .none) s''

/-- what a generator has under its hands -/
structure GA (B : BH) (hC : Heap) (G L : Addr) (env : Env) (fr : Fm) (s₀ s : Shared) : Prop where
  inv : Inv B s
  ev : EvG hC G L s₀ s
  frame : FrameOk gCx NoP (· = L) s.heap env fr
theorem GA.frameW {fr : Fm} {s₀ s : Shared} (C : GC B A hC G L g env) (a : GA B hC G L env fr s₀ s) : FrameW B gCx (· = L) s.heap env :=
  ⟨fun x c _ q => (by rw [C.cells] at q; cases q), fun x y c _ q => (by rw [C.cells] at q; cases q), fun b o w e => by subst w; exact C.nb o e⟩
noncomputable abbrev GP (hC : Heap) : Addr → Prop := fun b => hC.get? b = none
theorem GA.fresh {fr : Fm} {s₀ s : Shared} (a : GA B hC G L env fr s₀ s) : Fresh (GP hC) s.heap := fun b q => by
  cases e : hC.get? b with
  | none => exact e
  | some o => obtain ⟨o', e'⟩ := a.ev.al b o e; rw [q] at e'; exact nomatch e'
theorem GA.frameP {fr : Fm} {s₀ s : Shared} (C : GC B A hC G L g env) (a : GA B hC G L env fr s₀ s) : FrameOk gCx (GP hC) (· = L) s.heap env fr :=
  a.frame.fits fun b w p => by
    subst w
    obtain ⟨o, e⟩ := C.lvL
    rw [show hC.get? b = none from p] at e; exact nomatch e
theorem GA.goS {fr : Fm} {s₀ s s' : Shared} (a : GA B hC G L env fr s₀ s) (t : Step s s') : GA B hC G L env fr s₀ s' := ⟨a.inv.step t, a.ev.goS t, a.frame.step t⟩
/-- the frame stored anew -/
theorem GA.goL {fr fr' : Fm} {s₀ s s' : Shared} (C : GC B A hC G L g env) (a : GA B hC G L env fr s₀ s) (t : StepP (NotW (· = L)) AllG s s') (F : FrameOk gCx (GP hC) (· = L) s'.heap env fr') (hf : ∀ (i : Nat) d, fr'[i]? = some (some d) → flat d = true) : GA B hC G L env fr' s₀ s' :=
  ⟨a.inv.stepP t fun b o e z => by subst z; exact C.nb o e, a.ev.goL t (F.wlt L rfl), F.flat rfl hf⟩

/-- a plain statement of the generator's body -/
theorem seg_st {st : Stmt} {f : Fm → Option Out} {c : Code} {fs : List Frame} {n : Nat} {s₀ s : Shared} {fr fr' : Fm} {K : Flow → Sem Fin} {H : Value → Sem Fin} {gd : Bool → Bool} {lv : List Value → List Value} {R : GenEnd} {Y : Protocol} {A' : Around} (C : GC B A hC G L g env)
    (h1 : Sim1 B 2 gCx st f) (R' : Room 2 (A'.over c fs)) (a : GA B hC G L env fr s₀ s) (ev : f fr = some (.next fr')) (hf : ∀ (i : Nat) d, fr'[i]? = some (some d) → flat d = true)
    (h : ∀ s', StepP (NotW (· = L)) AllG s s' → GA B hC G L env fr' s₀ s' → Seg (MM B.w) A' R Y n s₀ c (K .next) fs s') : Seg (MM B.w) A' R Y n s₀ c ((exec st env).wrap K H gd lv) fs s := by
  refine seg_w' (h1 R' a.inv (a.frameP C) (a.frameW C) a.fresh ev fun fl s' p => ?_)
  obtain ⟨t, rfl, F, _⟩ := p
  exact h s' t (a.goL C t F hf)

theorem Room.ovF {d : Nat} {A : Around} (r : Room (d + 1) A) (body : List Stmt) (env : Env) : Room d (A.in1.over (.func body env) []) :=
  ⟨r.handled, by have := r.depth; show A.depth + 0 + 1 + 4 * d < _; omega, by have := r.units; show A.units + 1 + 0 + 3 + 100 * d < _; omega⟩
theorem Room.ovL {d : Nat} {A : Around} (r : Room (d + 1) A) (body : List Stmt) (env : Env) (target : Expr) (it : Value) (lb : List Stmt) (k : Result → Sem Fin) (p : Pos) (gd : Bool) (l kp : List Value) : Room d (A.in1.over (.forLoop target it lb [] env) [.ret k none gd l (.func body env) p kp]) :=
  ⟨r.handled, by have := r.depth; show A.depth + (1 + 0) + 0 + 4 * d < _; omega, by have := r.units; show A.units + 1 + (3 + 0) + 0 + 100 * d < _; omega⟩
end
end Mine
end

section
open PySem PySem.W PyProof.Rows PySem.Calls
set_option maxRecDepth 100000
namespace Mine

section
variable {B : BH} {A : Around} {hC : Heap} {G L : Addr} {g : Nat} {env : Env} {full : List (Int × Str)}
noncomputable def gFr (x : Str) (p : Int) (e : Bool) (c : Option PyData) : Fm := [some (.str x), some (.int p), some (.bool e), c]
theorem gFr_flat {x : Str} {p : Int} {e : Bool} {c : Option PyData} (hc : ∀ d, c = some d → flat d = true) : ∀ (i : Nat) d, (gFr x p e c)[i]? = some (some d) → flat d = true
  | 0, d, q => by cases q; rfl
  | 1, d, q => by cases q; rfl
  | 2, d, q => by cases q; rfl
  | 3, d, q => by
    have : some c = some (some d) := q
    exact hc d (Option.some.inj this)
  | n + 4, d, q => by cases q

theorem GA.resume {fr : Fm} {s₀ s s'' : Shared} (C : GC B A hC G L g env) (a : GA B hC G L env fr s₀ s) (t : StepP (KeepG hC G L) AllG s s'') (al : AliveC hC s''.heap) (I : Inv B s'') : GA B hC G L env fr s'' s'' :=
  ⟨I, .refl _ _ al, a.frame.at_ rfl C.loc C.cells fun o p e => t.keep L o (.inr (.inl rfl)) (.inl p) e⟩

theorem gen_yield {e : Expr} {ypos pos : Pos} {f : Fm → Option PyData} {c : Code} {fs : List Frame} {n : Nat} {s₀ s : Shared} {fr : Fm} {K : Flow → Sem Fin} {H : Value → Sem Fin} {gd : Bool → Bool} {lv : List Value → List Value} {A' : Around} {q : Int × Str} (C : GC B A hC G L g env)
    (he : SimE B 2 gCx e f) (R' : Room 2 (A'.over c fs)) (a : GA B hC G L env fr s₀ s) (ev : f fr = some (escD q)) (hq : full[full.length - 1 - n]? = some q) (hfs : splitAtGen fs = none) (hfg : fs.any Frame.guarded = false) (hgd : gd false = false)
    (h : ∀ s' s'', Step s s' → StepP (KeepG hC G L) AllG s' s'' → GA B hC G L env fr s'' s'' → Seg (MM B.w) A' (gR hC G L) (gY B hC G L full) n s'' c (K .next) fs s'') :
    Seg (MM B.w) A' (gR hC G L) (gY B hC G L full) (n + 1) s₀ c ((exec (.Expr (.Yield (some e) ypos) pos) env).wrap K H gd lv) fs s := by
  have hsc := a.frame.sc
  refine seg_Expr_Yield hfs hgd hfg (wpAny_mono (he R' a.inv (a.frameP C) a.fresh ev (E := fun _ _ => False) fun rv s' t r => ?_) (fun v s' q => q) fun _ _ q => q.elim) (by rw [hsc]; rfl) (by unfold interactive; rw [hsc]; rfl)
  exact fun kap hk => ⟨q, hq, r, (a.goS t).ev, fun s'' t'' lv'' I'' => hk .none s'' (h s' s'' t t'' ((a.goS t).resume C t'' lv'' I''))⟩

theorem bsl_len : bsl.length = 1 := by decide +kernel
/-- where the loop stands: the enumeration and the signs under it -/
structure GE (hC : Heap) (L E S : Addr) (x : Str) (t0 : Tok) (i : Nat) (s₀ s : Shared) : Prop where
  enum : ∃ old, IsEnum s.heap E S i old
  iter : s.heap.IsStrIter S (strIterType x) x t0 i
  es : E ≠ S
  el : E ≠ L
  sl : S ≠ L
  ec : hC.get? E = none
  sc : hC.get? S = none
  e0 : ∀ o, s₀.heap.get? E = some o → iterCls o
  s0 : ∀ o, s₀.heap.get? S = some o → iterCls o
theorem GE.go {E S : Addr} {x : Str} {t0 : Tok} {i : Nat} {s₀ s s' : Shared} {N : Addr → Prop} {X : Nat → Prop} (a : GE hC L E S x t0 i s₀ s) (t : StepP N X s s') (hE : N E) (hS : N S) : GE hC L E S x t0 i s₀ s' :=
  let ⟨old, e⟩ := a.enum
  ⟨⟨old, t.keep E _ hE (.inl (.type rfl)) e⟩, IsStrIter.kept a.iter fun o e p => t.keep S o hS (.inl p) e, a.es, a.el, a.sl, a.ec, a.sc, a.e0, a.s0⟩
theorem cls_str {h : Heap} {a : Addr} {x : Str} {t : Tok} {i : Nat} (y : h.IsStrIter a (strIterType x) x t i) {o : Obj} (e : h.get? a = some o) : iterCls o := by
  obtain ⟨o', e', c, dd⟩ := y
  rw [e] at e'; obtain rfl := Option.some.inj e'
  refine ⟨?_, _, dd, fun q t z => by simp at z⟩
  rcases ty_cases x with q | q
  · rw [q] at c; exact .inr (.inl c)
  · rw [q] at c; exact .inr (.inr c)
theorem GE.resume {E S : Addr} {x : Str} {t0 : Tok} {i : Nat} {s₀ s s'' : Shared} (a : GE hC L E S x t0 i s₀ s) (t : StepP (KeepG hC G L) AllG s s'') : GE hC L E S x t0 i s'' s'' := by
  have b := a.go t (.inr (.inr a.ec)) (.inr (.inr a.sc))
  obtain ⟨old, e⟩ := b.enum
  exact ⟨b.enum, b.iter, a.es, a.el, a.sl, a.ec, a.sc, fun o q => by rw [e] at q; obtain rfl := Option.some.inj q; exact ⟨.inl rfl, _, rfl, fun q t z => by simp at z⟩, fun o q => cls_str b.iter q⟩

theorem drop_len {α : Type} {l pre r : List α} (h : l = pre ++ r) {q : α} {r' : List α} (hr : r = q :: r') : l[l.length - 1 - r'.length]? = some q ∧ l = (pre ++ [q]) ++ r' := by
  subst hr
  subst h
  refine ⟨?_, by simp⟩
  have : (pre ++ q :: r').length - 1 - r'.length = pre.length := by simp
  rw [this]
  simp

theorem esc_t1 {fr : Fm} {i : Int} {c : Nat} (h1 : getV 1 fr = some (.int i)) (h3 : getV 3 fr = some (.str ⟨#[c]⟩)) :
    ((consF (getV 1) (consF (binF .Add (fun _ => some (.str (Str.ofString "\\"))) (getV 3)) fun _ => some [])) fr).bind (fun ds => if ds.length ≤ 1000 then some (PyData.tuple ds) else none) = some (escD (i, bsl ++ ⟨#[c]⟩)) := by
  have hl : (Str.ofString "\\").length + (⟨#[c]⟩ : Str).length ≤ 100000 := by
    have : (Str.ofString "\\").length = 1 := bsl_len
    rw [this]; show 1 + 1 ≤ 100000; decide
  have hb : binF .Add (fun _ => some (.str (Str.ofString "\\"))) (getV 3) fr = some (.str (bsl ++ ⟨#[c]⟩)) := by
    unfold binF
    rw [h3]
    show binV .Add (.str (Str.ofString "\\")) (.str ⟨#[c]⟩) = _
    unfold binV
    simp only [hl, if_true]
    rfl
  unfold consF
  rw [h1, hb]
  rfl
theorem esc_t2 {fr : Fm} {i : Int} {x : Str} (h1 : getV 1 fr = some (.int i)) (h3 : getV 3 fr = some (.str x)) :
    ((consF (getV 1) (consF (getV 3) fun _ => some [])) fr).bind (fun ds => if ds.length ≤ 1000 then some (PyData.tuple ds) else none) = some (escD (i, x)) := by
  unfold consF
  rw [h1, h3]
  rfl
theorem esc_t3 {fr : Fm} {i : Int} (h1 : getV 1 fr = some (.int i)) :
    ((consF (getV 1) (consF (fun _ => some (.str (Str.ofString "\\"))) fun _ => some [])) fr).bind (fun ds => if ds.length ≤ 1000 then some (PyData.tuple ds) else none) = some (escD (i, bsl)) := by
  unfold consF
  rw [h1]
  rfl
end
end Mine
end

section
open PySem PySem.W PyProof.Rows PySem.Calls
set_option maxRecDepth 100000
namespace Mine

section
variable {B : BH} {A : Around} {hC : Heap} {G L : Addr} {g : Nat} {env : Env} {full : List (Int × Str)}
noncomputable def gFor : Stmt := (fnBody 6).getD 2 default
noncomputable def forBody : Stmt → List Stmt
  | .For _ _ body _ _ => body
  | _ => []
noncomputable def forTarget : Stmt → Expr
  | .For t _ _ _ _ => t
  | _ => default
/-- a change of the iterators alone -/
theorem GA.goI {E S : Addr} {x : Str} {t0 : Tok} {i : Nat} {fr : Fm} {s₀ s s' : Shared} (C : GC B A hC G L g env) (a : GA B hC G L env fr s₀ s) (ga : GE hC L E S x t0 i s₀ s) (t : StepP (NotW (Two E S)) AllG s s') : GA B hC G L env fr s₀ s' := by
  have nh : ∀ b o, hC.get? b = some o → ¬ Two E S b := fun b o e w => by
    rcases w with rfl | rfl
    · rw [ga.ec] at e; exact nomatch e
    · rw [ga.sc] at e; exact nomatch e
  refine ⟨a.inv.stepP t fun b o q w => let ⟨o', e'⟩ := C.base b o q; nh b o' e' w, a.ev.go t (fun b o e => let ⟨o', e'⟩ := a.ev.al b o e; t.live b o' (nh b o e) e') (fun b o r nx w => ?_) fun _ _ => trivial,
    a.frame.at_ rfl C.loc C.cells fun o pl e' => t.keep L o (fun w => w.elim (fun z => ga.el z.symm) fun z => ga.sl z.symm) (.inl pl) e'⟩
  rcases nx.2 with ⟨o', e'⟩ | nx
  · exact nh b o' e' w
  · rcases w with rfl | rfl
    · exact nx o r (ga.e0 o r)
    · exact nx o r (ga.s0 o r)

theorem gv0 {d : Nat} {pos : Pos} : SimE B d gCx (.Name (Str.ofString "addr") pos) (getV 0) := gVar rfl (by decide +kernel) (by decide +kernel)
theorem gv1 {d : Nat} {pos : Pos} : SimE B d gCx (.Name (Str.ofString "pos") pos) (getV 1) := gVar rfl (by decide +kernel) (by decide +kernel)
theorem gv2 {d : Nat} {pos : Pos} : SimE B d gCx (.Name (Str.ofString "escape") pos) (getV 2) := gVar rfl (by decide +kernel) (by decide +kernel)
theorem gv3 {d : Nat} {pos : Pos} : SimE B d gCx (.Name (Str.ofString "ch") pos) (getV 3) := gVar rfl (by decide +kernel) (by decide +kernel)
theorem gt2 {d : Nat} {pos : Pos} : SimT B d gCx (.Name (Str.ofString "escape") pos) fun fr => (getV 2 fr).bind fun v => match v with | .bool b => some b | _ => none := simT_val gv2
theorem gt3 {d : Nat} {p1 p2 pos : Pos} {k : Nat} (hd : 0 < d) : SimT B d gCx (.Compare (.Name (Str.ofString "ch") p1) [.Eq] [.Constant (.str (Str.ofString "\\")) k p2] pos) (cmpF .Eq (getV 3) fun _ => some (.str (Str.ofString "\\"))) := simT_cmp gv3 simE_str hd rfl

theorem gen_loop {x : Str} {E S : Addr} {t0 : Tok} {k : Result → Sem Fin} {gd : Bool} {l kp : List Value} {p1 : Pos} {fb : List Stmt} (C : GC B A hC G L g env)
    (hg : Frame.guarded (.ret k none gd l (.func fb env) p1 kp) = false)
    (hk : ∀ (s₀ s : Shared) (e : Bool) (p : Int) (ch : Option PyData) (pre : List (Int × Str)) (i : Nat), GA B hC G L env (gFr x p e ch) s₀ s → (∀ d, ch = some d → flat d = true) → full = pre ++ escL e p i [] → Seg (MM B.w) A.in1 (gR hC G L) (gY B hC G L full) (escL e p i []).length s₀ (.func fb env) (k (.ok .next)) [] s) :
    ∀ (cs : List Nat) (i : Nat) (s₀ s : Shared) (e : Bool) (p : Int) (ch : Option PyData) (pre : List (Int × Str)), x.cps.toList.drop i = cs → i ≤ x.cps.size → GA B hC G L env (gFr x p e ch) s₀ s → (∀ d, ch = some d → flat d = true) → GE hC L E S x t0 i s₀ s → full = pre ++ escL e p i cs →
      Seg (MM B.w) A.in1 (gR hC G L) (gY B hC G L full) (escL e p i cs).length s₀ (.forLoop (forTarget gFor) (.ref E) (forBody gFor) [] env) ((MM B.w).den (.forLoop (forTarget gFor) (.ref E) (forBody gFor) [] env)) [.ret k none gd l (.func fb env) p1 kp] s := by
  have R' : Room 2 (A.in1.over (.forLoop (forTarget gFor) (.ref E) (forBody gFor) [] env) [.ret k none gd l (.func fb env) p1 kp]) := C.room.ovL fb env _ _ _ k p1 gd l kp
  have hfs : splitAtGen [Frame.ret k none gd l (.func fb env) p1 kp] = none := rfl
  have hfg : [Frame.ret k none gd l (.func fb env) p1 kp].any Frame.guarded = false := by rw [List.any_cons, hg]; rfl
  generalize hAA : A.in1.over (.forLoop (forTarget gFor) (.ref E) (forBody gFor) [] env) [.ret k none gd l (.func fb env) p1 kp] = AA at R'
  intro cs
  induction cs with
  | nil =>
    intro i s₀ s e p ch pre hd hi a hch ga hf
    obtain ⟨old, hE⟩ := ga.enum
    have hn : i = x.cps.size := by
      have := List.drop_eq_nil_iff.mp hd
      simp only [Array.length_toList] at this
      omega
    subst hn
    refine seg_forLoop ?_
    rw [hAA]
    refine wpAny_pyNext_enum_endD (draws_str (A := AA.in1) R'.handled S x t0) hE ga.iter fun h' hx => ?_
    have t : StepP (NotW (Two E S)) AllG s { s with heap := h' } := step_but (s' := { s with heap := h' }) (fun b o z q => hx b o (fun y => z (.inr y)) q) (fun b o z q => by
      rcases z with rfl | rfl
      · rw [hE] at q; obtain rfl := Option.some.inj q; exact noRec_enum rfl
      · exact noRec_strIter (ty_cases _) ga.iter q) rfl rfl
    exact hk s₀ { s with heap := h' } e p ch pre x.cps.size (a.goI C ga t) hch hf
  | cons c cs ih =>
    intro i s₀ s e p ch pre hd hi a hch ga hf
    obtain ⟨old, hE⟩ := ga.enum
    have hci : x.cps.toList[i]? = some c := by
      have := congrArg (·[0]?) hd
      simpa using this
    have hlt : i < x.cps.size := by
      obtain ⟨q, _⟩ := List.getElem?_eq_some_iff.mp hci
      simpa using q
    have hd' : x.cps.toList.drop (i + 1) = cs := by rw [← List.drop_drop, hd]; rfl
    refine seg_forLoop ?_
    rw [hAA]
    refine wpAny_pyNext_enum_itemD (draws_str (A := AA.in1) R'.handled S x t0) hE ga.iter hlt ga.es (by simpa using ga.es) fun y h1 tk hy hE' hI' ht hz hk' => ?_
    obtain ⟨c', u, ec, rfl⟩ := hy
    have : c' = c := by
      rw [Array.getElem?_toList, ec] at hci
      exact Option.some.inj hci
    subst this
    refine wpAny_letOwnedTupleGo_enum hE' fun h2 hE'' hs => ?_
    have hs' : Heap.SameBut E h1 h2 := hs
    have e1 : E ≠ s.heap.objs.size := Nat.ne_of_lt (Heap.lt_size hE)
    have kk : ∀ b o, b ≠ E → b ≠ S → s.heap.get? b = some o → h2.get? b = some o := fun b o z1 z2 q => (hs'.2 b z1).trans (hk' b o z1 z2 q)
    have ht2 := (hs'.2 _ (Ne.symm e1)).trans ht
    have hI2' : h2.IsStrIter S (strIterType x) x t0 (i + 1) := IsStrIter.kept hI' fun o q _ => (hs'.2 S (Ne.symm ga.es)).trans q
    let s2 : Shared := { s with heap := h2, toks := tk + 1 }
    have t2 : StepP (NotW (Two E S)) AllG s s2 := step_but (s' := s2) (fun b o x q => kk b o (fun z => x (.inl z)) (fun z => x (.inr z)) q) (fun b o x q => by
      rcases x with rfl | rfl
      · rw [hE] at q; obtain rfl := Option.some.inj q; exact noRec_enum rfl
      · exact noRec_strIter (ty_cases _) ga.iter q) rfl rfl
    have a2 := a.goI C ga t2
    have ga2 : GE hC L E S x t0 (i + 1) s₀ s2 := ⟨⟨_, by exact hE''⟩, hI2', ga.es, ga.el, ga.sl, ga.ec, ga.sc, ga.e0, ga.s0⟩
    have rT : VR (GP hC) h2 (.ref s.heap.objs.size) (.tuple [.int i, .str ⟨#[c']⟩]) := VR.tuple (vs := [.int i tk, .str ⟨#[c']⟩ u]) (a.fresh _ (get_size _)) ht2 (.cons (.int _ _) (.cons (.str _ _) .nil))
    refine simA_pair (B := B) gSlot1 gSlot3 R'.handled (a2.frameP C) (a2.frameW C) rT (fr' := gFr x i e (some (.str ⟨#[c']⟩))) rfl fun s3 t3 F3 W3 => ?_
    have a3 := a2.goL C t3 F3 (gFr_flat fun d q => by obtain rfl := Option.some.inj q; rfl)
    have ga3 := ga2.go t3 (fun z => ga.el z) (fun z => ga.sl z)
    -- the body
    refine seg_execs_cons (seg_If ?_)
    rw [hAA]
    refine gt2 R' a3.inv (a3.frameP C) a3.fresh (dv := e) rfl fun s4 t4 => ?_
    have a4 := a3.goS t4
    have ga4 := ga3.go t4 trivial trivial
    have fl : ∀ (e' : Bool) (j : Nat) d, (gFr x i e' (some (.str ⟨#[c']⟩)))[j]? = some (some d) → flat d = true := fun e' => gFr_flat fun d q => by obtain rfl := Option.some.inj q; rfl
    cases e with
    | true =>
      rw [if_pos rfl]
      obtain ⟨hq, hf'⟩ := drop_len (l := full) (pre := pre) hf (q := ((i : Int), bsl ++ ⟨#[c']⟩)) (r' := escL false i (i + 1) cs) rfl
      refine seg_execs_cons (gen_yield C (simE_tuple (simL_cons gv1 (simL_cons (simE_bin simE_str gv3) simL_nil))) (by rw [hAA]; exact R') a4 (esc_t1 rfl rfl) hq hfs hfg rfl fun s5 s6 t5 t6 a6 => ?_)
      have ga6 := (ga4.go t5 trivial trivial).resume t6
      refine seg_execs_cons (seg_st C (sim1_assign simE_bool gSlot2) (by rw [hAA]; exact R') a6 rfl (fl false) fun s7 t7 a7 => ?_)
      have ga7 := ga6.go t7 (fun z => ga.el z) (fun z => ga.sl z)
      refine seg_execs_nil (seg_execs_nil (seg_again rfl ?_))
      exact ih (i + 1) s6 s7 false i _ _ hd' hlt a7 (fun d q => by obtain rfl := Option.some.inj q; rfl) ga7 hf'
    | false =>
      rw [if_neg Bool.false_ne_true]
      refine seg_execs_cons (seg_If ?_)
      rw [hAA]
      refine gt3 (by decide) R' a4.inv (a4.frameP C) a4.fresh (dv := (⟨#[c']⟩ : Str) == bsl) rfl fun s5 t5 => ?_
      have a5 := a4.goS t5
      have ga5 := ga4.go t5 trivial trivial
      cases hb : (⟨#[c']⟩ : Str) == bsl with
      | true =>
        rw [if_pos rfl]
        have ee : escL false p i (c' :: cs) = escL true i (i + 1) cs := by show (if _ then _ else _) = _; rw [if_pos hb]
        rw [ee] at hf ⊢
        refine seg_execs_cons (seg_st C (sim1_assign simE_bool gSlot2) (by rw [hAA]; exact R') a5 rfl (fl true) fun s7 t7 a7 => ?_)
        have ga7 := ga5.go t7 (fun z => ga.el z) (fun z => ga.sl z)
        refine seg_execs_nil (seg_execs_nil (seg_execs_nil (seg_again rfl ?_)))
        exact ih (i + 1) s₀ s7 true i _ _ hd' hlt a7 (fun d q => by obtain rfl := Option.some.inj q; rfl) ga7 hf
      | false =>
        rw [if_neg Bool.false_ne_true]
        have ee : escL false p i (c' :: cs) = ((i : Int), (⟨#[c']⟩ : Str)) :: escL false i (i + 1) cs := by show (if _ then _ else _) = _; rw [if_neg (by rw [hb]; exact Bool.false_ne_true)]
        rw [ee] at hf ⊢
        obtain ⟨hq, hf'⟩ := drop_len (l := full) (pre := pre) hf (q := ((i : Int), (⟨#[c']⟩ : Str))) (r' := escL false i (i + 1) cs) rfl
        refine seg_execs_cons (gen_yield C (simE_tuple (simL_cons gv1 (simL_cons gv3 simL_nil))) (by rw [hAA]; exact R') a5 (esc_t2 rfl rfl) hq hfs hfg rfl fun s6 s7 t6 t7 a7 => ?_)
        have ga7 := (ga5.go t6 trivial trivial).resume t7
        refine seg_execs_nil (seg_execs_nil (seg_execs_nil (seg_again rfl ?_)))
        exact ih (i + 1) s7 s7 false i _ _ hd' hlt a7 (fun d q => by obtain rfl := Option.some.inj q; rfl) ga7 hf'
end
end Mine
end

section
open PySem PySem.W PyProof.Rows PySem.Calls
set_option maxRecDepth 100000
namespace Mine

/-! the next item of a generator function's generator; what it leaves is bare -/
theorem gen_next {prog : Program} {w : World} {A : Around} {s : Shared} {a : Addr} {g n : Nat} {gs : GenState} {R : GenEnd} {Y : Protocol} {Q : Option Value → Shared → Prop} {E : Value → Shared → Prop} (hh : A.handled = none) (hl : s.heap.NoLimit) (hroom : A.depth < recursionLimit)
    (hg : s.heap.IsGen a g) (hgs : s.gens[g]? = some gs) (hR : ∀ n s₀ r s₁, R n s₀ r s₁ → r = .ok (.ret .none)) (hgo : gs.Goes (model prog w) A.in1 R Y n (.send .none) (s.setGen g .running))
    (hY : ∀ v s₁ gs', gs'.bare = true → Y (n - 1) (s.setGen g .running) v s₁ (fun r' s'' => match n with | 0 => False | m + 1 => gs'.Goes (model prog w) A.in1 R Y m r' s'') → Q (some v) (s₁.setGen g gs'))
    (hE : ∀ s₁ r h', R n (s.setGen g .running) r s₁ → (∀ b o, s₁.heap.get? b = some o → h'.get? b = some o) → Q none { s₁.setGen g .finished with heap := h' }) : wpAny (model prog w) A (pyNext (.ref a)) Q E s := by
  have wake : wpAny (model prog w) A.in1 (Builtin.Generator.genWake (.ref a) (.send .none)) (fun fin s' => ∃ v, fin = .done (.ret v) ∧ Q (some v) s')
      (fun e s' => wpAny (model prog w) A (isInstance e (.type "StopIteration")) (fun b s'' => b = true ∧ Q none s'') E s') s := by
    unfold Builtin.Generator.genWake
    refine wpAny_bind (wpAny_holding (wpAny_genNumber hg (wpAny_bind (wpAny_genState hgs ?_))))
    have go : wpAny (model prog w) A.in1 (roomToWake) (fun _ s' => s' = s) (fun _ _ => False) s := wpAny_roomToWake hl hroom rfl
    cases gs with
    | running => exact hgo.elim
    | finished => exact hgo.elim
    | _ =>
      refine wpAny_bind (wpAny_mono go (fun _ s' q => ?_) fun _ _ q => q.elim)
      subst q
      show wpAny _ A.in1 (.resume g (.send .none) [] _) _ _ _
      refine wpAny_resumeQ hgs hgo (fun r s₁ hr => ?_) fun v s₁ gs' hb hv => wpAny_pure ⟨v, rfl, hY v s₁ gs' hb hv⟩
      have := hR _ _ _ _ hr
      subst this
      show wpAny _ A.in1 (newExc (.type "StopIteration") [] >>= _) _ _ _
      refine wpAny_bind ?_
      simp only [newExc, newTuple]
      refine wpAny_bind (wpAny_newObj_type ?_ (by size_fits))
      refine wpAny_bind (m := firstArgMember _ _) (wpAny_of_eq (a := Value.none) (by first | rfl | (simp only [firstArgMember]; rfl)) ?_)
      refine wpAny_newObj_type ?_ (by size_fits)
      simp only [raiseNew]
      refine wpAny_bind (wpAny_bind (wpAny_handled ?_))
      first | rw [show A.in1.handled = none from hh] | rw [hh]
      refine wpAny_throw ?_
      exact wpAny_isInstance (T := "StopIteration") (b := true) ⟨_, Heap.get?_push_size _ rfl, rfl⟩ isSubtype_stop ⟨rfl, hE s₁ _ _ hr fun b o q => Heap.get?_push_of_some _ (Heap.get?_push_of_some _ q)⟩
  unfold pyNext
  refine wpAny_bind (wpAny_attempt (wpAny_callSpecial?_slot (name := Str.ofString "__next__") hg.typeIs slot_gen_next (wpAny_call_entry slot_gen_next hg.typeIs entry_gen_next ?_ (args_gen_next _))))
  refine wpAny_mono wake (fun fin s' q => ?_) fun e s' q => ?_
  · obtain ⟨v, rfl, q⟩ := q
    exact ⟨v, rfl, wpAny_pure q⟩
  · refine wpAny_bind (wpAny_mono q (fun b s'' q => ?_) fun _ _ q => q)
    obtain ⟨rfl, q⟩ := q
    exact wpAny_pure q
end Mine
end

section
open PySem PySem.W PyProof.Rows PySem.Calls
set_option maxRecDepth 100000
namespace Mine

theorem letGo_gen {w : World} {A : Around} {s : Shared} {elts : List Expr} {k : Nat} {pos : Pos} {G : Addr} {g : Nat} {v : Value} {Q : Unit → Shared → Prop} {E : Value → Shared → Prop} (hg : s.heap.IsGen G g) (h : Q () s) : wpAny (MM w) A (letOwnedTupleGo (.Tuple elts k pos) (.ref G) v) Q E s := by
  obtain ⟨o, nm, qn, e, c, dd, _⟩ := hg
  unfold letOwnedTupleGo
  cases v <;> first | exact wpAny_pure h | skip
  refine wpAny_bind (wpAny_load e ?_)
  rw [c, dd]
  dsimp only
  rw [if_neg (by simp)]
  exact wpAny_pure h

section
variable {B : BH} {A : Around} {hC : Heap} {G L : Addr} {g : Nat} {env : Env} {full : List (Int × Str)}
theorem gl0 {d : Nat} {pos : Pos} : SimL B d gCx [.Name (Str.ofString "addr") pos] (consF (getV 0) fun _ => some []) := simL_cons gv0 simL_nil
theorem gen_start {x : Str} {s : Shared} (C : GC B A hC G L g env) (a : GA B hC G L env [some (.str x), none, none, none] s s) (hf : full = escL false 0 0 x.cps.toList) :
    Seg (MM B.w) A.in1 (gR hC G L) (gY B hC G L full) full.length s (.func (fnBody 6) env) ((MM B.w).den (.func (fnBody 6) env)) [] s := by
  have R' : Room 2 (A.in1.over (.func (fnBody 6) env) []) := C.room.ovF (fnBody 6) env
  subst hf
  refine seg_func ?_
  refine seg_execs_cons (seg_st C (sim1_assign simE_int gSlot1) R' a (fr' := [some (.str x), some (.int 0), none, none]) rfl (fun i d q => ?_) fun s1 t1 a1 => ?_)
  · match i, q with
    | 0, q => cases q; rfl
    | 1, q => cases q; rfl
    | 2, q => cases q
    | 3, q => cases q
    | _ + 4, q => cases q
  refine seg_execs_cons (seg_st C (sim1_assign simE_bool gSlot2) R' a1 (fr' := gFr x 0 false none) rfl (gFr_flat fun d q => by exact nomatch q) fun s2 t2 a2 => ?_)
  have hkd : env.scope.kind = .function := by rw [a2.frame.sc]; exact a2.frame.kind
  refine seg_execs_cons (seg_For (fun _ => rfl) ?_)
  refine wpAny_Call_NameR (wpAny_Name (wp_glob a2.inv hkd (by unfold Env.kindOf; rw [a2.frame.sc]; decide +kernel) a2.frame.glob a2.frame.blt C.enum ?_) (by decide +kernel))
  refine callWith_any (B := B) (.inr (.inl ⟨_, rfl⟩)) rfl rfl (gl0 R' a2.inv (a2.frameP C) a2.fresh (dv := [.str x]) rfl fun rvs s3 t3 r3 => ?_)
  have a3 := a2.goS t3
  refine ⟨a3.inv, ?_⟩
  obtain ⟨_, rfl, r5⟩ := VRs.one' r3
  obtain ⟨t0, rfl⟩ := VR.str' r5
  refine call_enumerate_str fun h' hE hI hz hk' => ?_
  refine wpAny_pyIter_enum hE ?_
  intro p
  have t4 : Step s3 { s3 with heap := h' } := Step.heap hk' rfl rfl
  have a4 := a3.goS t4
  have nl : ∀ b, s3.heap.objs.size ≤ b → s3.heap.get? b = none := fun b hb => by
    cases e : s3.heap.get? b with
    | none => rfl
    | some o => exact absurd (Heap.lt_size e) (Nat.not_lt.mpr hb)
  have nC : ∀ b, s3.heap.objs.size ≤ b → hC.get? b = none := fun b hb => a3.fresh b (nl b hb)
  have nL : ∀ b, s3.heap.objs.size ≤ b → b ≠ L := fun b hb z => by
    subst z
    obtain ⟨o, e⟩ := C.lvL
    rw [nC b hb] at e; exact nomatch e
  have n0 : ∀ b, s3.heap.objs.size ≤ b → ∀ o, s.heap.get? b = some o → iterCls o := fun b hb o e => Classical.byContradiction fun n => by
    obtain ⟨o', e'⟩ := a3.ev.step.live b o ⟨nL b hb, .inr fun o' e' => by rw [e] at e'; obtain rfl := Option.some.inj e'; exact n⟩ e
    rw [nl b hb] at e'; exact nomatch e'
  have ga : GE hC L (s3.heap.objs.size + 1) s3.heap.objs.size x t0 0 s { s3 with heap := h' } :=
    ⟨⟨_, by exact hE⟩, hI, Nat.succ_ne_self _, nL _ (Nat.le_succ _), nL _ (Nat.le_refl _), nC _ (Nat.le_succ _), nC _ (Nat.le_refl _), n0 _ (Nat.le_succ _), n0 _ (Nat.le_refl _)⟩
  refine gen_loop C rfl (fun s₀ s5 e p' ch pre i a5 hch hf => ?_) x.cps.toList 0 s _ false 0 none [] rfl (Nat.zero_le _) a4 (fun d q => by exact nomatch q) ga rfl
  -- behind the loop
  refine seg_execs_cons (seg_If (gt2 R' a5.inv (a5.frameP C) a5.fresh (dv := e) rfl fun s6 t6 => ?_))
  have a6 := a5.goS t6
  cases e with
  | true =>
    rw [if_pos rfl]
    obtain ⟨hq, _⟩ := drop_len hf (q := (p', bsl)) (r' := []) rfl
    refine seg_execs_cons (gen_yield C (simE_tuple (simL_cons gv1 (simL_cons simE_str simL_nil))) R' a6 (esc_t3 rfl) hq rfl rfl rfl fun s7 s8 t7 t8 a8 => ?_)
    refine seg_execs_nil (seg_execs_nil ?_)
    exact seg_end (.ok (.ret .none)) ⟨rfl, rfl, a8.ev⟩
  | false =>
    rw [if_neg Bool.false_ne_true]
    refine seg_execs_nil (seg_execs_nil ?_)
    exact seg_end (.ok (.ret .none)) ⟨rfl, rfl, a6.ev⟩

/-! a generator that waits -/
noncomputable def Sus (B : BH) (A : Around) (hC : Heap) (G L : Addr) (g : Nat) (full rem : List (Int × Str)) (s : Shared) : Prop :=
  ∃ gs, s.gens[g]? = some gs ∧ gs.bare = true ∧ s.heap.IsGen G g ∧ ∀ s'', StepP (KeepG hC G L) AllG (s.setGen g .running) s'' → AliveC hC s''.heap → Inv B s'' → gs.Goes (MM B.w) A.in1 (gR hC G L) (gY B hC G L full) rem.length (.send .none) s''

theorem setGen_get {s : Shared} {g : Nat} {x gs : GenState} (h : s.gens[g]? = some gs) (k : Nat) : (s.setGen g x).gens[k]? = if k = g then some x else s.gens[k]? := by
  by_cases q : k = g
  · subst q; rw [if_pos rfl]; exact setGen_self h
  · rw [if_neg q]
    exact Array.getElem?_setIfInBounds_ne (Ne.symm q)
theorem setGen_size {s : Shared} {g : Nat} {x : GenState} : (s.setGen g x).gens.size = s.gens.size := Array.size_setIfInBounds
theorem bare_set {s : Shared} {g : Nat} {x gs : GenState} (h : s.gens[g]? = some gs) (b : AllBare s.gens) (hx : x.bare = true) : AllBare (s.setGen g x).gens := fun y hy => by
  obtain ⟨i, hi⟩ := Array.mem_iff_getElem?.mp hy
  rw [setGen_get h] at hi
  split at hi
  · obtain rfl := Option.some.inj hi; exact hx
  · exact b y (Array.mem_of_getElem? hi)
theorem bare_unset {s : Shared} {g : Nat} {x gs : GenState} (h : s.gens[g]? = some gs) (b : AllBare (s.setGen g x).gens) (hx : gs.bare = true) : AllBare s.gens := fun y hy => by
  obtain ⟨i, hi⟩ := Array.mem_iff_getElem?.mp hy
  by_cases q : i = g
  · subst q; rw [h] at hi; obtain rfl := Option.some.inj hi; exact hx
  · exact b y (Array.mem_of_getElem? (i := i) (by rw [setGen_get h, if_neg q]; exact hi))

theorem isGen_kept {h h' : Heap} {G : Addr} {g : Nat} (x : h.IsGen G g) (k : ∀ o, h.get? G = some o → Plain o → h'.get? G = some o) : h'.IsGen G g := by
  obtain ⟨o, nm, qn, e, c, r⟩ := x
  exact ⟨o, nm, qn, k o e (.type c), c, r⟩
theorem iterG_sus {P W : Addr → Prop} {elts : List Expr} {kk : Nat} {tpos : Pos} (C : GC B A hC G L g env) (hW : ∀ b, W b → ∃ o, hC.get? b = some o) (hWX : ∀ b, W b → b ≠ G ∧ b ≠ L) (hP : ∀ b, hC.get? b = none → P b) :
    ∀ (rem : List (Int × Str)) (s : Shared) (pre : List (Int × Str)), full = pre ++ rem → Sus B A hC G L g full rem s → IterG B A P W (fun b => b = G ∨ b = L) (· = g) hC (.Tuple elts kk tpos) (.ref G) (rem.map escD) s := by
  have core : ∀ (rem : List (Int × Str)) (s s₂ : Shared), Sus B A hC G L g full rem s → StepP (NotW W) AllG s s₂ → AliveC hC s₂.heap → Inv B s₂ → ∃ gs, s₂.gens[g]? = some gs ∧ s₂.heap.IsGen G g ∧ gs.Goes (MM B.w) A.in1 (gR hC G L) (gY B hC G L full) rem.length (.send .none) (s₂.setGen g .running) := by
    rintro rem s s₂ ⟨gs, hgs, hb, hG, hgo⟩ t al I
    have hgs2 := t.gens g gs trivial hgs
    refine ⟨gs, hgs2, isGen_kept hG fun o e p => t.keep G o (fun w => (hWX G w).1 rfl) (.inl p) e, hgo _ ?_ al ⟨I.base, I.keep, I.tab, bare_set hgs2 I.bare rfl, I.os⟩⟩
    refine ⟨fun b o k q e => t.keep b o (fun w => ?_) q e, fun b o k e => t.live b o (fun w => ?_) e, t.tab, fun j y _ e => ?_, by rw [setGen_size, setGen_size]; exact t.gsize, fun ab => bare_set hgs2 (t.bare (bare_unset hgs ab hb)) rfl, t.os⟩
    · obtain ⟨o', e'⟩ := hW b w
      rcases k with rfl | rfl | k
      · exact (hWX _ w).1 rfl
      · exact (hWX _ w).2 rfl
      · rw [k] at e'; exact nomatch e'
    · obtain ⟨o', e'⟩ := hW b w
      rcases k with rfl | rfl | k
      · exact (hWX _ w).1 rfl
      · exact (hWX _ w).2 rfl
      · rw [k] at e'; exact nomatch e'
    · rw [setGen_get hgs] at e
      rw [setGen_get hgs2]
      by_cases z : j = g
      · rw [if_pos z] at e ⊢; exact e
      · rw [if_neg z] at e ⊢; exact t.gens j y trivial e
  have back : ∀ {s₂ s₃ : Shared} {gs x : GenState} {h' : Heap}, s₂.gens[g]? = some gs → x.bare = true → StepP (NX (GX G L) hC s₂.heap) AllG (s₂.setGen g .running) s₃ → (∀ b o, s₃.heap.get? b = some o → h'.get? b = some o) →
      StepP (NX (fun b => b = G ∨ b = L) hC s₂.heap) (NotG (· = g)) s₂ { s₃.setGen g x with heap := h' } := fun {s₂ s₃ gs x h'} hgs hx t hk => by
    have hr : s₃.gens[g]? = some .running := t.gens g .running trivial (setGen_self hgs)
    refine ⟨fun b o k q e => hk b o (t.keep b o ⟨fun z => k.1 (.inr z), k.2⟩ q e), fun b o k e => let ⟨o', e'⟩ := t.live b o ⟨fun z => k.1 (.inr z), k.2⟩ e; ⟨o', hk b o' e'⟩, fun q => (t.tab q).keeps hk, fun j y q e => ?_, ?_, fun ab => bare_set hr (t.bare (bare_set hgs ab rfl)) hx, t.os⟩
    · show (s₃.setGen g x).gens[j]? = _
      rw [setGen_get hr, if_neg q]
      exact t.gens j y trivial (by rw [setGen_get hgs, if_neg q]; exact e)
    · show s₂.gens.size ≤ (s₃.setGen g x).gens.size
      rw [setGen_size]
      have := t.gsize
      rw [setGen_size] at this
      exact this
  intro rem
  induction rem with
  | nil =>
    intro s pre hf su s₂ t al I fp
    obtain ⟨gs, hgs, hG, hgo⟩ := core [] s s₂ su t al I
    refine gen_next C.room.handled I.lim (by have := C.room.depth; omega) hG hgs (fun _ _ _ _ q => q.1) hgo (fun v s₁ gs' hb hy => ?_) fun s₁ r h' hr hk => ?_
    · obtain ⟨q, _, _, ev, hkap⟩ := hy
      have I2 : Inv B (s₂.setGen g .running) := ⟨I.base, I.keep, I.tab, bare_set hgs I.bare rfl, I.os⟩
      exact (hkap s₁ (.refl _ _ _) ev.al (I2.stepP ev.step fun b o e => ⟨fun z => by subst z; exact C.nb o e, .inl (C.base b o e)⟩)).elim
    · obtain ⟨rfl, _, ev⟩ := hr
      exact ⟨rfl, back hgs rfl ev.step hk⟩
  | cons d rem ih =>
    intro s pre hf su s₂ t al I fp
    obtain ⟨gs, hgs, hG, hgo⟩ := core (d :: rem) s s₂ su t al I
    obtain ⟨hq, hf'⟩ := drop_len hf (q := d) (r' := rem) rfl
    refine gen_next C.room.handled I.lim (by have := C.room.depth; omega) hG hgs (fun _ _ _ _ q => q.1) hgo (fun v s₁ gs' hb hy => ?_) fun s₁ r h' hr hk => ?_
    · obtain ⟨q, hq', r, ev, hkap⟩ := hy
      have : q = d := Option.some.inj (hq'.symm.trans hq)
      subst this
      have hr : s₁.gens[g]? = some .running := ev.step.gens g .running trivial (setGen_self hgs)
      have hG1 : s₁.heap.IsGen G g := isGen_kept hG fun o e p => ev.step.keep G o ⟨C.gl, .inl C.lvG⟩ (.inl p) e
      refine ⟨v, rfl, letGo_gen (s := s₁.setGen g gs') hG1 ⟨back (h' := s₁.heap) hgs hb ev.step fun _ _ e => e, ev.al, r.up hP, ih _ _ hf' ⟨gs', setGen_self hr, hb, hG1, fun s'' t'' al'' I'' => hkap s'' ?_ al'' I''⟩⟩⟩
      refine ⟨t''.keep, t''.live, t''.tab, fun j y _ e => t''.gens j y trivial ?_, ?_, fun ab => t''.bare (bare_set (setGen_self hr) (bare_set hr ab hb) rfl), t''.os⟩
      · rw [setGen_get (setGen_self hr), setGen_get hr]
        split
        · rename_i z; subst z; rw [hr] at e; exact e
        · exact e
      · have := t''.gsize
        rw [setGen_size, setGen_size] at this
        exact this
    · obtain ⟨_, hn, _⟩ := hr
      exact absurd hn (by simp)
end
end Mine
end

section
open PySem PySem.W PyProof.Rows PySem.Calls
set_option maxRecDepth 100000
namespace Mine

section
variable {B : BH} {d : Nat} {cx : Cx}
noncomputable def escV : PyData → Option (List PyData)
  | .str x => some ((escL false 0 0 x.cps.toList).map escD)
  | _ => none
/-- a for over the escaped signs of a text -/
theorem simG_esc {x : Str} {np pos tpos : Pos} {e : Expr} {elts : List Expr} {kk : Nat} {f} {a : Addr} {fd : FuncData} (he : SimE B (d + 3) cx e f) (H : FnAt B a fd (fnBody 6) [Str.ofString "addr"]) (hsc : fd.scope = fnScope 6)
    (hb : ∀ (s : Shared) (v : Value), Inv B s → BindsTo s fd ⟨[v], []⟩ [(Str.ofString "addr", v)]) (hv : glob B x = some (.ref a)) (hk : cx.sc.names.lookup x = some .globalImplicit) (hd : (x == ("__debug__" : Str)) = false)
    (hen : glob B (Str.ofString "enumerate") = some (.type "enumerate"))
    (hst : ∀ env, starEach [e] env = (false, eval e env) :: starEach [] env := by intro _; rfl) : SimG B (d + 3) cx (.Call (.Name x np) [e] [] pos) (.Tuple elts kk tpos) fun fr => (f fr).bind escV := by
  intro A s env fr P W items Q E R I F fp ev h
  obtain ⟨v, e1, ev⟩ := bind_some ev
  have hx : ∃ y, v = .str y := by cases v <;> first | exact ⟨_, rfl⟩ | cases ev
  obtain ⟨y, rfl⟩ := hx
  cases ev
  have hkd : env.scope.kind = .function := by rw [F.sc]; exact F.kind
  have hcee : Callee B (.ref a) := .inr (.inr (let ⟨o, e, p, q⟩ := H.o; ⟨a, o, fd, rfl, e, p, q⟩))
  refine wpAny_Call_NameR (wpAny_Name (wp_glob I hkd (by unfold Env.kindOf; rw [F.sc]; exact hk) F.glob F.blt hv ?_) hd)
  refine callWith_any hcee (hst env) rfl (args_cons (he R I F fp e1 fun rv s1 t1 r1 => args_nil ⟨I.step t1, ?_⟩) (hst env))
  have I1 := I.step t1
  have fp1 := fp.le t1.lv
  obtain ⟨o, ho, hdata⟩ := H.objAt I1
  refine wpAny_call (codeAny_call_generator (by have := R.depth; omega) ho hdata (by rw [hsc]; rfl) (by rw [hsc]; rfl) H.body (H.codeAt I1) (hb s1 rv I1 _ _ _ _ ?_))
  rw [H.clo]
  have hloc : fd.scope.names.lookup (Str.ofString "addr") = some .local := by rw [hsc]; decide +kernel
  refine wpAny_newFunctionEnv_cells H.kind (fun z hz => .inl ?_) fun genv hge s2 x2 => ?_
  · rcases List.mem_cons.mp hz with rfl | hz
    · exact hloc
    · cases hz
  have gcells : genv.cells = [] := by
    rw [hge]
    show cellsFrom _ fd.scope.names [] = []
    rw [hsc]; rfl
  have gsc : genv.scope = fnScope 6 := by rw [hge]; exact hsc
  have ggl : genv.globals = mainGlobals := by rw [hge]; exact H.glob
  have gbl : genv.builtins = builtinsNs := by rw [hge]; exact H.blt
  have hkf : (fnScope 6).kind = .function := rfl
  obtain ⟨t2, F2, _, _⟩ := frame_new (B := B) (sc := fnScope 6) (nm := gCx.ns) (own := none) (cd := false) (A := A) (k := 3) (ps := [Str.ofString "addr"]) I1 fp1 (VRs.cons r1 .nil) gsc hkf ggl gbl x2
    (fun z q => by
      have hn : ∀ y ∈ (fnScope 6).names, y.2 ≠ .cell ∧ y.2 ≠ .free := by decide +kernel
      rcases q with q | q
      · exact absurd rfl (hn _ (PySem.mem_of_lookup q)).1
      · exact absurd rfl (hn _ (PySem.mem_of_lookup q)).2) (fun q => by cases q)
    (fun z hz => by
      rcases List.mem_cons.mp hz with rfl | hz
      · exact .inl (by decide +kernel)
      · cases hz) rfl (fun i q => by exact nomatch q) rfl
    (fun i z v e1 e2 hk => by
      match i, e1, e2 with
      | 0, e1, e2 =>
        cases e1; cases e2
        exact bindL_get (by unfold Env.kindOf; rw [gsc]; decide +kernel) _ _ (by simp) (.head _)
      | i + 1, e1, e2 => cases e1)
    (fun i z v e1 e2 hk => by
      match i, e1, e2 with
      | 0, e1, e2 =>
        cases e1
        rw [show (fnScope 6).names.lookup (Str.ofString "addr") = some .local from by decide +kernel] at hk
        cases hk
      | i + 1, e1, e2 => cases e1)
  have lim2 : s2.heap.NoLimit := I1.lim.keeps x2.toInCall.keep
  have hg2 : s2.gens = s1.gens := by obtain ⟨h', tk, rfl⟩ := x2.toInCall.same; rfl
  refine ⟨lim2, ?_⟩
  dsimp only
  -- the generator's object
  generalize hG : s2.heap.objs.size = G
  generalize hgg : s2.gens.size = g
  let ob : Obj := { cls := .type "generator", data := .fields #[.int g 0, .str fd.name s2.toks, .str fd.qualname (s2.toks + 1)] }
  let s3 : Shared := { s2 with gens := s2.gens.push (.fresh (.func (fnBody 6) genv)), toks := s2.toks + 1 + 1, heap := s2.heap.push ob }
  show wpAny (MM B.w) A (pyIter (.ref G)) Q E s3
  have eG : s3.heap.get? G = some ob := by rw [← hG]; exact Heap.get?_push_size _ rfl
  have iG : s3.heap.IsGen G g := ⟨_, _, _, eG, rfl, rfl, rfl⟩
  have k23 : ∀ b o, s2.heap.get? b = some o → s3.heap.get? b = some o := fun b o q => Heap.get?_push_of_some _ q
  have t3 : Step s2 s3 := ⟨.of k23, fun b o _ q => ⟨o, k23 b o q⟩, fun q => q.keeps k23, fun j z _ q => by
      have hlt := (Array.getElem?_eq_some_iff.mp q).1
      show (s2.gens.push _)[j]? = _
      rw [Array.getElem?_push_lt hlt, ← q, Array.getElem?_eq_getElem hlt], by show _ ≤ (s2.gens.push _).size; rw [Array.size_push]; omega, fun ab => AllBare.push ab rfl, rfl⟩
  have t13 := t2.trans t3
  have ts := t1.trans t13
  have fG2 : s2.heap.get? G = none := by rw [← hG]; exact get_size _
  have fG : s.heap.get? G = none := by
    cases q : s.heap.get? G with
    | none => rfl
    | some o => obtain ⟨o', q'⟩ := (t1.trans t2).lv _ o q; rw [fG2] at q'; exact nomatch q'
  generalize hL : genv.locals = L at *
  have fL1 : s1.heap.get? L = none := by
    cases q : s1.heap.get? L with
    | none => rfl
    | some o => exact absurd (Heap.lt_size q) (Nat.not_lt.mpr x2.toInCall.fresh)
  have fL : s.heap.get? L = none := by
    cases q : s.heap.get? L with
    | none => rfl
    | some o => obtain ⟨o', q'⟩ := t1.lv _ o q; rw [fL1] at q'; exact nomatch q'
  obtain ⟨oL, _, _, eL2, _⟩ := id x2.toInCall.ns
  have GL : G ≠ L := by rintro rfl; rw [fG2] at eL2; exact nomatch eL2
  have gsz : s1.gens.size = g := by rw [← hgg, hg2]
  have GCx : GC B A s3.heap G L g genv := ⟨hL, gcells, GL, ⟨_, k23 _ _ eL2⟩, ⟨_, eG⟩,
    fun o q => (by obtain ⟨o', q'⟩ := I.lives _ o q; rw [fL] at q'; exact nomatch q'), fun o q => (by obtain ⟨o', q'⟩ := I.lives _ o q; rw [fG] at q'; exact nomatch q'),
    fun b o q => (by obtain ⟨o', q'⟩ := I.lives b o q; exact ts.lv b o' q'), R.le (by omega), hen⟩
  have F3 := F2.step t3
  have FN : FrameOk gCx NoP (· = L) s3.heap genv [some (.str y), none, none, none] := by
    refine ⟨F3.sc, F3.kind, F3.glob, F3.blt, F3.ns, hL, fun _ _ p => p, fun b w => by subst w; exact ⟨_, k23 _ _ eL2⟩, F3.cl, F3.has, fun i z dd a1 b1 c1 => ?_, fun i z dd a1 => by cases a1⟩
    obtain ⟨rv', r', vr⟩ := F3.slot i z dd a1 b1 c1
    refine ⟨rv', r', vr.flat ?_⟩
    match i, b1 with
    | 0, b1 => cases b1; rfl
    | 1, b1 => cases b1
    | 2, b1 => cases b1
    | 3, b1 => cases b1
    | _ + 4, b1 => cases b1
  refine wpAny_pyIter_gen iG ?_
  refine h (.ref G) s3 (fun b => b = G ∨ b = L) (· = g) ts (fun b o q z => ?_) (fun b z => ?_) (fun j hj z => ?_) fun P' W' hP hPX hwp hxw hwl hfr => ?_
  · rcases z with rfl | rfl
    · rw [fG] at q; exact nomatch q
    · rw [fL] at q; exact nomatch q
  · rcases z with rfl | rfl
    · exact ⟨_, eG⟩
    · exact ⟨_, k23 _ _ eL2⟩
  · have := t1.gsize
    subst z
    omega
  · refine iterG_sus GCx hwl (fun b w => ⟨fun z => hxw b (.inl z) w, fun z => hxw b (.inr z) w⟩) (fun b q => hfr b q) _ s3 [] rfl ⟨.fresh (.func (fnBody 6) genv), ?_, rfl, iG, fun s'' t'' al'' I'' => ⟨rfl, gen_start GCx ⟨I'', .refl _ _ al'', ?_⟩ rfl⟩⟩
    · rw [← hgg]; exact Array.getElem?_push_size ..
    · exact FN.at_ rfl hL gcells fun o p q => t''.keep L o (.inr (.inl rfl)) (.inl p) q
end
end Mine
end

section
open PySem PySem.W PyProof.Rows PySem.Calls
set_option maxRecDepth 100000
namespace Mine
open PySem.Sre (M)
open PySem.Sre.M

/-! the matcher, word by word -/
section
variable {m : M}
theorem at_pc (ho : m.outcome = none) (ha : m.answer = none) (hp : m.pc < m.code.size) : m.step = m.exec := by
  unfold M.step
  rw [ho, ha]
  simp only [Option.isSome_none, Bool.false_eq_true, if_false, hp, if_true]
theorem step_lit_ok (ho : m.outcome = none) (ha : m.answer = none) (hp : m.pc < m.code.size) (hw : m.code.getD m.pc 0 = 16) (hl : m.pos < m.lim) (hc : m.text.getD m.pos 0 = m.code.getD (m.pc + 1) 0) :
    m.step = { m with seen := m.seen.add 16, pc := m.pc + 2, pos := m.pos + 1 } := by
  rw [at_pc ho ha hp]
  unfold M.exec
  have h0 : m.word 0 = 16 := hw
  have hop : Sre.ops[16]? = some .LITERAL := rfl
  simp only [h0, hop]
  have e : Sre.accepts m.code m.pc (m.text.getD m.pos 0) (m.seen.add 16) = .ok (true, m.seen.add 16) := by
    unfold Sre.accepts
    rw [hw]
    show Except.ok (m.text.getD m.pos 0 == m.code.getD (m.pc + 1) 0, m.seen.add 16) = _
    rw [hc]; simp
  have iw : Sre.itemWidth m.code m.pc = 2 := by
    unfold Sre.itemWidth; rw [hw]; rfl
  simp only [Nat.not_le.mpr hl, ge_iff_le, if_false, e, iw]
theorem step_lit_no (ho : m.outcome = none) (ha : m.answer = none) (hp : m.pc < m.code.size) (hw : m.code.getD m.pc 0 = 16) (hn : ¬ (m.pos < m.lim ∧ m.text.getD m.pos 0 = m.code.getD (m.pc + 1) 0)) :
    m.step = { m with seen := m.seen.add 16, answer := some false } := by
  rw [at_pc ho ha hp]
  unfold M.exec
  have h0 : m.word 0 = 16 := hw
  have hop : Sre.ops[16]? = some .LITERAL := rfl
  simp only [h0, hop]
  by_cases hl : m.pos < m.lim
  · have hc : ¬ m.text.getD m.pos 0 = m.code.getD (m.pc + 1) 0 := fun q => hn ⟨hl, q⟩
    have e : Sre.accepts m.code m.pc (m.text.getD m.pos 0) (m.seen.add 16) = .ok (false, m.seen.add 16) := by
      unfold Sre.accepts
      rw [hw]
      show Except.ok (m.text.getD m.pos 0 == m.code.getD (m.pc + 1) 0, m.seen.add 16) = _
      have : (m.text.getD m.pos 0 == m.code.getD (m.pc + 1) 0) = false := by simpa using hc
      rw [this]
    simp only [Nat.not_le.mpr hl, ge_iff_le, if_false, e]
    rfl
  · simp only [Nat.not_lt.mp hl, ge_iff_le, if_true]
    rfl
theorem step_at (ho : m.outcome = none) (ha : m.answer = none) (hp : m.pc < m.code.size) (hw : m.code.getD m.pc 0 = 6) (hk : m.code.getD (m.pc + 1) 0 = 1) :
    m.step = if m.pos = 0 ∨ m.text.getD (m.pos - 1) 0 = 10 then { m with seen := (m.seen.add 6).add 44, pc := m.pc + 2 } else { m with seen := (m.seen.add 6).add 44, answer := some false } := by
  rw [at_pc ho ha hp]
  unfold M.exec
  have h0 : m.word 0 = 6 := hw
  have h1 : m.word 1 = 1 := hk
  have hop : Sre.ops[6]? = some .AT := rfl
  simp only [h0, hop]
  have e : ({ m with seen := m.seen.add 6 } : M).isAt (({ m with seen := m.seen.add 6 } : M).word 1) = .ok (m.pos == 0 || m.text.getD (m.pos - 1) 0 == 10) := by
    show ({ m with seen := m.seen.add 6 } : M).isAt (m.word 1) = _
    rw [h1]; rfl
  rw [e]
  dsimp only
  have h1' : ({ m with seen := m.seen.add 6 } : M).word 1 = 1 := h1
  rw [h1']
  by_cases hb : m.pos = 0 ∨ m.text.getD (m.pos - 1) 0 = 10
  · have : (m.pos == 0 || m.text.getD (m.pos - 1) 0 == 10) = true := by simpa using hb
    rw [if_pos hb, if_pos this]
  · have : ¬ (m.pos == 0 || m.text.getD (m.pos - 1) 0 == 10) = true := by simpa using hb
    rw [if_neg hb, if_neg this]; rfl
theorem step_jump (ho : m.outcome = none) (ha : m.answer = none) (hp : m.pc < m.code.size) (hw : m.code.getD m.pc 0 = 15) : m.step = { m with seen := m.seen.add 15, pc := m.pc + 1 + m.code.getD (m.pc + 1) 0 } := by
  rw [at_pc ho ha hp]
  unfold M.exec
  have h0 : m.word 0 = 15 := hw
  have hop : Sre.ops[15]? = some .JUMP := rfl
  simp only [h0, hop]
  rfl
theorem step_success (ho : m.outcome = none) (ha : m.answer = none) (hp : m.pc < m.code.size) (hw : m.code.getD m.pc 0 = 1) (hww : m.wholeText = false) (hm : m.mustAdvance = false) : m.step = { m with seen := m.seen.add 1, handed := m.pos, answer := some true } := by
  rw [at_pc ho ha hp]
  unfold M.exec
  have h0 : m.word 0 = 1 := hw
  have hop : Sre.ops[1]? = some .SUCCESS := rfl
  simp only [h0, hop]
  rw [if_neg (by rw [hww, hm]; simp)]
  rfl
theorem step_branch (ho : m.outcome = none) (ha : m.answer = none) (hp : m.pc < m.code.size) (hw : m.code.getD m.pc 0 = 7) (hi : m.inner = none) : m.step = ({ m with seen := m.seen.add 7 } : M).alternative (m.pc + 1) { lastmark := m.lastmark, lastindex := m.lastindex } := by
  rw [at_pc ho ha hp]
  unfold M.exec
  have h0 : m.word 0 = 7 := hw
  have hop : Sre.ops[7]? = some .BRANCH := rfl
  simp only [h0, hop]
  rw [hi]
  rfl
theorem step_assertNot (ho : m.outcome = none) (ha : m.answer = none) (hp : m.pc < m.code.size) (hw : m.code.getD m.pc 0 = 5) (h2 : m.code.getD (m.pc + 2) 0 = 0) (hi : m.inner = none) :
    m.step = ({ m with seen := m.seen.add 5 } : M).attempt { ({ m with seen := m.seen.add 5 } : M).frame .lookNot with kept := { lastmark := m.lastmark, lastindex := m.lastindex } } (m.pc + 3) m.pos false := by
  rw [at_pc ho ha hp]
  unfold M.exec
  have h0 : m.word 0 = 5 := hw
  have h2' : m.word 2 = 0 := h2
  have hop : Sre.ops[5]? = some .ASSERT_NOT := rfl
  simp only [h0, hop]
  have h3 : ({ m with seen := m.seen.add 5 } : M).word 2 = 0 := h2'
  rw [h3, if_neg (Nat.not_lt_zero _), hi]
  rfl
theorem step_end {b : Bool} (ho : m.outcome = none) (ha : m.answer = some b) (hf : m.frames = []) : m.step = { m with outcome := some (if b then .matched else .failed) } := by
  unfold M.step
  rw [ho, ha, hf]
  rfl
theorem step_back {b : Bool} {f : Sre.Frame} {r : List Sre.Frame} (ho : m.outcome = none) (ha : m.answer = some b) (hf : m.frames = f :: r) :
    m.step = ({ m with answer := none, frames := r, weight := m.weight - (1 + f.kept.marks.size), pc := f.pc, pos := f.pos, outermost := f.outermost } : M).resume f b := by
  unfold M.step
  rw [ho, ha, hf]
  rfl
end
end Mine
end

section
open PySem PySem.W PyProof.Rows PySem.Calls
set_option maxRecDepth 100000
namespace Mine
open PySem.Sre (M)
open PySem.Sre.M

theorem run_done {m : M} (h : m.outcome.isSome = true) : ∀ n, M.runFor n m = m
  | 0 => rfl
  | n + 1 => by unfold M.runFor; rw [if_pos h]
theorem run_step {m : M} (h : m.outcome = none) (n : Nat) : M.runFor (n + 1) m = M.runFor n m.step := by
  show (if m.outcome.isSome then m else M.runFor n m.step) = _
  rw [h]; rfl
theorem run_add : ∀ (a b : Nat) (m : M), M.runFor (a + b) m = M.runFor b (M.runFor a m)
  | 0, b, m => by rw [Nat.zero_add]; rfl
  | a + 1, b, m => by
    cases h : m.outcome with
    | some o =>
      have hs : m.outcome.isSome = true := by rw [h]; rfl
      rw [run_done hs, run_done hs, run_done hs]
    | none => rw [show a + 1 + b = (a + b) + 1 by omega, run_step h, run_step h, run_add a b]

/-- the run ends so -/
noncomputable def EndsAs (r : Option (Nat × Nat)) (m : M) : Prop := match r with
  | none => m.outcome = some .failed
  | some (p, q) => m.outcome = some .matched ∧ m.start = p ∧ m.handed = q
noncomputable def Ends (m : M) (n : Nat) (r : Option (Nat × Nat)) : Prop := EndsAs r (M.runFor n m)
theorem EndsAs.some {r : Option (Nat × Nat)} {m : M} (h : EndsAs r m) : m.outcome.isSome = true := by
  cases r with
  | none => have h' : m.outcome = _ := h; rw [h']; rfl
  | some p => have h' : m.outcome = _ := h.1; rw [h']; rfl
theorem Ends.more {m : M} {n k : Nat} {r : Option (Nat × Nat)} (h : Ends m n r) (hk : n ≤ k) : Ends m k r := by
  unfold Ends at h ⊢
  rw [show k = n + (k - n) by omega, run_add, run_done (EndsAs.some h)]
  exact h
theorem Ends.by_ {m : M} {n : Nat} {r : Option (Nat × Nat)} (ho : m.outcome = none) (h : Ends m.step n r) : Ends m (n + 1) r := by
  unfold Ends at h ⊢
  rw [run_step ho]; exact h
theorem Ends.to {m m' : M} {n : Nat} {r : Option (Nat × Nat)} (ho : m.outcome = none) (e : m.step = m') (h : Ends m' n r) : Ends m (n + 1) r := Ends.by_ ho (e ▸ h)

/-! the first word: a dot at the head of a line -/
noncomputable def code1 : Array Nat := #[14, 4, 0, 1, 1, 6, 1, 16, 46, 1]
noncomputable def find1 (t : Array Nat) : Nat → Nat → Option (Nat × Nat)
  | 0, _ => none
  | n + 1, s => if (s = 0 ∨ t.getD (s - 1) 0 = 10) ∧ s < t.size ∧ t.getD s 0 = 46 then some (s, s + 1) else if s < t.size then find1 t n (s + 1) else none
structure At1 (t : Array Nat) (s : Nat) (m : M) : Prop where
  code : m.code = code1
  text : m.text = t
  lim : m.lim = t.size
  last : m.lastStart = t.size
  whole : m.wholeText = false
  must : m.mustAdvance = false
  start : m.start = s
  frames : ∃ o, m.frames = [{ wait := .nextStart, pc := 5, pos := s, outermost := o }]
  weight : m.weight = 1
  outcome : m.outcome = none
theorem attempt_ok {m : M} {f : Sre.Frame} {tg fr : Nat} {o : Bool} (hw : m.weight + 1 + f.kept.marks.size ≤ 16777216) : m.attempt f tg fr o = { m with frames := f :: m.frames, weight := m.weight + 1 + f.kept.marks.size, pc := tg, pos := fr, handed := fr, outermost := o } := by
  unfold M.attempt
  rw [if_neg (by omega)]
theorem from1 {m : M} {s : Nat} {b : Bool} (hc : m.code = code1) (hw : m.weight + 1 ≤ 16777216) :
    m.attemptFrom s b = { m with start := s, lastmark := -1, lastindex := -1, frames := { wait := .nextStart, pc := m.pc, pos := s, outermost := b } :: m.frames, weight := m.weight + 1, pos := s, handed := s, outermost := b } := by
  have hf : m.hasFirstSet = false := by unfold M.hasFirstSet; rw [hc]; rfl
  unfold M.attemptFrom
  rw [hf]
  show M.attemptAt m s b = _
  unfold M.attemptAt
  rw [attempt_ok (by show m.weight + 1 + 0 ≤ _; omega)]
  rfl
theorem back1 {t : Array Nat} {s : Nat} {m : M} (h : At1 t s m) (ha : m.answer = some false) : if s < t.size then At1 t (s + 1) m.step ∧ m.step.answer = none ∧ m.step.pc = 5 ∧ m.step.pos = s + 1 else m.step.answer = some false ∧ m.step.frames = [] ∧ m.step.outcome = none := by
  obtain ⟨o, hf⟩ := h.frames
  rw [step_back h.outcome ha hf]
  let m0 : M := { m with answer := none, frames := [], weight := m.weight - (1 + 0), pc := 5, pos := s, outermost := o }
  show if s < t.size then At1 t (s + 1) (m0.resume { wait := .nextStart, pc := 5, pos := s, outermost := o } false) ∧ _ else _
  by_cases hs : s < t.size
  · have e : m0.resume { wait := .nextStart, pc := 5, pos := s, outermost := o } false = ({ m0 with mustAdvance := false } : M).attemptFrom (s + 1) false := by
      show (if s < m.lastStart then _ else _) = _
      rw [if_pos (by rw [h.last]; exact hs)]
    rw [if_pos hs]
    show At1 t (s + 1) (m0.resume { wait := .nextStart, pc := 5, pos := s, outermost := o } false) ∧ (m0.resume { wait := .nextStart, pc := 5, pos := s, outermost := o } false).answer = none ∧ (m0.resume { wait := .nextStart, pc := 5, pos := s, outermost := o } false).pc = 5 ∧ (m0.resume { wait := .nextStart, pc := 5, pos := s, outermost := o } false).pos = s + 1
    rw [e, from1 (m := { m0 with mustAdvance := false }) h.code (by show m.weight - (1 + 0) + 1 ≤ _; rw [h.weight]; decide)]
    exact ⟨⟨h.code, h.text, h.lim, h.last, h.whole, rfl, rfl, ⟨false, rfl⟩, by show m.weight - (1 + 0) + 1 = 1; rw [h.weight], h.outcome⟩, rfl, rfl, rfl⟩
  · have e : m0.resume { wait := .nextStart, pc := 5, pos := s, outermost := o } false = m0.say false := by
      show (if s < m.lastStart then _ else _) = _
      rw [if_neg (by rw [h.last]; exact hs)]
    rw [if_neg hs]
    show (m0.resume { wait := .nextStart, pc := 5, pos := s, outermost := o } false).answer = some false ∧ (m0.resume { wait := .nextStart, pc := 5, pos := s, outermost := o } false).frames = [] ∧ (m0.resume { wait := .nextStart, pc := 5, pos := s, outermost := o } false).outcome = none
    rw [e]
    exact ⟨rfl, rfl, h.outcome⟩
theorem code1_5 : code1.getD 5 0 = 6 := rfl
theorem ends1 {t : Array Nat} : ∀ (k s : Nat) (m : M), t.size + 1 - s = k → s ≤ t.size → At1 t s m → m.answer = none → m.pc = 5 → m.pos = s → Ends m (6 * k + 6) (find1 t k s)
  | 0, s, m, hk, hs, _, _, _, _ => by omega
  | k + 1, s, m, hk, hs, h, ha, hp, hpos => by
    -- what follows a failure
    have fail : ∀ (m' : M) (n : Nat), At1 t s m' → m'.answer = some false → 6 * k + 8 ≤ n → Ends m' n (if s < t.size then find1 t k (s + 1) else none) := fun m' n h' ha' hn => by
      have b := back1 h' ha'
      split
      · rename_i hlt
        rw [if_pos hlt] at b
        obtain ⟨b1, b2, b3, b4⟩ := b
        exact (Ends.by_ h'.outcome (ends1 k (s + 1) _ (by omega) hlt b1 b2 b3 b4)).more (by omega)
      · rename_i hlt
        rw [if_neg hlt] at b
        obtain ⟨b1, b2, b3⟩ := b
        refine (Ends.by_ h'.outcome (n := 1) (Ends.to b3 (step_end b3 b1 b2) ?_)).more (by omega)
        show EndsAs none _
        rfl
    have e5 : m.code.getD m.pc 0 = 6 := by rw [h.code, hp]; rfl
    have e6 : m.code.getD (m.pc + 1) 0 = 1 := by rw [h.code, hp]; rfl
    have sz : m.pc < m.code.size := by rw [h.code, hp]; decide
    have st := step_at h.outcome ha sz e5 e6
    unfold find1
    by_cases hb : s = 0 ∨ t.getD (s - 1) 0 = 10
    · rw [if_pos (by rw [hpos, h.text]; exact hb)] at st
      -- the sign itself
      let m1 : M := { m with seen := (m.seen.add 6).add 44, pc := m.pc + 2 }
      have st' : m.step = m1 := st
      have sz1 : m1.pc < m1.code.size := by show m.pc + 2 < m.code.size; rw [h.code, hp]; decide
      have w7 : m1.code.getD m1.pc 0 = 16 := by show m.code.getD (m.pc + 2) 0 = 16; rw [h.code, hp]; rfl
      have w8 : m1.code.getD (m1.pc + 1) 0 = 46 := by show m.code.getD (m.pc + 2 + 1) 0 = 46; rw [h.code, hp]; rfl
      have ht : m1.text.getD m1.pos 0 = t.getD s 0 := by show m.text.getD m.pos 0 = _; rw [h.text, hpos]
      have hl : (m1.pos < m1.lim) ↔ s < t.size := by show m.pos < m.lim ↔ _; rw [h.lim, hpos]
      by_cases hc : s < t.size ∧ t.getD s 0 = 46
      · rw [if_pos ⟨hb, hc⟩]
        have s1 := step_lit_ok (m := m1) h.outcome ha sz1 w7 (hl.mpr hc.1) (by rw [ht, w8]; exact hc.2)
        let m2 : M := { m1 with seen := m1.seen.add 16, pc := m1.pc + 2, pos := m1.pos + 1 }
        have sz2 : m2.pc < m2.code.size := by show m.pc + 2 + 2 < m.code.size; rw [h.code, hp]; decide
        have w9 : m2.code.getD m2.pc 0 = 1 := by show m.code.getD (m.pc + 2 + 2) 0 = 1; rw [h.code, hp]; rfl
        have s2 := step_success (m := m2) h.outcome ha sz2 w9 h.whole h.must
        let m3 : M := { m2 with seen := m2.seen.add 1, handed := m2.pos, answer := some true }
        obtain ⟨o, hf⟩ := h.frames
        have s3 := step_back (m := m3) (b := true) h.outcome rfl hf
        have e3 : m3.step = { m3 with answer := some true, frames := [], weight := m3.weight - (1 + 0), pc := 5, pos := s, outermost := o } := by rw [s3]; rfl
        let m4 : M := { m3 with answer := some true, frames := [], weight := m3.weight - (1 + 0), pc := 5, pos := s, outermost := o }
        have s4 := step_end (m := m4) (b := true) h.outcome rfl rfl
        refine Ends.more (Ends.to h.outcome st' (Ends.to (m := m1) h.outcome s1 (Ends.to (m := m2) h.outcome s2 (Ends.to (m := m3) h.outcome e3 (Ends.to (m := m4) h.outcome s4 (n := 0) ?_))))) (by omega)
        show EndsAs (some (s, s + 1)) _
        refine ⟨rfl, h.start, ?_⟩
        show m.pos + 1 = s + 1
        rw [hpos]
      · rw [if_neg (fun q => hc q.2)]
        have s1 := step_lit_no (m := m1) h.outcome ha sz1 w7 (fun q => hc ⟨hl.mp q.1, by rw [← ht, q.2, w8]⟩)
        refine Ends.more (Ends.to h.outcome st' (Ends.to (m := m1) h.outcome s1 (fail _ (6 * k + 8) ?_ rfl (Nat.le_refl _)))) (by omega)
        exact ⟨h.code, h.text, h.lim, h.last, h.whole, h.must, h.start, h.frames, h.weight, h.outcome⟩
    · rw [if_neg (by rw [hpos, h.text]; exact hb)] at st
      rw [if_neg (fun q => hb q.1)]
      refine Ends.more (Ends.to h.outcome st (fail _ (6 * k + 8) ?_ rfl (Nat.le_refl _))) (by omega)
      exact ⟨h.code, h.text, h.lim, h.last, h.whole, h.must, h.start, h.frames, h.weight, h.outcome⟩
theorem search1 (t : Array Nat) (s : Nat) (hs : s ≤ t.size) : Ends (Sre.forSearch code1 t 0 s t.size false) (6 * t.size + 20) (if s < t.size then find1 t (t.size + 1 - s) s else none) := by
  have hh : Sre.header code1 = (1, 5) := rfl
  unfold Sre.forSearch
  simp only [hh]
  by_cases hlt : s < t.size
  · have hc : (decide (s > t.size) || decide (t.size - s < 1)) = false := by rw [decide_eq_false (by omega), decide_eq_false (by omega)]; rfl
    rw [if_neg (by rw [hc]; exact Bool.false_ne_true), if_pos hlt]
    rw [from1 (by rfl) (by show 0 + 1 ≤ _; decide)]
    exact (ends1 (t.size + 1 - s) s _ rfl hs ⟨rfl, rfl, rfl, rfl, rfl, rfl, rfl, ⟨true, rfl⟩, rfl, rfl⟩ rfl rfl rfl).more (by omega)
  · have hc : (decide (s > t.size) || decide (t.size - s < 1)) = true := by rw [decide_eq_true (show t.size - s < 1 by omega)]; exact Bool.or_true _
    rw [if_pos hc, if_neg hlt]
    refine Ends.more (Ends.to rfl (step_end (b := false) rfl rfl rfl) (n := 0) ?_) (by omega)
    show EndsAs none _
    rfl
end Mine
end

section
open PySem PySem.W PyProof.Rows PySem.Calls
set_option maxRecDepth 100000
namespace Mine
open PySem.Sre (M)

/-! the second word: a line's end -/
noncomputable def code2 : Array Nat := #[14, 9, 4, 1, 2, 16, 10, 16, 13, 0, 7, 7, 16, 13, 16, 10, 15, 18, 5, 16, 10, 15, 13, 11, 16, 13, 5, 5, 0, 16, 10, 1, 15, 2, 0, 1]
noncomputable def end2 (t : Array Nat) (s : Nat) : Nat := if t.getD s 0 = 13 ∧ s + 1 < t.size ∧ t.getD (s + 1) 0 = 10 then s + 2 else s + 1
noncomputable def first2 (t : Array Nat) : Nat → Nat → Option Nat
  | 0, _ => none
  | n + 1, s => if s ≥ t.size then none else if t.getD s 0 = 10 ∨ t.getD s 0 = 13 then some s else first2 t n (s + 1)
theorem inSet2 (c : Nat) (sn : Sre.Seen) : ∃ sn', Sre.inSet code2 c code2.size 5 true sn = .ok (c == 10 || c == 13, sn') := by
  have e1 : ∀ f sn, Sre.inSet code2 c (f + 1) 5 true sn = if c == 10 then .ok (true, sn.add 16) else Sre.inSet code2 c f 7 true (sn.add 16) := fun f sn => rfl
  have e2 : ∀ f sn, Sre.inSet code2 c (f + 1) 7 true sn = if c == 13 then .ok (true, sn.add 16) else Sre.inSet code2 c f 9 true (sn.add 16) := fun f sn => rfl
  have e3 : ∀ f sn, Sre.inSet code2 c (f + 1) 9 true sn = .ok (false, sn.add 0) := fun f sn => rfl
  rw [show code2.size = 33 + 1 + 1 + 1 from rfl, e1]
  cases h1 : c == 10 with
  | true => exact ⟨_, rfl⟩
  | false =>
    rw [if_neg Bool.false_ne_true, e2]
    cases h2 : c == 13 with
    | true => exact ⟨_, rfl⟩
    | false => rw [if_neg Bool.false_ne_true, e3]; exact ⟨_, rfl⟩
theorem adm2 {t : Array Nat} {m : M} (hc : m.code = code2) (ht : m.text = t) (hl : m.lim = t.size) : ∀ (k s : Nat) (sn : Sre.Seen), ∃ sn', m.admitted k s sn = .ok (first2 t k s, sn')
  | 0, s, sn => ⟨sn, rfl⟩
  | k + 1, s, sn => by
    unfold M.admitted first2
    by_cases h : s ≥ t.size
    · rw [if_pos (by rw [hl]; exact h), if_pos h]; exact ⟨_, rfl⟩
    · rw [if_neg (by rw [hl]; exact h), if_neg h, hc, ht]
      obtain ⟨sn1, e⟩ := inSet2 (t.getD s 0) sn
      rw [e]
      by_cases hb : t.getD s 0 = 10 ∨ t.getD s 0 = 13
      · have : (t.getD s 0 == 10 || t.getD s 0 == 13) = true := by simpa using hb
        rw [this, if_pos hb]; exact ⟨_, rfl⟩
      · have : (t.getD s 0 == 10 || t.getD s 0 == 13) = false := by simpa using hb
        rw [this, if_neg hb]
        exact adm2 hc ht hl k (s + 1) sn1
structure At2 (t : Array Nat) (s : Nat) (m : M) : Prop where
  code : m.code = code2
  text : m.text = t
  lim : m.lim = t.size
  whole : m.wholeText = false
  must : m.mustAdvance = false
  start : m.start = s
  inner : m.inner = none
  frames : ∃ f, m.frames = [f] ∧ f.wait = .nextStart ∧ f.kept.marks.size = 0
  weight : m.weight = 1
  outcome : m.outcome = none
  answer : m.answer = none
/-- the word is through: every frame hands it on -/
theorem through {s q : Nat} : ∀ (fs : List Sre.Frame) (m : M), m.outcome = none → m.answer = some true → m.frames = fs → (∀ f ∈ fs, f.wait = .nextStart ∨ f.wait = .nextBranch) → m.start = s → m.handed = q → Ends m (fs.length + 1) (some (s, q))
  | [], m, ho, ha, hf, _, hs, hh => Ends.to ho (step_end ho ha hf) (show EndsAs (some (s, q)) _ from ⟨rfl, hs, hh⟩)
  | f :: r, m, ho, ha, hf, hw, hs, hh => by
    refine Ends.by_ ho ?_
    rw [step_back ho ha hf]
    have e : ∀ m' : M, m'.resume f true = m'.say true := fun m' => by
      unfold M.resume
      rcases hw f (.head _) with w | w <;> rw [w] <;> rfl
    rw [e]
    exact through r _ ho rfl rfl (fun f h => hw f (.tail _ h)) hs hh
/-- the last word -/
theorem fin2 {t : Array Nat} {s q : Nat} {fs : List Sre.Frame} {m : M} (hc : m.code = code2) (ho : m.outcome = none) (ha : m.answer = none) (hp : m.pc = 35) (hw : m.wholeText = false) (hm : m.mustAdvance = false) (hf : m.frames = fs) (hfs : ∀ f ∈ fs, f.wait = .nextStart ∨ f.wait = .nextBranch)
    (hs : m.start = s) (hq : m.pos = q) : Ends m (fs.length + 2) (some (s, q)) := by
  have st := step_success ho ha (by rw [hc, hp]; decide) (by rw [hc, hp]; rfl) hw hm
  exact Ends.to ho st (through fs _ ho rfl hf hfs hs hq)
theorem jump2 {s q : Nat} {fs : List Sre.Frame} {m : M} (hc : m.code = code2) (ho : m.outcome = none) (ha : m.answer = none) (hp : m.pc = 16 ∨ m.pc = 21 ∨ m.pc = 32) (hw : m.wholeText = false) (hm : m.mustAdvance = false) (hf : m.frames = fs) (hfs : ∀ f ∈ fs, f.wait = .nextStart ∨ f.wait = .nextBranch)
    (hs : m.start = s) (hq : m.pos = q) : Ends m (fs.length + 3) (some (s, q)) := by
  have sz : m.pc < m.code.size := by rw [hc]; rcases hp with h | h | h <;> rw [h] <;> decide
  have w0 : m.code.getD m.pc 0 = 15 := by rw [hc]; rcases hp with h | h | h <;> rw [h] <;> rfl
  have w1 : m.pc + 1 + m.code.getD (m.pc + 1) 0 = 35 := by rw [hc]; rcases hp with h | h | h <;> rw [h] <;> rfl
  have st := step_jump ho ha sz w0
  rw [w1] at st
  exact Ends.to ho st (fin2 (t := m.text) hc ho ha rfl hw hm hf hfs hs hq)
/-- a state on the way -/
structure S2 (t : Array Nat) (s pc pos : Nat) (fs : List Sre.Frame) (ans : Option Bool) (m : M) : Prop where
  code : m.code = code2
  text : m.text = t
  lim : m.lim = t.size
  whole : m.wholeText = false
  must : m.mustAdvance = false
  start : m.start = s
  inner : m.inner = none
  frames : m.frames = fs
  weight : m.weight ≤ fs.length
  outcome : m.outcome = none
  answer : m.answer = ans
  pc : m.pc = pc
  pos : m.pos = pos
section
variable {t : Array Nat} {s pc pos : Nat} {fs : List Sre.Frame} {m : M}
theorem S2.lit_ok (h : S2 t s pc pos fs none m) (hp : pc < code2.size) (hw : code2.getD pc 0 = 16) (hl : pos < t.size) (hc : t.getD pos 0 = code2.getD (pc + 1) 0) : S2 t s (pc + 2) (pos + 1) fs none m.step := by
  rw [step_lit_ok h.outcome h.answer (by rw [h.code, h.pc]; exact hp) (by rw [h.code, h.pc]; exact hw) (by rw [h.pos, h.lim]; exact hl) (by rw [h.text, h.pos, h.code, h.pc]; exact hc)]
  exact ⟨h.code, h.text, h.lim, h.whole, h.must, h.start, h.inner, h.frames, h.weight, h.outcome, h.answer, congrArg (· + 2) h.pc, congrArg (· + 1) h.pos⟩
theorem S2.lit_no (h : S2 t s pc pos fs none m) (hp : pc < code2.size) (hw : code2.getD pc 0 = 16) (hc : ¬ (pos < t.size ∧ t.getD pos 0 = code2.getD (pc + 1) 0)) : S2 t s pc pos fs (some false) m.step := by
  rw [step_lit_no h.outcome h.answer (by rw [h.code, h.pc]; exact hp) (by rw [h.code, h.pc]; exact hw) (by rw [h.pos, h.lim, h.text, h.code, h.pc]; exact hc)]
  exact ⟨h.code, h.text, h.lim, h.whole, h.must, h.start, h.inner, h.frames, h.weight, h.outcome, rfl, h.pc, h.pos⟩
/-- a frame of a branch -/
noncomputable def Nb (pc pos : Nat) (f : Sre.Frame) : Prop := f.wait = .nextBranch ∧ f.pc = pc ∧ f.pos = pos ∧ f.kept.marks = #[] ∧ f.kept.whole = false
theorem S2.alt {alt : Nat} {kept : Sre.Kept} (h : S2 t s pc pos fs none m) (h0 : code2.getD alt 0 ≠ 0) (hk : kept.marks = #[]) (hkw : kept.whole = false) (hn : fs.length ≤ 100) : ∃ f, Nb alt pos f ∧ S2 t s (alt + 1) pos (f :: fs) none (m.alternative alt kept) := by
  unfold M.alternative
  rw [if_neg (by rw [h.code]; simpa using h0), attempt_ok (by show m.weight + 1 + kept.marks.size ≤ _; rw [hk]; have := h.weight; show m.weight + 1 + 0 ≤ _; omega)]
  refine ⟨_, ⟨rfl, rfl, h.pos, hk, hkw⟩, h.code, h.text, h.lim, h.whole, h.must, h.start, h.inner, by show _ :: m.frames = _; rw [h.frames], ?_, h.outcome, h.answer, rfl, h.pos⟩
  show m.weight + 1 + kept.marks.size ≤ _
  rw [hk]
  have := h.weight
  show m.weight + 1 + 0 ≤ fs.length + 1
  omega
theorem S2.branch (h : S2 t s 10 pos fs none m) (hn : fs.length ≤ 100) : ∃ f, Nb 11 pos f ∧ S2 t s 12 pos (f :: fs) none m.step := by
  rw [step_branch h.outcome h.answer (by rw [h.code, h.pc]; decide) (by rw [h.code, h.pc]; rfl) h.inner, show m.pc + 1 = 11 by rw [h.pc]]
  exact S2.alt (alt := 11) (kept := { lastmark := m.lastmark, lastindex := m.lastindex }) (m := { m with seen := m.seen.add 7 }) ⟨h.code, h.text, h.lim, h.whole, h.must, h.start, h.inner, h.frames, h.weight, h.outcome, h.answer, h.pc, h.pos⟩ (by decide) rfl rfl hn
/-- the next alternative -/
theorem S2.next {f : Sre.Frame} {b p : Nat} (h : S2 t s pc pos (f :: fs) (some false) m) (hf : Nb b p f) (h0 : code2.getD (b + code2.getD b 0) 0 ≠ 0) (hn : fs.length ≤ 100) : ∃ f', Nb (b + code2.getD b 0) p f' ∧ S2 t s (b + code2.getD b 0 + 1) p (f' :: fs) none m.step := by
  obtain ⟨f1, f2, f3, f4, f5⟩ := hf
  rw [step_back h.outcome h.answer h.frames]
  have hz : f.kept.marks.size = 0 := by rw [f4]; rfl
  let m0 : M := { m with answer := none, frames := fs, weight := m.weight - (1 + f.kept.marks.size), pc := f.pc, pos := f.pos, outermost := f.outermost }
  have e : m0.resume f false = (m0.putBack f.kept).alternative (b + code2.getD b 0) f.kept := by
    unfold M.resume
    rw [f1]
    show (m0.putBack f.kept).alternative (f.pc + m.code.getD f.pc 0) f.kept = _
    rw [f2, h.code]
  show ∃ f', Nb _ p f' ∧ S2 t s _ p (f' :: fs) none (m0.resume f false)
  rw [e]
  refine S2.alt (pc := b) ⟨h.code, h.text, h.lim, h.whole, h.must, h.start, h.inner, rfl, ?_, h.outcome, rfl, f2, f3⟩ h0 f4 f5 hn
  show m.weight - (1 + f.kept.marks.size) ≤ _
  have := h.weight
  rw [hz]
  rw [List.length_cons] at this
  omega
theorem S2.jump {q : Nat} (h : S2 t s pc q fs none m) (hp : pc = 16 ∨ pc = 21 ∨ pc = 32) (hfs : ∀ f ∈ fs, f.wait = .nextStart ∨ f.wait = .nextBranch) : Ends m (fs.length + 3) (some (s, q)) :=
  jump2 h.code h.outcome h.answer (by rw [h.pc]; exact hp) h.whole h.must h.frames hfs h.start h.pos
theorem S2.to {ans : Option Bool} {n : Nat} {r : Option (Nat × Nat)} (h : S2 t s pc pos fs ans m) (e : Ends m.step n r) : Ends m (n + 1) r := Ends.by_ h.outcome e
theorem S2.notAhead (h : S2 t s 26 pos fs none m) (hn : fs.length ≤ 100) (hc : ¬ (pos < t.size ∧ t.getD pos 0 = 10)) (hfs : ∀ f ∈ fs, f.wait = .nextStart ∨ f.wait = .nextBranch) : Ends m (fs.length + 6) (some (s, pos)) := by
  refine h.to ?_
  rw [step_assertNot h.outcome h.answer (by rw [h.code, h.pc]; decide) (by rw [h.code, h.pc]; rfl) (by rw [h.code, h.pc]; rfl) h.inner, attempt_ok (by show m.weight + 1 + 0 ≤ _; have := h.weight; omega)]
  let fL : Sre.Frame := { ({ m with seen := m.seen.add 5 } : M).frame .lookNot with kept := { lastmark := m.lastmark, lastindex := m.lastindex } }
  let m1 : M := { m with seen := m.seen.add 5, frames := fL :: m.frames, weight := m.weight + 1 + 0, pc := m.pc + 3, pos := m.pos, handed := m.pos, outermost := false }
  show Ends m1 _ _
  have h1 : S2 t s 29 pos (fL :: fs) none m1 := ⟨h.code, h.text, h.lim, h.whole, h.must, h.start, h.inner, by show _ :: m.frames = _; rw [h.frames], by have := h.weight; show m.weight + 1 + 0 ≤ fs.length + 1; omega, h.outcome, h.answer, congrArg (· + 3) h.pc, h.pos⟩
  have h2 := h1.lit_no (by decide) (by rfl) hc
  refine h1.to (h2.to ?_)
  rw [step_back h2.outcome h2.answer h2.frames]
  let m3 : M := { m1.step with answer := none, frames := fs, weight := m1.step.weight - (1 + 0), pc := fL.pc, pos := fL.pos, outermost := fL.outermost }
  have e : m3.resume fL false = { m3.putBack fL.kept with pc := m3.pc + 1 + m3.word 1 } := rfl
  show Ends (m3.resume fL false) _ _
  rw [e]
  have w1 : m3.pc + 1 + m3.word 1 = 32 := by
    show m.pc + 1 + m1.step.code.getD (m.pc + 1) 0 = 32
    rw [h2.code, h.pc]; rfl
  rw [w1]
  have h3 : S2 t s 32 pos fs none { m3.putBack fL.kept with pc := 32 } := ⟨h2.code, h2.text, h2.lim, h2.whole, h2.must, h2.start, h2.inner, rfl, by
    have := h2.weight
    rw [List.length_cons] at this
    show m1.step.weight - (1 + 0) ≤ _
    omega, h2.outcome, rfl, rfl, h.pos⟩
  exact (h3.jump (.inr (.inr rfl)) hfs).more (by omega)
theorem ends2 {f : Sre.Frame} (h : S2 t s 10 s [f] none m) (hf : f.wait = .nextStart) (hs : s < t.size) (hc : t.getD s 0 = 10 ∨ t.getD s 0 = 13) : Ends m 40 (some (s, end2 t s)) := by
  obtain ⟨f1, n1, h1⟩ := h.branch (by simp)
  have fsw : ∀ {b p : Nat} {g : Sre.Frame}, Nb b p g → ∀ x ∈ [g, f], x.wait = .nextStart ∨ x.wait = .nextBranch := fun n x hx => by
    rcases List.mem_cons.mp hx with rfl | hx
    · exact .inr n.1
    · rcases List.mem_cons.mp hx with rfl | hx
      · exact .inl hf
      · cases hx
  by_cases c13 : t.getD s 0 = 13
  · have h2 := h1.lit_ok (by decide) (by rfl) hs (by rw [c13]; rfl)
    by_cases cn : s + 1 < t.size ∧ t.getD (s + 1) 0 = 10
    · have e : end2 t s = s + 1 + 1 := by unfold end2; rw [if_pos ⟨c13, cn⟩]
      rw [e]
      have h3 := h2.lit_ok (by decide) (by rfl) cn.1 (by rw [cn.2]; rfl)
      exact (h.to (h1.to (h2.to (h3.jump (.inl rfl) (fsw n1))))).more (by simp)
    · have e : end2 t s = s + 1 := by unfold end2; rw [if_neg (fun q => cn q.2)]
      rw [e]
      have h3 := h2.lit_no (by decide) (by rfl) cn
      obtain ⟨f2, n2, h4⟩ := h3.next n1 (by decide) (by simp)
      have h5 := h4.lit_no (by decide) (by rfl) (fun q => by
        have := q.2
        rw [c13] at this
        exact absurd this (by decide))
      obtain ⟨f3, n3, h6⟩ := h5.next n2 (by decide) (by simp)
      have h7 := h6.lit_ok (by decide) (by rfl) hs (by rw [c13]; rfl)
      exact (h.to (h1.to (h2.to (h3.to (h4.to (h5.to (h6.to (h7.notAhead (by simp) cn (fsw n3))))))))).more (by simp)
  · have c10 : t.getD s 0 = 10 := hc.resolve_right c13
    have e : end2 t s = s + 1 := by unfold end2; rw [if_neg (fun q => c13 q.1)]
    rw [e]
    have h2 := h1.lit_no (by decide) (by rfl) (fun q => c13 q.2)
    obtain ⟨f2, n2, h3⟩ := h2.next n1 (by decide) (by simp)
    have h4 := h3.lit_ok (by decide) (by rfl) hs (by rw [c10]; rfl)
    exact (h.to (h1.to (h2.to (h3.to (h4.jump (.inr (.inl rfl)) (fsw n2)))))).more (by simp)
end
theorem first2_at {t : Array Nat} : ∀ (k s : Nat) {p : Nat}, first2 t k s = some p → p < t.size ∧ (t.getD p 0 = 10 ∨ t.getD p 0 = 13)
  | 0, _, _, h => by cases h
  | k + 1, s, p, h => by
    unfold first2 at h
    split at h
    · exact nomatch h
    · split at h
      · obtain rfl := Option.some.inj h; exact ⟨by omega, by assumption⟩
      · exact first2_at k (s + 1) h
theorem from2 {t : Array Nat} {m : M} (hc : m.code = code2) (ht : m.text = t) (hl : m.lim = t.size) (s : Nat) (b : Bool) :
    (∃ sn p, first2 t (t.size + 1 - s) s = some p ∧ m.attemptFrom s b = ({ m with mustAdvance := false, seen := sn } : M).attemptAt p b) ∨ (first2 t (t.size + 1 - s) s = none ∧ ∃ sn, m.attemptFrom s b = ({ m with seen := sn } : M).say false) := by
  have hf : m.hasFirstSet = true := by unfold M.hasFirstSet; rw [hc]; rfl
  obtain ⟨sn, e⟩ := adm2 hc ht hl (t.size + 1 - s) s m.seen
  unfold M.attemptFrom
  rw [hf, hl, e]
  cases q : first2 t (t.size + 1 - s) s with
  | none => exact .inr ⟨rfl, sn, rfl⟩
  | some p => exact .inl ⟨sn, p, rfl, rfl⟩
theorem search2_aux {t : Array Nat} {s : Nat} {m : M} (hc : m.code = code2) (ht : m.text = t) (hl : m.lim = t.size) (hw : m.wholeText = false) (hi : m.inner = none) (hwt : m.weight = 0) (hf : m.frames = []) (ho : m.outcome = none) (ha : m.answer = none) (hp : m.pc = 10) :
    Ends (m.attemptFrom s true) 50 ((first2 t (t.size + 1 - s) s).map (fun p => (p, end2 t p))) := by
  rcases from2 hc ht hl s true with ⟨sn, p, e1, e2⟩ | ⟨e1, sn, e2⟩
  · rw [e1, e2]
    obtain ⟨hlt, hcc⟩ := first2_at _ _ e1
    unfold M.attemptAt
    rw [attempt_ok (by show m.weight + 1 + 0 ≤ _; rw [hwt]; decide)]
    refine Ends.more (n := 40) (ends2 (t := t) (s := p) (f := { wait := .nextStart, pc := m.pc, pos := p, outermost := true }) ⟨hc, ht, hl, hw, rfl, rfl, hi, ?_, ?_, ho, ha, hp, rfl⟩ rfl hlt hcc) (by decide)
    · show _ :: m.frames = _
      rw [hf]
    · show m.weight + 1 + 0 ≤ 1
      rw [hwt]; decide
  · rw [e1, e2]
    exact Ends.more (Ends.to (m := { m with seen := sn, answer := some false }) ho (step_end ho rfl hf) (n := 0) (show EndsAs none _ from rfl)) (by decide)
theorem search2 (t : Array Nat) (s : Nat) : Ends (Sre.forSearch code2 t 0 s t.size false) 50 (if s < t.size then (first2 t (t.size + 1 - s) s).map (fun p => (p, end2 t p)) else none) := by
  have hh : Sre.header code2 = (1, 10) := rfl
  unfold Sre.forSearch
  simp only [hh]
  by_cases hlt : s < t.size
  · have hc : (decide (s > t.size) || decide (t.size - s < 1)) = false := by rw [decide_eq_false (by omega), decide_eq_false (by omega)]; rfl
    rw [if_neg (by rw [hc]; exact Bool.false_ne_true), if_pos hlt]
    exact search2_aux rfl rfl rfl rfl rfl rfl rfl rfl rfl rfl
  · have hc : (decide (s > t.size) || decide (t.size - s < 1)) = true := by rw [decide_eq_true (show t.size - s < 1 by omega)]; exact Bool.or_true _
    rw [if_pos hc, if_neg hlt]
    refine Ends.more (Ends.to rfl (step_end (b := false) rfl rfl rfl) (n := 0) ?_) (by omega)
    show EndsAs none _
    rfl
end Mine
end

section
open PySem PySem.W PyProof.Rows PySem.Calls
set_option maxRecDepth 100000
namespace Mine
open PySem.Sre (M)
open PySem.Builtin (Re.reDrive Re.reRunToEnd Re.reWholeTarget Re.reNextFound)
open PySem.Builtin.Re

section
variable {w : World} {A : Around} {s : Shared} {E : Value → Shared → Prop}
theorem wp_drive {r : Option (Nat × Nat)} : ∀ (turns : Nat) (m : M) (n : Nat) {Q : M → Shared → Prop}, Ends m n r → n ≤ 4 * turns → 0 < turns → (∀ mf, EndsAs r mf → Q mf s) → wpAny (MM w) A (reDrive turns m) Q E s
  | 0, _, _, _, _, _, h0, _ => absurd h0 (Nat.lt_irrefl _)
  | turns + 1, m, n, Q, h, hn, _, hq => by
    unfold reDrive
    dsimp only
    by_cases hs : (m.runFor reTurnSteps).outcome.isSome = true
    · rw [if_pos hs]
      refine wpAny_pure (hq _ ?_)
      have : Ends (m.runFor reTurnSteps) n r := by
        unfold Ends at h ⊢
        rw [← run_add, Nat.add_comm, run_add, run_done (EndsAs.some h)]
        exact h
      unfold Ends at this
      rw [run_done hs] at this
      exact this
    · rw [if_neg hs]
      have h4 : 4 ≤ n := Classical.byContradiction fun q => hs (by
        have h' := h.more (show n ≤ 4 by omega)
        exact EndsAs.some h')
      have h' : Ends (m.runFor reTurnSteps) (n - 4) r := by
        unfold Ends at h ⊢
        rw [← run_add]
        rw [show reTurnSteps + (n - 4) = n from by show 4 + (n - 4) = n; omega]
        exact h
      have ht : 0 < turns := Nat.pos_of_ne_zero fun z => by
        subst z
        have hn4 : n = 4 := by omega
        subst hn4
        exact hs (EndsAs.some h)
      exact wpAny_bind (wpAny_rule (wp_drive turns _ (n - 4) h' (by omega) ht hq))
theorem wp_rules {l : List Nat} {c : Nat → Bool} {nm : Nat → String} {Q : PUnit → Shared → Prop} (h : Q ⟨⟩ s) : wpAny (MM w) A (forIn l PUnit.unit fun i _ => if c i = true then (do rule (nm i); pure (ForInStep.yield PUnit.unit)) else pure (ForInStep.yield PUnit.unit)) Q E s := by
  induction l generalizing s with
  | nil => rw [List.forIn_nil]; exact wpAny_pure h
  | cons x l ih =>
    rw [List.forIn_cons]
    split
    · exact wpAny_bind (wpAny_bind (wpAny_rule (wpAny_pure (ih h))))
    · exact wpAny_bind (wpAny_pure (ih h))
theorem wp_toEnd {r : Option (Nat × Nat)} {m : M} {n : Nat} {Q : Option M → Shared → Prop} (h : Ends m n r) (hn : n ≤ 2 ^ 60) (hq : match r with | none => Q none s | some (p, q) => ∀ mf : M, mf.start = p → mf.handed = q → Q (some mf) s) : wpAny (MM w) A (reRunToEnd m) Q E s := by
  unfold reRunToEnd
  refine wpAny_bind (wp_drive (2 ^ 64) m n h (by omega) (by decide) fun mf hmf => ?_)
  refine wpAny_bind ?_
  refine wp_rules (l := List.range Sre.names.size) (c := fun i => mf.seen.has i) (nm := fun i => Sre.names.getD i "") ?_
  cases r with
  | none =>
    rw [show mf.outcome = some .failed from hmf]
    exact wpAny_pure hq
  | some pq =>
    obtain ⟨p, q⟩ := pq
    obtain ⟨h1, h2, h3⟩ := hmf
    rw [h1]
    exact wpAny_pure (hq mf h2 h3)
end
theorem entry_loop : entryFor table "re.Pattern.sub.loop" = some Builtin.«re.Pattern.sub.loop» := entryFor_of_tree (by kernel_rfl)
theorem entry_sub : entryFor table "re.Pattern.sub" = some Builtin.«re.Pattern.sub» := entryFor_of_tree (by kernel_rfl)
theorem plainAttrs_re : PlainAttrs "re.Pattern" :=
  ⟨⟨"object.__getattribute__", by rw [typeLookup_type, builtinLookup_eq_fast]; kernel_rfl, by decide +kernel⟩, by rw [typeLookup_type, builtinLookup_eq_fast]; kernel_rfl⟩
theorem slot_re_sub : Slot "re.Pattern" "sub" "re.Pattern.sub" :=
  .of (owner := "re.Pattern") (n := "sub") (by rw [typeLookup_type, builtinLookup_eq_fast]; kernel_rfl) (by decide +kernel) (by decide +kernel) (by decide +kernel)
    (by first | exact .inl (by decide +kernel) | exact .inr (by decide +kernel)) (by rw [isSubtype_type]; kernel_rfl)
theorem type_re_sub : typeOf (.builtin "re.Pattern.sub") = pure (.type "method_descriptor") := by show builtinType _ = _; rw [builtinType_eq_fast]; kernel_rfl
theorem args_re_sub_3 (a b c : Value) : argsOk "re.Pattern.sub" ⟨[a, b, c], []⟩ := by
  unfold argsOk; kernel_rfl
end Mine
end

section
open PySem PySem.W PyProof.Rows PySem.Calls
set_option maxRecDepth 100000
namespace Mine
open PySem.Sre (M)
open PySem.Builtin.Re

/-! what sub makes of a text -/
noncomputable def subGo (fnd : Nat → Option (Nat × Nat)) (t : Array Nat) (repl : List Nat) : Nat → Nat → List Nat
  | 0, _ => []
  | k + 1, d => match fnd d with
    | some (p, q) => (t.extract d p).toList ++ repl ++ subGo fnd t repl k q
    | none => (t.extract d t.size).toList
noncomputable def flatS (ts : List Str) : List Nat := (ts.map (·.cps.toList)).flatten
theorem join_flat : ∀ ts : List Str, (Str.join Str.empty ts).cps.toList = flatS ts
  | [] => rfl
  | [x] => by show x.cps.toList = _; simp [flatS]
  | x :: y :: r => by
    show (x ++ Str.empty ++ Str.join Str.empty (y :: r)).cps.toList = _
    have ih := join_flat (y :: r)
    show ((x.cps ++ #[]) ++ (Str.join Str.empty (y :: r)).cps).toList = _
    rw [Array.toList_append, ih]
    simp [flatS]
noncomputable def lenS (ts : List Str) : Nat := (ts.map (·.length)).sum
theorem joinOk_empty {ts : List Str} (h : lenS ts ≤ 1000000) : JoinOk Str.empty ts = true := by
  unfold JoinOk
  rw [StrLaws.joinTotal]
  have e : Str.empty.length = 0 := rfl
  rw [e, Nat.mul_zero, Nat.add_zero, Bool.not_eq_true']
  have hs : sizeLine = 2 ^ 24 := rfl
  unfold Builtin.Str.tooLong
  exact decide_eq_false (by have : lenS ts = (ts.map (·.length)).sum := rfl; omega)

/-- a pattern of the module as it lies in the heap -/
structure PatAt (h : Heap) (a : Addr) (code : Array Nat) : Prop where
  o : ∃ vs, h.get? a = some { cls := .type "re.Pattern", data := .fields vs } ∧ reRawNat (vs.getD 6 .none) = 0 ∧ reRawNat (vs.getD 2 .none) = 0 ∧
    ∃ c items n, vs.getD 5 .none = .ref c ∧ h.get? c = some { cls := .type "tuple", data := .seq items n } ∧ (items.map reRawOf).map (·.toNat) = code

section
variable {w : World} {A : Around} {s : Shared} {E : Value → Shared → Prop}
theorem wp_target {pa : Addr} {code : Array Nat} {x : Str} {t : Tok} {Q : ReTarget → Shared → Prop} (hp : PatAt s.heap pa code) (h : Q { pattern := .ref pa, string := .str x t, code := code, text := x.cps, kind := 0, groups := 0, pos := 0, lim := x.cps.size } s) : wpAny (MM w) A (reWholeTarget (.ref pa) (.str x t)) Q E s := by
  obtain ⟨vs, e, h6, h2, c, items, n, h5, ec, hc⟩ := hp.o
  unfold reWholeTarget
  refine wpAny_bind (wpAny_fieldsOf e rfl ?_)
  refine wpAny_bind (m := reTextOf (.str x t)) ?_
  unfold reTextOf
  refine wpAny_bind (m := asStr? (.str x t)) (wpAny_pure ?_)
  refine wpAny_pure ?_
  simp only [h6]
  refine wpAny_ite_false (decide_eq_false (by decide)) ?_
  refine wpAny_ite_false (decide_eq_false (by decide)) ?_
  unfold reNoCollectionInside
  refine wpAny_bind (wpAny_ite_false (decide_eq_false (by decide)) ?_)
  refine wpAny_pure ?_
  rw [h5]
  unfold reRawItems
  refine wpAny_bind (wpAny_bind (wpAny_seqItems ec rfl (wpAny_pure ?_)))
  refine wpAny_pure ?_
  simp only [Option.getD_some, hc, h2]
  exact h
end
end Mine
end

section
open PySem PySem.W PyProof.Rows PySem.Calls
set_option maxRecDepth 100000
namespace Mine
open PySem.Sre (M)
open PySem.Builtin.Re

theorem PatAt.kept {h h' : Heap} {a : Addr} {code : Array Nat} (x : PatAt h a code) (k : ∀ b o, (o.cls = .type "re.Pattern" ∨ o.cls = .type "tuple") → h.get? b = some o → h'.get? b = some o) : PatAt h' a code := by
  obtain ⟨vs, e, h6, h2, c, items, n, h5, ec, hc⟩ := x.o
  exact ⟨vs, k _ _ (.inl rfl) e, h6, h2, c, items, n, h5, k _ _ (.inr rfl) ec, hc⟩
theorem lenS_snoc (ts : List Str) (x : Str) : lenS (ts ++ [x]) = lenS ts + x.length := by simp [lenS]
theorem flatS_snoc (ts : List Str) (x : Str) : flatS (ts ++ [x]) = flatS ts ++ x.cps.toList := by simp [flatS]
theorem strValues_snoc (l : List (Str × Tok)) (x : Str) (t : Tok) : strValues (l ++ [(x, t)]) = strValues l ++ [.str x t] := by simp [strValues]

section
variable {w : World} {A : Around} {s : Shared} {E : Value → Shared → Prop}
/-- one more piece -/
theorem wp_piece {L : Addr} {l : List (Str × Tok)} {n : Nat} {x : Str} {t : Tok} {Q : Unit → Shared → Prop} (e : s.heap.get? L = some { cls := .type "list", data := .seq (strValues l).toArray n }) (hz : l.length ≤ 1000000)
    (h : ∀ h' n', Heap.SameBut L s.heap h' → h'.get? L = some { cls := .type "list", data := .seq (strValues (l ++ [(x, t)])).toArray n' } → Q () { s with heap := h' }) : wpAny (MM w) A (updateSeq L (·.push (.str x t))) Q E s := by
  have hs : sizeLine = 2 ^ 24 := rfl
  have hl : (strValues l).length = l.length := by simp [strValues]
  refine wpAny_updateSeq e rfl (h _ (if ((strValues l).toArray.push (.str x t)).size == (strValues l).toArray.size then n else n + 1) (Heap.SameBut.update ..) ?_) (by simp only [List.size_toArray]; omega) (by simp only [Array.size_push, List.size_toArray]; omega)
  rw [Heap.get?_update_self _ e rfl, strValues_snoc]
  simp [Obj.mapSeq]

theorem codeAny_bi {id : String} {args : Args} {b : Builtin} {R : Result → Shared → Prop} (hb : entryFor table id = some b)
    (h : wpAny (MM w) (A.under (.builtin id args)) (b args) (fun fin s' => match fin with | .done f => R (.ok f) s' | .again c' => c'.quiet = true ∧ codeAny (MM w) A c' R s') (fun e s' => R (.error e) s') s) : codeAny (MM w) A (.builtin id args) R s := by
  refine codeAny_of_tree ?_
  show wpAny _ _ (match entryFor table id with | some b => b args | none => unsupported ((withoutEnding? id "#data").getD id)) _ _ s
  rw [hb]; exact h
theorem sub_tail {x : Str} {L : Addr} {l : List (Str × Tok)} {m : Nat} {n : Int} {Q : Fin → Shared → Prop} (eL : s.heap.get? L = some { cls := .type "list", data := .seq (strValues l).toArray m }) (hlen : lenS (l.map (·.1)) ≤ 1000000)
    (h : ∀ z tz tk, z.cps.toList = flatS (l.map (·.1)) → Q (.done (.ret (.str z tz))) { s with toks := tk }) :
    wpAny (MM w) A (reSlice x.cps 0 0 0 >>= fun joiner => seqItems? (.ref L) >>= fun it => if (it.getD #[]).isEmpty = true then (pure joiner >>= fun text => if false = true then (holding [text] (mkInt n >>= fun i => newTuple [text, i]) >>= fun v => ret v) else ret text)
      else (call (.builtin (if ((0 : Nat) == 0) = true then "str.join" else "bytes.join")) [joiner, .ref L] >>= fun text => if false = true then (holding [text] (mkInt n >>= fun i => newTuple [text, i]) >>= fun v => ret v) else ret text)) Q E s := by
  have hline : sizeLine = 2 ^ 24 := rfl
  unfold reSlice
  refine wpAny_bind (wpAny_ite_true (decide_eq_true (by decide)) ?_)
  have e0 : x.cps.extract 0 0 = #[] := by simp
  rw [e0]
  refine wpAny_mkStr ?_ (by show 0 ≤ _; omega)
  refine wpAny_bind (wpAny_seqItems eL rfl ?_)
  simp only [Option.getD_some]
  refine wpAny_ite ?_
  cases l with
  | nil =>
    rw [if_pos (by simp [strValues])]
    refine wpAny_bind (wpAny_pure (wpAny_ite ?_))
    rw [if_neg Bool.false_ne_true]
    exact wpAny_pure (h ⟨#[]⟩ _ _ rfl)
  | cons p l =>
    rw [if_neg (by simp [strValues])]
    rw [if_pos (show ((0 : Nat) == 0) = true by decide)]
    refine wpAny_bind (SC.join (x := ⟨#[]⟩) (isList_of eL) rfl (joinOk_empty hlen) fun t' k => wpAny_ite ?_)
    rw [if_neg Bool.false_ne_true]
    refine wpAny_pure (h _ _ _ ?_)
    have e : Txt.join ⟨#[]⟩ ((p :: l).map (·.1)) = Str.join Str.empty ((p :: l).map (·.1)) := StrLaws.glued_eq_join _ _
    rw [e]
    exact join_flat _
theorem sub_loop {pa L : Addr} {code : Array Nat} {x r : Str} {tx tr : Tok} {fnd : Nat → Option (Nat × Nat)} {nb : Nat} {R : Result → Shared → Prop} (hx : x.length ≤ 100000) (hr : r.length ≤ 2) (hnb : nb ≤ 2 ^ 60)
    (hs : ∀ d, d ≤ x.cps.size → Ends (Sre.forSearch code x.cps 0 d x.cps.size false) nb (fnd d)) (hf : ∀ d p q, d ≤ x.cps.size → fnd d = some (p, q) → d ≤ p ∧ p < q ∧ q ≤ x.cps.size) :
    ∀ (k d : Nat) (s : Shared) (l : List (Str × Tok)) (n : Int) (m : Nat), x.cps.size + 1 - d ≤ k → d ≤ x.cps.size → PatAt s.heap pa code → s.heap.get? L = some { cls := .type "list", data := .seq (strValues l).toArray m } →
      l.length ≤ 2 * d → lenS (l.map (·.1)) ≤ 3 * d →
      (∀ (z : Str) (tz : Tok) (s' : Shared), z.cps.toList = flatS (l.map (·.1)) ++ subGo fnd x.cps r.cps.toList k d → (∃ h' tk, s' = { s with heap := h', toks := tk } ∧ Heap.SameBut L s.heap h' ∧ ∃ o, h'.get? L = some o) → R (.ok (.ret (.str z tz))) s') →
      codeAny (MM w) A (.builtin "re.Pattern.sub.loop" ⟨[.ref pa, .str x tx, .str r tr, rawInt 0, rawInt 0, rawInt n, rawInt d, rawInt d, .bool false, .ref L, .bool false], []⟩) R s
  | 0, d, s, l, n, m, hk, hd, _, _, _, _, _ => by omega
  | k + 1, d, s, l, n, m, hk, hd, hp, eL, hl, hlen, h => by
    have hsz : x.cps.size = x.length := rfl
    have hline : sizeLine = 2 ^ 24 := rfl
    -- what the list keeps
    have pk : ∀ {s : Shared} {h' : Heap} {l : List (Str × Tok)} {m : Nat}, s.heap.get? L = some { cls := .type "list", data := .seq (strValues l).toArray m } → PatAt s.heap pa code → Heap.SameBut L s.heap h' → PatAt h' pa code := fun eL hp hs' => hp.kept fun b o c e => (hs'.2 b fun z => by
      subst z
      rw [eL] at e; obtain rfl := Option.some.inj e
      rcases c with c | c <;> simp at c).trans e
    refine codeAny_bi entry_loop ?_
    unfold Builtin.«re.Pattern.sub.loop» rawInt
    dsimp only
    refine wpAny_bind (wp_target hp ?_)
    unfold reLiteralCannotBeTurned
    refine wpAny_bind (wpAny_bind (m := asStr? (.str r tr)) (wpAny_pure ?_))
    refine wpAny_pure ?_
    unfold reNextFound
    refine wpAny_bind (wpAny_ite_false (decide_eq_false (by simp)) ?_)
    rw [Int.toNat_natCast]
    refine wp_toEnd (hs d hd) hnb ?_
    cases hq : fnd d with
    | some pq =>
      obtain ⟨p, q⟩ := pq
      obtain ⟨h1, h2, h3⟩ := hf d p q hd hq
      intro mf hp1 hq1
      dsimp only
      rw [hp1, hq1]
      -- the last step: the replacement's own piece
      have last : ∀ (s1 : Shared) (l1 : List (Str × Tok)) (m1 : Nat), PatAt s1.heap pa code → s1.heap.get? L = some { cls := .type "list", data := .seq (strValues l1).toArray m1 } → l1.length ≤ 2 * d + 1 → lenS (l1.map (·.1)) ≤ 3 * d + (p - d) →
          flatS (l1.map (·.1)) = flatS (l.map (·.1)) ++ (x.cps.extract d p).toList → (∃ h' tk, s1 = { s with heap := h', toks := tk } ∧ Heap.SameBut L s.heap h') →
          ∀ AA, wpAny (MM w) AA (updateSeq L (·.push (.str r tr))) (fun _ s2 => codeAny (MM w) A (.builtin "re.Pattern.sub.loop" ⟨[.ref pa, .str x tx, .str r tr, rawInt 0, rawInt 0, rawInt (n + 1), rawInt q, rawInt q, .bool false, .ref L, .bool false], []⟩) R s2) (fun _ _ => False) s1 := by
        intro s1 l1 m1 hp' eL' hl1 hlen1 hfl ⟨h0, tk0, es, hs0⟩ AA
        subst es
        refine wp_piece eL' (by omega) fun h' n' hs' e' => ?_
        refine sub_loop hx hr hnb hs hf k q { s with heap := h', toks := tk0 } (l1 ++ [(r, tr)]) (n + 1) n' (by omega) h3 (pk eL' hp' hs') e' (by rw [List.length_append]; show l1.length + 1 ≤ _; omega) ?_ fun z tz s' hz ⟨h'', tk, es', hs'', ho⟩ => h z tz s' ?_ ⟨h'', tk, es', hs0.trans (hs'.trans hs''), ho⟩
        · rw [List.map_append, List.map_cons, List.map_nil, lenS_snoc]; show _ + r.length ≤ _; omega
        · have e : subGo fnd x.cps r.cps.toList (k + 1) d = (x.cps.extract d p).toList ++ r.cps.toList ++ subGo fnd x.cps r.cps.toList k q := by
            show (match fnd d with | some (p, q) => _ | none => _) = _
            rw [hq]
          rw [hz, List.map_append, List.map_cons, List.map_nil, flatS_snoc, hfl, e]
          simp
      have must : (q == p) = false := by simp; omega
      rw [must]
      by_cases hdp : d < p
      · rw [if_pos hdp]
        unfold reSlice
        have hsl : (x.cps.extract d p).size = p - d := by rw [Array.size_extract]; omega
        refine wpAny_bind (wpAny_ite_true (decide_eq_true (by decide)) ?_)
        refine wpAny_mkStr ?_ (by show (x.cps.extract d p).size ≤ _; omega)
        refine wpAny_bind (wp_piece eL (by omega) fun h' n' hs' e' => wpAny_ite_true (decide_eq_true (by decide)) ?_)
        refine wpAny_bind (wpAny_pure (wpAny_ite_true (decide_eq_true (show (Value.str r tr != Value.none) = true from rfl)) ?_))
        refine wpAny_bind (wpAny_mono (last _ (l ++ [(⟨x.cps.extract d p⟩, s.toks)]) n' (pk eL hp hs') e' (by rw [List.length_append]; show l.length + 1 ≤ _; omega) ?_ ?_ ⟨h', _, rfl, hs'⟩ _) (fun _ s2 h2 => wpAny_pure ⟨Code.quiet_builtin _ (by decide +kernel), h2⟩) fun _ _ q => q.elim)
        · rw [List.map_append, List.map_cons, List.map_nil, lenS_snoc]
          show _ + (x.cps.extract d p).size ≤ _
          omega
        · rw [List.map_append, List.map_cons, List.map_nil, flatS_snoc]
      · rw [if_neg hdp]
        have epd : p = d := by omega
        refine wpAny_ite_true (decide_eq_true (by decide)) ?_
        refine wpAny_bind (wpAny_pure (wpAny_ite_true (decide_eq_true (show (Value.str r tr != Value.none) = true from rfl)) ?_))
        refine wpAny_bind (wpAny_mono (last s l m hp eL (by omega) (by omega) ?_ ⟨s.heap, s.toks, rfl, .refl ..⟩ _) (fun _ s2 h2 => wpAny_pure ⟨Code.quiet_builtin _ (by decide +kernel), h2⟩) fun _ _ q => q.elim)
        rw [epd]; simp
    | none =>
      dsimp only
      have eg : subGo fnd x.cps r.cps.toList (k + 1) d = (x.cps.extract d x.cps.size).toList := by
        show (match fnd d with | some (p, q) => _ | none => _) = _
        rw [hq]
      by_cases hdp : d < x.cps.size
      · rw [if_pos hdp]
        have hsl : (x.cps.extract d x.cps.size).size = x.cps.size - d := by rw [Array.size_extract]; omega
        refine wpAny_bind (m := reSlice x.cps 0 d x.cps.size) ?_
        unfold reSlice
        refine wpAny_ite_true (decide_eq_true (by decide)) ?_
        refine wpAny_mkStr ?_ (by show (x.cps.extract d x.cps.size).size ≤ _; omega)
        refine wpAny_bind (wp_piece eL (by omega) fun h' n' hs' e' => ?_)
        refine sub_tail (x := x) e' ?_ fun z tz tk hz => h z tz _ ?_ ⟨h', _, rfl, hs', _, e'⟩
        · rw [List.map_append, List.map_cons, List.map_nil, lenS_snoc]
          show _ + (x.cps.extract d x.cps.size).size ≤ _
          omega
        · rw [hz, List.map_append, List.map_cons, List.map_nil, flatS_snoc, eg]
      · rw [if_neg hdp]
        have : d = x.cps.size := by omega
        refine sub_tail (x := x) eL (by omega) fun z tz tk hz => h z tz _ ?_ ⟨s.heap, _, rfl, .refl .., _, eL⟩
        rw [hz, eg, this]; simp
end
end Mine
end

section
open PySem PySem.W PyProof.Rows PySem.Calls
set_option maxRecDepth 100000
namespace Mine
open PySem.Sre (M)
open PySem.Builtin.Re

theorem named_sub (r x : Value) : reNamed "re.Pattern.sub" "sub" ["repl", "string", "count"] 2 [r, x] [] = pure [some r, some x, none] := by rfl
theorem str_no_call : typeLookup (.type "str") (Str.ofString "__call__") = pure none := by rw [typeLookup_type, builtinLookup_eq_fast]; kernel_rfl

section
variable {w : World} {A : Around} {s : Shared} {E : Value → Shared → Prop}
theorem call_sub {pa : Addr} {code : Array Nat} {x r : Str} {tx tr : Tok} {fnd : Nat → Option (Nat × Nat)} {nb : Nat} {Q : Value → Shared → Prop} (hx : x.length ≤ 100000) (hr : r.length ≤ 2) (h92 : r.cps.contains 92 = false) (hnb : nb ≤ 2 ^ 60)
    (hs : ∀ d, d ≤ x.cps.size → Ends (Sre.forSearch code x.cps 0 d x.cps.size false) nb (fnd d)) (hf : ∀ d p q, d ≤ x.cps.size → fnd d = some (p, q) → d ≤ p ∧ p < q ∧ q ≤ x.cps.size) (hp : PatAt s.heap pa code)
    (h : ∀ z tz s', Step s s' → z.cps.toList = subGo fnd x.cps r.cps.toList (x.cps.size + 1) 0 → Q (.str z tz) s') : wpAny (MM w) A (call (.builtin "re.Pattern.sub") [.ref pa, .str r tr, .str x tx]) Q E s := by
  have hT : s.TypeIs (.ref pa) "re.Pattern" := by obtain ⟨vs, e, _⟩ := hp.o; exact ⟨_, e, rfl⟩
  refine wpAny_call (codeAny_call_builtin slot_re_sub.plain entry_sub (slot_re_sub.check _ _ _ _ _ _ _ _ hT (args_re_sub_3 _ _ _) ?_))
  show wpAny _ _ (reSubstitute "re.Pattern.sub" "sub" false ⟨[.ref pa, .str r tr, .str x tx], []⟩) _ _ s
  unfold reSubstitute
  dsimp only
  refine wpAny_bind (wpAny_of_eq (named_sub _ _) ?_)
  dsimp only
  refine wpAny_bind (wpAny_pure ?_)
  refine wpAny_bind (wpAny_specialOf (typeIs_str s r tr) str_no_call ?_)
  refine wpAny_ite_false (decide_eq_false (by simp)) ?_
  refine wpAny_bind (m := asStr? (.str r tr)) (wpAny_pure ?_)
  dsimp only
  refine wpAny_bind (wpAny_pure ?_)
  refine wpAny_ite_false (decide_eq_false (by simp)) ?_
  refine wpAny_ite_true (decide_eq_true (by rw [h92]; rfl)) ?_
  refine wpAny_bind (wpAny_pure ?_)
  refine wpAny_bind (wpAny_holding (wp_target hp ?_))
  refine wpAny_ite_false (decide_eq_false (by simp)) ?_
  refine wpAny_bind (wpAny_newList ?_ (by simp))
  refine wpAny_pure ⟨Code.quiet_builtin _ (by decide +kernel), ?_⟩
  have hp' : PatAt (s.heap.push { cls := .type "list", data := .seq ([] : List Value).toArray }) pa code := hp.kept fun b o _ e => Heap.get?_push_of_some _ e
  have fL : s.heap.get? s.heap.objs.size = none := get_size _
  refine sub_loop hx hr hnb hs hf (x.cps.size + 1) 0 { s with heap := s.heap.push { cls := .type "list", data := .seq ([] : List Value).toArray } } [] 0 0 (by omega) (Nat.zero_le _) hp' (Heap.get?_push_size _ rfl) (Nat.zero_le _) (Nat.zero_le _) fun z tz s' hz ⟨h', tk, es, hs', o, ho⟩ => ?_
  subst es
  exact h z tz _ (.heap (fun b o e => (hs'.2 b fun z => by subst z; rw [fL] at e; exact nomatch e).trans (Heap.get?_push_of_some _ e)) rfl rfl) hz
end

/-! the two, over lists of signs -/
theorem subGo_shift {fnd : Nat → Option (Nat × Nat)} {t : Array Nat} {repl : List Nat} {k d : Nat} (hd : d < t.size) (he : fnd d = fnd (d + 1)) (hf : ∀ p q, fnd (d + 1) = some (p, q) → d + 1 ≤ p) : subGo fnd t repl (k + 1) d = t[d] :: subGo fnd t repl (k + 1) (d + 1) := by
  have ex : ∀ p, d + 1 ≤ p → p ≤ t.size ∨ True → (t.extract d p).toList = t[d] :: (t.extract (d + 1) p).toList := fun p hp _ => by
    rw [Array.toList_extract, Array.toList_extract, List.extract_eq_drop_take, List.extract_eq_drop_take]
    have e : t.toList.drop d = t[d] :: t.toList.drop (d + 1) := by
      rw [List.drop_eq_getElem_cons (by simpa using hd)]
      simp
    rw [e, show p - d = (p - (d + 1)) + 1 by omega, List.take_succ_cons]
  show (match fnd d with | some (p, q) => _ | none => _) = _ :: (match fnd (d + 1) with | some (p, q) => _ | none => _)
  rw [he]
  cases q : fnd (d + 1) with
  | none => exact ex _ hd (.inr trivial)
  | some pq =>
    obtain ⟨p, q'⟩ := pq
    show (t.extract d p).toList ++ repl ++ _ = _ :: ((t.extract (d + 1) p).toList ++ repl ++ _)
    rw [ex p (hf p q' q) (.inr trivial)]
    rfl
theorem drop_at {t : Array Nat} {d : Nat} (hd : d < t.size) : t.toList.drop d = t[d] :: t.toList.drop (d + 1) := by
  rw [List.drop_eq_getElem_cons (by simpa using hd)]
  simp
theorem getD_at {t : Array Nat} {d : Nat} (hd : d < t.size) : t.getD d 0 = t[d] := by simp [Array.getD, hd]

noncomputable def dotL : Bool → List Nat → List Nat
  | _, [] => []
  | b, c :: r => (if b = true ∧ c = 46 then [46, 46] else [c]) ++ dotL (c == 10) r
noncomputable def fnd1 (t : Array Nat) (d : Nat) : Option (Nat × Nat) := if d < t.size then find1 t (t.size + 1 - d) d else none
theorem find1_ge {t : Array Nat} : ∀ (k s : Nat) {p q : Nat}, find1 t k s = some (p, q) → s ≤ p ∧ q = p + 1 ∧ p < t.size
  | 0, _, _, _, h => by cases h
  | k + 1, s, p, q, h => by
    unfold find1 at h
    split at h
    · rename_i hc; cases h; exact ⟨Nat.le_refl _, rfl, hc.2.1⟩
    · split at h
      · have := find1_ge k (s + 1) h; omega
      · exact nomatch h
theorem fnd1_ok {t : Array Nat} (d p q : Nat) (_ : d ≤ t.size) (h : fnd1 t d = some (p, q)) : d ≤ p ∧ p < q ∧ q ≤ t.size := by
  unfold fnd1 at h
  split at h
  · have := find1_ge _ _ h; omega
  · exact nomatch h
theorem sub1 {t : Array Nat} : ∀ (n d k : Nat), t.size - d = n → d ≤ t.size → t.size + 1 - d ≤ k → subGo (fnd1 t) t [46, 46] k d = dotL (decide (d = 0 ∨ t.getD (d - 1) 0 = 10)) (t.toList.drop d)
  | 0, d, k, hn, hd, hk => by
    have e : d = t.size := by omega
    subst e
    obtain ⟨k, rfl⟩ : ∃ k', k = k' + 1 := ⟨k - 1, by omega⟩
    have e1 : fnd1 t t.size = none := by unfold fnd1; rw [if_neg (Nat.lt_irrefl _)]
    show (match fnd1 t t.size with | some (p, q) => _ | none => _) = _
    rw [e1]
    have e0 : t.toList.drop t.size = [] := List.drop_eq_nil_of_le (by simp)
    rw [e0]
    simp [dotL]
  | n + 1, d, k, hn, hd, hk => by
    have hlt : d < t.size := by omega
    obtain ⟨k, rfl⟩ : ∃ k', k = k' + 1 := ⟨k - 1, by omega⟩
    have ef : fnd1 t d = if (d = 0 ∨ t.getD (d - 1) 0 = 10) ∧ t.getD d 0 = 46 then some (d, d + 1) else fnd1 t (d + 1) := by
      unfold fnd1
      rw [if_pos hlt, show t.size + 1 - d = (t.size - d) + 1 by omega]
      show (if (d = 0 ∨ t.getD (d - 1) 0 = 10) ∧ d < t.size ∧ t.getD d 0 = 46 then some (d, d + 1) else if d < t.size then find1 t (t.size - d) (d + 1) else none) = _
      by_cases hc : (d = 0 ∨ t.getD (d - 1) 0 = 10) ∧ t.getD d 0 = 46
      · rw [if_pos hc, if_pos ⟨hc.1, hlt, hc.2⟩]
      · rw [if_neg hc, if_neg (fun q => hc ⟨q.1, q.2.2⟩), if_pos hlt]
        by_cases h1 : d + 1 < t.size
        · rw [if_pos h1, show t.size + 1 - (d + 1) = t.size - d by omega]
        · rw [if_neg h1]
          have : d + 1 = t.size := by omega
          rw [show t.size - d = 0 + 1 by omega]
          unfold find1
          rw [if_neg (fun q => h1 q.2.1), if_neg h1]
    have ih := sub1 (t := t) n (d + 1)
    rw [drop_at hlt]
    have edot : ∀ b c r, dotL b (c :: r) = (if b = true ∧ c = 46 then [46, 46] else [c]) ++ dotL (c == 10) r := fun _ _ _ => rfl
    rw [edot]
    have eb : (decide (d + 1 = 0 ∨ t.getD (d + 1 - 1) 0 = 10)) = (t[d] == 10) := by
      rw [Nat.add_sub_cancel, getD_at hlt]
      by_cases q : t[d] = 10
      · simp [q]
      · simp [q]
    by_cases hc : (d = 0 ∨ t.getD (d - 1) 0 = 10) ∧ t.getD d 0 = 46
    · rw [if_pos hc] at ef
      have e46 : t[d] = 46 := by rw [← getD_at hlt]; exact hc.2
      rw [if_pos ⟨by simpa using hc.1, e46⟩]
      show (match fnd1 t d with | some (p, q) => (t.extract d p).toList ++ [46, 46] ++ subGo (fnd1 t) t [46, 46] k q | none => _) = _
      rw [ef]
      show (t.extract d d).toList ++ [46, 46] ++ subGo (fnd1 t) t [46, 46] k (d + 1) = _
      rw [ih k (by omega) hlt (by omega), eb]
      simp
    · rw [if_neg hc] at ef
      rw [if_neg (fun q => hc ⟨by simpa using q.1, by rw [getD_at hlt]; exact q.2⟩)]
      rw [subGo_shift hlt ef (fun p q h => (fnd1_ok _ _ _ hlt h).1), ih (k + 1) (by omega) hlt (by omega), eb]
      rfl

noncomputable def nlL : List Nat → List Nat
  | [] => []
  | [c] => if c = 13 ∨ c = 10 then [13, 10] else [c]
  | c :: c2 :: r => if c = 13 then (if c2 = 10 then 13 :: 10 :: nlL r else 13 :: 10 :: nlL (c2 :: r)) else if c = 10 then 13 :: 10 :: nlL (c2 :: r) else c :: nlL (c2 :: r)
theorem nl_crlf (r : List Nat) : nlL (13 :: 10 :: r) = 13 :: 10 :: nlL r := by rw [nlL, if_pos rfl, if_pos rfl]
theorem nl_cr {r : List Nat} (h : r.head? ≠ some 10) : nlL (13 :: r) = 13 :: 10 :: nlL r := by
  cases r with
  | nil => rfl
  | cons c r => rw [nlL, if_pos rfl, if_neg (fun q => h (by rw [q]; rfl))]
theorem nl_lf (r : List Nat) : nlL (10 :: r) = 13 :: 10 :: nlL r := by
  cases r with
  | nil => rfl
  | cons c r => rw [nlL, if_neg (by decide), if_pos rfl]
theorem nl_c {c : Nat} {r : List Nat} (h1 : c ≠ 13) (h2 : c ≠ 10) : nlL (c :: r) = c :: nlL r := by
  cases r with
  | nil => show (if c = 13 ∨ c = 10 then [13, 10] else [c]) = _; rw [if_neg (fun q : c = 13 ∨ c = 10 => Or.elim q h1 h2)]; rfl
  | cons c r => rw [nlL, if_neg h1, if_neg h2]
noncomputable def fnd2 (t : Array Nat) (d : Nat) : Option (Nat × Nat) := if d < t.size then (first2 t (t.size + 1 - d) d).map (fun p => (p, end2 t p)) else none
theorem first2_ge {t : Array Nat} : ∀ (k s : Nat) {p : Nat}, first2 t k s = some p → s ≤ p
  | 0, _, _, h => by cases h
  | k + 1, s, p, h => by
    unfold first2 at h
    split at h
    · exact nomatch h
    · split at h
      · obtain rfl := Option.some.inj h; exact Nat.le_refl _
      · have := first2_ge k (s + 1) h; omega
theorem end2_ok {t : Array Nat} {p : Nat} (h : p < t.size) : p < end2 t p ∧ end2 t p ≤ t.size := by
  unfold end2
  by_cases hc : t.getD p 0 = 13 ∧ p + 1 < t.size ∧ t.getD (p + 1) 0 = 10
  · rw [if_pos hc]; omega
  · rw [if_neg hc]; omega
theorem fnd2_ok {t : Array Nat} (d p q : Nat) (_ : d ≤ t.size) (h : fnd2 t d = some (p, q)) : d ≤ p ∧ p < q ∧ q ≤ t.size := by
  unfold fnd2 at h
  split at h
  · obtain ⟨p', e, e'⟩ := Option.map_eq_some_iff.mp h
    cases e'
    have := first2_ge _ _ e
    have := (first2_at _ _ e).1
    have := end2_ok this
    omega
  · exact nomatch h
theorem sub2 {t : Array Nat} : ∀ (n d k : Nat), t.size - d ≤ n → d ≤ t.size → t.size + 1 - d ≤ k → subGo (fnd2 t) t [13, 10] k d = nlL (t.toList.drop d)
  | n, d, k, hn, hd, hk => by
    obtain ⟨k, rfl⟩ : ∃ k', k = k' + 1 := ⟨k - 1, by omega⟩
    by_cases hlt : d < t.size
    · obtain ⟨n, rfl⟩ : ∃ n', n = n' + 1 := ⟨n - 1, by omega⟩
      have ef : fnd2 t d = if t.getD d 0 = 10 ∨ t.getD d 0 = 13 then some (d, end2 t d) else fnd2 t (d + 1) := by
        unfold fnd2
        rw [if_pos hlt, show t.size + 1 - d = (t.size - d) + 1 by omega]
        have e1 : first2 t (t.size - d + 1) d = if t.getD d 0 = 10 ∨ t.getD d 0 = 13 then some d else first2 t (t.size - d) (d + 1) := by
          show (if d ≥ t.size then _ else _) = _
          rw [if_neg (by omega)]
        rw [e1]
        by_cases hc : t.getD d 0 = 10 ∨ t.getD d 0 = 13
        · rw [if_pos hc, if_pos hc]; rfl
        · rw [if_neg hc, if_neg hc]
          by_cases h1 : d + 1 < t.size
          · rw [if_pos h1, show t.size + 1 - (d + 1) = t.size - d by omega]
          · rw [if_neg h1, show t.size - d = 0 + 1 by omega]
            unfold first2
            rw [if_pos (by omega)]; rfl
      rw [drop_at hlt]
      rw [getD_at hlt] at ef
      by_cases hc : t[d] = 10 ∨ t[d] = 13
      · rw [if_pos hc] at ef
        show (match fnd2 t d with | some (p, q) => (t.extract d p).toList ++ [13, 10] ++ subGo (fnd2 t) t [13, 10] k q | none => _) = _
        rw [ef]
        show (t.extract d d).toList ++ [13, 10] ++ subGo (fnd2 t) t [13, 10] k (end2 t d) = _
        have eo := end2_ok hlt
        rw [sub2 n (end2 t d) k (by omega) eo.2 (by omega)]
        have e0 : (t.extract d d).toList = [] := by simp
        rw [e0]
        by_cases h13 : t[d] = 13
        · rw [h13]
          by_cases hn10 : d + 1 < t.size ∧ t.getD (d + 1) 0 = 10
          · have e2 : end2 t d = d + 2 := by unfold end2; rw [if_pos ⟨by rw [getD_at hlt]; exact h13, hn10⟩]
            have e10 : t[d + 1]'hn10.1 = 10 := by rw [← getD_at hn10.1]; exact hn10.2
            rw [e2, drop_at hn10.1, e10, nl_crlf]
            rfl
          · have e2 : end2 t d = d + 1 := by unfold end2; rw [if_neg (fun q => hn10 q.2)]
            rw [e2, nl_cr]
            · rfl
            · by_cases h1 : d + 1 < t.size
              · have hne : t[d + 1] ≠ 10 := fun q => hn10 ⟨h1, by rw [getD_at h1]; exact q⟩
                rw [drop_at h1]
                simpa using hne
              · have e : t.toList.drop (d + 1) = [] := List.drop_eq_nil_of_le (by simp; omega)
                rw [e]; simp
        · have h10 : t[d] = 10 := hc.resolve_right h13
          have e2 : end2 t d = d + 1 := by unfold end2; rw [if_neg (fun q => h13 (by rw [← getD_at hlt]; exact q.1))]
          rw [h10, nl_lf, e2]; rfl
      · rw [if_neg hc] at ef
        rw [subGo_shift hlt ef (fun p q h => (fnd2_ok _ _ _ hlt h).1), sub2 n (d + 1) (k + 1) (by omega) hlt (by omega), nl_c (fun q => hc (.inr q)) (fun q => hc (.inl q))]
    · have e : d = t.size := by omega
      subst e
      have e1 : fnd2 t t.size = none := by unfold fnd2; rw [if_neg (Nat.lt_irrefl _)]
      show (match fnd2 t t.size with | some (p, q) => _ | none => _) = _
      rw [e1]
      have e0 : t.toList.drop t.size = [] := List.drop_eq_nil_of_le (by simp)
      rw [e0]
      simp [nlL]
termination_by n => n
end Mine
end

section
open PySem PySem.W PyProof.Rows PySem.Calls
set_option maxRecDepth 100000
namespace Mine

section
variable {B : BH} {d : Nat} {cx : Cx}
noncomputable def negF (f : Fm → Option PyData) (fr : Fm) : Option PyData := (f fr).bind fun v => match v with | .int i => some (.int (-i)) | _ => none
theorem simE_neg {e : Expr} {pos : Pos} {f} (he : SimE B d cx e f) : SimE B d cx (.UnaryOp .USub e pos) (negF f) := by
  intro A s env fr P W dv Q E R I F fp ev h
  obtain ⟨v, e1, ev⟩ := bind_some ev
  cases v <;> first | cases ev | skip
  refine wpAny_UnaryOp (he R I F fp e1 fun rv s1 t1 r1 => ?_)
  obtain ⟨_, rfl⟩ := VR.int' r1
  exact neg_int (h _ _ (t1.trans Step.toks) (.int _ _))
theorem simS_never {st : List Stmt} : SimS B d cx st fun _ => none := by
  intro A s env fr P W o Q E R I F FW fp ev h
  exact nomatch ev

/-! zip of two lists -/
noncomputable abbrev Five (a b c e f : Addr) : Addr → Prop := fun x => x = a ∨ x = b ∨ x = c ∨ x = e ∨ x = f
noncomputable def zipL : List PyData → List PyData → List PyData
  | a :: as, b :: bs => .tuple [a, b] :: zipL as bs
  | _, _ => []
theorem pair_kept {P : Addr → Prop} {h h' : Heap} {T : Addr} {a b : Value} (x : IsPair h T a b) (k : Keep P h h') (p : P T) : IsPair h' T a b := k _ _ p (.inl (.type rfl)) x
theorem iter_zip {P W : Addr → Prop} {z TI TO i1 i2 l1 l2 : Addr} {elts : List Expr} {k : Nat} {pos : Pos} {vs ws : List Value} {ds es : List PyData} {n m : Nat} (D : ZipApart z TI TO i1 i2 l1 l2) (p1 : P l1) (p2 : P l2) (hw : ∀ b, W b → ¬ P b)
    (hxp : ∀ b, Five z TI TO i1 i2 b → ¬ P b) (hxw : ∀ b, Five z TI TO i1 i2 b → ¬ W b) :
    ∀ (rest : List PyData) (i : Nat) (s : Shared), zipL (ds.drop i) (es.drop i) = rest → IsZip s.heap z TI TO .none → IsPair s.heap TI (.ref i1) (.ref i2) → (∃ a b, IsPair s.heap TO a b) → s.heap.IsListIter i1 l1 i → s.heap.IsListIter i2 l2 i →
      s.heap.get? l1 = some { cls := .type "list", data := .seq vs.toArray n } → s.heap.get? l2 = some { cls := .type "list", data := .seq ws.toArray m } → VRs P s.heap vs ds → VRs P s.heap ws es →
      Iter B d P W (Five z TI TO i1 i2) (fun _ => False) (.Tuple elts k pos) (.ref z) rest s := by
  have nr : ∀ {h : Heap} {b o}, IsZip h z TI TO .none → IsPair h TI (.ref i1) (.ref i2) → (∃ a b, IsPair h TO a b) → ∀ {j1 j2 : Nat}, h.IsListIter i1 l1 j1 → h.IsListIter i2 l2 j2 → Five z TI TO i1 i2 b → h.get? b = some o → NoRec o := by
    intro h b o hz hTI hTO j1 j2 h1 h2 x q
    rcases x with rfl | rfl | rfl | rfl | rfl
    · rw [hz] at q; obtain rfl := Option.some.inj q
      intro vs e; cases e
      exact ⟨by simp, by simp, fun q t z => by simp at z⟩
    · rw [hTI] at q; obtain rfl := Option.some.inj q; intro vs e; cases e
    · obtain ⟨a, b', e⟩ := hTO; rw [e] at q; obtain rfl := Option.some.inj q; intro vs e; cases e
    · exact noRec_listIter h1 q
    · exact noRec_listIter h2 q
  intro rest
  induction rest with
  | nil =>
    intro i s hd hz hTI hTO h1 h2 hl1 hl2 r1 r2 s₂ A t R I fp
    have kp : Keep P s.heap s₂.heap := t.keep.mono fun b p w => hw b w p
    have kx : ∀ b o, Five z TI TO i1 i2 b → Plain o → s.heap.get? b = some o → s₂.heap.get? b = some o := fun b o x pl e => t.keep b o (hxw b x) (.inl pl) e
    have hz2 : IsZip s₂.heap z TI TO .none := kx _ _ (.inl rfl) (.type rfl) hz
    have hTI2 : IsPair s₂.heap TI (.ref i1) (.ref i2) := kx _ _ (.inr (.inl rfl)) (.type rfl) hTI
    obtain ⟨a0, b0, hTO⟩ := hTO
    have hTO2 : IsPair s₂.heap TO a0 b0 := kx _ _ (.inr (.inr (.inl rfl))) (.type rfl) hTO
    have h12 := Heap.IsListIter.kept h1 fun o e p => kx _ _ (.inr (.inr (.inr (.inl rfl)))) p e
    have h22 := Heap.IsListIter.kept h2 fun o e p => kx _ _ (.inr (.inr (.inr (.inr rfl)))) p e
    have hl12 := kp l1 _ p1 (.inl (.type rfl)) hl1
    have hl22 := kp l2 _ p2 (.inl (.type rfl)) hl2
    have hend : vs.toArray[i]? = none ∨ ws.toArray[i]? = none := by
      cases q1 : ds.drop i with
      | nil => left; have := List.drop_eq_nil_iff.mp q1; simp only [List.getElem?_toArray, List.getElem?_eq_none_iff, r1.length]; exact this
      | cons x xs =>
        cases q2 : es.drop i with
        | nil => right; have := List.drop_eq_nil_iff.mp q2; simp only [List.getElem?_toArray, List.getElem?_eq_none_iff, r2.length]; exact this
        | cons y ys => rw [q1, q2] at hd; cases hd
    refine wpAny_pyNext_zip_end R.handled D hz2 hTI2 hTO2 h12 h22 (isList_of hl12) (isList_of hl22) hend fun h' hk => ⟨rfl, ?_⟩
    exact step_but (s' := { s₂ with heap := h' }) (fun b o x q => hk b o (fun z => x (.inl z)) (fun z => x (.inr (.inr (.inl z)))) (fun z => x (.inr (.inr (.inr (.inl z))))) (fun z => x (.inr (.inr (.inr (.inr z))))) q)
      (fun b o x q => nr hz2 hTI2 ⟨a0, b0, hTO2⟩ h12 h22 x q) rfl rfl
  | cons v rest ih =>
    intro i s hd hz hTI hTO h1 h2 hl1 hl2 r1 r2 s₂ A t R I fp
    have kp : Keep P s.heap s₂.heap := t.keep.mono fun b p w => hw b w p
    have kx : ∀ b o, Five z TI TO i1 i2 b → Plain o → s.heap.get? b = some o → s₂.heap.get? b = some o := fun b o x pl e => t.keep b o (hxw b x) (.inl pl) e
    have hz2 : IsZip s₂.heap z TI TO .none := kx _ _ (.inl rfl) (.type rfl) hz
    have hTI2 : IsPair s₂.heap TI (.ref i1) (.ref i2) := kx _ _ (.inr (.inl rfl)) (.type rfl) hTI
    obtain ⟨a0, b0, hTO⟩ := hTO
    have hTO2 : IsPair s₂.heap TO a0 b0 := kx _ _ (.inr (.inr (.inl rfl))) (.type rfl) hTO
    have h12 := Heap.IsListIter.kept h1 fun o e p => kx _ _ (.inr (.inr (.inr (.inl rfl)))) p e
    have h22 := Heap.IsListIter.kept h2 fun o e p => kx _ _ (.inr (.inr (.inr (.inr rfl)))) p e
    have hl12 := kp l1 _ p1 (.inl (.type rfl)) hl1
    have hl22 := kp l2 _ p2 (.inl (.type rfl)) hl2
    have r12 := r1.step kp
    have r22 := r2.step kp
    obtain ⟨x, xs, y, ys, q1, q2, ev, er⟩ : ∃ x xs y ys, ds.drop i = x :: xs ∧ es.drop i = y :: ys ∧ v = .tuple [x, y] ∧ zipL xs ys = rest := by
      cases q1 : ds.drop i with
      | nil => rw [q1] at hd; cases hd
      | cons x xs =>
        cases q2 : es.drop i with
        | nil => rw [q1, q2] at hd; cases hd
        | cons y ys =>
          rw [q1, q2] at hd
          cases hd
          exact ⟨x, xs, y, ys, rfl, rfl, rfl, rfl⟩
    subst ev
    have hx : ds[i]? = some x := by have := congrArg (·[0]?) q1; simpa using this
    have hy : es[i]? = some y := by have := congrArg (·[0]?) q2; simpa using this
    obtain ⟨rx, hvx, vx⟩ := r12.get hx
    obtain ⟨ry, hvy, vy⟩ := r22.get hy
    have hd' : zipL (ds.drop (i + 1)) (es.drop (i + 1)) = rest := by rw [← List.drop_drop, ← List.drop_drop, q1, q2]; exact er
    refine wpAny_pyNext_zip_item D hz2 hTI2 hTO2 h12 h22 (isList_of hl12) (isList_of hl22) (by simpa using hvx) (by simpa using hvy) fun h1' a1 a2 a3 a4 a5 a6 hk => ⟨_, rfl, ?_⟩
    refine wpAny_letOwnedTupleGo_zip a1 fun h2' hz' hs => ?_
    have hs' : Heap.SameBut z h1' h2' := hs
    have hsz : ∀ b o, s₂.heap.get? b = some o → b ≠ s₂.heap.objs.size := fun b o q => Nat.ne_of_lt (Heap.lt_size q)
    have kk : ∀ b o, ¬ Five z TI TO i1 i2 b → s₂.heap.get? b = some o → h2'.get? b = some o := fun b o x q =>
      (hs'.2 b (fun z => x (.inl z))).trans (hk b o (fun z => x (.inl z)) (fun z => x (.inr (.inr (.inl z)))) (fun z => x (.inr (.inr (.inr (.inl z))))) (fun z => x (.inr (.inr (.inr (.inr z))))) q)
    have kp' : Keep P s₂.heap h2' := fun b o p _ q => kk b o (fun x => hxp b x p) q
    have hTI3 : IsPair h2' TI (.ref i1) (.ref i2) := (hs'.2 TI D.TIz).trans (hk TI _ D.TIz D.TITO D.TIi1 D.TIi2 hTI2)
    have hTO3 : IsPair h2' TO rx ry := (hs'.2 TO D.TOz).trans a2
    have h13 : h2'.IsListIter i1 l1 (i + 1) := Heap.IsListIter.kept a3 fun o q _ => (hs'.2 i1 D.i1z).trans q
    have h23 : h2'.IsListIter i2 l2 (i + 1) := Heap.IsListIter.kept a4 fun o q _ => (hs'.2 i2 D.i2z).trans q
    have hT : IsPair h2' s₂.heap.objs.size rx ry := (hs'.2 _ (Ne.symm (hsz z _ hz2))).trans a5
    refine ⟨step_but (fun b o x q => kk b o x q) (fun b o x q => nr hz2 hTI2 ⟨_, _, hTO2⟩ h12 h22 x q) rfl rfl, fun b x => ?_, ?_,
      ih (i + 1) _ hd' hz' hTI3 ⟨_, _, hTO3⟩ h13 h23 (kp' l1 _ p1 (.inl (.type rfl)) hl12) (kp' l2 _ p2 (.inl (.type rfl)) hl22) (r12.step kp') (r22.step kp')⟩
    · rcases x with rfl | rfl | rfl | rfl | rfl
      · exact ⟨_, hz'⟩
      · exact ⟨_, hTI3⟩
      · exact ⟨_, hTO3⟩
      · obtain ⟨o, q, _⟩ := h13; exact ⟨o, q⟩
      · obtain ⟨o, q, _⟩ := h23; exact ⟨o, q⟩
    · exact VR.tuple (vs := [rx, ry]) (fp.new) hT (.cons (vx.step kp') (.cons (vy.step kp') .nil))
noncomputable def zipV (args : List PyData) : Option (List PyData) := (arg2 args).bind fun q => two isL isL (fun a b => some (zipL a b)) q.1 q.2
theorem apart5 (N l1 l2 : Nat) (h1 : l1 < N) (h2 : l2 < N) : ZipApart (N + 4) (N + 2) (N + 3) N (N + 1) l1 l2 :=
  have up : ∀ i j : Nat, i ≠ j → N + i ≠ N + j := fun _ _ h q => h (Nat.add_left_cancel q)
  have lo : ∀ {l : Nat}, l < N → ∀ i : Nat, l ≠ N + i := fun h i => Nat.ne_of_lt (Nat.lt_add_right i h)
  ⟨up 2 4 (by decide), up 3 4 (by decide), up 0 4 (by decide), up 1 4 (by decide), up 2 3 (by decide), up 2 0 (by decide), up 2 1 (by decide), up 3 0 (by decide), up 3 1 (by decide), up 0 1 (by decide),
   lo h1 4, lo h1 3, lo h1 0, lo h1 1, lo h2 4, lo h2 3, lo h2 0, lo h2 1⟩
theorem five_ge (N b : Nat) (x : Five (N + 4) (N + 2) (N + 3) N (N + 1) b) : N ≤ b := by
  have x' : (b : Nat) = N + 4 ∨ b = N + 2 ∨ b = N + 3 ∨ b = N ∨ b = N + 1 := x
  omega
theorem simI_zip {x : Str} {np pos tpos : Pos} {e1 e2 : Expr} {elts : List Expr} {k : Nat} {f} (hs : SimL B d cx [e1, e2] f) (hv : glob B x = some (.type "zip")) (hk : cx.sc.names.lookup x = some .globalImplicit) (hd : (x == ("__debug__" : Str)) = false)
    (he : ∀ env, starEach [e1, e2] env = (false, eval e1 env) :: starEach [e2] env := by intro _; rfl) (hplain : ∀ env, (backTo pos (starEach [e2] env)).any (·.1) = false := by intro _; rfl) : SimI B d cx (.Call (.Name x np) [e1, e2] [] pos) (.Tuple elts k tpos) fun fr => (f fr).bind zipV := by
  intro A s env fr P W items Q E R I F fp ev h
  obtain ⟨args, ea, ev⟩ := bind_some ev
  have hkd : env.scope.kind = .function := by rw [F.sc]; exact F.kind
  refine wpAny_Call_NameR (wpAny_Name (wp_glob I hkd (by unfold Env.kindOf; rw [F.sc]; exact hk) F.glob F.blt hv ?_) hd)
  refine callWith_any (B := B) (.inr (.inl ⟨_, rfl⟩)) (he env) (hplain env) (hs R I F fp ea fun rvs s1 t1 r1 => ⟨I.step t1, ?_⟩)
  obtain ⟨v0, w0, a0, b0, rfl, r5, r6, ev⟩ := bind2_some r1 ev
  obtain ⟨x0, y0, rfl, rfl, e5⟩ := two_list ev
  · obtain rfl := Option.some.inj e5
    obtain ⟨l1, vs, n, rfl, p1, el1, q1⟩ := r5.isList
    obtain ⟨l2, ws, m, rfl, p2, el2, q2⟩ := r6.isList
    refine call_zip_2 (isList_of el1) (isList_of el2) fun h' hz hTI hTO h1 h2 hsz hk' => ?_
    refine wpAny_pyIter_zip hz ?_
    generalize hN : s1.heap.objs.size = N at *
    have lt1 : l1 < N := hN ▸ Heap.lt_size el1
    have lt2 : l2 < N := hN ▸ Heap.lt_size el2
    have t2 : Step s1 { s1 with heap := h' } := Step.heap hk' rfl rfl
    have nl : ∀ b, N ≤ b → ∀ o, s.heap.get? b = some o → False := fun b hb o q => by
      obtain ⟨o', e'⟩ := t1.lv _ _ q
      have := Heap.lt_size e'
      rw [hN] at this
      exact absurd this (Nat.not_lt.mpr hb)
    have D : ZipApart (N + 4) (N + 2) (N + 3) N (N + 1) l1 l2 := apart5 N l1 l2 lt1 lt2
    have fiveGe : ∀ b, Five (N + 4) (N + 2) (N + 3) N (N + 1) b → N ≤ b := fun b x => five_ge N b x
    refine h _ _ (Five (N + 4) (N + 2) (N + 3) N (N + 1)) (fun _ => False) (t1.trans t2) (fun b o q x => nl b (fiveGe b x) o q) (fun b x => ?_) (fun _ _ x => x) fun P' W' hP hPX hwp hxw => ⟨?_, ?_⟩
    · rcases x with rfl | rfl | rfl | rfl | rfl
      · exact ⟨_, hz⟩
      · exact ⟨_, hTI⟩
      · exact ⟨_, hTO⟩
      · obtain ⟨o, q, _⟩ := h1; exact ⟨o, q⟩
      · obtain ⟨o, q, _⟩ := h2; exact ⟨o, q⟩
    · have nf : ∀ b, b < N → ¬ Five (N + 4) (N + 2) (N + 3) N (N + 1) b := fun b hb x => absurd (fiveGe b x) (Nat.not_le.mpr hb)
      have mv : ∀ {vs ds}, VRs P s1.heap vs ds → VRs P' h' vs ds := fun r => r.move fun b o p e => ⟨hP b o (hk' _ _ e) p (nf b (hN ▸ Heap.lt_size e)), hk' _ _ e⟩
      exact iter_zip D (hP l1 _ (hk' _ _ el1) p1 (nf l1 lt1)) (hP l2 _ (hk' _ _ el2) p2 (nf l2 lt2)) hwp (fun b x p => hPX b p x) hxw _ 0 _ rfl hz hTI ⟨_, _, hTO⟩ h1 h2 (hk' _ _ el1) (hk' _ _ el2) (mv q1) (mv q2)
    · intro s₂ A Q E t q
      exact wpAny_pyIter_zip (t.keep _ _ (hxw _ (.inl rfl)) (.inl (.type rfl)) hz) q
end
end Mine
end

section
open PySem PySem.W PyProof.Rows PySem.Calls
set_option maxRecDepth 100000
namespace Mine

/-! calls of what the module or the built-ins name -/
theorem CallOk.le {B : BH} {d d' : Nat} {fv : Value} {F} (h : CallOk B d fv F) (hd : d ≤ d') : CallOk B d' fv F := fun R => h (R.le hd)
noncomputable def CallG (B : BH) (d : Nat) (x : Str) (F : List PyData → Option PyData) : Prop := ∃ fv, glob B x = some fv ∧ Callee B fv ∧ CallOk B d fv F
theorem CallG.le {B : BH} {d d' : Nat} {x : Str} {F} (h : CallG B d x F) (hd : d ≤ d') : CallG B d' x F := let ⟨fv, a, b, c⟩ := h; ⟨fv, a, b, c.le hd⟩
theorem callG_builtin {B : BH} {d : Nat} {x : Str} {id : String} {F} (hv : glob B x = some (.builtin id)) (h : CallOk B d (.builtin id) F) : CallG B d x F := ⟨_, hv, .inl ⟨_, rfl⟩, h⟩
theorem callG_type {B : BH} {d : Nat} {x : Str} {T : String} {F} (hv : glob B x = some (.type T)) (h : CallOk B d (.type T) F) : CallG B d x F := ⟨_, hv, .inr (.inl ⟨_, rfl⟩), h⟩
/-- a def of the module, by its statement's number -/
structure DefAt (B : BH) (x : Str) (i : Nat) (ps : List Str) : Prop where
  ex : ∃ a fd, glob B x = some (.ref a) ∧ FnAt B a fd (fnBody i) ps ∧ fd.scope = fnScope i ∧ ∀ (s : Shared) (rvs : List Value), rvs.length = ps.length → BindsTo s fd ⟨rvs, []⟩ (ps.zip rvs)
noncomputable def nodupS (l : List Str) : Bool := nodupB l
noncomputable def defOkB (i : Nat) (nm ps : List Str) (own : Option Nat) : Bool :=
  nodupB ps && (nm.take ps.length == ps) && (match own with | some j => decide (ps.length ≤ j) | none => true) && !(fnScope i).isCoroutine && !(fnScope i).isGenerator && (fnScope i).names.all fun y => !(y.2 == .free)
theorem callG_def {B : BH} {d : Nat} {x : Str} {i : Nat} {ps nm : List Str} {own : Option Nat} (k : Nat) {f} (D : DefAt B x i ps) (ho : defOkB i nm ps own = true) (hR : SimR B d { ns := nm, sc := fnScope i, own := own } (fnBody i) f) : CallG B (d + 1) x (argF ps.length [] k f) := by
  obtain ⟨a, fd, hv, H, hsc, hb⟩ := D.ex
  unfold defOkB at ho
  simp only [Bool.and_eq_true] at ho
  obtain ⟨⟨⟨⟨⟨h1, h2⟩, h3⟩, h4⟩, h5⟩, h6⟩ := ho
  refine ⟨.ref a, hv, .inr (.inr (let ⟨o, e, p, q⟩ := H.o; ⟨a, o, fd, rfl, e, p, q⟩)), ?_⟩
  refine callOk_func (n := ps.length) (k := k) (dvs := []) (dds := []) (nm := nm) (own := own) H (fun s rvs _ hz => by rw [List.append_nil]; exact hb s rvs hz) (fun _ _ => .nil) rfl (nodupB_ok h1) (by simpa using h2) (fun j hj => ?_) (by rw [hsc]; simpa using h4) (by rw [hsc]; simpa using h5) (fun y hy => ?_) (cd := false) (fun q => by cases q) (by rw [hsc]; exact hR)
  · subst hj; simpa using h3
  · rw [hsc] at hy
    have := List.all_eq_true.mp h6 y hy
    simpa using this

section
variable {B : BH} {d : Nat} {cx : Cx}
theorem simE_callG {x : Str} {np pos : Pos} {e : Expr} {rest : List Expr} {f F} (hs : SimL B d cx (e :: rest) f) (H : CallG B d x F) (hk : cx.sc.names.lookup x = some .globalImplicit)
    (hd : (x == ("__debug__" : Str)) = false) (he : ∀ env, starEach (e :: rest) env = (false, eval e env) :: starEach rest env := by intro _; rfl) (hplain : ∀ env, (backTo pos (starEach rest env)).any (·.1) = false := by intro _; rfl) :
    SimE B d cx (.Call (.Name x np) (e :: rest) [] pos) (callF f F) := by
  obtain ⟨fv, hv, hc, hF⟩ := H
  exact simE_call hs hF hc hv hk hd he hplain
/-- a text that the module names -/
theorem simE_globStr {x y : Str} {t : Tok} {pos : Pos} (hv : glob B x = some (.str y t)) (hk : cx.sc.names.lookup x = some .globalImplicit) (hd : (x == ("__debug__" : Str)) = false) : SimE B d cx (.Name x pos) fun _ => some (.str y) := by
  intro A s env fr P W dv Q E R I F fp ev h
  obtain rfl := Option.some.inj ev
  have hkd : env.scope.kind = .function := by rw [F.sc]; exact F.kind
  exact wpAny_Name (wp_glob I hkd (by unfold Env.kindOf; rw [F.sc]; exact hk) F.glob F.blt hv (h _ _ (.refl _ _ _) (.str _ _))) hd

/-! the two substitutions -/
structure PatB (B : BH) (x : Str) (code : Array Nat) : Prop where
  ex : ∃ a, glob B x = some (.ref a) ∧ PatAt B.hB a code
theorem PatB.at_ {B : BH} {a : Addr} {code : Array Nat} (h : PatAt B.hB a code) {s : Shared} (I : Inv B s) : PatAt s.heap a code :=
  h.kept fun b o c e => I.keep b o trivial (.inl (c.elim .type .type)) e
noncomputable def reV (r : Str) (L : List Nat → List Nat) : List PyData → Option PyData
  | [.str y, .str x] => if y = r ∧ x.length ≤ 100000 then some (.str ⟨(L x.cps.toList).toArray⟩) else none
  | _ => none
theorem simE_sub_re {x : Str} {np apos pos : Pos} {e1 e2 : Expr} {code : Array Nat} {r : Str} {L : List Nat → List Nat} {g} {fnd : Array Nat → Nat → Option (Nat × Nat)} {nb : Nat → Nat} (HP : PatB B x code) (hs : SimL B d cx [e1, e2] g)
    (hk : cx.sc.names.lookup x = some .globalImplicit) (hd : (x == ("__debug__" : Str)) = false) (hl : (apos.endLine == pos.line) = true) (hr : r.length ≤ 2) (h92 : r.cps.contains 92 = false) (hnb : ∀ n, n ≤ 100000 → nb n ≤ 2 ^ 60)
    (hse : ∀ (t : Array Nat) d, d ≤ t.size → Ends (Sre.forSearch code t 0 d t.size false) (nb t.size) (fnd t d)) (hf : ∀ (t : Array Nat) d p q, d ≤ t.size → fnd t d = some (p, q) → d ≤ p ∧ p < q ∧ q ≤ t.size)
    (hL : ∀ t : Array Nat, subGo (fnd t) t r.cps.toList (t.size + 1) 0 = L t.toList)
    (hb : ∀ env, attributeBase (.Name x np) (Str.ofString "sub") env (eval (.Name x np) env) = eval (.Name x np) env := by intro _; rfl)
    (he : ∀ env, starEach [e1, e2] env = (false, eval e1 env) :: starEach [e2] env := by intro _; rfl) (hplain : ∀ env, (backTo pos (starEach [e2] env)).any (·.1) = false := by intro _; rfl)
    (hq : ∀ env, ((((backTo pos (starEach [e1, e2] env)).all fun x => !x.fst) && (backToKw pos (keywordEach [] env)).all fun x => x.fst.isSome) && decide (([e1, e2].length + ([] : List Keyword).length + if ([] : List Keyword).isEmpty = true then 0 else 1) < 30)) = true := by intro _; rfl) :
    SimE B d cx (.Call (.Attribute (.Name x np) (Str.ofString "sub") apos) [e1, e2] [] pos) (callF g (reV r L)) := by
  intro A s env fr P W dv Q E R I F fp ev h
  obtain ⟨args, ea, ev⟩ := bind_some ev
  obtain ⟨a, hv, hp⟩ := HP.ex
  have hkd : env.scope.kind = .function := by rw [F.sc]; exact F.kind
  refine wpAny_Call_method (hb env) (hq env) hl plainAttrs_re slot_re_sub type_re_sub (wpAny_Name (wp_glob I hkd (by unfold Env.kindOf; rw [F.sc]; exact hk) F.glob F.blt hv ?_) hd)
  have hps := PatB.at_ hp I
  obtain ⟨vs, e, _⟩ := id hps.o
  refine ⟨⟨_, e, rfl⟩, fun b q => by cases q; exact ⟨_, e, rfl⟩, ?_⟩
  have hpl : (backTo pos (starEach [e1, e2] env)).any (·.1) = false := by rw [he env]; show (false || (backTo pos (starEach [e2] env)).any (·.1)) = false; rw [hplain]; rfl
  have key : wpAny (MM B.w) A (spliced (backTo pos (starEach [e1, e2] env))) (fun vs s2 => wpAny (MM B.w) A (call (.builtin "re.Pattern.sub") ([.ref a] ++ vs) []) Q E s2) E s :=
    hs R I F fp ea fun rvs s2 t2 r2 => by
      unfold reV at ev
      split at ev
      · split at ev
        · rename_i y z hc
          obtain rfl := Option.some.inj ev
          obtain ⟨rfl, hz⟩ := hc
          obtain ⟨_, _, rfl, q1, r7⟩ := VRs.cons' r2
          obtain ⟨_, rfl, q2⟩ := VRs.one' r7
          obtain ⟨_, rfl⟩ := VR.str' q1
          obtain ⟨_, rfl⟩ := VR.str' q2
          refine call_sub hz hr h92 (hnb _ hz) (fun d hd => hse z.cps d hd) (fun d p q => hf z.cps d p q) (PatB.at_ hp (I.step t2)) fun zz tz s' t' hzz => ?_
          rw [hL] at hzz
          have : zz = ⟨(L z.cps.toList).toArray⟩ := by
            obtain ⟨c⟩ := zz
            rw [← hzz]
          rw [this]
          exact h _ _ (t2.trans t') (.str _ _)
        · exact nomatch ev
      · exact nomatch ev
  rw [he env] at key hpl ⊢
  exact callWith_builtin hpl (evalArgs_plain key)
end
theorem sub_nl (t : Array Nat) : subGo (fnd2 t) t [13, 10] (t.size + 1) 0 = nlL t.toList := by
  rw [sub2 t.size 0 (t.size + 1) (by omega) (Nat.zero_le _) (by omega)]; rfl
theorem sub_dot (t : Array Nat) : subGo (fnd1 t) t [46, 46] (t.size + 1) 0 = dotL true t.toList := by
  rw [sub1 t.size 0 (t.size + 1) (by omega) (Nat.zero_le _) (by omega)]; rfl
theorem ends_fnd1 (t : Array Nat) (d : Nat) (hd : d ≤ t.size) : Ends (Sre.forSearch code1 t 0 d t.size false) (6 * t.size + 20) (fnd1 t d) := search1 t d hd
theorem ends_fnd2 (t : Array Nat) (d : Nat) (_ : d ≤ t.size) : Ends (Sre.forSearch code2 t 0 d t.size false) 50 (fnd2 t d) := search2 t d
end Mine
end

section
open PySem PySem.W PyProof.Rows PySem.Calls
set_option maxRecDepth 100000
namespace Mine

/-! the rules again, with names for what they compute (for the printed derivations) -/
section
variable {B : BH} {d : Nat} {cx : Cx}
noncomputable def cI (i : Int) : Fm → Option PyData := fun _ => some (.int i)
noncomputable def cS (x : Str) : Fm → Option PyData := fun _ => some (.str x)
noncomputable def cN : Fm → Option PyData := fun _ => some .none
noncomputable def cB (b : Bool) : Fm → Option PyData := fun _ => some (.bool b)
noncomputable def nilF : Fm → Option (List PyData) := fun _ => some []
noncomputable def listF (f : Fm → Option (List PyData)) (fr : Fm) : Option PyData := (f fr).bind fun ds => if ds.length ≤ 1000 then some (.list ds) else none
noncomputable def tupF (f : Fm → Option (List PyData)) (fr : Fm) : Option PyData := (f fr).bind fun ds => if ds.length ≤ 1000 then some (.tuple ds) else none
noncomputable def cmpE (op : CmpOp) (f g : Fm → Option PyData) (fr : Fm) : Option PyData := (cmpF op f g fr).map .bool
noncomputable def asBool : PyData → Option Bool
  | .bool b => some b
  | _ => none
noncomputable def asInt : PyData → Option (Option Int)
  | .int i => some (some i)
  | _ => none
noncomputable def valT (f : Fm → Option PyData) (fr : Fm) : Option Bool := (f fr).bind asBool
noncomputable def pNone : Fm → Option (Option Int) := fun _ => some none
noncomputable def pSome (f : Fm → Option PyData) (fr : Fm) : Option (Option Int) := (f fr).bind asInt
theorem eI {i : Int} {k : Nat} {pos : Pos} : SimE B d cx (.Constant (.int i) k pos) (cI i) := simE_int
theorem eS {x : Str} {k : Nat} {pos : Pos} : SimE B d cx (.Constant (.str x) k pos) (cS x) := simE_str
theorem eN {k : Nat} {pos : Pos} : SimE B d cx (.Constant .none k pos) cN := simE_none
theorem eB {b : Bool} {k : Nat} {pos : Pos} : SimE B d cx (.Constant (.bool b) k pos) (cB b) := simE_bool
theorem lN : SimL B d cx [] nilF := simL_nil
theorem eL {es : List Expr} {pos : Pos} {f} (hs : SimL B d cx es f) : SimE B d cx (.List es pos) (listF f) := simE_list hs
theorem eT {es : List Expr} {k : Nat} {pos : Pos} {f} (hs : SimL B d cx es f) : SimE B d cx (.Tuple es k pos) (tupF f) := simE_tuple hs
theorem eC {l r : Expr} {op : CmpOp} {pos : Pos} {f g} (hl : SimE B d cx l f) (hr : SimE B d cx r g) (hd : 0 < d) (hm : behindInMarks op r = false) : SimE B d cx (.Compare l [op] [r] pos) (cmpE op f g) := simE_cmp hl hr hd hm
theorem pN_ : SimP B d cx none pNone := simP_none
theorem pS {e : Expr} {f} (he : SimE B d cx e f) : SimP B d cx (some e) (pSome f) := by
  have h : SimP B d cx (some e) (fun fr => (f fr).bind fun v => match v with | .int i => some (some i) | _ => none) := simP_some he
  intro A s env fr P W dv Q E R I F fp ev
  refine h R I F fp ?_
  obtain ⟨v, e1, ev⟩ := bind_some ev
  show (f fr).bind _ = _
  rw [e1]
  cases v <;> first | exact ev | cases ev
noncomputable def rngF (f : Fm → Option (List PyData)) (fr : Fm) : Option (List PyData) := (f fr).bind rangeV
noncomputable def enF (f : Fm → Option (List PyData)) (fr : Fm) : Option (List PyData) := (f fr).bind enumV
noncomputable def zpF (f : Fm → Option (List PyData)) (fr : Fm) : Option (List PyData) := (f fr).bind zipV
noncomputable def esF (f : Fm → Option PyData) (fr : Fm) : Option (List PyData) := (f fr).bind escV
noncomputable def ownLenF (i : Nat) (fr : Fm) : Option PyData := (ownV i fr).bind fun ds => if ds.length ≤ 100000 then some (.int ds.length) else none
noncomputable def ownJoinF (f : Fm → Option PyData) (i : Nat) (fr : Fm) : Option PyData := (f fr).bind fun a => (ownV i fr).bind fun ds => joinV a [.list ds]
noncomputable def pairO (f g : Fm → Option PyData) (fr : Fm) : Option PyData := (f fr).bind fun a => (g fr).bind fun b => some (.tuple [a, b])
noncomputable def forE (fi : Fm → Option (List PyData)) (g : PyData → Fm → Option Fm) (f : Fm → Option Out) (fr : Fm) : Option Out := (fi fr).bind fun items => forF g f items fr
noncomputable def nextF : Fm → Option Out := fun fr => some (.next fr)
noncomputable def noF : Fm → Option Out := fun _ => none
noncomputable def trueF : Fm → Option Bool := fun _ => some true
noncomputable def asgP (f : Fm → Option PyData) (g : PyData → Fm → Option Fm) (fr : Fm) : Option Out := (f fr).bind fun v => (g v fr).map .next
noncomputable def ownNew (i : Nat) (f : Fm → Option (List PyData)) (g : Fm → Option PyData) (fr : Fm) : Option PyData := (f fr).bind fun ds => if i < fr.length ∧ ds.length ≤ 1000 then g (fr.set i (some (.list ds))) else none
noncomputable def ownNew2 (i j : Nat) (f : Fm → Option PyData) (g : Fm → Option PyData) (fr : Fm) : Option PyData := (f fr).bind fun a => if i < fr.length ∧ j < fr.length then g ((fr.set j (some a)).set i (some (.list []))) else none
noncomputable def ownNew3 (i j l : Nat) (f1 f2 : Fm → Option PyData) (g : Fm → Option PyData) (fr : Fm) : Option PyData :=
  (f1 fr).bind fun c => (f2 fr).bind fun a => if i < fr.length ∧ j < fr.length ∧ l < fr.length then g (((fr.set j (some a)).set i (some (.list []))).set l (some c)) else none
noncomputable def lastF (f : Fm → Option Out) (fr : Fm) : Option PyData := (f fr).bind outV
theorem simR_last {st : Stmt} {f} (h : Sim1 B d cx st f) : SimR B d cx [st] (lastF f) := by
  intro A s env fr P W v Q E R I F FW fp ev hq
  obtain ⟨o, e1, e2⟩ := bind_some ev
  cases o <;> cases e2
  refine wpAny_execs_cons (h R I F FW fp e1 fun fl s' p => ?_)
  obtain ⟨t, rv, rfl, r⟩ := p
  exact hq _ _ t r
/-- x = [..], x a cell: no exchange of stores -/
theorem sim1_assignCell {x : Str} {pos' pos : Pos} {value : Expr} {i : Nat} {f} (hv : SimE B d cx value f) (hi : Slot1 cx i x) (hk : cx.sc.names.lookup x = some .cell) :
    Sim1 B d cx (.Assign [.Name x pos'] value pos) (setF i f) := by
  intro A s env fr P W o Q E R I F FW fp ev h
  obtain ⟨v, e1, ev⟩ := bind_some ev
  split at ev
  · rename_i hl
    obtain rfl := Option.some.inj ev
    have hkind : env.kindOf x = some .cell := by unfold Env.kindOf; rw [F.sc]; exact hk
    have hsw : swapsWith value (some (.Name x pos')) pos.line env = pure false := by
      unfold swapsWith
      cases value <;> first | rfl | skip
      all_goals
        simp only [hkind]
        rw [show (some NameKind.cell == some NameKind.local) = false from rfl]
        simp only [Bool.and_false, Bool.false_and]
        try rfl
    refine wpAny_Assign_Name (hv R I F fp e1 fun rv s1 t1 r1 => ?_) hsw
    exact store_ok (F.step t1) (FW.step t1) hi.at_ hi.own hl hi.kind hi.nd r1 fun s2 t2 F2 W2 => h _ _ ⟨(Step.any t1).trans t2, rfl, F2, W2⟩
  · exact nomatch ev
end
/-- a def with the defaults lo=0, hi=None, *, key=None, called by two arguments -/
structure DefD (B : BH) (x : Str) (i : Nat) (ps : List Str) : Prop where
  ex : ∃ a fd t, glob B x = some (.ref a) ∧ FnAt B a fd (fnBody i) ps ∧ fd.scope = fnScope i ∧ ∀ (s : Shared) (rvs : List Value), Inv B s → rvs.length = 2 → BindsTo s fd ⟨rvs, []⟩ (ps.zip (rvs ++ [.int 0 t, .none, .none]))
theorem callG_defD {B : BH} {d : Nat} {x : Str} {i : Nat} {ps nm : List Str} {own : Option Nat} (k : Nat) {f} (D : DefD B x i ps) (hl : ps.length = 5) (ho : defOkB i nm ps own = true) (hR : SimR B d { ns := nm, sc := fnScope i, own := own } (fnBody i) f) : CallG B (d + 1) x (argF 2 [.int 0, .none, .none] k f) := by
  obtain ⟨a, fd, t, hv, H, hsc, hb⟩ := D.ex
  unfold defOkB at ho
  simp only [Bool.and_eq_true] at ho
  obtain ⟨⟨⟨⟨⟨h1, h2⟩, h3⟩, h4⟩, h5⟩, h6⟩ := ho
  refine ⟨.ref a, hv, .inr (.inr (let ⟨o, e, p, q⟩ := H.o; ⟨a, o, fd, rfl, e, p, q⟩)), ?_⟩
  refine callOk_func (n := 2) (k := k) (dvs := [.int 0 t, .none, .none]) (dds := [.int 0, .none, .none]) (nm := nm) (own := own) H (fun s rvs I hz => hb s rvs I hz) (fun _ _ => .cons (.int _ _) (.cons .none (.cons .none .nil))) (by rw [hl]; rfl) (nodupB_ok h1) (by simpa using h2) (fun j hj => ?_) (by rw [hsc]; simpa using h4) (by rw [hsc]; simpa using h5) (fun y hy => ?_) (cd := false) (fun q => by cases q) (by rw [hsc]; exact hR)
  · subst hj; simpa using h3
  · rw [hsc] at hy
    have := List.all_eq_true.mp h6 y hy
    simpa using this
/-- what the module and the built-ins hold at the call -/
structure Facts (B : BH) : Prop where
  len : glob B (Str.ofString "len") = some (.builtin "len")
  sum : glob B (Str.ofString "sum") = some (.builtin "sum")
  max : glob B (Str.ofString "max") = some (.builtin "max")
  min : glob B (Str.ofString "min") = some (.builtin "min")
  list : glob B (Str.ofString "list") = some (.type "list")
  range : glob B (Str.ofString "range") = some (.type "range")
  enum : glob B (Str.ofString "enumerate") = some (.type "enumerate")
  zip : glob B (Str.ofString "zip") = some (.type "zip")
  re1 : PatB B (Str.ofString "_twin_re_1") code1
  re2 : PatB B (Str.ofString "_twin_re_2") code2
  crlf : ∃ t, glob B (Str.ofString "CRLF") = some (.str (Str.ofString "\r\n") t)
  d6 : DefAt B (Str.ofString "_iter_escaped_chars") 6 [Str.ofString "addr"]
  d7 : DefAt B (Str.ofString "_strip_quoted_realnames") 7 [Str.ofString "addr"]
  d8 : DefAt B (Str.ofString "_check_parenthesis") 8 [Str.ofString "addr"]
  d13 : DefAt B (Str.ofString "quotedata") 13 [Str.ofString "data"]
  d15 : DefAt B (Str.ofString "_law_drawn") 15 [Str.ofString "script"]
  d16 : DefAt B (Str.ofString "_law_units") 16 [Str.ofString "drawn", Str.ofString "depths"]
  d17 : DefAt B (Str.ofString "_law_parted") 17 [Str.ofString "units"]
  d18 : DefAt B (Str.ofString "_law_depths") 18 [Str.ofString "units", Str.ofString "depth"]
  d19 : DefAt B (Str.ofString "_law_laid") 19 [Str.ofString "mail", Str.ofString "trees", Str.ofString "turn"]
  d20 : DefAt B (Str.ofString "_law_handed_out") 20 [Str.ofString "units", Str.ofString "turn"]
  d21 : DefAt B (Str.ofString "_law_cells") 21 [Str.ofString "depths"]
  d22 : DefAt B (Str.ofString "_law_order") 22 [Str.ofString "depths"]
  d23 : DefAt B (Str.ofString "_law_holders") 23 [Str.ofString "depths", Str.ofString "order"]
  d4 : DefD B (Str.ofString "bisect_left") 4 [Str.ofString "a", Str.ofString "x", Str.ofString "lo", Str.ofString "hi", Str.ofString "key"]
  d24 : DefAt B (Str.ofString "_law_stops") 24 [Str.ofString "opens", Str.ofString "closes", Str.ofString "levels"]
section
variable {B : BH} {d : Nat} {cx : Cx}
/-- the generator's loop, by the module's def -/
theorem gE {np pos tpos : Pos} {e : Expr} {elts : List Expr} {kk : Nat} {f} (H : Facts B) (he : SimE B (d + 3) cx e f) (hk : cx.sc.names.lookup (Str.ofString "_iter_escaped_chars") = some .globalImplicit)
    (hst : ∀ env, starEach [e] env = (false, eval e env) :: starEach [] env := by intro _; rfl) : SimG B (d + 3) cx (.Call (.Name (Str.ofString "_iter_escaped_chars") np) [e] [] pos) (.Tuple elts kk tpos) (esF f) := by
  obtain ⟨a, fd, hv, HF, hsc, hb⟩ := H.d6.ex
  exact simG_esc he HF hsc (fun s v _ => hb s [v] rfl) hv hk (by decide +kernel) H.enum hst
theorem cLen (H : Facts B) : CallG B d (Str.ofString "len") lenV := callG_builtin H.len len_ok
theorem cSum (H : Facts B) : CallG B d (Str.ofString "sum") sumV := callG_builtin H.sum sum_ok
theorem cMax (H : Facts B) : CallG B d (Str.ofString "max") maxV := callG_builtin H.max max_ok
theorem cMin (H : Facts B) : CallG B d (Str.ofString "min") minV := callG_builtin H.min min_ok
theorem cList (H : Facts B) : CallG B d (Str.ofString "list") listV := callG_type H.list list_ok
theorem mJoin {o : Expr} {apos pos : Pos} {e : Expr} {f g} (ho : SimE B d cx o f) (hs : SimL B d cx [e] g) (hb : ∀ env, attributeBase o (Str.ofString "join") env (eval o env) = eval o env) (hl : (apos.endLine == pos.line) = true)
    (he : ∀ env, starEach [e] env = (false, eval e env) :: starEach [] env := by intro _; rfl) (hq : ∀ env, ((((backTo pos (starEach [e] env)).all fun x => !x.fst) && (backToKw pos (keywordEach [] env)).all fun x => x.fst.isSome) && decide (([e].length + ([] : List Keyword).length + if ([] : List Keyword).isEmpty = true then 0 else 1) < 30)) = true := by intro _; rfl) :
    SimE B d cx (.Call (.Attribute o (Str.ofString "join") apos) [e] [] pos) (methF "str" f g joinV) := simE_meth ho hs join_ok hb hl PySem.F.plainAttrs_str PySem.F.slot_str_join PySem.F.type_str_join he (fun _ => rfl) hq
theorem mSplit {o : Expr} {apos pos : Pos} {e : Expr} {f g} (ho : SimE B d cx o f) (hs : SimL B d cx [e] g) (hb : ∀ env, attributeBase o (Str.ofString "split") env (eval o env) = eval o env) (hl : (apos.endLine == pos.line) = true)
    (he : ∀ env, starEach [e] env = (false, eval e env) :: starEach [] env := by intro _; rfl) (hq : ∀ env, ((((backTo pos (starEach [e] env)).all fun x => !x.fst) && (backToKw pos (keywordEach [] env)).all fun x => x.fst.isSome) && decide (([e].length + ([] : List Keyword).length + if ([] : List Keyword).isEmpty = true then 0 else 1) < 30)) = true := by intro _; rfl) :
    SimE B d cx (.Call (.Attribute o (Str.ofString "split") apos) [e] [] pos) (methF "str" f g splitV) := simE_meth ho hs split_ok hb hl PySem.F.plainAttrs_str PySem.F.slot_str_split PySem.F.type_str_split he (fun _ => rfl) hq
theorem mIndex {o : Expr} {apos pos : Pos} {e : Expr} {f g} (ho : SimE B d cx o f) (hs : SimL B d cx [e] g) (hb : ∀ env, attributeBase o (Str.ofString "index") env (eval o env) = eval o env) (hl : (apos.endLine == pos.line) = true)
    (he : ∀ env, starEach [e] env = (false, eval e env) :: starEach [] env := by intro _; rfl) (hq : ∀ env, ((((backTo pos (starEach [e] env)).all fun x => !x.fst) && (backToKw pos (keywordEach [] env)).all fun x => x.fst.isSome) && decide (([e].length + ([] : List Keyword).length + if ([] : List Keyword).isEmpty = true then 0 else 1) < 30)) = true := by intro _; rfl) :
    SimE B d cx (.Call (.Attribute o (Str.ofString "index") apos) [e] [] pos) (methF "list" f g indexV) := simE_meth ho hs index_ok hb hl PySem.F.plainAttrs_list PySem.F.slot_list_index PySem.F.type_list_index he (fun _ => rfl) hq
end
end Mine
end

section
open PySem PySem.W PyProof.Rows PySem.Calls
set_option maxRecDepth 100000
set_option linter.all false
namespace Mine

/-! the rules once more, in boxes: what is printed elaborates without opening them -/
structure KE_ (B : BH) (d : Nat) (cx : Cx) (e : Expr) (f : Fm → Option PyData) : Prop where h : SimE B d cx e f
structure KL_ (B : BH) (d : Nat) (cx : Cx) (e : List Expr) (f : Fm → Option (List PyData)) : Prop where h : SimL B d cx e f
structure KT_ (B : BH) (d : Nat) (cx : Cx) (e : Expr) (f : Fm → Option Bool) : Prop where h : SimT B d cx e f
structure KP_ (B : BH) (d : Nat) (cx : Cx) (e : Option Expr) (f : Fm → Option (Option Int)) : Prop where h : SimP B d cx e f
structure KI_ (B : BH) (d : Nat) (cx : Cx) (e t : Expr) (f : Fm → Option (List PyData)) : Prop where h : SimI B d cx e t f
structure KG_ (B : BH) (d : Nat) (cx : Cx) (e t : Expr) (f : Fm → Option (List PyData)) : Prop where h : SimG B d cx e t f
structure KA_ (B : BH) (cx : Cx) (t : Expr) (g : PyData → Fm → Option Fm) : Prop where h : SimA B cx t g
structure KC_ (B : BH) (d : Nat) (cx : Cx) (ifs : List Expr) (f : Fm → Option Bool) : Prop where h : SimC B d cx ifs f
structure K1_ (B : BH) (d : Nat) (cx : Cx) (st : Stmt) (f : Fm → Option Out) : Prop where h : Sim1 B d cx st f
structure KS_ (B : BH) (d : Nat) (cx : Cx) (st : List Stmt) (f : Fm → Option Out) : Prop where h : SimS B d cx st f
structure KR_ (B : BH) (d : Nat) (cx : Cx) (st : List Stmt) (f : Fm → Option PyData) : Prop where h : SimR B d cx st f
structure KO_ (B : BH) (d : Nat) (cx : Cx) (e : Expr) (f : Fm → Option PyData) : Prop where h : SimO B d cx e f
section
variable {B : BH} {d : Nat} {cx : Cx}
theorem kI {i : Int} {k : Nat} {pos : Pos} : KE_ B d cx (.Constant (.int i) k pos) (cI i) := ⟨eI⟩
theorem kS {x : Str} {k : Nat} {pos : Pos} : KE_ B d cx (.Constant (.str x) k pos) (cS x) := ⟨eS⟩
theorem kN {k : Nat} {pos : Pos} : KE_ B d cx (.Constant .none k pos) cN := ⟨eN⟩
theorem kB {b : Bool} {k : Nat} {pos : Pos} : KE_ B d cx (.Constant (.bool b) k pos) (cB b) := ⟨eB⟩
theorem kvar {x : Str} {pos : Pos} (i : Nat) (hi : cx.ns[i]? = some x) (ho : cx.own ≠ some i) (hc : (x == Str.ofString "__classdict__") = false) (hd : (x == ("__debug__" : Str)) = false) : KE_ B d cx (.Name x pos) (getV i) := ⟨simE_var i hi ho hc hd⟩
theorem kl0 : KL_ B d cx [] nilF := ⟨lN⟩
theorem kl1 {e : Expr} {es : List Expr} {f g} (he : KE_ B d cx e f) (hs : KL_ B d cx es g) (hst : ∀ env, starEach (e :: es) env = (false, eval e env) :: starEach es env := by intro _; rfl) : KL_ B d cx (e :: es) (consF f g) := ⟨simL_cons he.h hs.h hst⟩
theorem klist {es : List Expr} {pos : Pos} {f} (hs : KL_ B d cx es f) : KE_ B d cx (.List es pos) (listF f) := ⟨eL hs.h⟩
theorem ktup {es : List Expr} {k : Nat} {pos : Pos} {f} (hs : KL_ B d cx es f) : KE_ B d cx (.Tuple es k pos) (tupF f) := ⟨eT hs.h⟩
theorem kbin {l r : Expr} {op : Operator} {pos : Pos} {f g} (hl : KE_ B d cx l f) (hr : KE_ B d cx r g) : KE_ B d cx (.BinOp l op r pos) (binF op f g) := ⟨simE_bin hl.h hr.h⟩
theorem kneg {e : Expr} {pos : Pos} {f} (he : KE_ B d cx e f) : KE_ B d cx (.UnaryOp .USub e pos) (negF f) := ⟨simE_neg he.h⟩
theorem kcmp {l r : Expr} {op : CmpOp} {pos : Pos} {f g} (hl : KE_ B d cx l f) (hr : KE_ B d cx r g) (hd : 0 < d) (hm : behindInMarks op r = false) : KE_ B d cx (.Compare l [op] [r] pos) (cmpE op f g) := ⟨eC hl.h hr.h hd hm⟩
theorem kp0 : KP_ B d cx none pNone := ⟨pN_⟩
theorem kp1 {e : Expr} {f} (he : KE_ B d cx e f) : KP_ B d cx (some e) (pSome f) := ⟨pS he.h⟩
theorem kslice {value : Expr} {lower upper : Option Expr} {p pos : Pos} {f g k} (hv : KE_ B d cx value f) (hl : KP_ B d cx lower g) (hu : KP_ B d cx upper k) : KE_ B d cx (.Subscript value (.Slice lower upper none p) pos) (sliceF f g k) := ⟨simE_slice hv.h hl.h hu.h⟩
theorem ksub {value slice : Expr} {pos : Pos} {f g} (hv : KE_ B d cx value f) (hi : KE_ B d cx slice g) (hsl : ∀ o i, subscripted slice false o i = operate [o, i] (getItem o i) := by intro _ _; rfl) : KE_ B d cx (.Subscript value slice pos) (subF f g) := ⟨simE_sub hv.h hi.h hsl⟩
theorem kownItem {x : Str} {np pos : Pos} {slice : Expr} {i : Nat} {g} (ho : cx.own = some i) (hi : cx.ns[i]? = some x) (hg : KE_ B d cx slice g) (hc : (x == Str.ofString "__classdict__") = false) (hd : (x == ("__debug__" : Str)) = false)
    (hsl : ∀ o i, subscripted slice false o i = operate [o, i] (getItem o i) := by intro _ _; rfl) : KE_ B d cx (.Subscript (.Name x np) slice pos) (ownItemF i g) := ⟨simE_ownItem ho hi hg.h hc hd hsl⟩
theorem kownLen {x : Str} {lp np pos : Pos} {i : Nat} (ho : cx.own = some i) (hi : cx.ns[i]? = some x) (hv : glob B (Str.ofString "len") = some (.builtin "len")) (hk : cx.sc.names.lookup (Str.ofString "len") = some .globalImplicit) (hc : (x == Str.ofString "__classdict__") = false) (hd : (x == ("__debug__" : Str)) = false) :
    KE_ B d cx (.Call (.Name (Str.ofString "len") lp) [.Name x np] [] pos) (ownLenF i) := ⟨simE_ownLen ho hi hv hk hc hd⟩
theorem kcall {x : Str} {np pos : Pos} {e : Expr} {rest : List Expr} {f F} (hs : KL_ B d cx (e :: rest) f) (H : CallG B d x F) (hk : cx.sc.names.lookup x = some .globalImplicit)
    (hd : (x == ("__debug__" : Str)) = false) (he : ∀ env, starEach (e :: rest) env = (false, eval e env) :: starEach rest env := by intro _; rfl) (hplain : ∀ env, (backTo pos (starEach rest env)).any (·.1) = false := by intro _; rfl) :
    KE_ B d cx (.Call (.Name x np) (e :: rest) [] pos) (callF f F) := ⟨simE_callG hs.h H hk hd he hplain⟩
theorem kownJoin {o : Expr} {x : Str} {apos np pos : Pos} {i : Nat} {f} (hf : KE_ B d cx o f) (ho : cx.own = some i) (hi : cx.ns[i]? = some x) (hb : ∀ env, attributeBase o (Str.ofString "join") env (eval o env) = eval o env) (hl : (apos.endLine == pos.line) = true)
    (hc : (x == Str.ofString "__classdict__") = false) (hd : (x == ("__debug__" : Str)) = false) : KE_ B d cx (.Call (.Attribute o (Str.ofString "join") apos) [.Name x np] [] pos) (ownJoinF f i) := ⟨simE_ownJoin hf.h ho hi hb hl hc hd⟩
theorem kJoin {o : Expr} {apos pos : Pos} {e : Expr} {f g} (ho : KE_ B d cx o f) (hs : KL_ B d cx [e] g) (hb : ∀ env, attributeBase o (Str.ofString "join") env (eval o env) = eval o env) (hl : (apos.endLine == pos.line) = true)
    (he : ∀ env, starEach [e] env = (false, eval e env) :: starEach [] env := by intro _; rfl) (hq : ∀ env, ((((backTo pos (starEach [e] env)).all fun x => !x.fst) && (backToKw pos (keywordEach [] env)).all fun x => x.fst.isSome) && decide (([e].length + ([] : List Keyword).length + if ([] : List Keyword).isEmpty = true then 0 else 1) < 30)) = true := by intro _; rfl) :
    KE_ B d cx (.Call (.Attribute o (Str.ofString "join") apos) [e] [] pos) (methF "str" f g joinV) := ⟨mJoin ho.h hs.h hb hl he hq⟩
theorem kSplit {o : Expr} {apos pos : Pos} {e : Expr} {f g} (ho : KE_ B d cx o f) (hs : KL_ B d cx [e] g) (hb : ∀ env, attributeBase o (Str.ofString "split") env (eval o env) = eval o env) (hl : (apos.endLine == pos.line) = true)
    (he : ∀ env, starEach [e] env = (false, eval e env) :: starEach [] env := by intro _; rfl) (hq : ∀ env, ((((backTo pos (starEach [e] env)).all fun x => !x.fst) && (backToKw pos (keywordEach [] env)).all fun x => x.fst.isSome) && decide (([e].length + ([] : List Keyword).length + if ([] : List Keyword).isEmpty = true then 0 else 1) < 30)) = true := by intro _; rfl) :
    KE_ B d cx (.Call (.Attribute o (Str.ofString "split") apos) [e] [] pos) (methF "str" f g splitV) := ⟨mSplit ho.h hs.h hb hl he hq⟩
theorem kIndex {o : Expr} {apos pos : Pos} {e : Expr} {f g} (ho : KE_ B d cx o f) (hs : KL_ B d cx [e] g) (hb : ∀ env, attributeBase o (Str.ofString "index") env (eval o env) = eval o env) (hl : (apos.endLine == pos.line) = true)
    (he : ∀ env, starEach [e] env = (false, eval e env) :: starEach [] env := by intro _; rfl) (hq : ∀ env, ((((backTo pos (starEach [e] env)).all fun x => !x.fst) && (backToKw pos (keywordEach [] env)).all fun x => x.fst.isSome) && decide (([e].length + ([] : List Keyword).length + if ([] : List Keyword).isEmpty = true then 0 else 1) < 30)) = true := by intro _; rfl) :
    KE_ B d cx (.Call (.Attribute o (Str.ofString "index") apos) [e] [] pos) (methF "list" f g indexV) := ⟨mIndex ho.h hs.h hb hl he hq⟩
theorem kt_cmp {l r : Expr} {op : CmpOp} {pos : Pos} {f g} (hl : KE_ B d cx l f) (hr : KE_ B d cx r g) (hd : 0 < d) (hm : behindInMarks op r = false) : KT_ B d cx (.Compare l [op] [r] pos) (cmpF op f g) := ⟨simT_cmp hl.h hr.h hd hm⟩
theorem kt_or {x y : Expr} {pos : Pos} {f g} (hx : KT_ B d cx x f) (hy : KT_ B d cx y g) : KT_ B d cx (.BoolOp .Or [x, y] pos) (orF f g) := ⟨simT_or hx.h hy.h⟩
theorem kc0 : KC_ B d cx [] trueF := ⟨simC_nil⟩
theorem kc1 {c : Expr} {t} (hc : KT_ B d cx c t) : KC_ B d cx [c] t := ⟨simC_one hc.h⟩
theorem ka1 {x : Str} {pos : Pos} {i : Nat} (hi : Slot1 cx i x) : KA_ B cx (.Name x pos) (putV i) := ⟨simA_name hi⟩
theorem ka2 {x y : Str} {p1 p2 pos : Pos} {k i j : Nat} (hi : Slot1 cx i x) (hj : Slot1 cx j y) : KA_ B cx (.Tuple [.Name x p1, .Name y p2] k pos) (putV2 i j) := ⟨simA_pair hi hj⟩
theorem ki_list {e target : Expr} {f} (he : KE_ B d cx e f) (ht : ∀ it v, letOwnedTupleGo target it v = pure () := by intro _ _; rfl) : KI_ B d cx e target (asList f) := ⟨simI_list he.h ht⟩
theorem ki_range {np pos : Pos} {e target : Expr} {rest : List Expr} {f} (H : Facts B) (hs : KL_ B d cx (e :: rest) f) (hk : cx.sc.names.lookup (Str.ofString "range") = some .globalImplicit)
    (ht : ∀ it v, letOwnedTupleGo target it v = pure () := by intro _ _; rfl) (he : ∀ env, starEach (e :: rest) env = (false, eval e env) :: starEach rest env := by intro _; rfl) (hplain : ∀ env, (backTo pos (starEach rest env)).any (·.1) = false := by intro _; rfl) :
    KI_ B d cx (.Call (.Name (Str.ofString "range") np) (e :: rest) [] pos) target (rngF f) := ⟨simI_range hs.h H.range hk (by decide +kernel) ht he hplain⟩
theorem ki_enum {np pos tpos : Pos} {e : Expr} {elts : List Expr} {k : Nat} {f} (H : Facts B) (hs : KL_ B d cx [e] f) (hk : cx.sc.names.lookup (Str.ofString "enumerate") = some .globalImplicit)
    (he : ∀ env, starEach [e] env = [(false, eval e env)] := by intro _; rfl) : KI_ B d cx (.Call (.Name (Str.ofString "enumerate") np) [e] [] pos) (.Tuple elts k tpos) (enF f) := ⟨simI_enum hs.h H.enum hk (by decide +kernel) he⟩
theorem ki_zip {np pos tpos : Pos} {e1 e2 : Expr} {elts : List Expr} {k : Nat} {f} (H : Facts B) (hs : KL_ B d cx [e1, e2] f) (hk : cx.sc.names.lookup (Str.ofString "zip") = some .globalImplicit)
    (he : ∀ env, starEach [e1, e2] env = (false, eval e1 env) :: starEach [e2] env := by intro _; rfl) (hplain : ∀ env, (backTo pos (starEach [e2] env)).any (·.1) = false := by intro _; rfl) : KI_ B d cx (.Call (.Name (Str.ofString "zip") np) [e1, e2] [] pos) (.Tuple elts k tpos) (zpF f) := ⟨simI_zip hs.h H.zip hk (by decide +kernel) he hplain⟩
theorem kcomp {elt target iter : Expr} {ifs : List Expr} {csc : Scope} {pos : Pos} {idxs : List Nat} {xs : List Str} {k : Nat} {fi g t f}
    (H : CompOk cx csc idxs) (hi : KI_ B d cx iter target fi) (ha : KA_ B (inCx cx csc idxs xs) target g) (ht : KC_ B d (inCx cx csc idxs xs) ifs t) (hf : KE_ B d (inCx cx csc idxs xs) elt f)
    (hs : ∀ env x, foldedSetIterable iter env x = pure x := by intro _ _; rfl) : KE_ B d cx (.ListComp elt [⟨target, iter, ifs, 0⟩] csc pos) (compF fi g t f idxs k) := ⟨simE_comp H hi.h ha.h ht.h hf.h hs⟩
theorem k1_comp {x : Str} {pos' spos : Pos} {elt target iter : Expr} {ifs : List Expr} {csc : Scope} {pos : Pos} {idxs : List Nat} {xs : List Str} {k i : Nat} {fi g t f}
    (H : CompOk cx csc idxs) (hi : KI_ B d cx iter target fi) (ha : KA_ B (inCx cx csc idxs xs) target g) (ht : KC_ B d (inCx cx csc idxs xs) ifs t) (hf : KE_ B d (inCx cx csc idxs xs) elt f) (hx : Slot1 cx i x)
    (hk : cx.sc.names.lookup x = some .local) (hl : (pos'.line == pos.line) = true) (hn : (csc.names.any fun (n, k) => n == x && (k == .local || k == .cell)) = false)
    (hs : ∀ env x, foldedSetIterable iter env x = pure x := by intro _ _; rfl) : K1_ B d cx (.Assign [.Name x pos'] (.ListComp elt [⟨target, iter, ifs, 0⟩] csc pos) spos) (setF i (compF fi g t f idxs k)) := ⟨sim1_assignComp H hi.h ha.h ht.h hf.h hx hk hl hn hs⟩
theorem k1_cell {x : Str} {pos' pos : Pos} {value : Expr} {i : Nat} {f} (hv : KE_ B d cx value f) (hi : Slot1 cx i x) (hk : cx.sc.names.lookup x = some .cell) : K1_ B d cx (.Assign [.Name x pos'] value pos) (setF i f) := ⟨sim1_assignCell hv.h hi hk⟩
theorem k1_assign {x : Str} {pos' pos : Pos} {value : Expr} {i : Nat} {f} (hv : KE_ B d cx value f) (hi : Slot1 cx i x) (hs : ∀ env, swapsWith value (some (.Name x pos')) pos.line env = pure false := by intro _; rfl) : K1_ B d cx (.Assign [.Name x pos'] value pos) (setF i f) := ⟨sim1_assign hv.h hi hs⟩
theorem k1_pair {target value : Expr} {elts : List Expr} {k : Nat} {tp pos : Pos} {f g} (hv : KE_ B d cx value f) (ha : KA_ B cx (.Tuple elts k tp) g)
    (hs : ∀ env, swapsWithSole [.Tuple elts k tp] value pos.line env = pure false := by intro _; rfl) (hw : ∀ env, swappedStores [.Tuple elts k tp] value env = pure none := by intro _; rfl) : K1_ B d cx (.Assign [.Tuple elts k tp] value pos) (asgP f g) := ⟨sim1_assignPair (target := target) hv.h ha.h hs hw⟩
theorem k1_aug {x : Str} {pos' pos : Pos} {value : Expr} {i : Nat} {op : Operator} {f} (hv : KE_ B d cx value f) (hi : Slot1 cx i x) (hc : (x == Str.ofString "__classdict__") = false) : K1_ B d cx (.AugAssign (.Name x pos') op value pos) (augF op i f) := ⟨sim1_aug hv.h hi hc⟩
theorem k1_ext {x : Str} {np pos : Pos} {value : Expr} {i : Nat} {f} (hf : KE_ B d cx value f) (ho : cx.own = some i) (hi : cx.ns[i]? = some x) (hk : cx.sc.names.lookup x = some .local) (hc : (x == Str.ofString "__classdict__") = false) : K1_ B d cx (.AugAssign (.Name x np) .Add value pos) (extF i f) := ⟨sim1_extend hf.h ho hi hk hc⟩
theorem k1_app {x : Str} {apos np pos pos2 : Pos} {elt : Expr} {i : Nat} {f} (hf : KE_ B d cx elt f) (ho : cx.own = some i) (hi : cx.ns[i]? = some x) (hl : (apos.endLine == pos.line) = true) (hc : (x == Str.ofString "__classdict__") = false) (hd : (x == ("__debug__" : Str)) = false)
    (hst : ∀ env, starEach [elt] env = [(false, eval elt env)] := by intro _; rfl) : K1_ B d cx (.Expr (.Call (.Attribute (.Name x np) (Str.ofString "append") apos) [elt] [] pos) pos2) (appF i f) := ⟨sim1_append hf.h ho hi hl hc hd hst⟩
theorem k1_if {test : Expr} {body orelse : List Stmt} {pos : Pos} {t f g} (ht : KT_ B d cx test t) (hf : KS_ B d cx body f) (hg : KS_ B d cx orelse g) : K1_ B d cx (.If test body orelse pos) (iteF t f g) := ⟨sim1_if ht.h hf.h hg.h⟩
theorem k1_while {test : Expr} {body : List Stmt} {pos : Pos} {t f} (n : Nat) (ht : KT_ B d cx test t) (hf : KS_ B d cx body f) : K1_ B d cx (.While test body [] pos) (whileF t f n) := ⟨sim1_while n ht.h hf.h⟩
theorem k1_for {target iter : Expr} {body : List Stmt} {pos : Pos} {fi g f} (hi : KI_ B d cx iter target fi) (ha : KA_ B cx target g) (hb : KS_ B d cx body f) (hfs : ∀ env x, foldedSetIterable iter env x = pure x := by intro _ _; rfl) : K1_ B d cx (.For target iter body [] pos) (forE fi g f) := ⟨sim1_for hi.h ha.h hb.h hfs⟩
theorem k1_forG {target iter : Expr} {body : List Stmt} {pos : Pos} {fi g f} (hi : KG_ B d cx iter target fi) (ha : KA_ B cx target g) (hb : KS_ B d cx body f) (hfs : ∀ env x, foldedSetIterable iter env x = pure x := by intro _ _; rfl) : K1_ B d cx (.For target iter body [] pos) (forE fi g f) := ⟨sim1_forG hi.h ha.h hb.h hfs⟩
theorem k1_ret {e : Expr} {pos : Pos} {f} (he : KO_ B d cx e f) : K1_ B d cx (.Return (some e) pos) (retF f) := ⟨sim1_retO he.h⟩
theorem ko_of {e : Expr} {f} (he : KE_ B d cx e f) : KO_ B d cx e f := ⟨simO_of he.h⟩
theorem ko_var {x : Str} {pos : Pos} (i : Nat) (hi : cx.ns[i]? = some x) (hc : (x == Str.ofString "__classdict__") = false) (hd : (x == ("__debug__" : Str)) = false) : KO_ B d cx (.Name x pos) (getV i) := ⟨simO_var i hi hc hd⟩
theorem ko_pair {e1 e2 : Expr} {k : Nat} {pos : Pos} {f g} (h1 : KO_ B d cx e1 f) (h2 : KO_ B d cx e2 g) (he1 : ∀ env, starEach [e1, e2] env = (false, eval e1 env) :: starEach [e2] env := by intro _; rfl)
    (he2 : ∀ env, starEach [e2] env = (false, eval e2 env) :: starEach [] env := by intro _; rfl) : KO_ B d cx (.Tuple [e1, e2] k pos) (pairO f g) := ⟨simO_pair h1.h h2.h he1 he2⟩
theorem ks0 : KS_ B d cx [] nextF := ⟨simS_nil⟩
theorem ks1 {st : Stmt} {rest : List Stmt} {f g} (h1 : K1_ B d cx st f) (h2 : KS_ B d cx rest g) : KS_ B d cx (st :: rest) (seqF f g) := ⟨simS_cons h1.h h2.h⟩
theorem ks_never {st : List Stmt} : KS_ B d cx st noF := ⟨simS_never⟩
theorem kr_last {st : Stmt} {f} (h : K1_ B d cx st f) : KR_ B d cx [st] (lastF f) := ⟨simR_last h.h⟩
theorem kr1 {st : Stmt} {rest : List Stmt} {f g} (h1 : K1_ B d cx st f) (h2 : KR_ B d cx rest g) : KR_ B d cx (st :: rest) (seqR f g) := ⟨simR_cons h1.h h2.h⟩
theorem kr_own {x : Str} {p1 p2 pos : Pos} {es : List Expr} {rest : List Stmt} {i : Nat} {f g} (hs : KL_ B d cx es f) (hi : OwnAt cx i x) (hr : KR_ B d cx rest g) : KR_ B d cx (.Assign [.Name x p1] (.List es p2) pos :: rest) (ownNew i f g) := ⟨simR_own hs.h hi hr.h⟩
theorem kr_own2 {x y : Str} {p1 p2 p3 tp vp pos : Pos} {k k' : Nat} {e2 : Expr} {rest : List Stmt} {i j : Nat} {f g} (hf : KE_ B d cx e2 f) (hi : OwnAt cx i x) (hj : Slot1 cx j y) (hkj : cx.sc.names.lookup y = some .local) (hr : KR_ B d cx rest g)
    (hsw : ∀ env : Env, env.blockKind = .function → env.kindOf x = some .local → env.kindOf y = some .local → swappedStores [.Tuple [.Name x p1, .Name y p2] k tp] (.Tuple [.List [] p3, e2] k' vp) env = pure (some [x, y]))
    (he1 : ∀ env, starEach [.List [] p3, e2] env = (false, eval (.List [] p3) env) :: starEach [e2] env := by intro _; rfl) (he2 : ∀ env, starEach [e2] env = (false, eval e2 env) :: starEach [] env := by intro _; rfl) :
    KR_ B d cx (.Assign [.Tuple [.Name x p1, .Name y p2] k tp] (.Tuple [.List [] p3, e2] k' vp) pos :: rest) (ownNew2 i j f g) := ⟨simR_own2 hf.h hi hj hkj hr.h hsw he1 he2⟩
theorem kr_own3 {x y z : Str} {p1 p2 p2' p3 tp vp pos : Pos} {k k' : Nat} {e1 e2 : Expr} {rest : List Stmt} {i j l : Nat} {f1 f2 g} (hf1 : KE_ B d cx e1 f1) (hf2 : KE_ B d cx e2 f2) (hi : OwnAt cx i x) (hl : Slot1 cx l z) (hkl : cx.sc.names.lookup z = some .local) (hj : Slot1 cx j y)
    (hkj : cx.sc.names.lookup y = some .local) (hr : KR_ B d cx rest g)
    (hsw : ∀ env : Env, env.blockKind = .function → env.kindOf z = some .local → env.kindOf x = some .local → env.kindOf y = some .local → swappedStores [.Tuple [.Name z p2', .Name x p1, .Name y p2] k tp] (.Tuple [e1, .List [] p3, e2] k' vp) env = pure (some [z, x, y]))
    (he0 : ∀ env, starEach [e1, .List [] p3, e2] env = (false, eval e1 env) :: starEach [.List [] p3, e2] env := by intro _; rfl)
    (he1 : ∀ env, starEach [.List [] p3, e2] env = (false, eval (.List [] p3) env) :: starEach [e2] env := by intro _; rfl) (he2 : ∀ env, starEach [e2] env = (false, eval e2 env) :: starEach [] env := by intro _; rfl) :
    KR_ B d cx (.Assign [.Tuple [.Name z p2', .Name x p1, .Name y p2] k tp] (.Tuple [e1, .List [] p3, e2] k' vp) pos :: rest) (ownNew3 i j l f1 f2 g) := ⟨simR_own3 hf1.h hf2.h hi hl hkl hj hkj hr.h hsw he0 he1 he2⟩
theorem kg_esc {np pos tpos : Pos} {e : Expr} {elts : List Expr} {kk : Nat} {f} (H : Facts B) (he : KE_ B (d + 3) cx e f) (hk : cx.sc.names.lookup (Str.ofString "_iter_escaped_chars") = some .globalImplicit)
    (hst : ∀ env, starEach [e] env = (false, eval e env) :: starEach [] env := by intro _; rfl) : KG_ B (d + 3) cx (.Call (.Name (Str.ofString "_iter_escaped_chars") np) [e] [] pos) (.Tuple elts kk tpos) (esF f) := ⟨gE H he.h hk hst⟩
end
end Mine
end

section
open PySem PySem.W PyProof.Rows PySem.Calls
set_option maxRecDepth 100000
set_option linter.all false
namespace Mine
/-! _strip_quoted_realnames -/
noncomputable def x_7 : Cx := { ns := [(Str.ofString "addr"), (Str.ofString "start"), (Str.ofString "open_pos"), (Str.ofString "result"), (Str.ofString "pos"), (Str.ofString "ch")], sc := fnScope 7, own := some 3 }
theorem s_7_0 : Slot1 x_7 0 (Str.ofString "addr") := ⟨rfl, by decide, .inl (by decide +kernel), nodupB_ok (by decide +kernel)⟩
theorem s_7_1 : Slot1 x_7 1 (Str.ofString "start") := ⟨rfl, by decide, .inl (by decide +kernel), nodupB_ok (by decide +kernel)⟩
theorem s_7_2 : Slot1 x_7 2 (Str.ofString "open_pos") := ⟨rfl, by decide, .inl (by decide +kernel), nodupB_ok (by decide +kernel)⟩
theorem o_7 : OwnAt x_7 3 (Str.ofString "result") := ⟨rfl, rfl, by decide +kernel, nodupB_ok (by decide +kernel)⟩
theorem s_7_4 : Slot1 x_7 4 (Str.ofString "pos") := ⟨rfl, by decide, .inl (by decide +kernel), nodupB_ok (by decide +kernel)⟩
theorem s_7_5 : Slot1 x_7 5 (Str.ofString "ch") := ⟨rfl, by decide, .inl (by decide +kernel), nodupB_ok (by decide +kernel)⟩
noncomputable def f_7 : Fm → Option PyData := (seqR (iteF (cmpF .NotIn (cS (Str.ofString "\"")) (getV 0)) (seqF (retF (getV 0)) nextF) nextF) (seqR (setF 1 (cI 0)) (seqR (setF 2 cN) (ownNew 3 nilF (seqR (forE (esF (getV 0)) (putV2 4 5) (seqF (iteF (cmpF .Eq (getV 5) (cS (Str.ofString "\""))) (seqF (iteF (cmpF .Is (getV 2) cN) (seqF (setF 2 (getV 4)) nextF) (seqF (iteF (cmpF .NotEq (getV 1) (getV 2)) (seqF (appF 3 (sliceF (getV 0) (pSome (getV 1)) (pSome (getV 2)))) nextF) nextF) (seqF (setF 1 (binF .Add (getV 4) (cI 1))) (seqF (setF 2 cN) nextF)))) nextF) nextF) nextF)) (seqR (iteF (cmpF .Lt (getV 1) (callF (consF (getV 0) nilF) lenV)) (seqF (appF 3 (sliceF (getV 0) (pSome (getV 1)) pNone)) nextF) nextF) (lastF (retF (ownJoinF (cS (Str.ofString "")) 3)))))))))
theorem r_7 {B : BH} (H : Facts B) : SimR B 3 x_7 (fnBody 7) f_7 :=
  (show KR_ B 3 x_7 (fnBody 7) f_7 from (kr1 (k1_if (kt_cmp kS (kvar 0 rfl (by decide) rfl rfl) (by omega) rfl) (ks1 (k1_ret (ko_of (kvar 0 rfl (by decide) rfl rfl))) ks0) ks0) (kr1 (k1_assign kI s_7_1) (kr1 (k1_assign kN s_7_2) (kr_own kl0 o_7 (kr1 (k1_forG (kg_esc H (kvar 0 rfl (by decide) rfl rfl) (by decide +kernel)) (ka2 (i := 4) (j := 5) s_7_4 s_7_5) (ks1 (k1_if (kt_cmp (kvar 5 rfl (by decide) rfl rfl) kS (by omega) rfl) (ks1 (k1_if (kt_cmp (kvar 2 rfl (by decide) rfl rfl) kN (by omega) rfl) (ks1 (k1_assign (kvar 4 rfl (by decide) rfl rfl) s_7_2) ks0) (ks1 (k1_if (kt_cmp (kvar 1 rfl (by decide) rfl rfl) (kvar 2 rfl (by decide) rfl rfl) (by omega) rfl) (ks1 (k1_app (kslice (kvar 0 rfl (by decide) rfl rfl) (kp1 (kvar 1 rfl (by decide) rfl rfl)) (kp1 (kvar 2 rfl (by decide) rfl rfl))) rfl (i := 3) rfl (by decide) rfl rfl) ks0) ks0) (ks1 (k1_assign (kbin (kvar 4 rfl (by decide) rfl rfl) kI) s_7_1) (ks1 (k1_assign kN s_7_2) ks0)))) ks0) ks0) ks0)) (kr1 (k1_if (kt_cmp (kvar 1 rfl (by decide) rfl rfl) (kcall (kl1 (kvar 0 rfl (by decide) rfl rfl) kl0) (cLen H) (by decide +kernel) (by decide +kernel)) (by omega) rfl) (ks1 (k1_app (kslice (kvar 0 rfl (by decide) rfl rfl) (kp1 (kvar 1 rfl (by decide) rfl rfl)) kp0) rfl (i := 3) rfl (by decide) rfl rfl) ks0) ks0) (kr_last (k1_ret (ko_of (kownJoin kS rfl (i := 3) rfl (by intro _; rfl) (by decide) rfl rfl))))))))))).h
noncomputable def F_7 : List PyData → Option PyData := argF 1 [] 5 f_7
theorem c_7 {B : BH} (H : Facts B) : CallG B (3 + 1) (Str.ofString "_strip_quoted_realnames") F_7 := callG_def 5 H.d7 (nm := x_7.ns) (own := x_7.own) (by decide +kernel) (r_7 H)
/-! _check_parenthesis -/
noncomputable def x_8 : Cx := { ns := [(Str.ofString "addr"), (Str.ofString "opens"), (Str.ofString "pos"), (Str.ofString "ch")], sc := fnScope 8, own := none }
theorem s_8_0 : Slot1 x_8 0 (Str.ofString "addr") := ⟨rfl, by decide, .inl (by decide +kernel), nodupB_ok (by decide +kernel)⟩
theorem s_8_1 : Slot1 x_8 1 (Str.ofString "opens") := ⟨rfl, by decide, .inl (by decide +kernel), nodupB_ok (by decide +kernel)⟩
theorem s_8_2 : Slot1 x_8 2 (Str.ofString "pos") := ⟨rfl, by decide, .inl (by decide +kernel), nodupB_ok (by decide +kernel)⟩
theorem s_8_3 : Slot1 x_8 3 (Str.ofString "ch") := ⟨rfl, by decide, .inl (by decide +kernel), nodupB_ok (by decide +kernel)⟩
noncomputable def f_8 : Fm → Option PyData := (seqR (setF 0 (callF (consF (getV 0) nilF) F_7)) (seqR (setF 1 (cI 0)) (seqR (forE (esF (getV 0)) (putV2 2 3) (seqF (iteF (cmpF .Eq (getV 3) (cS (Str.ofString "("))) (seqF (augF .Add 1 (cI 1)) nextF) (seqF (iteF (cmpF .Eq (getV 3) (cS (Str.ofString ")"))) (seqF (augF .Sub 1 (cI 1)) (seqF (iteF (cmpF .Lt (getV 1) (cI 0)) (seqF (retF (cB false)) nextF) nextF) nextF)) nextF) nextF)) nextF)) (lastF (retF (cmpE .Eq (getV 1) (cI 0)))))))
theorem r_8 {B : BH} (H : Facts B) : SimR B 4 x_8 (fnBody 8) f_8 :=
  (show KR_ B 4 x_8 (fnBody 8) f_8 from (kr1 (k1_assign (kcall (kl1 (kvar 0 rfl (by decide) rfl rfl) kl0) ((c_7 H).le (by omega)) (by decide +kernel) (by decide +kernel)) s_8_0) (kr1 (k1_assign kI s_8_1) (kr1 (k1_forG (kg_esc H (kvar 0 rfl (by decide) rfl rfl) (by decide +kernel)) (ka2 (i := 2) (j := 3) s_8_2 s_8_3) (ks1 (k1_if (kt_cmp (kvar 3 rfl (by decide) rfl rfl) kS (by omega) rfl) (ks1 (k1_aug kI s_8_1 rfl) ks0) (ks1 (k1_if (kt_cmp (kvar 3 rfl (by decide) rfl rfl) kS (by omega) rfl) (ks1 (k1_aug kI s_8_1 rfl) (ks1 (k1_if (kt_cmp (kvar 1 rfl (by decide) rfl rfl) kI (by omega) rfl) (ks1 (k1_ret (ko_of kB)) ks0) ks0) ks0)) ks0) ks0)) ks0)) (kr_last (k1_ret (ko_of (kcmp (kvar 1 rfl (by decide) rfl rfl) kI (by omega) rfl)))))))).h
noncomputable def F_8 : List PyData → Option PyData := argF 1 [] 3 f_8
theorem c_8 {B : BH} (H : Facts B) : CallG B (4 + 1) (Str.ofString "_check_parenthesis") F_8 := callG_def 3 H.d8 (nm := x_8.ns) (own := x_8.own) (by decide +kernel) (r_8 H)
/-! quotedata -/
noncomputable def x_13 : Cx := { ns := [(Str.ofString "data")], sc := fnScope 13, own := none }
theorem s_13_0 : Slot1 x_13 0 (Str.ofString "data") := ⟨rfl, by decide, .inl (by decide +kernel), nodupB_ok (by decide +kernel)⟩
noncomputable def f_13 : Fm → Option PyData := (lastF (retF (callF (consF (cS (Str.ofString "..")) (consF (callF (consF (cS (Str.ofString "\r\n")) (consF (getV 0) nilF)) (reV (Str.ofString "\r\n") nlL)) nilF)) (reV (Str.ofString "..") (dotL true)))))
theorem r_13 {B : BH} (H : Facts B) : SimR B 1 x_13 (fnBody 13) f_13 := by
  obtain ⟨t, hcr⟩ := H.crlf
  exact (show KR_ B 1 x_13 (fnBody 13) f_13 from (kr_last (k1_ret (ko_of ⟨simE_sub_re H.re1 (kl1 kS (kl1 ⟨simE_sub_re H.re2 (kl1 ⟨simE_globStr hcr (by decide +kernel) rfl⟩ (kl1 (kvar 0 rfl (by decide) rfl rfl) kl0)).h (by decide +kernel) rfl (by decide) (nb := fun _ => 50) (by decide) (by decide +kernel) (by intro n hn; show 50 ≤ _; omega) ends_fnd2 (fun _ => fnd2_ok) (fun t => sub_nl t)⟩ kl0)).h (by decide +kernel) rfl (by decide) (nb := fun n => 6 * n + 20) (by decide) (by decide +kernel) (by intro n hn; show 6 * n + 20 ≤ _; omega) ends_fnd1 (fun _ => fnd1_ok) (fun t => sub_dot t)⟩)))).h
noncomputable def F_13 : List PyData → Option PyData := argF 1 [] 0 f_13
theorem c_13 {B : BH} (H : Facts B) : CallG B (1 + 1) (Str.ofString "quotedata") F_13 := callG_def 0 H.d13 (nm := x_13.ns) (own := x_13.own) (by decide +kernel) (r_13 H)
end Mine
end

section
open PySem PySem.W PyProof.Rows PySem.Calls
set_option maxRecDepth 100000
set_option linter.all false
namespace Mine
/-! _law_drawn -/
noncomputable def x_15 : Cx := { ns := [(Str.ofString "script"), (Str.ofString "given"), (Str.ofString "drawn"), (Str.ofString "depths"), (Str.ofString "x")], sc := fnScope 15, own := some 3 }
theorem s_15_0 : Slot1 x_15 0 (Str.ofString "script") := ⟨rfl, by decide, .inl (by decide +kernel), nodupB_ok (by decide +kernel)⟩
theorem s_15_1 : Slot1 x_15 1 (Str.ofString "given") := ⟨rfl, by decide, .inr ⟨by decide +kernel, rfl⟩, nodupB_ok (by decide +kernel)⟩
theorem s_15_2 : Slot1 x_15 2 (Str.ofString "drawn") := ⟨rfl, by decide, .inl (by decide +kernel), nodupB_ok (by decide +kernel)⟩
theorem o_15 : OwnAt x_15 3 (Str.ofString "depths") := ⟨rfl, rfl, by decide +kernel, nodupB_ok (by decide +kernel)⟩
theorem s_15_4 : Slot1 x_15 4 (Str.ofString "x") := ⟨rfl, by decide, .inl (by decide +kernel), nodupB_ok (by decide +kernel)⟩
noncomputable def f_15 : Fm → Option PyData := (seqR (setF 1 (binF .Add (sliceF (getV 0) pNone (pSome (cI 7))) (binF .Mult (listF (consF (cI 0) nilF)) (cI 7)))) (seqR (setF 2 (compF (rngF (consF (callF (consF (cI 5) (consF (callF (consF (cI 7) (consF (callF (consF (getV 0) nilF) lenV) nilF)) minV) nilF)) maxV) nilF)) (putV 1) trueF (binF .Mod (binF .Add (subF (tupF (consF (cI 20) (consF (cI 11) (consF (cI 4) (consF (cI 32) (consF (cI 52) (consF (cI 43) (consF (cI 25) nilF)))))))) (getV 1)) (subF (getV 0) (getV 1))) (binF .Pow (cI 10) (cI 6))) [1] 1)) (ownNew 3 (consF (cI 0) nilF) (seqR (forE (asList (sliceF (getV 2) (pSome (cI 1)) pNone)) (putV 4) (seqF (appF 3 (binF .Mod (getV 4) (binF .Add (ownItemF 3 (negF (cI 1))) (cI 2)))) nextF)) (lastF (retF (pairO (getV 2) (getV 3))))))))
theorem r_15 {B : BH} (H : Facts B) : SimR B 1 x_15 (fnBody 15) f_15 :=
  (show KR_ B 1 x_15 (fnBody 15) f_15 from (kr1 (k1_assign (kbin (kslice (kvar 0 rfl (by decide) rfl rfl) kp0 (kp1 kI)) (kbin (klist (kl1 kI kl0)) kI)) s_15_1) (kr1 (k1_comp (idxs := [1]) (xs := [(Str.ofString "k")]) (k := 1) (compOk (by decide +kernel)) (ki_range H (kl1 (kcall (kl1 kI (kl1 (kcall (kl1 kI (kl1 (kcall (kl1 (kvar 0 rfl (by decide) rfl rfl) kl0) (cLen H) (by decide +kernel) (by decide +kernel)) kl0)) (cMin H) (by decide +kernel) (by decide +kernel)) kl0)) (cMax H) (by decide +kernel) (by decide +kernel)) kl0) (by decide +kernel)) (ka1 (i := 1) ⟨rfl, (by intro q; cases q), .inl (by decide +kernel), nodupB_ok (by decide +kernel)⟩) kc0 (kbin (kbin (ksub (ktup (kl1 kI (kl1 kI (kl1 kI (kl1 kI (kl1 kI (kl1 kI (kl1 kI kl0)))))))) (kvar 1 rfl (by intro q; cases q) rfl rfl)) (ksub (kvar 0 rfl (by intro q; cases q) rfl rfl) (kvar 1 rfl (by intro q; cases q) rfl rfl))) (kbin kI kI)) s_15_2 (by decide +kernel) (by decide) (by decide +kernel)) (kr_own (kl1 kI kl0) o_15 (kr1 (k1_for (ki_list (kslice (kvar 2 rfl (by decide) rfl rfl) (kp1 kI) kp0)) (ka1 (i := 4) s_15_4) (ks1 (k1_app (kbin (kvar 4 rfl (by decide) rfl rfl) (kbin (kownItem rfl (i := 3) rfl (kneg kI) rfl rfl) kI)) rfl (i := 3) rfl (by decide) rfl rfl) ks0)) (kr_last (k1_ret (ko_pair (ko_of (kvar 2 rfl (by decide) rfl rfl)) (ko_var 3 rfl rfl rfl))))))))).h
noncomputable def F_15 : List PyData → Option PyData := argF 1 [] 4 f_15
theorem c_15 {B : BH} (H : Facts B) : CallG B (1 + 1) (Str.ofString "_law_drawn") F_15 := callG_def 4 H.d15 (nm := x_15.ns) (own := x_15.own) (by decide +kernel) (r_15 H)
/-! _law_units -/
noncomputable def x_16 : Cx := { ns := [(Str.ofString "drawn"), (Str.ofString "depths"), (Str.ofString "units"), (Str.ofString "k"), (Str.ofString "x")], sc := fnScope 16, own := some 2 }
theorem s_16_0 : Slot1 x_16 0 (Str.ofString "drawn") := ⟨rfl, by decide, .inl (by decide +kernel), nodupB_ok (by decide +kernel)⟩
theorem s_16_1 : Slot1 x_16 1 (Str.ofString "depths") := ⟨rfl, by decide, .inl (by decide +kernel), nodupB_ok (by decide +kernel)⟩
theorem o_16 : OwnAt x_16 2 (Str.ofString "units") := ⟨rfl, rfl, by decide +kernel, nodupB_ok (by decide +kernel)⟩
theorem s_16_3 : Slot1 x_16 3 (Str.ofString "k") := ⟨rfl, by decide, .inl (by decide +kernel), nodupB_ok (by decide +kernel)⟩
theorem s_16_4 : Slot1 x_16 4 (Str.ofString "x") := ⟨rfl, by decide, .inl (by decide +kernel), nodupB_ok (by decide +kernel)⟩
noncomputable def f_16 : Fm → Option PyData := (ownNew 2 nilF (seqR (forE (enF (consF (getV 0) nilF)) (putV2 3 4) (seqF (appF 2 (binF .Add (binF .Add (subF (cS (Str.ofString "abcdefg")) (getV 3)) (subF (tupF (consF (cS (Str.ofString "")) (consF (cS (Str.ofString "\\(")) (consF (cS (Str.ofString "\")\"")) (consF (cS (Str.ofString "\\\\")) (consF (cS (Str.ofString "\"(\"")) (consF (cS (Str.ofString "\\\"")) nilF))))))) (binF .Mod (binF .FloorDiv (getV 4) (cI 10)) (cI 6)))) (cS (Str.ofString "(")))) (seqF (extF 2 (binF .Mult (listF (consF (cS (Str.ofString ")")) nilF)) (binF .Sub (binF .Add (subF (getV 1) (getV 3)) (cI 1)) (subF (binF .Add (getV 1) (listF (consF (cI 0) nilF))) (binF .Add (getV 3) (cI 1)))))) nextF))) (lastF (retF (getV 2)))))
theorem r_16 {B : BH} (H : Facts B) : SimR B 1 x_16 (fnBody 16) f_16 :=
  (show KR_ B 1 x_16 (fnBody 16) f_16 from (kr_own kl0 o_16 (kr1 (k1_for (ki_enum H (kl1 (kvar 0 rfl (by decide) rfl rfl) kl0) (by decide +kernel)) (ka2 (i := 3) (j := 4) s_16_3 s_16_4) (ks1 (k1_app (kbin (kbin (ksub kS (kvar 3 rfl (by decide) rfl rfl)) (ksub (ktup (kl1 kS (kl1 kS (kl1 kS (kl1 kS (kl1 kS (kl1 kS kl0))))))) (kbin (kbin (kvar 4 rfl (by decide) rfl rfl) kI) kI))) kS) rfl (i := 2) rfl (by decide) rfl rfl) (ks1 (k1_ext (kbin (klist (kl1 kS kl0)) (kbin (kbin (ksub (kvar 1 rfl (by decide) rfl rfl) (kvar 3 rfl (by decide) rfl rfl)) kI) (ksub (kbin (kvar 1 rfl (by decide) rfl rfl) (klist (kl1 kI kl0))) (kbin (kvar 3 rfl (by decide) rfl rfl) kI)))) rfl (i := 2) rfl (by decide +kernel) rfl) ks0))) (kr_last (k1_ret (ko_var 2 rfl rfl rfl)))))).h
noncomputable def F_16 : List PyData → Option PyData := argF 2 [] 3 f_16
theorem c_16 {B : BH} (H : Facts B) : CallG B (1 + 1) (Str.ofString "_law_units") F_16 := callG_def 3 H.d16 (nm := x_16.ns) (own := x_16.own) (by decide +kernel) (r_16 H)
/-! _law_parted -/
noncomputable def x_17 : Cx := { ns := [(Str.ofString "units"), (Str.ofString "trees"), (Str.ofString "start"), (Str.ofString "end")], sc := fnScope 17, own := some 1 }
theorem s_17_0 : Slot1 x_17 0 (Str.ofString "units") := ⟨rfl, by decide, .inl (by decide +kernel), nodupB_ok (by decide +kernel)⟩
theorem o_17 : OwnAt x_17 1 (Str.ofString "trees") := ⟨rfl, rfl, by decide +kernel, nodupB_ok (by decide +kernel)⟩
theorem s_17_2 : Slot1 x_17 2 (Str.ofString "start") := ⟨rfl, by decide, .inl (by decide +kernel), nodupB_ok (by decide +kernel)⟩
theorem s_17_3 : Slot1 x_17 3 (Str.ofString "end") := ⟨rfl, by decide, .inl (by decide +kernel), nodupB_ok (by decide +kernel)⟩
noncomputable def f_17 : Fm → Option PyData := (ownNew2 1 2 (cI 0) (seqR (forE (rngF (consF (cI 2) (consF (binF .Add (callF (consF (getV 0) nilF) lenV) (cI 1)) (consF (cI 2) nilF)))) (putV 3) (seqF (iteF (cmpF .Is (callF (consF (methF "str" (cS (Str.ofString "")) (consF (sliceF (getV 0) (pSome (getV 2)) (pSome (getV 3))) nilF) joinV) nilF) F_8) (cB true)) (seqF (appF 1 (sliceF (getV 0) (pSome (getV 2)) (pSome (getV 3)))) (seqF (setF 2 (getV 3)) nextF)) nextF) nextF)) (lastF (retF (getV 1)))))
theorem r_17 {B : BH} (H : Facts B) : SimR B 5 x_17 (fnBody 17) f_17 :=
  (show KR_ B 5 x_17 (fnBody 17) f_17 from (kr_own2 kI o_17 s_17_2 (by decide +kernel) (kr1 (k1_for (ki_range H (kl1 kI (kl1 (kbin (kcall (kl1 (kvar 0 rfl (by decide) rfl rfl) kl0) (cLen H) (by decide +kernel) (by decide +kernel)) kI) (kl1 kI kl0))) (by decide +kernel)) (ka1 (i := 3) s_17_3) (ks1 (k1_if (kt_cmp (kcall (kl1 (kJoin kS (kl1 (kslice (kvar 0 rfl (by decide) rfl rfl) (kp1 (kvar 2 rfl (by decide) rfl rfl)) (kp1 (kvar 3 rfl (by decide) rfl rfl))) kl0) (by intro _; rfl) (by decide)) kl0) ((c_8 H).le (by omega)) (by decide +kernel) (by decide +kernel)) kB (by omega) rfl) (ks1 (k1_app (kslice (kvar 0 rfl (by decide) rfl rfl) (kp1 (kvar 2 rfl (by decide) rfl rfl)) (kp1 (kvar 3 rfl (by decide) rfl rfl))) rfl (i := 1) rfl (by decide) rfl rfl) (ks1 (k1_assign (kvar 3 rfl (by decide) rfl rfl) s_17_2) ks0)) ks0) ks0)) (kr_last (k1_ret (ko_var 1 rfl rfl rfl)))) (by intro env hb h1 h2; unfold swappedStores; simp only [hb, List.filterMap, h1, h2]; kernel_rfl))).h
noncomputable def F_17 : List PyData → Option PyData := argF 1 [] 3 f_17
theorem c_17 {B : BH} (H : Facts B) : CallG B (5 + 1) (Str.ofString "_law_parted") F_17 := callG_def 3 H.d17 (nm := x_17.ns) (own := x_17.own) (by decide +kernel) (r_17 H)
/-! _law_laid -/
noncomputable def x_19 : Cx := { ns := [(Str.ofString "mail"), (Str.ofString "trees"), (Str.ofString "turn"), (Str.ofString "k"), (Str.ofString "tree")], sc := fnScope 19, own := none }
theorem s_19_0 : Slot1 x_19 0 (Str.ofString "mail") := ⟨rfl, by decide, .inl (by decide +kernel), nodupB_ok (by decide +kernel)⟩
theorem s_19_1 : Slot1 x_19 1 (Str.ofString "trees") := ⟨rfl, by decide, .inl (by decide +kernel), nodupB_ok (by decide +kernel)⟩
theorem s_19_2 : Slot1 x_19 2 (Str.ofString "turn") := ⟨rfl, by decide, .inl (by decide +kernel), nodupB_ok (by decide +kernel)⟩
theorem s_19_3 : Slot1 x_19 3 (Str.ofString "k") := ⟨rfl, by decide, .inl (by decide +kernel), nodupB_ok (by decide +kernel)⟩
theorem s_19_4 : Slot1 x_19 4 (Str.ofString "tree") := ⟨rfl, by decide, .inl (by decide +kernel), nodupB_ok (by decide +kernel)⟩
noncomputable def f_19 : Fm → Option PyData := (seqR (forE (enF (consF (getV 1) nilF)) (putV2 3 4) (seqF (augF .Add 0 (binF .Add (binF .Add (binF .Add (cS (Str.ofString ".")) (subF (tupF (consF (cS (Str.ofString "\n")) (consF (cS (Str.ofString "\r")) (consF (cS (Str.ofString "\r\n")) nilF)))) (binF .Mod (binF .Add (getV 2) (getV 3)) (cI 3)))) (subF (getV 4) (cI 0))) (binF .Mult (cI 2) (subF (tupF (consF (cS (Str.ofString "\r")) (consF (cS (Str.ofString "\r\n")) (consF (cS (Str.ofString "\n")) nilF)))) (binF .Mod (binF .FloorDiv (binF .Add (getV 2) (getV 3)) (cI 3)) (cI 3)))))) nextF)) (lastF (retF (getV 0))))
theorem r_19 {B : BH} (H : Facts B) : SimR B 1 x_19 (fnBody 19) f_19 :=
  (show KR_ B 1 x_19 (fnBody 19) f_19 from (kr1 (k1_for (ki_enum H (kl1 (kvar 1 rfl (by decide) rfl rfl) kl0) (by decide +kernel)) (ka2 (i := 3) (j := 4) s_19_3 s_19_4) (ks1 (k1_aug (kbin (kbin (kbin kS (ksub (ktup (kl1 kS (kl1 kS (kl1 kS kl0)))) (kbin (kbin (kvar 2 rfl (by decide) rfl rfl) (kvar 3 rfl (by decide) rfl rfl)) kI))) (ksub (kvar 4 rfl (by decide) rfl rfl) kI)) (kbin kI (ksub (ktup (kl1 kS (kl1 kS (kl1 kS kl0)))) (kbin (kbin (kbin (kvar 2 rfl (by decide) rfl rfl) (kvar 3 rfl (by decide) rfl rfl)) kI) kI)))) s_19_0 rfl) ks0)) (kr_last (k1_ret (ko_of (kvar 0 rfl (by decide) rfl rfl)))))).h
noncomputable def F_19 : List PyData → Option PyData := argF 3 [] 2 f_19
theorem c_19 {B : BH} (H : Facts B) : CallG B (1 + 1) (Str.ofString "_law_laid") F_19 := callG_def 2 H.d19 (nm := x_19.ns) (own := x_19.own) (by decide +kernel) (r_19 H)
/-! _law_cells -/
noncomputable def x_21 : Cx := { ns := [(Str.ofString "depths"), (Str.ofString "stairs"), (Str.ofString "cells"), (Str.ofString "k"), (Str.ofString "row"), (Str.ofString "column"), (Str.ofString "arm"), (Str.ofString "leg")], sc := fnScope 21, own := none }
theorem s_21_0 : Slot1 x_21 0 (Str.ofString "depths") := ⟨rfl, by decide, .inl (by decide +kernel), nodupB_ok (by decide +kernel)⟩
theorem s_21_1 : Slot1 x_21 1 (Str.ofString "stairs") := ⟨rfl, by decide, .inl (by decide +kernel), nodupB_ok (by decide +kernel)⟩
theorem s_21_2 : Slot1 x_21 2 (Str.ofString "cells") := ⟨rfl, by decide, .inl (by decide +kernel), nodupB_ok (by decide +kernel)⟩
theorem s_21_3 : Slot1 x_21 3 (Str.ofString "k") := ⟨rfl, by decide, .inl (by decide +kernel), nodupB_ok (by decide +kernel)⟩
theorem s_21_4 : Slot1 x_21 4 (Str.ofString "row") := ⟨rfl, by decide, .inl (by decide +kernel), nodupB_ok (by decide +kernel)⟩
theorem s_21_5 : Slot1 x_21 5 (Str.ofString "column") := ⟨rfl, by decide, .inr ⟨by decide +kernel, rfl⟩, nodupB_ok (by decide +kernel)⟩
theorem s_21_6 : Slot1 x_21 6 (Str.ofString "arm") := ⟨rfl, by decide, .inl (by decide +kernel), nodupB_ok (by decide +kernel)⟩
theorem s_21_7 : Slot1 x_21 7 (Str.ofString "leg") := ⟨rfl, by decide, .inl (by decide +kernel), nodupB_ok (by decide +kernel)⟩
noncomputable def f_21 : Fm → Option PyData := (seqR (setF 1 (compF (enF (consF (getV 0) nilF)) (putV2 0 1) trueF (binF .Sub (getV 0) (getV 1)) [] 2)) (seqR (setF 2 (cI 0)) (seqR (forE (enF (consF (getV 1) nilF)) (putV2 3 4) (seqF (forE (rngF (consF (getV 4) nilF)) (putV 5) (seqF (setF 6 (binF .Sub (binF .Sub (getV 4) (cI 1)) (getV 5))) (seqF (setF 7 (callF (consF (compF (asList (sliceF (getV 1) pNone (pSome (getV 3)))) (putV 1) (cmpF .Gt (getV 1) (getV 0)) (getV 1) [5] 1) nilF) lenV)) (seqF (iteF (cmpF .In (getV 6) (tupF (consF (getV 7) (consF (binF .Add (getV 7) (cI 1)) nilF)))) (seqF (augF .Add 2 (cI 1)) nextF) nextF) nextF)))) nextF)) (lastF (retF (getV 2))))))
theorem r_21 {B : BH} (H : Facts B) : SimR B 1 x_21 (fnBody 21) f_21 :=
  (show KR_ B 1 x_21 (fnBody 21) f_21 from (kr1 (k1_comp (idxs := []) (xs := [(Str.ofString "k"), (Str.ofString "depth")]) (k := 2) (compOk (by decide +kernel)) (ki_enum H (kl1 (kvar 0 rfl (by decide) rfl rfl) kl0) (by decide +kernel)) (ka2 (i := 0) (j := 1) ⟨rfl, (by intro q; cases q), .inl (by decide +kernel), nodupB_ok (by decide +kernel)⟩ ⟨rfl, (by intro q; cases q), .inl (by decide +kernel), nodupB_ok (by decide +kernel)⟩) kc0 (kbin (kvar 0 rfl (by intro q; cases q) rfl rfl) (kvar 1 rfl (by intro q; cases q) rfl rfl)) s_21_1 (by decide +kernel) (by decide) (by decide +kernel)) (kr1 (k1_assign kI s_21_2) (kr1 (k1_for (ki_enum H (kl1 (kvar 1 rfl (by decide) rfl rfl) kl0) (by decide +kernel)) (ka2 (i := 3) (j := 4) s_21_3 s_21_4) (ks1 (k1_for (ki_range H (kl1 (kvar 4 rfl (by decide) rfl rfl) kl0) (by decide +kernel)) (ka1 (i := 5) s_21_5) (ks1 (k1_assign (kbin (kbin (kvar 4 rfl (by decide) rfl rfl) kI) (kvar 5 rfl (by decide) rfl rfl)) s_21_6) (ks1 (k1_assign (kcall (kl1 (kcomp (idxs := [5]) (xs := [(Str.ofString "other")]) (k := 1) (compOk (by decide +kernel)) (ki_list (kslice (kvar 1 rfl (by decide) rfl rfl) kp0 (kp1 (kvar 3 rfl (by decide) rfl rfl)))) (ka1 (i := 1) ⟨rfl, (by intro q; cases q), .inl (by decide +kernel), nodupB_ok (by decide +kernel)⟩) (kc1 (kt_cmp (kvar 1 rfl (by intro q; cases q) rfl rfl) (kvar 0 rfl (by intro q; cases q) rfl rfl) (by omega) rfl)) (kvar 1 rfl (by intro q; cases q) rfl rfl)) kl0) (cLen H) (by decide +kernel) (by decide +kernel)) s_21_7) (ks1 (k1_if (kt_cmp (kvar 6 rfl (by decide) rfl rfl) (ktup (kl1 (kvar 7 rfl (by decide) rfl rfl) (kl1 (kbin (kvar 7 rfl (by decide) rfl rfl) kI) kl0))) (by omega) rfl) (ks1 (k1_aug kI s_21_2 rfl) ks0) ks0) ks0)))) ks0)) (kr_last (k1_ret (ko_of (kvar 2 rfl (by decide) rfl rfl)))))))).h
noncomputable def F_21 : List PyData → Option PyData := argF 1 [] 7 f_21
theorem c_21 {B : BH} (H : Facts B) : CallG B (1 + 1) (Str.ofString "_law_cells") F_21 := callG_def 7 H.d21 (nm := x_21.ns) (own := x_21.own) (by decide +kernel) (r_21 H)
/-! _law_holders -/
noncomputable def x_23 : Cx := { ns := [(Str.ofString "depths"), (Str.ofString "order"), (Str.ofString "holders"), (Str.ofString "k"), (Str.ofString "places")], sc := fnScope 23, own := some 2 }
theorem s_23_0 : Slot1 x_23 0 (Str.ofString "depths") := ⟨rfl, by decide, .inr ⟨by decide +kernel, rfl⟩, nodupB_ok (by decide +kernel)⟩
theorem s_23_1 : Slot1 x_23 1 (Str.ofString "order") := ⟨rfl, by decide, .inr ⟨by decide +kernel, rfl⟩, nodupB_ok (by decide +kernel)⟩
theorem o_23 : OwnAt x_23 2 (Str.ofString "holders") := ⟨rfl, rfl, by decide +kernel, nodupB_ok (by decide +kernel)⟩
theorem s_23_3 : Slot1 x_23 3 (Str.ofString "k") := ⟨rfl, by decide, .inr ⟨by decide +kernel, rfl⟩, nodupB_ok (by decide +kernel)⟩
theorem s_23_4 : Slot1 x_23 4 (Str.ofString "places") := ⟨rfl, by decide, .inl (by decide +kernel), nodupB_ok (by decide +kernel)⟩
noncomputable def f_23 : Fm → Option PyData := (ownNew 2 nilF (seqR (forE (asList (getV 1)) (putV 3) (seqF (setF 4 (binF .Add (listF (consF (cI 0) nilF)) (compF (rngF (consF (getV 3) nilF)) (putV 3) (cmpF .Eq (subF (getV 1) (getV 3)) (binF .Sub (subF (getV 1) (getV 2)) (cI 1))) (binF .Add (methF "list" (getV 0) (consF (getV 3) nilF) indexV) (cI 1)) [1, 0, 3] 1))) (seqF (appF 2 (subF (getV 4) (negF (cI 1)))) nextF))) (lastF (retF (getV 2)))))
theorem r_23 {B : BH} (H : Facts B) : SimR B 1 x_23 (fnBody 23) f_23 :=
  (show KR_ B 1 x_23 (fnBody 23) f_23 from (kr_own kl0 o_23 (kr1 (k1_for (ki_list (kvar 1 rfl (by decide) rfl rfl)) (ka1 (i := 3) s_23_3) (ks1 (k1_assign (kbin (klist (kl1 kI kl0)) (kcomp (idxs := [1, 0, 3]) (xs := [(Str.ofString "node")]) (k := 1) (compOk (by decide +kernel)) (ki_range H (kl1 (kvar 3 rfl (by decide) rfl rfl) kl0) (by decide +kernel)) (ka1 (i := 3) ⟨rfl, (by intro q; cases q), .inl (by decide +kernel), nodupB_ok (by decide +kernel)⟩) (kc1 (kt_cmp (ksub (kvar 1 rfl (by intro q; cases q) rfl rfl) (kvar 3 rfl (by intro q; cases q) rfl rfl)) (kbin (ksub (kvar 1 rfl (by intro q; cases q) rfl rfl) (kvar 2 rfl (by intro q; cases q) rfl rfl)) kI) (by omega) rfl)) (kbin (kIndex (kvar 0 rfl (by intro q; cases q) rfl rfl) (kl1 (kvar 3 rfl (by intro q; cases q) rfl rfl) kl0) (by intro _; rfl) (by decide)) kI))) s_23_4) (ks1 (k1_app (ksub (kvar 4 rfl (by decide) rfl rfl) (kneg kI)) rfl (i := 2) rfl (by decide) rfl rfl) ks0))) (kr_last (k1_ret (ko_var 2 rfl rfl rfl)))))).h
noncomputable def F_23 : List PyData → Option PyData := argF 2 [] 3 f_23
theorem c_23 {B : BH} (H : Facts B) : CallG B (1 + 1) (Str.ofString "_law_holders") F_23 := callG_def 3 H.d23 (nm := x_23.ns) (own := x_23.own) (by decide +kernel) (r_23 H)
end Mine
end

section
open PySem PySem.W PyProof.Rows PySem.Calls
set_option maxRecDepth 100000
set_option linter.all false
namespace Mine
/-! bisect_left -/
noncomputable def x_4 : Cx := { ns := [(Str.ofString "a"), (Str.ofString "x"), (Str.ofString "lo"), (Str.ofString "hi"), (Str.ofString "key"), (Str.ofString "mid")], sc := fnScope 4, own := none }
theorem s_4_0 : Slot1 x_4 0 (Str.ofString "a") := ⟨rfl, by decide, .inl (by decide +kernel), nodupB_ok (by decide +kernel)⟩
theorem s_4_1 : Slot1 x_4 1 (Str.ofString "x") := ⟨rfl, by decide, .inl (by decide +kernel), nodupB_ok (by decide +kernel)⟩
theorem s_4_2 : Slot1 x_4 2 (Str.ofString "lo") := ⟨rfl, by decide, .inl (by decide +kernel), nodupB_ok (by decide +kernel)⟩
theorem s_4_3 : Slot1 x_4 3 (Str.ofString "hi") := ⟨rfl, by decide, .inl (by decide +kernel), nodupB_ok (by decide +kernel)⟩
theorem s_4_4 : Slot1 x_4 4 (Str.ofString "key") := ⟨rfl, by decide, .inl (by decide +kernel), nodupB_ok (by decide +kernel)⟩
theorem s_4_5 : Slot1 x_4 5 (Str.ofString "mid") := ⟨rfl, by decide, .inl (by decide +kernel), nodupB_ok (by decide +kernel)⟩
noncomputable def f_4 : Fm → Option PyData := (seqR (iteF (cmpF .Lt (getV 2) (cI 0)) noF nextF) (seqR (iteF (cmpF .Is (getV 3) cN) (seqF (setF 3 (callF (consF (getV 0) nilF) lenV)) nextF) nextF) (seqR (iteF (cmpF .Is (getV 4) cN) (seqF (whileF (cmpF .Lt (getV 2) (getV 3)) (seqF (setF 5 (binF .FloorDiv (binF .Add (getV 2) (getV 3)) (cI 2))) (seqF (iteF (cmpF .Lt (subF (getV 0) (getV 5)) (getV 1)) (seqF (setF 2 (binF .Add (getV 5) (cI 1))) nextF) (seqF (setF 3 (getV 5)) nextF)) nextF)) 20) nextF) noF) (lastF (retF (getV 2))))))
theorem r_4 {B : BH} (H : Facts B) : SimR B 1 x_4 (fnBody 4) f_4 :=
  (show KR_ B 1 x_4 (fnBody 4) f_4 from (kr1 (k1_if (kt_cmp (kvar 2 rfl (by decide) rfl rfl) kI (by omega) rfl) ks_never ks0) (kr1 (k1_if (kt_cmp (kvar 3 rfl (by decide) rfl rfl) kN (by omega) rfl) (ks1 (k1_assign (kcall (kl1 (kvar 0 rfl (by decide) rfl rfl) kl0) (cLen H) (by decide +kernel) (by decide +kernel)) s_4_3) ks0) ks0) (kr1 (k1_if (kt_cmp (kvar 4 rfl (by decide) rfl rfl) kN (by omega) rfl) (ks1 (k1_while 20 (kt_cmp (kvar 2 rfl (by decide) rfl rfl) (kvar 3 rfl (by decide) rfl rfl) (by omega) rfl) (ks1 (k1_assign (kbin (kbin (kvar 2 rfl (by decide) rfl rfl) (kvar 3 rfl (by decide) rfl rfl)) kI) s_4_5) (ks1 (k1_if (kt_cmp (ksub (kvar 0 rfl (by decide) rfl rfl) (kvar 5 rfl (by decide) rfl rfl)) (kvar 1 rfl (by decide) rfl rfl) (by omega) rfl) (ks1 (k1_assign (kbin (kvar 5 rfl (by decide) rfl rfl) kI) s_4_2) ks0) (ks1 (k1_assign (kvar 5 rfl (by decide) rfl rfl) s_4_3) ks0)) ks0))) ks0) ks_never) (kr_last (k1_ret (ko_of (kvar 2 rfl (by decide) rfl rfl)))))))).h
noncomputable def F_4 : List PyData → Option PyData := argF 2 [.int 0, .none, .none] 1 f_4
theorem c_4 {B : BH} (H : Facts B) : CallG B (1 + 1) (Str.ofString "bisect_left") F_4 := callG_defD 1 H.d4 rfl (nm := x_4.ns) (own := x_4.own) (by decide +kernel) (r_4 H)
/-! _law_stops -/
noncomputable def x_24 : Cx := { ns := [(Str.ofString "opens"), (Str.ofString "closes"), (Str.ofString "levels"), (Str.ofString "stops"), (Str.ofString "level")], sc := fnScope 24, own := some 3 }
theorem s_24_0 : Slot1 x_24 0 (Str.ofString "opens") := ⟨rfl, by decide, .inl (by decide +kernel), nodupB_ok (by decide +kernel)⟩
theorem s_24_1 : Slot1 x_24 1 (Str.ofString "closes") := ⟨rfl, by decide, .inl (by decide +kernel), nodupB_ok (by decide +kernel)⟩
theorem s_24_2 : Slot1 x_24 2 (Str.ofString "levels") := ⟨rfl, by decide, .inl (by decide +kernel), nodupB_ok (by decide +kernel)⟩
theorem o_24 : OwnAt x_24 3 (Str.ofString "stops") := ⟨rfl, rfl, by decide +kernel, nodupB_ok (by decide +kernel)⟩
theorem s_24_4 : Slot1 x_24 4 (Str.ofString "level") := ⟨rfl, by decide, .inl (by decide +kernel), nodupB_ok (by decide +kernel)⟩
noncomputable def f_24 : Fm → Option PyData := (ownNew 3 (consF (cI 0) nilF) (seqR (forE (rngF (consF (getV 2) nilF)) (putV 4) (seqF (appF 3 (callF (consF (getV 0) (consF (subF (getV 1) (ownItemF 3 (negF (cI 1)))) nilF)) F_4)) nextF)) (lastF (retF (getV 3)))))
theorem r_24 {B : BH} (H : Facts B) : SimR B 2 x_24 (fnBody 24) f_24 :=
  (show KR_ B 2 x_24 (fnBody 24) f_24 from (kr_own (kl1 kI kl0) o_24 (kr1 (k1_for (ki_range H (kl1 (kvar 2 rfl (by decide) rfl rfl) kl0) (by decide +kernel)) (ka1 (i := 4) s_24_4) (ks1 (k1_app (kcall (kl1 (kvar 0 rfl (by decide) rfl rfl) (kl1 (ksub (kvar 1 rfl (by decide) rfl rfl) (kownItem rfl (i := 3) rfl (kneg kI) rfl rfl)) kl0)) ((c_4 H).le (by omega)) (by decide +kernel) (by decide +kernel)) rfl (i := 3) rfl (by decide) rfl rfl) ks0)) (kr_last (k1_ret (ko_var 3 rfl rfl rfl)))))).h
noncomputable def F_24 : List PyData → Option PyData := argF 3 [] 2 f_24
theorem c_24 {B : BH} (H : Facts B) : CallG B (2 + 1) (Str.ofString "_law_stops") F_24 := callG_def 2 H.d24 (nm := x_24.ns) (own := x_24.own) (by decide +kernel) (r_24 H)
/-! _law_handed_out -/
noncomputable def x_20 : Cx := { ns := [(Str.ofString "units"), (Str.ofString "turn"), (Str.ofString "line"), (Str.ofString "mail"), (Str.ofString "told"), (Str.ofString "record"), (Str.ofString "rows"), (Str.ofString "young")], sc := fnScope 20, own := some 4 }
theorem s_20_0 : Slot1 x_20 0 (Str.ofString "units") := ⟨rfl, by decide, .inl (by decide +kernel), nodupB_ok (by decide +kernel)⟩
theorem s_20_1 : Slot1 x_20 1 (Str.ofString "turn") := ⟨rfl, by decide, .inl (by decide +kernel), nodupB_ok (by decide +kernel)⟩
theorem s_20_2 : Slot1 x_20 2 (Str.ofString "line") := ⟨rfl, by decide, .inl (by decide +kernel), nodupB_ok (by decide +kernel)⟩
theorem s_20_3 : Slot1 x_20 3 (Str.ofString "mail") := ⟨rfl, by decide, .inl (by decide +kernel), nodupB_ok (by decide +kernel)⟩
theorem o_20 : OwnAt x_20 4 (Str.ofString "told") := ⟨rfl, rfl, by decide +kernel, nodupB_ok (by decide +kernel)⟩
theorem s_20_5 : Slot1 x_20 5 (Str.ofString "record") := ⟨rfl, by decide, .inl (by decide +kernel), nodupB_ok (by decide +kernel)⟩
theorem s_20_6 : Slot1 x_20 6 (Str.ofString "rows") := ⟨rfl, by decide, .inl (by decide +kernel), nodupB_ok (by decide +kernel)⟩
theorem s_20_7 : Slot1 x_20 7 (Str.ofString "young") := ⟨rfl, by decide, .inl (by decide +kernel), nodupB_ok (by decide +kernel)⟩
noncomputable def f_20 : Fm → Option PyData := (seqR (setF 2 (callF (consF (getV 0) nilF) F_17)) (ownNew3 4 5 3 (callF (consF (cS (Str.ofString "")) (consF (getV 2) (consF (getV 1) nilF))) F_19) (binF .Mult (cS (Str.ofString "(")) (callF (consF (getV 2) nilF) lenV)) (seqR (whileF (cmpF .NotEq (getV 2) (listF nilF)) (seqF (setF 6 (methF "str" (callF (consF (getV 3) nilF) F_13) (consF (cS (Str.ofString "\r\n")) nilF) splitV)) (seqF (appF 4 (sliceF (getV 6) pNone (pSome (cI 3)))) (seqF (setF 7 (callF (consF (sliceF (subF (getV 2) (cI 0)) (pSome (cI 1)) (pSome (negF (cI 1)))) nilF) F_17)) (seqF (setF 3 (callF (consF (methF "str" (cS (Str.ofString "\r\n")) (consF (sliceF (getV 6) (pSome (cI 3)) pNone) nilF) joinV) (consF (getV 7) (consF (binF .Add (getV 1) (ownLenF 4)) nilF))) F_19)) (seqF (augF .Add 5 (binF .Add (cS (Str.ofString ")")) (binF .Mult (cS (Str.ofString "(")) (callF (consF (getV 7) nilF) lenV)))) (seqF (setF 2 (binF .Add (sliceF (getV 2) (pSome (cI 1)) pNone) (getV 7))) nextF)))))) 20) (lastF (retF (pairO (getV 4) (getV 5)))))))
theorem r_20 {B : BH} (H : Facts B) : SimR B 6 x_20 (fnBody 20) f_20 :=
  (show KR_ B 6 x_20 (fnBody 20) f_20 from (kr1 (k1_assign (kcall (kl1 (kvar 0 rfl (by decide) rfl rfl) kl0) ((c_17 H).le (by omega)) (by decide +kernel) (by decide +kernel)) s_20_2) (kr_own3 (kcall (kl1 kS (kl1 (kvar 2 rfl (by decide) rfl rfl) (kl1 (kvar 1 rfl (by decide) rfl rfl) kl0))) ((c_19 H).le (by omega)) (by decide +kernel) (by decide +kernel)) (kbin kS (kcall (kl1 (kvar 2 rfl (by decide) rfl rfl) kl0) (cLen H) (by decide +kernel) (by decide +kernel))) o_20 s_20_3 (by decide +kernel) s_20_5 (by decide +kernel) (kr1 (k1_while 20 (kt_cmp (kvar 2 rfl (by decide) rfl rfl) (klist kl0) (by omega) rfl) (ks1 (k1_assign (kSplit (kcall (kl1 (kvar 3 rfl (by decide) rfl rfl) kl0) ((c_13 H).le (by omega)) (by decide +kernel) (by decide +kernel)) (kl1 kS kl0) (by intro _; rfl) (by decide)) s_20_6) (ks1 (k1_app (kslice (kvar 6 rfl (by decide) rfl rfl) kp0 (kp1 kI)) rfl (i := 4) rfl (by decide) rfl rfl) (ks1 (k1_assign (kcall (kl1 (kslice (ksub (kvar 2 rfl (by decide) rfl rfl) kI) (kp1 kI) (kp1 (kneg kI))) kl0) ((c_17 H).le (by omega)) (by decide +kernel) (by decide +kernel)) s_20_7) (ks1 (k1_assign (kcall (kl1 (kJoin kS (kl1 (kslice (kvar 6 rfl (by decide) rfl rfl) (kp1 kI) kp0) kl0) (by intro _; rfl) (by decide)) (kl1 (kvar 7 rfl (by decide) rfl rfl) (kl1 (kbin (kvar 1 rfl (by decide) rfl rfl) (kownLen rfl (i := 4) rfl H.len (by decide +kernel) rfl rfl)) kl0))) ((c_19 H).le (by omega)) (by decide +kernel) (by decide +kernel)) s_20_3) (ks1 (k1_aug (kbin kS (kbin kS (kcall (kl1 (kvar 7 rfl (by decide) rfl rfl) kl0) (cLen H) (by decide +kernel) (by decide +kernel)))) s_20_5 rfl) (ks1 (k1_assign (kbin (kslice (kvar 2 rfl (by decide) rfl rfl) (kp1 kI) kp0) (kvar 7 rfl (by decide) rfl rfl)) s_20_2) ks0))))))) (kr_last (k1_ret (ko_pair (ko_var 4 rfl rfl rfl) (ko_of (kvar 5 rfl (by decide) rfl rfl)))))) (by intro env hb h1 h2 h3; unfold swappedStores; simp only [hb, List.filterMap, h1, h2, h3]; kernel_rfl)))).h
noncomputable def F_20 : List PyData → Option PyData := argF 2 [] 6 f_20
theorem c_20 {B : BH} (H : Facts B) : CallG B (6 + 1) (Str.ofString "_law_handed_out") F_20 := callG_def 6 H.d20 (nm := x_20.ns) (own := x_20.own) (by decide +kernel) (r_20 H)
end Mine
end

section
open PySem PySem.W PyProof.Rows PySem.Calls
set_option maxRecDepth 100000
set_option linter.all false
namespace Mine
/-! _law_depths -/
noncomputable def x_18 : Cx := { ns := [(Str.ofString "units"), (Str.ofString "depth"), (Str.ofString "depths"), (Str.ofString "tree")], sc := fnScope 18, own := some 2 }
theorem s_18_0 : Slot1 x_18 0 (Str.ofString "units") := ⟨rfl, by decide, .inl (by decide +kernel), nodupB_ok (by decide +kernel)⟩
theorem s_18_1 : Slot1 x_18 1 (Str.ofString "depth") := ⟨rfl, by decide, .inl (by decide +kernel), nodupB_ok (by decide +kernel)⟩
theorem o_18 : OwnAt x_18 2 (Str.ofString "depths") := ⟨rfl, rfl, by decide +kernel, nodupB_ok (by decide +kernel)⟩
theorem s_18_3 : Slot1 x_18 3 (Str.ofString "tree") := ⟨rfl, by decide, .inl (by decide +kernel), nodupB_ok (by decide +kernel)⟩
noncomputable def f_18 (FR : List PyData → Option PyData) : Fm → Option PyData := (ownNew 2 nilF (seqR (forE (asList (callF (consF (getV 0) nilF) F_17)) (putV 3) (seqF (extF 2 (binF .Add (listF (consF (getV 1) nilF)) (callF (consF (sliceF (getV 3) (pSome (cI 1)) (pSome (negF (cI 1)))) (consF (binF .Add (getV 1) (cI 1)) nilF)) FR))) nextF)) (lastF (retF (getV 2)))))
theorem r_18 {B : BH} (H : Facts B) {d : Nat} (hd : 6 ≤ d) {FR : List PyData → Option PyData} (hrec : CallG B d (Str.ofString "_law_depths") FR) : SimR B d x_18 (fnBody 18) (f_18 FR) :=
  (show KR_ B d x_18 (fnBody 18) (f_18 FR) from (kr_own kl0 o_18 (kr1 (k1_for (ki_list (kcall (kl1 (kvar 0 rfl (by decide) rfl rfl) kl0) ((c_17 H).le (by omega)) (by decide +kernel) (by decide +kernel))) (ka1 (i := 3) s_18_3) (ks1 (k1_ext (kbin (klist (kl1 (kvar 1 rfl (by decide) rfl rfl) kl0)) (kcall (kl1 (kslice (kvar 3 rfl (by decide) rfl rfl) (kp1 kI) (kp1 (kneg kI))) (kl1 (kbin (kvar 1 rfl (by decide) rfl rfl) kI) kl0)) hrec (by decide +kernel) (by decide +kernel))) rfl (i := 2) rfl (by decide +kernel) rfl) ks0)) (kr_last (k1_ret (ko_var 2 rfl rfl rfl)))))).h
/-! law -/
noncomputable def x_25 : Cx := { ns := [(Str.ofString "script"), (Str.ofString "drawn"), (Str.ofString "depths"), (Str.ofString "units"), (Str.ofString "told"), (Str.ofString "record"), (Str.ofString "dots"), (Str.ofString "order"), (Str.ofString "laid"), (Str.ofString "waits"), (Str.ofString "heads"), (Str.ofString "opens"), (Str.ofString "closes"), (Str.ofString "levels")], sc := fnScope 25, own := none }
theorem s_25_0 : Slot1 x_25 0 (Str.ofString "script") := ⟨rfl, by decide, .inl (by decide +kernel), nodupB_ok (by decide +kernel)⟩
theorem s_25_1 : Slot1 x_25 1 (Str.ofString "drawn") := ⟨rfl, by decide, .inl (by decide +kernel), nodupB_ok (by decide +kernel)⟩
theorem s_25_2 : Slot1 x_25 2 (Str.ofString "depths") := ⟨rfl, by decide, .inr ⟨by decide +kernel, rfl⟩, nodupB_ok (by decide +kernel)⟩
theorem s_25_3 : Slot1 x_25 3 (Str.ofString "units") := ⟨rfl, by decide, .inl (by decide +kernel), nodupB_ok (by decide +kernel)⟩
theorem s_25_4 : Slot1 x_25 4 (Str.ofString "told") := ⟨rfl, by decide, .inl (by decide +kernel), nodupB_ok (by decide +kernel)⟩
theorem s_25_5 : Slot1 x_25 5 (Str.ofString "record") := ⟨rfl, by decide, .inl (by decide +kernel), nodupB_ok (by decide +kernel)⟩
theorem s_25_6 : Slot1 x_25 6 (Str.ofString "dots") := ⟨rfl, by decide, .inl (by decide +kernel), nodupB_ok (by decide +kernel)⟩
theorem s_25_7 : Slot1 x_25 7 (Str.ofString "order") := ⟨rfl, by decide, .inl (by decide +kernel), nodupB_ok (by decide +kernel)⟩
theorem s_25_8 : Slot1 x_25 8 (Str.ofString "laid") := ⟨rfl, by decide, .inr ⟨by decide +kernel, rfl⟩, nodupB_ok (by decide +kernel)⟩
theorem s_25_9 : Slot1 x_25 9 (Str.ofString "waits") := ⟨rfl, by decide, .inl (by decide +kernel), nodupB_ok (by decide +kernel)⟩
theorem s_25_10 : Slot1 x_25 10 (Str.ofString "heads") := ⟨rfl, by decide, .inr ⟨by decide +kernel, rfl⟩, nodupB_ok (by decide +kernel)⟩
theorem s_25_11 : Slot1 x_25 11 (Str.ofString "opens") := ⟨rfl, by decide, .inl (by decide +kernel), nodupB_ok (by decide +kernel)⟩
theorem s_25_12 : Slot1 x_25 12 (Str.ofString "closes") := ⟨rfl, by decide, .inr ⟨by decide +kernel, rfl⟩, nodupB_ok (by decide +kernel)⟩
theorem s_25_13 : Slot1 x_25 13 (Str.ofString "levels") := ⟨rfl, by decide, .inl (by decide +kernel), nodupB_ok (by decide +kernel)⟩
noncomputable def f_25 (FR F22 : List PyData → Option PyData) : Fm → Option PyData := (seqR (asgP (callF (consF (getV 0) nilF) F_15) (putV2 1 2)) (seqR (setF 3 (callF (consF (getV 1) (consF (getV 2) nilF)) F_16)) (seqR (asgP (callF (consF (getV 3) (consF (callF (consF (getV 1) nilF) sumV) nilF)) F_20) (putV2 4 5)) (seqR (setF 6 (compF (asList (getV 4)) (putV 0) trueF (binF .Sub (callF (consF (subF (getV 0) (cI 0)) nilF) lenV) (cI 2)) [] 1)) (seqR (iteF (orF (cmpF .NotEq (callF (consF (getV 6) nilF) sumV) (callF (consF (getV 2) nilF) F_21)) (cmpF .NotEq (getV 6) (callF (consF (callF (consF (getV 5) nilF) listV) (consF (cI 0) nilF)) FR))) (seqF (retF (cB false)) nextF) nextF) (seqR (setF 7 (callF (consF (getV 2) nilF) F22)) (seqR (setF 8 (compF (asList (getV 7)) (putV 1) trueF (tupF (consF (subF (getV 0) (getV 1)) (consF (getV 1) nilF))) [2] 1)) (seqR (setF 9 (compF (asList (getV 7)) (putV 2) trueF (binF .Sub (callF (consF (getV 0) (consF (tupF (consF (subF (getV 1) (getV 2)) (consF (getV 2) nilF))) nilF)) F_4) (callF (consF (getV 0) (consF (tupF (consF (binF .Sub (subF (getV 1) (getV 2)) (cI 1)) (consF (getV 2) nilF))) nilF)) F_4)) [8, 2] 1)) (seqR (setF 10 (compF (asList (getV 3)) (putV 0) (cmpF .NotEq (getV 0) (cS (Str.ofString ")"))) (getV 0) [] 1)) (seqR (iteF (cmpF .NotEq (getV 4) (compF (zpF (consF (getV 7) (consF (getV 9) nilF))) (putV2 1 2) trueF (listF (consF (binF .Mult (cS (Str.ofString ".")) (binF .Add (cI 2) (getV 2))) (consF (subF (getV 0) (getV 1)) (consF (cS (Str.ofString "")) nilF)))) [10] 2)) (seqF (retF (cB false)) nextF) nextF) (seqR (setF 11 (compF (enF (consF (getV 5) nilF)) (putV2 0 1) (cmpF .Eq (getV 1) (cS (Str.ofString "("))) (getV 0) [] 2)) (seqR (setF 12 (compF (enF (consF (getV 5) nilF)) (putV2 0 1) (cmpF .Eq (getV 1) (cS (Str.ofString ")"))) (getV 0) [] 2)) (seqR (iteF (cmpF .NotEq (compF (asList (getV 11)) (putV 1) trueF (callF (consF (getV 0) (consF (getV 1) nilF)) F_4) [12] 1) (callF (consF (getV 2) (consF (getV 7) nilF)) F_23)) (seqF (retF (cB false)) nextF) nextF) (seqR (setF 13 (binF .Add (callF (consF (getV 2) nilF) maxV) (cI 1))) (seqR (iteF (cmpF .NotEq (callF (consF (getV 11) (consF (getV 12) (consF (getV 13) nilF))) F_24) (compF (rngF (consF (binF .Add (getV 13) (cI 1)) nilF)) (putV 1) trueF (callF (consF (compF (asList (getV 0)) (putV 1) (cmpF .Lt (getV 1) (getV 0)) (getV 1) [1] 1) nilF) lenV) [2] 1)) (seqF (retF (cB false)) nextF) nextF) (lastF (retF (cmpE .Is (callF (consF (methF "str" (cS (Str.ofString "")) (consF (binF .Add (sliceF (getV 3) (pSome (cI 1)) pNone) (sliceF (getV 3) pNone (pSome (cI 1)))) nilF) joinV) nilF) F_8) (cB false)))))))))))))))))))
theorem r_25 {B : BH} (H : Facts B) {FR F22 : List PyData → Option PyData} (hrec : CallG B 20 (Str.ofString "_law_depths") FR) (h22 : CallG B 20 (Str.ofString "_law_order") F22) : SimR B 20 x_25 (fnBody 25) (f_25 FR F22) :=
  (show KR_ B 20 x_25 (fnBody 25) (f_25 FR F22) from (kr1 (k1_pair (target := .Name (Str.ofString "") default) (kcall (kl1 (kvar 0 rfl (by decide) rfl rfl) kl0) ((c_15 H).le (by omega)) (by decide +kernel) (by decide +kernel)) (ka2 (i := 1) (j := 2) s_25_1 s_25_2)) (kr1 (k1_assign (kcall (kl1 (kvar 1 rfl (by decide) rfl rfl) (kl1 (kvar 2 rfl (by decide) rfl rfl) kl0)) ((c_16 H).le (by omega)) (by decide +kernel) (by decide +kernel)) s_25_3) (kr1 (k1_pair (target := .Name (Str.ofString "") default) (kcall (kl1 (kvar 3 rfl (by decide) rfl rfl) (kl1 (kcall (kl1 (kvar 1 rfl (by decide) rfl rfl) kl0) (cSum H) (by decide +kernel) (by decide +kernel)) kl0)) ((c_20 H).le (by omega)) (by decide +kernel) (by decide +kernel)) (ka2 (i := 4) (j := 5) s_25_4 s_25_5)) (kr1 (k1_comp (idxs := []) (xs := [(Str.ofString "row")]) (k := 1) (compOk (by decide +kernel)) (ki_list (kvar 4 rfl (by decide) rfl rfl)) (ka1 (i := 0) ⟨rfl, (by intro q; cases q), .inl (by decide +kernel), nodupB_ok (by decide +kernel)⟩) kc0 (kbin (kcall (kl1 (ksub (kvar 0 rfl (by intro q; cases q) rfl rfl) kI) kl0) (cLen H) (by decide +kernel) (by decide +kernel)) kI) s_25_6 (by decide +kernel) (by decide) (by decide +kernel)) (kr1 (k1_if (kt_or (kt_cmp (kcall (kl1 (kvar 6 rfl (by decide) rfl rfl) kl0) (cSum H) (by decide +kernel) (by decide +kernel)) (kcall (kl1 (kvar 2 rfl (by decide) rfl rfl) kl0) ((c_21 H).le (by omega)) (by decide +kernel) (by decide +kernel)) (by omega) rfl) (kt_cmp (kvar 6 rfl (by decide) rfl rfl) (kcall (kl1 (kcall (kl1 (kvar 5 rfl (by decide) rfl rfl) kl0) (cList H) (by decide +kernel) (by decide +kernel)) (kl1 kI kl0)) hrec (by decide +kernel) (by decide +kernel)) (by omega) rfl)) (ks1 (k1_ret (ko_of kB)) ks0) ks0) (kr1 (k1_assign (kcall (kl1 (kvar 2 rfl (by decide) rfl rfl) kl0) h22 (by decide +kernel) (by decide +kernel)) s_25_7) (kr1 (k1_cell (kcomp (idxs := [2]) (xs := [(Str.ofString "k")]) (k := 1) (compOk (by decide +kernel)) (ki_list (kvar 7 rfl (by decide) rfl rfl)) (ka1 (i := 1) ⟨rfl, (by intro q; cases q), .inl (by decide +kernel), nodupB_ok (by decide +kernel)⟩) kc0 (ktup (kl1 (ksub (kvar 0 rfl (by intro q; cases q) rfl rfl) (kvar 1 rfl (by intro q; cases q) rfl rfl)) (kl1 (kvar 1 rfl (by intro q; cases q) rfl rfl) kl0)))) s_25_8 (by decide +kernel)) (kr1 (k1_comp (idxs := [8, 2]) (xs := [(Str.ofString "k")]) (k := 1) (compOk (by decide +kernel)) (ki_list (kvar 7 rfl (by decide) rfl rfl)) (ka1 (i := 2) ⟨rfl, (by intro q; cases q), .inl (by decide +kernel), nodupB_ok (by decide +kernel)⟩) kc0 (kbin (kcall (kl1 (kvar 0 rfl (by intro q; cases q) rfl rfl) (kl1 (ktup (kl1 (ksub (kvar 1 rfl (by intro q; cases q) rfl rfl) (kvar 2 rfl (by intro q; cases q) rfl rfl)) (kl1 (kvar 2 rfl (by intro q; cases q) rfl rfl) kl0))) kl0)) ((c_4 H).le (by omega)) (by decide +kernel) (by decide +kernel)) (kcall (kl1 (kvar 0 rfl (by intro q; cases q) rfl rfl) (kl1 (ktup (kl1 (kbin (ksub (kvar 1 rfl (by intro q; cases q) rfl rfl) (kvar 2 rfl (by intro q; cases q) rfl rfl)) kI) (kl1 (kvar 2 rfl (by intro q; cases q) rfl rfl) kl0))) kl0)) ((c_4 H).le (by omega)) (by decide +kernel) (by decide +kernel))) s_25_9 (by decide +kernel) (by decide) (by decide +kernel)) (kr1 (k1_cell (kcomp (idxs := []) (xs := [(Str.ofString "unit")]) (k := 1) (compOk (by decide +kernel)) (ki_list (kvar 3 rfl (by decide) rfl rfl)) (ka1 (i := 0) ⟨rfl, (by intro q; cases q), .inl (by decide +kernel), nodupB_ok (by decide +kernel)⟩) (kc1 (kt_cmp (kvar 0 rfl (by intro q; cases q) rfl rfl) kS (by omega) rfl)) (kvar 0 rfl (by intro q; cases q) rfl rfl)) s_25_10 (by decide +kernel)) (kr1 (k1_if (kt_cmp (kvar 4 rfl (by decide) rfl rfl) (kcomp (idxs := [10]) (xs := [(Str.ofString "k"), (Str.ofString "wait")]) (k := 2) (compOk (by decide +kernel)) (ki_zip H (kl1 (kvar 7 rfl (by decide) rfl rfl) (kl1 (kvar 9 rfl (by decide) rfl rfl) kl0)) (by decide +kernel)) (ka2 (i := 1) (j := 2) ⟨rfl, (by intro q; cases q), .inl (by decide +kernel), nodupB_ok (by decide +kernel)⟩ ⟨rfl, (by intro q; cases q), .inl (by decide +kernel), nodupB_ok (by decide +kernel)⟩) kc0 (klist (kl1 (kbin kS (kbin kI (kvar 2 rfl (by intro q; cases q) rfl rfl))) (kl1 (ksub (kvar 0 rfl (by intro q; cases q) rfl rfl) (kvar 1 rfl (by intro q; cases q) rfl rfl)) (kl1 kS kl0))))) (by omega) rfl) (ks1 (k1_ret (ko_of kB)) ks0) ks0) (kr1 (k1_comp (idxs := []) (xs := [(Str.ofString "place"), (Str.ofString "sign")]) (k := 2) (compOk (by decide +kernel)) (ki_enum H (kl1 (kvar 5 rfl (by decide) rfl rfl) kl0) (by decide +kernel)) (ka2 (i := 0) (j := 1) ⟨rfl, (by intro q; cases q), .inl (by decide +kernel), nodupB_ok (by decide +kernel)⟩ ⟨rfl, (by intro q; cases q), .inl (by decide +kernel), nodupB_ok (by decide +kernel)⟩) (kc1 (kt_cmp (kvar 1 rfl (by intro q; cases q) rfl rfl) kS (by omega) rfl)) (kvar 0 rfl (by intro q; cases q) rfl rfl) s_25_11 (by decide +kernel) (by decide) (by decide +kernel)) (kr1 (k1_cell (kcomp (idxs := []) (xs := [(Str.ofString "place"), (Str.ofString "sign")]) (k := 2) (compOk (by decide +kernel)) (ki_enum H (kl1 (kvar 5 rfl (by decide) rfl rfl) kl0) (by decide +kernel)) (ka2 (i := 0) (j := 1) ⟨rfl, (by intro q; cases q), .inl (by decide +kernel), nodupB_ok (by decide +kernel)⟩ ⟨rfl, (by intro q; cases q), .inl (by decide +kernel), nodupB_ok (by decide +kernel)⟩) (kc1 (kt_cmp (kvar 1 rfl (by intro q; cases q) rfl rfl) kS (by omega) rfl)) (kvar 0 rfl (by intro q; cases q) rfl rfl)) s_25_12 (by decide +kernel)) (kr1 (k1_if (kt_cmp (kcomp (idxs := [12]) (xs := [(Str.ofString "place")]) (k := 1) (compOk (by decide +kernel)) (ki_list (kvar 11 rfl (by decide) rfl rfl)) (ka1 (i := 1) ⟨rfl, (by intro q; cases q), .inl (by decide +kernel), nodupB_ok (by decide +kernel)⟩) kc0 (kcall (kl1 (kvar 0 rfl (by intro q; cases q) rfl rfl) (kl1 (kvar 1 rfl (by intro q; cases q) rfl rfl) kl0)) ((c_4 H).le (by omega)) (by decide +kernel) (by decide +kernel))) (kcall (kl1 (kvar 2 rfl (by decide) rfl rfl) (kl1 (kvar 7 rfl (by decide) rfl rfl) kl0)) ((c_23 H).le (by omega)) (by decide +kernel) (by decide +kernel)) (by omega) rfl) (ks1 (k1_ret (ko_of kB)) ks0) ks0) (kr1 (k1_assign (kbin (kcall (kl1 (kvar 2 rfl (by decide) rfl rfl) kl0) (cMax H) (by decide +kernel) (by decide +kernel)) kI) s_25_13) (kr1 (k1_if (kt_cmp (kcall (kl1 (kvar 11 rfl (by decide) rfl rfl) (kl1 (kvar 12 rfl (by decide) rfl rfl) (kl1 (kvar 13 rfl (by decide) rfl rfl) kl0))) ((c_24 H).le (by omega)) (by decide +kernel) (by decide +kernel)) (kcomp (idxs := [2]) (xs := [(Str.ofString "k")]) (k := 1) (compOk (by decide +kernel)) (ki_range H (kl1 (kbin (kvar 13 rfl (by decide) rfl rfl) kI) kl0) (by decide +kernel)) (ka1 (i := 1) ⟨rfl, (by intro q; cases q), .inr ⟨by decide +kernel, by decide +kernel⟩, nodupB_ok (by decide +kernel)⟩) kc0 (kcall (kl1 (kcomp (idxs := [1]) (xs := [(Str.ofString "depth")]) (k := 1) (compOk (by decide +kernel)) (ki_list (kvar 0 rfl (by intro q; cases q) rfl rfl)) (ka1 (i := 1) ⟨rfl, (by intro q; cases q), .inl (by decide +kernel), nodupB_ok (by decide +kernel)⟩) (kc1 (kt_cmp (kvar 1 rfl (by intro q; cases q) rfl rfl) (kvar 0 rfl (by intro q; cases q) rfl rfl) (by omega) rfl)) (kvar 1 rfl (by intro q; cases q) rfl rfl)) kl0) (cLen H) (by decide +kernel) (by decide +kernel))) (by omega) rfl) (ks1 (k1_ret (ko_of kB)) ks0) ks0) (kr_last (k1_ret (ko_of (kcmp (kcall (kl1 (kJoin kS (kl1 (kbin (kslice (kvar 3 rfl (by decide) rfl rfl) (kp1 kI) kp0) (kslice (kvar 3 rfl (by decide) rfl rfl) kp0 (kp1 kI))) kl0) (by intro _; rfl) (by decide)) kl0) ((c_8 H).le (by omega)) (by decide +kernel) (by decide +kernel)) kB (by omega) rfl)))))))))))))))))))).h
end Mine
namespace Mine
noncomputable def depF : Nat → List PyData → Option PyData
  | 0 => fun _ => none
  | n + 1 => argF 2 [] 2 (f_18 (depF n))
theorem c_18 {B : BH} (H : Facts B) : ∀ n, CallG B (6 + n) (Str.ofString "_law_depths") (depF n)
  | 0 => by
    obtain ⟨a, fd, hv, HF, _, _⟩ := H.d18.ex
    exact ⟨.ref a, hv, .inr (.inr (let ⟨o, e, p, q⟩ := HF.o; ⟨a, o, fd, rfl, e, p, q⟩)), fun _ _ _ _ ev _ => by cases ev⟩
  | n + 1 => callG_def 2 H.d18 (nm := x_18.ns) (own := x_18.own) (by decide +kernel) (r_18 H (by omega) (c_18 H n))
end Mine
end

section
open PySem PySem.W PyProof.Rows PySem.Calls
set_option maxRecDepth 100000
set_option linter.all false
namespace Mine

/-! the lambda of _law_order, insort_right with it -/
theorem lookup_of_mem' {x : Str} {v : Value} : ∀ {l : List (Str × Value)}, (l.map (·.1)).Nodup → (x, v) ∈ l → l.lookup x = some v
  | (y, u) :: r, nd, h => by
    rw [List.map_cons, List.nodup_cons] at nd
    cases h with
    | head => simp [List.lookup]
    | tail _ h =>
      have : x ≠ y := fun z => nd.1 (List.mem_map.mpr ⟨_, h, z⟩)
      rw [List.lookup_cons, show (x == y) = false from by simpa using this]
      exact lookup_of_mem' nd.2 h
theorem lookup_zip {ps : List Str} {rvs : List Value} {i : Nat} {x : Str} {v : Value} (nd : ps.Nodup) (h1 : ps[i]? = some x) (h2 : rvs[i]? = some v) : (ps.zip rvs).reverse.lookup x = some v := by
  refine lookup_of_mem' ?_ (List.mem_reverse.mpr (zip_get h1 h2))
  rw [List.map_reverse]
  exact (List.reverse_perm _).nodup_iff.mpr (zip_fst_nodup nd)

section
variable {B : BH} {d : Nat}
/-- the frame of a call whose names are all plain locals (or free), as it begins -/
theorem frame_lite {cx : Cx} {env : Env} {s : Shared} {h' : Heap} {o : Obj} {tk : Nat} {P Wx : Addr → Prop} {ps : List Str} {rvs : List Value} {fr : Fm}
    (fp : Fresh P s.heap) (hsc : env.scope = cx.sc) (hkind : cx.sc.kind = .function) (hg : env.globals = mainGlobals) (hb : env.builtins = builtinsNs) (hL : env.locals = s.heap.objs.size)
    (n : h'.Ns s.heap.objs.size (fun x => (ps.zip rvs).reverse.lookup x)) (sb : Heap.SameBut s.heap.objs.size (s.heap.push o) h')
    (hps : ∀ x ∈ ps, cx.sc.names.lookup x = some .local) (hnd : ps.Nodup) (hcl : ∀ x c, env.cells.lookup x = some c → ∃ v, s.heap.IsCell c v)
    (hhas : (∀ x, cx.sc.names.lookup x = some .cell ∨ cx.sc.names.lookup x = some .free → ∃ c, env.cells.lookup x = some c) ∧ (cx.cd = true → env.code = .ref CO ∧ env.qual = lamPre))
    (hWx : ∀ b, Wx b → ¬ P b) (hWl : ∀ b, Wx b → ∃ o, s.heap.get? b = some o)
    (hslot : ∀ i x d, cx.ns[i]? = some x → fr[i]? = some (some d) → cx.own ≠ some i → ∃ v, ((ps[i]? = some x ∧ rvs[i]? = some v) ∨ ((cx.sc.names.lookup x = some .cell ∨ cx.sc.names.lookup x = some .free) ∧ ∃ c, env.cells.lookup x = some c ∧ s.heap.IsCell c (some v))) ∧ VR P s.heap v d)
    (hown : ∀ i x d, cx.own = some i → cx.ns[i]? = some x → fr[i]? = some (some d) → ∃ a vs n ds, d = .list ds ∧ ps[i]? = some x ∧ rvs[i]? = some (.ref a) ∧ Wx a ∧ s.heap.get? a = some { cls := .type "list", data := .seq (List.toArray vs) n } ∧ VRs P s.heap vs ds) :
    Step s { s with heap := h', toks := tk } ∧ FrameOk cx (fun b => P b ∧ b ≠ s.heap.objs.size) (fun b => b = s.heap.objs.size ∨ Wx b) h' env fr ∧ Fresh (fun b => P b ∧ b ≠ s.heap.objs.size) h' := by
  have k : ∀ b o, s.heap.get? b = some o → h'.get? b = some o := fun b o e => (sb.2 b (Nat.ne_of_lt (Heap.lt_size e))).trans (Heap.get?_push_of_some _ e)
  have t : Step s { s with heap := h', toks := tk } := .heap k rfl rfl
  have hkf : ∀ x, env.kindOf x = cx.sc.names.lookup x := fun x => by unfold Env.kindOf; rw [hsc]
  have nw : ∀ b o, s.heap.get? b = some o → P b → P b ∧ b ≠ s.heap.objs.size := fun b o e p => ⟨p, Nat.ne_of_lt (Heap.lt_size e)⟩
  have rdl : ∀ {i x v}, ps[i]? = some x → rvs[i]? = some v → Rd h' env x v := fun h1 h2 => .inl ⟨(hkf _).trans (hps _ (List.mem_of_getElem? h1)), _, hL ▸ n, lookup_zip hnd h1 h2⟩
  refine ⟨t, ⟨hsc, hkind, hg, hb, ⟨_, hL ▸ n⟩, .inl hL, fun b w p => w.elim p.2 fun w => hWx b w p.1, fun b w => ?_, fun x c q => ?_, hhas, fun i x dd a1 b1 c1 => ?_, fun i x dd a1 b1 c1 => ?_⟩, fun b q => ?_⟩
  · rcases w with rfl | w
    · obtain ⟨o, _, _, e, _⟩ := n; exact ⟨o, e⟩
    · obtain ⟨o, e⟩ := hWl b w; exact ⟨o, k b o e⟩
  · obtain ⟨v, o, e, q⟩ := hcl x c q; exact ⟨v, o, k c o e, q⟩
  · obtain ⟨v, h, r⟩ := hslot i x dd a1 b1 c1
    refine ⟨v, ?_, (r.narrow nw).step (t.keep.mono fun _ _ => trivial)⟩
    rcases h with ⟨h1, h2⟩ | ⟨h1, c, h2, o, e, q⟩
    · exact rdl h1 h2
    · exact .inr ⟨by rw [hkf]; exact h1, c, h2, o, k c o e, q⟩
  · obtain ⟨a, vs, m, ds, e0, h1, h2, w, e, r⟩ := hown i x dd a1 b1 c1
    exact ⟨a, vs, m, ds, e0, rdl h1 h2, .inr w, k a _ e, (r.narrow nw).step (t.keep.mono fun _ _ => trivial)⟩
  · refine ⟨fp.le t.lv b q, fun z => ?_⟩
    obtain ⟨o, _, _, e, _⟩ := n
    rw [z, e] at q; exact nomatch q

/-! a call of the lambda -/
noncomputable def lamCx : Cx := { ns := [Str.ofString "node", Str.ofString "depths"], sc := lamScope, own := none }
noncomputable def lamV : PyData → PyData → Option PyData
  | .dict [(.none, dd)], v => itemV dd v
  | _, _ => none
theorem lam_body : SimE B d lamCx lamBody (subF (getV 1) (getV 0)) :=
  (show KE_ B d lamCx lamBody (subF (getV 1) (getV 0)) from ksub (kvar 1 rfl (by intro q; cases q) rfl rfl) (kvar 0 rfl (by intro q; cases q) rfl rfl)).h
theorem lam_binds {fd : FuncData} {c c' : Addr} (L : LamFd fd c c') (v : Value) : bindArgs fd ⟨[v], []⟩ = pure [(Str.ofString "node", v)] := by
  obtain ⟨h1, h2, h3, h4, h5, h6, h7, h8, h9, h10⟩ := L
  cases fd
  simp only at h1 h2 h3 h4 h5 h6 h7 h8 h9 h10
  subst h1 h2 h3 h4 h5 h6 h7 h8 h9 h10
  rfl
theorem call_lam {A : Around} {s : Shared} {P : Addr → Prop} {kv v : Value} {k x r : PyData} {Q E : Value → Shared → Prop} (R : Room (d + 1) A) (I : Inv B s) (fp : Fresh P s.heap) (hk : VR P s.heap kv k) (hv : VR P s.heap v x) (ev : lamV k x = some r)
    (h : ∀ rv s', Step s s' → VR P s'.heap rv r → Q rv s') : wpAny (MM B.w) A (call kv [v]) Q E s := by
  unfold lamV at ev
  split at ev
  · rename_i dd
    cases hk with
    | fn p e L p' n e1 e2 e3 pc e4 e5 rd =>
      rename_i a c c' fd oc vs t ocl rv
      refine wpAny_call (kla_callFunE (by have := R.depth; omega) e rfl (by rw [L.scope]; rfl) (by rw [L.scope]; rfl) L.body (by rw [L.code, L.qual]; exact ⟨_, _, _, _, rfl, e1, e2, e3⟩) ?_)
      rw [lam_binds L]
      refine wpAny_pure (wpAny_newFunctionEnv (by rw [L.scope]; decide +kernel) (by rw [L.scope]; intro y hy; cases hy with | head => rfl | tail _ hy => cases hy) (fun h' n1 sb => ?_) (by rw [L.scope]; rfl))
      rw [L.scope, L.glob, L.blt, L.clo]
      have hh : ∀ y, lamScope.names.lookup y = some .cell ∨ lamScope.names.lookup y = some .free → ∃ c2, [(Str.ofString "depths", c)].lookup y = some c2 := fun y q => by
        refine ⟨c, ?_⟩
        have hn : ∀ z ∈ lamScope.names, (z.2 = .cell → False) ∧ (z.2 = .free → z.1 = Str.ofString "depths") := by decide +kernel
        have hy : y = Str.ofString "depths" := by
          rcases q with q | q
          · exact ((hn _ (PySem.mem_of_lookup q)).1 rfl).elim
          · exact (hn _ (PySem.mem_of_lookup q)).2 rfl
        subst hy; rfl
      have hs : ∀ (i : Nat) (y : Str) (dd2 : PyData), lamCx.ns[i]? = some y → ([some x, some dd] : Fm)[i]? = some (some dd2) → lamCx.own ≠ some i →
          ∃ v2, (([Str.ofString "node"][i]? = some y ∧ [v][i]? = some v2) ∨ ((lamCx.sc.names.lookup y = some .cell ∨ lamCx.sc.names.lookup y = some .free) ∧ ∃ c2, [(Str.ofString "depths", c)].lookup y = some c2 ∧ s.heap.IsCell c2 (some v2))) ∧ VR P s.heap v2 dd2 := fun i y dd2 a1 b1 _ => by
        match i, a1, b1 with
        | 0, a1, b1 => cases a1; cases b1; exact ⟨v, .inl ⟨rfl, rfl⟩, hv⟩
        | 1, a1, b1 => cases a1; cases b1; exact ⟨rv, .inr ⟨.inr (by decide +kernel), c, rfl, _, e4, e5⟩, rd⟩
        | i + 2, a1, b1 => cases a1
      obtain ⟨t1, F1, fp1⟩ := frame_lite (cx := lamCx) (env := newEnv lamScope s.heap.objs.size mainGlobals [(Str.ofString "depths", c)] (fd.qualname ++ ".<locals>.") (some a) fd.code none builtinsNs) (Wx := fun _ => False) (ps := [Str.ofString "node"]) (rvs := [v]) (fr := [some x, some dd]) (tk := s.toks + [(Str.ofString "node", v)].length)
        fp rfl rfl rfl rfl rfl n1 sb (fun y hy => by cases hy with | head => rfl | tail _ hy => cases hy) (by simp) (fun y c2 q => by
          rcases List.mem_cons.mp (PySem.mem_of_lookup q) with q | q
          · cases q; exact ⟨_, _, e4, e5⟩
          · cases q) ⟨hh, fun q => by cases q⟩ (fun _ q => q.elim) (fun _ q => q.elim) hs (fun i y dd2 a1 => by cases a1)
      refine ⟨(I.step t1).lim, kla_codeExpr ?_⟩
      refine lam_body (B := B) (d := d) (R.deeper _) (I.step t1) F1 fp1 ev fun rv2 s2 t2 r2 => ?_
      exact h _ _ (t1.trans t2) (r2.up fun b p => p.1)
  · exact nomatch ev
theorem lam_func {P : Addr → Prop} {h : Heap} {kv : Value} {k x r : PyData} (hk : VR P h kv k) (ev : lamV k x = some r) : ∃ a fd, kv = .ref a ∧ h.get? a = some { cls := .type "function", data := .func fd } := by
  unfold lamV at ev
  split at ev
  · cases hk with
    | fn p e L p' n e1 e2 e3 pc e4 e5 rd => exact ⟨_, _, rfl, e⟩
  · exact nomatch ev
noncomputable def keyF (i : Nat) (f : Fm → Option PyData) (fr : Fm) : Option PyData := (getV i fr).bind fun k => (f fr).bind fun v => lamV k v
theorem simE_key {cx : Cx} {i : Nat} {x : Str} {np pos : Pos} {e : Expr} {f} (hi : cx.ns[i]? = some x) (ho : cx.own ≠ some i) (hc : (x == Str.ofString "__classdict__") = false) (hd : (x == ("__debug__" : Str)) = false) (he : SimE B (d + 1) cx e f)
    (hst : ∀ env, starEach [e] env = (false, eval e env) :: starEach [] env := by intro _; rfl) : SimE B (d + 1) cx (.Call (.Name x np) [e] [] pos) (keyF i f) := by
  intro A s env fr P W dv Q E R I F fp ev h
  obtain ⟨k, e1, ev⟩ := bind_some ev
  obtain ⟨v, e2, ev⟩ := bind_some ev
  obtain ⟨kv, rd, rk⟩ := F.slot i x k hi (getV_eq e1) ho
  refine wpAny_Call_NameR (wpAny_Name (wp_load B.w (by rw [F.sc]; exact F.kind) rd ?_ hc) hd)
  obtain ⟨a, fd, rfl, hf⟩ := lam_func rk ev
  have key : wpAny (MM B.w) A (spliced (backTo pos (starEach [e] env))) (fun vs s1 => (s1.heap.get? a = some { cls := .type "function", data := .func fd } ∧ (Obj.data { cls := .type "function", data := .func fd }) = .func fd) ∧ wpAny (MM B.w) A (call (.ref a) vs) Q E s1) E s := by
    refine args_cons (he R I F fp e2 fun rv s1 t1 r1 => args_nil ⟨⟨t1.keep _ _ trivial (.inl (.type rfl)) hf, rfl⟩, ?_⟩) (hst env)
    exact call_lam R (I.step t1) (fp.le t1.lv) (rk.step (t1.keep.mono fun _ _ => trivial)) r1 ev fun rv s2 t2 r2 => h _ _ (t1.trans t2) r2
  rw [hst env] at key ⊢
  exact callWith_function (o := { cls := .type "function", data := .func fd }) (fd := fd) (evalArgs_plain key)
theorem kkey {cx : Cx} {i : Nat} {x : Str} {np pos : Pos} {e : Expr} {f} (hi : cx.ns[i]? = some x) (ho : cx.own ≠ some i) (hc : (x == Str.ofString "__classdict__") = false) (hd : (x == ("__debug__" : Str)) = false) (he : KE_ B (d + 1) cx e f)
    (hst : ∀ env, starEach [e] env = (false, eval e env) :: starEach [] env := by intro _; rfl) : KE_ B (d + 1) cx (.Call (.Name x np) [e] [] pos) (keyF i f) := ⟨simE_key hi ho hc hd he.h hst⟩

/-- a def called with key=.. -/
structure DefK (B : BH) (x : Str) (i n : Nat) (ps : List Str) (dv : Tok → List Value) : Prop where
  ex : ∃ a fd t, glob B x = some (.ref a) ∧ FnAt B a fd (fnBody i) ps ∧ fd.scope = fnScope i ∧ ∀ (s : Shared) (rvs : List Value) (kv : Value), Inv B s → rvs.length = n → BindsTo s fd ⟨rvs, [(Str.ofString "key", kv)]⟩ (ps.zip (rvs ++ dv t ++ [kv]))
theorem call_func_kw {a : Addr} {fd : FuncData} {body : List Stmt} {nm ps : List Str} {k : Nat} {args : Args} {rvs : List Value} {as : List PyData} {f} {A : Around} {s : Shared} {P : Addr → Prop} {dv : PyData} {Q E : Value → Shared → Prop} (H : FnAt B a fd body ps)
    (hb : BindsTo s fd args (ps.zip rvs)) (hnd : ps.Nodup) (hns : nm.take ps.length = ps) (hco : fd.scope.isCoroutine = false) (hgen : fd.scope.isGenerator = false) (hfree : ∀ y ∈ fd.scope.names, y.2 ≠ .free)
    (hR : SimR B d { ns := nm, sc := fd.scope, own := none } body f) (R : Room (d + 1) A) (I : Inv B s) (fp : Fresh P s.heap) (r : VRs P s.heap rvs as) (hz : rvs.length = ps.length) (ev : f (as.map some ++ List.replicate k none) = some dv)
    (h : ∀ rv s', Step s s' → VR P s'.heap rv dv → Q rv s') : wpAny (MM B.w) A (call (.ref a) args.pos args.kw) Q E s := by
  obtain ⟨o, ho, hdata⟩ := H.objAt I
  have ndz : ((ps.zip rvs).map (·.1)).Nodup := zip_fst_nodup hnd
  have cellsH : ∀ x, fd.scope.names.lookup x = some .cell → ((cellsFrom (s.heap.objs.size + 1) fd.scope.names []).lookup x).isSome = true := fun x q => cellsFrom_has _ _ _ x (.inl (PySem.mem_of_lookup q))
  refine wpAny_call (codeAny_call_function (by have := R.depth; omega) ho hdata hco hgen H.body (H.codeAt I) (hb _ _ _ _ ?_))
  rw [H.clo]
  refine wpAny_newFunctionEnv_cells H.kind (fun y hy => ?_) fun env he s1 x => ?_
  · rcases H.ps y.1 (List.of_mem_zip hy).1 with q | q
    · exact .inl q
    · exact .inr ⟨q, cellsH _ q⟩
  · have hsc : env.scope = fd.scope := by rw [he]; rfl
    have hcs : env.cells = cellsFrom (s.heap.objs.size + 1) fd.scope.names [] := by rw [he]; rfl
    have hgl : env.globals = mainGlobals := by rw [he]; exact H.glob
    have hbl : env.builtins = builtinsNs := by rw [he]; exact H.blt
    have hko : env.kindOf = fun y => fd.scope.names.lookup y := by funext y; unfold Env.kindOf; rw [hsc]
    refine ⟨I.lim.keeps x.toInCall.keep, codeAny_func ?_⟩
    obtain ⟨t, F1, W1, fp1⟩ := frame_new (B := B) (sc := fd.scope) (nm := nm) (own := none) (cd := false) (A := A) (k := k) (ps := ps) I fp r hsc H.kind hgl hbl x (fun y q => by
      rcases q with q | q
      · rw [hcs]; exact Option.isSome_iff_exists.mp (cellsH y q)
      · exact absurd rfl (hfree _ (PySem.mem_of_lookup q))) (fun q => by cases q) H.ps hns (fun i q => by exact nomatch q) hz
      (fun i y v e1 e2 hk => by rw [hko]; exact bindL_get hk _ _ ndz (zip_get e1 e2))
      (fun i y v e1 e2 hk => by rw [hko]; exact bindC_get (by show fd.scope.names.lookup y ≠ _; rw [hk]; intro q; cases q) _ _ ndz (zip_get e1 e2))
    refine hR (R.deeper env) (I.step t) F1 W1 fp1 ev fun rv s2 t2 r2 => ?_
    refine h _ _ (Step.close t t2 (fun b o e w => by have := w.1; rw [e] at this; exact nomatch this) fun _ _ => trivial) (r2.up fun b p => ?_)
    rcases p with p | w
    · exact p.1
    · exact fp b w.1
end
/-! bisect_right -/
noncomputable def x_3 : Cx := { ns := [(Str.ofString "a"), (Str.ofString "x"), (Str.ofString "lo"), (Str.ofString "hi"), (Str.ofString "key"), (Str.ofString "mid")], sc := fnScope 3, own := none }
theorem s_3_0 : Slot1 x_3 0 (Str.ofString "a") := ⟨rfl, by decide, .inl (by decide +kernel), nodupB_ok (by decide +kernel)⟩
theorem s_3_1 : Slot1 x_3 1 (Str.ofString "x") := ⟨rfl, by decide, .inl (by decide +kernel), nodupB_ok (by decide +kernel)⟩
theorem s_3_2 : Slot1 x_3 2 (Str.ofString "lo") := ⟨rfl, by decide, .inl (by decide +kernel), nodupB_ok (by decide +kernel)⟩
theorem s_3_3 : Slot1 x_3 3 (Str.ofString "hi") := ⟨rfl, by decide, .inl (by decide +kernel), nodupB_ok (by decide +kernel)⟩
theorem s_3_4 : Slot1 x_3 4 (Str.ofString "key") := ⟨rfl, by decide, .inl (by decide +kernel), nodupB_ok (by decide +kernel)⟩
theorem s_3_5 : Slot1 x_3 5 (Str.ofString "mid") := ⟨rfl, by decide, .inl (by decide +kernel), nodupB_ok (by decide +kernel)⟩
noncomputable def f_3 : Fm → Option PyData := (seqR (iteF (cmpF .Lt (getV 2) (cI 0)) noF nextF) (seqR (iteF (cmpF .Is (getV 3) cN) (seqF (setF 3 (callF (consF (getV 0) nilF) lenV)) nextF) nextF) (seqR (iteF (cmpF .Is (getV 4) cN) noF (seqF (whileF (cmpF .Lt (getV 2) (getV 3)) (seqF (setF 5 (binF .FloorDiv (binF .Add (getV 2) (getV 3)) (cI 2))) (seqF (iteF (cmpF .Lt (getV 1) (keyF 4 (subF (getV 0) (getV 5)))) (seqF (setF 3 (getV 5)) nextF) (seqF (setF 2 (binF .Add (getV 5) (cI 1))) nextF)) nextF)) 20) nextF)) (lastF (retF (getV 2))))))
theorem r_3 {B : BH} (H : Facts B) : SimR B 2 x_3 (fnBody 3) f_3 :=
  (show KR_ B 2 x_3 (fnBody 3) f_3 from (kr1 (k1_if (kt_cmp (kvar 2 rfl (by decide) rfl rfl) kI (by omega) rfl) ks_never ks0) (kr1 (k1_if (kt_cmp (kvar 3 rfl (by decide) rfl rfl) kN (by omega) rfl) (ks1 (k1_assign (kcall (kl1 (kvar 0 rfl (by decide) rfl rfl) kl0) (cLen H) (by decide +kernel) (by decide +kernel)) s_3_3) ks0) ks0) (kr1 (k1_if (kt_cmp (kvar 4 rfl (by decide) rfl rfl) kN (by omega) rfl) ks_never (ks1 (k1_while 20 (kt_cmp (kvar 2 rfl (by decide) rfl rfl) (kvar 3 rfl (by decide) rfl rfl) (by omega) rfl) (ks1 (k1_assign (kbin (kbin (kvar 2 rfl (by decide) rfl rfl) (kvar 3 rfl (by decide) rfl rfl)) kI) s_3_5) (ks1 (k1_if (kt_cmp (kvar 1 rfl (by decide) rfl rfl) (kkey (i := 4) rfl (by intro q; cases q) rfl rfl (ksub (kvar 0 rfl (by decide) rfl rfl) (kvar 5 rfl (by decide) rfl rfl))) (by omega) rfl) (ks1 (k1_assign (kvar 5 rfl (by decide) rfl rfl) s_3_3) ks0) (ks1 (k1_assign (kbin (kvar 5 rfl (by decide) rfl rfl) kI) s_3_2) ks0)) ks0))) ks0)) (kr_last (k1_ret (ko_of (kvar 2 rfl (by decide) rfl rfl)))))))).h

noncomputable def ps5 : List Str := [Str.ofString "a", Str.ofString "x", Str.ofString "lo", Str.ofString "hi", Str.ofString "key"]
/-! insort_right -/
noncomputable def x_2 : Cx := { ns := ps5, sc := fnScope 2, own := some 0 }
theorem s_2_2 : Slot1 x_2 2 (Str.ofString "lo") := ⟨rfl, by decide, .inl (by decide +kernel), nodupB_ok (by decide +kernel)⟩
noncomputable def isInt : PyData → Option PyData
  | .int i => some (.int i)
  | _ => none
noncomputable def bisF (fr : Fm) : Option PyData := (getV 0 fr).bind fun a => (keyF 4 (getV 1) fr).bind fun kx => (getV 2 fr).bind fun lo => (getV 3 fr).bind fun hi => (getV 4 fr).bind fun k => (f_3 [some a, some kx, some lo, some hi, some k, none]).bind isInt
noncomputable def insF (fr : Fm) : Option Out := (ownV 0 fr).bind fun ds => (getV 2 fr).bind fun lo => (getV 1 fr).bind fun v => match lo with
  | .int i => if 0 ≤ i ∧ i ≤ 100000 ∧ ds.length ≤ 100000 ∧ 0 < fr.length then some (.next (fr.set 0 (some (.list (ds.take (min i.toNat ds.length) ++ [v] ++ ds.drop (min i.toNat ds.length)))))) else none
  | _ => none
noncomputable def f_2 : Fm → Option Out := seqF (iteF (cmpF .Is (getV 4) cN) noF (seqF (setF 2 bisF) nextF)) (seqF insF nextF)
noncomputable def F_2 (ds : List PyData) (k kd : PyData) : Option (List PyData) := (f_2 [some (.list ds), some k, some (.int 0), some .none, some kd]).bind fun o => match o with
  | .next (some (.list ds') :: _) => some ds'
  | _ => none
structure LamFacts (B : BH) : Prop where
  bm : B.hB.BuiltinsAt B.mg TB
  k2 : DefK B (Str.ofString "insort_right") 2 2 ps5 (fun t => [.int 0 t, .none])
  k3 : DefK B (Str.ofString "bisect_right") 3 4 ps5 (fun _ => [])
  d22 : ∃ a fd, glob B (Str.ofString "_law_order") = some (.ref a) ∧ FnAt B a fd (fnBody 22) [Str.ofString "depths"] ∧ fd.scope = fnScope 22 ∧ fd.code = .ref CO ∧ fd.qualname ++ ".<locals>." = lamPre ∧
    ∀ (s : Shared) (rvs : List Value), rvs.length = 1 → BindsTo s fd ⟨rvs, []⟩ ([Str.ofString "depths"].zip rvs)

section
variable {B : BH} {d : Nat}
theorem simE_bis (H : Facts B) (L : LamFacts B) {np p1 p2 p3 p4 p5 p6 p7 p8 pos : Pos} :
    SimE B 4 x_2 (.Call (.Name (Str.ofString "bisect_right") np) [.Name (Str.ofString "a") p1, .Call (.Name (Str.ofString "key") p2) [.Name (Str.ofString "x") p3] [] p4, .Name (Str.ofString "lo") p5, .Name (Str.ofString "hi") p6] [⟨some (Str.ofString "key"), .Name (Str.ofString "key") p7, p8⟩] pos) bisF := by
  intro A s env fr P W dv Q E R I F fp ev h
  obtain ⟨a, e0, ev⟩ := bind_some ev
  obtain ⟨kx, e1, ev⟩ := bind_some ev
  obtain ⟨lo, e2, ev⟩ := bind_some ev
  obtain ⟨hi, e3, ev⟩ := bind_some ev
  obtain ⟨k, e4, ev⟩ := bind_some ev
  obtain ⟨u, e5, ev⟩ := bind_some ev
  obtain ⟨fa, fd, t, hv, H3, hsc, hb⟩ := L.k3.ex
  have hkd : env.scope.kind = .function := by rw [F.sc]; exact F.kind
  refine wpAny_Call_Name_kw (wpAny_Name (wp_glob I hkd (by unfold Env.kindOf; rw [F.sc]; decide +kernel) F.glob F.blt hv ?_) rfl)
  obtain ⟨o, ho, pl, hdata⟩ := H3.o
  refine callWith_function_kw (o := o) (fd := fd) (evalArgs_kwB rfl ?_)
  refine args_cons (env := env) (pos := pos) (rest := [.Call (.Name (Str.ofString "key") p2) [.Name (Str.ofString "x") p3] [] p4, .Name (Str.ofString "lo") p5, .Name (Str.ofString "hi") p6]) (simO_var (B := B) (d := 4) 0 rfl rfl rfl R I F fp e0 fun v0 s0 t0 r0 => ?_)
  have I0 := I.step t0
  refine args_cons (env := env) (pos := pos) (simE_key (B := B) (d := 3) (cx := x_2) (i := 4) rfl (by decide) rfl rfl (simE_var 1 rfl (by decide) rfl rfl) (by intro _; rfl) R I0 (F.step t0) (fp.le t0.lv) e1 fun v1 s1 t1 r1 => ?_)
  have t01 := t0.trans t1
  refine args_cons (env := env) (pos := pos) (simE_var (B := B) (d := 4) 2 rfl (by decide) rfl rfl R (I.step t01) (F.step t01) (fp.le t01.lv) e2 fun v2 s2 t2 r2 => ?_)
  have t02 := t01.trans t2
  refine args_cons (env := env) (pos := pos) (simE_var (B := B) (d := 4) 3 rfl (by decide) rfl rfl R (I.step t02) (F.step t02) (fp.le t02.lv) e3 fun v3 s3 t3 r3 => ?_)
  have t03 := t02.trans t3
  refine args_nil ?_
  refine kws_cons (simE_var (B := B) (d := 4) 4 rfl (by decide) rfl rfl R (I.step t03) (F.step t03) (fp.le t03.lv) e4 fun v4 s4 t4 r4 => ?_)
  have t04 := t03.trans t4
  refine kws_nil ⟨⟨(I.step t04).keep _ _ trivial (.inl pl) ho, hdata⟩, ?_⟩
  have up : ∀ {h : Heap} {v d}, VR P h v d → VR (Or1 P W) h v d := fun r => r.up fun _ => .inl
  have al : ∀ {s s' : Shared} {v d}, Step s s' → VR (Or1 P W) s.heap v d → VR (Or1 P W) s'.heap v d := fun t r => r.step (t.keep.mono fun _ _ => trivial)
  refine call_func_kw (B := B) (d := 2) (k := 1) (nm := x_3.ns) (args := ⟨[v0, v1, v2, v3], [(Str.ofString "key", v4)]⟩) (rvs := [v0, v1, v2, v3, v4]) (as := [a, kx, lo, hi, k]) (f := f_3) (P := Or1 P W) H3 (hb _ [v0, v1, v2, v3] v4 (I.step t04) rfl) (nodupB_ok (by decide +kernel)) rfl (by rw [hsc]; rfl) (by rw [hsc]; rfl) (by rw [hsc]; decide +kernel)
    (by rw [hsc]; exact r_3 H) (R.le (by omega)) (I.step t04) (fun b q => .inl (fp.le t04.lv b q))
    (.cons (al (t1.trans (t2.trans (t3.trans t4))) r0) (.cons (al (t2.trans (t3.trans t4)) (up r1)) (.cons (al (t3.trans t4) (up r2)) (.cons (al t4 (up r3)) (.cons (up r4) .nil))))) rfl e5 fun rv s5 t5 r5 => h _ _ (t04.trans t5) ?_
  unfold isInt at ev
  cases u <;> cases ev
  exact r5.flat rfl
theorem sim1_insert {np p1 p2 apos pos pos2 : Pos} (hl : (apos.endLine == pos.line) = true) : Sim1 B d x_2 (.Expr (.Call (.Attribute (.Name (Str.ofString "a") np) (Str.ofString "insert") apos) [.Name (Str.ofString "lo") p1, .Name (Str.ofString "x") p2] [] pos) pos2) insF := by
  intro A s env fr P W o Q E R I F FW fp ev h
  obtain ⟨ds, e0, ev⟩ := bind_some ev
  obtain ⟨lo, e1, ev⟩ := bind_some ev
  obtain ⟨v, e2, ev⟩ := bind_some ev
  cases lo with
  | int i =>
    dsimp only at ev
    split at ev
    · rename_i hz
      obtain rfl := Option.some.inj ev
      obtain ⟨a, vs, n, ds', q0, rd, w, e, r⟩ := F.own 0 (Str.ofString "a") _ rfl rfl (ownV_eq e0)
      cases q0
      have hkd : env.scope.kind = .function := by rw [F.sc]; exact F.kind
      refine wpAny_Expr_any (wpAny_Call_method rfl rfl hl PySem.F.plainAttrs_list PySem.F.slot_list_insert PySem.F.type_list_insert (wpAny_Name (wp_load B.w hkd rd ⟨⟨_, e, rfl⟩, fun b q => (by cases q; exact ⟨_, e, rfl⟩), ?_⟩ rfl) rfl)) (by unfold interactive; rw [hkd]; rfl) rfl
      refine callWith_builtin rfl (evalArgs_plain (args_cons (env := env) (pos := pos) (rest := [.Name (Str.ofString "x") p2]) (simE_var (B := B) (d := d) 2 rfl (by decide) rfl rfl R I F fp e1 fun v1 s1 t1 r1 => ?_)))
      refine args_cons (env := env) (pos := pos) (simE_var (B := B) (d := d) 1 rfl (by decide) rfl rfl R (I.step t1) (F.step t1) (fp.le t1.lv) e2 fun v2 s2 t2 r2 => args_nil ?_)
      have t12 := t1.trans t2
      obtain ⟨_, rfl⟩ := VR.int' r1
      rename_i ti
      have e' := t12.keep _ _ trivial (.inl (.type rfl)) e
      have F1 := F.step t12
      have r' := r.step (t12.keep.mono fun _ _ => trivial)
      have ln := r'.length
      have sz : sizeLine = 2 ^ 24 := rfl
      refine call_meets PySem.F.slot_list_insert ⟨_, e', rfl⟩ PySem.F.entry_list_insert (PySem.F.args_list_insert_3 _ _ _) (AutoListH.list_insert_list_int_val_1 a vs.toArray n i ti v2 ?_ ?_) ⟨e', ?_⟩
      · simp [Builtin.List.listFitsIndex]; omega
      · simp only [List.size_toArray]; omega
      · generalize hk : min i.toNat ds.length = kk
        have hk' : (if i < 0 then (i + ((vs.toArray.size : Nat) : Int)).toNat else min i.toNat vs.toArray.size) = kk := by
          rw [if_neg (by omega), List.size_toArray, ln]; exact hk
        have hs : Heap.SameBut a s2.heap (s2.heap.update a (Obj.mapSeq fun xs => have k := if i < 0 then (i + ((xs.size : Nat) : Int)).toNat else min i.toNat xs.size; (xs.extract 0 k).push v2 ++ xs.extract k)) := Heap.SameBut.update ..
        have ea : ((vs.toArray.extract 0 kk).push v2 ++ vs.toArray.extract kk) = (vs.take kk ++ [v2] ++ vs.drop kk).toArray := by
          apply Array.toList_inj.mp
          simp [List.extract_eq_drop_take]
          exact List.take_of_length_le (by simp)
        have e'' : (s2.heap.update a (Obj.mapSeq fun xs => have k := if i < 0 then (i + ((xs.size : Nat) : Int)).toNat else min i.toNat xs.size; (xs.extract 0 k).push v2 ++ xs.extract k)).get? a = some { cls := .type "list", data := .seq (vs.take kk ++ [v2] ++ vs.drop kk).toArray (if (vs.take kk ++ [v2] ++ vs.drop kk).toArray.size == vs.toArray.size then n else n + 1) } := by
          rw [Heap.get?_update_self _ e' rfl]
          simp only [Obj.mapSeq, hk', ea]
        have kp : Keep P s2.heap (s2.heap.update a (Obj.mapSeq fun xs => have k := if i < 0 then (i + ((xs.size : Nat) : Int)).toNat else min i.toNat xs.size; (xs.extract 0 k).push v2 ++ xs.extract k)) := fun b o p q e => (hs.2 b fun z => F.wp a w (z ▸ p)).trans e
        have rr : VRs P s2.heap (vs.take kk ++ [v2] ++ vs.drop kk) (ds.take kk ++ [v] ++ ds.drop kk) := ((r'.take kk).append (.cons r2 .nil)).append (r'.drop kk)
        obtain ⟨st, F2, W2, rd2⟩ := own_upd (tk := s2.toks) F1 (FW.step t12) rfl rfl hz.2.2.2 (rd.keeps t12.keep) w e' hs e'' (rr.step kp)
        subst hk
        exact h _ _ ⟨(Step.any t12).trans st, rfl, F2, W2⟩
    · exact nomatch ev
  | _ => exact nomatch ev
theorem sim_2 (H : Facts B) (L : LamFacts B) : SimS B 4 x_2 (fnBody 2) f_2 :=
  (show KS_ B 4 x_2 (fnBody 2) f_2 from ks1 (k1_if (kt_cmp (kvar 4 rfl (by decide) rfl rfl) kN (by omega) rfl) ks_never (ks1 (k1_assign ⟨simE_bis H L⟩ s_2_2) ks0)) (ks1 ⟨sim1_insert rfl⟩ ks0)).h
end
end Mine
end

section
open PySem PySem.W PyProof.Rows PySem.Calls
set_option maxRecDepth 100000
set_option linter.all false
namespace Mine
section
variable {B : BH} {d : Nat}
noncomputable abbrev lst (vs : List Value) (n : Nat) : Obj := { cls := .type "list", data := .seq vs.toArray n }
theorem call_insort (H : Facts B) (L : LamFacts B) {a : Addr} {fd : FuncData} {t : Tok} (H2 : FnAt B a fd (fnBody 2) ps5) (hsc : fd.scope = fnScope 2)
    (hb : ∀ (s : Shared) (rvs : List Value) (kv : Value), Inv B s → rvs.length = 2 → BindsTo s fd ⟨rvs, [(Str.ofString "key", kv)]⟩ (ps5.zip (rvs ++ [.int 0 t, .none] ++ [kv])))
    {A : Around} {s : Shared} {P : Addr → Prop} {l : Addr} {vs : List Value} {n : Nat} {ds ds' : List PyData} {xv kv : Value} {x kd : PyData} {Q E : Value → Shared → Prop}
    (R : Room 5 A) (I : Inv B s) (fp : Fresh P s.heap) (hl : ¬ P l) (hB : ∀ o, B.hB.get? l = some o → False) (e : s.heap.get? l = some (lst vs n)) (r : VRs P s.heap vs ds) (rx : VR P s.heap xv x) (rk : VR P s.heap kv kd) (ev : F_2 ds x kd = some ds')
    (h : ∀ s' vs' n', StepP (fun b => b ≠ l) AllG s s' → s'.heap.get? l = some (lst vs' n') → VRs P s'.heap vs' ds' → Q .none s') : wpAny (MM B.w) A (call (.ref a) [.ref l, xv] [(Str.ofString "key", kv)]) Q E s := by
  obtain ⟨o, e1, ev⟩ := bind_some ev
  obtain ⟨oo, ho, hdata⟩ := H2.objAt I
  have hloc : ∀ y ∈ ps5, (fnScope 2).names.lookup y = some .local := by decide +kernel
  refine wpAny_call (codeAny_call_function (by have := R.depth; omega) ho hdata (by rw [hsc]; rfl) (by rw [hsc]; rfl) H2.body (H2.codeAt I) (hb s [.ref l, xv] kv I rfl _ _ _ _ ?_))
  refine wpAny_newFunctionEnv (by rw [hsc]; decide +kernel) (fun y hy => by rw [hsc]; exact hloc _ (List.of_mem_zip hy).1) (fun h' n1 sb => ?_) (by rw [hsc]; rfl)
  rw [hsc, H2.glob, H2.blt, H2.clo]
  have hown : ∀ (i : Nat) (y : Str) (dd : PyData), x_2.own = some i → x_2.ns[i]? = some y → ([some (.list ds), some x, some (.int 0), some .none, some kd] : Fm)[i]? = some (some dd) →
      ∃ a vs n ds, dd = .list ds ∧ ps5[i]? = some y ∧ ([.ref l, xv] ++ [.int 0 t, .none] ++ [kv])[i]? = some (.ref a) ∧ a = l ∧ s.heap.get? a = some { cls := .type "list", data := .seq (List.toArray vs) n } ∧ VRs P s.heap vs ds := fun i y dd q a1 b1 => by
    cases q; cases b1
    exact ⟨l, vs, n, ds, rfl, a1, rfl, rfl, e, r⟩
  have hs : ∀ (i : Nat) (y : Str) (dd : PyData), x_2.ns[i]? = some y → ([some (.list ds), some x, some (.int 0), some .none, some kd] : Fm)[i]? = some (some dd) → x_2.own ≠ some i →
      ∃ v2, ((ps5[i]? = some y ∧ ([.ref l, xv] ++ [.int 0 t, .none] ++ [kv])[i]? = some v2) ∨ ((x_2.sc.names.lookup y = some .cell ∨ x_2.sc.names.lookup y = some .free) ∧ ∃ c2, ([] : List (Str × Addr)).lookup y = some c2 ∧ s.heap.IsCell c2 (some v2))) ∧ VR P s.heap v2 dd := fun i y dd a1 b1 ho => by
    match i, a1, b1 with
    | 0, a1, b1 => exact absurd rfl ho
    | 1, a1, b1 => cases b1; exact ⟨_, .inl ⟨a1, rfl⟩, rx⟩
    | 2, a1, b1 => cases b1; exact ⟨_, .inl ⟨a1, rfl⟩, .int _ _⟩
    | 3, a1, b1 => cases b1; exact ⟨_, .inl ⟨a1, rfl⟩, .none⟩
    | 4, a1, b1 => cases b1; exact ⟨_, .inl ⟨a1, rfl⟩, rk⟩
    | i + 5, a1, b1 => cases b1
  obtain ⟨t1, F1, fp1⟩ := frame_lite (cx := x_2) (env := newEnv (fnScope 2) s.heap.objs.size mainGlobals [] (fd.qualname ++ ".<locals>.") (some a) fd.code none builtinsNs) (Wx := (· = l)) (ps := ps5) (rvs := [.ref l, xv] ++ [.int 0 t, .none] ++ [kv]) (fr := [some (.list ds), some x, some (.int 0), some .none, some kd])
    (tk := s.toks + (ps5.zip ([.ref l, xv] ++ [.int 0 t, .none] ++ [kv])).length) fp rfl rfl rfl rfl rfl n1 sb hloc (nodupB_ok (by decide +kernel)) (fun y c2 q => by cases q)
    ⟨fun y q => (by
      have hn : ∀ z ∈ (fnScope 2).names, z.2 ≠ .cell ∧ z.2 ≠ .free := by decide +kernel
      rcases q with q | q
      · exact absurd rfl (hn _ (PySem.mem_of_lookup q)).1
      · exact absurd rfl (hn _ (PySem.mem_of_lookup q)).2), fun q => by cases q⟩ (fun b q p => hl (q ▸ p)) (fun b q => ⟨_, q ▸ e⟩) hs hown
  refine ⟨(I.step t1).lim, codeAny_func ?_⟩
  have FW1 : FrameW B x_2 (fun b => b = s.heap.objs.size ∨ b = l) h' (newEnv (fnScope 2) s.heap.objs.size mainGlobals [] (fd.qualname ++ ".<locals>.") (some a) fd.code none builtinsNs) :=
    ⟨fun y c _ q => (by cases q), fun y z c _ q => (by cases q), fun b o w e9 => (by
      rcases w with rfl | rfl
      · obtain ⟨o', e'⟩ := I.lives _ o e9; rw [get_size] at e'; cases e'
      · exact hB o e9)⟩
  refine sim_2 H L (R.deeper _) (I.step t1) F1 FW1 fp1 e1 fun fl s2 p2 => ?_
  obtain ⟨t2, p2⟩ := p2
  cases o with
  | ret v => cases ev
  | next fr2 =>
    obtain ⟨rfl, F2, W2⟩ := p2
    match fr2, ev, F2 with
    | some (.list ds2) :: rest, ev, F2 =>
      cases ev
      obtain ⟨a', vs', n', ds3, e0, rd, w, e', r'⟩ := F2.own 0 (Str.ofString "a") (.list ds') rfl rfl rfl
      cases e0
      have hal : a' = l := by
        rcases w with w | w
        · obtain ⟨m, nL⟩ := F2.ns
          exact absurd w (ns_ne_seq nL e' rfl)
        · exact w
      subst hal
      refine h _ vs' n' (Step.closeP (N := NotW (fun b => b = s.heap.objs.size ∨ b = a')) t1 t2 (fun b o e hb w => ?_) fun _ _ => trivial) e' (r'.up fun b p => p.1)
      rcases w with rfl | w
      · rw [get_size] at e; cases e
      · exact hb w

theorem keepTab {ps : Array Value} {h h' : Heap} (hP : h.get? TB = some (tabObj ps)) (hx : ∀ b o, b ≠ TB → h.get? b = some o → h'.get? b = some o) : Keep All h h' := fun b o _ q e => by
  by_cases z : b = TB
  · subst z
    rw [hP] at e; cases e
    rcases q with q | q
    · rcases q with q | q
      · exact absurd rfl q
      · exact absurd rfl (q ps)
    · exact absurd rfl q
  · exact hx b o z e
theorem lam_eval (L : LamFacts B) {A : Around} {s : Shared} {env : Env} {c : Addr} {rv : Value} {dd : PyData} {l : Addr} {vs : Array Value} {n : Nat} {Q E : Value → Shared → Prop} (I : Inv B s) (hcode : env.code = .ref CO) (hq : env.qual = lamPre) (hg : env.globals = mainGlobals)
    (hcl : closureFor lamScope env = pure [(Str.ofString "depths", c)]) (hcell : s.heap.IsCell c (some rv)) (r : VR (fun b => b ≠ l) s.heap rv dd) (e : s.heap.get? l = some { cls := .type "list", data := .seq vs n })
    (h : ∀ v s', Step s s' → VR (fun b => b ≠ l) s'.heap v (.dict [(.none, dd)]) → Q v s') : wpAny (MM B.w) A (eval lamE env) Q E s := by
  obtain ⟨oc, ec, dc⟩ := hcell
  have hcl' : c ≠ l := fun z => by subst z; rw [e] at ec; cases ec; cases dc
  have hfl : ∀ {h' : Heap}, (∃ o, h'.get? l = some o) → h'.objs.size ≠ l := fun {h'} ⟨o, q⟩ => Ne.symm (Nat.ne_of_lt (Heap.lt_size q))
  obtain ⟨ps, ic, ta, cc⟩ := I.tab
  have C := CodeHd.of ic ta
  have ht : TriplesOk ps.toList := by
    obtain ⟨_, _, _, _, _, _, _, _, _, op, _, _, _, _, _, _, _, hop, hpd, htr, _⟩ := ic
    exact htr
  have hqual : env.qual ++ "<lambda>" = lamQual := by rw [hq]; decide +kernel
  have hbm : s.heap.BuiltinsAt B.mg TB := by
    obtain ⟨bm, o, h1, h2, h3, h4, h5, h6⟩ := L.bm
    exact ⟨bm, o, h1, h2, h3, h4, I.keep _ _ trivial (.inr h4) h5, h6⟩
  have hgP : mainGlobals ≠ TB := by decide
  show wpAny (MM B.w) A (eval (.Lambda lamParams lamBody lamScope lamPos) env) Q E s
  refine kla_eval rfl ?_
  rcases cc with rfl | ⟨c', hne, ham, hrec⟩
  · refine kla_makeFunction (mg := B.mg) hcl hg I.nsG hcode C ta.2 ht rfl hgP hbm fun c' ctv h' tk hx hge hlt hrec htb => ?_
    have k1 : ∀ b o, b ≠ TB → s.heap.get? b = some o → h'.get? b = some o := fun b o z e => hx b o z e
    have k2 : ∀ (ob : Obj) b o, b ≠ TB → s.heap.get? b = some o → (h'.push ob).get? b = some o := fun ob b o z e => Heap.get?_push_of_some _ (k1 b o z e)
    have hne : c' ≠ TB := fun z => by
      rw [z] at hge; exact Nat.lt_irrefl _ (Nat.lt_of_lt_of_le (Heap.lt_size ta.2) hge)
    obtain ⟨cA, oA, vsA, tA, q1, q2, q3, q4⟩ := hrec
    cases q1
    have hlC : c' ≠ l := fun z => by
      rw [z] at hge; exact Nat.lt_irrefl _ (Nat.lt_of_lt_of_le (Heap.lt_size e) hge)
    have lT : l ≠ TB := fun z => by subst z; rw [ta.2] at e; cases e
    have cT : c ≠ TB := fun z => by subst z; rw [ta.2] at ec; cases ec; cases dc
    generalize hob : kla_obj "<lambda>" (env.qual ++ "<lambda>") lamParams lamBody lamScope [(Str.ofString "depths", c)] ((B.mg "__name__").getD .none) c' ctv = ob
    have st : Step s { s with heap := h'.push ob, toks := tk } := ⟨keepTab ta.2 (k2 ob), fun b o _ e => by
        by_cases z : b = TB
        · subst z; exact ⟨_, Heap.get?_push_of_some _ htb⟩
        · exact ⟨_, k2 ob b o z e⟩, fun _ => ?_, fun _ _ _ e => e, Nat.le_refl _, id, rfl⟩
    · refine h _ _ st (.fn (fd := kla_fn "<lambda>" (env.qual ++ "<lambda>") lamParams lamBody lamScope [(Str.ofString "depths", c)] ((B.mg "__name__").getD .none) (.ref c') ctv) (hfl ⟨_, k1 _ _ lT e⟩) (by rw [← hob]; exact Heap.get?_push_size _ rfl) ⟨rfl, rfl, rfl, rfl, rfl, rfl, rfl, rfl, rfl, hqual⟩ hlC hne (Heap.get?_push_of_some _ q2) q3 (by rw [← hqual]; exact q4) hcl' (k2 ob _ _ cT ec) dc (r.step (st.keep.mono fun _ _ => trivial)))
    · have hC : CO ≠ TB := by decide
      have C2 : CodeHd (h'.push ob) CO TB := let ⟨o, vs, file, tf, flags, tg, inF, text, tt, e, r⟩ := C; ⟨o, vs, file, tf, flags, tg, inF, text, tt, k2 ob _ _ hC e, r⟩
      refine ⟨_, C2.code (Heap.get?_push_of_some _ htb) trivial, C2.tab (Heap.get?_push_of_some _ htb), .inr ⟨c', hne, codeAmong_snoc [] trivial rfl, c', oA, vsA, tA, rfl, Heap.get?_push_of_some _ q2, q3, by rw [← hqual]; exact q4⟩⟩
  · refine kla_makeFunctionHit (mg := B.mg) hcl hg I.nsG hcode C ta.2 ht ham hbm fun ctv h' tk hk hsz => ?_
    obtain ⟨cA, oA, vsA, tA, q1, q2, q3, q4⟩ := hrec
    cases q1
    have hlC : c' ≠ l := fun z => by subst z; rw [e] at q2; cases q2; cases q3
    have st : Step s { s with heap := h'.push { cls := .type "function", data := .func (kla_fn "<lambda>" (env.qual ++ "<lambda>") lamParams lamBody lamScope [(Str.ofString "depths", c)] ((B.mg "__name__").getD .none) (.ref c') ctv) }, toks := tk } := .heap (fun b o e => Heap.get?_push_of_some _ (hk b o e)) rfl rfl
    exact h _ _ st (.fn (hfl ⟨_, hk _ _ e⟩) (Heap.get?_push_size _ rfl) ⟨rfl, rfl, rfl, rfl, rfl, rfl, rfl, rfl, rfl, hqual⟩ hlC hne (Heap.get?_push_of_some _ (hk _ _ q2)) q3 q4 hcl' (Heap.get?_push_of_some _ (hk _ _ ec)) dc (r.step (st.keep.mono fun _ _ => trivial)))

/-! _law_order -/
noncomputable def x_22 : Cx := { ns := [Str.ofString "depths", Str.ofString "order", Str.ofString "k"], sc := fnScope 22, own := some 1, cd := true }
theorem o_22 : OwnAt x_22 1 (Str.ofString "order") := ⟨rfl, rfl, by decide +kernel, nodupB_ok (by decide +kernel)⟩
theorem s_22_2 : Slot1 x_22 2 (Str.ofString "k") := ⟨rfl, by decide, .inl (by decide +kernel), nodupB_ok (by decide +kernel)⟩
noncomputable def allFlat (ds : List PyData) : Bool := ds.all flat
noncomputable def insOrdF (fr : Fm) : Option Out := (ownV 1 fr).bind fun ds => (getV 2 fr).bind fun k => (getV 0 fr).bind fun dd => (F_2 ds k (.dict [(.none, dd)])).bind fun ds' => if 1 < fr.length ∧ allFlat ds = true ∧ allFlat ds' = true ∧ flat k = true then some (.next (fr.set 1 (some (.list ds')))) else none
theorem VRs.flats {P P' : Addr → Prop} {h h' : Heap} : ∀ {vs : List Value} {ds : List PyData}, VRs P h vs ds → allFlat ds = true → VRs P' h' vs ds
  | _, _, .nil, _ => .nil
  | _, _, .cons a b, k => by
    unfold allFlat at k
    rw [List.all_cons, Bool.and_eq_true] at k
    exact .cons (a.flat k.1) (VRs.flats b k.2)
theorem sim1_insord (H : Facts B) (L : LamFacts B) (hd : 5 ≤ d) {np p1 p2 p3 pos pos2 : Pos} :
    Sim1 B d x_22 (.Expr (.Call (.Name (Str.ofString "insort_right") np) [.Name (Str.ofString "order") p1, .Name (Str.ofString "k") p2] [⟨some (Str.ofString "key"), lamE, p3⟩] pos) pos2) insOrdF := by
  intro A s env fr P W o Q E R I F FW fp ev h
  obtain ⟨ds, e0, ev⟩ := bind_some ev
  obtain ⟨k, e1, ev⟩ := bind_some ev
  obtain ⟨dd, e2, ev⟩ := bind_some ev
  obtain ⟨ds', e3, ev⟩ := bind_some ev
  split at ev
  · rename_i hz
    cases ev
    obtain ⟨z1, z2, z3, z4⟩ := hz
    obtain ⟨l, vs, n, ds0, q0, rd, w, e, r⟩ := F.own 1 (Str.ofString "order") _ rfl rfl (ownV_eq e0)
    cases q0
    obtain ⟨kv, rdk, rk⟩ := F.slot 2 (Str.ofString "k") _ rfl (getV_eq e1) (by decide)
    obtain ⟨dv, rdd, rdv⟩ := F.slot 0 (Str.ofString "depths") _ rfl (getV_eq e2) (by decide)
    obtain ⟨fa, fd, t, hv, H2, hsc, hb⟩ := L.k2.ex
    have hkd : env.scope.kind = .function := by rw [F.sc]; exact F.kind
    obtain ⟨oo, ho, pl, hdata⟩ := H2.o
    have hlP : ¬ P l := F.wp l w
    have hPl : ∀ b, P b → b ≠ l := fun b p z => hlP (z ▸ p)
    refine wpAny_Expr_any (wpAny_Call_Name_kw (wpAny_Name (wp_glob I hkd (by unfold Env.kindOf; rw [F.sc]; decide +kernel) F.glob F.blt hv ?_) rfl)) (by unfold interactive; rw [hkd]; rfl) rfl
    refine callWith_function_kw (o := oo) (fd := fd) (evalArgs_kwB rfl ?_)
    refine args_cons (env := env) (pos := pos) (rest := [.Name (Str.ofString "k") p2]) (wpAny_Name (wp_load B.w hkd rd (args_cons (env := env) (pos := pos) (rest := []) (wpAny_Name (wp_load B.w hkd rdk (args_nil ?_) rfl) rfl)) rfl) rfl)
    -- the cell of depths
    have hcl : ∃ c, closureFor lamScope env = pure [(Str.ofString "depths", c)] ∧ s.heap.IsCell c (some dv) := by
      rcases rdd with ⟨kk, _⟩ | ⟨_, c, ec, cc⟩
      · have : env.kindOf (Str.ofString "depths") = some .cell := by unfold Env.kindOf; rw [F.sc]; decide +kernel
        rw [this] at kk; cases kk
      · refine ⟨c, ?_, cc⟩
        have hcc : cellOf env (Str.ofString "depths") = pure c := by unfold cellOf; rw [ec]
        show closureFor { kind := _, names := [(Str.ofString "node", .local), (Str.ofString "depths", .free)], isGenerator := _, isCoroutine := _, more := _ } env = _
        unfold closureFor
        simp [hcc]
    obtain ⟨c, hcl, hcell⟩ := hcl
    refine kws_cons (lam_eval L (l := l) I (F.has.2 rfl).1 (F.has.2 rfl).2 F.glob hcl hcell (rdv.up hPl) e fun fv s1 t1 r1 => kws_nil ⟨⟨(I.step t1).keep _ _ trivial (.inl pl) ho, hdata⟩, ?_⟩)
    have e' := t1.keep _ _ trivial (.inl (.type rfl)) e
    have F1 := F.step t1
    refine call_insort H L H2 hsc hb (P := fun b => b ≠ l) (R.le hd) (I.step t1) (fun b q z => by rw [z, e'] at q; cases q) (fun q => q rfl) (fun o q => FW.base l o w q) e' (r.flats z2) (rk.flat z4) r1 e3 fun s2 vs' n' t2 e2' r2 => ?_
    -- the frame behind
    have st : StepP (NotW W) AllG s s2 := (Step.any t1).trans (t2.mono (fun b nw z => nw (z ▸ w)) fun _ q => q)
    refine h _ _ ⟨st, rfl, ?_, ⟨FW.cellW, FW.cinj, FW.base⟩⟩
    have kN : ∀ b o, b ≠ l → Plain o → s1.heap.get? b = some o → s2.heap.get? b = some o := fun b o z p e => t2.keep b o z (.inl p) e
    obtain ⟨m, nL⟩ := F1.ns
    have nl : ∀ {b m}, s1.heap.Ns b m → b ≠ l := fun n z => (ns_ne_seq n e' rfl) z.symm
    have cl : ∀ {b v}, s1.heap.IsCell b v → b ≠ l := fun n z => (cell_ne_seq n e' rfl) z.symm
    have rdk2 : ∀ y v, Rd s1.heap env y v → Rd s2.heap env y v := fun y v r => by
      rcases r with ⟨k, m, n, q⟩ | ⟨k, c, q1, q2⟩
      · exact .inl ⟨k, m, Heap.Ns.kept n fun o e p => kN _ o (nl n) p e, q⟩
      · exact .inr ⟨k, c, q1, IsCell.kept q2 fun o e p => kN _ o (cl q2) p e⟩
    refine ⟨F.sc, F.kind, F.glob, F.blt, ⟨m, Heap.Ns.kept nL fun o e p => kN _ o (nl nL) p e⟩, F.wl, F.wp, fun b wb => ?_, fun y c2 q => ?_, F.has, fun j y d2 a1 b1 c1 => ?_, fun j y d2 a1 b1 c1 => ?_⟩
    · by_cases z : b = l
      · subst z; exact ⟨_, e2'⟩
      · obtain ⟨ob, eb⟩ := F1.wlt b wb; exact t2.live b ob z eb
    · obtain ⟨v2, q2⟩ := F1.cl y c2 q
      exact ⟨v2, IsCell.kept q2 fun o e p => kN _ o (cl q2) p e⟩
    · have q : j ≠ 1 := by rintro rfl; exact c1 rfl
      rw [List.getElem?_set_ne (Ne.symm q)] at b1
      obtain ⟨rv', R', V'⟩ := F1.slot j y d2 a1 b1 c1
      exact ⟨rv', rdk2 _ _ R', V'.step (t2.keep.mono fun b p => hPl b p)⟩
    · have q : j = 1 := (Option.some.inj a1).symm
      subst q
      rw [List.getElem?_set_self z1] at c1
      cases c1
      cases b1
      exact ⟨l, vs', n', ds', rfl, rdk2 _ _ (rd.keeps t1.keep), w, e2', r2.flats z3⟩
  · cases ev
noncomputable def f_22 : Fm → Option PyData := ownNew 1 nilF (seqR (forE (rngF (consF (callF (consF (getV 0) nilF) lenV) nilF)) (putV 2) (seqF insOrdF nextF)) (lastF (retF (getV 1))))
theorem r_22 (H : Facts B) (L : LamFacts B) : SimR B 5 x_22 (fnBody 22) f_22 :=
  (show KR_ B 5 x_22 (fnBody 22) f_22 from kr_own kl0 o_22 (kr1 (k1_for (ki_range H (kl1 (kcall (kl1 (kvar 0 rfl (by decide) rfl rfl) kl0) (cLen H) (by decide +kernel) (by decide +kernel)) kl0) (by decide +kernel)) (ka1 (i := 2) s_22_2) (ks1 ⟨sim1_insord H L (Nat.le_refl _)⟩ ks0)) (kr_last (k1_ret (ko_var 1 rfl rfl rfl))))).h
noncomputable def F_22 : List PyData → Option PyData := argF 1 [] 2 f_22
theorem c_22 (H : Facts B) (L : LamFacts B) : CallG B (5 + 1) (Str.ofString "_law_order") F_22 := by
  obtain ⟨a, fd, hv, H22, hsc, hcode, hq, hb⟩ := L.d22
  refine ⟨.ref a, hv, .inr (.inr (let ⟨o, e, p, q⟩ := H22.o; ⟨a, o, fd, rfl, e, p, q⟩)), ?_⟩
  exact callOk_func (n := 1) (k := 2) (dvs := []) (dds := []) (nm := x_22.ns) (own := x_22.own) (cd := true) H22 (fun s rvs _ hz => by rw [List.append_nil]; exact hb s rvs hz) (fun _ _ => .nil) rfl (nodupB_ok (by decide +kernel)) rfl (fun i q => by cases q; decide) (by rw [hsc]; rfl) (by rw [hsc]; rfl) (by rw [hsc]; decide +kernel) (fun _ => ⟨hcode, hq⟩) (by rw [hsc]; exact r_22 H L)
end
end Mine
end

section
open PySem PySem.W PyProof.Rows PySem.Calls
set_option maxRecDepth 100000
set_option linter.all false
namespace Mine
/-! what each combinator computes, step by step -/
theorem seqF_next {f g : Fm → Option Out} {fr fr1 : Fm} (h : f fr = some (.next fr1)) : seqF f g fr = g fr1 := by show (f fr).bind _ = _; rw [h]; rfl
theorem seqR_next {f : Fm → Option Out} {g : Fm → Option PyData} {fr fr1 : Fm} (h : f fr = some (.next fr1)) : seqR f g fr = g fr1 := by show (f fr).bind _ = _; rw [h]; rfl
theorem setF_eq {i : Nat} {f : Fm → Option PyData} {fr : Fm} {v : PyData} (h : f fr = some v) (hi : i < fr.length) : setF i f fr = some (.next (fr.set i (some v))) := by
  show (f fr).bind _ = _; rw [h]; exact if_pos hi
theorem appF_eq {i : Nat} {f : Fm → Option PyData} {fr : Fm} {v : PyData} {ds : List PyData} (h0 : ownV i fr = some ds) (h : f fr = some v) (hi : i < fr.length) (hd : ds.length ≤ 100000) : appF i f fr = some (.next (fr.set i (some (.list (ds ++ [v]))))) := by
  show (ownV i fr).bind _ = _; rw [h0]; show (f fr).bind _ = _; rw [h]; exact if_pos ⟨hi, hd⟩
theorem callF_eq {f : Fm → Option (List PyData)} {F : List PyData → Option PyData} {fr l} (h : f fr = some l) : callF f F fr = F l := by show (f fr).bind F = _; rw [h]; rfl
theorem consF_eq {f : Fm → Option PyData} {g : Fm → Option (List PyData)} {fr a l} (h : f fr = some a) (h2 : g fr = some l) : consF f g fr = some (a :: l) := by
  show (f fr).bind _ = _; rw [h]; show (g fr).bind _ = _; rw [h2]; rfl
theorem one_eq {f : Fm → Option PyData} {fr a} (h : f fr = some a) : consF f nilF fr = some [a] := consF_eq h rfl
theorem binF_eq {op : Operator} {f g : Fm → Option PyData} {fr a b} (h : f fr = some a) (h2 : g fr = some b) : binF op f g fr = binV op a b := by
  show (f fr).bind _ = _; rw [h]; show (g fr).bind _ = _; rw [h2]; rfl
theorem methF_eq {T : String} {f : Fm → Option PyData} {g : Fm → Option (List PyData)} {F : PyData → List PyData → Option PyData} {fr a l} (h : f fr = some a) (h2 : g fr = some l) (h3 : isOf T a = true) : methF T f g F fr = F a l := by
  show (f fr).bind _ = _; rw [h]; show (g fr).bind _ = _; rw [h2]; exact if_pos h3
theorem sliceF_eq {f : Fm → Option PyData} {g k : Fm → Option (Option Int)} {fr a lo hi} (h : f fr = some a) (h2 : g fr = some lo) (h3 : k fr = some hi) : sliceF f g k fr = sliceV a lo hi := by
  show (f fr).bind _ = _; rw [h]; show (g fr).bind _ = _; rw [h2]; show (k fr).bind _ = _; rw [h3]; rfl
theorem subF_eq {f g : Fm → Option PyData} {fr a b} (h : f fr = some a) (h2 : g fr = some b) : subF f g fr = itemV a b := by
  show (f fr).bind _ = _; rw [h]; show (g fr).bind _ = _; rw [h2]; rfl
theorem iteF_true {t : Fm → Option Bool} {f g fr} (h : t fr = some true) : iteF t f g fr = f fr := by show (t fr).bind _ = _; rw [h]; rfl
theorem iteF_false {t : Fm → Option Bool} {f g fr} (h : t fr = some false) : iteF t f g fr = g fr := by show (t fr).bind _ = _; rw [h]; rfl
theorem cmpF_eq {op : CmpOp} {f g : Fm → Option PyData} {fr a b} (h : f fr = some a) (h2 : g fr = some b) : cmpF op f g fr = cmpV op a b := by
  show (f fr).bind _ = _; rw [h]; show (g fr).bind _ = _; rw [h2]; rfl
theorem forF_one {g : PyData → Fm → Option Fm} {f : Fm → Option Out} {v rest fr fr1 fr2} (hg : g v fr = some fr1) (hf : f fr1 = some (.next fr2)) : forF g f (v :: rest) fr = forF g f rest fr2 := by
  show (g v fr).bind _ = _; rw [hg]; show (f fr1).bind _ = _; rw [hf]; rfl
theorem ownNew_eq {i : Nat} {f : Fm → Option (List PyData)} {g : Fm → Option PyData} {fr : Fm} {ds : List PyData} (h : f fr = some ds) (hi : i < fr.length) (hz : ds.length ≤ 1000) : ownNew i f g fr = g (fr.set i (some (.list ds))) := by
  show (f fr).bind _ = _; rw [h]; exact if_pos ⟨hi, hz⟩
theorem extF_eq {i : Nat} {f : Fm → Option PyData} {fr : Fm} {ds es : List PyData} (h0 : ownV i fr = some ds) (h : f fr = some (.list es)) (hi : i < fr.length) (hd : ds.length + es.length ≤ 100000) : extF i f fr = some (.next (fr.set i (some (.list (ds ++ es))))) := by
  show (ownV i fr).bind _ = _; rw [h0]; show (f fr).bind _ = _; rw [h]; exact if_pos ⟨hi, hd⟩
theorem itemV_list (xs : List PyData) (k : Int) : itemV (.list xs) (.int k) = if -100000 < k ∧ k < 100000 then (seqIndex? k xs.length).bind (xs[·]?) else none := rfl
theorem itemV_map {α : Type} {D : α → PyData} {l : List α} {k : Nat} {a : α} (h : l[k]? = some a) (hz : l.length ≤ 1000) : itemV (.list (l.map D)) (.int k) = some (D a) := by
  obtain ⟨hk, _⟩ := List.getElem?_eq_some_iff.mp h
  rw [itemV_list, if_pos (by omega), StrLaws.seqIndex_nonneg (by omega) (by rw [List.length_map]; omega)]
  simp [h]
theorem itemV_head {a : PyData} {l : List PyData} : itemV (.list (a :: l)) (.int 0) = some a := by
  rw [itemV_list, if_pos (by decide), StrLaws.seqIndex_nonneg (Int.le_refl 0) (by simp)]
  rfl
theorem cmpF_str {op : CmpOp} {f : Fm → Option PyData} {S : String} {fr : Fm} {a : PyData} {b : Str} (h : f fr = some a) (h2 : Str.ofString S = b) : cmpF op f (cS (Str.ofString S)) fr = cmpV op a (.str b) := cmpF_eq h (congrArg (fun x => some (PyData.str x)) h2)
theorem str_eq {S : String} {b : Str} {fr : Fm} (h : Str.ofString S = b) : cS (Str.ofString S) fr = some (.str b) := congrArg (fun x => some (PyData.str x)) h
theorem lastF_ret {f : Fm → Option PyData} {fr : Fm} {v : PyData} (h : f fr = some v) : lastF (retF f) fr = some v := by show ((f fr).map Out.ret).bind outV = _; rw [h]; rfl
end Mine
end

section
open PySem PySem.W PyProof.Rows PySem.Calls
set_option maxRecDepth 100000
set_option linter.all false
namespace Mine

/-! the plain law: texts as lists of signs -/
noncomputable abbrev sx (l : List Nat) : Str := ⟨l.toArray⟩
noncomputable abbrev tx (l : List Nat) : PyData := .str (sx l)
theorem sx_inj {a b : List Nat} : sx a = sx b ↔ a = b := by simp [sx]
theorem sx_beq (a b : List Nat) : (sx a == sx b) = decide (a = b) := by
  rw [Bool.eq_iff_iff, beq_iff_eq, decide_eq_true_eq, sx_inj]
theorem sx_len (a : List Nat) : (sx a).length = a.length := by simp [Str.length]
theorem sx_append (a b : List Nat) : sx a ++ sx b = sx (a ++ b) := by
  show Str.append _ _ = _
  simp [Str.append]
theorem bsl_sx : bsl = sx [92] := by decide +kernel
theorem q_sx : Str.ofString "\"" = sx [34] := by decide +kernel
theorem e_sx : Str.ofString "" = sx [] := by decide +kernel
theorem slice_sx {l : List Nat} {a b : Nat} (h1 : a ≤ b) (h2 : b ≤ l.length) : Txt.slice (sx l) (some (a : Int)) (some (b : Int)) = sx ((l.drop a).take (b - a)) := by
  have := StrLaws.sliceText_nat (sx l) h1 (by rw [sx_len]; exact h2)
  exact this
theorem slice_from_sx {l : List Nat} {a : Nat} (h : a ≤ l.length) : Txt.slice (sx l) (some (a : Int)) none = sx (l.drop a) := by
  have := StrLaws.sliceText_from (x := sx l) (i := (a : Int)) ⟨by omega, by simpa using h⟩
  refine Eq.trans this ?_
  simp [sx]
  exact List.take_of_length_le (by simp)
theorem strsOf_sx (ls : List (List Nat)) : strsOf (ls.map tx) = some (ls.map sx) := by
  have := strsOf_map (ls.map sx)
  rw [List.map_map] at this
  exact this
theorem joinE_sx (ls : List (List Nat)) : Txt.join (sx []) (ls.map sx) = sx ls.flatten := by
  cases ls with
  | nil => rfl
  | cons a r =>
    have h : ∀ (r : List (List Nat)) (acc : Array Nat), (r.map sx).foldl (fun acc (p : Str) => acc ++ (sx []).cps ++ p.cps) acc = acc ++ r.flatten.toArray := by
      intro r
      induction r with
      | nil => intro acc; simp
      | cons b r ih => intro acc; rw [List.map_cons, List.foldl_cons, ih]; simp
    show (⟨((r.map sx)).foldl (fun acc (p : Str) => acc ++ (sx []).cps ++ p.cps) (sx a).cps⟩ : Str) = _
    rw [h]
    simp [sx]
theorem joinOk_sx (sep : List Nat) (ls : List (List Nat)) (h : ls.flatten.length + ls.length * sep.length ≤ 10000000) : JoinOk (sx sep) (ls.map sx) = true := by
  have g : ∀ (r : List (List Nat)) (acc : Nat), (r.map sx).foldl (fun (n : Nat) (p : Str) => n + p.length + (sx sep).length) acc = acc + r.flatten.length + r.length * sep.length := by
    intro r
    induction r with
    | nil => intro acc; simp
    | cons b r ih =>
      intro acc
      rw [List.map_cons, List.foldl_cons, ih, sx_len, sx_len]
      simp only [List.flatten_cons, List.length_append, List.length_cons, Nat.succ_mul]
      omega
  unfold JoinOk
  rw [List.foldl_toArray, g]
  have : sizeLine = 2 ^ 24 := rfl
  simp only [Builtin.Str.tooLong, Bool.not_eq_true', decide_eq_false_iff_not]
  omega
theorem joinV_sx (ls : List (List Nat)) (h : ls.flatten.length ≤ 1000000) : joinV (tx []) [.list (ls.map tx)] = some (tx ls.flatten) := by
  show (strsOf (ls.map tx)).bind (fun ts => if JoinOk (sx []) ts = true then some (PyData.str (Txt.join (sx []) ts)) else none) = some (tx ls.flatten)
  rw [strsOf_sx]
  show (if JoinOk (sx []) (ls.map sx) = true then _ else _) = _
  rw [joinOk_sx _ _ (by simp only [List.length_nil, Nat.mul_zero, Nat.add_zero]; omega)]
  simp [joinE_sx]
theorem contains_sx (l : List Nat) (c : Nat) : Txt.contains (sx l) (sx [c]) = decide (c ∈ l) := by
  have := StrLaws.found_one (sx l) c
  unfold Txt.contains
  rw [show (sx [c]) = ⟨#[c]⟩ from rfl, this]

/-! _strip_quoted_realnames -/
noncomputable def stripG : Bool → Option (List Nat) → List Nat → List Nat
  | false, none, [] => []
  | false, none, c :: cs => if c = 92 then stripG true none cs else if c = 34 then stripG false (some [34]) cs else c :: stripG false none cs
  | true, none, [] => [92]
  | true, none, c :: cs => 92 :: c :: stripG false none cs
  | false, some q, [] => q
  | false, some q, c :: cs => if c = 92 then stripG true (some q) cs else if c = 34 then stripG false none cs else stripG false (some (q ++ [c])) cs
  | true, some q, [] => q ++ [92]
  | true, some q, c :: cs => stripG false (some (q ++ [92, c])) cs
noncomputable abbrev stripC (l : List Nat) : List Nat := stripG false none l
noncomputable def body7 : Fm → Option Out := (seqF (iteF (cmpF .Eq (getV 5) (cS (Str.ofString "\""))) (seqF (iteF (cmpF .Is (getV 2) cN) (seqF (setF 2 (getV 4)) nextF) (seqF (iteF (cmpF .NotEq (getV 1) (getV 2)) (seqF (appF 3 (sliceF (getV 0) (pSome (getV 1)) (pSome (getV 2)))) nextF) nextF) (seqF (setF 1 (binF .Add (getV 4) (cI 1))) (seqF (setF 2 cN) nextF)))) nextF) nextF) nextF)
noncomputable abbrev st7 (x : List Nat) (start : Nat) (op : PyData) (res : List (List Nat)) (p c : Option PyData) : Fm := [some (tx x), some (.int start), some op, some (.list (res.map tx)), p, c]
theorem b7_q {x : List Nat} {start : Nat} {op : PyData} {res : List (List Nat)} {p : Option PyData} {c : List Nat} : cmpF .Eq (getV 5) (cS (Str.ofString "\"")) (st7 x start op res p (some (tx c))) = some (decide (c = [34])) := by
  refine (cmpF_str rfl q_sx).trans ?_
  show some (sx c == sx [34]) = _
  rw [sx_beq]
theorem b7_other {x : List Nat} {start : Nat} {op : PyData} {res : List (List Nat)} {p : Int} {c : List Nat} (h : c ≠ [34]) : body7 (st7 x start op res (some (.int p)) (some (tx c))) = some (.next (st7 x start op res (some (.int p)) (some (tx c)))) :=
  (seqF_next ((iteF_false (b7_q.trans (by rw [decide_eq_false h]))).trans rfl)).trans rfl
theorem b7_open {x : List Nat} {start : Nat} {res : List (List Nat)} {p : Int} : body7 (st7 x start .none res (some (.int p)) (some (tx [34]))) = some (.next (st7 x start (.int p) res (some (.int p)) (some (tx [34])))) :=
  (seqF_next ((iteF_true (b7_q.trans rfl)).trans ((seqF_next ((iteF_true ((cmpF_eq rfl rfl).trans rfl)).trans ((seqF_next (setF_eq (v := .int p) rfl (Nat.le_of_ble_eq_true rfl))).trans rfl))).trans rfl))).trans rfl
theorem b7_close {x : List Nat} {start o : Nat} {res : List (List Nat)} {p : Nat} (hx : x.length ≤ 100000) (hr : res.length ≤ 100000) (h1 : start ≤ o) (h2 : o ≤ x.length) :
    body7 (st7 x start (.int o) res (some (.int p)) (some (tx [34]))) = some (.next (st7 x (p + 1) .none (if start = o then res else res ++ [(x.drop start).take (o - start)]) (some (.int p)) (some (tx [34])))) := by
  obtain ⟨res2, hres⟩ : ∃ r, r = if start = o then res else res ++ [(x.drop start).take (o - start)] := ⟨_, rfl⟩
  rw [← hres]
  have ha : iteF (cmpF .NotEq (getV 1) (getV 2)) (seqF (appF 3 (sliceF (getV 0) (pSome (getV 1)) (pSome (getV 2)))) nextF) nextF (st7 x start (.int o) res (some (.int p)) (some (tx [34]))) = some (.next (st7 x start (.int o) res2 (some (.int p)) (some (tx [34])))) := by
    have hc : cmpF .NotEq (getV 1) (getV 2) (st7 x start (.int o) res (some (.int p)) (some (tx [34]))) = some ((start : Int) != o) := (cmpF_eq rfl rfl).trans rfl
    by_cases h : start = o
    · rw [if_pos h] at hres
      rw [hres]
      exact (iteF_false (hc.trans (by rw [h]; simp))).trans rfl
    · rw [if_neg h] at hres
      have hs : sliceF (getV 0) (pSome (getV 1)) (pSome (getV 2)) (st7 x start (.int o) res (some (.int p)) (some (tx [34]))) = some (tx ((x.drop start).take (o - start))) := by
        refine (sliceF_eq (lo := some (start : Int)) (hi := some (o : Int)) rfl rfl rfl).trans ?_
        show (if (sx x).length ≤ 100000 then some (PyData.str (Txt.slice (sx x) (some (start : Int)) (some (o : Int)))) else none) = _
        rw [if_pos (by rw [sx_len]; exact hx), slice_sx h1 h2]
      refine (iteF_true (hc.trans (by simp; omega))).trans ((seqF_next (appF_eq (ds := res.map tx) rfl hs (Nat.le_of_ble_eq_true rfl) (by rw [List.length_map]; exact hr))).trans ?_)
      rw [hres]
      show some (Out.next _) = _
      simp
  have h5 : setF 1 (binF .Add (getV 4) (cI 1)) (st7 x start (.int o) res2 (some (.int p)) (some (tx [34]))) = some (.next (st7 x (p + 1) (.int o) res2 (some (.int p)) (some (tx [34])))) := (setF_eq ((binF_eq rfl rfl).trans rfl) (Nat.le_of_ble_eq_true rfl)).trans rfl
  have h6 : setF 2 cN (st7 x (p + 1) (.int o) res2 (some (.int p)) (some (tx [34]))) = some (.next (st7 x (p + 1) .none res2 (some (.int p)) (some (tx [34])))) := setF_eq rfl (Nat.le_of_ble_eq_true rfl)
  have h7 : iteF (cmpF .Is (getV 2) cN) (seqF (setF 2 (getV 4)) nextF) (seqF (iteF (cmpF .NotEq (getV 1) (getV 2)) (seqF (appF 3 (sliceF (getV 0) (pSome (getV 1)) (pSome (getV 2)))) nextF) nextF) (seqF (setF 1 (binF .Add (getV 4) (cI 1))) (seqF (setF 2 cN) nextF))) (st7 x start (.int o) res (some (.int p)) (some (tx [34]))) =
      some (.next (st7 x (p + 1) .none res2 (some (.int p)) (some (tx [34])))) :=
    (iteF_false ((cmpF_eq rfl rfl).trans rfl)).trans ((seqF_next ha).trans ((seqF_next h5).trans ((seqF_next h6).trans rfl)))
  exact (seqF_next ((iteF_true (b7_q.trans rfl)).trans ((seqF_next h7).trans rfl))).trans rfl
theorem sub_add_take {l : List Nat} {a b c : Nat} (h1 : a ≤ b) (h2 : b ≤ c) : (l.drop a).take (b - a) ++ (l.drop b).take (c - b) = (l.drop a).take (c - a) := by
  have e : l.drop b = (l.drop a).drop (b - a) := by rw [List.drop_drop]; congr 1; omega
  rw [e, show c - a = (b - a) + (c - b) from by omega, List.take_add]
theorem take_succ_drop {l cs : List Nat} {i : Nat} {c : Nat} (h : l.drop i = c :: cs) {a : Nat} (ha : a ≤ i) : (l.drop a).take (i + 1 - a) = (l.drop a).take (i - a) ++ [c] := by
  have := sub_add_take (l := l) (a := a) (b := i) (c := i + 1) ha (Nat.le_succ _)
  rw [← this, h]
  simp
theorem strip_loop {x : List Nat} (hx : x.length ≤ 100000) : ∀ (cs : List Nat) (esc : Bool) (pp : Int) (i start : Nat) (op : Option Nat) (res : List (List Nat)) (p c : Option PyData),
    x.drop i = cs → i ≤ x.length → (esc = true → 1 ≤ i ∧ x.drop (i - 1) = 92 :: cs) → start ≤ i - esc.toNat → (∀ o, op = some o → start ≤ o ∧ o < i - esc.toNat) → res.length ≤ start → res.flatten.length ≤ start →
    ∃ start' op' res' p' c', forF (putV2 4 5) body7 ((escL esc pp i cs).map escD) (st7 x start (op.elim .none fun o => .int o) res p c) = some (.next (st7 x start' op' res' p' c')) ∧ start' ≤ x.length ∧ res'.length ≤ start' ∧ res'.flatten.length ≤ start' ∧
      res'.flatten ++ x.drop start' = res.flatten ++ (match op with
        | none => (x.drop start).take (i - esc.toNat - start) ++ stripG esc none cs
        | some o => (x.drop start).take (o - start) ++ stripG esc (some ((x.drop o).take (i - esc.toNat - o))) cs) := by
  intro cs
  induction cs with
  | nil =>
    intro esc pp i start op res p c hd hi hesc hs ho hr hf
    have hil : x.length ≤ i := by
      have := congrArg List.length hd
      simp at this; omega
    have hle : i = x.length := by omega
    cases esc with
    | false =>
      refine ⟨start, _, res, p, c, rfl, by simp at hs; omega, hr, hf, ?_⟩
      congr 1
      have tk : ∀ a, (x.drop a).take (i - a) = x.drop a := fun a => List.take_of_length_le (by simp; omega)
      cases op with
      | none => simp [stripG, tk]
      | some o =>
        obtain ⟨h1, h2⟩ := ho o rfl
        simp only [Bool.toNat_false, Nat.sub_zero, stripG]
        have := sub_add_take (l := x) (a := start) (b := o) (c := i) h1 (by simp at h2; omega)
        rw [this, tk]
    | true =>
      obtain ⟨hi1, hd1⟩ := hesc rfl
      simp only [Bool.toNat_true] at hs ho ⊢
      refine ⟨start, op.elim .none fun o => .int o, res, some (.int pp), some (tx [92]), ?_, by omega, hr, hf, ?_⟩
      · show forF (putV2 4 5) body7 [escD (pp, bsl)] _ = _
        rw [bsl_sx]
        exact forF_one rfl (b7_other (c := [92]) (by decide))
      · congr 1
        have tk : ∀ a, a ≤ i - 1 → (x.drop a).take (i - 1 - a) ++ [92] = x.drop a := fun a ha => by
          have := take_succ_drop (l := x) (i := i - 1) (cs := []) (c := 92) (by rw [hd1]) ha
          rw [← this]
          exact List.take_of_length_le (by simp; omega)
        cases op with
        | none => simp [stripG, tk start hs]
        | some o =>
          obtain ⟨h1, h2⟩ := ho o rfl
          simp only [stripG, tk o (by omega)]
          have := sub_add_take (l := x) (a := start) (b := o) (c := x.length) h1 (by omega)
          rw [show (x.drop o).take (x.length - o) = x.drop o from List.take_of_length_le (by simp), show (x.drop start).take (x.length - start) = x.drop start from List.take_of_length_le (by simp)] at this
          exact this.symm
  | cons c0 cs ih =>
    intro esc pp i start op res p c hd hi hesc hs ho hr hf
    have hil : i < x.length := by
      have := congrArg List.length hd
      simp at this; omega
    have hd' : x.drop (i + 1) = cs := by rw [← List.drop_drop, hd]; rfl
    cases esc with
    | true =>
      obtain ⟨hi1, hd1⟩ := hesc rfl
      simp only [Bool.toNat_true] at hs ho
      obtain ⟨s', o', r', p', c', e1, e2, e3, e4, e5⟩ := ih false i (i + 1) start op res (some (.int i)) (some (tx [92, c0])) hd' (by omega) (fun q => by cases q) (by simp; omega) (fun o q => by obtain ⟨h1, h2⟩ := ho o q; exact ⟨h1, by simp; omega⟩) hr hf
      refine ⟨s', o', r', p', c', ?_, e2, e3, e4, ?_⟩
      · rw [← e1]
        show forF (putV2 4 5) body7 (escD ((i : Int), bsl ++ ⟨#[c0]⟩) :: (escL false i (i + 1) cs).map escD) _ = _
        rw [bsl_sx, show (⟨#[c0]⟩ : Str) = sx [c0] from rfl, sx_append]
        exact forF_one rfl (b7_other (c := [92, c0]) (fun q => nomatch q))
      · rw [e5]
        congr 1
        have tk : ∀ a, a ≤ i - 1 → (x.drop a).take (i + 1 - a) = (x.drop a).take (i - 1 - a) ++ [92, c0] := fun a ha => by
          have h1 := take_succ_drop (l := x) (i := i) (cs := cs) (c := c0) hd (a := a) (by omega)
          have h2 := take_succ_drop (l := x) (i := i - 1) (cs := c0 :: cs) (c := 92) hd1 (a := a) ha
          rw [show i - 1 + 1 - a = i - a from by omega] at h2
          rw [h1, h2]; simp
        cases op with
        | none => simp [stripG, tk start hs]
        | some o =>
          obtain ⟨h1, h2⟩ := ho o rfl
          simp [stripG, tk o (by omega)]
    | false =>
      simp only [Bool.toNat_false, Nat.sub_zero] at hs ho ⊢
      by_cases hb : c0 = 92
      · subst hb
        obtain ⟨s', o', r', p', c', e1, e2, e3, e4, e5⟩ := ih true i (i + 1) start op res p c hd' (by omega) (fun _ => ⟨by omega, by simpa using hd⟩) (by simp; omega) (fun o q => by obtain ⟨h1, h2⟩ := ho o q; exact ⟨h1, by simp; omega⟩) hr hf
        refine ⟨s', o', r', p', c', ?_, e2, e3, e4, ?_⟩
        · rw [← e1]
          simp [escL, bsl_sx, sx_beq, show (⟨#[92]⟩ : Str) = sx [92] from rfl]
        · rw [e5]
          cases op <;> simp [stripG]
      · have hbb : ((⟨#[c0]⟩ : Str) == bsl) = false := by rw [bsl_sx, show (⟨#[c0]⟩ : Str) = sx [c0] from rfl, sx_beq]; simp [hb]
        have hesc' : escL false pp i (c0 :: cs) = ((i : Int), ⟨#[c0]⟩) :: escL false i (i + 1) cs := by simp [escL, hbb]
        rw [hesc', show (⟨#[c0]⟩ : Str) = sx [c0] from rfl]
        rw [List.map_cons]
        by_cases hq : c0 = 34
        · subst hq
          cases op with
          | none =>
            obtain ⟨s', o', r', p', c', e1, e2, e3, e4, e5⟩ := ih false i (i + 1) start (some i) res (some (.int i)) (some (tx [34])) hd' (by omega) (fun q => by cases q) (by simp; omega) (fun o q => by obtain rfl := Option.some.inj q; exact ⟨hs, by simp⟩) hr hf
            refine ⟨s', o', r', p', c', ?_, e2, e3, e4, ?_⟩
            · rw [← e1]; exact forF_one rfl b7_open
            · rw [e5]
              have : (x.drop i).take 1 = [34] := by rw [hd]; rfl
              simp [stripG, hb, this]
          | some o =>
            obtain ⟨h1, h2⟩ := ho o rfl
            have hres : (if start = o then res else res ++ [(x.drop start).take (o - start)]).flatten = res.flatten ++ (x.drop start).take (o - start) := by
              by_cases z : start = o
              · subst z; simp
              · rw [if_neg z]; simp
            obtain ⟨s', o', r', p', c', e1, e2, e3, e4, e5⟩ := ih false i (i + 1) (i + 1) none (if start = o then res else res ++ [(x.drop start).take (o - start)]) (some (.int i)) (some (tx [34])) hd' (by omega) (fun q => by cases q) (by simp) (fun o q => by exact nomatch q)
              (by
                by_cases z : start = o
                · rw [if_pos z]; omega
                · rw [if_neg z, List.length_append, List.length_singleton]; omega) (by rw [hres, List.length_append, List.length_take]; have := Nat.min_le_left (o - start) (x.drop start).length; omega)
            refine ⟨s', o', r', p', c', ?_, e2, e3, e4, ?_⟩
            · rw [← e1]; exact forF_one rfl (b7_close (res := res) (p := i) hx (by omega) h1 (by omega))
            · rw [e5, hres]
              simp [stripG, hb]
        · obtain ⟨s', o', r', p', c', e1, e2, e3, e4, e5⟩ := ih false i (i + 1) start op res (some (.int i)) (some (tx [c0])) hd' (by omega) (fun q => by cases q) (by simp; omega) (fun o q => by obtain ⟨h1, h2⟩ := ho o q; exact ⟨h1, by simp; omega⟩) hr hf
          refine ⟨s', o', r', p', c', ?_, e2, e3, e4, ?_⟩
          · rw [← e1]; exact forF_one rfl (b7_other (c := [c0]) (fun q => hq (List.cons.inj q).1))
          · rw [e5]
            congr 1
            cases op with
            | none => simp [stripG, hb, hq, take_succ_drop hd hs]
            | some o =>
              obtain ⟨h1, h2⟩ := ho o rfl
              simp [stripG, hb, hq, take_succ_drop hd (Nat.le_of_lt h2)]
end Mine
end

section
open PySem PySem.W PyProof.Rows PySem.Calls
set_option maxRecDepth 100000
set_option linter.all false
namespace Mine

theorem strip_none : ∀ l : List Nat, 34 ∉ l → stripG false none l = l ∧ stripG true none l = 92 :: l
  | [], _ => ⟨rfl, rfl⟩
  | c :: cs, h => by
    have hc : c ≠ 34 := fun z => h (z ▸ .head _)
    obtain ⟨h1, h2⟩ := strip_none cs fun z => h (.tail _ z)
    refine ⟨?_, by simp [stripG, h1]⟩
    by_cases hb : c = 92
    · subst hb; simp [stripG, h2]
    · simp [stripG, hb, hc, h1]
theorem F_7_sx {x : List Nat} (hx : x.length ≤ 100000) : F_7 [tx x] = some (tx (stripC x)) := by
  show f_7 [some (tx x), none, none, none, none, none] = _
  by_cases hq : 34 ∈ x
  · have hin : Txt.contains (sx x) (sx [34]) = true := by rw [contains_sx]; simpa using hq
    obtain ⟨s', o', r', p', c', e1, e2, e3, e4, e5⟩ := strip_loop hx x false 0 0 0 none [] none none rfl (Nat.zero_le _) (fun q => by cases q) (by simp) (fun o q => by exact nomatch q) (by simp) (by simp)
    have e1' : forF (putV2 4 5) body7 ((escL false 0 0 x).map escD) [some (tx x), some (.int 0), some .none, some (.list []), none, none] = _ := e1
    have hin2 : cmpF .NotIn (cS (Str.ofString "\"")) (getV 0) [some (tx x), none, none, none, none, none] = some false := by
      refine (cmpF_eq (str_eq q_sx) rfl).trans ?_
      show some (!Txt.contains (sx x) (sx [34])) = _
      rw [hin]; rfl
    refine (seqR_next (fr1 := [some (tx x), none, none, none, none, none]) ((iteF_false hin2).trans rfl)).trans ?_
    refine (seqR_next (fr1 := [some (tx x), some (.int 0), none, none, none, none]) (setF_eq rfl (Nat.le_of_ble_eq_true rfl))).trans ?_
    refine (seqR_next (fr1 := [some (tx x), some (.int 0), some .none, none, none, none]) (setF_eq rfl (Nat.le_of_ble_eq_true rfl))).trans ?_
    refine (ownNew_eq (ds := []) rfl (Nat.le_of_ble_eq_true rfl) (Nat.zero_le _)).trans ?_
    refine (seqR_next (fr1 := st7 x s' o' r' p' c') e1').trans ?_
    have hr : r'.length ≤ 100000 := by omega
    have hl : x.length ≤ 10000000 := by omega
    have hj : (r' ++ [x.drop s']).flatten = stripC x := by
      have : r'.flatten ++ x.drop s' = stripC x := by simpa using e5
      simpa using this
    have hsl : (stripC x).length ≤ 1000000 := by
      rw [← hj]; simp only [List.flatten_append, List.length_append, List.flatten_cons, List.flatten_nil, List.append_nil, List.length_drop]; omega
    have hlen : cmpF .Lt (getV 1) (callF (consF (getV 0) nilF) lenV) (st7 x s' o' r' p' c') = some (decide ((s' : Int) < x.length)) := by
      have : lenV [tx x] = some (.int x.length) := by
        show (if (sx x).length ≤ 10000000 then some (PyData.int (sx x).length) else none) = _
        rw [sx_len, if_pos hl]
      exact (cmpF_eq rfl ((callF_eq (one_eq rfl)).trans this)).trans rfl
    by_cases hlt : s' < x.length
    · have h1 : ((s' : Int) < (x.length : Int)) := by omega
      have J := joinV_sx (r' ++ [x.drop s']) (by rw [hj]; exact hsl)
      rw [hj] at J
      have mp : (r' ++ [x.drop s']).map tx = r'.map tx ++ [tx (x.drop s')] := by simp
      rw [mp] at J
      have hs : sliceF (getV 0) (pSome (getV 1)) pNone (st7 x s' o' r' p' c') = some (tx (x.drop s')) := by
        refine (sliceF_eq (lo := some (s' : Int)) (hi := none) rfl rfl rfl).trans ?_
        show (if (sx x).length ≤ 100000 then some (PyData.str (Txt.slice (sx x) (some (s' : Int)) none)) else none) = _
        rw [if_pos (by rw [sx_len]; exact hx), slice_from_sx e2]
      refine (seqR_next ((iteF_true (hlen.trans (by rw [decide_eq_true h1]))).trans ((seqF_next (appF_eq (ds := r'.map tx) rfl hs (Nat.le_of_ble_eq_true rfl) (by rw [List.length_map]; exact hr))).trans rfl))).trans ?_
      exact lastF_ret ((congrArg (fun a => Option.bind a _) (str_eq e_sx)).trans J)
    · have h1 : ¬ ((s' : Int) < (x.length : Int)) := by omega
      have hd : x.drop s' = [] := List.drop_eq_nil_of_le (by omega)
      have J := joinV_sx r' (by rw [← hj] at hsl; simpa [hd] using hsl)
      have : r'.flatten = stripC x := by rw [← hj, hd]; simp
      rw [this] at J
      refine (seqR_next ((iteF_false (hlen.trans (by rw [decide_eq_false h1]))).trans rfl)).trans ?_
      exact lastF_ret ((congrArg (fun a => Option.bind a _) (str_eq e_sx)).trans J)
  · have hin : Txt.contains (sx x) (sx [34]) = false := by rw [contains_sx]; simpa using hq
    rw [stripC, (strip_none x hq).1]
    have hin2 : cmpF .NotIn (cS (Str.ofString "\"")) (getV 0) [some (tx x), none, none, none, none, none] = some true := by
      refine (cmpF_eq (str_eq q_sx) rfl).trans ?_
      show some (!Txt.contains (sx x) (sx [34])) = _
      rw [hin]; rfl
    show (iteF _ _ _ _).bind _ = _
    rw [iteF_true hin2]
    rfl

/-! _check_parenthesis -/
noncomputable def chkG : Bool → Nat → List Nat → Bool
  | _, o, [] => o == 0
  | true, o, _ :: cs => chkG false o cs
  | false, o, c :: cs => if c = 92 then chkG true o cs else if c = 40 then chkG false (o + 1) cs else if c = 41 then (match o with
    | 0 => false
    | o + 1 => chkG false o cs) else chkG false o cs
theorem l_sx : Str.ofString "(" = sx [40] := by decide +kernel
theorem r_sx : Str.ofString ")" = sx [41] := by decide +kernel
noncomputable def body8 : Fm → Option Out := (seqF (iteF (cmpF .Eq (getV 3) (cS (Str.ofString "("))) (seqF (augF .Add 1 (cI 1)) nextF) (seqF (iteF (cmpF .Eq (getV 3) (cS (Str.ofString ")"))) (seqF (augF .Sub 1 (cI 1)) (seqF (iteF (cmpF .Lt (getV 1) (cI 0)) (seqF (retF (cB false)) nextF) nextF) nextF)) nextF) nextF)) nextF)
noncomputable abbrev st8 (a : PyData) (o : Nat) (p c : Option PyData) : Fm := [some a, some (.int o), p, c]
theorem seqF_ret {f g : Fm → Option Out} {fr : Fm} {v : PyData} (h : f fr = some (.ret v)) : seqF f g fr = some (.ret v) := by show (f fr).bind _ = _; rw [h]; rfl
theorem b8_l {a : PyData} {o : Nat} {p : Option PyData} {c : List Nat} : cmpF .Eq (getV 3) (cS (Str.ofString "(")) (st8 a o p (some (tx c))) = some (decide (c = [40])) := by
  refine (cmpF_str rfl l_sx).trans ?_
  show some (sx c == sx [40]) = _
  rw [sx_beq]
theorem b8_r {a : PyData} {o : Nat} {p : Option PyData} {c : List Nat} : cmpF .Eq (getV 3) (cS (Str.ofString ")")) (st8 a o p (some (tx c))) = some (decide (c = [41])) := by
  refine (cmpF_str rfl r_sx).trans ?_
  show some (sx c == sx [41]) = _
  rw [sx_beq]
theorem b8_other {a : PyData} {o : Nat} {p : Int} {c : List Nat} (h1 : c ≠ [40]) (h2 : c ≠ [41]) : body8 (st8 a o (some (.int p)) (some (tx c))) = some (.next (st8 a o (some (.int p)) (some (tx c)))) :=
  (seqF_next ((iteF_false (b8_l.trans (by rw [decide_eq_false h1]))).trans ((seqF_next ((iteF_false (b8_r.trans (by rw [decide_eq_false h2]))).trans rfl)).trans rfl))).trans rfl
theorem b8_open {a : PyData} {o : Nat} {p : Int} : body8 (st8 a o (some (.int p)) (some (tx [40]))) = some (.next (st8 a (o + 1) (some (.int p)) (some (tx [40])))) :=
  (seqF_next ((iteF_true (b8_l.trans rfl)).trans ((seqF_next (show augF .Add 1 (cI 1) _ = some (.next (st8 a (o + 1) (some (.int p)) (some (tx [40])))) from rfl)).trans rfl))).trans rfl
theorem b8_dec {a : PyData} {o : Int} {p : Int} {z : Int} (h : o - 1 = z) : augF .Sub 1 (cI 1) [some a, some (.int o), some (.int p), some (tx [41])] = some (.next [some a, some (.int z), some (.int p), some (tx [41])]) := by
  rw [← h]; rfl
theorem b8_close {a : PyData} {o : Nat} {p : Int} : body8 (st8 a (o + 1) (some (.int p)) (some (tx [41]))) = some (.next (st8 a o (some (.int p)) (some (tx [41])))) := by
  have h3 : ((o + 1 : Nat) : Int) - 1 = o := by omega
  have h4 : ¬ ((o : Int) < 0) := by omega
  have hlt : cmpF .Lt (getV 1) (cI 0) (st8 a o (some (.int p)) (some (tx [41]))) = some false := (cmpF_eq (a := .int o) (b := .int 0) rfl rfl).trans (congrArg some (decide_eq_false h4))
  have hin : seqF (augF .Sub 1 (cI 1)) (seqF (iteF (cmpF .Lt (getV 1) (cI 0)) (seqF (retF (cB false)) nextF) nextF) nextF) (st8 a (o + 1) (some (.int p)) (some (tx [41]))) = some (.next (st8 a o (some (.int p)) (some (tx [41])))) :=
    (seqF_next (b8_dec h3)).trans ((seqF_next ((iteF_false hlt).trans rfl)).trans rfl)
  exact (seqF_next ((iteF_false (b8_l.trans rfl)).trans ((seqF_next ((iteF_true (b8_r.trans rfl)).trans hin)).trans rfl))).trans rfl
theorem b8_fail {a : PyData} {p : Int} : body8 (st8 a 0 (some (.int p)) (some (tx [41]))) = some (.ret (.bool false)) := by
  have hin : seqF (augF .Sub 1 (cI 1)) (seqF (iteF (cmpF .Lt (getV 1) (cI 0)) (seqF (retF (cB false)) nextF) nextF) nextF) (st8 a 0 (some (.int p)) (some (tx [41]))) = some (.ret (.bool false)) := rfl
  have h2 : iteF (cmpF .Eq (getV 3) (cS (Str.ofString ")"))) (seqF (augF .Sub 1 (cI 1)) (seqF (iteF (cmpF .Lt (getV 1) (cI 0)) (seqF (retF (cB false)) nextF) nextF) nextF)) nextF (st8 a 0 (some (.int p)) (some (tx [41]))) = some (.ret (.bool false)) := (iteF_true (b8_r.trans rfl)).trans hin
  exact seqF_ret ((iteF_false (b8_l.trans rfl)).trans (seqF_ret h2))
theorem chk_loop {a : PyData} : ∀ (cs : List Nat) (esc : Bool) (pp : Int) (i o : Nat) (p c : Option PyData),
    (chkG esc o cs = false ∧ forF (putV2 2 3) body8 ((escL esc pp i cs).map escD) (st8 a o p c) = some (.ret (.bool false))) ∨
    ∃ o' p' c', forF (putV2 2 3) body8 ((escL esc pp i cs).map escD) (st8 a o p c) = some (.next (st8 a o' p' c')) ∧ chkG esc o cs = (o' == 0) := by
  intro cs
  induction cs with
  | nil =>
    intro esc pp i o p c
    right
    cases esc with
    | false => exact ⟨o, p, c, rfl, by simp [chkG]⟩
    | true =>
      refine ⟨o, some (.int pp), some (tx [92]), ?_, by simp [chkG]⟩
      show forF (putV2 2 3) body8 [escD (pp, bsl)] _ = _
      rw [bsl_sx]
      exact forF_one rfl (b8_other (c := [92]) (by decide) (by decide))
  | cons c0 cs ih =>
    intro esc pp i o p c
    cases esc with
    | true =>
      have hg : forF (putV2 2 3) body8 ((escL true pp i (c0 :: cs)).map escD) (st8 a o p c) = forF (putV2 2 3) body8 ((escL false i (i + 1) cs).map escD) (st8 a o (some (.int i)) (some (tx [92, c0]))) := by
        show forF (putV2 2 3) body8 (escD ((i : Int), bsl ++ ⟨#[c0]⟩) :: (escL false i (i + 1) cs).map escD) _ = _
        rw [bsl_sx, show (⟨#[c0]⟩ : Str) = sx [c0] from rfl, sx_append]
        exact forF_one rfl (b8_other (c := [92, c0]) (fun q => nomatch q) (fun q => nomatch q))
      rw [hg]
      exact ih false i (i + 1) o _ _
    | false =>
      by_cases hb : c0 = 92
      · subst hb
        have hg : escL false pp i (92 :: cs) = escL true i (i + 1) cs := by simp [escL, bsl_sx, sx_beq, show (⟨#[92]⟩ : Str) = sx [92] from rfl]
        rw [hg]
        have hc : chkG false o (92 :: cs) = chkG true o cs := by simp [chkG]
        rw [hc]
        exact ih true i (i + 1) o _ _
      · have hbb : ((⟨#[c0]⟩ : Str) == bsl) = false := by rw [bsl_sx, show (⟨#[c0]⟩ : Str) = sx [c0] from rfl, sx_beq]; simp [hb]
        have hesc' : escL false pp i (c0 :: cs) = ((i : Int), ⟨#[c0]⟩) :: escL false i (i + 1) cs := by simp [escL, hbb]
        rw [hesc', show (⟨#[c0]⟩ : Str) = sx [c0] from rfl]
        rw [List.map_cons]
        by_cases h1 : c0 = 40
        · subst h1
          have := ih false i (i + 1) (o + 1) (some (.int i)) (some (tx [40]))
          have hc : chkG false o (40 :: cs) = chkG false (o + 1) cs := by simp [chkG]
          rw [hc]
          rw [forF_one (f := body8) rfl b8_open]; exact this
        · by_cases h2 : c0 = 41
          · subst h2
            cases o with
            | zero =>
              left
              refine ⟨by simp [chkG], ?_⟩
              show (body8 (st8 a 0 (some (.int i)) (some (tx [41])))).bind _ = _
              rw [b8_fail]; rfl
            | succ o =>
              have := ih false i (i + 1) o (some (.int i)) (some (tx [41]))
              have hc : chkG false (o + 1) (41 :: cs) = chkG false o cs := by simp [chkG]
              rw [hc]
              rw [forF_one (f := body8) rfl b8_close]; exact this
          · have := ih false i (i + 1) o (some (.int i)) (some (tx [c0]))
            have hc : chkG false o (c0 :: cs) = chkG false o cs := by simp [chkG, hb, h1, h2]
            rw [hc]
            rw [forF_one (f := body8) rfl (b8_other (c := [c0]) (fun q => h1 (List.cons.inj q).1) (fun q => h2 (List.cons.inj q).1))]; exact this
theorem F_8_sx {x : List Nat} (hx : x.length ≤ 100000) : F_8 [tx x] = some (.bool (chkG false 0 (stripC x))) := by
  show f_8 [some (tx x), none, none, none] = _
  have h0 : setF 0 (callF (consF (getV 0) nilF) F_7) [some (tx x), none, none, none] = some (.next [some (tx (stripC x)), none, none, none]) := by
    simp [setF, callF, consF, getV, nilF, F_7_sx hx]
  show (setF 0 (callF (consF (getV 0) nilF) F_7) [some (tx x), none, none, none]).bind _ = _
  rw [h0]
  show (seqR (forE (esF (getV 0)) (putV2 2 3) body8) (lastF (retF (cmpE .Eq (getV 1) (cI 0))))) (st8 (tx (stripC x)) 0 none none) = _
  unfold seqR
  have hf : forE (esF (getV 0)) (putV2 2 3) body8 (st8 (tx (stripC x)) 0 none none) = forF (putV2 2 3) body8 ((escL false 0 0 (stripC x)).map escD) (st8 (tx (stripC x)) 0 none none) := by
    simp [forE, esF, getV, escV]
  rw [hf]
  rcases chk_loop (a := tx (stripC x)) (stripC x) false 0 0 0 none none with ⟨h1, h2⟩ | ⟨o', p', c', h1, h2⟩
  · rw [h2, h1]; rfl
  · rw [h1, h2]
    show lastF (retF (cmpE .Eq (getV 1) (cI 0))) (st8 (tx (stripC x)) o' p' c') = _
    refine lastF_ret ?_
    show (cmpF .Eq (getV 1) (cI 0) (st8 (tx (stripC x)) o' p' c')).map PyData.bool = _
    rw [cmpF_eq (a := .int o') (b := .int 0) rfl rfl]
    show some (PyData.bool ((o' : Int) == 0)) = some (PyData.bool (o' == 0))
    cases o' <;> rfl

/-! units: none is the closing one, some k the head of k -/
noncomputable def pieces : List (List Nat) := [[], [92, 40], [34, 41, 34], [92, 92], [34, 40, 34], [92, 34]]
noncomputable def HdOk (h : List Nat) : Prop := h = [40] ∨ ∃ a p, 97 ≤ a ∧ a ≤ 103 ∧ p ∈ pieces ∧ h = a :: (p ++ [40])
noncomputable def uL (hd : Nat → List Nat) : Option Nat → List Nat
  | none => [41]
  | some k => hd k
noncomputable def textL (hd : Nat → List Nat) (us : List (Option Nat)) : List Nat := (us.map (uL hd)).flatten
noncomputable def balN : Nat → List (Option Nat) → Bool
  | o, [] => Nat.beq o 0
  | 0, none :: _ => false
  | o + 1, none :: r => balN o r
  | o, some _ :: r => balN (o + 1) r
theorem head_step {h : List Nat} (H : HdOk h) (o : Nat) (rest : List Nat) : chkG false o (stripG false none (h ++ rest)) = chkG false (o + 1) (stripG false none rest) := by
  rcases H with rfl | ⟨a, p, h1, h2, hp, rfl⟩
  · simp [stripG, chkG]
  · have a1 : a ≠ 92 := by omega
    have a2 : a ≠ 34 := by omega
    have a3 : a ≠ 40 := by omega
    have a4 : a ≠ 41 := by omega
    unfold pieces at hp
    simp only [List.mem_cons, List.not_mem_nil, or_false] at hp
    rcases hp with rfl | rfl | rfl | rfl | rfl | rfl <;> simp [stripG, chkG, a1, a2, a3, a4]
theorem chk_units {hd : Nat → List Nat} (H : ∀ k, HdOk (hd k)) : ∀ (us : List (Option Nat)) (o : Nat), chkG false o (stripG false none (textL hd us)) = balN o us
  | [], o => by simp [textL, stripG, chkG, balN]; cases o <;> rfl
  | some k :: r, o => by
    show chkG false o (stripG false none (hd k ++ textL hd r)) = _
    rw [head_step (H k), chk_units H r]
    cases o <;> rfl
  | none :: r, o => by
    show chkG false o (stripG false none (41 :: textL hd r)) = _
    have : stripG false none (41 :: textL hd r) = 41 :: stripG false none (textL hd r) := by simp [stripG]
    rw [this]
    cases o with
    | zero => simp [chkG, balN]
    | succ o =>
      have := chk_units H r o
      simp [chkG, balN, this]
theorem hd_len {h : List Nat} (H : HdOk h) : h.length ≤ 5 := by
  rcases H with rfl | ⟨a, p, h1, h2, hp, rfl⟩
  · simp
  · unfold pieces at hp
    simp only [List.mem_cons, List.not_mem_nil, or_false] at hp
    rcases hp with rfl | rfl | rfl | rfl | rfl | rfl <;> simp
theorem text_len {hd : Nat → List Nat} (H : ∀ k, HdOk (hd k)) : ∀ us : List (Option Nat), (textL hd us).length ≤ 5 * us.length
  | [] => by simp [textL]
  | u :: r => by
    have := text_len H r
    have h1 : (uL hd u).length ≤ 5 := by cases u with
      | none => simp [uL]
      | some k => exact hd_len (H k)
    simp only [textL, List.map_cons, List.flatten_cons, List.length_append, List.length_cons] at this ⊢
    omega
noncomputable abbrev uD (hd : Nat → List Nat) (u : Option Nat) : PyData := tx (uL hd u)
theorem F_8_units {hd : Nat → List Nat} (H : ∀ k, HdOk (hd k)) {us : List (Option Nat)} (hl : us.length ≤ 1000) : F_8 [tx (textL hd us)] = some (.bool (balN 0 us)) := by
  rw [F_8_sx (by have := text_len H us; omega), chk_units H]
end Mine
end

section
open PySem PySem.W PyProof.Rows PySem.Calls
set_option maxRecDepth 100000
set_option linter.all false
namespace Mine

theorem rangeV_one (n : Int) : rangeV [.int n] = if -1000000 < n ∧ n < 1000000 then some (rng 0 1 n.toNat) else none := rfl
theorem rangeV_three (a b c : Int) : rangeV [.int a, .int b, .int c] = if c = 2 ∧ 0 ≤ a ∧ a < 1000 ∧ 0 ≤ b ∧ b < 1000000 then some (rng a 2 (if a < b then ((b - a - 1) / 2 + 1).toNat else 0)) else none := rfl
theorem binV_add (a b : Int) : binV .Add (.int a) (.int b) = some (.int (a + b)) := rfl
theorem binV_sub (a b : Int) : binV .Sub (.int a) (.int b) = some (.int (a - b)) := rfl
theorem lenV_list {l : List PyData} (h : l.length ≤ 10000000) : lenV [.list l] = some (.int l.length) := if_pos h
theorem forE_eq {fi : Fm → Option (List PyData)} {g f fr items} (h : fi fr = some items) : forE fi g f fr = forF g f items fr := by show (fi fr).bind _ = _; rw [h]; rfl
theorem rngF_eq {f : Fm → Option (List PyData)} {fr l items} (h : f fr = some l) (h2 : rangeV l = some items) : rngF f fr = some items := by show (f fr).bind rangeV = _; rw [h]; exact h2
/-! slices of lists -/
theorem clipAt_nat (n a : Nat) : clipAt n (a : Int) = min a n := by unfold clipAt; rw [if_neg (by omega)]; omega
theorem pick_nat {α : Type} {l : List α} {a b : Nat} (h1 : a ≤ b) (h2 : b ≤ l.length) : pick l (some (a : Int)) (some (b : Int)) = (l.drop a).take (b - a) := by
  simp only [pick, Option.elim, clipAt_nat, Nat.min_eq_left h2, Nat.min_eq_left (Nat.le_trans h1 h2)]
theorem pick_from {α : Type} {l : List α} {a : Nat} : pick l (some (a : Int)) none = l.drop a := by
  simp only [pick, Option.elim, clipAt_nat]
  by_cases h : a ≤ l.length
  · rw [Nat.min_eq_left h]; exact List.take_of_length_le (by simp)
  · rw [Nat.min_eq_right (by omega)]; simp; omega
theorem pick_to {α : Type} {l : List α} {a : Nat} : pick l none (some (a : Int)) = l.take a := by
  simp only [pick, Option.elim, clipAt_nat, List.drop_zero, Nat.sub_zero]
  by_cases h : a ≤ l.length
  · rw [Nat.min_eq_left h]
  · rw [Nat.min_eq_right (by omega), List.take_of_length_le (by omega), List.take_of_length_le (by omega)]
noncomputable def inner {α : Type} (l : List α) : List α := (l.drop 1).take (l.length - 2)
theorem pick_inner {α : Type} {l : List α} : pick l (some 1) (some (-1)) = inner l := by
  have h1 : clipAt l.length 1 = min 1 l.length := clipAt_nat _ 1
  have h2 : clipAt l.length (-1) = l.length - 1 := by unfold clipAt; rw [if_pos (by omega)]; omega
  simp only [pick, Option.elim, h1, h2, inner]
  cases l with
  | nil => rfl
  | cons a r =>
    have : min 1 (a :: r).length = 1 := by simp
    rw [this]; congr 1

/-! _law_parted -/
noncomputable def partG (us : List (Option Nat)) : Nat → Nat → Nat → List (List (Option Nat))
  | 0, _, _ => []
  | n + 1, start, e => if balN 0 ((us.drop start).take (e - start)) then (us.drop start).take (e - start) :: partG us n e (e + 2) else partG us n start (e + 2)
noncomputable def parted (us : List (Option Nat)) : List (List (Option Nat)) := partG us (us.length / 2) 0 2
noncomputable abbrev usD (hd : Nat → List Nat) (us : List (Option Nat)) : PyData := .list (us.map (uD hd))
noncomputable def body17 : Fm → Option Out := (seqF (iteF (cmpF .Is (callF (consF (methF "str" (cS (Str.ofString "")) (consF (sliceF (getV 0) (pSome (getV 2)) (pSome (getV 3))) nilF) joinV) nilF) F_8) (cB true)) (seqF (appF 1 (sliceF (getV 0) (pSome (getV 2)) (pSome (getV 3)))) (seqF (setF 2 (getV 3)) nextF)) nextF) nextF)
theorem joinV_units {hd : Nat → List Nat} (H : ∀ k, HdOk (hd k)) {us : List (Option Nat)} (hl : us.length ≤ 1000) : joinV (tx []) [usD hd us] = some (tx (textL hd us)) := by
  have := joinV_sx (us.map (uL hd)) (by have := text_len H us; unfold textL at this; omega)
  rw [List.map_map] at this
  exact this
theorem b17 {hd : Nat → List Nat} (H : ∀ k, HdOk (hd k)) {us : List (Option Nat)} (hl : us.length ≤ 1000) {start e : Nat} (h1 : start ≤ e) (h2 : e ≤ us.length) {trees : List PyData} (ht0 : trees.length ≤ 1000) :
    body17 [some (usD hd us), some (.list trees), some (.int start), some (.int e)] = some (.next (if balN 0 ((us.drop start).take (e - start)) = true then [some (usD hd us), some (.list (trees ++ [usD hd ((us.drop start).take (e - start))])), some (.int e), some (.int e)] else [some (usD hd us), some (.list trees), some (.int start), some (.int e)])) := by
  have hp : sliceV (usD hd us) (some (start : Int)) (some (e : Int)) = some (usD hd ((us.drop start).take (e - start))) := by
    show (if (us.map (uD hd)).length ≤ 100000 then some (PyData.list (pick (us.map (uD hd)) (some (start : Int)) (some (e : Int)))) else none) = _
    rw [if_pos (by simp; omega), pick_nat h1 (by simpa using h2)]
    simp
  have hz : ((us.drop start).take (e - start)).length ≤ 1000 := by simp; omega
  have hj := joinV_units H hz
  have h8 := F_8_units H hz
  have ht : cmpF .Is (callF (consF (methF "str" (cS (Str.ofString "")) (consF (sliceF (getV 0) (pSome (getV 2)) (pSome (getV 3))) nilF) joinV) nilF) F_8) (cB true) [some (usD hd us), some (.list trees), some (.int start), some (.int e)] = some (balN 0 ((us.drop start).take (e - start)) == true) :=
    (cmpF_eq ((callF_eq (one_eq ((methF_eq (str_eq e_sx) (one_eq ((sliceF_eq rfl rfl rfl).trans hp)) rfl).trans hj))).trans h8) rfl).trans rfl
  cases hb : balN 0 ((us.drop start).take (e - start)) with
  | true =>
    rw [hb] at ht
    exact (seqF_next ((iteF_true ht).trans ((seqF_next (appF_eq (ds := trees) rfl ((sliceF_eq rfl rfl rfl).trans hp) (Nat.le_of_ble_eq_true rfl) (Nat.le_trans ht0 (by decide)))).trans ((seqF_next (setF_eq rfl (Nat.le_of_ble_eq_true rfl))).trans rfl)))).trans rfl
  | false =>
    rw [hb] at ht
    exact (seqF_next ((iteF_false ht).trans rfl)).trans rfl
theorem part_loop {hd : Nat → List Nat} (H : ∀ k, HdOk (hd k)) {us : List (Option Nat)} (hl : us.length ≤ 1000) : ∀ (n start e : Nat) (trees : List PyData) (c : Option PyData), start ≤ e → e + 2 * n ≤ us.length + 2 → trees.length + n ≤ 1000 →
    ∃ s' c', forF (putV 3) body17 (rng e 2 n) [some (usD hd us), some (.list trees), some (.int start), c] = some (.next [some (usD hd us), some (.list (trees ++ (partG us n start e).map (usD hd))), some (.int s'), c']) := by
  intro n
  induction n with
  | zero => intro start e trees c _ _ _; exact ⟨start, c, by simp [rng, forF, partG]⟩
  | succ n ih =>
    intro start e trees c h1 h2 h3
    have hb := b17 H hl h1 (by omega) (trees := trees) (by omega)
    have hr : rng (e : Int) 2 (n + 1) = .int e :: rng ((e + 2 : Nat) : Int) 2 n := by simp [rng]
    rw [hr]
    simp only [forF, putV, List.length_cons, List.length_nil]
    show ∃ s' c', ((body17 [some (usD hd us), some (.list trees), some (.int start), some (.int e)]).bind fun o => match o with | .next fr2 => forF (putV 3) body17 (rng ((e + 2 : Nat) : Int) 2 n) fr2 | .ret v => some (.ret v)) = _
    rw [hb]
    cases hq : balN 0 ((us.drop start).take (e - start)) with
    | true =>
      obtain ⟨s', c', e1⟩ := ih e (e + 2) (trees ++ [usD hd ((us.drop start).take (e - start))]) (some (.int e)) (by omega) (by omega) (by simp; omega)
      refine ⟨s', c', ?_⟩
      simp only [if_true, Option.bind_some]
      rw [e1, partG, hq]
      simp
    | false =>
      obtain ⟨s', c', e1⟩ := ih start (e + 2) trees (some (.int e)) (by omega) (by omega) (by omega)
      refine ⟨s', c', ?_⟩
      simp only [Bool.false_eq_true, if_false, Option.bind_some]
      rw [e1, partG, hq]
      simp
theorem F_17_units {hd : Nat → List Nat} (H : ∀ k, HdOk (hd k)) {us : List (Option Nat)} (hl : us.length ≤ 500) : F_17 [usD hd us] = some (.list ((parted us).map (usD hd))) := by
  show f_17 [some (usD hd us), none, none, none] = _
  obtain ⟨s', c', e1⟩ := part_loop H (us := us) (by omega) (us.length / 2) 0 2 [] none (by omega) (by omega) (by simp; omega)
  have hr : rangeV [.int 2, .int ((us.length : Int) + 1), .int 2] = some (rng 2 2 (us.length / 2)) := by
    have hz2 : (0 : Int) ≤ (us.length : Int) + 1 ∧ (us.length : Int) + 1 < 1000000 := by omega
    have hq : (if (2 : Int) < (us.length : Int) + 1 then (((us.length : Int) + 1 - 2 - 1) / 2 + 1).toNat else 0) = us.length / 2 := by split <;> omega
    rw [rangeV_three, if_pos ⟨rfl, by decide, by decide, hz2.1, hz2.2⟩, hq]
  have step : f_17 [some (usD hd us), none, none, none] = (seqR (forE (rngF (consF (cI 2) (consF (binF .Add (callF (consF (getV 0) nilF) lenV) (cI 1)) (consF (cI 2) nilF)))) (putV 3) body17) (lastF (retF (getV 1)))) [some (usD hd us), some (.list []), some (.int 0), none] := by
    simp [f_17, ownNew2, cI, body17]
  rw [step]
  have hle : lenV [usD hd us] = some (.int us.length) := by rw [lenV_list (by simp; omega)]; simp
  have hrr : rngF (consF (cI 2) (consF (binF .Add (callF (consF (getV 0) nilF) lenV) (cI 1)) (consF (cI 2) nilF))) [some (usD hd us), some (.list []), some (.int 0), none] = some (rng 2 2 (us.length / 2)) := by
    refine rngF_eq ?_ hr
    simp only [consF, cI, binF, callF, getV, nilF, List.getElem?_cons_zero, Option.join, Option.bind_some, id, hle, binV_add]
  have hf := forE_eq (g := putV 3) (f := body17) hrr
  unfold seqR
  rw [hf]
  have e1' : forF (putV 3) body17 (rng 2 2 (us.length / 2)) [some (usD hd us), some (.list []), some (.int 0), none] = _ := e1
  rw [e1']
  simp [lastF, retF, outV, getV, parted]

/-! _law_depths -/
noncomputable def depths : Nat → List (Option Nat) → Nat → List Nat
  | 0, _, _ => []
  | n + 1, us, d => ((parted us).map fun t => d :: depths n (inner t) (d + 1)).flatten
/-- it goes deep enough -/
noncomputable def depOk : Nat → List (Option Nat) → Bool
  | 0, _ => false
  | n + 1, us => Nat.ble us.length 100 && (parted us).all fun t => depOk n (inner t)
noncomputable abbrev natsD (l : List Nat) : PyData := .list (l.map fun (n : Nat) => .int n)
noncomputable def body18 (FR : List PyData → Option PyData) : Fm → Option Out := (seqF (extF 2 (binF .Add (listF (consF (getV 1) nilF)) (callF (consF (sliceF (getV 3) (pSome (cI 1)) (pSome (negF (cI 1)))) (consF (binF .Add (getV 1) (cI 1)) nilF)) FR))) nextF)
theorem partG_len (us : List (Option Nat)) : ∀ n s e, (partG us n s e).length ≤ n
  | 0, _, _ => Nat.le_refl _
  | n + 1, s, e => by
    unfold partG
    split
    · have := partG_len us n e (e + 2); simp; omega
    · have := partG_len us n s (e + 2); omega
theorem parted_le (us : List (Option Nat)) : (parted us).length ≤ us.length / 2 := partG_len us _ _ _
theorem partG_mem (us : List (Option Nat)) : ∀ n s e, ∀ t ∈ partG us n s e, t.length ≤ us.length
  | 0, _, _, t, h => by cases h
  | n + 1, s, e, t, h => by
    unfold partG at h
    split at h
    · cases h with
      | head => simp; omega
      | tail _ h => exact partG_mem us n e (e + 2) t h
    · exact partG_mem us n s (e + 2) t h
/-- how many: at most as many as there are units, halved -/
theorem partG_sum (us : List (Option Nat)) : ∀ n s e, s ≤ e → ((partG us n s e).map List.length).sum ≤ us.length - s
  | 0, _, _, _ => by simp [partG]
  | n + 1, s, e, h => by
    unfold partG
    split
    · have := partG_sum us n e (e + 2) (by omega)
      simp only [List.map_cons, List.sum_cons, List.length_take, List.length_drop]
      omega
    · exact partG_sum us n s (e + 2) (by omega)
theorem depths_len : ∀ n us d, depOk n us = true → (depths n us d).length ≤ us.length
  | 0, _, _, h => by cases h
  | n + 1, us, d, h => by
    unfold depOk at h
    rw [Bool.and_eq_true, List.all_eq_true] at h
    have key : ∀ l : List (List (Option Nat)), (∀ t ∈ l, depOk n (inner t) = true) → (∀ t ∈ l, 1 ≤ t.length) → ((l.map fun t => d :: depths n (inner t) (d + 1)).flatten).length ≤ (l.map List.length).sum := by
      intro l
      induction l with
      | nil => intro _ _; simp
      | cons t r ih =>
        intro h1 h2
        have := ih (fun t q => h1 t (.tail _ q)) (fun t q => h2 t (.tail _ q))
        have h3 := depths_len n (inner t) (d + 1) (h1 t (.head _))
        have h4 : (inner t).length ≤ t.length - 1 := by simp [inner]; omega
        have h5 := h2 t (.head _)
        simp only [List.map_cons, List.flatten_cons, List.length_append, List.length_cons, List.sum_cons]
        omega
    refine Nat.le_trans (key (parted us) h.2 fun t ht => ?_) (partG_sum us _ 0 2 (by omega))
    -- a part is not empty
    have ne : ∀ n s e, s + 1 ≤ e → ∀ t ∈ partG us n s e, e + 2 * n ≤ us.length + 2 → 1 ≤ t.length := by
      intro n
      induction n with
      | zero => intro s e _ t h; cases h
      | succ n ih =>
        intro s e hse t h hn
        unfold partG at h
        split at h
        · cases h with
          | head => simp; omega
          | tail _ h => exact ih e (e + 2) (by omega) t h (by omega)
        · exact ih s (e + 2) (by omega) t h (by omega)
    exact ne _ 0 2 (by omega) t ht (by omega)
theorem dep_loop {hd : Nat → List Nat} {n : Nat} {d : Nat} (ih : ∀ (us : List (Option Nat)) (d : Nat), depOk n us = true → depF n [usD hd us, .int d] = some (natsD (depths n us d))) (us0 : PyData) :
    ∀ (ts : List (List (Option Nat))) (acc : List Nat) (c : Option PyData), (∀ t ∈ ts, depOk n (inner t) = true ∧ t.length ≤ 1000) → acc.length + ((ts.map fun t => d :: depths n (inner t) (d + 1)).flatten).length ≤ 1000 →
      ∃ c', forF (putV 3) (body18 (depF n)) (ts.map (usD hd)) [some us0, some (.int d), some (natsD acc), c] = some (.next [some us0, some (.int d), some (natsD (acc ++ (ts.map fun t => d :: depths n (inner t) (d + 1)).flatten)), c'])
  | [], acc, c, _, _ => ⟨c, by simp [forF]⟩
  | t :: ts, acc, c, h, hz => by
    obtain ⟨h1, h2⟩ := h t (.head _)
    have hz' : acc.length + (1 + (depths n (inner t) (d + 1)).length) + ((ts.map fun t => d :: depths n (inner t) (d + 1)).flatten).length ≤ 1000 := by
      simp only [List.map_cons, List.flatten_cons, List.length_append, List.length_cons] at hz; omega
    obtain ⟨c', e1⟩ := dep_loop (d := d) ih us0 ts (acc ++ d :: depths n (inner t) (d + 1)) (some (usD hd t)) (fun t q => h t (.tail _ q)) (by simp only [List.length_append, List.length_cons]; omega)
    refine ⟨c', ?_⟩
    have hp : sliceV (usD hd t) (some 1) (some (-1)) = some (usD hd (inner t)) := by
      show (if (t.map (uD hd)).length ≤ 100000 then some (PyData.list (pick (t.map (uD hd)) (some 1) (some (-1)))) else none) = _
      rw [if_pos (by simp; omega), pick_inner]
      simp [inner]
    have hc : ((d : Int) + 1) = ((d + 1 : Nat) : Int) := by omega
    have hr := ih (inner t) (d + 1) h1
    rw [← hc] at hr
    simp only [List.map_cons, forF, putV, List.length_cons, List.length_nil]
    have hb : body18 (depF n) [some us0, some (.int d), some (natsD acc), some (usD hd t)] = some (.next [some us0, some (.int d), some (natsD (acc ++ d :: depths n (inner t) (d + 1))), some (usD hd t)]) := by
      have hv : binF .Add (listF (consF (getV 1) nilF)) (callF (consF (sliceF (getV 3) (pSome (cI 1)) (pSome (negF (cI 1)))) (consF (binF .Add (getV 1) (cI 1)) nilF)) (depF n)) [some us0, some (.int d), some (natsD acc), some (usD hd t)] = some (natsD (d :: depths n (inner t) (d + 1))) := by
        refine (binF_eq (a := .list [.int d]) rfl ((callF_eq (consF_eq ((sliceF_eq rfl rfl rfl).trans hp) (one_eq ((binF_eq rfl rfl).trans rfl)))).trans hr)).trans ?_
        show (if [PyData.int d].length + ((depths n (inner t) (d + 1)).map fun (n : Nat) => PyData.int n).length ≤ 100000 then some (PyData.list ([PyData.int d] ++ (depths n (inner t) (d + 1)).map fun (n : Nat) => PyData.int n)) else none) = _
        rw [if_pos (by simp; omega)]
        rfl
      refine (seqF_next (extF_eq (ds := acc.map fun (n : Nat) => .int n) rfl hv (Nat.le_of_ble_eq_true rfl) (by simp; omega))).trans ?_
      show some (Out.next _) = _
      simp
    show ((body18 (depF n) [some us0, some (.int d), some (natsD acc), some (usD hd t)]).bind fun o => match o with | .next fr2 => forF (putV 3) (body18 (depF n)) (ts.map (usD hd)) fr2 | .ret v => some (.ret v)) = _
    rw [hb]
    show forF (putV 3) (body18 (depF n)) (ts.map (usD hd)) _ = _
    rw [e1]
    simp
theorem depF_units {hd : Nat → List Nat} (H : ∀ k, HdOk (hd k)) : ∀ (n : Nat) (us : List (Option Nat)) (d : Nat), depOk n us = true → depF n [usD hd us, .int d] = some (natsD (depths n us d))
  | 0, _, _, h => by cases h
  | n + 1, us, d, h => by
    have hlen := depths_len (n + 1) us d h
    have h0 := h
    unfold depOk at h
    rw [Bool.and_eq_true, List.all_eq_true] at h
    have hu : us.length ≤ 100 := Nat.le_of_ble_eq_true h.1
    show f_18 (depF n) [some (usD hd us), some (.int d), none, none] = _
    obtain ⟨c', e1⟩ := dep_loop (d := d) (depF_units H n) (usD hd us) (parted us) [] none (fun t q => ⟨h.2 t q, by have := partG_mem us _ _ _ t q; omega⟩) (by unfold depths at hlen; simp only [List.length_nil]; omega)
    have step : f_18 (depF n) [some (usD hd us), some (.int d), none, none] = (seqR (forE (asList (callF (consF (getV 0) nilF) F_17)) (putV 3) (body18 (depF n))) (lastF (retF (getV 2)))) [some (usD hd us), some (.int d), some (.list []), none] := by
      simp [f_18, ownNew, nilF, body18]
    rw [step]
    have hf : forE (asList (callF (consF (getV 0) nilF) F_17)) (putV 3) (body18 (depF n)) [some (usD hd us), some (.int d), some (.list []), none] = forF (putV 3) (body18 (depF n)) ((parted us).map (usD hd)) [some (usD hd us), some (.int d), some (.list []), none] := by
      simp [forE, asList, callF, consF, getV, nilF, F_17_units H (us := us) (by omega)]
    unfold seqR
    rw [hf]
    have e1' : forF (putV 3) (body18 (depF n)) ((parted us).map (usD hd)) [some (usD hd us), some (.int d), some (.list []), none] = _ := e1
    rw [e1']
    simp [lastF, retF, outV, getV, depths]
end Mine
end

section
open PySem PySem.W PyProof.Rows PySem.Calls
set_option maxRecDepth 100000
set_option linter.all false
namespace Mine
open PySem.StrLaws PySem.Builtin.Str

/-! texts of lines, split at their ends -/
noncomputable abbrev crlf : List Nat := [13, 10]
noncomputable def inter : List (List Nat) → List Nat
  | [] => []
  | [a] => a
  | a :: b :: r => a ++ 13 :: 10 :: inter (b :: r)
noncomputable def cutsL : Nat → List (List Nat) → List Nat
  | _, [] => []
  | _, [_] => []
  | i, a :: b :: r => (i + a.length) :: cutsL (i + a.length + 2) (b :: r)
noncomputable def occR : Nat → Nat → List Nat → List Nat
  | _, _, [] => []
  | i, free, c :: r => if free ≤ i ∧ (c :: r).take 2 = [13, 10] then i :: occR (i + 1) (i + 2) r else occR (i + 1) free r
theorem occ_go {x : List Nat} {limit : Nat} : ∀ (l : List Nat) (i free : Nat) (found : Array Nat), x.drop i = l → i + l.length = x.length → found.size + l.length < limit →
    (forIn (List.range' i (l.length + 1)) (found, free) (occBody (sx x) (sx crlf) x.length limit)).run.fst.toList = found.toList ++ occR i free l
  | [], i, free, found, hd, hl, hz => by
    have h1 : ¬ (((found.size < limit ∧ free ≤ i) ∧ i + (sx crlf).length ≤ x.length) ∧ subAt (sx x) (sx crlf) i = true) := by
      rintro ⟨⟨_, h⟩, _⟩
      rw [sx_len] at h
      simp at h hl; omega
    show (forIn [i] (found, free) (occBody (sx x) (sx crlf) x.length limit)).run.fst.toList = _
    rw [List.forIn_cons]
    unfold occBody
    rw [if_neg h1]
    simp [occR]
  | c :: r, i, free, found, hd, hl, hz => by
    have hd' : x.drop (i + 1) = r := by rw [← List.drop_drop, hd]; rfl
    have hl' : i + 1 + r.length = x.length := by simp at hl; omega
    have hs : subAt (sx x) (sx crlf) i = decide ((c :: r).take 2 = [13, 10]) := by
      rw [subAt_eq]
      have : (sx x).cps.toList = x := by simp
      rw [this, hd]
      show ((c :: r).take 2 == [13, 10]) = _
      rw [Bool.eq_iff_iff, beq_iff_eq, decide_eq_true_eq]
    rw [show (c :: r).length + 1 = (r.length + 1) + 1 from rfl, List.range'_succ, List.forIn_cons]
    have hz' : found.size + (r.length + 1) < limit := by simpa using hz
    by_cases hm : free ≤ i ∧ (c :: r).take 2 = [13, 10]
    · have h2 : i + 2 ≤ x.length := by
        have := congrArg List.length hm.2
        simp at this
        simp at hl; omega
      have h1 : (((found, free).fst.size < limit ∧ (found, free).snd ≤ i) ∧ i + (sx crlf).length ≤ x.length) ∧ subAt (sx x) (sx crlf) i = true := ⟨⟨⟨by show found.size < limit; omega, hm.1⟩, by rw [sx_len]; exact h2⟩, by rw [hs]; simpa using hm.2⟩
      have hb : occBody (sx x) (sx crlf) x.length limit i (found, free) = pure (ForInStep.yield (found.push i, i + (sx crlf).length)) := by unfold occBody; rw [if_pos h1]
      rw [hb]
      show (forIn (List.range' (i + 1) (r.length + 1)) (found.push i, i + (sx crlf).length) (occBody (sx x) (sx crlf) x.length limit)).run.fst.toList = _
      rw [occ_go r (i + 1) _ (found.push i) hd' hl' (by rw [Array.size_push]; omega), occR, if_pos hm, sx_len]
      simp
    · have h1 : ¬ ((((found, free).fst.size < limit ∧ (found, free).snd ≤ i) ∧ i + (sx crlf).length ≤ x.length) ∧ subAt (sx x) (sx crlf) i = true) := fun q => hm ⟨q.1.1.2, by have := q.2; rw [hs] at this; simpa using this⟩
      have hb : occBody (sx x) (sx crlf) x.length limit i (found, free) = pure (ForInStep.yield (found, free)) := by unfold occBody; rw [if_neg h1]
      rw [hb]
      show (forIn (List.range' (i + 1) (r.length + 1)) (found, free) (occBody (sx x) (sx crlf) x.length limit)).run.fst.toList = _
      rw [occ_go r (i + 1) _ found hd' hl' (by omega), occR, if_neg hm]
theorem occR_skip : ∀ (a : List Nat) (i free : Nat) (s : List Nat), 13 ∉ a → occR i free (a ++ s) = occR (i + a.length) free s
  | [], i, free, s, _ => rfl
  | c :: a, i, free, s, h => by
    have hc : c ≠ 13 := fun z => h (z ▸ .head _)
    show occR i free (c :: (a ++ s)) = _
    have hn : ¬ (free ≤ i ∧ (c :: (a ++ s)).take 2 = [13, 10]) := fun q => by
      have := q.2
      simp at this
      exact hc this.1
    rw [occR, if_neg hn, occR_skip a (i + 1) free s fun z => h (.tail _ z)]
    congr 1
    simp; omega
theorem occR_rows : ∀ (rows : List (List Nat)) (i free : Nat), (∀ a ∈ rows, 13 ∉ a) → free ≤ i → occR i free (inter rows) = cutsL i rows
  | [], i, free, _, _ => rfl
  | [a], i, free, h, _ => by
    have := occR_skip a i free [] (h a (.head _))
    rw [List.append_nil] at this
    show occR i free a = []
    rw [this]; rfl
  | a :: b :: r, i, free, h, hf => by
    show occR i free (a ++ 13 :: 10 :: inter (b :: r)) = _
    rw [occR_skip a i free _ (h a (.head _))]
    have h1 : free ≤ i + a.length ∧ (13 :: 10 :: inter (b :: r)).take 2 = [13, 10] := ⟨by omega, rfl⟩
    rw [occR, if_pos h1]
    have h2 : ¬ (i + a.length + 2 ≤ i + a.length + 1 ∧ (10 :: inter (b :: r)).take 2 = [13, 10]) := fun q => by have := q.1; omega
    rw [occR, if_neg h2, occR_rows (b :: r) _ _ (fun t ht => h t (.tail _ ht)) (by omega)]
    rfl
theorem strSub_sx (x : List Nat) (i j : Nat) : strSub (sx x) i j = sx ((x.drop i).take (j - i)) := by
  unfold strSub
  simp [sx, List.extract_eq_drop_take]
theorem parts_rows (x : List Nat) : ∀ (rows : List (List Nat)) (i : Nat), rows ≠ [] → x.drop i = inter rows → i ≤ x.length → partsFrom (sx x) 2 i (cutsL i rows) = rows.map sx
  | [], _, h, _, _ => absurd rfl h
  | [a], i, _, hd, hi => by
    show [strSub (sx x) i (sx x).length] = [sx a]
    rw [strSub_sx, hd, sx_len]
    have : a.length = x.length - i := by have := congrArg List.length hd; simpa [inter] using this.symm
    show [sx (a.take (x.length - i))] = _
    rw [← this, List.take_length]
  | a :: b :: r, i, _, hd, hi => by
    show strSub (sx x) i (i + a.length) :: partsFrom (sx x) 2 (i + a.length + 2) (cutsL (i + a.length + 2) (b :: r)) = sx a :: (b :: r).map sx
    have hd' : x.drop i = a ++ 13 :: 10 :: inter (b :: r) := hd
    have hd2 : x.drop (i + a.length + 2) = inter (b :: r) := by
      rw [show i + a.length + 2 = i + (a.length + 2) from by omega, ← List.drop_drop, hd']
      rw [← List.drop_drop]
      simp
    have hlen : i + (a.length + 2 + (inter (b :: r)).length) = x.length := by
      have := congrArg List.length hd'
      simp at this; omega
    rw [parts_rows x (b :: r) (i + a.length + 2) (by simp) hd2 (by omega), strSub_sx, hd']
    congr 2
    rw [show i + a.length - i = a.length from by omega]
    simp
theorem inter_len : ∀ rows : List (List Nat), rows.length ≤ (inter rows).length + 1
  | [] => by simp [inter]
  | [a] => by simp [inter]
  | a :: b :: r => by
    have := inter_len (b :: r)
    show (a :: b :: r).length ≤ (a ++ 13 :: 10 :: inter (b :: r)).length + 1
    simp only [List.length_append, List.length_cons] at this ⊢
    omega
theorem crlf_sx : Str.ofString "\r\n" = sx crlf := by decide +kernel
theorem splitV_rows {rows : List (List Nat)} (h13 : ∀ a ∈ rows, 13 ∉ a) (h2 : 2 ≤ rows.length) (hz : (inter rows).length ≤ 90000) : splitV (tx (inter rows)) [tx crlf] = some (.list (rows.map tx)) := by
  obtain ⟨a, b, r, rfl⟩ : ∃ a b r, rows = a :: b :: r := by
    match rows, h2 with
    | a :: b :: r, _ => exact ⟨a, b, r, rfl⟩
  generalize hx : inter (a :: b :: r) = x at *
  have ho : occurrences (sx x) (sx crlf) 0 (sx x).length ((sx x).length + 1) = cutsL 0 (a :: b :: r) := by
    rw [occ_eq, sx_len]
    have := occ_go (x := x) (limit := x.length + 1) x 0 0 #[] rfl (by simp) (by simp)
    rw [show x.length + 1 - 0 = x.length + 1 from rfl, this, ← hx, occR_rows _ _ _ h13 (Nat.le_refl _)]
    simp
  have hp : partsBetween (sx x) (cutsL 0 (a :: b :: r)) 2 = (a :: b :: r).map sx := by
    rw [partsBetween_eq]
    exact parts_rows x (a :: b :: r) 0 (by simp) (by simpa using hx.symm) (Nat.zero_le _)
  have hrl := inter_len (a :: b :: r)
  rw [hx] at hrl
  have hlx : 2 ≤ x.length := by
    rw [← hx]; show 2 ≤ (a ++ 13 :: 10 :: inter (b :: r)).length; simp; omega
  have hsp : Txt.split (sx x) (sx crlf) = (a :: b :: r).map sx := by
    unfold Txt.split
    have k1 : strKind (sx crlf) = 1 := by decide +kernel
    have k2 : 1 ≤ Builtin.Str.strKind (sx x) := by unfold Builtin.Str.strKind; split; exact Nat.le_refl _; split <;> omega
    have c1 : (decide ((sx x).length < (sx crlf).length) || decide (Builtin.Str.strKind (sx x) < Builtin.Str.strKind (sx crlf))) = false := by
      rw [k1, sx_len, sx_len]
      simp only [Bool.or_eq_false_iff, decide_eq_false_iff_not]
      exact ⟨by show ¬ (x.length < 2); omega, by omega⟩
    rw [if_neg (by rw [c1]; decide), ho]
    have c2 : (cutsL 0 (a :: b :: r)).isEmpty = false := rfl
    rw [if_neg (by rw [c2]; decide)]
    exact hp
  unfold splitV
  have c3 : ((sx crlf).length == 0) = false := rfl
  have c5 : (partsBetween (sx x) (occurrences (sx x) (sx crlf) 0 (sx x).length ((sx x).length + 1)) (sx crlf).length).length ≤ 100000 := by
    rw [ho, show (sx crlf).length = 2 from rfl, hp, List.length_map]; omega
  show (if ((sx crlf).length == 0) = false ∧ (sx x).length ≤ 100000 ∧ _ then some (PyData.list ((Txt.split (sx x) (sx crlf)).map .str)) else none) = _
  rw [if_pos ⟨c3, by rw [sx_len]; omega, c5⟩, hsp, List.map_map]
  rfl
theorem join_go (sep : List Nat) : ∀ (r : List (List Nat)) (acc : Array Nat), (r.map sx).foldl (fun acc (p : Str) => acc ++ (sx sep).cps ++ p.cps) acc = acc ++ ((r.map fun b => sep ++ b).flatten).toArray
  | [], acc => by simp
  | b :: r, acc => by rw [List.map_cons, List.foldl_cons, join_go sep r]; simp
theorem inter_eq : ∀ (a : List Nat) (r : List (List Nat)), inter (a :: r) = a ++ (r.map fun b => crlf ++ b).flatten
  | a, [] => by simp [inter]
  | a, b :: r => by
    show a ++ 13 :: 10 :: inter (b :: r) = _
    rw [inter_eq b r]; simp
theorem joinV_rows {rows : List (List Nat)} (hz : (inter rows).length ≤ 90000) (hf : rows.flatten.length + rows.length * 2 ≤ 1000000) : joinV (tx crlf) [.list (rows.map tx)] = some (tx (inter rows)) := by
  show (strsOf (rows.map tx)).bind (fun ts => if JoinOk (sx crlf) ts = true then some (PyData.str (Txt.join (sx crlf) ts)) else none) = some (tx (inter rows))
  rw [strsOf_sx]
  show (if JoinOk (sx crlf) (rows.map sx) = true then some (PyData.str (Txt.join (sx crlf) (rows.map sx))) else none) = _
  rw [joinOk_sx crlf rows (by show _ + rows.length * 2 ≤ _; omega), if_pos rfl]
  congr 2
  cases rows with
  | nil => rfl
  | cons a r =>
    rw [inter_eq]
    show (⟨((r.map sx)).foldl (fun acc (p : Str) => acc ++ (sx crlf).cps ++ p.cps) (sx a).cps⟩ : Str) = _
    rw [join_go]
    simp [sx]
end Mine
end

section
open PySem PySem.W PyProof.Rows PySem.Calls
set_option maxRecDepth 100000
set_option linter.all false
namespace Mine

/-! the mail: blocks of dots, a head, an empty line -/
noncomputable def Clean (h : List Nat) : Prop := (∀ c ∈ h, c ≠ 13 ∧ c ≠ 10) ∧ ∃ c r, h = c :: r ∧ c ≠ 46 ∧ c ≠ 10
theorem hd_clean {h : List Nat} (H : HdOk h) : Clean h := by
  rcases H with rfl | ⟨a, p, h1, h2, hp, rfl⟩
  · exact ⟨by simp, 40, [], rfl, by decide, by decide⟩
  · refine ⟨fun c hc => ?_, a, p ++ [40], rfl, by omega, by omega⟩
    unfold pieces at hp
    simp only [List.mem_cons, List.not_mem_nil, or_false] at hp
    rcases hp with rfl | rfl | rfl | rfl | rfl | rfl <;> simp at hc <;> omega
noncomputable def blk (q : Nat × List Nat) : List Nat := List.replicate q.1 46 ++ (crlf ++ (q.2 ++ (crlf ++ crlf)))
noncomputable def bt (bs : List (Nat × List Nat)) : List Nat := (bs.map blk).flatten
noncomputable def IsNl (n : List Nat) : Prop := n = [10] ∨ n = [13] ∨ n = [13, 10]
inductive NewB : List (List Nat) → List Nat → Prop
  | nil : NewB [] []
  | cons {h hs n1 n2 t} : IsNl n1 → IsNl n2 → NewB hs t → NewB (h :: hs) (46 :: (n1 ++ (h ++ (n2 ++ (n2 ++ t)))))
theorem NewB.head {hs t} (H : NewB hs t) : t.head? ≠ some 10 := by cases H <;> simp
theorem nl_clean : ∀ (h r : List Nat), (∀ c ∈ h, c ≠ 13 ∧ c ≠ 10) → nlL (h ++ r) = h ++ nlL r
  | [], r, _ => rfl
  | c :: h, r, H => by
    show nlL (c :: (h ++ r)) = _
    rw [nl_c (H c (.head _)).1 (H c (.head _)).2, nl_clean h r fun d hd => H d (.tail _ hd)]
    rfl
theorem nl_one {n r : List Nat} (H : IsNl n) (h : r.head? ≠ some 10) : nlL (n ++ r) = crlf ++ nlL r := by
  rcases H with rfl | rfl | rfl
  · exact nl_lf r
  · exact nl_cr h
  · exact nl_crlf r
theorem nl_two {n r : List Nat} (H : IsNl n) (h : r.head? ≠ some 10) : nlL (n ++ (n ++ r)) = crlf ++ (crlf ++ nlL r) := by
  rcases H with rfl | rfl | rfl
  · rw [show ([10] : List Nat) ++ ([10] ++ r) = 10 :: 10 :: r from rfl, nl_lf, nl_lf]; rfl
  · rw [show ([13] : List Nat) ++ ([13] ++ r) = 13 :: 13 :: r from rfl, nl_cr (by simp), nl_cr h]; rfl
  · show nlL (13 :: 10 :: 13 :: 10 :: r) = _
    rw [nl_crlf, nl_crlf]; rfl
theorem nl_new : ∀ {hs t}, NewB hs t → (∀ h ∈ hs, Clean h) → nlL t = bt (hs.map fun h => (1, h))
  | _, _, .nil, _ => rfl
  | _, _, .cons (h := h) (hs := hs) (n1 := n1) (n2 := n2) (t := t) i1 i2 H, hc => by
    obtain ⟨c1, c, r, e, _, c3⟩ := hc h (.head _)
    rw [nl_c (by decide) (by decide), nl_one i1 (by rw [e]; simp; exact c3), nl_clean h _ c1, nl_two i2 H.head, nl_new H fun h q => hc h (.tail _ q)]
    simp [bt, blk]
theorem nl_bt : ∀ (bs : List (Nat × List Nat)) (t : List Nat), (∀ q ∈ bs, Clean q.2) → nlL (bt bs ++ t) = bt bs ++ nlL t
  | [], t, _ => rfl
  | (j, h) :: bs, t, hc => by
    have c1 := (hc (j, h) (.head _)).1
    have ih := nl_bt bs t fun q hq => hc q (.tail _ hq)
    have e : bt ((j, h) :: bs) ++ t = List.replicate j 46 ++ (13 :: 10 :: (h ++ (13 :: 10 :: 13 :: 10 :: (bt bs ++ t)))) := by simp [bt, blk]
    rw [e, nl_clean (List.replicate j 46) _ (fun c hm => by rw [List.mem_replicate] at hm; omega), nl_crlf, nl_clean h _ c1, nl_crlf, nl_crlf, ih]
    simp [bt, blk]
theorem dot_skip : ∀ (h : List Nat) (r : List Nat), (∀ c ∈ h, c ≠ 10) → dotL false (h ++ 13 :: 10 :: r) = h ++ 13 :: 10 :: dotL true r
  | [], r, _ => by
    show dotL false (13 :: 10 :: r) = _
    simp [dotL]
  | c :: h, r, H => by
    show dotL false (c :: (h ++ 13 :: 10 :: r)) = _
    have hc := H c (.head _)
    have : (c == 10) = false := by simpa using hc
    rw [dotL, this, dot_skip h r fun d hd => H d (.tail _ hd)]
    simp
theorem dot_bt : ∀ bs : List (Nat × List Nat), (∀ q ∈ bs, Clean q.2 ∧ 1 ≤ q.1) → dotL true (bt bs) = bt (bs.map fun q => (q.1 + 1, q.2))
  | [], _ => rfl
  | (j, h) :: bs, hc => by
    obtain ⟨⟨c1, c, r, e, c2, _⟩, hj⟩ := hc (j, h) (.head _)
    have ih := dot_bt bs fun q hq => hc q (.tail _ hq)
    obtain ⟨j, rfl⟩ : ∃ i, j = i + 1 := ⟨j - 1, by simp at hj; omega⟩
    have e1 : bt ((j + 1, h) :: bs) = 46 :: (List.replicate j 46 ++ 13 :: 10 :: (h ++ 13 :: 10 :: 13 :: 10 :: bt bs)) := by simp [bt, blk, List.replicate_succ]
    rw [e1, dotL, show ((46 : Nat) == 10) = false from rfl, dot_skip _ _ (fun c hm => by rw [List.mem_replicate] at hm; omega)]
    simp only at e
    subst e
    have c1' : ∀ d ∈ r, d ≠ 10 := fun d hd => (c1 d (.tail _ hd)).2
    have hc10 : (c == 10) = false := by simpa using (c1 c (.head _)).2
    show _ ++ (List.replicate j 46 ++ 13 :: 10 :: dotL true (c :: (r ++ 13 :: 10 :: 13 :: 10 :: bt bs))) = _
    rw [dotL, hc10, dot_skip _ _ c1']
    have : dotL true (13 :: 10 :: bt bs) = 13 :: 10 :: dotL true (bt bs) := by simp [dotL]
    rw [this, ih]
    simp [bt, blk, List.replicate_succ, c2]
noncomputable def rowsL (bs : List (Nat × List Nat)) : List (List Nat) := (bs.map fun q => [List.replicate q.1 46, q.2, []]).flatten ++ [[]]
theorem inter_rows : ∀ bs : List (Nat × List Nat), inter (rowsL bs) = bt bs
  | [] => rfl
  | (j, h) :: bs => by
    have ih := inter_rows bs
    have ne : ∃ a r, rowsL bs = a :: r := by
      cases hb : rowsL bs with
      | nil => simp [rowsL] at hb
      | cons a r => exact ⟨a, r, rfl⟩
    obtain ⟨a, r, ea⟩ := ne
    have e : rowsL ((j, h) :: bs) = List.replicate j 46 :: h :: [] :: rowsL bs := by simp [rowsL]
    rw [e, ea]
    rw [ea] at ih
    show List.replicate j 46 ++ 13 :: 10 :: (h ++ 13 :: 10 :: ([] ++ 13 :: 10 :: inter (a :: r))) = _
    rw [ih]
    simp [bt, blk]
theorem F_13_sx {x : List Nat} (h1 : x.length ≤ 100000) (h2 : (nlL x).length ≤ 100000) : F_13 [tx x] = some (tx (dotL true (nlL x))) := by
  have d_sx : Str.ofString ".." = sx [46, 46] := by decide +kernel
  show f_13 [some (tx x)] = _
  have e1 : reV (Str.ofString "\r\n") nlL [.str (Str.ofString "\r\n"), tx x] = some (tx (nlL x)) := by
    show (if Str.ofString "\r\n" = Str.ofString "\r\n" ∧ (sx x).length ≤ 100000 then some (PyData.str ⟨(nlL (sx x).cps.toList).toArray⟩) else none) = _
    rw [if_pos ⟨rfl, by rw [sx_len]; exact h1⟩]
  have e2 : reV (Str.ofString "..") (dotL true) [.str (Str.ofString ".."), tx (nlL x)] = some (tx (dotL true (nlL x))) := by
    show (if Str.ofString ".." = Str.ofString ".." ∧ (sx (nlL x)).length ≤ 100000 then some (PyData.str ⟨(dotL true (sx (nlL x)).cps.toList).toArray⟩) else none) = _
    rw [if_pos ⟨rfl, by rw [sx_len]; exact h2⟩]
  show ((((some (PyData.str (Str.ofString ".."))).bind fun a => (((((some (PyData.str (Str.ofString "\r\n"))).bind fun a => ((some (tx x)).bind fun b => (some []).bind fun c => some (b :: c)).bind fun b => some (a :: b)).bind (reV (Str.ofString "\r\n") nlL)).bind fun b => (some []).bind fun c => some (b :: c)).bind fun b => some (a :: b))).bind (reV (Str.ofString "..") (dotL true))).map Out.ret).bind outV = _
  simp only [Option.bind_some, e1, e2, Option.map_some, outV]

/-! _law_laid -/
noncomputable def body19 : Fm → Option Out := (seqF (augF .Add 0 (binF .Add (binF .Add (binF .Add (cS (Str.ofString ".")) (subF (tupF (consF (cS (Str.ofString "\n")) (consF (cS (Str.ofString "\r")) (consF (cS (Str.ofString "\r\n")) nilF)))) (binF .Mod (binF .Add (getV 2) (getV 3)) (cI 3)))) (subF (getV 4) (cI 0))) (binF .Mult (cI 2) (subF (tupF (consF (cS (Str.ofString "\r")) (consF (cS (Str.ofString "\r\n")) (consF (cS (Str.ofString "\n")) nilF)))) (binF .Mod (binF .FloorDiv (binF .Add (getV 2) (getV 3)) (cI 3)) (cI 3)))))) nextF)
theorem item3 {a b c : List Nat} (ha : IsNl a) (hb : IsNl b) (hc : IsNl c) (m : Int) : ∃ n, IsNl n ∧ itemV (.tuple [tx a, tx b, tx c]) (.int (m.fmod 3)) = some (tx n) := by
  have h0 : 0 ≤ m.fmod 3 := Int.fmod_nonneg_of_pos m (by decide)
  have h1 : m.fmod 3 < 3 := Int.fmod_lt_of_pos m (by decide)
  have : m.fmod 3 = 0 ∨ m.fmod 3 = 1 ∨ m.fmod 3 = 2 := by omega
  rcases this with e | e | e <;> rw [e]
  · exact ⟨a, ha, rfl⟩
  · exact ⟨b, hb, rfl⟩
  · exact ⟨c, hc, rfl⟩
theorem mul_two {n : List Nat} (h : IsNl n) : binV .Mult (.int 2) (tx n) = some (tx (n ++ n)) := by
  rcases h with rfl | rfl | rfl <;> rfl
theorem binV_addS {a b : List Nat} (h : a.length + b.length ≤ 100000) : binV .Add (tx a) (tx b) = some (tx (a ++ b)) := by
  show (if (sx a).length + (sx b).length ≤ 100000 then some (PyData.str (sx a ++ sx b)) else none) = _
  rw [if_pos (by rw [sx_len, sx_len]; exact h), sx_append]
theorem iopV_addS {a b : List Nat} (h : a.length + b.length ≤ 100000) : iopV .Add (tx a) (tx b) = some (tx (a ++ b)) := by
  show (if (sx a).length + (sx b).length ≤ 100000 then some (PyData.str (sx a ++ sx b)) else none) = _
  rw [if_pos (by rw [sx_len, sx_len]; exact h), sx_append]
theorem isNl_len {n : List Nat} (h : IsNl n) : n.length ≤ 2 := by rcases h with rfl | rfl | rfl <;> simp
theorem b19 {m h : List Nat} {r : List PyData} {t k : Int} {trees : PyData} (hm : m.length ≤ 90000) (hh : h.length ≤ 5) :
    ∃ n1 n2, IsNl n1 ∧ IsNl n2 ∧ body19 [some (tx m), some trees, some (.int t), some (.int k), some (.list (tx h :: r))] = some (.next [some (tx (m ++ (46 :: (n1 ++ (h ++ (n2 ++ n2)))))), some trees, some (.int t), some (.int k), some (.list (tx h :: r))]) := by
  have lf : Str.ofString "\n" = sx [10] := by decide +kernel
  have cr : Str.ofString "\r" = sx [13] := by decide +kernel
  have dot : Str.ofString "." = sx [46] := by decide +kernel
  obtain ⟨n1, i1, e1⟩ := item3 (a := [10]) (b := [13]) (c := crlf) (.inl rfl) (.inr (.inl rfl)) (.inr (.inr rfl)) (t + k)
  obtain ⟨n2, i2, e2⟩ := item3 (a := [13]) (b := crlf) (c := [10]) (.inr (.inl rfl)) (.inr (.inr rfl)) (.inl rfl) ((t + k).fdiv 3)
  refine ⟨n1, n2, i1, i2, ?_⟩
  have l1 := isNl_len i1
  have l2 := isNl_len i2
  have a1 := binV_addS (a := [46]) (b := n1) (by simp; omega)
  have a2 := binV_addS (a := [46] ++ n1) (b := h) (by simp; omega)
  have a3 := binV_addS (a := [46] ++ n1 ++ h) (b := n2 ++ n2) (by simp; omega)
  have a4 := iopV_addS (a := m) (b := [46] ++ n1 ++ h ++ (n2 ++ n2)) (by simp; omega)
  have hi : itemV (.list (tx h :: r)) (.int 0) = some (tx h) := by
    exact itemV_head
  have fd : binV .FloorDiv (.int (t + k)) (.int 3) = some (.int ((t + k).fdiv 3)) := rfl
  have md : ∀ z : Int, binV .Mod (.int z) (.int 3) = some (.int (z.fmod 3)) := fun _ => rfl
  have tup : ∀ a b c : PyData, (if [a, b, c].length ≤ 1000 then some (PyData.tuple [a, b, c]) else none) = some (.tuple [a, b, c]) := fun _ _ _ => rfl
  have g0 : getV 0 [some (tx m), some trees, some (.int t), some (.int k), some (.list (tx h :: r))] = some (tx m) := rfl
  have g2 : getV 2 [some (tx m), some trees, some (.int t), some (.int k), some (.list (tx h :: r))] = some (.int t) := rfl
  have g3 : getV 3 [some (tx m), some trees, some (.int t), some (.int k), some (.list (tx h :: r))] = some (.int k) := rfl
  have g4 : getV 4 [some (tx m), some trees, some (.int t), some (.int k), some (.list (tx h :: r))] = some (.list (tx h :: r)) := rfl
  simp only [body19, seqF, augF, binF, cS, cI, subF, tupF, consF, nilF, lf, cr, dot, crlf_sx, Option.bind_some, g0, g2, g3, g4, binV_add, md, fd, tup, e1, e2, hi, nextF, List.length_cons, List.length_nil]
  have t1 : (if 0 + 1 + 1 + 1 ≤ 1000 then some (PyData.tuple [tx [10], tx [13], tx crlf]) else none) = some (PyData.tuple [tx [10], tx [13], tx crlf]) := rfl
  have t2 : (if 0 + 1 + 1 + 1 ≤ 1000 then some (PyData.tuple [tx [13], tx crlf, tx [10]]) else none) = some (PyData.tuple [tx [13], tx crlf, tx [10]]) := rfl
  have e3 : ((if 0 + 1 + 1 + 1 ≤ 1000 then some (PyData.tuple [tx [10], tx [13], tx crlf]) else none).bind fun a => itemV a (.int ((t + k).fmod 3))) = some (tx n1) := by rw [t1]; exact e1
  have e4 : ((if 0 + 1 + 1 + 1 ≤ 1000 then some (PyData.tuple [tx [13], tx crlf, tx [10]]) else none).bind fun a => itemV a (.int (((t + k).fdiv 3).fmod 3))) = some (tx n2) := by rw [t2]; exact e2
  simp only [e1, e2, e3, e4, Option.bind_some, mul_two i2, a1, a2, a3, a4]
  simp
theorem laid_loop {hd : Nat → List Nat} (H : ∀ k, HdOk (hd k)) {t : Int} {trees : PyData} : ∀ (ts : List (Nat × List (Option Nat))) (m : List Nat) (i : Nat) (c1 c2 : Option PyData), m.length + 20 * ts.length ≤ 90000 →
    ∃ b c1' c2', NewB (ts.map fun q => hd q.1) b ∧ b.length ≤ 20 * ts.length ∧ forF (putV2 3 4) body19 (enumL i (ts.map fun q => usD hd (some q.1 :: q.2))) [some (tx m), some trees, some (.int t), c1, c2] = some (.next [some (tx (m ++ b)), some trees, some (.int t), c1', c2'])
  | [], m, i, c1, c2, _ => ⟨[], c1, c2, .nil, by simp, by simp [enumL, forF]⟩
  | (k, q) :: ts, m, i, c1, c2, hz => by
    have hz1 : m.length + 20 * ts.length + 20 ≤ 90000 := by simp at hz; omega
    obtain ⟨n1, n2, i1, i2, e⟩ := b19 (m := m) (h := hd k) (r := q.map (uD hd)) (t := t) (k := (i : Int)) (trees := trees) (by omega) (hd_len (H k))
    have l1 := isNl_len i1
    have l2 := isNl_len i2
    have l3 := hd_len (H k)
    obtain ⟨b, c1', c2', h1, h2, h3⟩ := laid_loop H (t := t) (trees := trees) ts (m ++ (46 :: (n1 ++ (hd k ++ (n2 ++ n2))))) (i + 1) (some (.int i)) (some (usD hd (some k :: q))) (by simp; omega)
    refine ⟨46 :: (n1 ++ (hd k ++ (n2 ++ (n2 ++ b)))), c1', c2', .cons i1 i2 h1, by simp; omega, ?_⟩
    have hcons : forF (putV2 3 4) body19 (enumL i (((k, q) :: ts).map fun q => usD hd (some q.1 :: q.2))) [some (tx m), some trees, some (.int t), c1, c2] = ((body19 [some (tx m), some trees, some (.int t), some (.int i), some (usD hd (some k :: q))]).bind fun o => match o with | .next fr2 => forF (putV2 3 4) body19 (enumL (i + 1) (ts.map fun q => usD hd (some q.1 :: q.2))) fr2 | .ret v => some (.ret v)) := rfl
    rw [hcons]
    have e' : body19 [some (tx m), some trees, some (.int t), some (.int i), some (usD hd (some k :: q))] = _ := e
    rw [e']
    show forF (putV2 3 4) body19 (enumL (i + 1) (ts.map fun q => usD hd (some q.1 :: q.2))) _ = _
    have : m ++ 46 :: (n1 ++ (hd k ++ (n2 ++ (n2 ++ b)))) = (m ++ (46 :: (n1 ++ (hd k ++ (n2 ++ n2))))) ++ b := by simp
    rw [this]
    exact h3
theorem F_19_units {hd : Nat → List Nat} (H : ∀ k, HdOk (hd k)) {t : Int} {ts : List (Nat × List (Option Nat))} {m : List Nat} (hz : m.length + 20 * ts.length ≤ 90000) :
    ∃ b, NewB (ts.map fun q => hd q.1) b ∧ b.length ≤ 20 * ts.length ∧ F_19 [tx m, .list (ts.map fun q => usD hd (some q.1 :: q.2)), .int t] = some (tx (m ++ b)) := by
  obtain ⟨b, c1', c2', h1, h2, h3⟩ := laid_loop H (t := t) (trees := .list (ts.map fun q => usD hd (some q.1 :: q.2))) ts m 0 none none hz
  refine ⟨b, h1, h2, ?_⟩
  show f_19 [some (tx m), some (.list (ts.map fun q => usD hd (some q.1 :: q.2))), some (.int t), none, none] = _
  show (forF (putV2 3 4) body19 (enumL 0 (ts.map fun q => usD hd (some q.1 :: q.2))) [some (tx m), some (.list (ts.map fun q => usD hd (some q.1 :: q.2))), some (.int t), none, none]).bind _ = _
  rw [h3]
  rfl
end Mine
end

section
open PySem PySem.W PyProof.Rows PySem.Calls
set_option maxRecDepth 100000
set_option linter.all false
namespace Mine

theorem sliceV_list {l : List PyData} {lo hi : Option Int} (h : l.length ≤ 100000) : sliceV (.list l) lo hi = some (.list (pick l lo hi)) := if_pos h
/-! _law_handed_out -/
noncomputable abbrev Tree := Nat × List (Option Nat)
noncomputable def unT (t : Tree) : List (Option Nat) := some t.1 :: t.2
noncomputable def treesOf : List (List (Option Nat)) → Option (List Tree)
  | [] => some []
  | (some k :: q) :: r => (treesOf r).map ((k, q) :: ·)
  | _ :: _ => none
theorem treesOf_eq : ∀ {l : List (List (Option Nat))} {ts : List Tree}, treesOf l = some ts → l = ts.map unT
  | [], _, h => by cases h; rfl
  | (some k :: q) :: r, ts, h => by
    obtain ⟨t, e, rfl⟩ := Option.map_eq_some_iff.mp h
    rw [treesOf_eq e]; rfl
  | [] :: r, _, h => by cases h
  | (none :: q) :: r, _, h => by cases h
noncomputable def fit (t : Tree) (line : List Tree) (bs : List (Nat × Nat)) (told : List (Nat × Nat)) (rec : List Nat) : Bool :=
  (Nat.ble line.length 99 && Nat.ble t.2.length 100) && (Nat.ble bs.length 100 && bs.all fun q => Nat.ble 1 q.1 && Nat.ble q.1 100) && (Nat.ble told.length 100 && Nat.ble rec.length 1000)
noncomputable def hand : Nat → List Tree → List (Nat × Nat) → List (Nat × Nat) → List Nat → Option (List (Nat × Nat) × List Nat)
  | 0, _, _, _, _ => none
  | _ + 1, [], _, told, rec => some (told, rec)
  | n + 1, t :: line, bs, told, rec => match bs, treesOf (parted (inner (unT t))) with
    | (j, k) :: rest, some ys => if fit t line bs told rec && Nat.ble ys.length 100 then hand n (line ++ ys) (rest.map (fun q => (q.1 + 1, q.2)) ++ ys.map fun y => (1, y.1)) (told ++ [(j + 1, k)]) (rec ++ 41 :: List.replicate ys.length 40) else none
    | _, _ => none
noncomputable def triD (hd : Nat → List Nat) (q : Nat × Nat) : PyData := .list [tx (List.replicate q.1 46), tx (hd q.2), tx []]
noncomputable def bsT (hd : Nat → List Nat) (bs : List (Nat × Nat)) : List (Nat × List Nat) := bs.map fun q => (q.1, hd q.2)
noncomputable def treeD (hd : Nat → List Nat) (t : Tree) : PyData := usD hd (unT t)
noncomputable def test20 : Fm → Option Bool := cmpF .NotEq (getV 2) (listF nilF)
noncomputable def body20 : Fm → Option Out := (seqF (setF 6 (methF "str" (callF (consF (getV 3) nilF) F_13) (consF (cS (Str.ofString "\r\n")) nilF) splitV)) (seqF (appF 4 (sliceF (getV 6) pNone (pSome (cI 3)))) (seqF (setF 7 (callF (consF (sliceF (subF (getV 2) (cI 0)) (pSome (cI 1)) (pSome (negF (cI 1)))) nilF) F_17)) (seqF (setF 3 (callF (consF (methF "str" (cS (Str.ofString "\r\n")) (consF (sliceF (getV 6) (pSome (cI 3)) pNone) nilF) joinV) (consF (getV 7) (consF (binF .Add (getV 1) (ownLenF 4)) nilF))) F_19)) (seqF (augF .Add 5 (binF .Add (cS (Str.ofString ")")) (binF .Mult (cS (Str.ofString "(")) (callF (consF (getV 7) nilF) lenV)))) (seqF (setF 2 (binF .Add (sliceF (getV 2) (pSome (cI 1)) pNone) (getV 7))) nextF))))))
theorem bt_len {hd : Nat → List Nat} (H : ∀ k, HdOk (hd k)) : ∀ bs : List (Nat × Nat), (∀ q ∈ bs, q.1 ≤ 101) → (bt (bsT hd bs)).length ≤ 120 * bs.length
  | [], _ => by simp [bt, bsT]
  | q :: bs, h => by
    have ih := bt_len H bs fun r hr => h r (.tail _ hr)
    have h1 := hd_len (H q.2)
    have h2 := h q (.head _)
    have e : (bt (bsT hd (q :: bs))).length = (blk (q.1, hd q.2)).length + (bt (bsT hd bs)).length := by simp [bt, bsT]
    have e2 : (blk (q.1, hd q.2)).length = q.1 + (hd q.2).length + 6 := by simp [blk]; omega
    simp only [List.length_cons]
    omega
theorem rows_flat {hd : Nat → List Nat} : ∀ bs : List (Nat × List Nat), (rowsL bs).flatten.length ≤ (bt bs).length ∧ (rowsL bs).length = 3 * bs.length + 1
  | [] => by simp [rowsL, bt]
  | (j, h) :: bs => by
    obtain ⟨i1, i2⟩ := rows_flat (hd := hd) bs
    have e : rowsL ((j, h) :: bs) = List.replicate j 46 :: h :: [] :: rowsL bs := by simp [rowsL]
    have e2 : bt ((j, h) :: bs) = blk (j, h) ++ bt bs := by simp [bt]
    rw [e, e2]
    simp only [List.flatten_cons, List.length_append, List.length_cons, blk, List.length_replicate, List.length_nil]
    omega
theorem mul_rep (c n : Nat) (h : n < 1000) : binV .Mult (tx [c]) (.int n) = some (tx (List.replicate n c)) := by
  show (if (sx [c]).length ≤ 1000 ∧ -1000 < (n : Int) ∧ (n : Int) < 1000 then some (PyData.str (Txt.mul (sx [c]) n)) else none) = _
  rw [if_pos ⟨by rw [sx_len]; exact Nat.le_of_ble_eq_true rfl, by omega, by omega⟩]
  congr 2
  unfold Txt.mul
  have hf : ∀ (m : Nat) (acc : Array Nat), (List.replicate m (sx [c]).cps).foldl (· ++ ·) acc = acc ++ (List.replicate m c).toArray := by
    intro m
    induction m with
    | zero => intro acc; simp
    | succ m ih =>
      intro acc
      rw [List.replicate_succ, List.foldl_cons, ih]
      apply Array.toList_inj.mp
      simp [List.replicate_succ]
  by_cases h1 : (n : Int) < 1
  · rw [if_pos h1]; have : n = 0 := by omega
    subst this; rfl
  · rw [if_neg h1]
    by_cases h2 : ((n : Int) == 1 || (sx [c]).length == 0) = true
    · rw [if_pos h2]
      have : n = 1 := by
        rcases Bool.or_eq_true_iff.mp h2 with q | q
        · have := eq_of_beq q; omega
        · rw [sx_len] at q; exact nomatch q
      subst this; rfl
    · rw [if_neg h2]
      have : ((n : Int)).toNat = n := by omega
      rw [this, hf]
      simp [sx]
theorem mul_paren (n : Nat) (h : n < 1000) : binV .Mult (tx [40]) (.int n) = some (tx (List.replicate n 40)) := mul_rep 40 n h
open PySem.PyData in
theorem canAll : ∀ {xs : List PyData}, (∀ x ∈ xs, x.canLay0 = true) → PyData.canLayAll0 xs = true
  | [], _ => by simp [PyData.canLayAll0]
  | x :: xs, h => by simp [PyData.canLayAll0, h x (.head _), canAll fun y q => h y (.tail _ q)]
theorem depAll {k : Nat} : ∀ {xs : List PyData}, (∀ x ∈ xs, x.depth ≤ k) → PyData.depthAll xs ≤ k
  | [], _ => by simp [PyData.depthAll]
  | x :: xs, h => by
    have h1 := h x (.head _)
    have h2 := depAll (xs := xs) fun y q => h y (.tail _ q)
    simp only [PyData.depthAll]; omega
theorem can_tx {l : List Nat} (h : ∀ c ∈ l, c < 128) : (tx l).canLay0 = true := by
  simp only [PyData.canLay0, PyData.strOk]
  simp
  intro c hc
  have := h c hc
  omega
theorem hd_ascii {h : List Nat} (H : HdOk h) : ∀ c ∈ h, c < 128 := by
  rcases H with rfl | ⟨a, p, h1, h2, hp, rfl⟩
  · simp
  · intro c hc
    unfold pieces at hp
    simp only [List.mem_cons, List.not_mem_nil, or_false] at hp
    rcases hp with rfl | rfl | rfl | rfl | rfl | rfl <;> simp at hc <;> omega
theorem can_u {hd : Nat → List Nat} (H : ∀ k, HdOk (hd k)) (u : Option Nat) : (uD hd u).canLay0 = true := can_tx (by
  cases u with
  | none => simp [uL]
  | some k => exact hd_ascii (H k))
theorem can_us {hd : Nat → List Nat} (H : ∀ k, HdOk (hd k)) (us : List (Option Nat)) : (usD hd us).canLay0 = true ∧ (usD hd us).depth ≤ 1 := by
  refine ⟨?_, ?_⟩
  · simp only [PyData.canLay0]
    exact canAll fun x hx => by obtain ⟨u, _, rfl⟩ := List.mem_map.mp hx; exact can_u H u
  · simp only [PyData.depth]
    have := depAll (k := 0) (xs := us.map (uD hd)) fun x hx => by obtain ⟨u, _, rfl⟩ := List.mem_map.mp hx; simp [PyData.depth]
    omega
theorem shaped_line {hd : Nat → List Nat} (H : ∀ k, HdOk (hd k)) (line : List Tree)   : SeqAt.shaped (.list (line.map (treeD hd))) = true := by
  unfold SeqAt.shaped
  simp only [Bool.and_eq_true, decide_eq_true_eq, PyData.canLay0, PyData.depth]
  refine ⟨canAll fun x hx => ?_, ?_⟩
  · obtain ⟨u, _, rfl⟩ := List.mem_map.mp hx; exact (can_us H _).1
  · have := depAll (k := 1) (xs := line.map (treeD hd)) fun x hx => by obtain ⟨u, _, rfl⟩ := List.mem_map.mp hx; exact (can_us H _).2
    exact decide_eq_true (by omega)
theorem hand_loop {hd : Nat → List Nat} (H : ∀ k, HdOk (hd k)) {U : PyData} {turn : Int} : ∀ (n : Nat) (line : List Tree) (bs told : List (Nat × Nat)) (rec M : List Nat) (r1 r2 : Option PyData) (told' : List (Nat × Nat)) (rec' : List Nat),
    hand n line bs told rec = some (told', rec') → nlL M = bt (bsT hd bs) → M.length ≤ 50000 →
    ∃ m' r1' r2' l', whileF test20 body20 n [some U, some (.int turn), some (.list (line.map (treeD hd))), some (tx M), some (.list (told.map (triD hd))), some (tx rec), r1, r2] =
      some (.next [some U, some (.int turn), l', m', some (.list (told'.map (triD hd))), some (tx rec'), r1', r2'])
  | 0, _, _, _, _, _, _, _, _, _, h, _, _ => by cases h
  | n + 1, [], bs, told, rec, M, r1, r2, told', rec', h, hM, hl => by
    cases h
    refine ⟨some (tx M), r1, r2, some (.list []), ?_⟩
    have ht : test20 [some U, some (.int turn), some (.list []), some (tx M), some (.list (told.map (triD hd))), some (tx rec), r1, r2] = some false := rfl
    show (test20 [some U, some (.int turn), some (.list []), some (tx M), some (.list (told.map (triD hd))), some (tx rec), r1, r2]).bind _ = _
    rw [ht]
    rfl
  | n + 1, t :: line, bs, told, rec, M, r1, r2, told', rec', h, hM, hl => by
    unfold hand at h
    split at h
    · rename_i j k rest ys hty
      split at h
      · rename_i hfit
        simp only [fit, Bool.and_eq_true, List.all_eq_true] at hfit
        obtain ⟨⟨⟨⟨g1, g2⟩, g3, g4⟩, g5, g6⟩, g7⟩ := hfit
        have g1 : (t :: line).length ≤ 100 := Nat.succ_le_succ (Nat.le_of_ble_eq_true g1)
        have g3 := Nat.le_of_ble_eq_true g3
        have g5 := Nat.le_of_ble_eq_true g5
        have g6 := Nat.le_of_ble_eq_true g6
        have g7 := Nat.le_of_ble_eq_true g7
        have g4' : ∀ q ∈ (j, k) :: rest, 1 ≤ q.1 ∧ q.1 ≤ 100 := fun q hq => ⟨Nat.le_of_ble_eq_true (g4 q hq).1, Nat.le_of_ble_eq_true (g4 q hq).2⟩
        have ey := treesOf_eq hty
        obtain ⟨bs, hbs⟩ : ∃ bs, bs = (j, k) :: rest := ⟨_, rfl⟩
        rw [← hbs] at hM g3 g4'
        have hcl : ∀ q ∈ bsT hd bs, Clean q.2 ∧ 1 ≤ q.1 := fun q hq => by
          obtain ⟨r, hr, rfl⟩ := List.mem_map.mp hq
          exact ⟨hd_clean (H _), (g4' r hr).1⟩
        -- the text laid out, its rows
        have hd13 : dotL true (nlL M) = bt (bsT hd (bs.map fun q => (q.1 + 1, q.2))) := by
          rw [hM, dot_bt _ hcl]
          simp [bsT]
          rfl
        have l1 := bt_len H bs fun q hq => by have := (g4' q hq).2; omega
        have l2 := bt_len H (bs.map fun q => (q.1 + 1, q.2)) fun q hq => by
          obtain ⟨r, hr, rfl⟩ := List.mem_map.mp hq
          have := (g4' r hr).2; simp; omega
        simp only [List.length_map] at l2
        have q13 := F_13_sx (x := M) (by omega) (by rw [hM]; omega)
        rw [hd13, ← inter_rows] at q13
        obtain ⟨rf, rl⟩ := rows_flat (hd := hd) (bsT hd (bs.map fun q => (q.1 + 1, q.2)))
        have hrl : (rowsL (bsT hd (bs.map fun q => (q.1 + 1, q.2)))).length = 3 * bs.length + 1 := by rw [rl]; simp [bsT]
        have h13 : ∀ a ∈ rowsL (bsT hd (bs.map fun q => (q.1 + 1, q.2))), 13 ∉ a := fun a ha => by
          simp only [rowsL, List.mem_append, List.mem_flatten, List.mem_map, List.mem_singleton] at ha
          rcases ha with ⟨l, ⟨q, hq, rfl⟩, ha⟩ | rfl
          · obtain ⟨r, hr, rfl⟩ := List.mem_map.mp hq
            simp only [List.mem_cons, List.not_mem_nil, or_false] at ha
            rcases ha with rfl | rfl | rfl
            · intro z; rw [List.mem_replicate] at z; omega
            · intro z; exact ((hd_clean (H _)).1 13 z).1 rfl
            · simp
          · simp
        have qs := splitV_rows h13 (by rw [hrl, hbs]; simp; omega) (by rw [inter_rows]; omega)
        -- the first three, the rest
        obtain ⟨rest', hrest⟩ : ∃ r : List (Nat × Nat), r = rest.map fun q => (q.1 + 1, q.2) := ⟨_, rfl⟩
        have er : rowsL (bsT hd (bs.map fun q => (q.1 + 1, q.2))) = List.replicate (j + 1) 46 :: hd k :: [] :: rowsL (bsT hd rest') := by
          rw [hbs, hrest]; simp [rowsL, bsT]
        rw [er] at q13 qs hrl
        obtain ⟨R', hR'⟩ : ∃ R, R = rowsL (bsT hd rest') := ⟨_, rfl⟩
        have hl3 : (bt (bsT hd rest')).length ≤ 120 * rest'.length := bt_len H rest' fun q hq => by
          rw [hrest] at hq
          obtain ⟨r, hr, rfl⟩ := List.mem_map.mp hq
          have := (g4' r (by rw [hbs]; exact .tail _ hr)).2; simp; omega
        have hrz : rest'.length ≤ 100 := by rw [hrest, List.length_map]; rw [hbs] at g3; simp at g3; omega
        have hyz : (ys.map fun y => ((1 : Nat), y.1)).length ≤ 100 := by simpa using g7
        obtain ⟨rf', rl'⟩ := rows_flat (hd := hd) (bsT hd rest')
        have hbl : (bsT hd rest').length ≤ 100 := by simpa [bsT] using hrz
        have qj := joinV_rows (rows := rowsL (bsT hd rest')) (by rw [inter_rows]; omega) (by rw [rl']; omega)
        rw [inter_rows] at qj
        obtain ⟨b, hb1, hb2, q19⟩ := F_19_units H (t := turn + ((told.length + 1 : Nat) : Int)) (ts := ys) (m := bt (bsT hd rest')) (by omega)
        have hlen2 : (unT t).length ≤ 101 := by have := Nat.le_of_ble_eq_true g2; simp [unT]; omega
        have q17 := F_17_units H (us := inner (unT t)) (by simp [inner]; omega)
        rw [ey, List.map_map] at q17
        -- step by step
        have ht : test20 [some U, some (.int turn), some (.list (treeD hd t :: line.map (treeD hd))), some (tx M), some (.list (told.map (triD hd))), some (tx rec), r1, r2] = some true := by
          have hsh := shaped_line H (t :: line)
          show (if (SeqAt.shaped (.list ((t :: line).map (treeD hd))) && SeqAt.shaped (.list [])) = true then some (!(PyData.list (treeD hd t :: line.map (treeD hd))).eqv (.list [])) else none) = some true
          rw [hsh, show SeqAt.shaped (.list []) = true from rfl]
          simp [PyData.eqv, PyData.eqvAll]
        obtain ⟨RD, hRD⟩ : ∃ l : List PyData, l = (List.replicate (j + 1) 46 :: hd k :: [] :: rowsL (bsT hd rest')).map tx := ⟨_, rfl⟩
        rw [← hRD] at qs
        have e6 : setF 6 (methF "str" (callF (consF (getV 3) nilF) F_13) (consF (cS (Str.ofString "\r\n")) nilF) splitV) [some U, some (.int turn), some (.list (treeD hd t :: line.map (treeD hd))), some (tx M), some (.list (told.map (triD hd))), some (tx rec), r1, r2] =
            some (.next [some U, some (.int turn), some (.list (treeD hd t :: line.map (treeD hd))), some (tx M), some (.list (told.map (triD hd))), some (tx rec), some (.list RD), r2]) :=
          setF_eq ((methF_eq ((callF_eq (one_eq rfl)).trans q13) (one_eq (congrArg (fun x => some (PyData.str x)) crlf_sx)) rfl).trans qs) (Nat.le_of_ble_eq_true rfl)
        have e4 : appF 4 (sliceF (getV 6) pNone (pSome (cI 3))) [some U, some (.int turn), some (.list (treeD hd t :: line.map (treeD hd))), some (tx M), some (.list (told.map (triD hd))), some (tx rec), some (.list RD), r2] =
            some (.next [some U, some (.int turn), some (.list (treeD hd t :: line.map (treeD hd))), some (tx M), some (.list ((told ++ [(j + 1, k)]).map (triD hd))), some (tx rec), some (.list RD), r2]) := by
          refine (appF_eq (ds := told.map (triD hd)) (v := triD hd (j + 1, k)) rfl ?_ (Nat.le_of_ble_eq_true rfl) (by simp; omega)).trans (by simp)
          refine (sliceF_eq rfl rfl rfl).trans ((sliceV_list (by rw [hRD, List.length_map, hrl]; omega)).trans ?_)
          have := pick_to (l := RD) (a := 3)
          rw [show ((3 : Nat) : Int) = 3 from rfl] at this
          rw [this, hRD]
          rfl
        have e7 : setF 7 (callF (consF (sliceF (subF (getV 2) (cI 0)) (pSome (cI 1)) (pSome (negF (cI 1)))) nilF) F_17) [some U, some (.int turn), some (.list (treeD hd t :: line.map (treeD hd))), some (tx M), some (.list ((told ++ [(j + 1, k)]).map (triD hd))), some (tx rec), some (.list RD), r2] =
            some (.next [some U, some (.int turn), some (.list (treeD hd t :: line.map (treeD hd))), some (tx M), some (.list ((told ++ [(j + 1, k)]).map (triD hd))), some (tx rec), some (.list RD), some (.list (ys.map (treeD hd)))]) := by
          refine setF_eq ?_ (Nat.le_of_ble_eq_true rfl)
          refine (callF_eq (one_eq (a := usD hd (inner (unT t))) ?_)).trans q17
          refine (sliceF_eq (a := treeD hd t) ((subF_eq rfl rfl).trans itemV_head) rfl rfl).trans ((sliceV_list (by simp; omega)).trans ?_)
          show some (PyData.list (pick ((unT t).map (uD hd)) (some 1) (some (-1)))) = _
          rw [pick_inner]
          simp [inner]
        have e3 : setF 3 (callF (consF (methF "str" (cS (Str.ofString "\r\n")) (consF (sliceF (getV 6) (pSome (cI 3)) pNone) nilF) joinV) (consF (getV 7) (consF (binF .Add (getV 1) (ownLenF 4)) nilF))) F_19) [some U, some (.int turn), some (.list (treeD hd t :: line.map (treeD hd))), some (tx M), some (.list ((told ++ [(j + 1, k)]).map (triD hd))), some (tx rec), some (.list RD), some (.list (ys.map (treeD hd)))] =
            some (.next [some U, some (.int turn), some (.list (treeD hd t :: line.map (treeD hd))), some (tx (bt (bsT hd rest') ++ b)), some (.list ((told ++ [(j + 1, k)]).map (triD hd))), some (tx rec), some (.list RD), some (.list (ys.map (treeD hd)))]) := by
          refine setF_eq ?_ (Nat.le_of_ble_eq_true rfl)
          refine (callF_eq (consF_eq (a := tx (bt (bsT hd rest'))) ?_ (consF_eq rfl (one_eq ?_)))).trans q19
          · refine (methF_eq (congrArg (fun x => some (PyData.str x)) crlf_sx) (one_eq (a := .list ((rowsL (bsT hd rest')).map tx)) ?_) rfl).trans qj
            refine (sliceF_eq rfl rfl rfl).trans ((sliceV_list (by rw [hRD, List.length_map, hrl]; omega)).trans ?_)
            have := pick_from (l := RD) (a := 3)
            rw [show ((3 : Nat) : Int) = 3 from rfl] at this
            rw [this, hRD]
            rfl
          · have ho : ownLenF 4 [some U, some (.int turn), some (.list (treeD hd t :: line.map (treeD hd))), some (tx M), some (.list ((told ++ [(j + 1, k)]).map (triD hd))), some (tx rec), some (.list RD), some (.list (ys.map (treeD hd)))] = some (.int ((told.length + 1 : Nat) : Int)) := by
              show (if ((told ++ [(j + 1, k)]).map (triD hd)).length ≤ 100000 then some (PyData.int ((told ++ [(j + 1, k)]).map (triD hd)).length) else none) = _
              rw [if_pos (by simp; omega)]; simp
            exact (binF_eq rfl ho).trans (binV_add _ _)
        have e5 : augF .Add 5 (binF .Add (cS (Str.ofString ")")) (binF .Mult (cS (Str.ofString "(")) (callF (consF (getV 7) nilF) lenV))) [some U, some (.int turn), some (.list (treeD hd t :: line.map (treeD hd))), some (tx (bt (bsT hd rest') ++ b)), some (.list ((told ++ [(j + 1, k)]).map (triD hd))), some (tx rec), some (.list RD), some (.list (ys.map (treeD hd)))] =
            some (.next [some U, some (.int turn), some (.list (treeD hd t :: line.map (treeD hd))), some (tx (bt (bsT hd rest') ++ b)), some (.list ((told ++ [(j + 1, k)]).map (triD hd))), some (tx (rec ++ 41 :: List.replicate ys.length 40)), some (.list RD), some (.list (ys.map (treeD hd)))]) := by
          have hv : binF .Add (cS (Str.ofString ")")) (binF .Mult (cS (Str.ofString "(")) (callF (consF (getV 7) nilF) lenV)) [some U, some (.int turn), some (.list (treeD hd t :: line.map (treeD hd))), some (tx (bt (bsT hd rest') ++ b)), some (.list ((told ++ [(j + 1, k)]).map (triD hd))), some (tx rec), some (.list RD), some (.list (ys.map (treeD hd)))] = some (tx ([41] ++ List.replicate ys.length 40)) := by
            have hl : lenV [.list (ys.map (treeD hd))] = some (.int ys.length) := by rw [lenV_list (by simp; omega)]; simp
            refine (binF_eq (congrArg (fun x => some (PyData.str x)) r_sx) ((binF_eq (congrArg (fun x => some (PyData.str x)) l_sx) ((callF_eq (one_eq rfl)).trans hl)).trans (mul_paren ys.length (by omega)))).trans (binV_addS (by simp; omega))
          show (binF .Add (cS (Str.ofString ")")) (binF .Mult (cS (Str.ofString "(")) (callF (consF (getV 7) nilF) lenV)) [some U, some (.int turn), some (.list (treeD hd t :: line.map (treeD hd))), some (tx (bt (bsT hd rest') ++ b)), some (.list ((told ++ [(j + 1, k)]).map (triD hd))), some (tx rec), some (.list RD), some (.list (ys.map (treeD hd)))]).bind _ = _
          rw [hv]
          show (iopV .Add (tx rec) (tx ([41] ++ List.replicate ys.length 40))).bind _ = _
          rw [iopV_addS (by simp; omega)]
          rfl
        have e2 : setF 2 (binF .Add (sliceF (getV 2) (pSome (cI 1)) pNone) (getV 7)) [some U, some (.int turn), some (.list (treeD hd t :: line.map (treeD hd))), some (tx (bt (bsT hd rest') ++ b)), some (.list ((told ++ [(j + 1, k)]).map (triD hd))), some (tx (rec ++ 41 :: List.replicate ys.length 40)), some (.list RD), some (.list (ys.map (treeD hd)))] =
            some (.next [some U, some (.int turn), some (.list ((line ++ ys).map (treeD hd))), some (tx (bt (bsT hd rest') ++ b)), some (.list ((told ++ [(j + 1, k)]).map (triD hd))), some (tx (rec ++ 41 :: List.replicate ys.length 40)), some (.list RD), some (.list (ys.map (treeD hd)))]) := by
          refine setF_eq ?_ (Nat.le_of_ble_eq_true rfl)
          have hp : sliceV (.list (treeD hd t :: line.map (treeD hd))) (some 1) none = some (.list (line.map (treeD hd))) := by
            refine (sliceV_list (by simp at g1 ⊢; omega)).trans ?_
            have := pick_from (l := treeD hd t :: line.map (treeD hd)) (a := 1)
            rw [show ((1 : Nat) : Int) = 1 from rfl] at this
            rw [this]; rfl
          refine (binF_eq ((sliceF_eq rfl rfl rfl).trans hp) rfl).trans ?_
          show (if (line.map (treeD hd)).length + (ys.map (treeD hd)).length ≤ 100000 then some (PyData.list (line.map (treeD hd) ++ ys.map (treeD hd))) else none) = _
          rw [if_pos (by simp at g1 ⊢; omega)]
          simp
        have eb : body20 [some U, some (.int turn), some (.list (treeD hd t :: line.map (treeD hd))), some (tx M), some (.list (told.map (triD hd))), some (tx rec), r1, r2] =
            some (.next [some U, some (.int turn), some (.list ((line ++ ys).map (treeD hd))), some (tx (bt (bsT hd rest') ++ b)), some (.list ((told ++ [(j + 1, k)]).map (triD hd))), some (tx (rec ++ 41 :: List.replicate ys.length 40)), some (.list RD), some (.list (ys.map (treeD hd)))]) := by
          unfold body20
          rw [seqF_next e6, seqF_next e4, seqF_next e7, seqF_next e3, seqF_next e5, seqF_next e2]
          rfl
        have hMn : nlL (bt (bsT hd rest') ++ b) = bt (bsT hd (rest' ++ ys.map fun y => (1, y.1))) := by
          rw [nl_bt _ _ fun q hq => (by obtain ⟨r, hr, rfl⟩ := List.mem_map.mp hq; exact hd_clean (H _)), nl_new hb1 fun h hh => (by obtain ⟨y, _, rfl⟩ := List.mem_map.mp hh; exact hd_clean (H _))]
          simp [bt, bsT]
          rfl
        obtain ⟨m', r1', r2', l', ih⟩ := hand_loop H (U := U) (turn := turn) n (line ++ ys) (rest' ++ ys.map fun y => (1, y.1)) (told ++ [(j + 1, k)]) (rec ++ 41 :: List.replicate ys.length 40) (bt (bsT hd rest') ++ b) (some (.list RD)) (some (.list (ys.map (treeD hd)))) told' rec' (by rw [hrest]; exact h) hMn (by rw [List.length_append]; omega)
        refine ⟨m', r1', r2', l', ?_⟩
        show (test20 [some U, some (.int turn), some (.list (treeD hd t :: line.map (treeD hd))), some (tx M), some (.list (told.map (triD hd))), some (tx rec), r1, r2]).bind _ = _
        rw [ht]
        show (body20 [some U, some (.int turn), some (.list (treeD hd t :: line.map (treeD hd))), some (tx M), some (.list (told.map (triD hd))), some (tx rec), r1, r2]).bind _ = _
        rw [eb]
        exact ih
      · exact nomatch h
    · exact nomatch h
end Mine
end

section
open PySem PySem.W PyProof.Rows PySem.Calls
set_option maxRecDepth 100000
set_option linter.all false
namespace Mine

noncomputable def handAll (us : List (Option Nat)) : Option (List (Nat × Nat) × List Nat) := match treesOf (parted us) with
  | some ts => if Nat.ble ts.length 100 then hand 20 ts (ts.map fun y => (1, y.1)) [] (List.replicate ts.length 40) else none
  | none => none
theorem F_20_units {hd : Nat → List Nat} (H : ∀ k, HdOk (hd k)) {us : List (Option Nat)} {turn : Int} {told : List (Nat × Nat)} {rec : List Nat} (hl : us.length ≤ 500) (h : handAll us = some (told, rec)) :
    F_20 [usD hd us, .int turn] = some (.tuple [.list (told.map (triD hd)), tx rec]) := by
  unfold handAll at h
  split at h
  · rename_i ts hts
    split at h
    · rename_i hz
      have hz := Nat.le_of_ble_eq_true hz
      have et := treesOf_eq hts
      have q17 := F_17_units H hl
      rw [et, List.map_map] at q17
      obtain ⟨b, hb1, hb2, q19⟩ := F_19_units H (t := turn) (ts := ts) (m := []) (by simp; omega)
      have hMn : nlL b = bt (bsT hd (ts.map fun y => (1, y.1))) := by
        rw [nl_new hb1 fun h hh => (by obtain ⟨y, _, rfl⟩ := List.mem_map.mp hh; exact hd_clean (H _))]
        simp [bsT]
        rfl
      obtain ⟨m', r1', r2', l', e⟩ := hand_loop H (U := usD hd us) (turn := turn) 20 ts (ts.map fun y => (1, y.1)) [] (List.replicate ts.length 40) b none none told rec h hMn (by omega)
      show f_20 [some (usD hd us), some (.int turn), none, none, none, none, none, none] = _
      have e2 : setF 2 (callF (consF (getV 0) nilF) F_17) [some (usD hd us), some (.int turn), none, none, none, none, none, none] = some (.next [some (usD hd us), some (.int turn), some (.list (ts.map (treeD hd))), none, none, none, none, none]) :=
        setF_eq ((callF_eq (one_eq rfl)).trans q17) (Nat.le_of_ble_eq_true rfl)
      have q19' : F_19 [.str (Str.ofString ""), .list (ts.map (treeD hd)), .int turn] = some (tx b) := by
        rw [e_sx]; exact q19
      have e3 : callF (consF (cS (Str.ofString "")) (consF (getV 2) (consF (getV 1) nilF))) F_19 [some (usD hd us), some (.int turn), some (.list (ts.map (treeD hd))), none, none, none, none, none] = some (tx b) := (callF_eq (consF_eq rfl (consF_eq rfl (one_eq rfl)))).trans q19'
      have hl : lenV [.list (ts.map (treeD hd))] = some (.int ts.length) := by rw [lenV_list (by simp; omega)]; simp
      have e5 : binF .Mult (cS (Str.ofString "(")) (callF (consF (getV 2) nilF) lenV) [some (usD hd us), some (.int turn), some (.list (ts.map (treeD hd))), none, none, none, none, none] = some (tx (List.replicate ts.length 40)) :=
        (binF_eq (congrArg (fun x => some (PyData.str x)) l_sx) ((callF_eq (one_eq rfl)).trans hl)).trans (mul_paren ts.length (by omega))
      refine (seqR_next e2).trans ?_
      show (callF (consF (cS (Str.ofString "")) (consF (getV 2) (consF (getV 1) nilF))) F_19 [some (usD hd us), some (.int turn), some (.list (ts.map (treeD hd))), none, none, none, none, none]).bind _ = _
      rw [e3]
      show (binF .Mult (cS (Str.ofString "(")) (callF (consF (getV 2) nilF) lenV) [some (usD hd us), some (.int turn), some (.list (ts.map (treeD hd))), none, none, none, none, none]).bind _ = _
      rw [e5]
      show seqR (whileF test20 body20 20) (lastF (retF (pairO (getV 4) (getV 5)))) [some (usD hd us), some (.int turn), some (.list (ts.map (treeD hd))), some (tx b), some (.list (([] : List (Nat × Nat)).map (triD hd))), some (tx (List.replicate ts.length 40)), none, none] = _
      rw [seqR_next e]
      rfl
    · exact nomatch h
  · exact nomatch h

theorem forF_enum {a b : Nat} {f : Fm → Option Out} {fr fr1 : Fm} {i : Nat} {v : PyData} {rest : List PyData} (h : putV2 a b (.tuple [.int i, v]) fr = some fr1) : forF (putV2 a b) f (enumL i (v :: rest)) fr = (f fr1).bind fun o => match o with | .next fr2 => forF (putV2 a b) f (enumL (i + 1) rest) fr2 | .ret v => some (.ret v) := by
  show (putV2 a b (.tuple [.int i, v]) fr).bind _ = _
  rw [h]; rfl
/-! _law_units -/
noncomputable def unitsGo : Nat → List Nat → List (Option Nat)
  | _, [] => []
  | k, [d] => some k :: List.replicate (d + 1) none
  | k, d :: e :: r => some k :: (List.replicate (d + 1 - e) none ++ unitsGo (k + 1) (e :: r))
noncomputable def unitsOf (ds : List Nat) : List (Option Nat) := unitsGo 0 ds
noncomputable def headOf (xs : List Nat) (k : Nat) : List Nat := if k < 7 then (97 + k) :: (pieces.getD (xs.getD k 0 / 10 % 6) [] ++ [40]) else [40]
theorem headOf_ok (xs : List Nat) (k : Nat) : HdOk (headOf xs k) := by
  unfold headOf
  split
  · refine .inr ⟨97 + k, _, by omega, by omega, ?_, rfl⟩
    have h6 : xs.getD k 0 / 10 % 6 < 6 := Nat.mod_lt _ (by decide)
    generalize xs.getD k 0 / 10 % 6 = i at h6
    match i, h6 with
    | 0, _ => simp [pieces]
    | 1, _ => simp [pieces]
    | 2, _ => simp [pieces]
    | 3, _ => simp [pieces]
    | 4, _ => simp [pieces]
    | 5, _ => simp [pieces]
  · exact .inl rfl
noncomputable def body16 : Fm → Option Out := (seqF (appF 2 (binF .Add (binF .Add (subF (cS (Str.ofString "abcdefg")) (getV 3)) (subF (tupF (consF (cS (Str.ofString "")) (consF (cS (Str.ofString "\\(")) (consF (cS (Str.ofString "\")\"")) (consF (cS (Str.ofString "\\\\")) (consF (cS (Str.ofString "\"(\"")) (consF (cS (Str.ofString "\\\"")) nilF))))))) (binF .Mod (binF .FloorDiv (getV 4) (cI 10)) (cI 6)))) (cS (Str.ofString "(")))) (seqF (extF 2 (binF .Mult (listF (consF (cS (Str.ofString ")")) nilF)) (binF .Sub (binF .Add (subF (getV 1) (getV 3)) (cI 1)) (subF (binF .Add (getV 1) (listF (consF (cI 0) nilF))) (binF .Add (getV 3) (cI 1)))))) nextF))
theorem itemV_nats {l : List Nat} {k x : Nat} (h : l[k]? = some x) (hz : l.length ≤ 1000) : itemV (natsD l) (.int k) = some (.int x) := itemV_map h hz
theorem abc_item {k : Nat} (h : k < 7) : itemV (.str (Str.ofString "abcdefg")) (.int k) = some (tx [97 + k]) := by
  match k, h with
  | 0, _ => kernel_rfl
  | 1, _ => kernel_rfl
  | 2, _ => kernel_rfl
  | 3, _ => kernel_rfl
  | 4, _ => kernel_rfl
  | 5, _ => kernel_rfl
  | 6, _ => kernel_rfl
theorem piece_item (i : Nat) (h : i < 6) : itemV (.tuple [.str (Str.ofString ""), .str (Str.ofString "\\("), .str (Str.ofString "\")\""), .str (Str.ofString "\\\\"), .str (Str.ofString "\"(\""), .str (Str.ofString "\\\"")]) (.int i) = some (tx (pieces.getD i [])) := by
  match i, h with
  | 0, _ => kernel_rfl
  | 1, _ => kernel_rfl
  | 2, _ => kernel_rfl
  | 3, _ => kernel_rfl
  | 4, _ => kernel_rfl
  | 5, _ => kernel_rfl
theorem fdiv_nat (x n : Nat) : (x : Int).fdiv n = ((x / n : Nat) : Int) := by rw [Int.fdiv_eq_ediv_of_nonneg _ (by omega)]; omega
theorem fmod_nat (x n : Nat) : (x : Int).fmod n = ((x % n : Nat) : Int) := by rw [Int.fmod_eq_emod_of_nonneg _ (by omega)]; omega
theorem rep_one (a : PyData) (n : Int) : rep [a] n = List.replicate n.toNat a := by
  unfold rep
  generalize n.toNat = m
  induction m with
  | zero => rfl
  | succ m ih => rw [List.replicate_succ, List.flatten_cons, ih, List.replicate_succ]; rfl
theorem b16 {xs ds : List Nat} {acc : List PyData} {k x d e : Nat} (hk : k < 7) (hx : xs[k]? = some x) (hd : ds[k]? = some d) (he : (ds ++ [0])[k + 1]? = some e) (hl : ds.length ≤ 100) (hd2 : d ≤ 100) (he2 : e ≤ 100) (ha : acc.length ≤ 10000) :
    body16 [some (natsD xs), some (natsD ds), some (.list acc), some (.int k), some (.int x)] = some (.next [some (natsD xs), some (natsD ds), some (.list (acc ++ (uD (headOf xs) (some k) :: List.replicate (d + 1 - e) (uD (headOf xs) none)))), some (.int k), some (.int x)]) := by
  have hg : xs.getD k 0 = x := by simp [List.getD, hx]
  have hv : binF .Add (binF .Add (subF (cS (Str.ofString "abcdefg")) (getV 3)) (subF (tupF (consF (cS (Str.ofString "")) (consF (cS (Str.ofString "\\(")) (consF (cS (Str.ofString "\")\"")) (consF (cS (Str.ofString "\\\\")) (consF (cS (Str.ofString "\"(\"")) (consF (cS (Str.ofString "\\\"")) nilF))))))) (binF .Mod (binF .FloorDiv (getV 4) (cI 10)) (cI 6)))) (cS (Str.ofString "(")) [some (natsD xs), some (natsD ds), some (.list acc), some (.int k), some (.int x)] = some (uD (headOf xs) (some k)) := by
    have h6 : x / 10 % 6 < 6 := Nat.mod_lt _ (by decide)
    have h1 : binF .Mod (binF .FloorDiv (getV 4) (cI 10)) (cI 6) [some (natsD xs), some (natsD ds), some (.list acc), some (.int k), some (.int x)] = some (.int ((x / 10 % 6 : Nat) : Int)) := by
      refine (binF_eq (a := .int ((x / 10 : Nat) : Int)) ((binF_eq rfl rfl).trans ?_) rfl).trans ?_
      · show some (PyData.int ((x : Int).fdiv 10)) = _
        rw [show (10 : Int) = ((10 : Nat) : Int) from rfl, fdiv_nat]
      · show some (PyData.int (((x / 10 : Nat) : Int).fmod 6)) = _
        rw [show (6 : Int) = ((6 : Nat) : Int) from rfl, fmod_nat]
    have hp : (pieces.getD (x / 10 % 6) []).length ≤ 5 := by
      generalize x / 10 % 6 = i at h6
      match i, h6 with
      | 0, _ => decide
      | 1, _ => decide
      | 2, _ => decide
      | 3, _ => decide
      | 4, _ => decide
      | 5, _ => decide
    refine (binF_eq ((binF_eq ((subF_eq rfl rfl).trans (abc_item hk)) ((subF_eq rfl h1).trans (piece_item _ h6))).trans (binV_addS (by simp only [List.length_append, List.length_cons, List.length_nil]; omega))) (congrArg (fun x => some (PyData.str x)) l_sx)).trans ((binV_addS (by simp only [List.length_append, List.length_cons, List.length_nil]; omega)).trans ?_)
    show some (tx (([97 + k] ++ pieces.getD (x / 10 % 6) []) ++ [40])) = some (tx (headOf xs k))
    unfold headOf
    rw [if_pos hk, hg]
    rfl
  have hm : binF .Mult (listF (consF (cS (Str.ofString ")")) nilF)) (binF .Sub (binF .Add (subF (getV 1) (getV 3)) (cI 1)) (subF (binF .Add (getV 1) (listF (consF (cI 0) nilF))) (binF .Add (getV 3) (cI 1)))) [some (natsD xs), some (natsD ds), some (.list (acc ++ [uD (headOf xs) (some k)])), some (.int k), some (.int x)] = some (.list (List.replicate (d + 1 - e) (uD (headOf xs) none))) := by
    have h1 : binF .Add (subF (getV 1) (getV 3)) (cI 1) [some (natsD xs), some (natsD ds), some (.list (acc ++ [uD (headOf xs) (some k)])), some (.int k), some (.int x)] = some (.int ((d : Int) + 1)) := (binF_eq ((subF_eq rfl rfl).trans (itemV_nats hd (by omega))) rfl).trans rfl
    have h2 : binF .Add (getV 1) (listF (consF (cI 0) nilF)) [some (natsD xs), some (natsD ds), some (.list (acc ++ [uD (headOf xs) (some k)])), some (.int k), some (.int x)] = some (natsD (ds ++ [0])) := by
      refine (binF_eq (b := .list [.int 0]) rfl rfl).trans ?_
      show (if (ds.map fun (n : Nat) => PyData.int n).length + [PyData.int 0].length ≤ 100000 then some (PyData.list ((ds.map fun (n : Nat) => PyData.int n) ++ [PyData.int 0])) else none) = _
      rw [if_pos (by simp; omega)]; simp
    have h3 : binF .Add (getV 3) (cI 1) [some (natsD xs), some (natsD ds), some (.list (acc ++ [uD (headOf xs) (some k)])), some (.int k), some (.int x)] = some (.int ((k + 1 : Nat) : Int)) := (binF_eq rfl rfl).trans rfl
    refine (binF_eq (a := .list [tx [41]]) (b := .int ((d : Int) + 1 - e)) ?_ ((binF_eq h1 ((subF_eq h2 h3).trans (itemV_nats he (by simp; omega)))).trans rfl)).trans ?_
    · show some (PyData.list [PyData.str (Str.ofString ")")]) = _
      rw [r_sx]
    · show (if [tx [41]].length ≤ 1000 ∧ -1000 < ((d : Int) + 1 - e) ∧ ((d : Int) + 1 - e) < 1000 then some (PyData.list (rep [tx [41]] ((d : Int) + 1 - e))) else none) = _
      rw [if_pos ⟨by simp, by omega, by omega⟩, rep_one, show ((d : Int) + 1 - e).toNat = d + 1 - e from by omega]
      rfl
  unfold body16
  rw [seqF_next ((appF_eq (ds := acc) rfl hv (Nat.le_of_ble_eq_true rfl) (by omega)).trans rfl)]
  have hx2 : extF 2 (binF .Mult (listF (consF (cS (Str.ofString ")")) nilF)) (binF .Sub (binF .Add (subF (getV 1) (getV 3)) (cI 1)) (subF (binF .Add (getV 1) (listF (consF (cI 0) nilF))) (binF .Add (getV 3) (cI 1))))) [some (natsD xs), some (natsD ds), some (.list (acc ++ [uD (headOf xs) (some k)])), some (.int k), some (.int x)] =
      some (.next [some (natsD xs), some (natsD ds), some (.list ((acc ++ [uD (headOf xs) (some k)]) ++ List.replicate (d + 1 - e) (uD (headOf xs) none))), some (.int k), some (.int x)]) := (extF_eq (ds := acc ++ [uD (headOf xs) (some k)]) rfl hm (Nat.le_of_ble_eq_true rfl) (by simp; omega)).trans rfl
  have hx3 : seqF (extF 2 (binF .Mult (listF (consF (cS (Str.ofString ")")) nilF)) (binF .Sub (binF .Add (subF (getV 1) (getV 3)) (cI 1)) (subF (binF .Add (getV 1) (listF (consF (cI 0) nilF))) (binF .Add (getV 3) (cI 1)))))) nextF [some (natsD xs), some (natsD ds), some (.list (acc ++ [uD (headOf xs) (some k)])), some (.int k), some (.int x)] = _ := seqF_next hx2
  refine Eq.trans hx3 ?_
  show some (Out.next _) = _
  simp
theorem units_loop {xs ds : List Nat} (hn : xs.length = ds.length) (h7 : ds.length ≤ 7) (hs : ∀ d ∈ ds, d ≤ 100) : ∀ (r : List Nat) (k : Nat) (acc : List PyData) (c1 c2 : Option PyData), xs.drop k = r → acc.length ≤ 200 * k →
    ∃ c1' c2', forF (putV2 3 4) body16 (enumL k (r.map fun (n : Nat) => .int n)) [some (natsD xs), some (natsD ds), some (.list acc), c1, c2] = some (.next [some (natsD xs), some (natsD ds), some (.list (acc ++ (unitsGo k (ds.drop k)).map (uD (headOf xs)))), c1', c2'])
  | [], k, acc, c1, c2, hr, _ => by
    have hk : xs.length ≤ k := by have := congrArg List.length hr; simp at this; omega
    have : ds.drop k = [] := List.drop_eq_nil_of_le (by omega)
    exact ⟨c1, c2, by rw [this]; simp [enumL, forF, unitsGo]⟩
  | x :: r, k, acc, c1, c2, hr, ha => by
    have hk : k < xs.length := by have := congrArg List.length hr; simp at this; omega
    have hr' : xs.drop (k + 1) = r := by rw [← List.drop_drop, hr]; rfl
    have hx : xs[k]? = some x := by
      have : (xs.drop k)[0]? = some x := by rw [hr]; rfl
      simpa using this
    obtain ⟨d, hd⟩ : ∃ d, ds[k]? = some d := ⟨ds[k]'(by omega), List.getElem?_eq_getElem (by omega)⟩
    obtain ⟨e, he⟩ : ∃ e, (ds ++ [0])[k + 1]? = some e := ⟨(ds ++ [0])[k + 1]'(by simp; omega), List.getElem?_eq_getElem (by simp; omega)⟩
    have hd2 : d ≤ 100 := hs d (List.mem_of_getElem? hd)
    have he2 : e ≤ 100 := by
      rcases List.mem_append.mp (List.mem_of_getElem? he) with q | q
      · exact hs e q
      · simp at q; omega
    have hb := b16 (acc := acc) (by omega) hx hd he (by omega) hd2 he2 (by omega)
    obtain ⟨c1', c2', e1⟩ := units_loop hn h7 hs r (k + 1) (acc ++ (uD (headOf xs) (some k) :: List.replicate (d + 1 - e) (uD (headOf xs) none))) (some (.int k)) (some (.int x)) hr' (by simp; omega)
    refine ⟨c1', c2', ?_⟩
    have hp : putV2 3 4 (.tuple [.int (k : Int), .int (x : Int)]) [some (natsD xs), some (natsD ds), some (.list acc), c1, c2] = some [some (natsD xs), some (natsD ds), some (.list acc), some (.int k), some (.int x)] := rfl
    rw [List.map_cons, forF_enum hp, hb]
    refine e1.trans ?_
    have hdd : ds.drop k = d :: ds.drop (k + 1) := by
      obtain ⟨q1, q2⟩ := List.getElem?_eq_some_iff.mp hd
      rw [List.drop_eq_getElem_cons q1, q2]
    have hgo : unitsGo k (ds.drop k) = some k :: (List.replicate (d + 1 - e) none ++ unitsGo (k + 1) (ds.drop (k + 1))) := by
      rw [hdd]
      cases hq : ds.drop (k + 1) with
      | nil =>
        have : ds.length = k + 1 := by have := congrArg List.length hq; simp at this; omega
        have : e = 0 := by
          rw [List.getElem?_append_right (by omega)] at he
          rw [this] at he
          simpa using he.symm
        subst this
        simp [unitsGo]
      | cons e' r' =>
        have hlt : k + 1 < ds.length := by have := congrArg List.length hq; simp at this; omega
        have : e' = e := by
          rw [List.getElem?_append_left hlt] at he
          have h0 : (ds.drop (k + 1))[0]? = some e' := by rw [hq]; rfl
          simp at h0
          rw [he] at h0; exact (Option.some.inj h0).symm
        subst this
        rfl
    rw [hgo]
    simp
theorem F_16_units {xs ds : List Nat} (hn : xs.length = ds.length) (h7 : ds.length ≤ 7) (hs : ∀ d ∈ ds, d ≤ 100) : F_16 [natsD xs, natsD ds] = some (usD (headOf xs) (unitsOf ds)) := by
  obtain ⟨c1', c2', e1⟩ := units_loop hn h7 hs xs 0 [] none none rfl (by simp)
  show f_16 [some (natsD xs), some (natsD ds), none, none, none] = _
  have step : f_16 [some (natsD xs), some (natsD ds), none, none, none] = (forF (putV2 3 4) body16 (enumL 0 (xs.map fun (n : Nat) => .int n)) [some (natsD xs), some (natsD ds), some (.list []), none, none]).bind fun o => match o with | .next fr' => lastF (retF (getV 2)) fr' | .ret v => some v := rfl
  rw [step, e1]
  rfl
end Mine
end

section
open PySem PySem.W PyProof.Rows PySem.Calls
set_option maxRecDepth 100000
set_option linter.all false
namespace Mine

theorem compGo_one {g : PyData → Fm → Option Fm} {t f v rest fr fr1 y} (hg : g v fr = some fr1) (ht : t fr1 = some true) (hf : f fr1 = some y) : compGo g t f (v :: rest) fr = (compGo g t f rest fr1).map (y :: ·) := by
  show (g v fr).bind _ = _; rw [hg]; show (t fr1).bind _ = _; rw [ht]; show (f fr1).bind _ = _; rw [hf]; rfl
theorem compGo_not {g : PyData → Fm → Option Fm} {t f v rest fr fr1} (hg : g v fr = some fr1) (ht : t fr1 = some false) : compGo g t f (v :: rest) fr = compGo g t f rest fr1 := by
  show (g v fr).bind _ = _; rw [hg]; show (t fr1).bind _ = _; rw [ht]; rfl
theorem compF_eq {fi : Fm → Option (List PyData)} {g t f idxs k fr items out} (hi : fi fr = some items) (hz : items.length ≤ 100000) (h : compGo g t f items (inF idxs k fr) = some out) : compF fi g t f idxs k fr = some (.list out) := by
  show (fi fr).bind _ = _; rw [hi]; show (if items.length ≤ 100000 then _ else _) = _; rw [if_pos hz, h]; rfl
/-! _law_drawn -/
noncomputable def depGo : Nat → List Nat → List Nat
  | _, [] => []
  | last, x :: r => (x % (last + 2)) :: depGo (x % (last + 2)) r
noncomputable def depL (xs : List Nat) : List Nat := 0 :: depGo 0 xs.tail
noncomputable def body15 : Fm → Option Out := (seqF (appF 3 (binF .Mod (getV 4) (binF .Add (ownItemF 3 (negF (cI 1))) (cI 2)))) nextF)
theorem neg1 (fr : Fm) : negF (cI 1) fr = some (.int (-1)) := rfl
theorem last_item {l : List PyData} {a : PyData} (h : l.length ≤ 1000) : itemV (.list (l ++ [a])) (.int (-1)) = some a := by
  rw [itemV_list, if_pos (by decide)]
  have : seqIndex? (-1) (l ++ [a]).length = some l.length := by
    unfold seqIndex?
    simp
    omega
  rw [this]
  simp
theorem dep_loop15 {S G D : PyData} : ∀ (r : List Nat) (acc : List PyData) (last : Nat) (c : Option PyData), acc.length + r.length ≤ 100 →
    ∃ c', forF (putV 4) body15 (r.map fun (n : Nat) => .int n) [some S, some G, some D, some (.list (acc ++ [.int last])), c] = some (.next [some S, some G, some D, some (.list ((acc ++ [.int last]) ++ (depGo last r).map fun (n : Nat) => .int n)), c'])
  | [], acc, last, c, _ => ⟨c, by simp [forF, depGo]⟩
  | x :: r, acc, last, c, h => by
    have hm : binF .Mod (getV 4) (binF .Add (ownItemF 3 (negF (cI 1))) (cI 2)) [some S, some G, some D, some (.list (acc ++ [.int last])), some (.int x)] = some (.int ((x % (last + 2) : Nat) : Int)) := by
      have ho : ownItemF 3 (negF (cI 1)) [some S, some G, some D, some (.list (acc ++ [.int last])), some (.int x)] = some (.int last) := last_item (by simp at h; omega)
      refine (binF_eq rfl ((binF_eq ho rfl).trans (binV_add _ _))).trans ?_
      show (if (last : Int) + 2 = 0 then none else some (PyData.int ((x : Int).fmod ((last : Int) + 2)))) = _
      rw [if_neg (by omega), show (last : Int) + 2 = ((last + 2 : Nat) : Int) from by omega, fmod_nat]
    have hb : body15 [some S, some G, some D, some (.list (acc ++ [.int last])), some (.int x)] = some (.next [some S, some G, some D, some (.list ((acc ++ [.int last]) ++ [.int ((x % (last + 2) : Nat) : Int)])), some (.int x)]) := by
      unfold body15
      rw [seqF_next ((appF_eq (ds := acc ++ [.int last]) rfl hm (Nat.le_of_ble_eq_true rfl) (by simp at h ⊢; omega)).trans rfl)]
      rfl
    obtain ⟨c', e⟩ := dep_loop15 (S := S) (G := G) (D := D) r (acc ++ [.int last]) (x % (last + 2)) (some (.int x)) (by simp at h ⊢; omega)
    refine ⟨c', ?_⟩
    show ((body15 [some S, some G, some D, some (.list (acc ++ [.int last])), some (.int x)]).bind fun o => match o with | .next fr2 => forF (putV 4) body15 (r.map fun (n : Nat) => .int n) fr2 | .ret v => some (.ret v)) = _
    rw [hb]
    refine Eq.trans e ?_
    simp [depGo]
noncomputable def cks : List Nat := [20, 11, 4, 32, 52, 43, 25]
noncomputable def elt15 : Fm → Option PyData := (binF .Mod (binF .Add (subF (tupF (consF (cI 20) (consF (cI 11) (consF (cI 4) (consF (cI 32) (consF (cI 52) (consF (cI 43) (consF (cI 25) nilF)))))))) (getV 1)) (subF (getV 0) (getV 1))) (binF .Pow (cI 10) (cI 6)))
theorem ck_item {k : Nat} (h : k < 7) : ∃ c : Int, itemV (.tuple [.int 20, .int 11, .int 4, .int 32, .int 52, .int 43, .int 25]) (.int k) = some (.int c) := by
  match k, h with
  | 0, _ => exact ⟨20, rfl⟩
  | 1, _ => exact ⟨11, rfl⟩
  | 2, _ => exact ⟨4, rfl⟩
  | 3, _ => exact ⟨32, rfl⟩
  | 4, _ => exact ⟨52, rfl⟩
  | 5, _ => exact ⟨43, rfl⟩
  | 6, _ => exact ⟨25, rfl⟩
theorem itemV_ints {l : List Int} {k : Nat} (hk : k < l.length) (hz : l.length ≤ 1000) : ∃ x : Int, itemV (.list (l.map .int)) (.int k) = some (.int x) := ⟨l[k], itemV_map (List.getElem?_eq_getElem hk) hz⟩
theorem drawn_go {given : List Int} (hg : 7 ≤ given.length) (hz : given.length ≤ 100) : ∀ (m k : Nat) (c : Option PyData), k + m ≤ 7 →
    ∃ xs : List Nat, xs.length = m ∧ (∀ x ∈ xs, x < 1000000) ∧ compGo (putV 1) trueF elt15 (rng k 1 m) [some (.list (given.map .int)), c] = some (xs.map fun (n : Nat) => .int n)
  | 0, k, c, _ => ⟨[], rfl, (fun _ q => (nomatch q)), rfl⟩
  | m + 1, k, c, h => by
    obtain ⟨cc, hc⟩ := ck_item (k := k) (by omega)
    obtain ⟨x, hx⟩ := itemV_ints (l := given) (k := k) (by omega) (by omega)
    have he : elt15 [some (.list (given.map .int)), some (.int k)] = some (.int (((cc + x).fmod 1000000).toNat : Int)) := by
      have h0 := Int.fmod_nonneg_of_pos (cc + x) (b := 1000000) (by decide)
      refine (binF_eq (b := .int 1000000) ((binF_eq ((subF_eq rfl rfl).trans hc) ((subF_eq rfl rfl).trans hx)).trans (binV_add _ _)) rfl).trans ?_
      show (if (1000000 : Int) = 0 then none else some (PyData.int ((cc + x).fmod 1000000))) = _
      rw [if_neg (by decide), Int.toNat_of_nonneg h0]
    have hlt := Int.fmod_lt_of_pos (cc + x) (b := 1000000) (by decide)
    obtain ⟨xs, e1, e2, e3⟩ := drawn_go hg hz m (k + 1) (some (.int k)) (by omega)
    refine ⟨((cc + x).fmod 1000000).toNat :: xs, by simp [e1], fun y hy => ?_, ?_⟩
    · rcases List.mem_cons.mp hy with rfl | hy
      · omega
      · exact e2 y hy
    · have hr : rng (k : Int) 1 (m + 1) = .int k :: rng ((k + 1 : Nat) : Int) 1 m := by simp [rng]
      rw [hr]
      have hp : putV 1 (.int (k : Int)) [some (.list (given.map .int)), c] = some [some (.list (given.map .int)), some (.int k)] := rfl
      rw [compGo_one hp rfl he, e3]
      rfl
theorem F_15_units {ns : List Int} (hn : ns.length ≤ 63) : ∃ xs : List Nat, 5 ≤ xs.length ∧ xs.length ≤ 7 ∧ (∀ x ∈ xs, x < 1000000) ∧ F_15 [.list (ns.map .int)] = some (.tuple [natsD xs, natsD (depL xs)]) := by
  obtain ⟨given, hgv⟩ : ∃ g : List Int, g = ns.take 7 ++ List.replicate 7 0 := ⟨_, rfl⟩
  have hg : 7 ≤ given.length := by rw [hgv]; simp
  have hz : given.length ≤ 100 := by rw [hgv]; simp; omega
  obtain ⟨n, hnn⟩ : ∃ n : Nat, n = max 5 (min 7 ns.length) := ⟨_, rfl⟩
  obtain ⟨xs, e1, e2, e3⟩ := drawn_go hg hz n 0 none (by omega)
  refine ⟨xs, by omega, by omega, e2, ?_⟩
  show f_15 [some (.list (ns.map .int)), none, none, none, none] = _
  have s1 : setF 1 (binF .Add (sliceF (getV 0) pNone (pSome (cI 7))) (binF .Mult (listF (consF (cI 0) nilF)) (cI 7))) [some (.list (ns.map .int)), none, none, none, none] = some (.next [some (.list (ns.map .int)), some (.list (given.map .int)), none, none, none]) := by
    refine setF_eq ?_ (Nat.le_of_ble_eq_true rfl)
    have hp : sliceV (.list (ns.map .int)) none (some 7) = some (.list ((ns.take 7).map .int)) := by
      refine (sliceV_list (by simp; omega)).trans ?_
      have := pick_to (l := ns.map PyData.int) (a := 7)
      rw [show ((7 : Nat) : Int) = 7 from rfl] at this
      rw [this]; simp
    refine (binF_eq ((sliceF_eq rfl rfl rfl).trans hp) (b := .list ((List.replicate 7 (0 : Int)).map .int)) rfl).trans ?_
    show (if ((ns.take 7).map PyData.int).length + ((List.replicate 7 (0 : Int)).map PyData.int).length ≤ 100000 then some (PyData.list ((ns.take 7).map PyData.int ++ (List.replicate 7 (0 : Int)).map PyData.int)) else none) = _
    rw [if_pos (by simp; omega), hgv]; simp
  have hl : lenV [.list (ns.map .int)] = some (.int ns.length) := by rw [lenV_list (by simp; omega)]; simp
  have hr : rngF (consF (callF (consF (cI 5) (consF (callF (consF (cI 7) (consF (callF (consF (getV 0) nilF) lenV) nilF)) minV) nilF)) maxV) nilF) [some (.list (ns.map .int)), some (.list (given.map .int)), none, none, none] = some (rng ((0 : Nat) : Int) 1 n) := by
    have hmin : minV [.int 7, .int ns.length] = some (.int ((min 7 ns.length : Nat) : Int)) := by
      show some (PyData.int (if (ns.length : Int) < 7 then (ns.length : Int) else 7)) = _
      congr 2; split <;> omega
    have hmax : maxV [.int 5, .int ((min 7 ns.length : Nat) : Int)] = some (.int (n : Int)) := by
      show some (PyData.int (if ((min 7 ns.length : Nat) : Int) > 5 then ((min 7 ns.length : Nat) : Int) else 5)) = _
      congr 2; split <;> omega
    refine rngF_eq (one_eq ((callF_eq (consF_eq rfl (one_eq ((callF_eq (consF_eq rfl (one_eq ((callF_eq (one_eq rfl)).trans hl)))).trans hmin)))).trans hmax)) ?_
    rw [rangeV_one, if_pos ⟨by omega, by omega⟩]
    rfl
  have s2 : setF 2 (compF (rngF (consF (callF (consF (cI 5) (consF (callF (consF (cI 7) (consF (callF (consF (getV 0) nilF) lenV) nilF)) minV) nilF)) maxV) nilF)) (putV 1) trueF elt15 [1] 1) [some (.list (ns.map .int)), some (.list (given.map .int)), none, none, none] = some (.next [some (.list (ns.map .int)), some (.list (given.map .int)), some (natsD xs), none, none]) := by
    have hlen : ∀ (m : Nat) (x : Int), (rng x 1 m).length = m := by
      intro m
      induction m with
      | zero => intro x; rfl
      | succ m ih => intro x; simp [rng, ih]
    exact setF_eq (compF_eq hr (by rw [hlen]; omega) e3) (Nat.le_of_ble_eq_true rfl)
  obtain ⟨x0, r, rfl⟩ : ∃ x r, xs = x :: r := by
    cases xs with
    | nil => simp at e1; omega
    | cons x r => exact ⟨x, r, rfl⟩
  obtain ⟨c', e4⟩ := dep_loop15 (S := .list (ns.map .int)) (G := .list (given.map .int)) (D := natsD (x0 :: r)) r [] 0 none (by simp at e1 ⊢; omega)
  refine (seqR_next s1).trans ((seqR_next s2).trans ?_)
  have hs : asList (sliceF (getV 2) (pSome (cI 1)) pNone) [some (.list (ns.map .int)), some (.list (given.map .int)), some (natsD (x0 :: r)), some (.list [.int 0]), none] = some (r.map fun (n : Nat) => .int n) := by
    have hp : sliceV (natsD (x0 :: r)) (some 1) none = some (natsD r) := by
      refine (sliceV_list (by simp at e1 ⊢; omega)).trans ?_
      have := pick_from (l := (x0 :: r).map fun (n : Nat) => PyData.int n) (a := 1)
      rw [show ((1 : Nat) : Int) = 1 from rfl] at this
      rw [this]; rfl
    show (sliceF (getV 2) (pSome (cI 1)) pNone [some (.list (ns.map .int)), some (.list (given.map .int)), some (natsD (x0 :: r)), some (.list [.int 0]), none]).bind _ = _
    rw [(sliceF_eq rfl rfl rfl).trans hp]
    rfl
  show seqR (forE (asList (sliceF (getV 2) (pSome (cI 1)) pNone)) (putV 4) body15) (lastF (retF (pairO (getV 2) (getV 3)))) [some (.list (ns.map .int)), some (.list (given.map .int)), some (natsD (x0 :: r)), some (.list [.int 0]), none] = _
  have e4' : forF (putV 4) body15 (r.map fun (n : Nat) => .int n) [some (.list (ns.map .int)), some (.list (given.map .int)), some (natsD (x0 :: r)), some (.list [.int 0]), none] = _ := e4
  rw [seqR_next ((forE_eq hs).trans e4')]
  show some (PyData.tuple [natsD (x0 :: r), _]) = _
  simp [depL]
end Mine
end

section
open PySem PySem.W PyProof.Rows PySem.Calls
set_option maxRecDepth 100000
set_option linter.all false
namespace Mine

/-! bisect_left, mirrored -/
theorem whileF_go {t : Fm → Option Bool} {f : Fm → Option Out} {n fr fr1} (h : t fr = some true) (h2 : f fr = some (.next fr1)) : whileF t f (n + 1) fr = whileF t f n fr1 := by
  show (t fr).bind _ = _; rw [h]; show (f fr).bind _ = _; rw [h2]; rfl
theorem whileF_end {t : Fm → Option Bool} {f : Fm → Option Out} {n fr} (h : t fr = some false) : whileF t f (n + 1) fr = some (.next fr) := by
  show (t fr).bind _ = _; rw [h]; rfl
noncomputable def bisL {α : Type} (lt : α → Bool) (l : List α) : Nat → Nat → Nat → Option Nat
  | 0, _, _ => none
  | n + 1, lo, hi => if Nat.blt lo hi then (match l[(lo + hi) / 2]? with
    | some a => if lt a then bisL lt l n ((lo + hi) / 2 + 1) hi else bisL lt l n lo ((lo + hi) / 2)
    | none => none) else some lo
theorem cmpV_lt (a b : Nat) : cmpV .Lt (.int a) (.int b) = some (Nat.blt a b) := by
  show some (decide ((a : Int) < b)) = _
  congr 1
  rw [Bool.eq_iff_iff, decide_eq_true_eq]
  simp [Nat.blt_eq]
theorem mid_eq {f g : Fm → Option PyData} {fr : Fm} {lo hi : Nat} (h1 : f fr = some (.int lo)) (h2 : g fr = some (.int hi)) : binF .FloorDiv (binF .Add f g) (cI 2) fr = some (.int (((lo + hi) / 2 : Nat) : Int)) := by
  refine (binF_eq (a := .int (((lo + hi : Nat)) : Int)) ((binF_eq h1 h2).trans rfl) rfl).trans ?_
  show some (PyData.int (((lo + hi : Nat) : Int).fdiv 2)) = _
  rw [show (2 : Int) = ((2 : Nat) : Int) from rfl, fdiv_nat]
noncomputable def wtest4 : Fm → Option Bool := cmpF .Lt (getV 2) (getV 3)
noncomputable def wbody4 : Fm → Option Out := (seqF (setF 5 (binF .FloorDiv (binF .Add (getV 2) (getV 3)) (cI 2))) (seqF (iteF (cmpF .Lt (subF (getV 0) (getV 5)) (getV 1)) (seqF (setF 2 (binF .Add (getV 5) (cI 1))) nextF) (seqF (setF 3 (getV 5)) nextF)) nextF))
theorem bis_loop {α : Type} {D : α → PyData} {l : List α} {x : PyData} {lt : α → Bool} (hlt : ∀ a ∈ l, cmpV .Lt (D a) x = some (lt a)) (hz : l.length ≤ 1000) : ∀ (n lo hi i : Nat) (K c : Option PyData), bisL lt l n lo hi = some i →
    ∃ j c', whileF wtest4 wbody4 n [some (.list (l.map D)), some x, some (.int lo), some (.int hi), K, c] = some (.next [some (.list (l.map D)), some x, some (.int i), j, K, c'])
  | 0, _, _, _, _, _, h => by cases h
  | n + 1, lo, hi, i, K, c, h => by
    unfold bisL at h
    have ht : wtest4 [some (.list (l.map D)), some x, some (.int lo), some (.int hi), K, c] = some (Nat.blt lo hi) := (cmpF_eq rfl rfl).trans (cmpV_lt lo hi)
    split at h
    · rename_i hb
      rw [hb] at ht
      split at h
      · rename_i a ha
        have e1 : setF 5 (binF .FloorDiv (binF .Add (getV 2) (getV 3)) (cI 2)) [some (.list (l.map D)), some x, some (.int lo), some (.int hi), K, c] = some (.next [some (.list (l.map D)), some x, some (.int lo), some (.int hi), K, some (.int (((lo + hi) / 2 : Nat) : Int))]) := setF_eq (mid_eq rfl rfl) (Nat.le_of_ble_eq_true rfl)
        have e2 : cmpF .Lt (subF (getV 0) (getV 5)) (getV 1) [some (.list (l.map D)), some x, some (.int lo), some (.int hi), K, some (.int (((lo + hi) / 2 : Nat) : Int))] = some (lt a) := (cmpF_eq ((subF_eq rfl rfl).trans (itemV_map ha hz)) rfl).trans (hlt a (List.mem_of_getElem? ha))
        split at h
        · rename_i hla
          rw [hla] at e2
          obtain ⟨j, c', ih⟩ := bis_loop hlt hz n ((lo + hi) / 2 + 1) hi i K (some (.int (((lo + hi) / 2 : Nat) : Int))) h
          refine ⟨j, c', (whileF_go (fr1 := [some (.list (l.map D)), some x, some (.int (((lo + hi) / 2 + 1 : Nat) : Int)), some (.int hi), K, some (.int (((lo + hi) / 2 : Nat) : Int))]) ht ?_).trans ih⟩
          unfold wbody4
          rw [seqF_next e1]
          exact (seqF_next ((iteF_true e2).trans ((seqF_next (setF_eq ((binF_eq rfl rfl).trans rfl) (Nat.le_of_ble_eq_true rfl))).trans rfl))).trans rfl
        · rename_i hla
          have hla := Bool.eq_false_iff.mpr hla
          rw [hla] at e2
          obtain ⟨j, c', ih⟩ := bis_loop hlt hz n lo ((lo + hi) / 2) i K (some (.int (((lo + hi) / 2 : Nat) : Int))) h
          refine ⟨j, c', (whileF_go (fr1 := [some (.list (l.map D)), some x, some (.int lo), some (.int (((lo + hi) / 2 : Nat) : Int)), K, some (.int (((lo + hi) / 2 : Nat) : Int))]) ht ?_).trans ih⟩
          unfold wbody4
          rw [seqF_next e1]
          exact (seqF_next ((iteF_false e2).trans ((seqF_next (setF_eq rfl (Nat.le_of_ble_eq_true rfl))).trans rfl))).trans rfl
      · exact nomatch h
    · rename_i hb
      have hb := Bool.eq_false_iff.mpr hb
      rw [hb] at ht
      obtain rfl := Option.some.inj h
      exact ⟨_, _, whileF_end ht⟩
theorem F_4_gen {α : Type} {D : α → PyData} {l : List α} {x : PyData} {lt : α → Bool} (hlt : ∀ a ∈ l, cmpV .Lt (D a) x = some (lt a)) (hz : l.length ≤ 1000) {i : Nat} (h : bisL lt l 20 0 l.length = some i) : F_4 [.list (l.map D), x] = some (.int i) := by
  obtain ⟨j, c', e⟩ := bis_loop hlt hz 20 0 l.length i (some .none) none h
  show f_4 [some (.list (l.map D)), some x, some (.int 0), some .none, some .none, none] = _
  have hl : lenV [.list (l.map D)] = some (.int l.length) := by rw [lenV_list (by simp; omega)]; simp
  have s1 : iteF (cmpF .Lt (getV 2) (cI 0)) noF nextF [some (.list (l.map D)), some x, some (.int 0), some .none, some .none, none] = some (.next [some (.list (l.map D)), some x, some (.int 0), some .none, some .none, none]) := (iteF_false ((cmpF_eq rfl rfl).trans rfl)).trans rfl
  have s2 : iteF (cmpF .Is (getV 3) cN) (seqF (setF 3 (callF (consF (getV 0) nilF) lenV)) nextF) nextF [some (.list (l.map D)), some x, some (.int 0), some .none, some .none, none] = some (.next [some (.list (l.map D)), some x, some (.int 0), some (.int l.length), some .none, none]) :=
    (iteF_true ((cmpF_eq rfl rfl).trans rfl)).trans ((seqF_next (setF_eq ((callF_eq (one_eq rfl)).trans hl) (Nat.le_of_ble_eq_true rfl))).trans rfl)
  have s3 : iteF (cmpF .Is (getV 4) cN) (seqF (whileF wtest4 wbody4 20) nextF) noF [some (.list (l.map D)), some x, some (.int 0), some (.int l.length), some .none, none] = some (.next [some (.list (l.map D)), some x, some (.int i), j, some .none, c']) :=
    (iteF_true ((cmpF_eq rfl rfl).trans rfl)).trans ((seqF_next e).trans rfl)
  exact (seqR_next s1).trans ((seqR_next s2).trans ((seqR_next s3).trans rfl))

/-! bisect_right by the depths; insort_right; _law_order -/
noncomputable def bisR (ds : List Nat) (x : Nat) (l : List Nat) : Nat → Nat → Nat → Option Nat
  | 0, _, _ => none
  | n + 1, lo, hi => if Nat.blt lo hi then (match l[(lo + hi) / 2]? with
    | some a => (match ds[a]? with
      | some d => if Nat.blt x d then bisR ds x l n lo ((lo + hi) / 2) else bisR ds x l n ((lo + hi) / 2 + 1) hi
      | none => none)
    | none => none) else some lo
noncomputable def wbody3 : Fm → Option Out := (seqF (setF 5 (binF .FloorDiv (binF .Add (getV 2) (getV 3)) (cI 2))) (seqF (iteF (cmpF .Lt (getV 1) (keyF 4 (subF (getV 0) (getV 5)))) (seqF (setF 3 (getV 5)) nextF) (seqF (setF 2 (binF .Add (getV 5) (cI 1))) nextF)) nextF))
noncomputable abbrev keyD (ds : List Nat) : PyData := .dict [(.none, natsD ds)]
theorem lamV_eq (dd v : PyData) : lamV (.dict [(.none, dd)]) v = itemV dd v := rfl
theorem keyF_eq {i : Nat} {f : Fm → Option PyData} {fr k v} (h : getV i fr = some k) (h2 : f fr = some v) : keyF i f fr = lamV k v := by
  show (getV i fr).bind _ = _; rw [h]; show (f fr).bind _ = _; rw [h2]; rfl
theorem bisR_loop {ds l : List Nat} {x : Nat} (hz : l.length ≤ 1000) (hd : ds.length ≤ 1000) : ∀ (n lo hi i : Nat) (c : Option PyData), bisR ds x l n lo hi = some i →
    ∃ j c', whileF wtest4 wbody3 n [some (natsD l), some (.int x), some (.int lo), some (.int hi), some (keyD ds), c] = some (.next [some (natsD l), some (.int x), some (.int i), j, some (keyD ds), c'])
  | 0, _, _, _, _, h => by cases h
  | n + 1, lo, hi, i, c, h => by
    unfold bisR at h
    have ht : wtest4 [some (natsD l), some (.int x), some (.int lo), some (.int hi), some (keyD ds), c] = some (Nat.blt lo hi) := (cmpF_eq rfl rfl).trans (cmpV_lt lo hi)
    split at h
    · rename_i hb
      rw [hb] at ht
      split at h
      · rename_i a ha
        split at h
        · rename_i d hda
          have e1 : setF 5 (binF .FloorDiv (binF .Add (getV 2) (getV 3)) (cI 2)) [some (natsD l), some (.int x), some (.int lo), some (.int hi), some (keyD ds), c] = some (.next [some (natsD l), some (.int x), some (.int lo), some (.int hi), some (keyD ds), some (.int (((lo + hi) / 2 : Nat) : Int))]) := setF_eq (mid_eq rfl rfl) (Nat.le_of_ble_eq_true rfl)
          have ek : keyF 4 (subF (getV 0) (getV 5)) [some (natsD l), some (.int x), some (.int lo), some (.int hi), some (keyD ds), some (.int (((lo + hi) / 2 : Nat) : Int))] = some (.int d) :=
            (keyF_eq rfl ((subF_eq rfl rfl).trans (itemV_nats ha hz))).trans ((lamV_eq _ _).trans (itemV_nats hda hd))
          have e2 : cmpF .Lt (getV 1) (keyF 4 (subF (getV 0) (getV 5))) [some (natsD l), some (.int x), some (.int lo), some (.int hi), some (keyD ds), some (.int (((lo + hi) / 2 : Nat) : Int))] = some (Nat.blt x d) := (cmpF_eq rfl ek).trans (cmpV_lt x d)
          split at h
          · rename_i hla
            rw [hla] at e2
            obtain ⟨j, c', ih⟩ := bisR_loop hz hd n lo ((lo + hi) / 2) i (some (.int (((lo + hi) / 2 : Nat) : Int))) h
            refine ⟨j, c', (whileF_go (fr1 := [some (natsD l), some (.int x), some (.int lo), some (.int (((lo + hi) / 2 : Nat) : Int)), some (keyD ds), some (.int (((lo + hi) / 2 : Nat) : Int))]) ht ?_).trans ih⟩
            unfold wbody3
            rw [seqF_next e1]
            exact (seqF_next ((iteF_true e2).trans ((seqF_next (setF_eq rfl (Nat.le_of_ble_eq_true rfl))).trans rfl))).trans rfl
          · rename_i hla
            have hla := Bool.eq_false_iff.mpr hla
            rw [hla] at e2
            obtain ⟨j, c', ih⟩ := bisR_loop hz hd n ((lo + hi) / 2 + 1) hi i (some (.int (((lo + hi) / 2 : Nat) : Int))) h
            refine ⟨j, c', (whileF_go (fr1 := [some (natsD l), some (.int x), some (.int (((lo + hi) / 2 + 1 : Nat) : Int)), some (.int hi), some (keyD ds), some (.int (((lo + hi) / 2 : Nat) : Int))]) ht ?_).trans ih⟩
            unfold wbody3
            rw [seqF_next e1]
            exact (seqF_next ((iteF_false e2).trans ((seqF_next (setF_eq ((binF_eq rfl rfl).trans rfl) (Nat.le_of_ble_eq_true rfl))).trans rfl))).trans rfl
        · exact nomatch h
      · exact nomatch h
    · rename_i hb
      have hb := Bool.eq_false_iff.mpr hb
      rw [hb] at ht
      obtain rfl := Option.some.inj h
      exact ⟨_, _, whileF_end ht⟩
end Mine
end

section
open PySem PySem.W PyProof.Rows PySem.Calls
set_option maxRecDepth 100000
set_option linter.all false
namespace Mine

theorem f_3_eq {ds l : List Nat} {x i : Nat} (hz : l.length ≤ 1000) (hd : ds.length ≤ 1000) (h : bisR ds x l 20 0 l.length = some i) : f_3 [some (natsD l), some (.int x), some (.int 0), some .none, some (keyD ds), none] = some (.int i) := by
  obtain ⟨j, c', e⟩ := bisR_loop hz hd 20 0 l.length i none h
  have hl : lenV [natsD l] = some (.int l.length) := by rw [lenV_list (by simp; omega)]; simp
  have s1 : iteF (cmpF .Lt (getV 2) (cI 0)) noF nextF [some (natsD l), some (.int x), some (.int 0), some .none, some (keyD ds), none] = some (.next [some (natsD l), some (.int x), some (.int 0), some .none, some (keyD ds), none]) := (iteF_false ((cmpF_eq rfl rfl).trans rfl)).trans rfl
  have s2 : iteF (cmpF .Is (getV 3) cN) (seqF (setF 3 (callF (consF (getV 0) nilF) lenV)) nextF) nextF [some (natsD l), some (.int x), some (.int 0), some .none, some (keyD ds), none] = some (.next [some (natsD l), some (.int x), some (.int 0), some (.int l.length), some (keyD ds), none]) :=
    (iteF_true ((cmpF_eq rfl rfl).trans rfl)).trans ((seqF_next (setF_eq ((callF_eq (one_eq rfl)).trans hl) (Nat.le_of_ble_eq_true rfl))).trans rfl)
  have s3 : iteF (cmpF .Is (getV 4) cN) noF (seqF (whileF wtest4 wbody3 20) nextF) [some (natsD l), some (.int x), some (.int 0), some (.int l.length), some (keyD ds), none] = some (.next [some (natsD l), some (.int x), some (.int i), j, some (keyD ds), c']) :=
    (iteF_false ((cmpF_eq rfl rfl).trans rfl)).trans ((seqF_next e).trans rfl)
  exact (seqR_next s1).trans ((seqR_next s2).trans ((seqR_next s3).trans rfl))
theorem bisF_eq {fr : Fm} {a kx lo hi k : PyData} {i : Int} (h0 : getV 0 fr = some a) (h1 : keyF 4 (getV 1) fr = some kx) (h2 : getV 2 fr = some lo) (h3 : getV 3 fr = some hi) (h4 : getV 4 fr = some k) (h5 : f_3 [some a, some kx, some lo, some hi, some k, none] = some (.int i)) : bisF fr = some (.int i) := by
  simp only [bisF, h0, h1, h2, h3, h4, h5, Option.bind_some, isInt]
theorem insF_eq {fr : Fm} {ds : List PyData} {i : Nat} {v : PyData} (h0 : ownV 0 fr = some ds) (h1 : getV 2 fr = some (.int i)) (h2 : getV 1 fr = some v) (hi : i ≤ 100000) (hd : ds.length ≤ 100000) (hl : 0 < fr.length) :
    insF fr = some (.next (fr.set 0 (some (.list (ds.take (min i ds.length) ++ [v] ++ ds.drop (min i ds.length)))))) := by
  simp only [insF, h0, h1, h2, Option.bind_some]
  rw [if_pos ⟨by omega, by omega, hd, hl⟩]
  simp
theorem insOrdF_eq {fr : Fm} {ds ds' : List PyData} {k dd : PyData} (h0 : ownV 1 fr = some ds) (h1 : getV 2 fr = some k) (h2 : getV 0 fr = some dd) (h3 : F_2 ds k (.dict [(.none, dd)]) = some ds') (hl : 1 < fr.length) (h4 : allFlat ds = true) (h5 : allFlat ds' = true) (h6 : flat k = true) :
    insOrdF fr = some (.next (fr.set 1 (some (.list ds')))) := by
  simp only [insOrdF, h0, h1, h2, h3, Option.bind_some]
  rw [if_pos ⟨hl, h4, h5, h6⟩]
noncomputable def insN (i k : Nat) (l : List Nat) : List Nat := l.take (min i l.length) ++ [k] ++ l.drop (min i l.length)
theorem F_2_eq {ds l : List Nat} {k d i : Nat} (hz : l.length ≤ 1000) (hd : ds.length ≤ 1000) (hk : ds[k]? = some d) (h : bisR ds d l 20 0 l.length = some i) (hi : i ≤ 1000) :
    F_2 (l.map fun (n : Nat) => .int n) (.int k) (keyD ds) = some ((insN i k l).map fun (n : Nat) => .int n) := by
  have hb : bisF [some (natsD l), some (.int k), some (.int 0), some .none, some (keyD ds)] = some (.int i) := by
    have ek : keyF 4 (getV 1) [some (natsD l), some (.int k), some (.int 0), some .none, some (keyD ds)] = some (.int d) := (keyF_eq rfl rfl).trans ((lamV_eq _ _).trans (itemV_nats hk hd))
    exact bisF_eq rfl ek rfl rfl rfl (f_3_eq hz hd h)
  have s1 : iteF (cmpF .Is (getV 4) cN) noF (seqF (setF 2 bisF) nextF) [some (natsD l), some (.int k), some (.int 0), some .none, some (keyD ds)] = some (.next [some (natsD l), some (.int k), some (.int i), some .none, some (keyD ds)]) :=
    (iteF_false ((cmpF_eq rfl rfl).trans rfl)).trans ((seqF_next (setF_eq hb (Nat.le_of_ble_eq_true rfl))).trans rfl)
  have s2 : insF [some (natsD l), some (.int k), some (.int i), some .none, some (keyD ds)] = some (.next [some (natsD (insN i k l)), some (.int k), some (.int i), some .none, some (keyD ds)]) := by
    refine (insF_eq (ds := l.map fun (n : Nat) => .int n) (i := i) (v := .int k) rfl rfl rfl (by omega) (by rw [List.length_map]; omega) (Nat.le_of_ble_eq_true rfl)).trans ?_
    simp [insN]
  have s : f_2 [some (natsD l), some (.int k), some (.int 0), some .none, some (keyD ds)] = some (.next [some (natsD (insN i k l)), some (.int k), some (.int i), some .none, some (keyD ds)]) := by
    unfold f_2
    rw [seqF_next s1]
    exact (seqF_next s2).trans rfl
  unfold F_2
  rw [show (PyData.list (l.map fun (n : Nat) => PyData.int n)) = natsD l from rfl, s]
  rfl
noncomputable def orderGo (ds : List Nat) : List Nat → List Nat → Option (List Nat)
  | [], l => some l
  | k :: r, l => match ds[k]? with
    | some d => (match bisR ds d l 20 0 l.length with
      | some i => if Nat.ble i 100 && Nat.ble l.length 100 then orderGo ds r (insN i k l) else none
      | none => none)
    | none => none
theorem flat_nats (l : List Nat) : allFlat (l.map fun (n : Nat) => .int n) = true := by
  unfold allFlat
  rw [List.all_eq_true]
  intro x hx
  obtain ⟨n, _, rfl⟩ := List.mem_map.mp hx
  rfl
theorem order_loop {ds : List Nat} (hd : ds.length ≤ 1000) : ∀ (ks l : List Nat) (c : Option PyData) (out : List Nat), orderGo ds ks l = some out →
    ∃ c', forF (putV 2) (seqF insOrdF nextF) (ks.map fun (n : Nat) => .int n) [some (natsD ds), some (natsD l), c] = some (.next [some (natsD ds), some (natsD out), c'])
  | [], l, c, out, h => by cases h; exact ⟨c, rfl⟩
  | k :: r, l, c, out, h => by
    unfold orderGo at h
    split at h
    · rename_i d hk
      split at h
      · rename_i i hb
        split at h
        · rename_i hg
          rw [Bool.and_eq_true] at hg
          have g1 := Nat.le_of_ble_eq_true hg.1
          have g2 := Nat.le_of_ble_eq_true hg.2
          obtain ⟨c', e⟩ := order_loop hd r (insN i k l) (some (.int k)) out h
          have e2 := F_2_eq (ds := ds) (l := l) (k := k) (d := d) (i := i) (by omega) hd hk hb (by omega)
          have hi : insOrdF [some (natsD ds), some (natsD l), some (.int k)] = some (.next [some (natsD ds), some (natsD (insN i k l)), some (.int k)]) := by
            exact (insOrdF_eq (ds := l.map fun (n : Nat) => .int n) (k := .int k) (dd := natsD ds) rfl rfl rfl e2 (Nat.le_of_ble_eq_true rfl) (flat_nats _) (flat_nats _) rfl).trans rfl
          refine ⟨c', ?_⟩
          have hp : putV 2 (.int k) [some (natsD ds), some (natsD l), c] = some [some (natsD ds), some (natsD l), some (.int k)] := rfl
          exact (forF_one hp ((seqF_next hi).trans rfl)).trans e
        · exact nomatch h
      · exact nomatch h
    · exact nomatch h
theorem rng_range (n : Nat) : ∀ (m k : Nat), rng (k : Int) 1 m = (List.range' k m).map fun (n : Nat) => .int n
  | 0, k => rfl
  | m + 1, k => by
    have : rng (k : Int) 1 (m + 1) = .int k :: rng ((k + 1 : Nat) : Int) 1 m := by simp [rng]
    rw [this, rng_range n m (k + 1), List.range'_succ]
    rfl
theorem rangeV_nat {n : Nat} (h : n < 100000) : rangeV [.int n] = some ((List.range' 0 n).map fun (n : Nat) => .int n) := by
  rw [← rng_range n n 0]
  rw [rangeV_one, if_pos ⟨by omega, by omega⟩]
  rfl
noncomputable def orderN (ds : List Nat) : Option (List Nat) := orderGo ds (List.range' 0 ds.length) []
theorem F_22_eq {ds out : List Nat} (hd : ds.length ≤ 100) (h : orderN ds = some out) : F_22 [natsD ds] = some (natsD out) := by
  obtain ⟨c', e⟩ := order_loop (ds := ds) (by omega) (List.range' 0 ds.length) [] none out h
  show f_22 [some (natsD ds), none, none] = _
  show seqR (forE (rngF (consF (callF (consF (getV 0) nilF) lenV) nilF)) (putV 2) (seqF insOrdF nextF)) (lastF (retF (getV 1))) [some (natsD ds), some (.list []), none] = _
  have hl : lenV [natsD ds] = some (.int ds.length) := by rw [lenV_list (by simp; omega)]; simp
  have hr : rngF (consF (callF (consF (getV 0) nilF) lenV) nilF) [some (natsD ds), some (.list []), none] = some ((List.range' 0 ds.length).map fun (n : Nat) => .int n) := rngF_eq (one_eq ((callF_eq (one_eq rfl)).trans hl)) (rangeV_nat (by omega))
  have e' : forF (putV 2) (seqF insOrdF nextF) ((List.range' 0 ds.length).map fun (n : Nat) => .int n) [some (natsD ds), some (.list []), none] = _ := e
  exact (seqR_next ((forE_eq hr).trans e')).trans rfl
end Mine
end

section
open PySem PySem.W PyProof.Rows PySem.Calls
set_option maxRecDepth 100000
set_option linter.all false
namespace Mine

/-! _law_cells -/
theorem cmpV_gtI (a : Nat) (b : Nat) : cmpV .Gt (.int a) (.int b) = some (Nat.blt b a) := by
  show some (decide ((b : Int) < a)) = _
  congr 1
  rw [Bool.eq_iff_iff, decide_eq_true_eq]
  simp [Nat.blt_eq]
theorem compGo_filter {t : Nat → Bool} {X : Option PyData} {tt : Fm → Option Bool} : ∀ (l : List Nat) (c : Option PyData), (∀ x ∈ l, tt [X, some (.int x)] = some (t x)) → compGo (putV 1) tt (getV 1) (l.map fun (n : Nat) => .int n) [X, c] = some ((l.filter t).map fun (n : Nat) => .int n)
  | [], c, _ => rfl
  | x :: l, c, h => by
    have hp : putV 1 (.int (x : Int)) [X, c] = some [X, some (.int x)] := rfl
    have ht := h x (.head _)
    have ih := compGo_filter (t := t) l (some (.int x)) fun y q => h y (.tail _ q)
    cases hx : t x with
    | true =>
      rw [hx] at ht
      refine (compGo_one hp ht rfl).trans ?_
      rw [ih, List.filter_cons_of_pos hx]
      rfl
    | false =>
      rw [hx] at ht
      refine (compGo_not hp ht).trans ?_
      rw [ih, List.filter_cons_of_neg (by rw [hx]; decide)]
noncomputable def stairsN : Nat → List Nat → List Nat
  | _, [] => []
  | k, d :: r => (k - d) :: stairsN (k + 1) r
theorem stairs_go : ∀ (l : List Nat) (k : Nat) (c1 c2 : Option PyData), (∀ (i : Nat) d, l[i]? = some d → d ≤ k + i) → compGo (putV2 0 1) trueF (binF .Sub (getV 0) (getV 1)) (enumL k (l.map fun (n : Nat) => .int n)) [c1, c2] = some ((stairsN k l).map fun (n : Nat) => .int n)
  | [], k, c1, c2, _ => rfl
  | d :: l, k, c1, c2, h => by
    have hp : putV2 0 1 (.tuple [.int (k : Int), .int (d : Int)]) [c1, c2] = some [some (.int k), some (.int d)] := rfl
    have h0 : d ≤ k := h 0 d rfl
    have he : binF .Sub (getV 0) (getV 1) [some (.int (k : Int)), some (.int (d : Int))] = some (.int ((k - d : Nat) : Int)) := by
      refine (binF_eq rfl rfl).trans ((binV_sub _ _).trans ?_)
      congr 2; omega
    have ih := stairs_go l (k + 1) (some (.int k)) (some (.int d)) fun i e q => by have := h (i + 1) e q; omega
    show compGo (putV2 0 1) trueF (binF .Sub (getV 0) (getV 1)) (.tuple [.int (k : Int), .int (d : Int)] :: enumL (k + 1) (l.map fun (n : Nat) => .int n)) [c1, c2] = _
    rw [compGo_one hp rfl he, ih]
    rfl
noncomputable def legN (S : List Nat) (k c : Nat) : Nat := ((S.take k).filter fun x => Nat.blt c x).length
noncomputable def colGo (S : List Nat) (k row : Nat) : List Nat → Nat → Nat
  | [], n => n
  | c :: r, n => colGo S k row r (bif Nat.beq (legN S k c) (row - 1 - c) || Nat.beq (legN S k c + 1) (row - 1 - c) then n + 1 else n)
theorem cmpV_in (a b c : Nat) : cmpV .In (.int a) (.tuple [.int b, .int c]) = some (Nat.beq b a || Nat.beq c a) := by
  show some (((b : Int) == a) || ((c : Int) == a)) = _
  have h : ∀ x y : Nat, ((x : Int) == y) = Nat.beq x y := fun x y => by
    rw [Bool.eq_iff_iff, beq_iff_eq, Nat.beq_eq]; omega
  rw [h, h]
theorem augF_int {i : Nat} {f : Fm → Option PyData} {fr : Fm} {a b : Nat} (h0 : getV i fr = some (.int a)) (h : f fr = some (.int b)) (hi : i < fr.length) : augF .Add i f fr = some (.next (fr.set i (some (.int ((a + b : Nat) : Int))))) := by
  show (getV i fr).bind _ = _; rw [h0]; show (f fr).bind _ = _; rw [h]; show (if i < fr.length then _ else _) = _; rw [if_pos hi]; rfl
noncomputable def body21 : Fm → Option Out := (seqF (setF 6 (binF .Sub (binF .Sub (getV 4) (cI 1)) (getV 5))) (seqF (setF 7 (callF (consF (compF (asList (sliceF (getV 1) pNone (pSome (getV 3)))) (putV 1) (cmpF .Gt (getV 1) (getV 0)) (getV 1) [5] 1) nilF) lenV)) (seqF (iteF (cmpF .In (getV 6) (tupF (consF (getV 7) (consF (binF .Add (getV 7) (cI 1)) nilF)))) (seqF (augF .Add 2 (cI 1)) nextF) nextF) nextF)))
theorem b21 {D : PyData} {S : List Nat} {n k row c : Nat} {x6 x7 : Option PyData} (hS : S.length ≤ 1000) (hc : c < row) :
    body21 [some D, some (natsD S), some (.int n), some (.int k), some (.int row), some (.int c), x6, x7] = some (.next [some D, some (natsD S), some (.int ((bif Nat.beq (legN S k c) (row - 1 - c) || Nat.beq (legN S k c + 1) (row - 1 - c) then n + 1 else n : Nat) : Int)), some (.int k), some (.int row), some (.int c), some (.int ((row - 1 - c : Nat) : Int)), some (.int (legN S k c))]) := by
  have e1 : setF 6 (binF .Sub (binF .Sub (getV 4) (cI 1)) (getV 5)) [some D, some (natsD S), some (.int n), some (.int k), some (.int row), some (.int c), x6, x7] = some (.next [some D, some (natsD S), some (.int n), some (.int k), some (.int row), some (.int c), some (.int ((row - 1 - c : Nat) : Int)), x7]) := by
    refine (setF_eq (v := .int ((row - 1 - c : Nat) : Int)) ?_ (Nat.le_of_ble_eq_true rfl)).trans rfl
    refine (binF_eq ((binF_eq rfl rfl).trans (binV_sub _ _)) rfl).trans ((binV_sub _ _).trans ?_)
    congr 2; omega
  have e2 : setF 7 (callF (consF (compF (asList (sliceF (getV 1) pNone (pSome (getV 3)))) (putV 1) (cmpF .Gt (getV 1) (getV 0)) (getV 1) [5] 1) nilF) lenV) [some D, some (natsD S), some (.int n), some (.int k), some (.int row), some (.int c), some (.int ((row - 1 - c : Nat) : Int)), x7] = some (.next [some D, some (natsD S), some (.int n), some (.int k), some (.int row), some (.int c), some (.int ((row - 1 - c : Nat) : Int)), some (.int (legN S k c))]) := by
    refine (setF_eq (v := .int (legN S k c)) ?_ (Nat.le_of_ble_eq_true rfl)).trans rfl
    have hp : sliceV (natsD S) none (some (k : Int)) = some (natsD (S.take k)) := by
      refine (sliceV_list (by simp; omega)).trans ?_
      rw [pick_to]; simp
    have ha : asList (sliceF (getV 1) pNone (pSome (getV 3))) [some D, some (natsD S), some (.int n), some (.int k), some (.int row), some (.int c), some (.int ((row - 1 - c : Nat) : Int)), x7] = some ((S.take k).map fun (n : Nat) => .int n) := by
      show (sliceF (getV 1) pNone (pSome (getV 3)) [some D, some (natsD S), some (.int n), some (.int k), some (.int row), some (.int c), some (.int ((row - 1 - c : Nat) : Int)), x7]).bind _ = _
      rw [(sliceF_eq rfl rfl rfl).trans hp]
      rfl
    have hf := compGo_filter (t := fun x => Nat.blt c x) (X := some (.int c)) (tt := cmpF .Gt (getV 1) (getV 0)) (S.take k) none fun x _ => (cmpF_eq rfl rfl).trans (cmpV_gtI x c)
    refine (callF_eq (one_eq (compF_eq ha (by simp; omega) hf))).trans ?_
    have : (((S.take k).filter fun x => Nat.blt c x).map fun (n : Nat) => PyData.int n).length ≤ 10000000 := by
      have := List.length_filter_le (fun x => Nat.blt c x) (S.take k)
      simp at this ⊢; omega
    rw [lenV_list this, List.length_map]
    rfl
  have e3 : iteF (cmpF .In (getV 6) (tupF (consF (getV 7) (consF (binF .Add (getV 7) (cI 1)) nilF)))) (seqF (augF .Add 2 (cI 1)) nextF) nextF [some D, some (natsD S), some (.int n), some (.int k), some (.int row), some (.int c), some (.int ((row - 1 - c : Nat) : Int)), some (.int (legN S k c))] =
      some (.next [some D, some (natsD S), some (.int ((bif Nat.beq (legN S k c) (row - 1 - c) || Nat.beq (legN S k c + 1) (row - 1 - c) then n + 1 else n : Nat) : Int)), some (.int k), some (.int row), some (.int c), some (.int ((row - 1 - c : Nat) : Int)), some (.int (legN S k c))]) := by
    have ht : cmpF .In (getV 6) (tupF (consF (getV 7) (consF (binF .Add (getV 7) (cI 1)) nilF))) [some D, some (natsD S), some (.int n), some (.int k), some (.int row), some (.int c), some (.int ((row - 1 - c : Nat) : Int)), some (.int (legN S k c))] = some (Nat.beq (legN S k c) (row - 1 - c) || Nat.beq (legN S k c + 1) (row - 1 - c)) :=
      (cmpF_eq (b := .tuple [.int (legN S k c), .int ((legN S k c + 1 : Nat) : Int)]) rfl rfl).trans (cmpV_in _ _ _)
    cases hb : Nat.beq (legN S k c) (row - 1 - c) || Nat.beq (legN S k c + 1) (row - 1 - c) with
    | true =>
      rw [hb] at ht
      exact (iteF_true ht).trans ((seqF_next (augF_int (a := n) (b := 1) rfl rfl (Nat.le_of_ble_eq_true rfl))).trans rfl)
    | false =>
      rw [hb] at ht
      exact (iteF_false ht).trans rfl
  unfold body21
  rw [seqF_next e1, seqF_next e2]
  exact (seqF_next e3).trans rfl
theorem col_loop {D : PyData} {S : List Nat} {k row : Nat} (hS : S.length ≤ 1000) : ∀ (cs : List Nat) (n : Nat) (x5 x6 x7 : Option PyData), (∀ c ∈ cs, c < row) →
    ∃ y5 y6 y7, forF (putV 5) body21 (cs.map fun (n : Nat) => .int n) [some D, some (natsD S), some (.int n), some (.int k), some (.int row), x5, x6, x7] = some (.next [some D, some (natsD S), some (.int (colGo S k row cs n)), some (.int k), some (.int row), y5, y6, y7])
  | [], n, x5, x6, x7, _ => ⟨x5, x6, x7, rfl⟩
  | c :: cs, n, x5, x6, x7, h => by
    have hp : putV 5 (.int (c : Int)) [some D, some (natsD S), some (.int n), some (.int k), some (.int row), x5, x6, x7] = some [some D, some (natsD S), some (.int n), some (.int k), some (.int row), some (.int c), x6, x7] := rfl
    obtain ⟨y5, y6, y7, e⟩ := col_loop hS (D := D) (k := k) (row := row) cs (bif Nat.beq (legN S k c) (row - 1 - c) || Nat.beq (legN S k c + 1) (row - 1 - c) then n + 1 else n) (some (.int c)) (some (.int ((row - 1 - c : Nat) : Int))) (some (.int (legN S k c))) fun d q => h d (.tail _ q)
    exact ⟨y5, y6, y7, (forF_one hp (b21 hS (h c (.head _)))).trans e⟩
noncomputable def cellGo (S : List Nat) : Nat → List Nat → Nat → Nat
  | _, [], n => n
  | k, row :: r, n => cellGo S (k + 1) r (colGo S k row (List.range' 0 row) n)
theorem cell_loop {D : PyData} {S : List Nat} (hS : S.length ≤ 1000) : ∀ (rows : List Nat) (k n : Nat) (x3 x4 x5 x6 x7 : Option PyData), (∀ c ∈ rows, c < 1000) →
    ∃ y3 y4 y5 y6 y7, forF (putV2 3 4) (seqF (forE (rngF (consF (getV 4) nilF)) (putV 5) body21) nextF) (enumL k (rows.map fun (n : Nat) => .int n)) [some D, some (natsD S), some (.int n), x3, x4, x5, x6, x7] = some (.next [some D, some (natsD S), some (.int (cellGo S k rows n)), y3, y4, y5, y6, y7])
  | [], k, n, x3, x4, x5, x6, x7, _ => ⟨x3, x4, x5, x6, x7, rfl⟩
  | row :: rows, k, n, x3, x4, x5, x6, x7, h => by
    have hp : putV2 3 4 (.tuple [.int (k : Int), .int (row : Int)]) [some D, some (natsD S), some (.int n), x3, x4, x5, x6, x7] = some [some D, some (natsD S), some (.int n), some (.int k), some (.int row), x5, x6, x7] := rfl
    have hrow := h row (.head _)
    obtain ⟨y5, y6, y7, e⟩ := col_loop hS (D := D) (k := k) (row := row) (List.range' 0 row) n x5 x6 x7 fun c q => by rw [List.mem_range'] at q; omega
    have hr : rngF (consF (getV 4) nilF) [some D, some (natsD S), some (.int n), some (.int k), some (.int row), x5, x6, x7] = some ((List.range' 0 row).map fun (n : Nat) => .int n) := rngF_eq (one_eq rfl) (rangeV_nat (by omega))
    have e2 : seqF (forE (rngF (consF (getV 4) nilF)) (putV 5) body21) nextF [some D, some (natsD S), some (.int n), some (.int k), some (.int row), x5, x6, x7] = some (.next [some D, some (natsD S), some (.int (colGo S k row (List.range' 0 row) n)), some (.int k), some (.int row), y5, y6, y7]) := (seqF_next ((forE_eq hr).trans e)).trans rfl
    obtain ⟨z3, z4, z5, z6, z7, e3⟩ := cell_loop hS (D := D) rows (k + 1) (colGo S k row (List.range' 0 row) n) (some (.int k)) (some (.int row)) y5 y6 y7 fun c q => h c (.tail _ q)
    refine ⟨z3, z4, z5, z6, z7, ?_⟩
    rw [List.map_cons, forF_enum hp, e2]
    exact e3
noncomputable def cellsN (ds : List Nat) : Nat := cellGo (stairsN 0 ds) 0 (stairsN 0 ds) 0
theorem stairs_len : ∀ (l : List Nat) (k : Nat), (stairsN k l).length = l.length
  | [], _ => rfl
  | _ :: l, k => by simp [stairsN, stairs_len l (k + 1)]
theorem stairs_lt : ∀ (l : List Nat) (k : Nat), ∀ c ∈ stairsN k l, c < k + l.length
  | [], _, _, h => by cases h
  | d :: l, k, c, h => by
    unfold stairsN at h
    cases h with
    | head => simp; omega
    | tail _ h => have := stairs_lt l (k + 1) c h; simp; omega
theorem F_21_eq {ds : List Nat} (hl : ds.length ≤ 100) (h : ∀ (i : Nat) d, ds[i]? = some d → d ≤ i) : F_21 [natsD ds] = some (.int (cellsN ds)) := by
  show f_21 [some (natsD ds), none, none, none, none, none, none, none] = _
  have s1 : setF 1 (compF (enF (consF (getV 0) nilF)) (putV2 0 1) trueF (binF .Sub (getV 0) (getV 1)) [] 2) [some (natsD ds), none, none, none, none, none, none, none] = some (.next [some (natsD ds), some (natsD (stairsN 0 ds)), none, none, none, none, none, none]) := by
    have hen : enF (consF (getV 0) nilF) [some (natsD ds), none, none, none, none, none, none, none] = some (enumL 0 (ds.map fun (n : Nat) => .int n)) := rfl
    have hlen : ∀ (l : List PyData) (k : Nat), (enumL k l).length = l.length := by
      intro l
      induction l with
      | nil => intro k; rfl
      | cons a l ih => intro k; simp [enumL, ih]
    exact (setF_eq (compF_eq hen (by rw [hlen]; simp; omega) (stairs_go ds 0 none none fun i d q => by have := h i d q; omega)) (Nat.le_of_ble_eq_true rfl)).trans rfl
  have s2 : setF 2 (cI 0) [some (natsD ds), some (natsD (stairsN 0 ds)), none, none, none, none, none, none] = some (.next [some (natsD ds), some (natsD (stairsN 0 ds)), some (.int 0), none, none, none, none, none]) := (setF_eq rfl (Nat.le_of_ble_eq_true rfl)).trans rfl
  obtain ⟨y3, y4, y5, y6, y7, e⟩ := cell_loop (D := natsD ds) (S := stairsN 0 ds) (by rw [stairs_len]; omega) (stairsN 0 ds) 0 0 none none none none none fun c q => by have := stairs_lt ds 0 c q; omega
  have hen : enF (consF (getV 1) nilF) [some (natsD ds), some (natsD (stairsN 0 ds)), some (.int 0), none, none, none, none, none] = some (enumL 0 ((stairsN 0 ds).map fun (n : Nat) => .int n)) := rfl
  exact (seqR_next s1).trans ((seqR_next s2).trans ((seqR_next ((forE_eq hen).trans e)).trans rfl))
end Mine
end

section
open PySem PySem.W PyProof.Rows PySem.Calls
set_option maxRecDepth 100000
set_option linter.all false
namespace Mine

/-! _law_stops -/
noncomputable def stopsGo (op cl : List Nat) : Nat → Nat → List Nat → Option (List Nat)
  | 0, _, acc => some acc
  | n + 1, last, acc => match cl[last]? with
    | some x => (match bisL (fun a => Nat.blt a x) op 20 0 op.length with
      | some i => stopsGo op cl n i (acc ++ [i])
      | none => none)
    | none => none
noncomputable def body24 : Fm → Option Out := (seqF (appF 3 (callF (consF (getV 0) (consF (subF (getV 1) (ownItemF 3 (negF (cI 1)))) nilF)) F_4)) nextF)
theorem stops_loop {op cl : List Nat} {L : PyData} (h1 : op.length ≤ 1000) (h2 : cl.length ≤ 1000) : ∀ (n k last : Nat) (acc out : List Nat) (c : Option PyData), stopsGo op cl n last (acc ++ [last]) = some out → acc.length + n ≤ 500 →
    ∃ c', forF (putV 4) body24 ((List.range' k n).map fun (n : Nat) => .int n) [some (natsD op), some (natsD cl), some L, some (natsD (acc ++ [last])), c] = some (.next [some (natsD op), some (natsD cl), some L, some (natsD out), c'])
  | 0, k, last, acc, out, c, h, _ => by cases h; exact ⟨c, rfl⟩
  | n + 1, k, last, acc, out, c, h, hz => by
    unfold stopsGo at h
    split at h
    · rename_i x hx
      split at h
      · rename_i i hi
        have hp : putV 4 (.int (k : Int)) [some (natsD op), some (natsD cl), some L, some (natsD (acc ++ [last])), c] = some [some (natsD op), some (natsD cl), some L, some (natsD (acc ++ [last])), some (.int k)] := rfl
        have ho : ownItemF 3 (negF (cI 1)) [some (natsD op), some (natsD cl), some L, some (natsD (acc ++ [last])), some (.int k)] = some (.int last) := by
          have := last_item (l := acc.map fun (n : Nat) => PyData.int n) (a := .int last) (by simp; omega)
          show itemV (natsD (acc ++ [last])) (.int (-1)) = _
          rw [show natsD (acc ++ [last]) = .list ((acc.map fun (n : Nat) => PyData.int n) ++ [.int last]) from by simp]
          exact this
        have h4 := F_4_gen (D := fun (n : Nat) => PyData.int n) (l := op) (x := .int x) (lt := fun a => Nat.blt a x) (fun a _ => cmpV_lt a x) h1 hi
        have hv : callF (consF (getV 0) (consF (subF (getV 1) (ownItemF 3 (negF (cI 1)))) nilF)) F_4 [some (natsD op), some (natsD cl), some L, some (natsD (acc ++ [last])), some (.int k)] = some (.int i) :=
          (callF_eq (consF_eq rfl (one_eq ((subF_eq rfl ho).trans (itemV_nats hx h2))))).trans h4
        have hb : body24 [some (natsD op), some (natsD cl), some L, some (natsD (acc ++ [last])), some (.int k)] = some (.next [some (natsD op), some (natsD cl), some L, some (natsD ((acc ++ [last]) ++ [i])), some (.int k)]) := by
          refine (seqF_next ((appF_eq (ds := (acc ++ [last]).map fun (n : Nat) => .int n) rfl hv (Nat.le_of_ble_eq_true rfl) (by simp; omega)).trans rfl)).trans ?_
          show some (Out.next _) = _
          simp
        obtain ⟨c', e⟩ := stops_loop h1 h2 (L := L) n (k + 1) i (acc ++ [last]) out (some (.int k)) h (by simp; omega)
        refine ⟨c', ?_⟩
        rw [List.range'_succ, List.map_cons, forF_one hp hb]
        exact e
      · exact nomatch h
    · exact nomatch h
theorem F_24_eq {op cl out : List Nat} {levels : Nat} (h1 : op.length ≤ 1000) (h2 : cl.length ≤ 1000) (hl : levels ≤ 400) (h : stopsGo op cl levels 0 [0] = some out) : F_24 [natsD op, natsD cl, .int levels] = some (natsD out) := by
  obtain ⟨c', e⟩ := stops_loop h1 h2 (L := .int levels) levels 0 0 [] out none h (by simp; omega)
  show f_24 [some (natsD op), some (natsD cl), some (.int levels), none, none] = _
  refine (ownNew_eq (ds := [.int 0]) rfl (Nat.le_of_ble_eq_true rfl) (by simp)).trans ?_
  show seqR (forE (rngF (consF (getV 2) nilF)) (putV 4) body24) (lastF (retF (getV 3))) [some (natsD op), some (natsD cl), some (.int levels), some (.list [.int 0]), none] = _
  have hr : rngF (consF (getV 2) nilF) [some (natsD op), some (natsD cl), some (.int levels), some (.list [.int 0]), none] = some ((List.range' 0 levels).map fun (n : Nat) => .int n) := rngF_eq (one_eq rfl) (rangeV_nat (by omega))
  have e' : forF (putV 4) body24 ((List.range' 0 levels).map fun (n : Nat) => .int n) [some (natsD op), some (natsD cl), some (.int levels), some (.list [.int 0]), none] = _ := e
  rw [seqR_next ((forE_eq hr).trans e')]
  rfl
end Mine
end

section
open PySem PySem.W PyProof.Rows PySem.Calls
set_option maxRecDepth 100000
set_option linter.all false
namespace Mine

/-! _law_holders -/
noncomputable def placeGo (ds order : List Nat) (dk : Nat) : List Nat → Option (List Nat)
  | [] => some []
  | m :: r => match ds[m]? with
    | some d => if Nat.beq (d + 1) dk then (if order.contains m then (placeGo ds order dk r).map ((order.idxOf m + 1) :: ·) else none) else placeGo ds order dk r
    | none => none
noncomputable def holdGo (ds order : List Nat) : List Nat → List Nat → Option (List Nat)
  | [], acc => some acc
  | k :: r, acc => match ds[k]? with
    | some dk => (match placeGo ds order dk (List.range' 0 k) with
      | some ps => if Nat.ble k 100 && Nat.ble acc.length 100 then holdGo ds order r (acc ++ [(0 :: ps).getLastD 0]) else none
      | none => none)
    | none => none
theorem weight_nats : ∀ l : List Nat, (∀ n ∈ l, n < 1000) → PyData.weightAll (l.map fun (n : Nat) => .int n) ≤ 12 * l.length
  | [], _ => by simp [PyData.weightAll]
  | n :: l, h => by
    have ih := weight_nats l fun m q => h m (.tail _ q)
    have hn := h n (.head _)
    have hw : (PyData.int (n : Int)).weight ≤ 11 := by
      simp only [PyData.weight]
      split
      · omega
      · rename_i h0
        have hne : n ≠ 0 := by intro z; subst z; simp at h0
        have : (n : Int).natAbs = n := by simp
        rw [this]
        have : n.log2 < 10 := (Nat.log2_lt hne).mpr (by omega)
        omega
    simp only [List.map_cons, PyData.weightAll, List.length_cons]
    omega
theorem layable_nats {l : List Nat} (hl : l.length ≤ 100) (h : ∀ n ∈ l, n < 1000) : (natsD l).layable0 = true := by
  have hw := weight_nats l h
  have hc : PyData.canLayAll0 (l.map fun (n : Nat) => PyData.int n) = true := canAll fun x hx => by obtain ⟨n, _, rfl⟩ := List.mem_map.mp hx; simp [PyData.canLay0]
  have hd : PyData.depthAll (l.map fun (n : Nat) => PyData.int n) ≤ 0 := depAll fun x hx => by obtain ⟨n, _, rfl⟩ := List.mem_map.mp hx; simp [PyData.depth]
  simp only [PyData.layable0, PyData.canLay0, PyData.depth, PyData.weight, hc, Bool.true_and]
  rw [Bool.and_eq_true]
  exact ⟨decide_eq_true (by omega), decide_eq_true (by have : (2 : Nat) ^ 20 = 1048576 := by decide
                                                       omega)⟩
theorem idx_cast : ∀ (l : List Nat) (m : Nat), List.idxOf (m : Int) (l.map fun (n : Nat) => (n : Int)) = l.idxOf m
  | [], m => rfl
  | n :: l, m => by
    rw [List.map_cons, List.idxOf_cons, List.idxOf_cons, idx_cast l m]
    have : ((n : Int) == (m : Int)) = (n == m) := by rw [Bool.eq_iff_iff, beq_iff_eq, beq_iff_eq]; omega
    rw [this]
theorem indexV_nats {l : List Nat} {m : Nat} (hl : l.length ≤ 100) (h : ∀ n ∈ l, n < 1000) (hm : m ∈ l) : indexV (natsD l) [.int m] = some (.int (l.idxOf m : Nat)) := by
  have e : (l.map fun (n : Nat) => PyData.int n) = (l.map fun (n : Nat) => (n : Int)).map PyData.int := by simp
  have hlay := layable_nats hl h
  show (intsOf (l.map fun (n : Nat) => PyData.int n)).bind _ = _
  rw [e, intsOf_map]
  show (if (m : Int) ∈ (l.map fun (n : Nat) => (n : Int)) ∧ (PyData.list ((l.map fun (n : Nat) => (n : Int)).map .int)).layable0 = true then some (PyData.int (List.idxOf (m : Int) (l.map fun (n : Nat) => (n : Int)))) else none) = _
  rw [if_pos ⟨List.mem_map.mpr ⟨m, hm, rfl⟩, by rw [← e]; exact hlay⟩, idx_cast]
end Mine
end

section
open PySem PySem.W PyProof.Rows PySem.Calls
set_option maxRecDepth 100000
set_option linter.all false
namespace Mine

noncomputable def ptest : Fm → Option Bool := cmpF .Eq (subF (getV 1) (getV 3)) (binF .Sub (subF (getV 1) (getV 2)) (cI 1))
noncomputable def pelt : Fm → Option PyData := binF .Add (methF "list" (getV 0) (consF (getV 3) nilF) indexV) (cI 1)
theorem place_go {ds order : List Nat} {k dk : Nat} (hd : ds.length ≤ 1000) (hk : ds[k]? = some dk) (hl : order.length ≤ 100) (ho : ∀ n ∈ order, n < 1000) : ∀ (ms ps : List Nat) (c : Option PyData), placeGo ds order dk ms = some ps →
    compGo (putV 3) ptest pelt (ms.map fun (n : Nat) => .int n) [some (natsD order), some (natsD ds), some (.int k), c] = some (ps.map fun (n : Nat) => .int n)
  | [], ps, c, h => by cases h; rfl
  | m :: ms, ps, c, h => by
    unfold placeGo at h
    have hp : putV 3 (.int (m : Int)) [some (natsD order), some (natsD ds), some (.int k), c] = some [some (natsD order), some (natsD ds), some (.int k), some (.int m)] := rfl
    split at h
    · rename_i d hm
      have ht : ptest [some (natsD order), some (natsD ds), some (.int k), some (.int m)] = some (Nat.beq (d + 1) dk) := by
        refine (cmpF_eq ((subF_eq rfl rfl).trans (itemV_nats hm hd)) ((binF_eq ((subF_eq rfl rfl).trans (itemV_nats hk hd)) rfl).trans (binV_sub _ _))).trans ?_
        show some ((d : Int) == (dk : Int) - 1) = _
        congr 1
        rw [Bool.eq_iff_iff, beq_iff_eq, Nat.beq_eq]; omega
      split at h
      · rename_i hb
        rw [hb] at ht
        split at h
        · rename_i hc
          obtain ⟨ps', e, rfl⟩ := Option.map_eq_some_iff.mp h
          have hmo : m ∈ order := by simpa using hc
          have he : pelt [some (natsD order), some (natsD ds), some (.int k), some (.int m)] = some (.int ((order.idxOf m + 1 : Nat) : Int)) :=
            (binF_eq ((methF_eq rfl (one_eq rfl) rfl).trans (indexV_nats hl ho hmo)) rfl).trans rfl
          rw [List.map_cons, compGo_one hp ht he, place_go hd hk hl ho ms ps' _ e]
          rfl
        · exact nomatch h
      · rename_i hb
        rw [Bool.eq_false_iff.mpr hb] at ht
        rw [List.map_cons, compGo_not hp ht, place_go hd hk hl ho ms ps _ h]
    · exact nomatch h
noncomputable def body23 : Fm → Option Out := (seqF (setF 4 (binF .Add (listF (consF (cI 0) nilF)) (compF (rngF (consF (getV 3) nilF)) (putV 3) ptest pelt [1, 0, 3] 1))) (seqF (appF 2 (subF (getV 4) (negF (cI 1)))) nextF))
theorem placeGo_len {ds order : List Nat} {dk : Nat} : ∀ (ms ps : List Nat), placeGo ds order dk ms = some ps → ps.length ≤ ms.length
  | [], ps, h => by cases h; simp
  | m :: ms, ps, h => by
    unfold placeGo at h
    split at h
    · split at h
      · split at h
        · obtain ⟨ps', e, rfl⟩ := Option.map_eq_some_iff.mp h
          have := placeGo_len ms ps' e
          simp; omega
        · exact nomatch h
      · have := placeGo_len ms ps h
        simp; omega
    · exact nomatch h
theorem hold_loop {ds order : List Nat} (hd : ds.length ≤ 1000) (hl : order.length ≤ 100) (ho : ∀ n ∈ order, n < 1000) : ∀ (ks acc out : List Nat) (c3 c4 : Option PyData), holdGo ds order ks acc = some out →
    ∃ c3' c4', forF (putV 3) body23 (ks.map fun (n : Nat) => .int n) [some (natsD ds), some (natsD order), some (natsD acc), c3, c4] = some (.next [some (natsD ds), some (natsD order), some (natsD out), c3', c4'])
  | [], acc, out, c3, c4, h => by cases h; exact ⟨c3, c4, rfl⟩
  | k :: r, acc, out, c3, c4, h => by
    unfold holdGo at h
    split at h
    · rename_i dk hk
      split at h
      · rename_i ps hps
        split at h
        · rename_i hg
          rw [Bool.and_eq_true] at hg
          have g1 := Nat.le_of_ble_eq_true hg.1
          have g2 := Nat.le_of_ble_eq_true hg.2
          have hpl := placeGo_len _ _ hps
          rw [List.length_range'] at hpl
          have hp : putV 3 (.int (k : Int)) [some (natsD ds), some (natsD order), some (natsD acc), c3, c4] = some [some (natsD ds), some (natsD order), some (natsD acc), some (.int k), c4] := rfl
          have hr : rngF (consF (getV 3) nilF) [some (natsD ds), some (natsD order), some (natsD acc), some (.int k), c4] = some ((List.range' 0 k).map fun (n : Nat) => .int n) := rngF_eq (one_eq rfl) (rangeV_nat (by omega))
          have hcm := compF_eq (fi := rngF (consF (getV 3) nilF)) (g := putV 3) (t := ptest) (f := pelt) (idxs := [1, 0, 3]) (k := 1) hr (by simp; omega) (place_go hd hk hl ho (List.range' 0 k) ps none hps)
          have e1 : setF 4 (binF .Add (listF (consF (cI 0) nilF)) (compF (rngF (consF (getV 3) nilF)) (putV 3) ptest pelt [1, 0, 3] 1)) [some (natsD ds), some (natsD order), some (natsD acc), some (.int k), c4] = some (.next [some (natsD ds), some (natsD order), some (natsD acc), some (.int k), some (natsD (0 :: ps))]) := by
            refine (setF_eq (v := natsD (0 :: ps)) ?_ (Nat.le_of_ble_eq_true rfl)).trans rfl
            refine (binF_eq (a := .list [.int 0]) rfl hcm).trans ?_
            show (if [PyData.int 0].length + (ps.map fun (n : Nat) => PyData.int n).length ≤ 100000 then some (PyData.list ([PyData.int 0] ++ ps.map fun (n : Nat) => PyData.int n)) else none) = _
            rw [if_pos (by simp; omega)]
            rfl
          have hlast : itemV (natsD (0 :: ps)) (.int (-1)) = some (.int (((0 :: ps).getLastD 0 : Nat) : Int)) := by
            have hdl := List.dropLast_concat_getLast (l := 0 :: ps) (by simp)
            have hgl : (0 :: ps).getLastD 0 = (0 :: ps).getLast (by simp) := by simp [List.getLastD_eq_getLast?, List.getLast?_eq_some_getLast]
            rw [hgl]
            have := last_item (l := (0 :: ps).dropLast.map fun (n : Nat) => PyData.int n) (a := .int ((0 :: ps).getLast (by simp) : Nat)) (by simp; omega)
            have hm : (0 :: ps).map (fun (n : Nat) => PyData.int n) = (0 :: ps).dropLast.map (fun (n : Nat) => PyData.int n) ++ [PyData.int ((0 :: ps).getLast (by simp) : Nat)] := by
              have := congrArg (List.map fun (n : Nat) => PyData.int n) hdl
              rw [List.map_append] at this
              exact this.symm
            show itemV (.list ((0 :: ps).map fun (n : Nat) => PyData.int n)) _ = _
            rw [hm]
            exact this
          have e2 : appF 2 (subF (getV 4) (negF (cI 1))) [some (natsD ds), some (natsD order), some (natsD acc), some (.int k), some (natsD (0 :: ps))] = some (.next [some (natsD ds), some (natsD order), some (natsD (acc ++ [(0 :: ps).getLastD 0])), some (.int k), some (natsD (0 :: ps))]) := by
            refine (appF_eq (ds := acc.map fun (n : Nat) => .int n) rfl ((subF_eq rfl (neg1 _)).trans hlast) (Nat.le_of_ble_eq_true rfl) (by simp; omega)).trans ?_
            show some (Out.next _) = _
            simp
          obtain ⟨c3', c4', e⟩ := hold_loop hd hl ho r (acc ++ [(0 :: ps).getLastD 0]) out (some (.int k)) (some (natsD (0 :: ps))) h
          refine ⟨c3', c4', ?_⟩
          have hb : body23 [some (natsD ds), some (natsD order), some (natsD acc), some (.int k), c4] = some (.next [some (natsD ds), some (natsD order), some (natsD (acc ++ [(0 :: ps).getLastD 0])), some (.int k), some (natsD (0 :: ps))]) := by
            unfold body23
            rw [seqF_next e1]
            exact (seqF_next e2).trans rfl
          rw [List.map_cons, forF_one hp hb]
          exact e
        · exact nomatch h
      · exact nomatch h
    · exact nomatch h
theorem F_23_eq {ds order out : List Nat} (hd : ds.length ≤ 1000) (hl : order.length ≤ 100) (ho : ∀ n ∈ order, n < 1000) (h : holdGo ds order order [] = some out) : F_23 [natsD ds, natsD order] = some (natsD out) := by
  obtain ⟨c3', c4', e⟩ := hold_loop hd hl ho order [] out none none h
  show f_23 [some (natsD ds), some (natsD order), none, none, none] = _
  refine (ownNew_eq (ds := []) rfl (Nat.le_of_ble_eq_true rfl) (by simp)).trans ?_
  show seqR (forE (asList (getV 1)) (putV 3) body23) (lastF (retF (getV 2))) [some (natsD ds), some (natsD order), some (.list []), none, none] = _
  have e' : forF (putV 3) body23 (order.map fun (n : Nat) => .int n) [some (natsD ds), some (natsD order), some (.list []), none, none] = _ := e
  rw [seqR_next ((forE_eq (fi := asList (getV 1)) rfl).trans e')]
  rfl
end Mine
end

section
open PySem PySem.W PyProof.Rows PySem.Calls
set_option maxRecDepth 100000
set_option linter.all false
namespace Mine

/-! the pieces of law -/
theorem sum_cast : ∀ l : List Nat, (l.map fun (n : Nat) => (n : Int)).sum = ((l.sum : Nat) : Int)
  | [] => rfl
  | a :: l => by rw [List.map_cons, List.sum_cons, List.sum_cons, sum_cast l]; omega
theorem sum_le {m : Nat} : ∀ l : List Nat, (∀ n ∈ l, n < m) → l.sum ≤ l.length * m
  | [], _ => by simp
  | a :: l, h => by
    have ih := sum_le l fun n q => h n (.tail _ q)
    have := h a (.head _)
    rw [List.sum_cons, List.length_cons, Nat.succ_mul]
    omega
theorem sumFit_nats {l : List Nat} (hl : l.length ≤ 1000) (h : ∀ n ∈ l, n < 1000000) : sumFit (l.map fun (n : Nat) => (n : Int)) = true := by
  unfold sumFit
  rw [List.all_eq_true]
  intro j hj
  rw [Bool.and_eq_true, decide_eq_true_eq, decide_eq_true_eq]
  rw [List.mem_range, List.length_map] at hj
  have hg : (l.map fun (n : Nat) => (n : Int)).getD j 0 = ((l[j] : Nat) : Int) := by simp [List.getD, hj]
  have h1 := h _ (List.getElem_mem hj)
  rw [hg, ← List.map_take, sum_cast]
  have h2 := sum_le (m := 1000000) (l.take (j + 1)) fun n q => h n (List.mem_of_mem_take q)
  have h3 : (l.take (j + 1)).length ≤ 1000 := by rw [List.length_take]; omega
  have h4 : (l.take (j + 1)).length * 1000000 ≤ 1000 * 1000000 := Nat.mul_le_mul_right _ h3
  have h5 : (2 : Int) ^ 63 = 9223372036854775808 := by decide
  rw [h5]
  omega
theorem sumV_nats {l : List Nat} (hl : l.length ≤ 1000) (h : ∀ n ∈ l, n < 1000000) : sumV [natsD l] = some (.int (l.sum : Nat)) := by
  have e : (l.map fun (n : Nat) => PyData.int n) = (l.map fun (n : Nat) => (n : Int)).map PyData.int := by simp
  show (intsOf (l.map fun (n : Nat) => PyData.int n)).bind _ = _
  rw [e, intsOf_map]
  show (if sumFit (l.map fun (n : Nat) => (n : Int)) = true then some (PyData.int (l.map fun (n : Nat) => (n : Int)).sum) else none) = _
  rw [if_pos (sumFit_nats hl h), sum_cast]
noncomputable def maxN : List Nat → Nat := List.foldl (fun a b => bif Nat.ble a b then b else a) 0
theorem max_go : ∀ (l : List Nat) (a : Nat), List.foldl max (a : Int) (l.map fun (n : Nat) => (n : Int)) = ((List.foldl (fun a b => bif Nat.ble a b then b else a) a l : Nat) : Int)
  | [], a => rfl
  | b :: l, a => by
    rw [List.map_cons, List.foldl_cons, List.foldl_cons, ← max_go l]
    congr 1
    cases h : Nat.ble a b with
    | true => have := Nat.le_of_ble_eq_true h; show max (a : Int) b = b; omega
    | false =>
      have : ¬ a ≤ b := fun q => by rw [Nat.ble_eq_true_of_le q] at h; cases h
      show max (a : Int) b = a; omega
theorem maxV_nats {l : List Nat} (hl : 1 ≤ l.length) : maxV [natsD l] = some (.int (maxN l : Nat)) := by
  have e : (l.map fun (n : Nat) => PyData.int n) = (l.map fun (n : Nat) => (n : Int)).map PyData.int := by simp
  show (intsOf (l.map fun (n : Nat) => PyData.int n)).bind _ = _
  rw [e, intsOf_map]
  cases l with
  | nil => simp at hl
  | cons a l =>
    show some (PyData.int (List.foldl max (a : Int) (l.map fun (n : Nat) => (n : Int)))) = _
    rw [max_go]
    have : maxN (a :: l) = List.foldl (fun a b => bif Nat.ble a b then b else a) a l := by
      show List.foldl _ (bif Nat.ble 0 a then a else 0) l = _
      rw [Nat.ble_eq_true_of_le (Nat.zero_le a)]; rfl
    rw [this]
theorem compGo_map {α : Type} {D : α → PyData} {g : PyData → Fm → Option Fm} {f : Fm → Option PyData} (S : Fm → Prop) {out : α → PyData} : ∀ (l : List α) (fr : Fm), S fr → (∀ a ∈ l, ∀ fr, S fr → ∃ fr1, g (D a) fr = some fr1 ∧ S fr1 ∧ f fr1 = some (out a)) → compGo g trueF f (l.map D) fr = some (l.map out)
  | [], _, _, _ => rfl
  | a :: l, fr, s, h => by
    obtain ⟨fr1, e1, s1, e2⟩ := h a (.head _) fr s
    rw [List.map_cons, compGo_one e1 rfl e2, compGo_map S l fr1 s1 fun b q => h b (.tail _ q)]
    rfl
/-! dots -/
noncomputable def dotsN (told : List (Nat × Nat)) : List Nat := told.map fun q => q.1 - 2
theorem itemV_head_nat {a : PyData} {l : List PyData} : itemV (.list (a :: l)) (.int ((0 : Nat) : Int)) = some a := itemV_head
theorem dots_go {hd : Nat → List Nat} {told : List (Nat × Nat)} (h : ∀ q ∈ told, 2 ≤ q.1 ∧ q.1 ≤ 100) (c : Option PyData) :
    compGo (putV 0) trueF (binF .Sub (callF (consF (subF (getV 0) (cI 0)) nilF) lenV) (cI 2)) (told.map (triD hd)) [c] = some ((dotsN told).map fun (n : Nat) => .int n) := by
  refine (compGo_map (fun fr => ∃ c, fr = [c]) (out := fun q => PyData.int ((q.1 - 2 : Nat) : Int)) told [c] ⟨c, rfl⟩ ?_).trans (by simp [dotsN])
  rintro q hq fr ⟨c, rfl⟩
  obtain ⟨h1, h2⟩ := h q hq
  refine ⟨[some (triD hd q)], rfl, ⟨_, rfl⟩, ?_⟩
  have hl : lenV [tx (List.replicate q.1 46)] = some (.int q.1) := by
    show (if (sx (List.replicate q.1 46)).length ≤ 10000000 then some (PyData.int (sx (List.replicate q.1 46)).length) else none) = _
    rw [sx_len, List.length_replicate, if_pos (by omega)]
  refine (binF_eq ((callF_eq (one_eq ((subF_eq rfl rfl).trans itemV_head))).trans hl) rfl).trans ((binV_sub _ _).trans ?_)
  congr 2; omega
/-! lists compared -/
theorem ne_self {x : List PyData} (h : SeqAt.shaped (.list x) = true) : cmpV .NotEq (.list x) (.list x) = some false := by
  show (if (SeqAt.shaped (.list x) && SeqAt.shaped (.list x)) = true then some (!(PyData.list x).eqv (.list x)) else none) = _
  rw [h]
  show some (!(PyData.list x).eqv (.list x)) = _
  rw [SeqAt.eqv_refl _ (SeqAt.canLay_of_shaped h)]
  rfl
theorem shaped_nats (l : List Nat) : SeqAt.shaped (natsD l) = true := by
  have hc : PyData.canLayAll0 (l.map fun (n : Nat) => PyData.int n) = true := canAll fun x hx => by obtain ⟨n, _, rfl⟩ := List.mem_map.mp hx; simp [PyData.canLay0]
  have hd : PyData.depthAll (l.map fun (n : Nat) => PyData.int n) ≤ 0 := depAll fun x hx => by obtain ⟨n, _, rfl⟩ := List.mem_map.mp hx; simp [PyData.depth]
  unfold SeqAt.shaped
  simp only [PyData.canLay0, PyData.depth, hc, Bool.true_and]
  exact decide_eq_true (by omega)
theorem ne_nats (l : List Nat) : cmpV .NotEq (natsD l) (natsD l) = some false := ne_self (shaped_nats l)
theorem shaped_tris {hd : Nat → List Nat} (H : ∀ k, HdOk (hd k)) (told : List (Nat × Nat)) : SeqAt.shaped (.list (told.map (triD hd))) = true := by
  have h1 : ∀ q, (triD hd q).canLay0 = true := fun q => by
    simp only [triD, PyData.canLay0]
    refine canAll fun x hx => ?_
    simp only [List.mem_cons, List.not_mem_nil, or_false] at hx
    rcases hx with rfl | rfl | rfl
    · exact can_tx fun c hc => by rw [List.mem_replicate] at hc; omega
    · exact can_tx (hd_ascii (H _))
    · exact can_tx fun c hc => by cases hc
  have h2 : ∀ q, (triD hd q).depth ≤ 1 := fun q => by
    simp only [triD, PyData.depth]
    have := depAll (k := 0) (xs := [tx (List.replicate q.1 46), tx (hd q.2), tx []]) fun x hx => by
      simp only [List.mem_cons, List.not_mem_nil, or_false] at hx
      rcases hx with rfl | rfl | rfl <;> simp [PyData.depth]
    omega
  have hc : PyData.canLayAll0 (told.map (triD hd)) = true := canAll fun x hx => by obtain ⟨q, _, rfl⟩ := List.mem_map.mp hx; exact h1 q
  have hd : PyData.depthAll (told.map (triD hd)) ≤ 1 := depAll fun x hx => by obtain ⟨q, _, rfl⟩ := List.mem_map.mp hx; exact h2 q
  unfold SeqAt.shaped
  simp only [PyData.canLay0, PyData.depth, hc, Bool.true_and]
  exact decide_eq_true (by omega)
/-! the record as units -/
noncomputable def oneHd : Nat → List Nat := fun _ => [40]
theorem oneHd_ok (k : Nat) : HdOk (oneHd k) := .inl rfl
noncomputable def recU (rec : List Nat) : List (Option Nat) := rec.map fun c => bif Nat.beq c 41 then none else some 0
theorem recU_eq : ∀ {rec : List Nat}, (∀ c ∈ rec, c = 40 ∨ c = 41) → (rec.map fun c => PyData.str ⟨#[c]⟩) = (recU rec).map (uD oneHd)
  | [], _ => rfl
  | c :: rec, h => by
    have ih := recU_eq (rec := rec) fun d q => h d (.tail _ q)
    have : PyData.str ⟨#[c]⟩ = uD oneHd (bif Nat.beq c 41 then none else some 0) := by
      rcases h c (.head _) with rfl | rfl <;> rfl
    rw [List.map_cons, ih, this]
    rfl
theorem listV_rec {rec : List Nat} (hl : rec.length ≤ 1000) (h : ∀ c ∈ rec, c = 40 ∨ c = 41) : listV [tx rec] = some (usD oneHd (recU rec)) := by
  show (if (sx rec).length ≤ 100000 then some (PyData.list ((sx rec).cps.toList.map fun c => .str ⟨#[c]⟩)) else none) = _
  rw [sx_len, if_pos (by omega)]
  show some (PyData.list (rec.map fun c => .str ⟨#[c]⟩)) = _
  rw [recU_eq h]
/-! the places in the order; the waits -/
noncomputable def pairD (q : Nat × Nat) : PyData := .tuple [.int q.1, .int q.2]
noncomputable def laidGo (ds : List Nat) : List Nat → Option (List (Nat × Nat))
  | [] => some []
  | k :: r => match ds[k]? with
    | some d => (laidGo ds r).map ((d, k) :: ·)
    | none => none
theorem laid_go {ds : List Nat} (hd : ds.length ≤ 1000) : ∀ (ks : List Nat) (out : List (Nat × Nat)) (c : Option PyData), laidGo ds ks = some out → compGo (putV 1) trueF (tupF (consF (subF (getV 0) (getV 1)) (consF (getV 1) nilF))) (ks.map fun (n : Nat) => .int n) [some (natsD ds), c] = some (out.map pairD)
  | [], out, c, h => by cases h; rfl
  | k :: ks, out, c, h => by
    unfold laidGo at h
    split at h
    · rename_i d hk
      obtain ⟨o, e, rfl⟩ := Option.map_eq_some_iff.mp h
      have he : tupF (consF (subF (getV 0) (getV 1)) (consF (getV 1) nilF)) [some (natsD ds), some (.int k)] = some (pairD (d, k)) := by
        show (consF (subF (getV 0) (getV 1)) (consF (getV 1) nilF) [some (natsD ds), some (.int k)]).bind _ = _
        rw [consF_eq ((subF_eq rfl rfl).trans (itemV_nats hk hd)) (one_eq rfl)]
        rfl
      rw [List.map_cons, compGo_one (fr1 := [some (natsD ds), some (.int k)]) rfl rfl he, laid_go hd ks o _ e]
      rfl
    · exact nomatch h
noncomputable def ltP (d k : Nat) (q : Nat × Nat) : Bool := Nat.blt q.1 d || (Nat.beq q.1 d && Nat.blt q.2 k)
noncomputable def ltQ (d k : Nat) (q : Nat × Nat) : Bool := Nat.blt (q.1 + 1) d || (Nat.beq (q.1 + 1) d && Nat.blt q.2 k)
theorem blt_dec (a b : Nat) : Nat.blt a b = decide (a < b) := by rw [Bool.eq_iff_iff, decide_eq_true_eq, Nat.blt_eq]
theorem beq_dec (a b : Nat) : Nat.beq a b = decide (a = b) := by rw [Bool.eq_iff_iff, decide_eq_true_eq, Nat.beq_eq]
theorem pairLt_dec (a b c d : Int) : pairLt a b c d = decide (a < c ∨ (a = c ∧ b < d)) := by
  unfold pairLt
  by_cases h : a = c
  · subst h
    rw [if_pos (by simp), decide_eq_decide]; omega
  · rw [if_neg (by simpa using h), decide_eq_decide]; omega
theorem ltP_eq (d k : Nat) (q : Nat × Nat) : cmpV .Lt (pairD q) (.tuple [.int d, .int k]) = some (ltP d k q) := by
  show some (pairLt q.1 q.2 d k) = _
  rw [pairLt_dec]
  unfold ltP
  rw [blt_dec, beq_dec, blt_dec]
  congr 1
  rw [Bool.eq_iff_iff]
  simp
  omega
theorem ltQ_eq (d k : Nat) (q : Nat × Nat) : cmpV .Lt (pairD q) (.tuple [.int ((d : Int) - 1), .int k]) = some (ltQ d k q) := by
  show some (pairLt q.1 q.2 ((d : Int) - 1) k) = _
  rw [pairLt_dec]
  unfold ltQ
  rw [blt_dec, beq_dec, blt_dec]
  congr 1
  rw [Bool.eq_iff_iff]
  simp
  omega
noncomputable def waitGo (ds : List Nat) (laid : List (Nat × Nat)) : List Nat → Option (List Nat)
  | [] => some []
  | k :: r => match ds[k]? with
    | some d => (match bisL (ltP d k) laid 20 0 laid.length with
      | some i => (match bisL (ltQ d k) laid 20 0 laid.length with
        | some j => if Nat.ble j i && Nat.ble (i - j) 100 then (waitGo ds laid r).map ((i - j) :: ·) else none
        | none => none)
      | none => none)
    | none => none
noncomputable def welt : Fm → Option PyData := (binF .Sub (callF (consF (getV 0) (consF (tupF (consF (subF (getV 1) (getV 2)) (consF (getV 2) nilF))) nilF)) F_4) (callF (consF (getV 0) (consF (tupF (consF (binF .Sub (subF (getV 1) (getV 2)) (cI 1)) (consF (getV 2) nilF))) nilF)) F_4))
theorem tupF_two {f g : Fm → Option PyData} {fr a b} (h1 : f fr = some a) (h2 : g fr = some b) : tupF (consF f (consF g nilF)) fr = some (.tuple [a, b]) := by
  show (consF f (consF g nilF) fr).bind _ = _
  rw [consF_eq h1 (one_eq h2)]
  rfl
theorem wait_go {ds : List Nat} {laid : List (Nat × Nat)} (hd : ds.length ≤ 1000) (hl : laid.length ≤ 1000) : ∀ (ks out : List Nat) (c : Option PyData), waitGo ds laid ks = some out → compGo (putV 2) trueF welt (ks.map fun (n : Nat) => .int n) [some (.list (laid.map pairD)), some (natsD ds), c] = some (out.map fun (n : Nat) => .int n)
  | [], out, c, h => by cases h; rfl
  | k :: ks, out, c, h => by
    unfold waitGo at h
    split at h
    · rename_i d hk
      split at h
      · rename_i i hi
        split at h
        · rename_i j hj
          split at h
          · rename_i hg
            rw [Bool.and_eq_true] at hg
            have g1 := Nat.le_of_ble_eq_true hg.1
            obtain ⟨o, e, rfl⟩ := Option.map_eq_some_iff.mp h
            have hdk : subF (getV 1) (getV 2) [some (.list (laid.map pairD)), some (natsD ds), some (.int k)] = some (.int d) := (subF_eq rfl rfl).trans (itemV_nats hk hd)
            have h1 : callF (consF (getV 0) (consF (tupF (consF (subF (getV 1) (getV 2)) (consF (getV 2) nilF))) nilF)) F_4 [some (.list (laid.map pairD)), some (natsD ds), some (.int k)] = some (.int i) :=
              (callF_eq (consF_eq rfl (one_eq (tupF_two hdk rfl)))).trans (F_4_gen (fun a _ => ltP_eq d k a) hl hi)
            have h2 : callF (consF (getV 0) (consF (tupF (consF (binF .Sub (subF (getV 1) (getV 2)) (cI 1)) (consF (getV 2) nilF))) nilF)) F_4 [some (.list (laid.map pairD)), some (natsD ds), some (.int k)] = some (.int j) :=
              (callF_eq (consF_eq rfl (one_eq (tupF_two ((binF_eq hdk rfl).trans (binV_sub _ _)) rfl)))).trans (F_4_gen (fun a _ => ltQ_eq d k a) hl hj)
            have he : welt [some (.list (laid.map pairD)), some (natsD ds), some (.int k)] = some (.int ((i - j : Nat) : Int)) := by
              refine (binF_eq h1 h2).trans ((binV_sub _ _).trans ?_)
              have hc : (i : Int) - (j : Int) = ((i - j : Nat) : Int) := by omega
              rw [hc]
            rw [List.map_cons, compGo_one (g := putV 2) (t := trueF) (f := welt) (v := .int (k : Int)) (fr := [some (.list (laid.map pairD)), some (natsD ds), c]) (fr1 := [some (.list (laid.map pairD)), some (natsD ds), some (.int k)]) rfl rfl he, wait_go hd hl ks o _ e]
            rfl
          · exact nomatch h
        · exact nomatch h
      · exact nomatch h
    · exact nomatch h
/-! the heads; what is asked of told -/
noncomputable def headsN (us : List (Option Nat)) : List Nat := us.filterMap id
theorem head_not {hd : Nat → List Nat} (H : ∀ k, HdOk (hd k)) (k : Nat) : hd k ≠ [41] := by
  rcases H k with h | ⟨a, p, h1, h2, hp, h⟩
  · rw [h]; decide
  · rw [h]; intro z; have := (List.cons.inj z).1; omega
theorem heads_go {hd : Nat → List Nat} (H : ∀ k, HdOk (hd k)) : ∀ (us : List (Option Nat)) (c : Option PyData), compGo (putV 0) (cmpF .NotEq (getV 0) (cS (Str.ofString ")"))) (getV 0) (us.map (uD hd)) [c] = some ((headsN us).map fun k => tx (hd k))
  | [], c => rfl
  | none :: us, c => by
    have ht : cmpF .NotEq (getV 0) (cS (Str.ofString ")")) [some (uD hd none)] = some false := by
      refine (cmpF_eq rfl (congrArg (fun x => some (PyData.str x)) r_sx)).trans ?_
      show some (!(sx [41] == sx [41])) = _
      rw [sx_beq]; rfl
    rw [List.map_cons, compGo_not (fr1 := [some (uD hd none)]) rfl ht, heads_go H us]
    rfl
  | some k :: us, c => by
    have ht : cmpF .NotEq (getV 0) (cS (Str.ofString ")")) [some (uD hd (some k))] = some true := by
      refine (cmpF_eq rfl (congrArg (fun x => some (PyData.str x)) r_sx)).trans ?_
      show some (!(sx (hd k) == sx [41])) = _
      rw [sx_beq, decide_eq_false (head_not H k)]; rfl
    rw [List.map_cons, compGo_one (fr1 := [some (uD hd (some k))]) rfl ht rfl, heads_go H us]
    rfl
theorem mul_dots (n : Nat) (h : n < 1000) : binV .Mult (tx [46]) (.int n) = some (tx (List.replicate n 46)) := mul_rep 46 n h
theorem dot_sx : Str.ofString "." = sx [46] := by decide +kernel
noncomputable def wantGo (heads : List Nat) : List Nat → List Nat → Option (List (Nat × Nat))
  | k :: ks, w :: ws => match heads[k]? with
    | some h => if Nat.ble w 100 then (wantGo heads ks ws).map ((2 + w, h) :: ·) else none
    | none => none
  | _, _ => some []
noncomputable def telt : Fm → Option PyData := (listF (consF (binF .Mult (cS (Str.ofString ".")) (binF .Add (cI 2) (getV 2))) (consF (subF (getV 0) (getV 1)) (consF (cS (Str.ofString "")) nilF))))
theorem want_go {hd : Nat → List Nat} {heads : List Nat} (hl : heads.length ≤ 1000) : ∀ (ks ws : List Nat) (out : List (Nat × Nat)) (c1 c2 : Option PyData), wantGo heads ks ws = some out →
    compGo (putV2 1 2) trueF telt (zipL (ks.map fun (n : Nat) => .int n) (ws.map fun (n : Nat) => .int n)) [some (.list (heads.map fun k => tx (hd k))), c1, c2] = some (out.map (triD hd))
  | [], ws, out, c1, c2, h => by
    unfold wantGo at h
    obtain rfl := Option.some.inj h; rfl
  | k :: ks, [], out, c1, c2, h => by
    unfold wantGo at h
    obtain rfl := Option.some.inj h; rfl
  | k :: ks, w :: ws, out, c1, c2, h => by
    unfold wantGo at h
    split at h
    · rename_i x hx
      split at h
      · rename_i hg
        have hg := Nat.le_of_ble_eq_true hg
        obtain ⟨o, e, rfl⟩ := Option.map_eq_some_iff.mp h
        have hsb : subF (getV 0) (getV 1) [some (.list (heads.map fun k => tx (hd k))), some (.int (k : Int)), some (.int (w : Int))] = some (tx (hd x)) := (subF_eq rfl rfl).trans (itemV_map (D := fun k => tx (hd k)) hx hl)
        have hm : binF .Mult (cS (Str.ofString ".")) (binF .Add (cI 2) (getV 2)) [some (.list (heads.map fun k => tx (hd k))), some (.int (k : Int)), some (.int (w : Int))] = some (tx (List.replicate (2 + w) 46)) := by
          refine (binF_eq (b := .int ((2 + w : Nat) : Int)) (congrArg (fun x => some (PyData.str x)) dot_sx) ((binF_eq rfl rfl).trans ((binV_add _ _).trans ?_))).trans (mul_dots _ (by omega))
          congr 2
        have he : telt [some (.list (heads.map fun k => tx (hd k))), some (.int (k : Int)), some (.int (w : Int))] = some (triD hd (2 + w, x)) := by
          show (consF (binF .Mult (cS (Str.ofString ".")) (binF .Add (cI 2) (getV 2))) (consF (subF (getV 0) (getV 1)) (consF (cS (Str.ofString "")) nilF)) [some (.list (heads.map fun k => tx (hd k))), some (.int (k : Int)), some (.int (w : Int))]).bind _ = _
          rw [consF_eq hm (consF_eq hsb (one_eq (congrArg (fun x => some (PyData.str x)) e_sx)))]
          rfl
        show compGo (putV2 1 2) trueF telt (.tuple [.int (k : Int), .int (w : Int)] :: zipL (ks.map fun (n : Nat) => .int n) (ws.map fun (n : Nat) => .int n)) _ = _
        rw [compGo_one (fr1 := [some (.list (heads.map fun k => tx (hd k))), some (.int (k : Int)), some (.int (w : Int))]) rfl rfl he, want_go hl ks ws o _ _ e]
        rfl
      · exact nomatch h
    · exact nomatch h
/-! where the record's signs stand -/
noncomputable def placesOf (c : Nat) : Nat → List Nat → List Nat
  | _, [] => []
  | i, a :: r => bif Nat.beq a c then i :: placesOf c (i + 1) r else placesOf c (i + 1) r
theorem places_go {c : Nat} {S : String} (hS : Str.ofString S = sx [c]) : ∀ (rec : List Nat) (i : Nat) (c1 c2 : Option PyData), compGo (putV2 0 1) (cmpF .Eq (getV 1) (cS (Str.ofString S))) (getV 0) (enumL i (rec.map fun c => PyData.str ⟨#[c]⟩)) [c1, c2] = some ((placesOf c i rec).map fun (n : Nat) => .int n)
  | [], i, c1, c2 => rfl
  | a :: rec, i, c1, c2 => by
    have ht : cmpF .Eq (getV 1) (cS (Str.ofString S)) [some (.int (i : Int)), some (tx [a])] = some (Nat.beq a c) := by
      refine (cmpF_eq rfl (congrArg (fun x => some (PyData.str x)) hS)).trans ?_
      show some (sx [a] == sx [c]) = _
      rw [sx_beq, beq_dec]
      simp
    have hp : putV2 0 1 (.tuple [.int (i : Int), tx [a]]) [c1, c2] = some [some (.int (i : Int)), some (tx [a])] := rfl
    have ih := places_go hS rec (i + 1) (some (.int (i : Int))) (some (tx [a]))
    show compGo (putV2 0 1) (cmpF .Eq (getV 1) (cS (Str.ofString S))) (getV 0) (.tuple [.int (i : Int), tx [a]] :: enumL (i + 1) (rec.map fun c => PyData.str ⟨#[c]⟩)) [c1, c2] = _
    unfold placesOf
    cases hb : Nat.beq a c with
    | true =>
      rw [hb] at ht
      rw [compGo_one hp ht rfl, ih]
      rfl
    | false =>
      rw [hb] at ht
      rw [compGo_not hp ht, ih]
      rfl
theorem places_len {c : Nat} : ∀ (rec : List Nat) (i : Nat), (placesOf c i rec).length ≤ rec.length
  | [], _ => Nat.le_refl _
  | a :: rec, i => by
    have := places_len (c := c) rec (i + 1)
    unfold placesOf
    cases Nat.beq a c <;> simp <;> omega
noncomputable def heldGo (cl : List Nat) : List Nat → Option (List Nat)
  | [] => some []
  | p :: r => match bisL (fun a => Nat.blt a p) cl 20 0 cl.length with
    | some i => (heldGo cl r).map (i :: ·)
    | none => none
theorem held_go {cl : List Nat} (hl : cl.length ≤ 1000) : ∀ (ps out : List Nat) (c : Option PyData), heldGo cl ps = some out → compGo (putV 1) trueF (callF (consF (getV 0) (consF (getV 1) nilF)) F_4) (ps.map fun (n : Nat) => .int n) [some (natsD cl), c] = some (out.map fun (n : Nat) => .int n)
  | [], out, c, h => by cases h; rfl
  | p :: ps, out, c, h => by
    unfold heldGo at h
    split at h
    · rename_i i hi
      obtain ⟨o, e, rfl⟩ := Option.map_eq_some_iff.mp h
      have h4 := F_4_gen (D := fun (n : Nat) => PyData.int n) (l := cl) (x := .int p) (lt := fun a => Nat.blt a p) (fun a _ => cmpV_lt a p) hl hi
      have he : callF (consF (getV 0) (consF (getV 1) nilF)) F_4 [some (natsD cl), some (.int (p : Int))] = some (.int i) := (callF_eq (consF_eq rfl (one_eq rfl))).trans h4
      rw [List.map_cons, compGo_one (fr1 := [some (natsD cl), some (.int (p : Int))]) rfl rfl he, held_go hl ps o _ e]
      rfl
    · exact nomatch h
/-! how many are less deep -/
noncomputable def lessN (ds : List Nat) (k : Nat) : Nat := (ds.filter fun d => Nat.blt d k).length
noncomputable def lelt : Fm → Option PyData := (callF (consF (compF (asList (getV 0)) (putV 1) (cmpF .Lt (getV 1) (getV 0)) (getV 1) [1] 1) nilF) lenV)
theorem less_go {ds : List Nat} (hd : ds.length ≤ 1000) (ks : List Nat) (c : Option PyData) : compGo (putV 1) trueF lelt (ks.map fun (n : Nat) => .int n) [some (natsD ds), c] = some ((ks.map (lessN ds)).map fun (n : Nat) => .int n) := by
  refine (compGo_map (fun fr => ∃ c, fr = [some (natsD ds), c]) (out := fun k => PyData.int ((lessN ds k : Nat) : Int)) ks _ ⟨c, rfl⟩ ?_).trans (by simp)
  rintro k _ fr ⟨c, rfl⟩
  refine ⟨[some (natsD ds), some (.int k)], rfl, ⟨_, rfl⟩, ?_⟩
  have hf := compGo_filter (t := fun x => Nat.blt x k) (X := some (.int k)) (tt := cmpF .Lt (getV 1) (getV 0)) ds none fun x _ => (cmpF_eq rfl rfl).trans (cmpV_lt x k)
  have ha : asList (getV 0) [some (natsD ds), some (.int (k : Int))] = some (ds.map fun (n : Nat) => .int n) := rfl
  refine (callF_eq (one_eq (compF_eq ha (by simp; omega) hf))).trans ?_
  have : ((ds.filter fun x => Nat.blt x k).map fun (n : Nat) => PyData.int n).length ≤ 10000000 := by
    have := List.length_filter_le (fun x => Nat.blt x k) ds
    simp at this ⊢; omega
  rw [lenV_list this, List.length_map]
  rfl
end Mine
end

section
open PySem PySem.W PyProof.Rows PySem.Calls
set_option maxRecDepth 100000
set_option linter.all false
namespace Mine

/-! what law asks of a shape alone; law itself -/
structure ShapeOk (ds : List Nat) (told : List (Nat × Nat)) (rec order : List Nat) (laid : List (Nat × Nat)) (waits : List Nat) (held stops : List Nat) : Prop where
  us : (unitsOf ds).length ≤ 100
  g_hand : handAll (unitsOf ds) = some (told, rec)
  tz : told.length ≤ 100
  tb : ∀ q ∈ told, 2 ≤ q.1 ∧ q.1 ≤ 100
  rz : rec.length ≤ 100
  rb : ∀ c ∈ rec, c = 40 ∨ c = 41
  g_order : orderN ds = some order
  oz : order.length ≤ 100
  ob : ∀ k ∈ order, k ≤ 100
  g_laid : laidGo ds order = some laid
  g_waits : waitGo ds laid order = some waits
  wz : waits.length ≤ 100
  want : wantGo (headsN (unitsOf ds)) order waits = some told
  g_held : heldGo (placesOf 41 0 rec) (placesOf 40 0 rec) = some held
  hold : holdGo ds order order [] = some held
  lev : maxN ds ≤ 100
  g_stops : stopsGo (placesOf 40 0 rec) (placesOf 41 0 rec) (maxN ds + 1) 0 [0] = some stops
  less : stops = (List.range' 0 (maxN ds + 2)).map (lessN ds)
  g_cells : (dotsN told).sum = cellsN ds
  dep : depOk 14 (recU rec) = true
  deps : dotsN told = depths 14 (recU rec) 0
  last : balN 0 ((unitsOf ds).drop 1 ++ (unitsOf ds).take 1) = false
theorem asgP_eq {f : Fm → Option PyData} {g : PyData → Fm → Option Fm} {fr fr1 : Fm} {v : PyData} (h : f fr = some v) (h2 : g v fr = some fr1) : asgP f g fr = some (.next fr1) := by
  show (f fr).bind _ = _; rw [h]; show (g v fr).map _ = _; rw [h2]; rfl
theorem orF_false {f g : Fm → Option Bool} {fr : Fm} (h : f fr = some false) (h2 : g fr = some false) : orF f g fr = some false := by
  show (f fr).bind _ = _; rw [h]; exact h2
theorem depGo_len : ∀ (xs : List Nat) (l : Nat), (depGo l xs).length = xs.length
  | [], _ => rfl
  | x :: xs, l => by simp [depGo, depGo_len xs]
theorem depGo_le : ∀ (xs : List Nat) (l i : Nat) (d : Nat), (depGo l xs)[i]? = some d → d ≤ l + 1 + i
  | [], _, _, _, h => by simp [depGo] at h
  | x :: xs, l, 0, d, h => by
    simp [depGo] at h
    have := Nat.mod_lt x (show 0 < l + 2 by omega)
    omega
  | x :: xs, l, i + 1, d, h => by
    simp only [depGo, List.getElem?_cons_succ] at h
    have h1 := depGo_le xs _ i d h
    have := Nat.mod_lt x (show 0 < l + 2 by omega)
    omega
theorem depL_le (xs : List Nat) (i : Nat) (d : Nat) (h : (depL xs)[i]? = some d) : d ≤ i := by
  unfold depL at h
  cases i with
  | zero => simp at h; omega
  | succ i =>
    simp only [List.getElem?_cons_succ] at h
    have := depGo_le _ _ _ _ h
    omega
theorem depL_len {xs : List Nat} (h : 1 ≤ xs.length) : (depL xs).length = xs.length := by
  unfold depL
  rw [List.length_cons, depGo_len, List.length_tail]
  omega
theorem ne_nat (a b : Nat) (h : a = b) : cmpV .NotEq (.int a) (.int b) = some false := by
  subst h
  show some ((a : Int) != a) = _
  simp
theorem enum_len : ∀ (l : List PyData) (k : Nat), (enumL k l).length = l.length
  | [], _ => rfl
  | a :: l, k => by simp [enumL, enum_len l]
theorem zip_len : ∀ (a b : List PyData), (zipL a b).length ≤ a.length
  | [], b => by simp [zipL]
  | x :: a, [] => by simp [zipL]
  | x :: a, y :: b => by have := zip_len a b; simp [zipL]; omega
theorem law_eq {xs : List Nat} {S : PyData} {told : List (Nat × Nat)} {rec order : List Nat} {laid : List (Nat × Nat)} {waits held stops : List Nat} (h5 : 5 ≤ xs.length) (h7 : xs.length ≤ 7) (hx : ∀ x ∈ xs, x < 1000000)
    (h15 : F_15 [S] = some (.tuple [natsD xs, natsD (depL xs)])) (G : ShapeOk (depL xs) told rec order laid waits held stops) :
    f_25 (depF 14) F_22 [some S, none, none, none, none, none, none, none, none, none, none, none, none, none] = some (.bool true) := by
  have H := headOf_ok xs
  obtain ⟨hd, hhd⟩ : ∃ hd, hd = headOf xs := ⟨_, rfl⟩
  have hl := depL_len (xs := xs) (by omega)
  have hle := depL_le xs
  have h16 := F_16_units (xs := xs) (ds := depL xs) hl.symm (by omega) fun d hd => by
    obtain ⟨i, hi⟩ := List.getElem?_of_mem hd
    have := hle i d hi
    have := (List.getElem?_eq_some_iff.mp hi).1
    omega
  obtain ⟨ds, hds⟩ : ∃ ds, ds = depL xs := ⟨_, rfl⟩
  rw [← hds] at h15 G hl hle h16
  rw [← hhd] at H h16
  have h20 := F_20_units H (turn := ((xs.sum : Nat) : Int)) (by have := G.us; omega) G.g_hand
  have h21 := F_21_eq (ds := ds) (by omega) hle
  have h22 := F_22_eq (ds := ds) (by omega) G.g_order
  have hsum := sumV_nats (l := xs) (by omega) hx
  have hdl : (dotsN told).length ≤ 100 := by have := G.tz; simpa [dotsN] using this
  have hsum2 := sumV_nats (l := dotsN told) (by omega) fun n hn => by
    obtain ⟨q, hq, rfl⟩ := List.mem_map.mp hn
    have := (G.tb q hq).2; omega
  have hlist := listV_rec (rec := rec) (by have := G.rz; omega) G.rb
  have h18 := depF_units oneHd_ok 14 (recU rec) 0 G.dep
  rw [← G.deps] at h18
  have hop := places_len (c := 40) rec 0
  have hcl := places_len (c := 41) rec 0
  have hrz := G.rz
  have h23 := F_23_eq (ds := ds) (by omega) G.oz (fun n hn => by have := G.ob n hn; omega) G.hold
  have hlev := G.lev
  have h24 := F_24_eq (op := placesOf 40 0 rec) (cl := placesOf 41 0 rec) (levels := maxN ds + 1) (by omega) (by omega) (by omega) G.g_stops
  have hmax := maxV_nats (l := ds) (by omega)
  obtain ⟨X, hX⟩ : ∃ X, X = natsD xs := ⟨_, rfl⟩
  obtain ⟨us, hus⟩ : ∃ us, us = unitsOf ds := ⟨_, rfl⟩
  have gus := G.us
  rw [← hus] at h16 h20 gus
  -- drawn, depths
  unfold f_25
  refine (seqR_next (fr1 := [some S, some (natsD xs), some (natsD ds), none, none, none, none, none, none, none, none, none, none, none]) (asgP_eq ((callF_eq (one_eq rfl)).trans h15) rfl)).trans ?_
  -- units
  refine (seqR_next (fr1 := [some S, some (natsD xs), some (natsD ds), some (usD hd us), none, none, none, none, none, none, none, none, none, none]) (setF_eq ((callF_eq (consF_eq rfl (one_eq rfl))).trans h16) (Nat.le_of_ble_eq_true rfl))).trans ?_
  -- told, record
  refine (seqR_next (fr1 := [some S, some (natsD xs), some (natsD ds), some (usD hd us), some (.list (told.map (triD hd))), some (tx rec), none, none, none, none, none, none, none, none]) (asgP_eq ((callF_eq (consF_eq rfl (one_eq ((callF_eq (one_eq rfl)).trans hsum)))).trans h20) rfl)).trans ?_
  -- dots
  refine (seqR_next (fr1 := [some S, some (natsD xs), some (natsD ds), some (usD hd us), some (.list (told.map (triD hd))), some (tx rec), some (natsD (dotsN told)), none, none, none, none, none, none, none])
    (setF_eq (compF_eq (items := told.map (triD hd)) rfl (by rw [List.length_map]; have := G.tz; omega) (dots_go G.tb none)) (Nat.le_of_ble_eq_true rfl))).trans ?_
  -- the first question
  refine (seqR_next (fr1 := [some S, some (natsD xs), some (natsD ds), some (usD hd us), some (.list (told.map (triD hd))), some (tx rec), some (natsD (dotsN told)), none, none, none, none, none, none, none])
    ((iteF_false (orF_false
      ((cmpF_eq ((callF_eq (one_eq rfl)).trans hsum2) ((callF_eq (one_eq rfl)).trans h21)).trans (ne_nat _ _ G.g_cells))
      ((cmpF_eq rfl ((callF_eq (consF_eq ((callF_eq (one_eq rfl)).trans hlist) (one_eq rfl))).trans h18)).trans (ne_nats _)))).trans rfl)).trans ?_
  -- order
  refine (seqR_next (fr1 := [some S, some (natsD xs), some (natsD ds), some (usD hd us), some (.list (told.map (triD hd))), some (tx rec), some (natsD (dotsN told)), some (natsD order), none, none, none, none, none, none])
    (setF_eq ((callF_eq (one_eq rfl)).trans h22) (Nat.le_of_ble_eq_true rfl))).trans ?_
  -- laid
  refine (seqR_next (fr1 := [some S, some (natsD xs), some (natsD ds), some (usD hd us), some (.list (told.map (triD hd))), some (tx rec), some (natsD (dotsN told)), some (natsD order), some (.list (laid.map pairD)), none, none, none, none, none])
    (setF_eq (compF_eq (items := order.map fun (n : Nat) => .int n) rfl (by rw [List.length_map]; have := G.oz; omega) (laid_go (by omega) order laid none G.g_laid)) (Nat.le_of_ble_eq_true rfl))).trans ?_
  -- waits
  have hlz : ∀ (ks : List Nat) (o : List (Nat × Nat)), laidGo ds ks = some o → o.length = ks.length := by
    intro ks
    induction ks with
    | nil => intro o h; cases h; rfl
    | cons k ks ih =>
      intro o h
      unfold laidGo at h
      split at h
      · obtain ⟨o', e, rfl⟩ := Option.map_eq_some_iff.mp h
        simp [ih o' e]
      · exact nomatch h
  have hll := hlz _ _ G.g_laid
  have goz := G.oz
  refine (seqR_next (fr1 := [some S, some (natsD xs), some (natsD ds), some (usD hd us), some (.list (told.map (triD hd))), some (tx rec), some (natsD (dotsN told)), some (natsD order), some (.list (laid.map pairD)), some (natsD waits), none, none, none, none])
    (setF_eq (compF_eq (items := order.map fun (n : Nat) => .int n) rfl (by rw [List.length_map]; omega) (wait_go (by omega) (by omega) order waits none G.g_waits)) (Nat.le_of_ble_eq_true rfl))).trans ?_
  -- heads
  refine (seqR_next (fr1 := [some S, some (natsD xs), some (natsD ds), some (usD hd us), some (.list (told.map (triD hd))), some (tx rec), some (natsD (dotsN told)), some (natsD order), some (.list (laid.map pairD)), some (natsD waits), some (.list ((headsN us).map fun k => tx (hd k))), none, none, none])
    (setF_eq (compF_eq (items := us.map (uD hd)) rfl (by rw [List.length_map]; omega) (heads_go H us none)) (Nat.le_of_ble_eq_true rfl))).trans ?_
  -- told is what is asked
  have hhz : (headsN us).length ≤ 1000 := Nat.le_trans (List.length_filterMap_le _ _) (by omega)
  have gw := G.want
  rw [← hus] at gw
  have hwt := want_go (hd := hd) hhz order waits told none none gw
  refine (seqR_next (fr1 := [some S, some (natsD xs), some (natsD ds), some (usD hd us), some (.list (told.map (triD hd))), some (tx rec), some (natsD (dotsN told)), some (natsD order), some (.list (laid.map pairD)), some (natsD waits), some (.list ((headsN us).map fun k => tx (hd k))), none, none, none])
    ((iteF_false ((cmpF_eq rfl (compF_eq (items := zipL (order.map fun (n : Nat) => .int n) (waits.map fun (n : Nat) => .int n)) rfl (by have := zip_len (order.map fun (n : Nat) => PyData.int n) (waits.map fun (n : Nat) => .int n); rw [List.length_map] at this; omega) hwt)).trans (ne_self (shaped_tris H told)))).trans rfl)).trans ?_
  -- opens, closes
  refine (seqR_next (fr1 := [some S, some (natsD xs), some (natsD ds), some (usD hd us), some (.list (told.map (triD hd))), some (tx rec), some (natsD (dotsN told)), some (natsD order), some (.list (laid.map pairD)), some (natsD waits), some (.list ((headsN us).map fun k => tx (hd k))), some (natsD (placesOf 40 0 rec)), none, none])
    (setF_eq (compF_eq (items := enumL 0 (rec.map fun c => PyData.str ⟨#[c]⟩)) rfl (by rw [enum_len, List.length_map]; omega) (places_go l_sx rec 0 none none)) (Nat.le_of_ble_eq_true rfl))).trans ?_
  refine (seqR_next (fr1 := [some S, some (natsD xs), some (natsD ds), some (usD hd us), some (.list (told.map (triD hd))), some (tx rec), some (natsD (dotsN told)), some (natsD order), some (.list (laid.map pairD)), some (natsD waits), some (.list ((headsN us).map fun k => tx (hd k))), some (natsD (placesOf 40 0 rec)), some (natsD (placesOf 41 0 rec)), none])
    (setF_eq (compF_eq (items := enumL 0 (rec.map fun c => PyData.str ⟨#[c]⟩)) rfl (by rw [enum_len, List.length_map]; omega) (places_go r_sx rec 0 none none)) (Nat.le_of_ble_eq_true rfl))).trans ?_
  -- the holders
  refine (seqR_next (fr1 := [some S, some (natsD xs), some (natsD ds), some (usD hd us), some (.list (told.map (triD hd))), some (tx rec), some (natsD (dotsN told)), some (natsD order), some (.list (laid.map pairD)), some (natsD waits), some (.list ((headsN us).map fun k => tx (hd k))), some (natsD (placesOf 40 0 rec)), some (natsD (placesOf 41 0 rec)), none])
    ((iteF_false ((cmpF_eq (compF_eq (items := (placesOf 40 0 rec).map fun (n : Nat) => .int n) rfl (by rw [List.length_map]; omega) (held_go (by omega) (placesOf 40 0 rec) held none G.g_held)) ((callF_eq (consF_eq rfl (one_eq rfl))).trans h23)).trans (ne_nats held))).trans rfl)).trans ?_
  -- the levels
  refine (seqR_next (fr1 := [some S, some (natsD xs), some (natsD ds), some (usD hd us), some (.list (told.map (triD hd))), some (tx rec), some (natsD (dotsN told)), some (natsD order), some (.list (laid.map pairD)), some (natsD waits), some (.list ((headsN us).map fun k => tx (hd k))), some (natsD (placesOf 40 0 rec)), some (natsD (placesOf 41 0 rec)), some (.int ((maxN ds + 1 : Nat) : Int))])
    (setF_eq ((binF_eq ((callF_eq (one_eq rfl)).trans hmax) rfl).trans rfl) (Nat.le_of_ble_eq_true rfl))).trans ?_
  -- the stops
  have hrg : rngF (consF (binF .Add (getV 13) (cI 1)) nilF) [some S, some (natsD xs), some (natsD ds), some (usD hd us), some (.list (told.map (triD hd))), some (tx rec), some (natsD (dotsN told)), some (natsD order), some (.list (laid.map pairD)), some (natsD waits), some (.list ((headsN us).map fun k => tx (hd k))), some (natsD (placesOf 40 0 rec)), some (natsD (placesOf 41 0 rec)), some (.int ((maxN ds + 1 : Nat) : Int))] = some ((List.range' 0 (maxN ds + 2)).map fun (n : Nat) => .int n) :=
    rngF_eq (one_eq ((binF_eq rfl rfl).trans rfl)) (rangeV_nat (n := maxN ds + 2) (by omega))
  have hls := less_go (ds := ds) (by omega) (List.range' 0 (maxN ds + 2)) none
  rw [← G.less] at hls
  refine (seqR_next (fr1 := [some S, some (natsD xs), some (natsD ds), some (usD hd us), some (.list (told.map (triD hd))), some (tx rec), some (natsD (dotsN told)), some (natsD order), some (.list (laid.map pairD)), some (natsD waits), some (.list ((headsN us).map fun k => tx (hd k))), some (natsD (placesOf 40 0 rec)), some (natsD (placesOf 41 0 rec)), some (.int ((maxN ds + 1 : Nat) : Int))])
    ((iteF_false ((cmpF_eq ((callF_eq (consF_eq rfl (consF_eq rfl (one_eq rfl)))).trans h24) (compF_eq hrg (by rw [List.length_map, List.length_range']; omega) hls)).trans (ne_nats stops))).trans rfl)).trans ?_
  -- the last
  have hp1 : sliceV (usD hd us) (some 1) none = some (usD hd (us.drop 1)) := by
    refine (sliceV_list (by rw [List.length_map]; omega)).trans ?_
    have := pick_from (l := us.map (uD hd)) (a := 1)
    rw [show ((1 : Nat) : Int) = 1 from rfl] at this
    rw [this]; simp
  have hp2 : sliceV (usD hd us) none (some 1) = some (usD hd (us.take 1)) := by
    refine (sliceV_list (by rw [List.length_map]; omega)).trans ?_
    have := pick_to (l := us.map (uD hd)) (a := 1)
    rw [show ((1 : Nat) : Int) = 1 from rfl] at this
    rw [this]; simp
  have hzz : (us.drop 1 ++ us.take 1).length ≤ 1000 := by simp; omega
  have had : binV .Add (usD hd (us.drop 1)) (usD hd (us.take 1)) = some (usD hd (us.drop 1 ++ us.take 1)) := by
    show (if ((us.drop 1).map (uD hd)).length + ((us.take 1).map (uD hd)).length ≤ 100000 then some (PyData.list ((us.drop 1).map (uD hd) ++ (us.take 1).map (uD hd))) else none) = _
    rw [if_pos (by simp; omega)]; simp
  have hj := joinV_units H hzz
  have h8 := F_8_units H hzz
  have gl := G.last
  rw [← hus] at gl
  rw [gl] at h8
  have hjj : methF "str" (cS (Str.ofString "")) (consF (binF .Add (sliceF (getV 3) (pSome (cI 1)) pNone) (sliceF (getV 3) pNone (pSome (cI 1)))) nilF) joinV [some S, some (natsD xs), some (natsD ds), some (usD hd us), some (.list (told.map (triD hd))), some (tx rec), some (natsD (dotsN told)), some (natsD order), some (.list (laid.map pairD)), some (natsD waits), some (.list ((headsN us).map fun k => tx (hd k))), some (natsD (placesOf 40 0 rec)), some (natsD (placesOf 41 0 rec)), some (.int ((maxN ds + 1 : Nat) : Int))] = some (tx (textL hd (us.drop 1 ++ us.take 1))) :=
    (methF_eq (congrArg (fun x => some (PyData.str x)) e_sx) (one_eq ((binF_eq ((sliceF_eq rfl rfl rfl).trans hp1) ((sliceF_eq rfl rfl rfl).trans hp2)).trans had)) rfl).trans hj
  have hlast := (callF_eq (F := F_8) (one_eq hjj)).trans h8
  show ((cmpF .Is _ (cB false) _).map PyData.bool |>.map Out.ret).bind outV = _
  rw [(cmpF_eq hlast rfl)]
  rfl
end Mine
end

section
open PySem PySem.W PyProof.Rows PySem.Calls
set_option maxRecDepth 100000
set_option linter.all false
namespace Mine

/-! all shapes -/
noncomputable def eqN : List Nat → List Nat → Bool
  | [], [] => true
  | a :: as, b :: bs => Nat.beq a b && eqN as bs
  | _, _ => false
theorem eqN_ok : ∀ {a b : List Nat}, eqN a b = true → a = b
  | [], [], _ => rfl
  | a :: as, b :: bs, h => by
    unfold eqN at h
    rw [Bool.and_eq_true] at h
    rw [Nat.eq_of_beq_eq_true h.1, eqN_ok h.2]
  | [], _ :: _, h => by cases h
  | _ :: _, [], h => by cases h
noncomputable def eqP : List (Nat × Nat) → List (Nat × Nat) → Bool
  | [], [] => true
  | (a, x) :: as, (b, y) :: bs => (Nat.beq a b && Nat.beq x y) && eqP as bs
  | _, _ => false
theorem eqP_ok : ∀ {a b : List (Nat × Nat)}, eqP a b = true → a = b
  | [], [], _ => rfl
  | (a, x) :: as, (b, y) :: bs, h => by
    unfold eqP at h
    rw [Bool.and_eq_true, Bool.and_eq_true] at h
    rw [Nat.eq_of_beq_eq_true h.1.1, Nat.eq_of_beq_eq_true h.1.2, eqP_ok h.2]
  | [], _ :: _, h => by cases h
  | _ :: _, [], h => by cases h
noncomputable def chk2 (ds : List Nat) (us : List (Option Nat)) (told : List (Nat × Nat)) (rec order : List Nat) (laid : List (Nat × Nat)) (waits : List Nat) (want : List (Nat × Nat)) (held hold stops : List Nat) : Bool :=
  ((Nat.ble us.length 100 && (Nat.ble told.length 100 && told.all fun q => Nat.ble 2 q.1 && Nat.ble q.1 100)) &&
   ((Nat.ble rec.length 100 && rec.all fun c => Nat.beq c 40 || Nat.beq c 41) && (Nat.ble order.length 100 && order.all fun k => Nat.ble k 100))) &&
  (((Nat.ble waits.length 100 && Nat.ble (maxN ds) 100) && (Nat.beq (dotsN told).sum (cellsN ds) && (depOk 14 (recU rec) && eqN (dotsN told) (depths 14 (recU rec) 0)))) &&
   ((eqP told want && eqN held hold) && (eqN stops ((List.range' 0 (maxN ds + 2)).map (lessN ds)) && !(balN 0 (us.drop 1 ++ us.take 1)))))
/-- numbers, written out before they are used (the kernel would else work them out again at each use) -/
noncomputable def fN {β : Type} (a : Nat) (k : Nat → β) : β := @Nat.rec (fun _ => β) (k 0) (fun n _ => k (n + 1)) a
noncomputable def fLN {β : Type} (l : List Nat) (k : List Nat → β) : β := @List.rec Nat (fun _ => (List Nat → β) → β) (fun k => k []) (fun a _ ih k => fN a fun a => ih fun l => k (a :: l)) l k
noncomputable def fLP {β : Type} (l : List (Nat × Nat)) (k : List (Nat × Nat) → β) : β := @List.rec (Nat × Nat) (fun _ => (List (Nat × Nat) → β) → β) (fun k => k []) (fun a _ ih k => fN a.1 fun x => fN a.2 fun y => ih fun l => k ((x, y) :: l)) l k
theorem fN_eq {β : Type} (a : Nat) (k : Nat → β) : fN a k = k a := by cases a <;> rfl
theorem fLN_eq {β : Type} : ∀ (l : List Nat) (k : List Nat → β), fLN l k = k l
  | [], _ => rfl
  | a :: l, k => by
    show fN a (fun a => fLN l fun l => k (a :: l)) = _
    rw [fN_eq, fLN_eq]
theorem fLP_eq {β : Type} : ∀ (l : List (Nat × Nat)) (k : List (Nat × Nat) → β), fLP l k = k l
  | [], _ => rfl
  | (a, b) :: l, k => by
    show fN a (fun x => fN b fun y => fLP l fun l => k ((x, y) :: l)) = _
    rw [fN_eq, fN_eq, fLP_eq]
noncomputable def chk (ds : List Nat) : Bool := match handAll (unitsOf ds) with
  | none => false
  | some (told, rec) => fLP told fun told => fLN rec fun rec => match orderN ds with
    | none => false
    | some order => fLN order fun order => match laidGo ds order with
      | none => false
      | some laid => fLP laid fun laid => match waitGo ds laid order with
        | none => false
        | some waits => match wantGo (headsN (unitsOf ds)) order waits with
          | none => false
          | some want => match heldGo (placesOf 41 0 rec) (placesOf 40 0 rec) with
            | none => false
            | some held => match holdGo ds order order [] with
              | none => false
              | some hold => match stopsGo (placesOf 40 0 rec) (placesOf 41 0 rec) (maxN ds + 1) 0 [0] with
                | none => false
                | some stops => chk2 ds (unitsOf ds) told rec order laid waits want held hold stops
theorem chk_ok {ds : List Nat} (h : chk ds = true) : ∃ told rec order laid waits held stops, ShapeOk ds told rec order laid waits held stops := by
  unfold chk at h
  split at h
  · cases h
  · rename_i told rec e1
    rw [fLP_eq, fLN_eq] at h
    split at h
    · cases h
    · rename_i order e2
      rw [fLN_eq] at h
      split at h
      · cases h
      · rename_i laid e3
        rw [fLP_eq] at h
        split at h
        · cases h
        · rename_i waits e4
          split at h
          · cases h
          · rename_i want e5
            split at h
            · cases h
            · rename_i held e6
              split at h
              · cases h
              · rename_i hold e7
                split at h
                · cases h
                · rename_i stops e8
                  unfold chk2 at h
                  simp only [Bool.and_eq_true, List.all_eq_true, Bool.or_eq_true] at h
                  obtain ⟨⟨⟨a1, a2, a3⟩, ⟨a4, a5⟩, a6, a7⟩, ⟨⟨b1, b2⟩, b3, b4, b5⟩, ⟨c1, c2⟩, c3, c4⟩ := h
                  have hw := eqP_ok c1
                  have hh := eqN_ok c2
                  subst hw hh
                  exact ⟨told, rec, order, laid, waits, held, stops, ⟨Nat.le_of_ble_eq_true a1, e1, Nat.le_of_ble_eq_true a2, fun q hq => ⟨Nat.le_of_ble_eq_true (a3 q hq).1, Nat.le_of_ble_eq_true (a3 q hq).2⟩, Nat.le_of_ble_eq_true a4,
                    fun c hc => (a5 c hc).imp Nat.eq_of_beq_eq_true Nat.eq_of_beq_eq_true, e2, Nat.le_of_ble_eq_true a6, fun k hk => Nat.le_of_ble_eq_true (a7 k hk), e3, e4, Nat.le_of_ble_eq_true b1, e5, e6, e7, Nat.le_of_ble_eq_true b2, e8, eqN_ok c3,
                    Nat.eq_of_beq_eq_true b3, b4, eqN_ok b5, by simpa using c4⟩⟩
noncomputable def allG : Nat → Nat → (List Nat → Bool) → Bool
  | 0, _, p => p []
  | n + 1, last, p => (List.range' 0 (last + 2)).all fun d => allG n d fun r => p (d :: r)
theorem allG_ok : ∀ {n last : Nat} {p : List Nat → Bool}, allG n last p = true → ∀ xs : List Nat, xs.length = n → p (depGo last xs) = true
  | 0, _, _, h, xs, e => by
    cases xs with
    | nil => exact h
    | cons _ _ => cases e
  | n + 1, last, p, h, xs, e => by
    cases xs with
    | nil => cases e
    | cons x xs =>
      unfold allG at h
      rw [List.all_eq_true] at h
      have hm := Nat.mod_lt x (show 0 < last + 2 by omega)
      exact allG_ok (p := fun r => p (x % (last + 2) :: r)) (h (x % (last + 2)) (by rw [List.mem_range']; exact ⟨x % (last + 2), by omega, by omega⟩)) xs (by simpa using e)
theorem all2 {n : Nat} {p : List Nat → Bool} (h0 : allG n 0 (fun r => p (0 :: r)) = true) (h1 : allG n 1 (fun r => p (1 :: r)) = true) : allG (n + 1) 0 p = true := by
  show (allG n 0 (fun r => p (0 :: r)) && (allG n 1 (fun r => p (1 :: r)) && true)) = true
  rw [h0, h1]; rfl
theorem all3 {n : Nat} {p : List Nat → Bool} (h0 : allG n 0 (fun r => p (0 :: r)) = true) (h1 : allG n 1 (fun r => p (1 :: r)) = true) (h2 : allG n 2 (fun r => p (2 :: r)) = true) : allG (n + 1) 1 p = true := by
  show (allG n 0 (fun r => p (0 :: r)) && (allG n 1 (fun r => p (1 :: r)) && (allG n 2 (fun r => p (2 :: r)) && true))) = true
  rw [h0, h1, h2]; rfl
theorem all4 {n : Nat} {p : List Nat → Bool} (h0 : allG n 0 (fun r => p (0 :: r)) = true) (h1 : allG n 1 (fun r => p (1 :: r)) = true) (h2 : allG n 2 (fun r => p (2 :: r)) = true) (h3 : allG n 3 (fun r => p (3 :: r)) = true) : allG (n + 1) 2 p = true := by
  show (allG n 0 (fun r => p (0 :: r)) && (allG n 1 (fun r => p (1 :: r)) && (allG n 2 (fun r => p (2 :: r)) && (allG n 3 (fun r => p (3 :: r)) && true)))) = true
  rw [h0, h1, h2, h3]; rfl
end Mine
end

section
open PySem PySem.W PyProof.Rows PySem.Calls
set_option maxRecDepth 100000
set_option linter.all false
namespace Mine

theorem chk5 : (allG 4 0 fun r => chk (0 :: r)) = true := by decide +kernel
theorem c6_00 : (allG 3 0 fun r => chk (0 :: 0 :: 0 :: r)) = true := by decide +kernel
theorem c6_01 : (allG 3 1 fun r => chk (0 :: 0 :: 1 :: r)) = true := by decide +kernel
theorem c6_10 : (allG 3 0 fun r => chk (0 :: 1 :: 0 :: r)) = true := by decide +kernel
theorem c6_11 : (allG 3 1 fun r => chk (0 :: 1 :: 1 :: r)) = true := by decide +kernel
theorem c6_12 : (allG 3 2 fun r => chk (0 :: 1 :: 2 :: r)) = true := by decide +kernel
theorem chk6 : (allG 5 0 fun r => chk (0 :: r)) = true := (all2 (all2 c6_00 c6_01) (all3 c6_10 c6_11 c6_12))
theorem c7_000 : (allG 3 0 fun r => chk (0 :: 0 :: 0 :: 0 :: r)) = true := by decide +kernel
theorem c7_001 : (allG 3 1 fun r => chk (0 :: 0 :: 0 :: 1 :: r)) = true := by decide +kernel
theorem c7_010 : (allG 3 0 fun r => chk (0 :: 0 :: 1 :: 0 :: r)) = true := by decide +kernel
theorem c7_011 : (allG 3 1 fun r => chk (0 :: 0 :: 1 :: 1 :: r)) = true := by decide +kernel
theorem c7_012 : (allG 3 2 fun r => chk (0 :: 0 :: 1 :: 2 :: r)) = true := by decide +kernel
theorem c7_100 : (allG 3 0 fun r => chk (0 :: 1 :: 0 :: 0 :: r)) = true := by decide +kernel
theorem c7_101 : (allG 3 1 fun r => chk (0 :: 1 :: 0 :: 1 :: r)) = true := by decide +kernel
theorem c7_110 : (allG 3 0 fun r => chk (0 :: 1 :: 1 :: 0 :: r)) = true := by decide +kernel
theorem c7_111 : (allG 3 1 fun r => chk (0 :: 1 :: 1 :: 1 :: r)) = true := by decide +kernel
theorem c7_112 : (allG 3 2 fun r => chk (0 :: 1 :: 1 :: 2 :: r)) = true := by decide +kernel
theorem c7_120 : (allG 3 0 fun r => chk (0 :: 1 :: 2 :: 0 :: r)) = true := by decide +kernel
theorem c7_121 : (allG 3 1 fun r => chk (0 :: 1 :: 2 :: 1 :: r)) = true := by decide +kernel
theorem c7_122 : (allG 3 2 fun r => chk (0 :: 1 :: 2 :: 2 :: r)) = true := by decide +kernel
theorem c7_123 : (allG 3 3 fun r => chk (0 :: 1 :: 2 :: 3 :: r)) = true := by decide +kernel
theorem chk7 : (allG 6 0 fun r => chk (0 :: r)) = true := (all2 (all2 (all2 c7_000 c7_001) (all3 c7_010 c7_011 c7_012)) (all3 (all2 c7_100 c7_101) (all3 c7_110 c7_111 c7_112) (all4 c7_120 c7_121 c7_122 c7_123)))
theorem chk_all {xs : List Nat} (h5 : 5 ≤ xs.length) (h7 : xs.length ≤ 7) : chk (depL xs) = true := by
  have ht : xs.tail.length = xs.length - 1 := by simp
  rcases (by omega : xs.tail.length = 4 ∨ xs.tail.length = 5 ∨ xs.tail.length = 6) with h | h | h
  · exact allG_ok chk5 _ h
  · exact allG_ok chk6 _ h
  · exact allG_ok chk7 _ h
theorem law_true {ns : List Int} (hn : ns.length ≤ 63) : f_25 (depF 14) F_22 [some (.list (ns.map .int)), none, none, none, none, none, none, none, none, none, none, none, none, none] = some (.bool true) := by
  obtain ⟨xs, h5, h7, hx, h15⟩ := F_15_units hn
  obtain ⟨told, rec, order, laid, waits, held, stops, G⟩ := chk_ok (chk_all h5 h7)
  exact law_eq h5 h7 hx h15 G
end Mine
end

section
open PySem PySem.W PyProof.Rows PySem.Calls PySem.Builtin.Re
set_option maxRecDepth 100000
set_option linter.all false
namespace Mine

/-! what the written-out heap says -/
noncomputable def cutK (K : Frag) : Frag := K.filter fun p => !(p.1 == TB)
theorem cut_lookup {a : Addr} {o : Obj} : ∀ {K : Frag}, (cutK K).lookup a = some o → a ≠ TB ∧ K.lookup a = some o
  | [], h => by cases h
  | (b, x) :: K, h => by
    by_cases hb : b = TB
    · have e : cutK ((b, x) :: K) = cutK K := by unfold cutK; rw [List.filter_cons_of_neg]; simp [hb]
      rw [e] at h
      obtain ⟨h1, h2⟩ := cut_lookup h
      refine ⟨h1, ?_⟩
      rw [List.lookup_cons, beq_eq_false_iff_ne.mpr (fun z => h1 (z.trans hb))]
      exact h2
    · have e : cutK ((b, x) :: K) = (b, x) :: cutK K := by unfold cutK; rw [List.filter_cons_of_pos]; simp [hb]
      rw [e, List.lookup_cons] at h
      rw [List.lookup_cons]
      cases q : a == b with
      | true =>
        rw [q] at h
        exact ⟨fun z => hb ((eq_of_beq q).symm.trans z), h⟩
      | false =>
        rw [q] at h
        exact cut_lookup h
theorem cut_in {K : Frag} {h h' : Heap} (X : K.In h) (k : Keep All h h') : (cutK K).In h' := fun a o e =>
  let ⟨h1, h2⟩ := cut_lookup e
  k a o trivial (.inr h1) (X a o h2)
noncomputable def funcK (K : Frag) (a : Addr) : FuncData := match K.lookup a with
  | some ⟨_, _, .func fd, _⟩ => fd
  | _ => default
noncomputable def clsK (K : Frag) (a : Addr) : Option Value := (K.lookup a).map (·.cls)
noncomputable def isFuncK (K : Frag) (a : Addr) : Bool := match K.lookup a with
  | some ⟨_, _, .func _, _⟩ => true
  | _ => false
theorem funcK_at {K : Frag} {h : Heap} {a : Addr} (X : K.In h) (e : isFuncK K a = true) (c : clsK K a = some (.type "function")) : ∃ o, h.get? a = some o ∧ Plain o ∧ o.data = .func (funcK K a) := by
  unfold isFuncK at e
  unfold clsK at c
  split at e
  · rename_i cl d fd sl q
    rw [q] at c
    refine ⟨_, X _ _ q, ?_, ?_⟩
    · exact .type (Option.some.inj c)
    · unfold funcK; rw [q]
  · cases e
noncomputable def fieldsK (K : Frag) (a : Addr) : Array Value := match K.lookup a with
  | some ⟨_, _, .fields vs, _⟩ => vs
  | _ => #[]
noncomputable def qualK (K : Frag) (c : Addr) : Option Str := match (fieldsK K c)[1]? with
  | some (Value.str q _) => some q
  | _ => none
theorem qualK_at {K : Frag} {h : Heap} {c : Addr} {q : Str} (X : K.In h) (e : qualK K c = some q) : ∃ o vs t, h.get? c = some o ∧ o.data = .fields vs ∧ vs[1]? = some (.str q t) := by
  unfold qualK fieldsK at e
  split at e
  · rename_i p t hq
    cases e
    split at hq
    · rename_i cl d vs sl z
      exact ⟨_, vs, t, X _ _ z, rfl, hq⟩
    · cases hq
  · cases e
/-- a def of the module, as it is written out: its address, its code's -/
structure FnK (K : Frag) (x : Str) (i : Nat) (a c : Addr) : Prop where
  nm : nsIn K mainGlobals x = some (some (.ref a))
  isf : isFuncK K a = true
  cls : clsK K a = some (.type "function")
  body : (funcK K a).body = .stmts (fnBody i)
  sc : (funcK K a).scope = fnScope i
  view : ((funcK K a).closure, (funcK K a).globals, (funcK K a).builtins, (funcK K a).code, (funcK K a).qualname) = ([], mainGlobals, builtinsNs, .ref c, x)
  qual : qualK K c = some x
section
variable {K : Frag} {B : BH}
theorem glob_of {x : Str} {v : Value} (X : K.In B.hB) (b : BaseOk B) (e : nsIn K mainGlobals x = some (some v)) : glob B x = some v := by
  unfold glob
  rw [mg_of X b.g e]; rfl
theorem glob_b {x : Str} {v : Value} (X : K.In B.hB) (b : BaseOk B) (hm : ∀ x : Str, x ≠ "__name__" → B.mb x = bootBuiltins x) (e : nsIn K mainGlobals x = some none) (hn : (x == ("__name__" : Str)) = false) (hv : bootBuiltins x = some v) : glob B x = some v := by
  unfold glob
  rw [mg_none_of X b.g e, hm x (by intro z; rw [z] at hn; simp at hn)]
  exact hv
theorem fnAt_of {x : Str} {i : Nat} {a c : Addr} {ps : List Str} (X : K.In B.hB) (F : FnK K x i a c) (hc : c ≠ TB) (hk : (fnScope i).kind = .function) (hp : ∀ y ∈ ps, (fnScope i).names.lookup y = some .local ∨ (fnScope i).names.lookup y = some .cell) : FnAt B a (funcK K a) (fnBody i) ps := by
  have v := F.view
  simp only [Prod.mk.injEq] at v
  obtain ⟨v1, v2, v3, v4, v5⟩ := v
  refine ⟨funcK_at X F.isf F.cls, ?_, F.body, v1, v2, v3, by rw [F.sc]; exact hk, by rw [F.sc]; exact hp⟩
  obtain ⟨o, vs, t, q1, q2, q3⟩ := qualK_at X F.qual
  exact ⟨c, o, vs, t, v4, hc, q1, q2, by rw [v5]; exact q3⟩
noncomputable def psOkB (i : Nat) (ps : List Str) : Bool := ps.all fun y => match (fnScope i).names.lookup y with
  | some .local => true
  | some .cell => true
  | _ => false
theorem psOk {i : Nat} {ps : List Str} (h : psOkB i ps = true) : ∀ y ∈ ps, (fnScope i).names.lookup y = some .local ∨ (fnScope i).names.lookup y = some .cell := fun y hy => by
  have := List.all_eq_true.mp h y hy
  split at this
  · rename_i e; exact .inl e
  · rename_i e; exact .inr e
  · cases this
theorem defAt_of {x : Str} {i : Nat} {a c : Addr} {ps : List Str} (X : K.In B.hB) (b : BaseOk B) (F : FnK K x i a c) (hc : c ≠ TB) (hk : (fnScope i).kind = .function) (hp : psOkB i ps = true)
    (hb : ∀ rvs : List Value, rvs.length = ps.length → bindArgs (funcK K a) ⟨rvs, []⟩ = pure (ps.zip rvs)) : DefAt B x i ps :=
  ⟨a, funcK K a, glob_of X b F.nm, fnAt_of X F hc hk (psOk hp), F.sc, fun s rvs hz => .of_eq (hb rvs hz)⟩
theorem len1 {P : List Value → Prop} (h : ∀ v, P [v]) (rvs : List Value) (e : rvs.length = 1) : P rvs := by
  obtain ⟨v, rfl⟩ := List.length_eq_one_iff.mp e
  exact h v
theorem len2 {P : List Value → Prop} (h : ∀ v u, P [v, u]) (rvs : List Value) (e : rvs.length = 2) : P rvs := by
  obtain ⟨v, ws, rfl⟩ := List.exists_cons_of_length_eq_add_one e
  exact len1 (P := fun ws => P (v :: ws)) (h v) ws (Nat.succ.inj e)
theorem len3 {P : List Value → Prop} (h : ∀ v u t, P [v, u, t]) (rvs : List Value) (e : rvs.length = 3) : P rvs := by
  obtain ⟨v, ws, rfl⟩ := List.exists_cons_of_length_eq_add_one e
  exact len2 (P := fun ws => P (v :: ws)) (h v) ws (Nat.succ.inj e)
theorem len4 {P : List Value → Prop} (h : ∀ v u t r, P [v, u, t, r]) (rvs : List Value) (e : rvs.length = 4) : P rvs := by
  obtain ⟨v, ws, rfl⟩ := List.exists_cons_of_length_eq_add_one e
  exact len3 (P := fun ws => P (v :: ws)) (h v) ws (Nat.succ.inj e)
theorem cut_inv {s : Shared} (X : K.In B.hB) (I : Inv B s) : (cutK K).In s.heap := cut_in X I.keep
/-! the patterns -/
noncomputable def seqK (K : Frag) (a : Addr) : Array Value := match K.lookup a with
  | some ⟨_, _, .seq vs _, _⟩ => vs
  | _ => #[]
noncomputable def seqN (K : Frag) (a : Addr) : Nat := match K.lookup a with
  | some ⟨_, _, .seq _ n, _⟩ => n
  | _ => 0
structure PatK (K : Frag) (x : Str) (a c : Addr) (code : Array Nat) : Prop where
  nm : nsIn K mainGlobals x = some (some (.ref a))
  obj : K.lookup a = some { cls := .type "re.Pattern", data := .fields (fieldsK K a) }
  f6 : reRawNat ((fieldsK K a).getD 6 .none) = 0
  f2 : reRawNat ((fieldsK K a).getD 2 .none) = 0
  f5 : (fieldsK K a).getD 5 .none = .ref c
  tup : K.lookup c = some { cls := .type "tuple", data := .seq (seqK K c) (seqN K c) }
  code : ((seqK K c).map reRawOf).map (·.toNat) = code
theorem patB_of {x : Str} {a c : Addr} {code : Array Nat} (X : K.In B.hB) (b : BaseOk B) (F : PatK K x a c code) : PatB B x code :=
  ⟨a, glob_of X b F.nm, ⟨_, X _ _ F.obj, F.f6, F.f2, c, _, _, F.f5, X _ _ F.tup, F.code⟩⟩
noncomputable def strK (K : Frag) (x : Str) : Option Str := match nsIn K mainGlobals x with
  | some (some (.str y _)) => some y
  | _ => none
theorem strK_at {x y : Str} (X : K.In B.hB) (b : BaseOk B) (e : strK K x = some y) : ∃ t, glob B x = some (.str y t) := by
  unfold strK at e
  split at e
  · rename_i z t q
    cases e
    exact ⟨t, glob_of X b q⟩
  · cases e
end
end Mine
end

section
open PySem PySem.W PyProof.Rows PySem.Calls PySem.Builtin.Re
set_option maxRecDepth 100000
set_option linter.all false
namespace Mine

noncomputable def dfK (K : Frag) (a : Addr) : Addr := match (funcK K a).defaults with
  | Value.ref T => T
  | _ => 0
noncomputable def tokK (K : Frag) (a : Addr) : Tok := match (seqK K (dfK K a))[0]? with
  | some (Value.int _ t) => t
  | _ => default
structure HeadK (K : Frag) : Prop where
  f6 : FnK K (Str.ofString "_iter_escaped_chars") 6 65 64
  b6 : ∀ v : Value, bindArgs (funcK K 65) ⟨[v], []⟩ = pure ([(Str.ofString "addr")].zip [v])
  f7 : FnK K (Str.ofString "_strip_quoted_realnames") 7 72 71
  b7 : ∀ v : Value, bindArgs (funcK K 72) ⟨[v], []⟩ = pure ([(Str.ofString "addr")].zip [v])
  f8 : FnK K (Str.ofString "_check_parenthesis") 8 79 78
  b8 : ∀ v : Value, bindArgs (funcK K 79) ⟨[v], []⟩ = pure ([(Str.ofString "addr")].zip [v])
  f13 : FnK K (Str.ofString "quotedata") 13 96 95
  b13 : ∀ v : Value, bindArgs (funcK K 96) ⟨[v], []⟩ = pure ([(Str.ofString "data")].zip [v])
  f15 : FnK K (Str.ofString "_law_drawn") 15 101 100
  b15 : ∀ v : Value, bindArgs (funcK K 101) ⟨[v], []⟩ = pure ([(Str.ofString "script")].zip [v])
  f16 : FnK K (Str.ofString "_law_units") 16 108 107
  b16 : ∀ v u : Value, bindArgs (funcK K 108) ⟨[v, u], []⟩ = pure ([(Str.ofString "drawn"), (Str.ofString "depths")].zip [v, u])
  f17 : FnK K (Str.ofString "_law_parted") 17 115 114
  b17 : ∀ v : Value, bindArgs (funcK K 115) ⟨[v], []⟩ = pure ([(Str.ofString "units")].zip [v])
  f18 : FnK K (Str.ofString "_law_depths") 18 122 121
  b18 : ∀ v u : Value, bindArgs (funcK K 122) ⟨[v, u], []⟩ = pure ([(Str.ofString "units"), (Str.ofString "depth")].zip [v, u])
  f19 : FnK K (Str.ofString "_law_laid") 19 129 128
  b19 : ∀ v u t : Value, bindArgs (funcK K 129) ⟨[v, u, t], []⟩ = pure ([(Str.ofString "mail"), (Str.ofString "trees"), (Str.ofString "turn")].zip [v, u, t])
  f20 : FnK K (Str.ofString "_law_handed_out") 20 136 135
  b20 : ∀ v u : Value, bindArgs (funcK K 136) ⟨[v, u], []⟩ = pure ([(Str.ofString "units"), (Str.ofString "turn")].zip [v, u])
  f21 : FnK K (Str.ofString "_law_cells") 21 141 140
  b21 : ∀ v : Value, bindArgs (funcK K 141) ⟨[v], []⟩ = pure ([(Str.ofString "depths")].zip [v])
  f22 : FnK K (Str.ofString "_law_order") 22 148 147
  b22 : ∀ v : Value, bindArgs (funcK K 148) ⟨[v], []⟩ = pure ([(Str.ofString "depths")].zip [v])
  f23 : FnK K (Str.ofString "_law_holders") 23 153 152
  b23 : ∀ v u : Value, bindArgs (funcK K 153) ⟨[v, u], []⟩ = pure ([(Str.ofString "depths"), (Str.ofString "order")].zip [v, u])
  f24 : FnK K (Str.ofString "_law_stops") 24 160 159
  b24 : ∀ v u t : Value, bindArgs (funcK K 160) ⟨[v, u, t], []⟩ = pure ([(Str.ofString "opens"), (Str.ofString "closes"), (Str.ofString "levels")].zip [v, u, t])
  f25 : FnK K (Str.ofString "law") 25 165 164
  b25 : ∀ v : Value, bindArgs (funcK K 165) ⟨[v], []⟩ = pure ([(Str.ofString "script")].zip [v])
  f2 : FnK K (Str.ofString "insort_right") 2 40 39
  f3 : FnK K (Str.ofString "bisect_right") 3 49 48
  f4 : FnK K (Str.ofString "bisect_left") 4 58 57
  b2 : ∀ (S : Setting) (v u k : Value), peek (cutK K) S (bindArgs (funcK K 40) ⟨[v, u], [((Str.ofString "key"), k)]⟩) = some (ps5.zip ([v, u] ++ [.int 0 (tokK K 40), .none] ++ [k]))
  b3 : ∀ (S : Setting) (v u t r k : Value), peek (cutK K) S (bindArgs (funcK K 49) ⟨[v, u, t, r], [((Str.ofString "key"), k)]⟩) = some (ps5.zip ([v, u, t, r] ++ [] ++ [k]))
  b4 : ∀ (S : Setting) (v u : Value), peek (cutK K) S (bindArgs (funcK K 58) ⟨[v, u], []⟩) = some (ps5.zip ([v, u] ++ [.int 0 (tokK K 58), .none, .none]))
  u_len : nsIn K mainGlobals (Str.ofString "len") = some none
  u_sum : nsIn K mainGlobals (Str.ofString "sum") = some none
  u_max : nsIn K mainGlobals (Str.ofString "max") = some none
  u_min : nsIn K mainGlobals (Str.ofString "min") = some none
  u_list : nsIn K mainGlobals (Str.ofString "list") = some none
  u_range : nsIn K mainGlobals (Str.ofString "range") = some none
  u_enumerate : nsIn K mainGlobals (Str.ofString "enumerate") = some none
  u_zip : nsIn K mainGlobals (Str.ofString "zip") = some none
  re1 : PatK K (Str.ofString "_twin_re_1") 84 83 code1
  re2 : PatK K (Str.ofString "_twin_re_2") 89 88 code2
  crlf : strK K (Str.ofString "CRLF") = some (Str.ofString "\r\n")
  bm : nsIn K mainGlobals (Str.ofString "__builtins__") = some (some (.ref 4))
  bmo : K.lookup 4 = some { cls := .type "module", dict := some builtinsNs, data := .plain }
  tab : K.lookup TB = some { cls := .none, data := .fields #[] }
  cod : K.lookup CO = some { cls := .type "code", data := .fields (fieldsK K CO) }
  c11 : (fieldsK K CO)[11]? = some (.ref TB)
  c18 : (match (fieldsK K CO)[18]? with | some (Value.str _ _) => true | _ => false) = true
  c7 : (match (fieldsK K CO)[7]? with | some (Value.int _ _) => true | _ => false) = true
  c9 : (match (fieldsK K CO)[9]? with | some (Value.bool _) => true | _ => false) = true
  c10 : (match (fieldsK K CO)[10]? with | some (Value.int _ _) => true | _ => false) = true
  qn : (funcK K 148).qualname ++ ".<locals>." = lamPre
section
variable {K : Frag} {B : BH}
theorem facts_of (X : K.In B.hB) (b : BaseOk B) (hm : ∀ x : Str, x ≠ "__name__" → B.mb x = bootBuiltins x) (H : HeadK K) : Facts B where
  len := glob_b X b hm H.u_len (by decide +kernel) (by kernel_rfl)
  sum := glob_b X b hm H.u_sum (by decide +kernel) (by kernel_rfl)
  max := glob_b X b hm H.u_max (by decide +kernel) (by kernel_rfl)
  min := glob_b X b hm H.u_min (by decide +kernel) (by kernel_rfl)
  list := glob_b X b hm H.u_list (by decide +kernel) (by kernel_rfl)
  range := glob_b X b hm H.u_range (by decide +kernel) (by kernel_rfl)
  enum := glob_b X b hm H.u_enumerate (by decide +kernel) (by kernel_rfl)
  zip := glob_b X b hm H.u_zip (by decide +kernel) (by kernel_rfl)
  re1 := patB_of X b H.re1
  re2 := patB_of X b H.re2
  crlf := strK_at X b H.crlf
  d6 := defAt_of X b H.f6 (by decide) (by decide +kernel) (by decide +kernel) (len1 H.b6)
  d7 := defAt_of X b H.f7 (by decide) (by decide +kernel) (by decide +kernel) (len1 H.b7)
  d8 := defAt_of X b H.f8 (by decide) (by decide +kernel) (by decide +kernel) (len1 H.b8)
  d13 := defAt_of X b H.f13 (by decide) (by decide +kernel) (by decide +kernel) (len1 H.b13)
  d15 := defAt_of X b H.f15 (by decide) (by decide +kernel) (by decide +kernel) (len1 H.b15)
  d16 := defAt_of X b H.f16 (by decide) (by decide +kernel) (by decide +kernel) (len2 H.b16)
  d17 := defAt_of X b H.f17 (by decide) (by decide +kernel) (by decide +kernel) (len1 H.b17)
  d18 := defAt_of X b H.f18 (by decide) (by decide +kernel) (by decide +kernel) (len2 H.b18)
  d19 := defAt_of X b H.f19 (by decide) (by decide +kernel) (by decide +kernel) (len3 H.b19)
  d20 := defAt_of X b H.f20 (by decide) (by decide +kernel) (by decide +kernel) (len2 H.b20)
  d21 := defAt_of X b H.f21 (by decide) (by decide +kernel) (by decide +kernel) (len1 H.b21)
  d22 := defAt_of X b H.f22 (by decide) (by decide +kernel) (by decide +kernel) (len1 H.b22)
  d23 := defAt_of X b H.f23 (by decide) (by decide +kernel) (by decide +kernel) (len2 H.b23)
  d24 := defAt_of X b H.f24 (by decide) (by decide +kernel) (by decide +kernel) (len3 H.b24)
  d4 := ⟨58, funcK K 58, tokK K 58, glob_of X b H.f4.nm, fnAt_of X H.f4 (by decide) (by decide +kernel) (psOk (by decide +kernel)), H.f4.sc, fun s rvs I hz => kp_binds (cut_inv X I) fun S => len2 (P := fun rvs => peek (cutK K) S (bindArgs (funcK K 58) ⟨rvs, []⟩) = some ([Str.ofString "a", Str.ofString "x", Str.ofString "lo", Str.ofString "hi", Str.ofString "key"].zip (rvs ++ [Value.int 0 (tokK K 58), Value.none, Value.none]))) (H.b4 S) rvs hz⟩
theorem lamFacts_of (X : K.In B.hB) (b : BaseOk B) (H : HeadK K) : LamFacts B where
  bm := ⟨4, _, mg_of X b.g H.bm, by decide, by decide, by decide, X _ _ H.bmo, rfl, rfl, rfl⟩
  k2 := ⟨40, funcK K 40, tokK K 40, glob_of X b H.f2.nm, fnAt_of X H.f2 (by decide) (by decide +kernel) (psOk (by decide +kernel)), H.f2.sc, fun s rvs kv I hz => kp_binds (cut_inv X I) fun S => len2 (P := fun rvs => peek (cutK K) S (bindArgs (funcK K 40) ⟨rvs, [((Str.ofString "key"), kv)]⟩) = some (ps5.zip (rvs ++ [Value.int 0 (tokK K 40), Value.none] ++ [kv]))) (fun v u => H.b2 S v u kv) rvs hz⟩
  k3 := ⟨49, funcK K 49, default, glob_of X b H.f3.nm, fnAt_of X H.f3 (by decide) (by decide +kernel) (psOk (by decide +kernel)), H.f3.sc, fun s rvs kv I hz => kp_binds (cut_inv X I) fun S => len4 (P := fun rvs => peek (cutK K) S (bindArgs (funcK K 49) ⟨rvs, [((Str.ofString "key"), kv)]⟩) = some (ps5.zip (rvs ++ [] ++ [kv]))) (fun v u t r => H.b3 S v u t r kv) rvs hz⟩
  d22 := ⟨148, funcK K 148, glob_of X b H.f22.nm, fnAt_of X H.f22 (by decide) (by decide +kernel) (psOk (by decide +kernel)), H.f22.sc, (by have v := H.f22.view; simp only [Prod.mk.injEq] at v; exact v.2.2.2.1), H.qn, fun s rvs hz => .of_eq (len1 (P := fun rvs => bindArgs (funcK K 148) ⟨rvs, []⟩ = pure ([Str.ofString "depths"].zip rvs)) H.b22 rvs hz)⟩
theorem law_of (X : K.In B.hB) (b : BaseOk B) (H : HeadK K) : DefAt B (Str.ofString "law") 25 [Str.ofString "script"] := defAt_of X b H.f25 (by decide) (by decide +kernel) (by decide +kernel) (len1 H.b25)
theorem getD_of {vs : Array Value} {i : Nat} {v : Value} (h : vs[i]? = some v) : vs.getD i .none = v := by
  rw [Array.getD_eq_getD_getElem?, h]; rfl
theorem tab_of (X : K.In B.hB) (H : HeadK K) : TabOk B.hB := by
  have e1 := X _ _ H.cod
  have e2 := X _ _ H.tab
  have h18 := H.c18
  have h7 := H.c7
  have h9 := H.c9
  have h10 := H.c10
  split at h18
  · rename_i y18 t18 q18
    split at h7
    · rename_i y7 t7 q7
      split at h9
      · rename_i y9 q9
        split at h10
        · rename_i y10 t10 q10
          exact ⟨#[], ⟨_, _, y18, t18, y7, t7, y9, y10, t10, _, e1, rfl, getD_of H.c11, getD_of q18, getD_of q7, getD_of q9, getD_of q10, e2, rfl, trivial, by decide⟩, ⟨⟨_, _, e1, rfl, rfl, H.c11⟩, e2⟩, .inl rfl⟩
        · cases h10
      · cases h9
    · cases h7
  · cases h18
end
end Mine
end

section
open PySem PySem.W PyProof.Rows PySem.Calls
set_option maxRecDepth 100000
set_option linter.all false
namespace Mine

theorem oldK_of {s s' : Shared} (t : Step s s') (h1 : TabOk s.heap) (h2 : s.heap.get? TB = some { cls := .none, data := .fields #[] }) : OldK s.heap s'.heap := by
  refine ⟨fun b o e => ?_, fun b o e => t.live b o trivial e⟩
  by_cases z : b = TB
  · subst z
    obtain ⟨ps, _, tb, _⟩ := t.tab h1
    obtain ⟨ps0, _, tb0, _⟩ := h1
    rw [h2] at e
    cases e
    exact .inr (.inl ⟨tb0.isCodeTable, rfl, #[], ps, rfl, by rw [tb.2]; simp⟩)
  · exact .inl (t.keep b o trivial (.inr z) e)
noncomputable def LawTrue : Prop := ∀ ns : List Int, ns.length ≤ 63 → f_25 (depF 14) F_22 [some (.list (ns.map .int)), none, none, none, none, none, none, none, none, none, none, none, none, none] = some (.bool true)
theorem law_walk (LT : LawTrue) {K : Frag} {w : World} {s : Shared} {mg mb : Str → Option Value} (X : K.In s.heap) (H : HeadK K) (hg : s.heap.Ns mainGlobals mg) (hb : s.heap.Ns builtinsNs mb) (hl : s.heap.NoLimit) (hm : ∀ x : Str, x ≠ "__name__" → mb x = bootBuiltins x) (hgens : s.gens = #[])
    {ns : List Int} {vs : List Value} {a : Addr} (hn : ns.length ≤ 63) (hi : IntsAre vs ns) (ho : s.heap.get? a = some { cls := .type "list", data := .seq vs.toArray }) {Q E : Value → Shared → Prop}
    (hQ : ∀ s', OldK s.heap s'.heap → s'.os = s.os → AllBare s'.gens → Q (.bool true) s') : wpAny (model pg w) callerA (call (.ref 165) [.ref a]) Q E s := by
  obtain ⟨B, hB⟩ : ∃ B : BH, B = ⟨w, s.heap, s.os, mg, mb⟩ := ⟨_, rfl⟩
  have hw : B.w = w := by rw [hB]
  have hh : B.hB = s.heap := by rw [hB]
  have hos : B.os = s.os := by rw [hB]
  have hmg : B.mg = mg := by rw [hB]
  have hmb : B.mb = mb := by rw [hB]
  have b : BaseOk B := ⟨by rw [hh, hmg]; exact hg, by rw [hh, hmb]; exact hb, by rw [hh]; exact hl⟩
  have X' : K.In B.hB := by rw [hh]; exact X
  have hm' : ∀ x : Str, x ≠ "__name__" → B.mb x = bootBuiltins x := by rw [hmb]; exact hm
  have T : TabOk s.heap := by have := tab_of X' H; rw [hh] at this; exact this
  have I : Inv B s := ⟨b, by rw [hh]; exact Keep.refl _ _, T, .of_eq hgens, hos.symm⟩
  have F := facts_of X' b hm' H
  have L := lamFacts_of X' b H
  have hG : CallG B 21 (Str.ofString "law") (argF 1 [] 13 (f_25 (depF 14) F_22)) :=
    callG_def 13 (law_of X' b H) (nm := x_25.ns) (own := x_25.own) (by decide +kernel) (r_25 F (c_18 F 14) ((c_22 F L).le (by omega)))
  obtain ⟨fv, gv, _, hC⟩ := hG
  have : fv = .ref 165 := Option.some.inj (gv.symm.trans (glob_of X' b H.f25.nm))
  subst this
  rw [← hw]
  refine hC (P := fun _ => True) (args := [.list (ns.map .int)]) (dv := .bool true) ⟨rfl, by decide, by decide⟩ I (fun _ _ => trivial) (.cons (.list trivial ho (VRs.ofInts hi)) .nil) (LT ns hn) fun rv s' t r => ?_
  cases r
  exact hQ s' (oldK_of t T (X _ _ H.tab)) t.os (t.bare (.of_eq hgens))
end Mine
end

end

open PySem PySem.W PySem.W.X PySem.W.ZRun PyProof.Rows
set_option maxRecDepth 100000 in
set_option maxHeartbeats 8000000 in
theorem PySem.Challenge.cw_rs0091_01_holds : PySem.Challenge.rw_rs0091_01.Holds := by
  w_on; o_law; z_head; (case hw => w_witness2)
  k_fill
  intro w s₀ s₁ mg mb G y fa o pm cd doc dV kV ho hd hcd hD hmg hg args vals as L hpre hlay hrd hwl hlo
  z_open y L KX ZH ZN ZT
  refine Ground.open G ?_
  intro T B D TE TW
  wrow_args hpre hlay hrd hwl hlo
  obtain ⟨hat, hsz⟩ := script_at L
  have htk := script_toks L ZT
  rw [ZN] at hat hsz
  subst hat
  clear hd hcd
  x_fa T KX hmg
  all_lens
  z_lists L
  refine Mine.law_walk (fun _ h => Mine.law_true h) KX ?hk (Top.g T) (Top.b T) (Top.nolimit T) (Top.builtins T) hg ?hn (by assumption) (by assumption) ?hQ
  case hn => omega
  case hQ =>
    intro s' h1 h2 h3
    refine ⟨.inl ⟨_, .bool true, [], rfl, fun _ => rfl, .bool true, ?_, fun _ => ⟨.nil, fun _ h => nomatch h⟩⟩, h1, h2, h3⟩
    first | rfl | kernel_rfl
  case hk =>
    constructor
    all_goals first
      | (intros; kernel_rfl)
      | (constructor <;> kernel_rfl)

import PyProof.Rows.All
import Wide.All
import OpenK.AllK
import Wide.FinOn
import PySem.Challenge.RW_ij0108_01
set_option Elab.async false
set_option maxRecDepth 100000
open PySem PySem.W PySem.Calls PyProof.Rows
namespace Mine
/-- the postcondition behind a name: small proof terms -/
theorem hideLet {M : Model} {A : Around} {α : Type} {t : Sem α} {Q : α → Shared → Prop} {E : Value → Shared → Prop} {s : Shared} (h : let P := Q; wpAny M A t P E s) : wpAny M A t Q E s := h
theorem hideA {M : Model} {A : Around} {α : Type} {t : Sem α} {Q : α → Shared → Prop} {E : Value → Shared → Prop} {s : Shared} (h : let B := A; wpAny M B t Q E s) : wpAny M A t Q E s := h
theorem hideGoal {G : Prop} (h : let R := G; R) : G := h

noncomputable abbrev prg : Program := PySem.Challenge.pw_ij0108_01
noncomputable def stmtAt (i : Nat) : Stmt := prg.main.body.getD i (.Pass default)
noncomputable def dName (i : Nat) : Str := match stmtAt i with | .FunctionDef n _ _ _ _ _ _ _ _ _ => n | _ => Str.empty
noncomputable def dArgs (i : Nat) : Arguments := match stmtAt i with | .FunctionDef _ a _ _ _ _ _ _ _ _ => a | _ => default
noncomputable def dBody (i : Nat) : List Stmt := match stmtAt i with | .FunctionDef _ _ b _ _ _ _ _ _ _ => b | _ => []
noncomputable def dScope (i : Nat) : Scope := match stmtAt i with | .FunctionDef _ _ _ _ _ _ sc _ _ _ => sc | _ => default

/-- a frame's locals by the names' list -/
noncomputable def locs : List Str → List (Option Value) → Str → Option Value
  | n :: ns, v :: vs, y => if y = n then v else locs ns vs y
  | _, _, _ => none

theorem locs_notin : ∀ {ns : List Str} {vs : List (Option Value)} {y : Str}, y ∉ ns → locs ns vs y = none
  | [], _, _, _ => by unfold locs; rfl
  | n :: ns, [], _, _ => by unfold locs; rfl
  | n :: ns, v :: vs, y, h => by
    have h1 : y ≠ n := fun e => h (by rw [e]; exact List.mem_cons_self)
    have h2 : y ∉ ns := fun e => h (List.mem_cons_of_mem _ e)
    unfold locs
    rw [if_neg h1, locs_notin h2]
theorem locs_get : ∀ {ns : List Str} {vs : List (Option Value)} {i : Nat} {x : Str}, ns.Nodup → ns[i]? = some x → locs ns vs x = (vs[i]?).join
  | [], _, _, _, _, h => by simp at h
  | n :: ns, [], i, x, _, _ => by unfold locs; simp
  | n :: ns, v :: vs, 0, x, _, h => by
    simp at h; subst h; unfold locs; simp
  | n :: ns, v :: vs, i + 1, x, hd, h => by
    simp at h
    have hne : x ≠ n := fun e => (List.nodup_cons.mp hd).1 (e ▸ List.mem_of_getElem? h)
    unfold locs
    rw [if_neg hne, locs_get (List.nodup_cons.mp hd).2 h]
    simp
theorem locs_set : ∀ {ns : List Str} {vs : List (Option Value)} {i : Nat} {x : Str} {v : Value}, ns.Nodup → ns[i]? = some x → i < vs.length →
    (fun y => if y = x then some v else locs ns vs y) = locs ns (vs.set i (some v))
  | [], _, _, _, _, _, h, _ => by simp at h
  | n :: ns, [], i, x, _, _, _, hl => by simp at hl
  | n :: ns, w :: vs, 0, x, v, hd, h, _ => by
    simp at h; subst h
    funext y
    simp only [List.set_cons_zero, locs]
    by_cases hy : y = n <;> simp [hy]
  | n :: ns, w :: vs, i + 1, x, v, hd, h, hl => by
    simp at h hl
    have hne : x ≠ n := fun e => (List.nodup_cons.mp hd).1 (e ▸ List.mem_of_getElem? h)
    funext y
    simp only [List.set_cons_succ, locs]
    have ih := congrFun (locs_set (v := v) (List.nodup_cons.mp hd).2 h hl) y
    by_cases hy : y = n
    · subst hy; simp [Ne.symm hne]
    · simp only [if_neg hy]; exact ih

theorem lookup_rev_snoc (l : List (Str × Value)) (a : Str) (v : Value) (y : Str) : (l ++ [(a, v)]).lookup y = (l.lookup y).or (if y = a then some v else none) := by
  induction l with
  | nil =>
    simp only [List.nil_append, List.lookup_cons, List.lookup_nil]
    by_cases h : y = a
    · subst h; simp
    · have : (y == a) = false := by simpa using h
      simp [this, h]
  | cons p l ih =>
    obtain ⟨b, u⟩ := p
    simp only [List.cons_append, List.lookup_cons]
    cases h : y == b with
    | true => simp
    | false => simpa using ih

/-- what the binds make: the names' list has the parameters first -/
theorem binds_locs : ∀ {ps rest : List Str} {args : List Value}, (ps ++ rest).Nodup → ps.length = args.length →
    (fun y => (ps.zip args).reverse.lookup y) = locs (ps ++ rest) (args.map some ++ rest.map fun _ => none)
  | [], rest, [], _, _ => by
    funext y
    simp only [List.zip_nil_left, List.reverse_nil, List.lookup_nil, List.map_nil, List.nil_append]
    have : ∀ r : List Str, locs r (r.map fun _ => none) y = none := by
      intro r; induction r with
      | nil => rfl
      | cons a r ih => simp only [List.map_cons, locs, ih]; split <;> rfl
    exact (this rest).symm
  | p :: ps, rest, a :: args, hd, hl => by
    funext y
    simp only [List.cons_append] at hd
    have ih := congrFun (binds_locs (rest := rest) (List.nodup_cons.mp hd).2 (by simpa using hl)) y
    simp only [List.zip_cons_cons, List.reverse_cons, lookup_rev_snoc, List.cons_append, List.map_cons, locs]
    rw [ih]
    by_cases hy : y = p
    · subst hy
      rw [locs_notin (List.nodup_cons.mp hd).1]
      simp
    · simp [hy]
  | [], _, _ :: _, _, hl => by simp at hl
  | _ :: _, _, [], _, hl => by simp at hl

noncomputable abbrev Kp (h h' : Heap) : Prop := ∀ b o, h.get? b = some o → h'.get? b = some o

noncomputable def FnObj (h : Heap) (i : Nat) (a : Addr) : Prop := ∃ o pm cd doc, h.get? a = some o ∧ o.data = .func (docDef (dName i) (dArgs i) (dBody i) (dScope i) pm cd doc) ∧ h.CodeRec cd (dName i)
theorem FnObj.keeps {h h' : Heap} {i : Nat} {a : Addr} (x : FnObj h i a) (k : Kp h h') : FnObj h' i a :=
  let ⟨o, pm, cd, doc, h1, h2, h3⟩ := x; ⟨o, pm, cd, doc, k _ _ h1, h2, h3.keeps k⟩

noncomputable def fnIdx : List Nat := [4, 7, 9, 10, 13, 16, 18, 19, 20, 21, 22, 23, 24, 25, 26]
noncomputable def bNames : List Str := ["len", "sum", "int", "dict", "zip", "range", "enumerate", "list", "object", "reversed", "isinstance", "str", "ValueError", "tuple"]

structure Lib (ad : Nat → Addr) (mg mb : Str → Option Value) (h : Heap) : Prop where
  g : h.Ns mainGlobals mg
  b : h.Ns builtinsNs mb
  nolimit : h.NoLimit
  bi : ∀ x : Str, x ≠ "__name__" → mb x = bootBuiltins x
  no : ∀ x ∈ bNames, mg x = none
  fn : ∀ i ∈ fnIdx, mg (dName i) = some (.ref (ad i)) ∧ FnObj h i (ad i)
theorem Lib.keeps {ad : Nat → Addr} {mg mb : Str → Option Value} {h h' : Heap} (l : Lib ad mg mb h) (k : Kp h h') : Lib ad mg mb h' :=
  ⟨l.g.keeps k, l.b.keeps k, l.nolimit.keeps k, l.bi, l.no, fun i hi => ⟨(l.fn i hi).1, (l.fn i hi).2.keeps k⟩⟩

noncomputable abbrev nms (sc : Scope) : List Str := sc.names.map (·.1)
structure ScOk (sc : Scope) : Prop where
  nd : (nms sc).Nodup
  fk : sc.kind = .function
  co : sc.isCoroutine = false
  gen : sc.isGenerator = false
noncomputable def scOk (sc : Scope) : Bool := decide (nms sc).Nodup && sc.kind == .function && !sc.isCoroutine && !sc.isGenerator
theorem ScOk.of {sc : Scope} (h : scOk sc = true) : ScOk sc := by
  simp only [scOk, Bool.and_eq_true, decide_eq_true_eq, beq_iff_eq, Bool.not_eq_true'] at h
  exact ⟨h.1.1.1, h.1.1.2, h.1.2, h.2⟩
theorem lookup_of_idx : ∀ {l : List (Str × NameKind)} {i : Nat} {x : Str} {k : NameKind}, (l.map (·.1)).Nodup → l[i]? = some (x, k) → l.lookup x = some k
  | [], _, _, _, _, h => by simp at h
  | p :: l, 0, x, k, _, h => by simp at h; subst h; simp
  | p :: l, i + 1, x, k, hd, h => by
    simp at h
    have hd' := List.nodup_cons.mp hd
    have hne : x ≠ p.1 := fun e => hd'.1 (List.mem_map.mpr ⟨(x, k), List.mem_of_getElem? h, e⟩)
    obtain ⟨a, b⟩ := p
    rw [List.lookup_cons]
    have : (x == a) = false := by simpa using hne
    rw [this]
    exact lookup_of_idx hd'.2 h
theorem nms_idx {sc : Scope} {i : Nat} {x : Str} {k : NameKind} (h : sc.names[i]? = some (x, k)) : (nms sc)[i]? = some x := by simp [nms, h]

section
variable {M : Model} {A : Around} {E : Value → Shared → Prop} {s : Shared} {name : Str} {sc : Scope} {L a : Addr} {cd : Value} {cl : List (Str × Addr)} {h₀ : Heap} {vals : List (Option Value)}
  {mg mb : Str → Option Value} {ad : Nat → Addr} {news : List (Addr × Obj)}

theorem kind_idx {i : Nat} {x : Str} {k : NameKind} (o : ScOk sc) (hi : sc.names[i]? = some (x, k)) : (envX name sc L a cd cl).kindOf x = some k := lookup_of_idx o.nd hi

/-- a local name -/
theorem ldl {x : Str} {pos : Pos} {v : Value} {Q : Value → Shared → Prop} (i : Nat) (o : ScOk sc) (F : Fr h₀ L s.heap (locs (nms sc) vals)) (hi : sc.names[i]? = some (x, .local))
    (hv : vals[i]? = some (some v)) (h : Q v s) (hd : (x == ("__debug__" : Str)) = false := by decide) : wpAny M A (eval (.Name x pos) (envX name sc L a cd cl)) Q E s :=
  wpAny_Name (wpAny_loadName_local o.fk (kind_idx o hi) F.ns (by rw [locs_get o.nd (nms_idx hi), hv]; rfl) h) hd
theorem ldnl {x : Str} {v : Value} {Q : Value → Shared → Prop} (i : Nat) (o : ScOk sc) (F : Fr h₀ L s.heap (locs (nms sc) vals)) (hi : sc.names[i]? = some (x, .local))
    (hv : vals[i]? = some (some v)) (h : Q v s) : wpAny M A (loadName (envX name sc L a cd cl) x) Q E s :=
  wpAny_loadName_local o.fk (kind_idx o hi) F.ns (by rw [locs_get o.nd (nms_idx hi), hv]; rfl) h
/-- a store to a local name -/
theorem stl {x : Str} {v : Value} {Q : Unit → Shared → Prop} (i : Nat) (o : ScOk sc) (F : Fr h₀ L s.heap (locs (nms sc) vals)) (N : News h₀ L s.heap news) (hi : sc.names[i]? = some (x, .local)) (hl : i < vals.length)
    (h : ∀ h', Fr h₀ L h' (locs (nms sc) (vals.set i (some v))) → News h₀ L h' news → Q () { s with heap := h', toks := s.toks + 1 }) : wpAny M A (storeName (envX name sc L a cd cl) x v) Q E s :=
  storeX_L F N (fun h' F' N' => h h' (locs_set o.nd (nms_idx hi) hl ▸ F') N') o.fk (kind_idx o hi)
/-- a def of the text's -/
theorem ldg {x : Str} {pos : Pos} {m : Str → Option Value} {Q : Value → Shared → Prop} (i k : Nat) (o : ScOk sc) (l : Lib ad mg mb h₀) (F : Fr h₀ L s.heap m) (hi : sc.names[i]? = some (x, .globalImplicit)) (hk : k ∈ fnIdx) (e : dName k = x)
    (h : Q (.ref (ad k)) s) (hd : (x == ("__debug__" : Str)) = false := by decide) : wpAny M A (eval (.Name x pos) (envX name sc L a cd cl)) Q E s :=
  Name_function_global o.fk (kind_idx o hi) (loadGlobal_global (env := envX name sc L a cd cl) (l.g.keeps F.keep) (e ▸ (l.fn k hk).1) h) hd
/-- a built-in's name -/
theorem ldb {x : Str} {pos : Pos} {m : Str → Option Value} {v : Value} {Q : Value → Shared → Prop} (i : Nat) (o : ScOk sc) (l : Lib ad mg mb h₀) (F : Fr h₀ L s.heap m) (hi : sc.names[i]? = some (x, .globalImplicit)) (hm : x ∈ bNames)
    (hv : bootBuiltins x = some v) (h : Q v s) (hn : x ≠ "__name__" := by decide) (hd : (x == ("__debug__" : Str)) = false := by decide) : wpAny M A (eval (.Name x pos) (envX name sc L a cd cl)) Q E s :=
  Name_function_global o.fk (kind_idx o hi) (loadGlobal_builtin (env := envX name sc L a cd cl) (l.g.keeps F.keep) (l.no x hm) (l.b.keeps F.keep) ((l.bi x hn).trans hv) h) hd
end

section
variable {w : World} {R : Result → Shared → Prop} {s : Shared} {ad : Nat → Addr} {mg mb : Str → Option Value}

/-- a call of a def whose names are no cells -/
theorem enter {A : Around} (i : Nat) {args : List Value} (ps rest : List Str) (l : Lib ad mg mb s.heap) (hi : i ∈ fnIdx) (o : ScOk (dScope i)) (hroom : A.depth < recursionLimit)
    (hn : nms (dScope i) = ps ++ rest) (hps : (dArgs i).args.map (·.arg) = ps) (hlen : ps.length = args.length)
    (hbind : ∀ pm cd doc, bindArgs (docDef (dName i) (dArgs i) (dBody i) (dScope i) pm cd doc) ⟨args, []⟩ = pure (((dArgs i).args.map (·.arg)).zip args))
    (hcell : ∀ x ∈ (dScope i).names, x.2 ≠ .cell) (hloc : ∀ x ∈ ps, (dScope i).names.lookup x = some .local)
    (h : ∀ cd h₁ tk, Fr s.heap s.heap.objs.size h₁ (locs (nms (dScope i)) (args.map some ++ rest.map fun _ => none)) →
      wpAny (model prg w) (A.deeper (envX (dName i) (dScope i) s.heap.objs.size (ad i) cd [])) (execs (dBody i) (envX (dName i) (dScope i) s.heap.objs.size (ad i) cd []))
        (fun f s' => R (.ok (.ret (match f with | .ret v => v | _ => .none))) s') (fun _ _ => False) { s with heap := h₁, toks := tk }) :
    codeAny (model prg w) A (.call (.ref (ad i)) ⟨args, []⟩) R s := by
  obtain ⟨ob, pm, cd, doc, h1, h2, h3⟩ := (l.fn i hi).2
  refine call_pos_ret hroom h1 h2 l.nolimit h3 (hbind pm cd doc) ?_ (fun h₁ F => ?_) o.co o.gen o.fk hcell
  · intro x hx
    rw [hps] at hx
    exact hloc x.1 (List.of_mem_zip hx).1
  · refine h cd h₁ _ ?_
    have hd := o.nd
    rw [hn] at hd
    rw [hn, ← binds_locs hd hlen, ← hps]
    exact F
end
end Mine
namespace Mine
/-! zip over two iterators that are told by Draws alone -/
structure ZipOff (z TI TO i1 i2 : Addr) (f1 f2 : List Addr) : Prop where
  ti : TI ≠ z ∧ TI ≠ TO ∧ TI ≠ i1 ∧ TI ≠ i2
  tz : TO ≠ z
  t1 : TO ≠ i1
  t2 : TO ≠ i2
  z1 : i1 ≠ z
  z2 : i2 ≠ z
  m1 : i1 ∈ f1
  m2 : i2 ∈ f2
  o1 : z ∉ f1 ∧ TO ∉ f1 ∧ i2 ∉ f1
  o2 : z ∉ f2 ∧ TO ∉ f2 ∧ i1 ∉ f2

section
variable {prog : Program} {w : World} {A : Around} {E : Value → Shared → Prop} {s : Shared} {z TI TO i1 i2 : Addr} {f1 f2 : List Addr} {n1 n2 k : Nat} {P1 P2 : Nat → Value → Prop} {S1 S2 : Nat → Heap → Prop} {a b : Value}

theorem fr_of {it : Addr} {f : List Addr} {n : Nat} {P : Nat → Value → Prop} {St : Nat → Heap → Prop} (D : Draws prog w A it f n P St) {j : Nat} {g h : Heap} {c : Addr} (x : St j g) (hs : Heap.SameBut c g h) (hc : c ∉ f) : St j h :=
  D.frame _ _ _ x fun d hd o e => hs.extBut d o (fun q => hc (q ▸ hd)) e

theorem zipD_item {Q : Value → Shared → Prop} (O : ZipOff z TI TO i1 i2 f1 f2) (D1 : Draws prog w A i1 f1 n1 P1 S1) (D2 : Draws prog w A i2 f2 n2 P2 S2)
    (hz : IsZip s.heap z TI TO .none) (hTI : IsPair s.heap TI (.ref i1) (.ref i2)) (hTO : IsPair s.heap TO a b) (h1 : S1 k s.heap) (h2 : S2 k s.heap) (k1 : k < n1) (k2 : k < n2)
    (hQ : ∀ x y h' tk T, P1 k x → P2 k y → s.heap.objs.size ≤ T → IsZip h' z TI TO (rawInt T) → IsPair h' TO x y → S1 (k + 1) h' → S2 (k + 1) h' → IsPair h' T x y →
      (∀ c o, c ≠ z → c ≠ TO → c ≠ i1 → c ≠ i2 → s.heap.get? c = some o → h'.get? c = some o) → Q (.ref T) { s with heap := h', toks := tk }) :
    wpAny (model prog w) A (Builtin.«zip.__next__» ⟨[.ref z], []⟩) (fun fin s' => ∃ v, fin = .done (.ret v) ∧ Q v s') E s := by
  obtain ⟨ti1, ti2, ti3, ti4⟩ := O.ti
  obtain ⟨o11, o12, o13⟩ := O.o1
  obtain ⟨o21, o22, o23⟩ := O.o2
  show wpAny _ _ (field (.ref z) 2 >>= _) _ _ _
  refine wpAny_bind (wpAny_field hz rfl (x := .bool false) rfl ?_)
  show wpAny _ _ (field (.ref z) 3 >>= _) _ _ _
  refine wpAny_bind (wpAny_field hz rfl (x := .ref TI) rfl (wpAny_bind (wpAny_seqItems hTI rfl ?_)))
  show wpAny _ _ (Builtin.SmallTypes.ownedTupleIsFree (.ref z) >>= _) _ _ _
  refine wpAny_bind ?_
  unfold Builtin.SmallTypes.ownedTupleIsFree
  refine wpAny_bind (wpAny_field hz rfl (x := .none) rfl (wpAny_pure ?_))
  simp only [if_true]
  refine wpAny_bind (wpAny_rule (wpAny_bind (wpAny_field hz rfl (x := .ref TO) rfl ?_)))
  refine wpAny_bind (wpAny_setField_rec hz (by first | exact Nat.le_of_ble_eq_true rfl | (repeat (first | exact .head _ | apply List.Mem.tail)); done | simp) fun ha hza sa => ?_)
  replace hza : IsZip ha z TI TO .ellipsis := hza
  refine wpAny_bind ?_
  simp only [List.zipIdx_cons, List.zipIdx_nil, List.forIn_cons, List.forIn_nil]
  refine wpAny_bind (wpAny_bind (wpAny_onRaise ?_))
  show wpAny _ _ (Builtin.SmallTypes.nextOf (.ref i1) >>= _) _ _ _
  refine wpAny_bind (D1.item k _ _ _ k1 (fr_of D1 h1 sa o11) fun x hb tb px s1b sb => wpAny_pure ?_)
  dsimp only at sb
  have tob : IsPair hb TO a b := sb.extBut _ _ O.t1 (sa.extBut _ _ O.tz hTO)
  refine wpAny_bind (wpAny_seqItems tob rfl (wpAny_bind (wpAny_updateSeq_pair tob fun hc toc sc => ?_)))
  replace toc : IsPair hc TO x b := toc
  dsimp only at sc
  refine wpAny_bind (wpAny_letGo (wpAny_pure ?_))
  refine wpAny_bind (wpAny_bind (wpAny_onRaise ?_))
  show wpAny _ _ (Builtin.SmallTypes.nextOf (.ref i2) >>= _) _ _ _
  refine wpAny_bind (D2.item k _ _ _ k2 (fr_of D2 (fr_of D2 (fr_of D2 h2 sa o21) sb o23) sc o22) fun y hd td py s2d sd => wpAny_pure ?_)
  dsimp only at sd
  have tod : IsPair hd TO x b := sd.extBut _ _ O.t2 toc
  refine wpAny_bind (wpAny_seqItems tod rfl (wpAny_bind (wpAny_updateSeq_pair tod fun he toe se => ?_)))
  replace toe : IsPair he TO x y := toe
  dsimp only at se
  refine wpAny_bind (wpAny_letGo (wpAny_pure (wpAny_pure (wpAny_bind (wpAny_seqItems toe rfl (wpAny_bind (wpAny_newTuple ?_)))))))
  have ze : IsZip he z TI TO .ellipsis := se.extBut _ _ O.tz.symm (sd.extBut _ _ O.z2.symm (sc.extBut _ _ O.tz.symm (sb.extBut _ _ O.z1.symm hza)))
  have ke : ∀ c o, c ≠ z → c ≠ TO → c ≠ i1 → c ≠ i2 → s.heap.get? c = some o → he.get? c = some o := fun c o c1 c2 c3 c4 e =>
    se.extBut _ _ c2 (sd.extBut _ _ c4 (sc.extBut _ _ c2 (sb.extBut _ _ c3 (sa.extBut _ _ c1 e))))
  have zlt : z < he.objs.size := Heap.lt_size ze
  have hsz : s.heap.objs.size ≤ he.objs.size := by
    rw [se.1, sd.1, sc.1, sb.1, sa.1]; exact Nat.le_refl _
  show wpAny _ _ (Builtin.SmallTypes.ownedTupleHandOut (.ref z) (.ref he.objs.size) >>= _) _ _ _
  refine wpAny_bind ?_
  unfold Builtin.SmallTypes.ownedTupleHandOut
  have zf : IsZip (he.push { cls := .type "tuple", data := .seq #[x, y] }) z TI TO .ellipsis := Heap.get?_push_of_some _ ze
  refine wpAny_bind (wpAny_setField_rec zf (by first | exact Nat.le_of_ble_eq_true rfl | (repeat (first | exact .head _ | apply List.Mem.tail)); done | simp) fun hg zg sg => ?_)
  replace zg : IsZip hg z TI TO (rawInt he.objs.size) := zg
  refine wpAny_setField_rec zg (by first | exact Nat.le_of_ble_eq_true rfl | (repeat (first | exact .head _ | apply List.Mem.tail)); done | simp) fun hh zh sh => ?_
  replace zh : IsZip hh z TI TO (rawInt he.objs.size) := zh
  have up : ∀ c o, c ≠ z → he.get? c = some o → hh.get? c = some o := fun c o c1 e => sh.extBut _ _ c1 (sg.extBut _ _ c1 (Heap.get?_push_of_some _ e))
  have zne : he.objs.size ≠ z := Nat.ne_of_gt zlt
  refine wpAny_pure ⟨_, rfl, ?_⟩
  refine hQ x y hh _ he.objs.size px py hsz zh (up _ _ O.tz toe) ?_ ?_ (sh.extBut _ _ zne (sg.extBut _ _ zne (Heap.get?_push_size _ rfl))) fun c o c1 c2 c3 c4 e => up c o c1 (ke c o c1 c2 c3 c4 e)
  · exact D1.frame _ _ _ (fr_of D1 (fr_of D1 (fr_of D1 s1b sc o12) sd o13) se o12) fun c hc o e => up c o (fun q => o11 (q ▸ hc)) e
  · exact D2.frame _ _ _ (fr_of D2 s2d se o22) fun c hc o e => up c o (fun q => o21 (q ▸ hc)) e

theorem zipD_end {Q : Fin → Shared → Prop} (O : ZipOff z TI TO i1 i2 f1 f2) (D1 : Draws prog w A i1 f1 n1 P1 S1) (D2 : Draws prog w A i2 f2 n2 P2 S2)
    (hz : IsZip s.heap z TI TO .none) (hTI : IsPair s.heap TI (.ref i1) (.ref i2)) (hTO : IsPair s.heap TO a b) (h1 : S1 k s.heap) (h2 : S2 k s.heap) (k1 : k ≤ n1) (k2 : k ≤ n2) (hend : k = n1 ∨ k = n2)
    (hE : ∀ h' tk e, (∀ c o, c ≠ z → c ≠ TO → c ≠ i1 → c ≠ i2 → s.heap.get? c = some o → h'.get? c = some o) → (∃ o, h'.get? e = some o ∧ o.cls = .type "StopIteration") → E (.ref e) { s with heap := h', toks := tk }) :
    wpAny (model prog w) A (Builtin.«zip.__next__» ⟨[.ref z], []⟩) Q E s := by
  obtain ⟨ti1, ti2, ti3, ti4⟩ := O.ti
  obtain ⟨o11, o12, o13⟩ := O.o1
  obtain ⟨o21, o22, o23⟩ := O.o2
  show wpAny _ _ (field (.ref z) 2 >>= _) _ _ _
  refine wpAny_bind (wpAny_field hz rfl (x := .bool false) rfl ?_)
  show wpAny _ _ (field (.ref z) 3 >>= _) _ _ _
  refine wpAny_bind (wpAny_field hz rfl (x := .ref TI) rfl (wpAny_bind (wpAny_seqItems hTI rfl ?_)))
  show wpAny _ _ (Builtin.SmallTypes.ownedTupleIsFree (.ref z) >>= _) _ _ _
  refine wpAny_bind ?_
  unfold Builtin.SmallTypes.ownedTupleIsFree
  refine wpAny_bind (wpAny_field hz rfl (x := .none) rfl (wpAny_pure ?_))
  simp only [if_true]
  refine wpAny_bind (wpAny_rule (wpAny_bind (wpAny_field hz rfl (x := .ref TO) rfl ?_)))
  refine wpAny_bind (wpAny_setField_rec hz (by first | exact Nat.le_of_ble_eq_true rfl | (repeat (first | exact .head _ | apply List.Mem.tail)); done | simp) fun ha hza sa => ?_)
  replace hza : IsZip ha z TI TO .ellipsis := hza
  refine wpAny_bind ?_
  simp only [List.zipIdx_cons, List.zipIdx_nil, List.forIn_cons, List.forIn_nil]
  refine wpAny_bind (wpAny_bind (wpAny_onRaise ?_))
  show wpAny _ _ (Builtin.SmallTypes.nextOf (.ref i1) >>= _) _ _ _
  by_cases e1 : k = n1
  · subst e1
    refine wpAny_bind (D1.done _ _ _ (fr_of D1 h1 sa o11) fun hb e sb he => ?_)
    dsimp only at sb
    obtain ⟨oe, hoe, hce⟩ := he
    have zb : IsZip hb z TI TO .ellipsis := sb _ _ O.z1.symm hza
    have hez : e ≠ z := fun q => by subst q; rw [zb] at hoe; cases hoe; simp at hce
    refine wpAny_setField_rec zb (by first | exact Nat.le_of_ble_eq_true rfl | (repeat (first | exact .head _ | apply List.Mem.tail)); done | simp) fun hc _ sc => hE hc _ e (fun c o c1 _ c3 _ q => sc.extBut _ _ c1 (sb _ _ c3 (sa.extBut _ _ c1 q))) ⟨oe, sc.extBut _ _ hez hoe, hce⟩
  · have e2 : k = n2 := hend.resolve_left e1
    subst e2
    have k1' : k < n1 := Nat.lt_of_le_of_ne k1 e1
    refine wpAny_bind (D1.item k _ _ _ k1' (fr_of D1 h1 sa o11) fun x hb tb px s1b sb => wpAny_pure ?_)
    dsimp only at sb
    have tob : IsPair hb TO a b := sb.extBut _ _ O.t1 (sa.extBut _ _ O.tz hTO)
    refine wpAny_bind (wpAny_seqItems tob rfl (wpAny_bind (wpAny_updateSeq_pair tob fun hc toc sc => ?_)))
    dsimp only at sc
    refine wpAny_bind (wpAny_letGo (wpAny_pure ?_))
    refine wpAny_bind (wpAny_bind (wpAny_onRaise ?_))
    show wpAny _ _ (Builtin.SmallTypes.nextOf (.ref i2) >>= _) _ _ _
    refine wpAny_bind (D2.done _ _ _ (fr_of D2 (fr_of D2 (fr_of D2 h2 sa o21) sb o23) sc o22) fun hd e sd he => ?_)
    dsimp only at sd
    obtain ⟨oe, hoe, hce⟩ := he
    have zd : IsZip hd z TI TO .ellipsis := sd _ _ O.z2.symm (sc.extBut _ _ O.tz.symm (sb.extBut _ _ O.z1.symm hza))
    have hez : e ≠ z := fun q => by subst q; rw [zd] at hoe; cases hoe; simp at hce
    refine wpAny_setField_rec zd (by first | exact Nat.le_of_ble_eq_true rfl | (repeat (first | exact .head _ | apply List.Mem.tail)); done | simp) fun hf _ sf => hE hf _ e (fun c o c1 c2 c3 c4 q => sf.extBut _ _ c1 (sd _ _ c4 (sc.extBut _ _ c2 (sb.extBut _ _ c3 (sa.extBut _ _ c1 q))))) ⟨oe, sf.extBut _ _ hez hoe, hce⟩
end

noncomputable abbrev ZipSt (z TI TO i1 i2 : Addr) (S1 S2 : Nat → Heap → Prop) (k : Nat) (h : Heap) : Prop := IsZip h z TI TO .none ∧ IsPair h TI (.ref i1) (.ref i2) ∧ (∃ a b, IsPair h TO a b) ∧ S1 k h ∧ S2 k h
noncomputable abbrev ZipMid (z TI TO i1 i2 : Addr) (S1 S2 : Nat → Heap → Prop) (k : Nat) (T : Addr) (h : Heap) : Prop :=
  IsZip h z TI TO (rawInt T) ∧ IsPair h TI (.ref i1) (.ref i2) ∧ (∃ a b, IsPair h TO a b) ∧ S1 (k + 1) h ∧ S2 (k + 1) h ∧ T ≠ z ∧ T ≠ TO ∧ T ≠ i1 ∧ T ≠ i2

theorem zipD_walks {prog : Program} {w : World} {A : Around} {z TI TO i1 i2 : Addr} {f1 f2 : List Addr} {n1 n2 : Nat} {P1 P2 : Nat → Value → Prop} {S1 S2 : Nat → Heap → Prop}
    (O : ZipOff z TI TO i1 i2 f1 f2) (D1 : Draws prog w A.in1 i1 f1 n1 P1 S1) (D2 : Draws prog w A.in1 i2 f2 n2 P2 S2) :
    WalksT prog w A z (z :: TI :: TO :: (f1 ++ f2)) [z, TO, i1, i2] (min n1 n2) (fun i vals => ∃ x y, P1 i x ∧ P2 i y ∧ vals = #[x, y]) (ZipSt z TI TO i1 i2 S1 S2) (ZipMid z TI TO i1 i2 S1 S2) where
  sub := fun c hc => by
    simp only [List.mem_cons, List.not_mem_nil, or_false] at hc
    simp only [List.mem_cons, List.mem_append]
    rcases hc with rfl | rfl | rfl | rfl
    · exact .inl rfl
    · exact .inr (.inr (.inl rfl))
    · exact .inr (.inr (.inr (.inl O.m1)))
    · exact .inr (.inr (.inr (.inr O.m2)))
  frame := fun i h h' hst hk => by
    obtain ⟨hz, hTI, ⟨a, b, hTO⟩, h1, h2⟩ := hst
    exact ⟨hk z (by first | exact Nat.le_of_ble_eq_true rfl | (repeat (first | exact .head _ | apply List.Mem.tail)); done | simp) _ hz, hk TI (by first | exact Nat.le_of_ble_eq_true rfl | (repeat (first | exact .head _ | apply List.Mem.tail)); done | simp) _ hTI, ⟨a, b, hk TO (by first | exact Nat.le_of_ble_eq_true rfl | (repeat (first | exact .head _ | apply List.Mem.tail)); done | simp) _ hTO⟩, D1.frame _ _ _ h1 fun c hc o e => hk c (by simp [hc]) o e, D2.frame _ _ _ h2 fun c hc o e => hk c (by simp [hc]) o e⟩
  item := fun i s Q E hi hst hQ => by
    obtain ⟨hz, hTI, ⟨a, b, hTO⟩, h1, h2⟩ := hst
    have hT : s.TypeIs (.ref z) "zip" := ⟨_, hz, rfl⟩
    have lt : ∀ {c o T}, s.heap.get? c = some o → s.heap.objs.size ≤ T → T ≠ c := fun e q => Nat.ne_of_gt (Nat.lt_of_lt_of_le (Heap.lt_size e) q)
    obtain ⟨q1, e1⟩ := D1.live _ _ h1
    obtain ⟨q2, e2⟩ := D2.live _ _ h2
    unfold pyNext
    refine wpAny_bind (wpAny_attempt (wpAny_callSpecial?_slot (name := Str.ofString "__next__") hT F.slot_zip_next
      (wpAny_call_entry F.slot_zip_next hT F.entry_zip_next
        (zipD_item O D1 D2 hz hTI hTO h1 h2 (Nat.lt_of_lt_of_le hi (Nat.min_le_left ..)) (Nat.lt_of_lt_of_le hi (Nat.min_le_right ..)) fun x y h' tk T px py hT a1 a2 a3 a4 a5 hk => wpAny_pure ?_) (F.args_zip_next_1 _))))
    exact hQ T #[x, y] h' tk ⟨x, y, px, py, rfl⟩ hT ⟨_, a5, rfl, _, rfl⟩ ⟨a1, hk _ _ O.ti.1 O.ti.2.1 O.ti.2.2.1 O.ti.2.2.2 hTI, ⟨_, _, a2⟩, a3, a4, lt hz hT, lt hTO hT, lt e1 hT, lt e2 hT⟩
      fun c o hc e => hk c o (fun x => hc (by simp [x])) (fun x => hc (by simp [x])) (fun x => hc (by simp [x])) (fun x => hc (by simp [x])) e
  go := fun elts k pos i T s Q E hm hQ => by
    obtain ⟨hz, hTI, ⟨a, b, hTO⟩, h1, h2, _⟩ := hm
    refine wpAny_letOwnedTupleGo_zip hz fun h' hz' hs' => hQ h' ⟨hz', hs'.extBut _ _ O.ti.1 hTI, ⟨a, b, hs'.extBut _ _ O.tz hTO⟩, fr_of D1 h1 hs' O.o1.1, fr_of D2 h2 hs' O.o2.1⟩ fun c o hc e => hs'.extBut _ _ (fun x => hc (by simp [x])) e
  apart := fun i T h hm hT => by
    obtain ⟨_, _, _, _, _, t1, t2, t3, t4⟩ := hm
    simp only [List.mem_cons, List.not_mem_nil, or_false] at hT
    rcases hT with rfl | rfl | rfl | rfl
    · exact t1 rfl
    · exact t2 rfl
    · exact t3 rfl
    · exact t4 rfl
  done := fun s Q E hst hQ => by
    obtain ⟨hz, hTI, ⟨a, b, hTO⟩, h1, h2⟩ := hst
    have hT : s.TypeIs (.ref z) "zip" := ⟨_, hz, rfl⟩
    have hend : min n1 n2 = n1 ∨ min n1 n2 = n2 := by lia
    unfold pyNext
    refine wpAny_bind (wpAny_attempt (wpAny_callSpecial?_slot (name := Str.ofString "__next__") hT F.slot_zip_next
      (wpAny_call_entry F.slot_zip_next hT F.entry_zip_next (zipD_end O D1 D2 hz hTI hTO h1 h2 (Nat.min_le_left ..) (Nat.min_le_right ..) hend fun h' tk e hk he => ?_) (F.args_zip_next_1 _))))
    obtain ⟨o, ho, hc⟩ := he
    refine wpAny_bind (wpAny_isInstance (T := "StopIteration") (b := true) ⟨o, ho, hc⟩ isSubtype_stop ?_)
    exact wpAny_pure (hQ _ _ fun c o hc e => hk c o (fun x => hc (by simp [x])) (fun x => hc (by simp [x])) (fun x => hc (by simp [x])) (fun x => hc (by simp [x])) e)
  self := fun _ _ _ _ hst hQ => wpAny_pyIter_zip hst.1 hQ
end Mine
namespace Mine
/-! comprehensions: turns told by invariants -/
noncomputable abbrev testsOf (ifs : List Expr) (env : Env) : Sem Bool := forIn ifs true fun c r => if r = true then do let ok ← isTrue c env (eval c env); pure (ForInStep.yield ok) else pure (ForInStep.yield r)

section
variable {prog : Program} {w : World} {A : Around} {R : Result → Shared → Prop} {s : Shared}

theorem loop1 {elt target iter : Expr} {ifs : List Expr} {scope : Scope} {pos : Pos} {it acc : Value} {env : Env} (I : Nat → Shared → Prop)
    (turn : ∀ E n s, I n s → wpAny (model prog w) A (pyNext it) (fun r s₁ => match r with
      | none => R (.ok .next) s₁
      | some v => wpAny (model prog w) A (letOwnedTupleGo target it v) (fun _ s₁' => wpAny (model prog w) A (assign target env v) (fun _ s₂ => wpAny (model prog w) A (testsOf ifs env) (fun ok s₃ =>
            if ok = true then wpAny (model prog w) A (eval elt env) (fun x s₄ => wpAny (model prog w) A (call (.builtin "list.append") [acc, x]) (fun _ s₅ => ∃ m, m < n ∧ I m s₅) E s₄) E s₃
            else ∃ m, m < n ∧ I m s₃) E s₂) E s₁') E s₁) E s)
    (n : Nat) (h : I n s) : codeAny (model prog w) A (.compLoop (.ListComp elt [⟨target, iter, ifs, 0⟩] scope pos) 0 it acc env) R s := by
  refine codeAny_loop rfl I (fun n s hI => ?_) n h
  show wpAny _ A ((compTurn (.ListComp elt [⟨target, iter, ifs, 0⟩] scope pos) 0 it acc env).onRaise (fun x => do noteFrame x env; theTreesLotGoes x)) _ _ s
  refine wpAny_noted ?_
  rw [compTurn_list]
  refine wpAny_bind (wpAny_standAt (wpAny_bind (wpAny_mono (turn _ n s hI) (fun r s₁ h₁ => ?_) fun _ _ h' => h')))
  cases r with
  | none => exact wpAny_pure h₁
  | some v =>
    refine wpAny_bind (wpAny_mono h₁ (fun _ s₁' h₁' => ?_) fun _ _ h' => h')
    refine wpAny_bind (wpAny_mono h₁' (fun _ s₂ h₂ => wpAny_bind (wpAny_mono h₂ (fun ok s₃ h₃ => ?_) fun _ _ h' => h')) fun _ _ h' => h')
    cases ok with
    | false => exact wpAny_pure ⟨rfl, h₃⟩
    | true => exact wpAny_bind (wpAny_bind (wpAny_mono h₃ (fun x s₄ h₄ => wpAny_bind (wpAny_mono h₄ (fun _ s₅ h₅ => wpAny_pure (wpAny_pure ⟨rfl, h₅⟩)) fun _ _ h' => h')) fun _ _ h' => h'))

theorem turn2o (elt t1 i1 t2 i2 : Expr) (f2 : List Expr) (scope : Scope) (pos : Pos) (it acc : Value) (env : Env) :
    compTurn (.ListComp elt [⟨t1, i1, [], 0⟩, ⟨t2, i2, f2, 0⟩] scope pos) 0 it acc env = (standAt i1.pos >>= fun _ => pyNext it >>= fun r => match r with
      | none => pure (.done .next)
      | some v => letOwnedTupleGo t1 it v >>= fun _ => assign t1 env v >>= fun _ =>
        eval i2 env >>= fun x => standAt i2.pos >>= fun _ => foldedSetIterable i2 env x >>= fun x => holding [x] (pyIter x) >>= fun j => runOwn (.compStart (.ListComp elt [⟨t1, i1, [], 0⟩, ⟨t2, i2, f2, 0⟩] scope pos) 1 j acc env) env >>= fun _ =>
          again (.compLoop (.ListComp elt [⟨t1, i1, [], 0⟩, ⟨t2, i2, f2, 0⟩] scope pos) 0 it acc env)) := by rfl
theorem turn2i (elt t1 i1 t2 i2 : Expr) (scope : Scope) (pos : Pos) (it acc : Value) (env : Env) :
    compTurn (.ListComp elt [⟨t1, i1, [], 0⟩, ⟨t2, i2, [], 0⟩] scope pos) 1 it acc env = (standAt i2.pos >>= fun _ => pyNext it >>= fun r => match r with
      | none => pure (.done .next)
      | some v => letOwnedTupleGo t2 it v >>= fun _ => assign t2 env v >>= fun _ =>
        (eval elt env >>= fun x => call (.builtin "list.append") [acc, x] >>= fun _ => pure ()) >>= fun _ =>
          again (.compLoop (.ListComp elt [⟨t1, i1, [], 0⟩, ⟨t2, i2, [], 0⟩] scope pos) 1 it acc env)) := by rfl

theorem loop2i {elt t1 i1 t2 i2 : Expr} {scope : Scope} {pos : Pos} {it acc : Value} {env : Env} (I : Nat → Shared → Prop)
    (turn : ∀ E n s, I n s → wpAny (model prog w) A (pyNext it) (fun r s₁ => match r with
      | none => R (.ok .next) s₁
      | some v => wpAny (model prog w) A (letOwnedTupleGo t2 it v) (fun _ s₁' => wpAny (model prog w) A (assign t2 env v) (fun _ s₂ =>
            wpAny (model prog w) A (eval elt env) (fun x s₄ => wpAny (model prog w) A (call (.builtin "list.append") [acc, x]) (fun _ s₅ => ∃ m, m < n ∧ I m s₅) E s₄) E s₂) E s₁') E s₁) E s)
    (n : Nat) (h : I n s) :
    codeAny (model prog w) A (.compLoop (.ListComp elt [⟨t1, i1, [], 0⟩, ⟨t2, i2, [], 0⟩] scope pos) 1 it acc env) R s := by
  refine codeAny_loop rfl I (fun n s hI => ?_) n h
  show wpAny _ A ((compTurn (.ListComp elt [⟨t1, i1, [], 0⟩, ⟨t2, i2, [], 0⟩] scope pos) 1 it acc env).onRaise (fun x => do noteFrame x env; theTreesLotGoes x)) _ _ s
  refine wpAny_noted ?_
  rw [turn2i]
  refine wpAny_bind (wpAny_standAt (wpAny_bind (wpAny_mono (turn _ n s hI) (fun r s₁ h₁ => ?_) fun _ _ h' => h')))
  cases r with
  | none => exact wpAny_pure h₁
  | some v =>
    refine wpAny_bind (wpAny_mono h₁ (fun _ s₁' h₁' => ?_) fun _ _ h' => h')
    refine wpAny_bind (wpAny_mono h₁' (fun _ s₂ h₂ => ?_) fun _ _ h' => h')
    exact wpAny_bind (wpAny_bind (wpAny_mono h₂ (fun x s₄ h₄ => wpAny_bind (wpAny_mono h₄ (fun _ s₅ h₅ => wpAny_pure (wpAny_pure ⟨rfl, h₅⟩)) fun _ _ h' => h')) fun _ _ h' => h'))

/-- depth one begins: the rows' second look is the iterator's own -/
theorem start2i {elt t1 i1 t2 i2 : Expr} {scope : Scope} {pos : Pos} {it acc : Value} {env : Env}
    (h0 : codeAny (model prog w) A (.compLoop (.ListComp elt [⟨t1, i1, [], 0⟩, ⟨t2, i2, [], 0⟩] scope pos) 1 it acc env) R s)
    (h : ∀ E, wpAny (model prog w) A (pyIter it) (fun it' s' => codeAny (model prog w) A (.compLoop (.ListComp elt [⟨t1, i1, [], 0⟩, ⟨t2, i2, [], 0⟩] scope pos) 1 it' acc env) R s') E s) :
    codeAny (model prog w) A (.compStart (.ListComp elt [⟨t1, i1, [], 0⟩, ⟨t2, i2, [], 0⟩] scope pos) 1 it acc env) R s := by
  refine codeAny_of_tree ?_
  show wpAny _ _ ((compStart (.ListComp elt [⟨t1, i1, [], 0⟩, ⟨t2, i2, [], 0⟩] scope pos) 1 it acc env).onRaise (fun x => do noteFrame x env; standAt theWindowsPlace)) _ _ s
  refine wpAny_notedAt ?_
  unfold compStart
  show wpAny _ _ (ask >>= _) _ _ s
  refine wpAny_bind (wpAny_askSetting (wpAny_ite ?_))
  split
  · first
      | exact wpAny_bind (wpAny_pure (wpAny_pure (And.intro rfl h0)))
      | exact wpAny_pure (And.intro rfl h0)
  · first
      | exact wpAny_bind (wpAny_rule (wpAny_bind (wpAny_standAt (wpAny_bind (wpAny_mono (h _) (fun it' s' h' => wpAny_pure (And.intro rfl h')) fun _ _ x => x)))))
      | (refine wpAny_bind (wpAny_rule ?_); show wpAny _ _ (standAt i2.pos >>= _) _ _ s; exact wpAny_bind (wpAny_standAt (wpAny_bind (wpAny_mono (h _) (fun it' s' h' => wpAny_pure (And.intro rfl h')) fun _ _ x => x))))

theorem loop2o {elt t1 i1 t2 i2 : Expr} {scope : Scope} {pos : Pos} {it acc : Value} {env : Env} (I : Nat → Shared → Prop)
    (turn : ∀ E n s, I n s → wpAny (model prog w) A (pyNext it) (fun r s₁ => match r with
      | none => R (.ok .next) s₁
      | some v => wpAny (model prog w) A (letOwnedTupleGo t1 it v) (fun _ s₁' => wpAny (model prog w) A (assign t1 env v) (fun _ s₂ =>
            wpAny (model prog w) A (eval i2 env) (fun x s₃ => wpAny (model prog w) A (pyIter x) (fun j s₄ => ∀ R' : Result → Shared → Prop, (∀ s', (∃ m, m < n ∧ I m s') → R' (.ok .next) s') →
              codeAny (model prog w) A (.compStart (.ListComp elt [⟨t1, i1, [], 0⟩, ⟨t2, i2, [], 0⟩] scope pos) 1 j acc env) R' s₄) E s₃) E s₂) E s₁') E s₁) E s)
    (n : Nat) (h : I n s) (hs : ∀ x, foldedSetIterable i2 env x = pure x) :
    codeAny (model prog w) A (.compLoop (.ListComp elt [⟨t1, i1, [], 0⟩, ⟨t2, i2, [], 0⟩] scope pos) 0 it acc env) R s := by
  refine codeAny_loop rfl I (fun n s hI => ?_) n h
  show wpAny _ A ((compTurn (.ListComp elt [⟨t1, i1, [], 0⟩, ⟨t2, i2, [], 0⟩] scope pos) 0 it acc env).onRaise (fun x => do noteFrame x env; theTreesLotGoes x)) _ _ s
  refine wpAny_noted ?_
  rw [turn2o]
  refine wpAny_bind (wpAny_standAt (wpAny_bind (wpAny_mono (turn _ n s hI) (fun r s₁ h₁ => ?_) fun _ _ h' => h')))
  cases r with
  | none => exact wpAny_pure h₁
  | some v =>
    refine wpAny_bind (wpAny_mono h₁ (fun _ s₁' h₁' => ?_) fun _ _ h' => h')
    refine wpAny_bind (wpAny_mono h₁' (fun _ s₂ h₂ => ?_) fun _ _ h' => h')
    refine wpAny_bind (wpAny_mono h₂ (fun x s₃ h₃ => ?_) fun _ _ h' => h')
    refine wpAny_bind (wpAny_standAt (wpAny_bind (wpAny_of_eq (hs x) ?_)))
    refine wpAny_bind (wpAny_holding (wpAny_mono h₃ (fun j s₄ h₄ => ?_) fun _ _ h' => h'))
    refine wpAny_bind (wpAny_runOwn (h₄ _ fun s' hm => ?_))
    exact wpAny_pure ⟨rfl, hm⟩
end

section
variable {prog : Program} {w : World} {A : Around} {E : Value → Shared → Prop} {s : Shared} {env : Env} {h₀ : Heap} {L : Addr} {m : Str → Option Value}

/-- what a comprehension's block asks: from the iterator on -/
noncomputable def CompAt (prog : Program) (w : World) (A : Around) (env : Env) (elt : Expr) (gens : List Comprehension) (scope : Scope) (cl : List (Str × Addr)) (pos : Pos) (h₀ : Heap) (L : Addr) (m : Str → Option Value)
    (Fin : Addr → List (Addr × Obj) → Prop) (it : Value) (s₂ : Shared) : Prop :=
  ∃ I, it = .ref I ∧ (∀ s' (Q' : Value → Shared → Prop) E', Kp s₂.heap s'.heap → Q' (.ref I) s' → wpAny (model prog w) A (pyIter (.ref I)) Q' E' s') ∧
    ∀ D C h₁ tk (R : Result → Shared → Prop), s₂.heap.objs.size ≤ D → s₂.heap.objs.size ≤ C → D ≠ C → h₁.Ns C (fun _ => none) → h₁.PlainList D #[] → Kp s₂.heap h₁ →
      (∀ h' tk' mc news, h'.Ns C mc → Fr h₀ L h' m → News h₀ L h' news → (∀ p ∈ news, p.1 ≠ C) → Fin D news → R (.ok .next) { s₂ with heap := h', toks := tk' }) →
      codeAny (model prog w) A (.compLoop (.ListComp elt gens scope pos) 0 (.ref I) (.ref D) (compEnvC scope cl C env)) R { s₂ with heap := h₁, toks := tk }

theorem compAt_block {elt target iter : Expr} {ifs : List Expr} {more : List Comprehension} {scope : Scope} {cl : List (Str × Addr)} {pos : Pos} {Fin : Addr → List (Addr × Obj) → Prop} {it : Value} {s₂ : Shared} {RR : Value → Addr → Result → Shared → Prop}
    (hcell : ∀ y ∈ scope.names, y.2 ≠ .cell) (hkind : scope.kind = .function) (h : CompAt prog w A env elt (⟨target, iter, ifs, 0⟩ :: more) scope cl pos h₀ L m Fin it s₂)
    (hRR : ∀ D C h' tk' mc news, s₂.heap.objs.size ≤ C → h'.Ns C mc → Fr h₀ L h' m → News h₀ L h' news → (∀ p ∈ news, p.1 ≠ C) → Fin D news → RR (.ref D) C (.ok .next) { s₂ with heap := h', toks := tk' }) :
    wpAny (model prog w) A (newList []) (fun acc s₃ => wpAny (model prog w) A (newFunctionEnv scope env.globals cl [] env.qual none .none (some env)) (fun cenv s₄ =>
      codeAny (model prog w) A (.compStart (.ListComp elt (⟨target, iter, ifs, 0⟩ :: more) scope pos) 0 it acc { cenv with scope := relabel scope env }) (RR acc cenv.locals) s₄) E s₃) E s₂ := by
  obtain ⟨I, rfl, self, h⟩ := h
  refine wpAny_newObj_type (wpAny_newFunctionEnv hcell (by intro y hy; simp at hy) (fun h₁ hns₁ hsb₁ => ?_) hkind)
  dsimp only at hns₁ hsb₁ ⊢
  generalize hH2 : s₂.heap.push { cls := .type "list", dict := none, data := .seq ([] : List Value).toArray } = H2 at hns₁ hsb₁ ⊢
  have hC : H2.objs.size = s₂.heap.objs.size + 1 := by rw [← hH2, Heap.size_push]
  have hDC : s₂.heap.objs.size ≠ H2.objs.size := by rw [hC]; exact Nat.ne_of_lt (Nat.lt_succ_self _)
  have old : Kp s₂.heap h₁ := fun b o e => hsb₁.extBut b o (by have := Heap.lt_size e; rw [hC]; exact Nat.ne_of_lt (Nat.lt_succ_of_lt this)) (Heap.get?_push_of_some _ (hH2 ▸ Heap.get?_push_of_some _ e))
  have hacc : h₁.PlainList s₂.heap.objs.size #[] := ⟨_, hsb₁.extBut _ _ hDC (Heap.get?_push_of_some _ (hH2 ▸ Heap.get?_push_size _ rfl))⟩
  have loop := h s₂.heap.objs.size H2.objs.size h₁ s₂.toks (RR (.ref s₂.heap.objs.size) H2.objs.size) (Nat.le_refl _) (by rw [hC]; exact Nat.le_succ _) hDC hns₁ hacc old
    (fun h' tk' mc news a b c d e => hRR _ _ h' tk' mc news (by rw [hC]; exact Nat.le_succ _) a b c d e)
  exact codeAny_compStart_list loop (self _ _ _ old loop)

theorem evalComp {elt target iter : Expr} {ifs : List Expr} {more : List Comprehension} {scope : Scope} {cl : List (Str × Addr)} {pos : Pos} {Q : Value → Shared → Prop}
    (hclos : closureFor scope env = pure cl) (hcell : ∀ y ∈ scope.names, y.2 ≠ .cell) (hkind : scope.kind = .function) (hnames : ∀ y ∈ scope.names, y.2 = .local → scope.names.lookup y.1 = some .local)
    (h : wpAny (model prog w) A (eval iter env) (fun xv s₁ => wpAny (model prog w) A (pyIter xv) (fun it s₂ => ∃ Fin, CompAt prog w A env elt (⟨target, iter, ifs, 0⟩ :: more) scope cl pos h₀ L m Fin it s₂ ∧ L < s₂.heap.objs.size ∧
      ∀ D h' tk' news, Fr h₀ L h' m → News h₀ L h' news → Fin D news → Q (.ref D) { s₂ with heap := h', toks := tk' }) E s₁) E s)
    (hs : ∀ x, foldedSetIterable iter env x = pure x := by intro _; rfl) :
    wpAny (model prog w) A (eval (.ListComp elt (⟨target, iter, ifs, 0⟩ :: more) scope pos) env) Q E s := by
  rw [eval_ListComp]
  refine wpAny_comprehension_free (use := none) rfl hs hclos hkind hnames (wpAny_mono h (fun xv s₁ h₁ => wpAny_mono h₁ (fun it s₂ h₂ => ?_) fun _ _ e => e) fun _ _ e => e)
  obtain ⟨Fin, hc, hL, hQ⟩ := h₂
  refine compAt_block (RR := fun acc C => compPost (model prog w) A E none Q acc C) hcell hkind hc ?_
  intro D C h' tk' mc news hC hn F N hne hF
  refine ⟨mc, hn, fun h'' hs'' => ?_⟩
  have hLC : L ≠ C := Nat.ne_of_lt (Nat.lt_of_lt_of_le hL hC)
  have hold : ∀ b o, h₀.get? b = some o → b ≠ C := fun b o e q => by
    have := Heap.lt_size e
    rw [q] at this
    exact absurd (Nat.lt_of_lt_of_le this (Nat.le_trans F.above (Nat.le_of_lt hL))) (Nat.not_lt.mpr hC)
  exact hQ D h'' tk' news ⟨F.ns.sameBut hs'' hLC, fun b o e => hs''.extBut b o (hold b o e) (F.keep b o e), F.above⟩ (fun p hp => ⟨hs''.extBut _ _ (hne p hp) (N p hp).1, (N p hp).2⟩) hF

theorem assignComp {elt target iter : Expr} {ifs : List Expr} {more : List Comprehension} {scope : Scope} {cl : List (Str × Addr)} {pos spos py : Pos} {y : Str} {Q : Flow → Shared → Prop}
    (_hL : env.locals = L) (hsw : swapsWith (.ListComp elt (⟨target, iter, ifs, 0⟩ :: more) scope pos) (some (.Name y py)) spos.line env = pure true)
    (hclos : closureFor scope env = pure cl) (hcell : ∀ y ∈ scope.names, y.2 ≠ .cell) (hkind : scope.kind = .function) (hnames : ∀ y ∈ scope.names, y.2 = .local → scope.names.lookup y.1 = some .local)
    (h : wpAny (model prog w) A (eval iter env) (fun xv s₁ => wpAny (model prog w) A (pyIter xv) (fun it s₂ => ∃ Fin, CompAt prog w A env elt (⟨target, iter, ifs, 0⟩ :: more) scope cl pos h₀ L m Fin it s₂ ∧ L < s₂.heap.objs.size ∧
      ∀ D C h' tk' mc news, s₂.heap.objs.size ≤ C → h'.Ns C mc → Fr h₀ L h' m → News h₀ L h' news → (∀ p ∈ news, p.1 ≠ C) → Fin D news →
        wpAny (model prog w) A (storeName env y (.ref D)) (fun _ s₃ => (∃ mc, s₃.heap.Ns C mc) ∧ ∀ h'', Heap.SameBut C s₃.heap h'' → Q .next { s₃ with heap := h'' }) E { s₂ with heap := h', toks := tk' }) E s₁) E s)
    (hs : ∀ x, foldedSetIterable iter env x = pure x := by intro _; rfl) :
    wpAny (model prog w) A (exec (.Assign [.Name y py] (.ListComp elt (⟨target, iter, ifs, 0⟩ :: more) scope pos) spos) env) Q E s := by
  rw [exec_Assign_Name_used _ _ _ _ hsw]
  refine wpAny_bind (wpAny_standAt (wpAny_bind ?_))
  show wpAny _ A (do let _ ← comprehension (.ListComp elt (⟨target, iter, ifs, 0⟩ :: more) scope pos) scope env _ (newList []) false (eval iter env) (some (assign (.Name y py) env))) _ _ s
  refine wpAny_bind (wpAny_mono (wpAny_comprehension_free (use := some (assign (.Name y py) env)) (Q := fun _ s' => Q .next s') rfl hs hclos hkind hnames
    (wpAny_mono h (fun xv s₁ h₁ => wpAny_mono h₁ (fun it s₂ h₂ => ?_) fun _ _ e => e) fun _ _ e => e)) (fun _ s' hq => wpAny_pure (wpAny_pure hq)) fun _ _ e => e)
  obtain ⟨Fin, hc, hLs, hQ⟩ := h₂
  refine compAt_block (RR := fun acc C => compPost (model prog w) A E (some (assign (.Name y py) env)) (fun _ s' => Q .next s') acc C) hcell hkind hc ?_
  intro D C h' tk' mc news hC hn F N hne hF
  show wpAny _ A (assign (.Name y py) env (.ref D)) _ _ _
  refine wpAny_assign_Name (wpAny_mono (hQ D C h' tk' mc news hC hn F N hne hF) (fun _ s₃ h₃ => ?_) fun _ _ e => e)
  obtain ⟨⟨mc', hn'⟩, hq⟩ := h₃
  exact ⟨mc', hn', hq⟩
end
end Mine
namespace Mine
/-! a comprehension over an iterator: the results are told by R -/
noncomputable abbrev lstO (ys : Array Value) (n : Nat) : Obj := { cls := .type "list", data := .seq ys n }
inductive Fin1 (n : Nat) (R : Nat → List Value → Prop) (news : List (Addr × Obj)) (D : Addr) (news' : List (Addr × Obj)) : Prop
  | mk (ys : List Value) (k : Nat) (h1 : R n ys) (h2 : news' = (D, lstO ys.toArray k) :: news) (h3 : (∀ p ∈ news, p.1 ≠ D)) : Fin1 n R news D news'
inductive CompI (s₂ : Shared) (St : Nat → Heap → Prop) (C D : Addr) (h₀ : Heap) (L : Addr) (m : Str → Option Value) (news : List (Addr × Obj)) (R : Nat → List Value → Prop) (n : Nat) (k : Nat) (s' : Shared) : Prop
  | mk (h' : Heap) (tk' : Nat) (mc : Str → Option Value) (ys : List Value) (i : Nat) (h1 : s' = { s₂ with heap := h', toks := tk' }) (h2 : St i h') (h3 : h'.Ns C mc) (h4 : h'.PlainList D ys.toArray) (h5 : Fr h₀ L h' m) (h6 : News h₀ L h' news) (h7 : R i ys) (h8 : i ≤ n) (h9 : k = n + 1 - i) : CompI s₂ St C D h₀ L m news R n k s'

section
variable {prog : Program} {w : World} {A : Around} {E : Value → Shared → Prop} {s : Shared} {env : Env} {h₀ : Heap} {L : Addr} {m : Str → Option Value} {news : List (Addr × Obj)}
variable {I : Addr} {fp wr : List Addr} {n : Nat}

theorem frN_up {wr : List Addr} {h h' : Heap} (F : Fr h₀ L h m) (N : News h₀ L h news) (hL : L ∉ wr) (hwr : ∀ b ∈ wr, h₀.get? b = none) (hnw : ∀ p ∈ news, p.1 ∉ wr) (k : ∀ b o, b ∉ wr → h.get? b = some o → h'.get? b = some o) :
    Fr h₀ L h' m ∧ News h₀ L h' news :=
  ⟨⟨F.ns.at' fun o e => k _ o hL e, fun b o e => k b o (fun hb => by rw [hwr b hb] at e; cases e) (F.keep b o e), F.above⟩, fun p hp => ⟨k _ _ (hnw p hp) (N p hp).1, (N p hp).2⟩⟩

/-- what one turn shows -/
noncomputable def TurnQ (prog : Program) (w : World) (A : Around) (elt : Expr) (ifs : List Expr) (cenv : Env) (Rn : List Value → Prop) (ys : List Value) (E : Value → Shared → Prop) (s : Shared) : Prop :=
  wpAny (model prog w) A (testsOf ifs cenv) (fun ok s₃ => Keeps s s₃ ∧ if ok = true then wpAny (model prog w) A (eval elt cenv) (fun v s₄ => Keeps s₃ s₄ ∧ Rn (ys ++ [v])) E s₃ else Rn ys) E s

/-- the tail of a turn: tests, element, append -/
theorem turn_tail {elt : Expr} {ifs : List Expr} {cenv : Env} {Rn : List Value → Prop} {ys : List Value} {s₂ : Shared} {D C : Addr} {mc : Str → Option Value} {St : Heap → Prop} {J : Shared → Prop}
    (hDC : D ≠ C) (hDL : D ≠ L) (hDf : D ∉ fp) (hDn : ∀ p ∈ news, p.1 ≠ D) (hD0 : h₀.get? D = none)
    (stk : ∀ h h', St h → (∀ b ∈ fp, ∀ o, h.get? b = some o → h'.get? b = some o) → St h')
    (hn : s₂.heap.Ns C mc) (ha : s₂.heap.PlainList D ys.toArray) (F : Fr h₀ L s₂.heap m) (N : News h₀ L s₂.heap news) (hst : St s₂.heap) (hsz : ys.length ≤ sizeLine)
    (q : TurnQ prog w A elt ifs cenv Rn ys E s₂)
    (k : ∀ h' tk ys' , h'.Ns C mc → h'.PlainList D ys'.toArray → Fr h₀ L h' m → News h₀ L h' news → St h' → Rn ys' → J { s₂ with heap := h', toks := tk }) :
    wpAny (model prog w) A (testsOf ifs cenv) (fun ok s₃ => if ok = true then wpAny (model prog w) A (eval elt cenv) (fun x s₄ => wpAny (model prog w) A (call (.builtin "list.append") [.ref D, x]) (fun _ s₅ => J s₅) E s₄) E s₃ else J s₃) E s₂ := by
  refine wpAny_mono q (fun ok s₃ h₃ => ?_) fun _ _ e => e
  obtain ⟨⟨h3, tk3, rfl, k3⟩, h₃⟩ := h₃
  have up : ∀ h' : Heap, Kp s₂.heap h' → h'.Ns C mc ∧ h'.PlainList D ys.toArray ∧ Fr h₀ L h' m ∧ News h₀ L h' news ∧ St h' := fun h' kk =>
    ⟨hn.keeps kk, ha.at fun o e => kk _ o e, ⟨F.ns.keeps kk, fun b o e => kk b o (F.keep b o e), F.above⟩, fun p hp => ⟨kk _ _ (N p hp).1, (N p hp).2⟩, stk _ _ hst fun b _ o e => kk b o e⟩
  cases ok with
  | false =>
    simp only [Bool.false_eq_true, if_false] at h₃ ⊢
    obtain ⟨a1, a2, a3, a4, a5⟩ := up h3 k3
    exact k h3 tk3 ys a1 a2 a3 a4 a5 h₃
  | true =>
    simp only [if_true] at h₃ ⊢
    refine wpAny_mono h₃ (fun v s₄ h₄ => ?_) fun _ _ e => e
    obtain ⟨⟨h4, tk4, rfl, k4⟩, hR⟩ := h₄
    obtain ⟨a1, a2, a3, a4, a5⟩ := up h4 fun b o e => k4 b o (k3 b o e)
    refine wpAny_list_append_plain a2 (fun h5 ha5 hs5 => ?_) (by simpa using hsz)
    refine k h5 tk4 (ys ++ [v]) (a1.sameBut hs5 (Ne.symm hDC)) (by simpa using ha5) ⟨a3.ns.sameBut hs5 (Ne.symm hDL), fun b o e => hs5.extBut b o (fun q => by rw [q, hD0] at e; cases e) (a3.keep b o e), a3.above⟩
      (fun p hp => ⟨hs5.extBut _ _ (hDn p hp) (a4 p hp).1, (a4 p hp).2⟩) (stk _ _ a5 fun b hb o e => hs5.extBut b o (fun q => hDf (q ▸ hb)) e) hR

/-- over a plain iterator, one name -/
theorem compAtW {P : Nat → Value → Prop} {St : Nat → Heap → Prop} {elt iter : Expr} {ifs : List Expr} {x : Str} {px : Pos} {scope : Scope} {cl : List (Str × Addr)} {pos : Pos} {s₂ : Shared} (R : Nat → List Value → Prop)
    (W : Walks prog w A I fp wr n P St) (hx : scope.names.lookup x = some .local) (hkind : scope.kind = .function) (hst : St 0 s₂.heap) (hfp : ∀ b ∈ fp, b < s₂.heap.objs.size) (hLf : L ∉ fp) (hwr : ∀ b ∈ wr, h₀.get? b = none)
    (hnw : ∀ p ∈ news, p.1 ∉ wr) (F : Fr h₀ L s₂.heap m) (N : News h₀ L s₂.heap news) (h0 : R 0 []) (hlen : ∀ i ys, R i ys → i ≤ n → ys.length ≤ sizeLine)
    (turn : ∀ E i v C h tk mc ys, i < n → P i v → R i ys → s₂.heap.objs.size ≤ C → h.Ns C mc → mc x = some v → Fr h₀ L h m → News h₀ L h news → TurnQ prog w A elt ifs (compEnvC scope cl C env) (R (i + 1)) ys E { s₂ with heap := h, toks := tk }) :
    CompAt prog w A env elt [⟨.Name x px, iter, ifs, 0⟩] scope cl pos h₀ L m (Fin1 n R news) (.ref I) s₂ := by
  refine ⟨I, rfl, fun s' Q' E' k hq => W.self 0 _ _ _ (W.frame _ _ _ hst fun b _ o e => k b o e) hq, fun D C h₁ tk RR hD hC hDC hn ha kp hRR => ?_⟩
  have hLlt : L < s₂.heap.objs.size := F.ns.lt
  have h0lt : ∀ b o, h₀.get? b = some o → b < s₂.heap.objs.size := fun b o e => Heap.lt_size (F.keep b o e)
  have hLw : L ∉ wr := fun h => hLf (W.sub _ h)
  have hDL : D ≠ L := Nat.ne_of_gt (Nat.lt_of_lt_of_le hLlt hD)
  have hCL : C ≠ L := Nat.ne_of_gt (Nat.lt_of_lt_of_le hLlt hC)
  have hDf : D ∉ fp := fun h => absurd (hfp _ h) (Nat.not_lt.mpr hD)
  have hCf : C ∉ fp := fun h => absurd (hfp _ h) (Nat.not_lt.mpr hC)
  have hDw : D ∉ wr := fun h => hDf (W.sub _ h)
  have hCw : C ∉ wr := fun h => hCf (W.sub _ h)
  have hDn : ∀ p ∈ news, p.1 ≠ D := fun p hp q => absurd (Heap.lt_size (N p hp).1) (Nat.not_lt.mpr (q ▸ hD))
  have hCn : ∀ p ∈ news, p.1 ≠ C := fun p hp q => absurd (Heap.lt_size (N p hp).1) (Nat.not_lt.mpr (q ▸ hC))
  have hD0 : h₀.get? D = none := by
    cases q : h₀.get? D with
    | none => rfl
    | some o => exact absurd (h0lt D o q) (Nat.not_lt.mpr hD)
  have hC0 : h₀.get? C = none := by
    cases q : h₀.get? C with
    | none => rfl
    | some o => exact absurd (h0lt C o q) (Nat.not_lt.mpr hC)
  refine loop1 (CompI s₂ St C D h₀ L m news R n) ?_ (n + 1)
    ⟨h₁, tk, _, [], 0, rfl, W.frame _ _ _ hst fun b _ o e => kp b o e, hn, ha, ⟨F.ns.keeps kp, fun b o e => kp b o (F.keep b o e), F.above⟩, fun p hp => ⟨kp _ _ (N p hp).1, (N p hp).2⟩, h0, Nat.zero_le _, rfl⟩
  rintro E' k s' ⟨h', tk', mc, ys, i, rfl, hst', hn', ha', F', N', hR, hi, rfl⟩
  by_cases hlt : i < n
  · refine W.item i _ _ _ hlt hst' fun v h2 tk2 hP hst2 k2 => ?_
    obtain ⟨F2, N2⟩ := frN_up F' N' hLw hwr hnw k2
    have hn2 : h2.Ns C mc := hn'.at' fun o e => k2 _ o hCw e
    have ha2 : h2.PlainList D ys.toArray := ha'.at fun o e => k2 _ o hDw e
    have e0 : letOwnedTupleGo (.Name x px) (.ref I) v = pure () := rfl
    refine wpAny_of_eq e0 ?_
    refine wpAny_assign_Name (wpAny_storeName_local (env := compEnvC scope cl C env) (lookup_relabel_local hx) hn2 (fun h3 hn3 hs3 => ?_) (by simp [compEnvC, relabel, hkind]))
    have hs3 : Heap.SameBut C h2 h3 := hs3
    have F3 : Fr h₀ L h3 m := ⟨F2.ns.sameBut hs3 (Ne.symm hCL), fun b o e => hs3.extBut b o (fun q => by rw [q, hC0] at e; cases e) (F2.keep b o e), F2.above⟩
    have N3 : News h₀ L h3 news := fun p hp => ⟨hs3.extBut _ _ (hCn p hp) (N2 p hp).1, (N2 p hp).2⟩
    have hst3 : St (i + 1) h3 := W.frame _ _ _ hst2 fun b hb o e => hs3.extBut b o (fun q => hCf (q ▸ hb)) e
    refine turn_tail (fp := fp) (St := St (i + 1)) (Rn := R (i + 1)) (ys := ys) hDC hDL hDf hDn hD0 (fun h h' a b => W.frame _ _ _ a b) hn3 (ha2.extBut hs3.extBut hDC) F3 N3 hst3 (hlen i ys hR hi)
      (turn E' i v C h3 _ _ ys hlt hP hR hC hn3 (by first | exact Nat.le_of_ble_eq_true rfl | (repeat (first | exact .head _ | apply List.Mem.tail)); done | simp) F3 N3) (fun h4 tk4 ys4 a1 a2 a3 a4 a5 a6 => ?_)
    exact ⟨n + 1 - (i + 1), by lia, h4, tk4, _, ys4, i + 1, rfl, a5, a1, a2, a3, a4, a6, hlt, rfl⟩
  · have hin : i = n := by lia
    refine W.done _ _ _ (hin ▸ hst') fun h2 tk2 k2 => ?_
    obtain ⟨F2, N2⟩ := frN_up F' N' hLw hwr hnw k2
    obtain ⟨kk, hDo⟩ := (ha'.at fun o e => k2 _ o hDw e : h2.PlainList D ys.toArray)
    refine hRR h2 tk2 mc ((D, lstO ys.toArray kk) :: news) (hn'.at' fun o e => k2 _ o hCw e) F2 ?_ ?_ ⟨ys, kk, hin ▸ hR, rfl, hDn⟩
    · intro p hp
      rcases List.mem_cons.mp hp with rfl | hp
      · exact ⟨hDo, hDL, hD0⟩
      · exact N2 p hp
    · intro p hp
      rcases List.mem_cons.mp hp with rfl | hp
      · exact hDC
      · exact hCn p hp

/-- over an iterator of pairs, two names -/
theorem compAtT {Pt : Nat → Array Value → Prop} {St : Nat → Heap → Prop} {Mid : Nat → Addr → Heap → Prop} {elt iter : Expr} {ifs : List Expr} {x y : Str} {px py tp : Pos} {kt : Nat} {scope : Scope} {cl : List (Str × Addr)} {pos : Pos} {s₂ : Shared} (R : Nat → List Value → Prop)
    (hh : A.handled = none) (W : WalksT prog w A I fp wr n Pt St Mid) (hx : scope.names.lookup x = some .local) (hy : scope.names.lookup y = some .local) (hkind : scope.kind = .function) (hst : St 0 s₂.heap) (hfp : ∀ b ∈ fp, b < s₂.heap.objs.size) (hLf : L ∉ fp) (hwr : ∀ b ∈ wr, h₀.get? b = none)
    (hnw : ∀ p ∈ news, p.1 ∉ wr) (F : Fr h₀ L s₂.heap m) (N : News h₀ L s₂.heap news) (h0 : R 0 []) (hlen : ∀ i ys, R i ys → i ≤ n → ys.length ≤ sizeLine) (hpair : ∀ i vals, Pt i vals → ∃ a b, vals = #[a, b])
    (turn : ∀ E i a b C h tk (mc : Str → Option Value) ys, i < n → Pt i #[a, b] → R i ys → s₂.heap.objs.size ≤ C → h.Ns C (fun z => if z = y then some b else if z = x then some a else mc z) → Fr h₀ L h m → News h₀ L h news →
      TurnQ prog w A elt ifs (compEnvC scope cl C env) (R (i + 1)) ys E { s₂ with heap := h, toks := tk }) :
    CompAt prog w A env elt [⟨.Tuple [.Name x px, .Name y py] kt tp, iter, ifs, 0⟩] scope cl pos h₀ L m (Fin1 n R news) (.ref I) s₂ := by
  refine ⟨I, rfl, fun s' Q' E' k hq => W.self 0 _ _ _ (W.frame _ _ _ hst fun b _ o e => k b o e) hq, fun D C h₁ tk RR hD hC hDC hn ha kp hRR => ?_⟩
  have hLlt : L < s₂.heap.objs.size := F.ns.lt
  have h0lt : ∀ b o, h₀.get? b = some o → b < s₂.heap.objs.size := fun b o e => Heap.lt_size (F.keep b o e)
  have hLw : L ∉ wr := fun h => hLf (W.sub _ h)
  have hDL : D ≠ L := Nat.ne_of_gt (Nat.lt_of_lt_of_le hLlt hD)
  have hCL : C ≠ L := Nat.ne_of_gt (Nat.lt_of_lt_of_le hLlt hC)
  have hDf : D ∉ fp := fun h => absurd (hfp _ h) (Nat.not_lt.mpr hD)
  have hCf : C ∉ fp := fun h => absurd (hfp _ h) (Nat.not_lt.mpr hC)
  have hDw : D ∉ wr := fun h => hDf (W.sub _ h)
  have hCw : C ∉ wr := fun h => hCf (W.sub _ h)
  have hDn : ∀ p ∈ news, p.1 ≠ D := fun p hp q => absurd (Heap.lt_size (N p hp).1) (Nat.not_lt.mpr (q ▸ hD))
  have hCn : ∀ p ∈ news, p.1 ≠ C := fun p hp q => absurd (Heap.lt_size (N p hp).1) (Nat.not_lt.mpr (q ▸ hC))
  have hD0 : h₀.get? D = none := by
    cases q : h₀.get? D with
    | none => rfl
    | some o => exact absurd (h0lt D o q) (Nat.not_lt.mpr hD)
  have hC0 : h₀.get? C = none := by
    cases q : h₀.get? C with
    | none => rfl
    | some o => exact absurd (h0lt C o q) (Nat.not_lt.mpr hC)
  refine loop1 (CompI s₂ St C D h₀ L m news R n) ?_ (n + 1)
    ⟨h₁, tk, _, [], 0, rfl, W.frame _ _ _ hst fun b _ o e => kp b o e, hn, ha, ⟨F.ns.keeps kp, fun b o e => kp b o (F.keep b o e), F.above⟩, fun p hp => ⟨kp _ _ (N p hp).1, (N p hp).2⟩, h0, Nat.zero_le _, rfl⟩
  rintro E' k s' ⟨h', tk', mc, ys, i, rfl, hst', hn', ha', F', N', hR, hi, rfl⟩
  by_cases hlt : i < n
  · refine W.item i _ _ _ hlt hst' fun T vals h2 tk2 hP hT ht2 hmid k2 => ?_
    obtain ⟨a, b, rfl⟩ := hpair i vals hP
    have hTw : T ∉ wr := W.apart _ _ _ hmid
    refine W.go _ _ _ i T _ _ _ hmid fun h3 hst3 k3 => ?_
    obtain ⟨F3, N3⟩ := frN_up F' N' hLw hwr hnw fun b o hb e => k3 b o hb (k2 b o hb e)
    have hn3 : h3.Ns C mc := hn'.at' fun o e => k3 _ o hCw (k2 _ o hCw e)
    have ha3 : h3.PlainList D ys.toArray := ha'.at fun o e => k3 _ o hDw (k2 _ o hDw e)
    have ht3 : h3.IsTuple T #[a, b] := by obtain ⟨o, e, r⟩ := ht2; exact ⟨o, k3 _ _ hTw e, r⟩
    refine PySem.W.kcp_assign (env := compEnvC scope cl C env) hh ht3 (lookup_relabel_local hx) (lookup_relabel_local hy) (by simp [compEnvC, relabel, hkind]) hn3 fun h4 tk4 hn4 k4 => ?_
    have k4 : ∀ c o, c ≠ C → h3.get? c = some o → h4.get? c = some o := k4
    have F4 : Fr h₀ L h4 m := ⟨F3.ns.at' fun o e => k4 _ o (Ne.symm hCL) e, fun b o e => k4 b o (fun q => by rw [q, hC0] at e; cases e) (F3.keep b o e), F3.above⟩
    have N4 : News h₀ L h4 news := fun p hp => ⟨k4 _ _ (hCn p hp) (N3 p hp).1, (N3 p hp).2⟩
    have hst4 : St (i + 1) h4 := W.frame _ _ _ hst3 fun b hb o e => k4 b o (fun q => hCf (q ▸ hb)) e
    refine turn_tail (fp := fp) (St := St (i + 1)) (Rn := R (i + 1)) (ys := ys) hDC hDL hDf hDn hD0 (fun h h' a b => W.frame _ _ _ a b) hn4 (ha3.at fun o e => k4 _ o hDC e) F4 N4 hst4 (hlen i ys hR hi)
      (turn E' i a b C h4 _ _ ys hlt hP hR hC hn4 F4 N4) (fun h5 tk5 ys5 a1 a2 a3 a4 a5 a6 => ?_)
    exact ⟨n + 1 - (i + 1), by lia, h5, tk5, _, ys5, i + 1, rfl, a5, a1, a2, a3, a4, a6, hlt, rfl⟩
  · have hin : i = n := by lia
    refine W.done _ _ _ (hin ▸ hst') fun h2 tk2 k2 => ?_
    obtain ⟨F2, N2⟩ := frN_up F' N' hLw hwr hnw k2
    obtain ⟨kk, hDo⟩ := (ha'.at fun o e => k2 _ o hDw e : h2.PlainList D ys.toArray)
    refine hRR h2 tk2 mc ((D, lstO ys.toArray kk) :: news) (hn'.at' fun o e => k2 _ o hCw e) F2 ?_ ?_ ⟨ys, kk, hin ▸ hR, rfl, hDn⟩
    · intro p hp
      rcases List.mem_cons.mp hp with rfl | hp
      · exact ⟨hDo, hDL, hD0⟩
      · exact N2 p hp
    · intro p hp
      rcases List.mem_cons.mp hp with rfl | hp
      · exact hDC
      · exact hCn p hp
end
end Mine
namespace Mine

/-- the contract of a def that leaves all that stood -/
noncomputable def FnC (w : World) (ad : Nat → Addr) (mg mb : Str → Option Value) (k : Nat) (vs : List Value) (d : Nat) (Pre : Heap → Prop) (Post : Heap → Value → Prop) : Prop :=
  ∀ (A : Around) (s : Shared) (R : Result → Shared → Prop), A.handled = none → A.depth + d < recursionLimit → A.units + 8 * d < cLine → Lib ad mg mb s.heap → Pre s.heap →
    (∀ v h' tk', Kp s.heap h' → Post h' v → R (.ok (.ret v)) { s with heap := h', toks := tk' }) → codeAny (model prg w) A (.call (.ref (ad k)) ⟨vs, []⟩) R s

section
variable {w : World} {A : Around} {E : Value → Shared → Prop} {s : Shared} {ad : Nat → Addr} {mg mb : Str → Option Value} {h₀ : Heap} {L : Addr} {m : Str → Option Value} {news : List (Addr × Obj)} {env : Env}

theorem useFn {k d : Nat} {vs : List Value} {Pre : Heap → Prop} {Post : Heap → Value → Prop} {Q : Value → Shared → Prop} (C : FnC w ad mg mb k vs d Pre Post) (hh : A.handled = none) (hd : A.depth + d < recursionLimit) (hu : A.units + 8 * d < cLine)
    (l : Lib ad mg mb h₀) (F : Fr h₀ L s.heap m) (N : News h₀ L s.heap news) (pre : Pre s.heap)
    (h : ∀ v h' tk', Fr h₀ L h' m → News h₀ L h' news → Kp s.heap h' → Post h' v → Q v { s with heap := h', toks := tk' }) : wpAny (model prg w) A (call (.ref (ad k)) vs) Q E s :=
  wpAny_call (C A s _ hh hd hu (l.keeps F.keep) pre fun v h' tk' kp po => h v h' tk' ⟨F.ns.keeps kp, fun b o e => kp b o (F.keep b o e), F.above⟩ (fun p hp => ⟨kp _ _ (N p hp).1, (N p hp).2⟩) kp po)

/-- a def of the text's is called: its arguments first -/
theorem callD {M : Model} {k : Nat} {e : Expr} {rest : List Expr} {pos : Pos} {Q : Value → Shared → Prop} (l : Lib ad mg mb h₀) (hk : k ∈ fnIdx)
    (h : wpAny M A (spliced (backTo pos (starEach (e :: rest) env))) (fun vs s₁ => Kp h₀ s₁.heap ∧ wpAny M A (call (.ref (ad k)) vs) Q E s₁) E s)
    (he : starEach (e :: rest) env = (false, eval e env) :: starEach rest env := by rfl) : wpAny M A (callWith pos (.ref (ad k)) [] (backTo pos (starEach (e :: rest) env)) []) Q E s := by
  obtain ⟨o, pm, cd, doc, h1, h2, h3⟩ := (l.fn k hk).2
  exact callWith_def h2 (wpAny_mono h (fun vs s₁ q => ⟨q.1 _ _ h1, q.2⟩) fun _ _ e => e) he

theorem lenL {l : Addr} {vs : List Value} {Q : Value → Shared → Prop} (hl : s.heap.IsList l vs.toArray) (hb : vs.length ≤ 1000000) (h : ∀ t tk, Q (.int vs.length t) { s with toks := tk }) :
    wpAny (model prg w) A (call (.builtin "len") [.ref l]) Q E s := by
  refine Calls.call_len_list hl (by simp; lia) ?_
  have := h (s.toks + 1) (s.toks + 1 + 1)
  simpa using this
theorem lenS {x : Str} {t : Tok} {Q : Value → Shared → Prop} (hb : x.length ≤ 1000000) (h : ∀ t tk, Q (.int x.length t) { s with toks := tk }) :
    wpAny (model prg w) A (call (.builtin "len") [.str x t]) Q E s := PyProof.Rows.len_str (by lia) (h _ _)
end

/-! zip of a list and a text -/
noncomputable abbrev zA (h : Heap) (l : Addr) : Heap := h.push { cls := .type "list_iterator", data := .fields #[.ref l, .int 0 0] }
noncomputable abbrev zB (h : Heap) (l : Addr) (x : Str) (t : Tok) : Heap := (zA h l).push { cls := .type (strIterType x), data := .fields #[.str x t, .int 0 0] }
noncomputable abbrev zC (h : Heap) (l : Addr) (x : Str) (t : Tok) : Heap := (zB h l x t).push { cls := .type "tuple", data := .seq #[.ref h.objs.size, .ref (zA h l).objs.size] }
noncomputable abbrev zD (h : Heap) (l : Addr) (x : Str) (t : Tok) : Heap := (zC h l x t).push { cls := .type "tuple", data := .seq #[.none, .none] }
noncomputable abbrev zE (h : Heap) (l : Addr) (x : Str) (t : Tok) : Heap := (zD h l x t).push { cls := .type "zip", data := .fields #[.none, .bool false, .bool false, .ref (zB h l x t).objs.size, .ref (zC h l x t).objs.size] }

set_option maxHeartbeats 4000000 in
theorem meets_zip_ls (l : Addr) (x : Str) (t : Tok) (xs : Array Value) :
    Meets (Builtin.«zip.__new__» ⟨[.type "zip", .ref l, .str x t], []⟩) (fun _ R s => s.heap.IsList l xs ∧ R (.ok (.ret (.ref (zD s.heap l x t).objs.size))) { s with heap := zE s.heap l x t }) :=
  .of_wp fun prog w A R s h => by
    obtain ⟨hp, g, d, tk, os⟩ := s; obtain ⟨hl, h⟩ := h
    have hsub := sub_zip
    have hL1 : Heap.IsList (Shared.heap ⟨hp, g, d, tk, os⟩) l xs := hl
    wp_walk using wpAny_pyIter_list hL1, wpAny_pyIter_strU
    exact ⟨_, rfl, h⟩

theorem strIter_draws {prog : Program} {w : World} {A : Around} (hh : A.handled = none) (it : Addr) (x : Str) (t : Tok) :
    ∃ St, Draws prog w A it [it] x.cps.size (SignAt x) St ∧ ∀ h : Heap, h.get? it = some { cls := .type (strIterType x), data := .fields #[.str x t, .int 0 0] } → St 0 h := by
  by_cases ha : x.cps.all (· < 128) = true
  · exact ⟨_, Draws.strAscii hh it x t, fun h e => ⟨_, e, by simp [strIterType, ha], rfl⟩⟩
  · exact ⟨_, Draws.strWide hh it x t, fun h e => ⟨_, e, by simp [strIterType, ha], rfl⟩⟩

theorem nN {a b : Nat} (h : a ≠ b) : @Ne Addr a b := h
theorem notMem1 {a b : Nat} (h : a ≠ b) : @Not (@List.Mem Addr a [b]) := fun q => by
  cases q with
  | head => exact h rfl
  | tail _ q => cases q
theorem notMem2 {a b c : Nat} (h : a ≠ b) (h2 : a ≠ c) : @Not (@List.Mem Addr a [b, c]) := fun q => by
  cases q with
  | head => exact h rfl
  | tail _ q => cases q with
    | head => exact h2 rfl
    | tail _ q => cases q
theorem zoff (S l : Nat) (h : l < S) : ZipOff (S + 4) (S + 2) (S + 3) S (S + 1) [S, l] [S + 1] where
  ti := ⟨nN (by lia), nN (by lia), nN (by lia), nN (by lia)⟩
  tz := nN (by lia)
  t1 := nN (by lia)
  t2 := nN (by lia)
  z1 := nN (by lia)
  z2 := nN (by lia)
  m1 := List.mem_cons_self
  m2 := List.mem_cons_self
  o1 := ⟨notMem2 (by lia) (by lia), notMem2 (by lia) (by lia), notMem2 (by lia) (by lia)⟩
  o2 := ⟨notMem1 (by lia), notMem1 (by lia), notMem1 (by lia)⟩

section
variable {w : World} {A : Around} {E : Value → Shared → Prop} {s : Shared} {h₀ : Heap} {L : Addr} {m : Str → Option Value} {news : List (Addr × Obj)}

/-- what a zip of a list and a text gives: pairs -/
theorem zip_ls {l : Addr} {x : Str} {t : Tok} {vs : List Value} {Q : Value → Shared → Prop} (hh : A.handled = none) (hl : s.heap.IsList l vs.toArray) (Fm : Fr h₀ L s.heap m) (N : News h₀ L s.heap news)
    (h : ∀ z fp wr St Mid h', WalksT prg w A z fp wr (min vs.length x.cps.size) (fun i ab => ∃ a b, vs.toArray[i]? = some a ∧ SignAt x i b ∧ ab = #[a, b]) St Mid → St 0 h' → (∀ b ∈ fp, b < h'.objs.size) → L ∉ fp → (∀ b ∈ wr, h₀.get? b = none) →
      (∀ p ∈ news, p.1 ∉ wr) → Fr h₀ L h' m → News h₀ L h' news → Q (.ref z) { s with heap := h' }) :
    wpAny (model prg w) A (call (.type "zip") [.ref l, .str x t]) Q E s := by
  refine callType_new F.called_zip (by decide) (F.typeCall_zip_2 _ _) (F.newCall_zip_2 _ _) (fun obj => F.args_object_init_3 obj _ _) F.entry_zip_new (meets_zip_ls l x t vs.toArray) ⟨hl, ?_⟩
  have z1 : (zA s.heap l).objs.size = s.heap.objs.size + 1 := Heap.size_push ..
  have z2 : (zB s.heap l x t).objs.size = s.heap.objs.size + 2 := by rw [Heap.size_push, z1]
  have z3 : (zC s.heap l x t).objs.size = s.heap.objs.size + 3 := by rw [Heap.size_push, z2]
  have z4 : (zD s.heap l x t).objs.size = s.heap.objs.size + 4 := by rw [Heap.size_push, z3]
  have z5 : (zE s.heap l x t).objs.size = s.heap.objs.size + 5 := by rw [Heap.size_push, z4]
  have g5 : (zE s.heap l x t).get? (zD s.heap l x t).objs.size = some _ := Heap.get?_push_size _ rfl
  have g4 : (zE s.heap l x t).get? (zC s.heap l x t).objs.size = some _ := Heap.get?_push_of_some _ (Heap.get?_push_size _ rfl)
  have g3 : (zE s.heap l x t).get? (zB s.heap l x t).objs.size = some _ := Heap.get?_push_of_some _ (Heap.get?_push_of_some _ (Heap.get?_push_size _ rfl))
  have g2 : (zE s.heap l x t).get? (zA s.heap l).objs.size = some _ := Heap.get?_push_of_some _ (Heap.get?_push_of_some _ (Heap.get?_push_of_some _ (Heap.get?_push_size _ rfl)))
  have g1 : (zE s.heap l x t).get? s.heap.objs.size = some _ := Heap.get?_push_of_some _ (Heap.get?_push_of_some _ (Heap.get?_push_of_some _ (Heap.get?_push_of_some _ (Heap.get?_push_size _ rfl))))
  have kp : Kp s.heap (zE s.heap l x t) := fun c o e => Heap.get?_push_of_some _ (Heap.get?_push_of_some _ (Heap.get?_push_of_some _ (Heap.get?_push_of_some _ (Heap.get?_push_of_some _ e))))
  show _ ∧ _
  rw [z2, z3, z4] at g5
  rw [z1, z2] at g3
  rw [z3] at g4
  rw [z1] at g2
  rw [z4]
  have hlt : l < s.heap.objs.size := by obtain ⟨_, e, _⟩ := hl; exact Heap.lt_size e
  have hLlt : L < s.heap.objs.size := Fm.ns.lt
  have hlL : l ≠ L := by
    rintro rfl
    obtain ⟨o, e, _, n, hd⟩ := hl
    obtain ⟨o', es, ep, e', hd', _⟩ := Fm.ns
    rw [e] at e'
    cases e'
    rw [hd] at hd'
    cases hd'
  obtain ⟨S2, D2, st2⟩ := strIter_draws (prog := prg) (w := w) (A := A.in1) hh (s.heap.objs.size + 1) x t
  have D1 := Draws.list (prog := prg) (w := w) (A := A.in1) hh s.heap.objs.size l (Nat.ne_of_lt hlt) vs.toArray
  have O := zoff s.heap.objs.size l hlt
  have W := zipD_walks O D1 D2
  have hlt' : @LT.lt Nat instLTNat l s.heap.objs.size := hlt
  have hLlt' : @LT.lt Nat instLTNat L s.heap.objs.size := hLlt
  have fresh : ∀ b, s.heap.objs.size ≤ b → h₀.get? b = none := fun b hb => by
    cases q : h₀.get? b with
    | none => rfl
    | some o => exact absurd (Heap.lt_size (Fm.keep _ _ q)) (Nat.not_lt.mpr hb)
  have e0 : min vs.toArray.size x.cps.size = min vs.length x.cps.size := by simp
  rw [e0] at W
  refine ⟨⟨_, g5, rfl⟩, h (s.heap.objs.size + 4) _ _ _ _ (zE s.heap l x t) W ⟨g5, g3, ⟨_, _, g4⟩, ⟨⟨_, g1, rfl, rfl⟩, hl.at fun o e => kp _ o e⟩, st2 _ g2⟩ ?_ ?_ ?_ ?_
    ⟨Fm.ns.keeps kp, fun b o e => kp b o (Fm.keep b o e), Fm.above⟩ (fun p hp => ⟨kp _ _ (N p hp).1, (N p hp).2⟩)⟩
  · intro b hb
    rw [z5]
    show @LT.lt Nat instLTNat b _
    simp only [List.mem_cons, List.mem_append, List.not_mem_nil, or_false] at hb
    rcases hb with rfl | rfl | rfl | (rfl | rfl) | rfl <;> lia
  · intro hb
    simp only [List.mem_cons, List.mem_append, List.not_mem_nil, or_false] at hb
    rcases hb with q | q | q | (q | q) | q
    · have q2 : @Eq Nat _ _ := q
      lia
    · have q2 : @Eq Nat _ _ := q
      lia
    · have q2 : @Eq Nat _ _ := q
      lia
    · have q2 : @Eq Nat _ _ := q
      lia
    · exact hlL q.symm
    · have q2 : @Eq Nat _ _ := q
      lia
  · intro b hb
    simp only [List.mem_cons, List.not_mem_nil, or_false] at hb
    rcases hb with rfl | rfl | rfl | rfl <;> exact fresh _ (by show @LE.le Nat instLENat _ _; lia)
  · intro p hp hb
    have q1 : @LT.lt Nat instLTNat p.1 s.heap.objs.size := Heap.lt_size (N p hp).1
    simp only [List.mem_cons, List.not_mem_nil, or_false] at hb
    rcases hb with q | q | q | q <;> (have q2 : @Eq Nat _ _ := q) <;> lia
end
end Mine
namespace Mine
noncomputable def plainE : Expr → Bool | .Starred .. => false | _ => true
theorem starE {e : Expr} {rest : List Expr} {env : Env} (hp : plainE e = true) : starEach (e :: rest) env = (false, eval e env) :: starEach rest env := by cases e <;> first | rfl | cases hp
theorem anyE {env : Env} {pos : Pos} : ∀ {es : List Expr}, es.all plainE = true → (backTo pos (starEach es env)).any (·.1) = false
  | [], _ => rfl
  | e :: r, h => by
    rw [List.all_cons, Bool.and_eq_true] at h
    rw [starE h.1]
    show (false || (backTo pos (starEach r env)).any (·.1)) = false
    rw [anyE h.2]; rfl
section
variable {M : Model} {A : Around} {E : Value → Shared → Prop} {s : Shared} {env : Env} {pos : Pos}
theorem arg {e : Expr} {rest : List Expr} {Q : List Value → Shared → Prop} (h : wpAny M A (eval e env) (fun v s₁ => wpAny M A (spliced (backTo pos (starEach rest env))) (fun vs s₂ => Q (v :: vs) s₂) E s₁) E s) (hp : plainE e = true := by rfl) :
    wpAny M A (spliced (backTo pos (starEach (e :: rest) env))) Q E s := args_cons h (starE hp)
/-- a call by a name; the name's value is a built-in, a type -/
theorem callB {func e : Expr} {rest : List Expr} {id : String} {Q : Value → Shared → Prop} (hf : ∀ Q' : Value → Shared → Prop, Q' (.builtin id) s → wpAny M A (eval func env) Q' E s)
    (h : wpAny M A (spliced (backTo pos (starEach (e :: rest) env))) (fun vs s₁ => wpAny M A (call (.builtin id) vs) Q E s₁) E s) (hp : (e :: rest).all plainE = true := by rfl)
    (he : eval (.Call func (e :: rest) [] pos) env = (do callWith pos (← eval func env) [] (backTo pos (starEach (e :: rest) env)) (backToKw pos (keywordEach [] env))) := by rfl) : wpAny M A (eval (.Call func (e :: rest) [] pos) env) Q E s := by
  refine Call_ (hf _ ?_) he
  have h2 := hp
  rw [List.all_cons, Bool.and_eq_true] at h2
  exact callWith_builtin1 h (starE h2.1) (anyE h2.2)
theorem callT {func e : Expr} {rest : List Expr} {T : String} {Q : Value → Shared → Prop} (hf : ∀ Q' : Value → Shared → Prop, Q' (.type T) s → wpAny M A (eval func env) Q' E s)
    (h : wpAny M A (spliced (backTo pos (starEach (e :: rest) env))) (fun vs s₁ => wpAny M A (call (.type T) vs) Q E s₁) E s) (hp : (e :: rest).all plainE = true := by rfl)
    (he : eval (.Call func (e :: rest) [] pos) env = (do callWith pos (← eval func env) [] (backTo pos (starEach (e :: rest) env)) (backToKw pos (keywordEach [] env))) := by rfl) : wpAny M A (eval (.Call func (e :: rest) [] pos) env) Q E s := by
  refine Call_ (hf _ ?_) he
  have h2 := hp
  rw [List.all_cons, Bool.and_eq_true] at h2
  exact PyProof.Rows.callWith_type1 h (starE h2.1) (anyE h2.2)
end
/-! the library's rules at a state that is written out, so that states do not grow -/
theorem newsTail {h₀ h : Heap} {L : Addr} {p : Addr × Obj} {news : List (Addr × Obj)} (N : News h₀ L h (p :: news)) : News h₀ L h news := fun q hq => N q (List.mem_cons_of_mem _ hq)
section
variable {w : World} {A : Around} {E : Value → Shared → Prop} {h : Heap} {g : Array GenState} {d : Drawn} {k : Nat} {o : OsState} {name : Str} {sc : Scope} {L a : Addr} {cd : Value} {cl : List (Str × Addr)} {h₀ : Heap} {vals : List (Option Value)}
  {m : Str → Option Value} {mg mb : Str → Option Value} {ad : Nat → Addr} {news : List (Addr × Obj)} {env : Env}

theorem enterS {A : Around} {R : Result → Shared → Prop} (i : Nat) {args : List Value} (ps rest : List Str) (l : Lib ad mg mb h) (hi : i ∈ fnIdx) (ok : ScOk (dScope i)) (hroom : A.depth < recursionLimit)
    (hn : nms (dScope i) = ps ++ rest) (hps : (dArgs i).args.map (·.arg) = ps) (hlen : ps.length = args.length)
    (hbind : ∀ pm cd doc, bindArgs (docDef (dName i) (dArgs i) (dBody i) (dScope i) pm cd doc) ⟨args, []⟩ = pure (((dArgs i).args.map (·.arg)).zip args))
    (hcell : ∀ x ∈ (dScope i).names, x.2 ≠ .cell) (hloc : ∀ x ∈ ps, (dScope i).names.lookup x = some .local)
    (q : ∀ L cd h₁ k', h.objs.size ≤ L → Fr h L h₁ (locs (nms (dScope i)) (args.map some ++ rest.map fun _ => none)) → News h L h₁ [] →
      wpAny (model prg w) (A.deeper (envX (dName i) (dScope i) L (ad i) cd [])) (execs (dBody i) (envX (dName i) (dScope i) L (ad i) cd []))
        (fun f s' => R (.ok (.ret (match f with | .ret v => v | _ => .none))) s') (fun _ _ => False) ⟨h₁, g, d, k', o⟩) :
    codeAny (model prg w) A (.call (.ref (ad i)) ⟨args, []⟩) R ⟨h, g, d, k, o⟩ :=
  enter i ps rest l hi ok hroom hn hps hlen hbind hcell hloc fun cd h₁ tk F => q _ cd h₁ tk (Nat.le_refl _) F News.nil

theorem stS {x : Str} {v : Value} {Q : Unit → Shared → Prop} (i : Nat) (vals' : List (Option Value)) (ok : ScOk sc) (F : Fr h₀ L h (locs (nms sc) vals)) (N : News h₀ L h news) (hi : sc.names[i]? = some (x, .local)) (hl : i < vals.length) (hv : vals.set i (some v) = vals')
    (q : ∀ h' k', Fr h₀ L h' (locs (nms sc) vals') → News h₀ L h' news → Q () ⟨h', g, d, k', o⟩) : wpAny (model prg w) A (storeName (envX name sc L a cd cl) x v) Q E ⟨h, g, d, k, o⟩ :=
  stl i ok F N hi hl fun h' F' N' => q h' _ (hv ▸ F') N'
theorem cInt {i : Int} {c pos} {Q : Value → Shared → Prop} (q : ∀ t k', Q (.int i t) ⟨h, g, d, k', o⟩) : wpAny (model prg w) A (eval (.Constant (.int i) c pos) env) Q E ⟨h, g, d, k, o⟩ := wpAny_Constant_int (q _ _)
theorem cStr {x : Str} {c pos} {Q : Value → Shared → Prop} (q : ∀ t k', Q (.str x t) ⟨h, g, d, k', o⟩) : wpAny (model prg w) A (eval (.Constant (.str x) c pos) env) Q E ⟨h, g, d, k, o⟩ := wpAny_Constant_str (q _ _)
theorem addI {x y : Int} {t u : Tok} {Q : Value → Shared → Prop} (q : ∀ t k', Q (.int (x + y) t) ⟨h, g, d, k', o⟩) : wpAny (model prg w) A (binaryOp .Add (.int x t) (.int y u)) Q E ⟨h, g, d, k, o⟩ := add_int (q _ _)
theorem subI {x y : Int} {t u : Tok} {Q : Value → Shared → Prop} (q : ∀ t k', Q (.int (x - y) t) ⟨h, g, d, k', o⟩) : wpAny (model prg w) A (binaryOp .Sub (.int x t) (.int y u)) Q E ⟨h, g, d, k, o⟩ := sub_int (q _ _)
theorem lenLS {l : Addr} {vs : List Value} {Q : Value → Shared → Prop} (hl : h.IsList l vs.toArray) (hb : vs.length ≤ 1000000) (q : ∀ t k', Q (.int vs.length t) ⟨h, g, d, k', o⟩) :
    wpAny (model prg w) A (call (.builtin "len") [.ref l]) Q E ⟨h, g, d, k, o⟩ := lenL hl hb q
theorem lenSS {x : Str} {t : Tok} {Q : Value → Shared → Prop} (hb : x.length ≤ 1000000) (q : ∀ t k', Q (.int x.length t) ⟨h, g, d, k', o⟩) :
    wpAny (model prg w) A (call (.builtin "len") [.str x t]) Q E ⟨h, g, d, k, o⟩ := lenS hb q
theorem newListS {vs : List Value} {Q : Value → Shared → Prop} (F : Fr h₀ L h m) (N : News h₀ L h news)
    (q : ∀ D h', Kp h h' → Fr h₀ L h' m → News h₀ L h' ((D, lstO vs.toArray 0) :: news) → (∀ p ∈ news, p.1 ≠ D) → Q (.ref D) ⟨h', g, d, k, o⟩) (hsz : vs.length ≤ sizeLine := by size_fits) :
    wpAny (model prg w) A (newList vs) Q E ⟨h, g, d, k, o⟩ :=
  wpAny_newObj_type (q h.objs.size _ (fun _ _ e => Heap.get?_push_of_some _ e) (F.push _) (N.push F _) fun p hp e => absurd (Heap.lt_size (N p hp).1) (by rw [e]; exact Nat.lt_irrefl _)) (by show vs.toArray.size ≤ sizeLine; rw [List.size_toArray]; exact hsz)
theorem newTupS {vs : List Value} {Q : Value → Shared → Prop} (F : Fr h₀ L h m) (N : News h₀ L h news)
    (q : ∀ D h', Kp h h' → Fr h₀ L h' m → News h₀ L h' ((D, { cls := .type "tuple", data := .seq vs.toArray }) :: news) → (∀ p ∈ news, p.1 ≠ D) → Q (.ref D) ⟨h', g, d, k, o⟩) (hsz : vs.length ≤ sizeLine := by size_fits) :
    wpAny (model prg w) A (newTuple vs) Q E ⟨h, g, d, k, o⟩ :=
  wpAny_newObj_type (q h.objs.size _ (fun _ _ e => Heap.get?_push_of_some _ e) (F.push _) (N.push F _) fun p hp e => absurd (Heap.lt_size (N p hp).1) (by rw [e]; exact Nat.lt_irrefl _)) (by show vs.toArray.size ≤ sizeLine; rw [List.size_toArray]; exact hsz)
/-- a text's slice -/
theorem sliceSub {value : Expr} {lower upper : Option Expr} {p pos : Pos} {Q : Value → Shared → Prop}
    (q : wpAny (model prg w) A (eval value env) (fun v s₁ => wpAny (model prg w) A (evalPart lower env) (fun a s₂ => wpAny (model prg w) A (evalPart upper env) (fun b s₃ =>
      wpAny (model prg w) A (subscriptTail value (.Slice lower upper none p) v (.ref s₃.heap.objs.size)) Q E { s₃ with heap := s₃.heap.push { cls := .type "slice", data := .fields #[a, b, .none] } }) E s₂) E s₁) E ⟨h, g, d, k, o⟩) :
    wpAny (model prg w) A (eval (.Subscript value (.Slice lower upper none p) pos) env) Q E ⟨h, g, d, k, o⟩ :=
  Subscript_ (wpAny_mono q (fun _ _ h₁ => wpAny_Slice (wpAny_mono h₁ (fun _ _ h₂ => wpAny_mono h₂ (fun _ _ h₃ => wpAny_evalPart_none h₃) fun _ _ e => e) fun _ _ e => e)) fun _ _ e => e)
theorem slFrom {value slice : Expr} {x : Str} {t : Tok} {i : Int} {ui : Tok} {Q : Value → Shared → Prop} (F : Fr h₀ L h m) (N : News h₀ L h news) (q : ∀ h' t' k', Fr h₀ L h' m → News h₀ L h' news → Q (.str (Txt.slice x (some i) none) t') ⟨h', g, d, k', o⟩)
    (hsz : x.length ≤ 1000000)
    (hs : subscripted slice false (.str x t) (.ref h.objs.size) = operate [.ref h.objs.size, .str x t] (getItem (.str x t) (.ref h.objs.size)) := by with_unfolding_all rfl)
    (ht : ∀ r, letTemporaryGo value (.str x t) r = pure () := by intro _; with_unfolding_all rfl) :
    wpAny (model prg w) A (subscriptTail value slice (.str x t) (.ref h.objs.size)) Q E ⟨h.push { cls := .type "slice", data := .fields #[.int i ui, .none, .none] }, g, d, k, o⟩ :=
  slice_strN_sn (s := ⟨h, g, d, k, o⟩) F N (fun h' t' k' F' N' => q h' t' k' F' N') hs ht (by rw [sizeLine]; lia)
theorem useS {kf df : Nat} {vs : List Value} {Pre : Heap → Prop} {Post : Heap → Value → Prop} {Q : Value → Shared → Prop} (C : FnC w ad mg mb kf vs df Pre Post) (hh : A.handled = none) (hd : A.depth + df < recursionLimit) (hu : A.units + 8 * df < cLine)
    (l : Lib ad mg mb h₀) (F : Fr h₀ L h m) (N : News h₀ L h news) (pre : Pre h)
    (q : ∀ v h' k', Fr h₀ L h' m → News h₀ L h' news → Kp h h' → Post h' v → Q v ⟨h', g, d, k', o⟩) : wpAny (model prg w) A (call (.ref (ad kf)) vs) Q E ⟨h, g, d, k, o⟩ :=
  useFn C hh hd hu l F N pre q
theorem zipS {l : Addr} {x : Str} {t : Tok} {vs : List Value} {Q : Value → Shared → Prop} (hh : A.handled = none) (hl : h.IsList l vs.toArray) (Fm : Fr h₀ L h m) (N : News h₀ L h news)
    (q : ∀ z fp wr St Mid h', WalksT prg w A z fp wr (min vs.length x.cps.size) (fun i ab => ∃ a b, vs.toArray[i]? = some a ∧ SignAt x i b ∧ ab = #[a, b]) St Mid → St 0 h' → (∀ b ∈ fp, b < h'.objs.size) → L ∉ fp → (∀ b ∈ wr, h₀.get? b = none) →
      (∀ p ∈ news, p.1 ∉ wr) → Fr h₀ L h' m → News h₀ L h' news → Q (.ref z) ⟨h', g, d, k, o⟩) :
    wpAny (model prg w) A (call (.type "zip") [.ref l, .str x t]) Q E ⟨h, g, d, k, o⟩ := zip_ls hh hl Fm N q
theorem ldC {x : Str} {pos : Pos} {v : Value} {C : Addr} {mc : Str → Option Value} {Q : Value → Shared → Prop} (hk : sc.kind = .function) (hx : sc.names.lookup x = some .local) (hn : h.Ns C mc) (hv : mc x = some v) (q : Q v ⟨h, g, d, k, o⟩)
    (hd : (x == ("__debug__" : Str)) = false := by decide) : wpAny (model prg w) A (eval (.Name x pos) (compEnvC sc cl C env)) Q E ⟨h, g, d, k, o⟩ :=
  wpAny_Name (wpAny_loadName_local (env := compEnvC sc cl C env) hk (lookup_relabel_local hx) hn hv q) hd
theorem evalCompS {elt target iter : Expr} {ifs : List Expr} {more : List Comprehension} {scope : Scope} {cl : List (Str × Addr)} {pos : Pos} {Q : Value → Shared → Prop} (_F : Fr h₀ L h m)
    (hclos : closureFor scope env = pure cl) (hcell : ∀ y ∈ scope.names, y.2 ≠ .cell) (hkind : scope.kind = .function) (hnames : ∀ y ∈ scope.names, y.2 = .local → scope.names.lookup y.1 = some .local)
    (q : wpAny (model prg w) A (eval iter env) (fun xv s₁ => wpAny (model prg w) A (pyIter xv) (fun it s₂ => ∃ Fin, CompAt prg w A env elt (⟨target, iter, ifs, 0⟩ :: more) scope cl pos h₀ L m Fin it s₂ ∧ L < s₂.heap.objs.size ∧
      ∀ D h' tk' news, Fr h₀ L h' m → News h₀ L h' news → Fin D news → Q (.ref D) { s₂ with heap := h', toks := tk' }) E s₁) E ⟨h, g, d, k, o⟩)
    (hs : ∀ x, foldedSetIterable iter env x = pure x := by intro _; rfl) : wpAny (model prg w) A (eval (.ListComp elt (⟨target, iter, ifs, 0⟩ :: more) scope pos) env) Q E ⟨h, g, d, k, o⟩ :=
  evalComp hclos hcell hkind hnames q hs
theorem itemS {value slice : Expr} {l : Addr} {vs : List Value} {i : Nat} {u : Tok} {x : Value} {Q : Value → Shared → Prop} (hl : h.IsList l vs.toArray) (hfit : i < 1000000) (hx : vs[i]? = some x) (q : Q x ⟨h, g, d, k, o⟩)
    (hs : subscripted slice false (.ref l) (.int i u) = operate [.ref l, .int i u] (getItem (.ref l) (.int i u)) := by with_unfolding_all rfl) (hg : ∀ r, letTemporaryGo value (.ref l) r = pure () := by intro _; with_unfolding_all rfl) :
    wpAny (model prg w) A (subscriptTail value slice (.ref l) (.int i u)) Q E ⟨h, g, d, k, o⟩ := item_listL hl (by lia) (by lia) (by simpa using hx) q hs hg
theorem itemLastS {value slice : Expr} {l : Addr} {vs : List Value} {u : Tok} {x : Value} {Q : Value → Shared → Prop} (hl : h.IsList l vs.toArray) (hne : vs ≠ []) (hx : vs[vs.length - 1]? = some x) (q : Q x ⟨h, g, d, k, o⟩)
    (hs : subscripted slice false (.ref l) (.int (-1) u) = operate [.ref l, .int (-1) u] (getItem (.ref l) (.int (-1) u)) := by with_unfolding_all rfl) :
    wpAny (model prg w) A (subscriptTail value slice (.ref l) (.int (-1) u)) Q E ⟨h, g, d, k, o⟩ := by
  have hp : 0 < vs.length := List.length_pos_iff.mpr hne
  refine kde_neg (j := vs.length - 1) hl (by lia) (by lia) ?_ hx q hs
  rw [seqIndex_back (by lia) (by lia)]
  congr 1
  lia
theorem minusI {x : Int} {t : Tok} {Q : Value → Shared → Prop} (q : ∀ t k', Q (.int (-x) t) ⟨h, g, d, k', o⟩) : wpAny (model prg w) A (unaryOp .USub (.int x t)) Q E ⟨h, g, d, k, o⟩ := PyProof.Rows.neg_int (q _ _)
theorem iaddI {x y : Int} {t u : Tok} {Q : Value → Shared → Prop} (q : ∀ t k', Q (.int (x + y) t) ⟨h, g, d, k', o⟩) : wpAny (model prg w) A (inplaceOp .Add (.int x t) (.int y u)) Q E ⟨h, g, d, k, o⟩ := PyProof.Rows.iadd_int (q _ _)
theorem sliceLS {value slice : Expr} {l : Addr} {items : Array Value} {vl vu : Value} {lo hi : Option Int} {Q : Value → Shared → Prop}
    (F : Fr h₀ L h m) (N : News h₀ L h news) (hl : h.IsList l items) (pl : IsPart vl lo) (pu : IsPart vu hi) (hsz : items.size ≤ 1000000)
    (q : ∀ D h', Kp h h' → Fr h₀ L h' m → News h₀ L h' ((D, lstO (slicePick items lo hi none) 0) :: news) → (∀ p ∈ news, p.1 ≠ D) → Q (.ref D) ⟨h', g, d, k, o⟩)
    (hs : subscripted slice false (.ref l) (.ref h.objs.size) = operate [.ref h.objs.size, .ref l] (getItem (.ref l) (.ref h.objs.size)) := by with_unfolding_all rfl)
    (ht : ∀ r, letTemporaryGo value (.ref l) r = pure () := by intro _; with_unfolding_all rfl) :
    wpAny (model prg w) A (subscriptTail value slice (.ref l) (.ref h.objs.size)) Q E ⟨h.push { cls := .type "slice", data := .fields #[vl, vu, .none] }, g, d, k, o⟩ := by
  refine subscriptTail_ops (Heap.IsList.typeIs (s := ⟨h.push { cls := .type "slice", data := .fields #[vl, vu, .none] }, g, d, k, o⟩) (hl.push _)) list_getitem_lookup
    (wpAny_getItem_list_slice (s := ⟨h.push { cls := .type "slice", data := .fields #[vl, vu, .none] }, g, d, k, o⟩) (hl.push _) (Heap.IsSliceOf.new ..) pl pu .none (by first | exact Nat.le_of_ble_eq_true rfl | (repeat (first | exact .head _ | apply List.Mem.tail)); done | simp) ?_ (by rw [sizeLine]; lia)) hs ht
  refine q _ _ (fun _ _ e => Heap.get?_push_of_some _ (Heap.get?_push_of_some _ e)) ((F.push _).push _) (News.push (F.push _) (newsTail (N.push F _)) _) fun p hp e => ?_
  have := Heap.lt_size (N p hp).1
  rw [e, Heap.size_push] at this
  exact absurd this (Nat.not_lt.mpr (Nat.le_succ _))
theorem callF {M : Model} {s : Shared} {pos : Pos} {kf : Nat} {func e : Expr} {rest : List Expr} {Q : Value → Shared → Prop} (l : Lib ad mg mb h₀) (hk : kf ∈ fnIdx) (hf : ∀ Q' : Value → Shared → Prop, Q' (.ref (ad kf)) s → wpAny M A (eval func env) Q' E s)
    (q : wpAny M A (spliced (backTo pos (starEach (e :: rest) env))) (fun vs s₁ => Kp h₀ s₁.heap ∧ wpAny M A (call (.ref (ad kf)) vs) Q E s₁) E s) (hp : (e :: rest).all plainE = true := by rfl)
    (he : eval (.Call func (e :: rest) [] pos) env = (do callWith pos (← eval func env) [] (backTo pos (starEach (e :: rest) env)) (backToKw pos (keywordEach [] env))) := by rfl) : wpAny M A (eval (.Call func (e :: rest) [] pos) env) Q E s := by
  refine Call_ (hf _ ?_) he
  have h2 := hp
  rw [List.all_cons, Bool.and_eq_true] at h2
  exact callD l hk q (starE h2.1)
theorem isList_ne_L {l : Addr} {items : Array Value} (F : Fr h₀ L h m) (hl : h.IsList l items) : l ≠ L := by
  rintro rfl
  obtain ⟨o, e, _, n, hd⟩ := hl
  obtain ⟨o', es, ep, e', hd', _⟩ := F.ns
  rw [e] at e'
  cases e'
  rw [hd] at hd'
  cases hd'
theorem iterLS {l : Addr} {vs : List Value} {Q : Value → Shared → Prop} (hh : A.handled = none) (F : Fr h₀ L h m) (N : News h₀ L h news) (hl : h.IsList l vs.toArray)
    (q : ∀ I h', Walks prg w A I [I, l] [I] vs.length (fun i v => vs[i]? = some v) (fun i h => h.IsListIter I l i ∧ h.IsList l vs.toArray) → (h'.IsListIter I l 0 ∧ h'.IsList l vs.toArray) → L ∉ [I, l] → (∀ b ∈ [I], h₀.get? b = none) →
      (∀ p ∈ news, p.1 ∉ [I]) → (∀ b ∈ [I, l], b < h'.objs.size) → Fr h₀ L h' m → News h₀ L h' news → Kp h h' → Q (.ref I) ⟨h', g, d, k, o⟩) :
    wpAny (model prg w) A (pyIter (.ref l)) Q E ⟨h, g, d, k, o⟩ := by
  refine wpAny_pyIter_list hl ?_
  have hlt : @LT.lt Nat instLTNat l h.objs.size := by obtain ⟨_, e, _⟩ := hl; exact Heap.lt_size e
  have hLt : @LT.lt Nat instLTNat L h.objs.size := F.ns.lt
  have W := Walks.list (prog := prg) (w := w) (A := A) hh h.objs.size l (Nat.ne_of_lt hlt) vs.toArray
  rw [List.size_toArray] at W
  have W' : Walks prg w A h.objs.size [h.objs.size, l] [h.objs.size] vs.length (fun i v => vs[i]? = some v) (fun i h' => h'.IsListIter h.objs.size l i ∧ h'.IsList l vs.toArray) := by
    refine ⟨W.sub, W.frame, fun i s Q E hi hst hq => W.item i s Q E hi hst fun v h' tk hv => hq v h' tk (by simpa using hv), W.done, W.self⟩
  refine q h.objs.size _ W' ⟨⟨_, Heap.get?_push_size _ rfl, rfl, rfl⟩, hl.push _⟩ ?_ ?_ ?_ ?_ (F.push _) (fun p hp => ⟨Heap.get?_push_of_some _ (N p hp).1, (N p hp).2⟩) (fun _ _ e => Heap.get?_push_of_some _ e)
  · exact notMem2 (Nat.ne_of_lt hLt) (isList_ne_L F hl).symm
  · intro b hb
    rw [List.mem_singleton.mp hb]
    cases q : h₀.get? h.objs.size with
    | none => rfl
    | some o => exact absurd (Heap.lt_size (F.keep _ _ q)) (Nat.lt_irrefl _)
  · exact fun p hp => notMem1 (Nat.ne_of_lt (Heap.lt_size (N p hp).1))
  · intro b hb
    rw [Heap.size_push]
    rcases List.mem_cons.mp hb with rfl | hb
    · exact Nat.lt_succ_self _
    · rw [List.mem_singleton.mp hb]; exact Nat.lt_succ_of_lt hlt
theorem listIter_alive {I l : Addr} {vs : List Value} : ∀ (i : Nat) (h : Heap), (h.IsListIter I l i ∧ h.IsList l vs.toArray) → ∀ b ∈ [I], ∃ o, h.get? b = some o := fun i h st b hb => by
  rw [List.mem_singleton.mp hb]
  obtain ⟨⟨o, e, _⟩, _⟩ := st
  exact ⟨o, e⟩
theorem Keeps.mk' {h' : Heap} {k' : Nat} (kp : Kp h h') : Keeps ⟨h, g, d, k, o⟩ ⟨h', g, d, k', o⟩ := ⟨h', k', rfl, kp⟩
end
end Mine
namespace Mine

noncomputable abbrev one (c : Nat) : Str := ⟨#[c]⟩
/-- a piece at the start of the signs -/
noncomputable def fitsAt : List Str → List Nat → Bool
  | [], _ => true
  | _ :: _, [] => false
  | p :: ps, c :: cs => (p == Str.empty || p == one c) && fitsAt ps cs
noncomputable def fits (ps : List Str) (x : Str) (pl : Nat) : Bool := decide (pl + ps.length ≤ x.length) && fitsAt ps (x.cps.toList.drop pl)

theorem fitsAt_iff : ∀ (ps : List Str) (cs : List Nat), ps.length ≤ cs.length → (fitsAt ps cs = true ↔ ∀ (j : Nat) (p : Str) (c : Nat), ps[j]? = some p → cs[j]? = some c → (p == Str.empty || p == one c) = true)
  | [], _, _ => by simp [fitsAt]
  | _ :: _, [], h => by simp at h
  | p :: ps, c :: cs, h => by
    have ih := fitsAt_iff ps cs (by simpa using h)
    simp only [fitsAt, Bool.and_eq_true, ih]
    constructor
    · rintro ⟨h1, h2⟩ j q d hq hd
      cases j with
      | zero => simp at hq hd; subst hq hd; simpa using h1
      | succ j => exact h2 j q d (by simpa using hq) (by simpa using hd)
    · intro h1
      exact ⟨by simpa using h1 0 p c rfl rfl, fun j q d hq hd => h1 (j + 1) q d (by simpa using hq) (by simpa using hd)⟩

theorem sc20 : ScOk (dScope 20) := .of (by decide +kernel)

theorem slice_from {x : Str} {i : Nat} (h : i ≤ x.length) : Txt.slice x (some (i : Int)) none = ⟨(x.cps.toList.drop i).toArray⟩ := by
  rw [slice_from_eq (b := (x.length : Int)) (by lia) (by lia) rfl]
  congr 1
  congr 1
  rw [List.take_of_length_le]
  · simp
  · simp [Str.length]

noncomputable def okAt (ps : List Str) (cs : List Nat) (j : Nat) : Prop := ∀ (p : Str) (c : Nat), ps[j]? = some p → cs[j]? = some c → (p == Str.empty || p == one c) = true
noncomputable def eStr (p : Str) (y : Value) : Bool := match y with | .str b _ => b == p | _ => false

set_option maxHeartbeats 4000000 in
theorem fits_c {w : World} {ad : Nat → Addr} {mg mb : Str → Option Value} (ps : List Str) (x : Str) (pl : Nat) (pa : Addr) (tx tp : Tok) (hp : ps.length ≤ 1000) (hx : x.length ≤ 1000) (hpl : pl ≤ 1000) :
    FnC w ad mg mb 20 [.ref pa, .str x tx, .int pl tp] 3 (fun h => ∃ vs, h.IsList pa vs.toArray ∧ StrsAre vs ps) (fun _ v => v = .bool (fits ps x pl)) := by
  rintro ⟨hd0, dp, fr, gd, un⟩ ⟨h, g, d, k, o⟩ R hh hd hu l ⟨vs, hl, hs⟩ hR
  dsimp only at hh hd hu hl hR
  subst hh
  have hlen : vs.length = ps.length := hs.len_eq
  have ok := sc20
  refine enterS 20 ["piece", "name", "place"] _ l (by decide) ok (by show dp < _; lia) (by with_unfolding_all rfl) (by with_unfolding_all rfl) rfl (fun _ _ _ => rfl) (by decide +kernel) (by decide +kernel) (fun L cd h₁ k₁ hL F N => ?_)
  refine hideA ?_
  intro AHid
  refine wpAny_execs_cons (hideLet ?_)
  intro PHid
  refine wpAny_If (wpAny_isTrue_Compare1 (wpAny_BinOp ?_))
  refine ldl 2 ok F rfl rfl ?_
  refine callB (fun Q' q => ldb 3 ok l F rfl (by decide) boot_len q) (arg (ldl 0 ok F rfl rfl (args_nil ?_)))
  refine lenLS (hl.at fun o e => F.keep _ o e) (by lia) (fun t1 k1 => ?_)
  refine addI fun t2 k2 => ?_
  refine callB (fun Q' q => ldb 3 ok l F rfl (by decide) boot_len q) (arg (ldl 1 ok F rfl rfl (args_nil ?_)))
  refine lenSS (by lia) (fun t3 k3 => ?_)
  refine gt_int (wpAny_truthy_bool ?_)
  by_cases hc : (pl : Int) + vs.length > x.length
  · rw [decide_eq_true hc]
    refine ite_tt ?_
    refine wpAny_execs_cons (hideLet ?_)
    intro PHid
    refine wpAny_Return_some (Constant_bool ?_)
    refine hR _ _ _ F.keep ?_
    show Value.bool false = Value.bool (fits ps x pl)
    rw [fits, decide_eq_false (by lia)]
    rfl
  · rw [decide_eq_false hc]
    refine ite_ff (wpAny_execs_nil ?_)
    refine wpAny_execs_cons (hideLet ?_)
    intro PHid
    refine wpAny_Return_some (wpAny_Compare1 ?_)
    have hpx : pl + ps.length ≤ x.length := by lia
    refine evalCompS F (closureFor_none (by decide)) (by decide) rfl (by decide) (callT (fun Q' q => ldb 4 ok l F rfl (by decide) boot_zip q) ?_)
    refine arg ?_
    refine ldl 0 ok F rfl rfl ?_
    refine arg ?_
    refine sliceSub ?_
    refine ldl 1 ok F rfl rfl ?_
    refine evalPart_some_step ?_
    refine ldl 2 ok F rfl rfl ?_
    refine evalPart_none_step ?_
    refine slFrom F N (fun h₂ t4 k4 F2 N2 => args_nil ?_) (by lia)
    refine zipS rfl (hl.at fun o e => F2.keep _ o e) F2 N2 (fun z fp wr St Mid h₃ W hst hfp hLf hwr hnw F3 N3 => ?_)
    refine W.self 0 _ _ _ hst ?_
    rw [slice_from (by lia)] at W
    generalize hcs : x.cps.toList.drop pl = cs at W
    have hcl : ps.length ≤ cs.length := by rw [← hcs]; simp [Str.length] at hpx; simp; lia
    have hn : min vs.length (⟨cs.toArray⟩ : Str).cps.size = ps.length := by simp; lia
    rw [hn] at W
    refine ⟨_, compAtT (fun i ys => ys.length ≤ i ∧ (ys = [] ↔ ∀ j, j < i → okAt ps cs j)) rfl W (by decide) (by decide) rfl hst hfp hLf hwr hnw F3 N3 ⟨Nat.le_refl _, by simp⟩ (fun i ys h1 h2 => by rw [sizeLine]; lia) ?_ ?_, F3.ns.lt, ?_⟩
    · rintro i ab ⟨a, b, _, _, e⟩
      exact ⟨a, b, e⟩
    · rintro E' i a b C h₄ k4 mc ys hi ⟨a', b', ha, hb, e⟩ ⟨hy1, hy2⟩ hC hnC F4 N4
      obtain ⟨rfl, rfl⟩ : a = a' ∧ b = b' := by simpa using e
      obtain ⟨c, u, hcc, rfl⟩ := hb
      have hpi : i < ps.length := hi
      obtain ⟨tq, hq⟩ := hs.at (j := i) (List.getElem?_eq_getElem hpi)
      have ha' : a = .str ps[i] tq := by
        have : vs[i]? = some a := by simpa using ha
        rw [hq] at this
        exact (Option.some.inj this).symm
      subst ha'
      have hcc' : cs[i]? = some c := by simpa using hcc
      have step : (∀ j, j < i + 1 → okAt ps cs j) ↔ (∀ j, j < i → okAt ps cs j) ∧ (ps[i] == Str.empty || ps[i] == one c) = true := by
        constructor
        · intro q
          exact ⟨fun j hj => q j (by lia), q i (by lia) _ _ (List.getElem?_eq_getElem hpi) hcc'⟩
        · rintro ⟨q1, q2⟩ j hj
          rcases Nat.lt_or_eq_of_le (Nat.le_of_lt_succ hj) with h1 | rfl
          · exact q1 j h1
          · intro p c' hp' hc'
            rw [List.getElem?_eq_getElem hpi] at hp'
            rw [hcc'] at hc'
            cases hp'; cases hc'
            exact q2
      show wpAny _ _ _ _ _ _
      refine wpAny_tests_one (wpAny_isTrue_Compare1 (ldC rfl (by decide) hnC (by rw [if_neg (by decide), if_pos rfl]) ?_))
      refine Tuple_ (arg (cStr fun t5 k5 => arg (ldC rfl (by decide) hnC (by rw [if_pos rfl]) (args_nil ?_))))
      refine newTupS F4 N4 (fun T h₅ kp F5 N5 hT => ?_)
      have htup : h₅.IsTuple T #[.str Str.empty t5, .str (one c) u] := ⟨_, N5.get List.mem_cons_self, rfl, _, rfl⟩
      refine PySem.SeqAt.notIn_tupleAt (eStr ps[i]) htup ?_ (wpAny_truthy_bool ?_)
      · intro y hy
        simp only [List.mem_toArray, List.mem_cons, List.not_mem_nil, or_false, Array.mem_def] at hy
        rcases hy with rfl | rfl
        · exact PySem.SeqAt.EqAt.str_str _ _ _ _
        · exact PySem.SeqAt.EqAt.str_str _ _ _ _
      · have hv : (!(#[.str Str.empty t5, .str (one c) u] : Array Value).any (eStr ps[i])) = !(ps[i] == Str.empty || ps[i] == one c) := by
          simp [eStr, Bool.beq_comm]
        rw [hv]
        refine ⟨Keeps.mk' kp, ?_⟩
        cases hb : (ps[i] == Str.empty || ps[i] == one c) with
        | true =>
          simp only [Bool.not_true, Bool.false_eq_true, if_false]
          refine ⟨Nat.le_succ_of_le hy1, ?_⟩
          rw [step, hy2, hb]
          simp
        | false =>
          simp only [Bool.not_false, if_true]
          refine ldC rfl (by decide) (hnC.keeps kp) (by rw [if_neg (by decide), if_pos rfl]) ⟨Keeps.mk' fun _ _ e => e, ?_, ?_⟩
          · simp; lia
          · rw [step, hb]
            simp
    · rintro D h₄ k4 news F4 N4 ⟨ys, kk, ⟨hy1, hy2⟩, rfl, _⟩
      have hD : h₄.IsList D ys.toArray := ⟨_, N4.get List.mem_cons_self, rfl, _, rfl⟩
      have hfin : (decide (ys = []) : Bool) = fits ps x pl := by
        rw [fits, decide_eq_true hpx, Bool.true_and, hcs]
        rw [Bool.eq_iff_iff, decide_eq_true_eq, hy2, fitsAt_iff ps cs hcl]
        constructor
        · intro q j p c hp' hc'
          exact q j (List.getElem?_eq_some_iff.mp hp').1 p c hp' hc'
        · intro q j _ p c hp' hc'
          exact q j p c hp' hc'
      refine List_ (args_nil ?_)
      refine newListS F4 N4 (fun D2 h₅ kp F5 N5 hD2x => ?_)
      have hD2 : h₅.IsList D2 #[] := ⟨_, N5.get List.mem_cons_self, rfl, _, rfl⟩
      have hD' := hD.at fun o e => kp _ o e
      by_cases hy : ys = []
      · subst hy
        refine PySem.SeqAt.eq_listAt (items2 := #[]) (e := fun _ => true) hD' hD2 rfl (by show un + 3 < _; lia) (fun j h1 _ => absurd h1 (Nat.not_lt_zero _)) ?_
        refine hR _ _ _ F5.keep ?_
        show Value.bool true = _
        rw [← hfin]
        rfl
      · refine PySem.SeqAt.eq_list_lengthsAt (items2 := #[]) hD' hD2 (by simpa using hy) (by show un + 3 < _; lia) ?_
        refine hR _ _ _ F5.keep ?_
        show Value.bool false = _
        rw [← hfin, decide_eq_false hy]
end Mine
namespace Mine
/-! loops by invariants over the frame's values and the ledger -/
section
variable {w : World} {A : Around} {E : Value → Shared → Prop} {h : Heap} {g : Array GenState} {d : Drawn} {k : Nat} {o : OsState} {name : Str} {sc : Scope} {L a : Addr} {cd : Value} {cl : List (Str × Addr)} {h₀ : Heap} {vals : List (Option Value)}
  {news : List (Addr × Obj)}

theorem News.pick {l : List (Addr × Obj)} (idx : List Nat) (N : News h₀ L h l) : News h₀ L h (idx.filterMap (l[·]?)) := fun p hp => by
  obtain ⟨i, _, e⟩ := List.mem_filterMap.mp hp
  exact N p (List.mem_of_getElem? e)
theorem News.pull {b : Addr × Obj} {l r : List (Addr × Obj)} (N : News h₀ L h (l ++ b :: r)) : News h₀ L h (b :: (l ++ r)) := fun p hp => N p (by
  simp only [List.mem_cons, List.mem_append] at hp ⊢; rcases hp with hp | hp | hp <;> simp only [hp, true_or, or_true])
theorem allC {α : Type} {P : α → Prop} {a : α} {l : List α} (h : P a) (hl : ∀ p ∈ l, P p) : ∀ p ∈ a :: l, P p := List.forall_mem_cons.mpr ⟨h, hl⟩
theorem allN {α : Type} {P : α → Prop} : ∀ p ∈ ([] : List α), P p := fun _ h => nomatch h
theorem allA {α : Type} {P : α → Prop} {l r : List α} (h : ∀ p ∈ l, P p) (hl : ∀ p ∈ r, P p) : ∀ p ∈ l ++ r, P p := fun p hp => (List.mem_append.mp hp).elim (h p) (hl p)
/-- a state of the frame and the ledger -/
inductive At (h₀ : Heap) (L : Addr) (sc : Scope) (g : Array GenState) (d : Drawn) (o : OsState) (J : List (Option Value) → List (Addr × Obj) → Prop) (s : Shared) : Prop
  | intro (h : Heap) (k : Nat) (vals : List (Option Value)) (news : List (Addr × Obj)) (e : s = ⟨h, g, d, k, o⟩) (F : Fr h₀ L h (locs (nms sc) vals)) (N : News h₀ L h news) (j : J vals news)
theorem At.mk {J : List (Option Value) → List (Addr × Obj) → Prop} (F : Fr h₀ L h (locs (nms sc) vals)) (N : News h₀ L h news) (j : J vals news) : At h₀ L sc g d o J ⟨h, g, d, k, o⟩ := ⟨h, k, vals, news, rfl, F, N, j⟩

theorem whileS {test : Expr} {body : List Stmt} {pos : Pos} {Q : Flow → Shared → Prop} (J : Nat → List (Option Value) → List (Addr × Obj) → Prop) (n : Nat)
    (F : Fr h₀ L h (locs (nms sc) vals)) (N : News h₀ L h news) (j : J n vals news)
    (turn : ∀ E n vals news h k, J n vals news → Fr h₀ L h (locs (nms sc) vals) → News h₀ L h news →
      wpAny (model prg w) A (isTrue test (envX name sc L a cd cl) (eval test (envX name sc L a cd cl))) (fun b s₂ =>
        if b then wpAny (model prg w) A (execs body (envX name sc L a cd cl)) (fun f s₃ => match f with
            | .next | .cont => ∃ m, m < n ∧ At h₀ L sc g d o (J m) s₃
            | .brk => Q .next s₃
            | .ret v => Q (.ret v) s₃) E s₂
        else Q .next s₂) E ⟨h, g, d, k, o⟩) :
    wpAny (model prg w) A (exec (.While test body [] pos) (envX name sc L a cd cl)) Q E ⟨h, g, d, k, o⟩ := by
  refine wpAny_While (codeAny_whileLoop (fun n s => At h₀ L sc g d o (J n) s) ?_ n (At.mk F N j))
  rintro n s ⟨h, k, vals, news, rfl, F, N, j⟩
  refine wpAny_mono (turn _ n vals news h k j F N) (fun b s₂ hb => ?_) fun _ _ e => e
  cases b with
  | false => exact wpAny_execs_nil hb
  | true => exact wpAny_mono hb (fun f s₃ hf => by cases f <;> exact hf) fun _ _ e => e

inductive ForT (own : List (Addr × Obj)) (wr : List Addr) (J : List (Option Value) → List (Addr × Obj) → Prop) (vals' : List (Option Value)) (news' : List (Addr × Obj)) : Prop
  | mk (new : List (Addr × Obj)) (h1 : news' = own ++ new) (h2 : ∀ p ∈ new, p.1 ∉ wr) (h3 : J vals' new) : ForT own wr J vals' news'
inductive ForS2 (w : World) (A : Around) (g : Array GenState) (d : Drawn) (o : OsState) (name : Str) (sc : Scope) (L a : Addr) (cd : Value) (cl : List (Str × Addr)) (h₀ : Heap) (body : List Stmt) (ix : Nat) (Q : Flow → Shared → Prop) (it : Value) (s₂ : Shared) : Prop
  | mk (I : Addr) (fp wr : List Addr) (n : Nat) (P : Nat → Value → Prop) (St : Nat → Heap → Prop) (h₂ : Heap) (k₂ : Nat) (vals : List (Option Value)) (news : List (Addr × Obj)) (J : Nat → List (Option Value) → List (Addr × Obj) → Prop) (h1 : s₂ = ⟨h₂, g, d, k₂, o⟩) (h2 : it = .ref I) (h3 : Walks prg w A I fp wr n P St) (h4 : St 0 h₂) (h5 : L ∉ fp) (h6 : (∀ b ∈ wr, h₀.get? b = none)) (h7 : (∀ p ∈ news, p.1 ∉ wr)) (h8 : Fr h₀ L h₂ (locs (nms sc) vals)) (h9 : News h₀ L h₂ news) (h10 : J 0 vals news) (h11 : (∀ i vals news, J i vals news → ix < vals.length)) (h12 : (∀ i h, St i h → ∀ b ∈ wr, ∃ o, h.get? b = some o)) (h13 : (∀ E i v vals news own h k, i < n → P i v → J i vals news → (∀ p ∈ news, p.1 ∉ wr) → (∀ b ∈ wr, ∃ o, (b, o) ∈ own) → (∀ p ∈ own, p.1 ∈ fp) → Fr h₀ L h (locs (nms sc) (vals.set ix (some v))) → News h₀ L h (own ++ news) → wpAny (model prg w) A (execs body (envX name sc L a cd cl)) (fun f s₃ => match f with | .next | .cont => At h₀ L sc g d o (ForT own wr (J (i + 1))) s₃ | .brk => Q .next s₃ | .ret v => Q (.ret v) s₃) E ⟨h, g, d, k, o⟩)) (h14 : ∀ h k vals news, Fr h₀ L h (locs (nms sc) vals) → News h₀ L h news → J n vals news → Q .next ⟨h, g, d, k, o⟩) : ForS2 w A g d o name sc L a cd cl h₀ body ix Q it s₂
/-- as forS; the loop's own objects are told to lie in the iterator's footprint -/
theorem forS2 {x : Str} {px pos : Pos} {iter : Expr} {body : List Stmt} {Q : Flow → Shared → Prop} (ok : ScOk sc) (_F : Fr h₀ L h (locs (nms sc) vals)) (ix : Nat) (hx : sc.names[ix]? = some (x, .local))
    (q : wpAny (model prg w) A (eval iter (envX name sc L a cd cl)) (fun xv s₁ => wpAny (model prg w) A (pyIter xv) (ForS2 w A g d o name sc L a cd cl h₀ body ix Q) E s₁) E ⟨h, g, d, k, o⟩)
    (hs : ∀ x, foldedSetIterable iter (envX name sc L a cd cl) x = pure x := by intro _; rfl) :
    wpAny (model prg w) A (exec (.For (.Name x px) iter body [] pos) (envX name sc L a cd cl)) Q E ⟨h, g, d, k, o⟩ := by
  refine wpAny_For (wpAny_mono q (fun xv s₁ h₁ => wpAny_mono h₁ (fun it s₂ h₂ => ?_) fun _ _ e => e) fun _ _ e => e) hs
  obtain ⟨I, fp, wr, n, P, St, h₂, k₂, vals, news, J, rfl, rfl, W, hst, hLf, hwr, hnw, F, N, j, hlen, alive, turn, done⟩ := h₂
  have hp : ((envX name sc L a cd cl).scope.kind == .class || ((envX name sc L a cd cl).scope.kind == .module && (envX name sc L a cd cl).locals != (envX name sc L a cd cl).globals)) = false := by
    show (sc.kind == .class || (sc.kind == .module && _)) = false
    rw [ok.fk]; rfl
  refine codeAny_forLoop_frV (env := envX name sc L a cd cl) (h₀ := h₀) W (kind_idx ok hx) hp hLf hwr hnw hst F N (fun i m news => ∃ vals, m = locs (nms sc) vals ∧ J i vals news) ⟨vals, rfl, j⟩ ?_ ?_
  · rintro i v m₁ news₁ s₁ own ⟨h₁, k₁, rfl⟩ hi hP ⟨vals, rfl, hJ⟩ hnw₁ hfo hoo hown hst₁ F₁ N₁
    rw [locs_set ok.nd (nms_idx hx) (hlen _ _ _ hJ)] at F₁
    refine wpAny_mono (turn _ i v vals news₁ own h₁ k₁ hi hP hJ hnw₁ (fun b hb => ?_) hfo F₁ N₁) (fun f s₃ hf => ?_) fun _ _ e => e
    · obtain ⟨ob, hob⟩ := alive _ _ hst₁ b hb
      exact ⟨ob, hown b (W.sub _ hb) (hwr b hb) ob hob⟩
    · have fin : At h₀ L sc g d o (ForT own wr (J (i + 1))) s₃ →
          LoopStepU h₀ L wr own (fun m news => ∃ vals, m = locs (nms sc) vals ∧ J (i + 1) vals news) ⟨h₁, g, d, k₁, o⟩ .next s₃ := by
        rintro ⟨h', k', vals', news', rfl, F', N', new, rfl, hn, hj⟩
        exact ⟨rfl, h', k', _, new, rfl, F', N', hn, vals', rfl, hj⟩
      cases f with
      | ret v => exact hf
      | brk => exact hf
      | next => exact fin hf
      | cont => exact fin hf
  · rintro h' k' m' news' F' N' _ ⟨vals', rfl, hJ⟩
    exact done h' k' vals' news' F' N' hJ

end
end Mine
namespace Mine
/-! pieces: a list of lists of texts -/
noncomputable def Strs (h : Heap) (a : Addr) (ps : List Str) : Prop := ∃ vs, h.IsList a vs.toArray ∧ StrsAre vs ps
theorem Strs.keeps {h h' : Heap} {a : Addr} {ps : List Str} (x : Strs h a ps) (kp : Kp h h') : Strs h' a ps := let ⟨vs, h1, h2⟩ := x; ⟨vs, h1.at fun o e => kp _ o e, h2⟩
inductive Strss (h : Heap) : List Value → List (List Str) → Prop
  | nil : Strss h [] []
  | cons {a : Addr} {ps : List Str} {vs : List Value} {pss : List (List Str)} : Strs h a ps → Strss h vs pss → Strss h (.ref a :: vs) (ps :: pss)
theorem Strss.keeps {h h' : Heap} {vs : List Value} {pss : List (List Str)} (x : Strss h vs pss) (kp : Kp h h') : Strss h' vs pss := by
  induction x with
  | nil => exact .nil
  | cons h1 _ ih => exact .cons (h1.keeps kp) ih
theorem Strss.len {h : Heap} {vs : List Value} {pss : List (List Str)} (x : Strss h vs pss) : vs.length = pss.length := by
  induction x with
  | nil => rfl
  | cons _ _ ih => simp [ih]
theorem Strss.get {h : Heap} {vs : List Value} {pss : List (List Str)} (x : Strss h vs pss) : ∀ {i : Nat} {ps : List Str}, pss[i]? = some ps → ∃ a, vs[i]? = some (.ref a) ∧ Strs h a ps := by
  induction x with
  | nil => intro i ps e; simp at e
  | cons h1 _ ih =>
    intro i ps e
    cases i with
    | zero => simp at e; subst e; exact ⟨_, rfl, h1⟩
    | succ i => simpa using ih (by simpa using e)
theorem Strss.drop {h : Heap} {vs : List Value} {pss : List (List Str)} (x : Strss h vs pss) : ∀ n, Strss h (vs.drop n) (pss.drop n) := by
  induction x with
  | nil => intro n; simpa using Strss.nil
  | cons h1 h2 ih =>
    intro n
    cases n with
    | zero => exact .cons h1 h2
    | succ n => simpa using ih n
theorem Strss.take {h : Heap} {vs : List Value} {pss : List (List Str)} (x : Strss h vs pss) : ∀ n, Strss h (vs.take n) (pss.take n) := by
  induction x with
  | nil => intro n; simpa using Strss.nil
  | cons h1 h2 ih =>
    intro n
    cases n with
    | zero => exact .nil
    | succ n => simpa using Strss.cons h1 (ih n)

/-- the first place, from pl on, that fits (or the one behind the end) -/
noncomputable def seek (ps : List Str) (x : Str) : Nat → Nat → Nat
  | 0, pl => pl
  | f + 1, pl => if decide (pl ≤ x.length) && !fits ps x pl then seek ps x f (pl + 1) else pl
noncomputable def seekAll (x : Str) : List (List Str) → Nat → Nat
  | [], pl => pl
  | ps :: r, pl => seekAll x r (seek ps x (x.length + 1 - pl) pl + ps.length)
noncomputable def takes (pss : List (List Str)) (x : Str) : Bool := match pss with
  | [] => false
  | p :: r => fits p x 0 && (match r with
    | [] => p.length == x.length
    | q :: r' => let pl := seekAll x (q :: r').dropLast p.length
      let last := (q :: r').getLastD []
      decide (pl + last.length ≤ x.length) && fits last x (x.length - last.length))

theorem sc21 : ScOk (dScope 21) := .of (by decide +kernel)

theorem pick_mid {vs : List Value} : slicePick vs.toArray (some 1) (some (-1)) none = ((vs.drop (min 1 vs.length)).take (vs.length - 1 - min 1 vs.length)).toArray := by
  rw [slicePick_plain]
  have e1 := clipAt_nat vs.length 1
  have e2 := clipAt_neg vs.length 1 (by lia)
  simp only [List.size_toArray, Option.elim_some]
  rw [show clipAt vs.length 1 = min 1 vs.length from e1, show clipAt vs.length (-1) = vs.length - 1 from e2]
theorem seek_step {ps : List Str} {x : Str} {f pl : Nat} : seek ps x (f + 1) pl = if decide (pl ≤ x.length) && !fits ps x pl then seek ps x f (pl + 1) else pl := rfl

inductive TInv1 (pa : Addr) (x : Str) (tx : Tok) (mm : List (List Str)) (pl0 i : Nat) (vals : List (Option Value)) (news : List (Addr × Obj)) : Prop
  | mk (pl : Nat) (t : Tok) (c : Option Value) (h1 : vals = [some (.ref pa), some (.str x tx), some (.int pl t), c, none, none, none]) (h2 : seekAll x (mm.drop i) pl = seekAll x mm pl0) : TInv1 pa x tx mm pl0 i vals news
inductive TInv2 (pa am : Addr) (x : Str) (tx : Tok) (mi : List Str) (own news0 : List (Addr × Obj)) (pl : Nat) (n : Nat) (vals : List (Option Value)) (news' : List (Addr × Obj)) : Prop
  | mk (pl' : Nat) (t : Tok) (h1 : vals = [some (.ref pa), some (.str x tx), some (.int pl' t), some (.ref am), none, none, none]) (h2 : news' = own ++ news0) (h3 : n = x.length + 1 - pl') (h4 : seek mi x n pl' = seek mi x (x.length + 1 - pl) pl) : TInv2 pa am x tx mi own news0 pl n vals news'
set_option maxHeartbeats 4000000 in
theorem takes_c {w : World} {ad : Nat → Addr} {mg mb : Str → Option Value} (pss : List (List Str)) (x : Str) (pa : Addr) (tx : Tok) (hp : pss.length ≤ 100) (hq : ∀ ps ∈ pss, ps.length ≤ 100) (hx : x.length ≤ 100) (hne : pss ≠ []) :
    FnC w ad mg mb 21 [.ref pa, .str x tx] 4 (fun h => ∃ vs, h.IsList pa vs.toArray ∧ Strss h vs pss) (fun _ v => v = .bool (takes pss x)) := by
  rintro ⟨hd0, dp, fr, gd, un⟩ ⟨h, g, d, k, o⟩ R hh hd hu l ⟨vs, hl, hs⟩ hR
  dsimp only at hh hd hu hl hR
  subst hh
  have ok := sc21
  obtain ⟨p, r, rfl⟩ : ∃ p r, pss = p :: r := by cases pss with | nil => exact absurd rfl hne | cons p r => exact ⟨p, r, rfl⟩
  obtain ⟨a0, e0, s0⟩ := hs.get (i := 0) (ps := p) rfl
  have hp0 : p.length ≤ 100 := hq p List.mem_cons_self
  have hlen := hs.len
  have hbig : vs.length ≤ 100 := by rw [hlen]; exact hp
  obtain ⟨pv0, hl0, hs0⟩ := id s0
  have hpv0 := hs0.len_eq
  refine enterS 21 ["pieces", "name"] _ l (by decide) ok (by show dp < _; lia) (by with_unfolding_all rfl) (by with_unfolding_all rfl) rfl (fun _ _ _ => rfl) (by decide +kernel) (by decide +kernel) (fun L cd h₁ k₁ hL F N => ?_)
  replace F : Fr h L h₁ (locs (nms (dScope 21)) [some (.ref pa), some (.str x tx), none, none, none, none, none]) := F
  refine hideA ?_
  intro AHid
  refine wpAny_execs_cons (hideLet ?_)
  intro PHid
  refine wpAny_If (isTrue_not (isTrue_plain ?_))
  refine callF (kf := 20) l (by decide) (fun Q' q => ldg 5 20 ok l F rfl (by decide) rfl q) ?_
  refine arg (Subscript_ (ldl 0 ok F rfl rfl (cInt fun t1 k1 => itemS (i := 0) (hl.at fun o e => F.keep _ o e) (by lia) e0 ?_)))
  refine arg (ldl 1 ok F rfl rfl (arg (cInt fun t2 k2 => args_nil ⟨F.keep, ?_⟩)))
  refine useS (fits_c p x 0 a0 tx t2 (by lia) (by lia) (by lia)) rfl (by show dp + 1 + 3 < _; lia) (by show un + 3 + 8 * 3 < _; lia) l F N (s0.keeps F.keep) (fun v h₂ k₂ F2 N2 kp hv => ?_)
  subst hv
  refine wpAny_truthy_bool ?_
  cases hf : fits p x 0 with
  | false =>
    refine ite_tt (wpAny_execs_cons (hideLet ?_))
    intro PHid
    refine wpAny_Return_some (Constant_bool ?_)
    refine hR _ _ _ F2.keep ?_
    show Value.bool false = _
    simp [takes, hf]
  | true =>
  refine ite_ff (wpAny_execs_nil ?_)
  refine wpAny_execs_cons (hideLet ?_)
  intro PHid
  refine wpAny_Assign_Name ?_
  refine callB (fun Q' q => ldb 6 ok l F2 rfl (by decide) boot_len q) (arg (Subscript_ (ldl 0 ok F2 rfl rfl (cInt fun t3 k3 => itemS (i := 0) (hl.at fun o e => F2.keep _ o e) (by lia) e0 (args_nil ?_)))))
  refine lenLS (hl0.at fun o e => F2.keep _ o e) (by lia) (fun t4 k4 => ?_)
  refine stS 2 [some (.ref pa), some (.str x tx), some (.int pv0.length t4), none, none, none, none] ok F2 N2 rfl (Nat.le_of_ble_eq_true rfl) rfl (fun h₃ k5 F3 N3 => ?_)
  refine wpAny_execs_cons (hideLet ?_)
  intro PHid
  refine wpAny_If (wpAny_isTrue_Compare1 ?_)
  refine callB (fun Q' q => ldb 6 ok l F3 rfl (by decide) boot_len q) (arg (ldl 0 ok F3 rfl rfl (args_nil ?_)))
  refine lenLS (hl.at fun o e => F3.keep _ o e) (by lia) (fun t5 k6 => cInt fun t6 k7 => eq_int (wpAny_truthy_bool ?_))
  have hlen' : vs.length = r.length + 1 := hlen
  cases r with
  | nil =>
    have h1 : ((vs.length : Int) == 1) = true := by simp at hlen'; simp [hlen']
    rw [h1]
    refine ite_tt (wpAny_execs_cons (hideLet ?_))
    intro PHid
    refine wpAny_Return_some (wpAny_Compare1 (ldl 2 ok F3 rfl rfl ?_))
    refine callB (fun Q' q => ldb 6 ok l F3 rfl (by decide) boot_len q) (arg (ldl 1 ok F3 rfl rfl (args_nil ?_)))
    refine lenSS (by lia) (fun t7 k8 => eq_int ?_)
    refine hR _ _ _ F3.keep ?_
    show Value.bool ((pv0.length : Int) == x.length) = _
    congr 1
    simp only [takes, hf, Bool.true_and, hpv0]
    rw [Bool.eq_iff_iff, beq_iff_eq, beq_iff_eq]
    constructor <;> intro e <;> lia
  | cons q r' =>
    have h1 : ((vs.length : Int) == 1) = false := by simp at hlen'; simp; lia
    rw [h1]
    refine ite_ff (wpAny_execs_nil ?_)
    have hv2 : 2 ≤ vs.length := by simp at hlen'; lia
    have hmid : slicePick vs.toArray (some 1) (some (-1)) none = ((vs.drop 1).take (vs.length - 2)).toArray := by
      rw [pick_mid, show min 1 vs.length = 1 by lia, show vs.length - 1 - 1 = vs.length - 2 by lia]
    have hsm : Strss h ((vs.drop 1).take (vs.length - 2)) (q :: r').dropLast := by
      have := (hs.drop 1).take (vs.length - 2)
      rw [List.dropLast_eq_take]
      simpa [hlen'] using this
    refine wpAny_execs_cons (hideLet ?_)
    intro PHid
    refine forS2 ok F3 3 rfl ?_
    refine sliceSub (ldl 0 ok F3 rfl rfl (evalPart_some_step (cInt fun t7 k8 => evalPart_some_step (UnaryOp_ (cInt fun t8 k9 => minusI fun t9 k10 => ?_)))))
    refine sliceLS F3 N3 (hl.at fun o e => F3.keep _ o e) (.int 1 _) (.int (-1) _) (by simp; lia) (fun D h₄ kp4 F4 N4 hD => ?_)
    rw [hmid] at N4
    generalize hms : (vs.drop 1).take (vs.length - 2) = ms at N4 hsm
    generalize hmm : (q :: r').dropLast = mm at hsm
    have hml := hsm.len
    refine iterLS rfl F4 N4 ⟨_, N4.get List.mem_cons_self, rfl, _, rfl⟩ (fun I h₅ W hst hLf hwr hnw hfp F5 N5 kp5 => ?_)
    refine ⟨I, _, _, _, _, _, h₅, _, _, _, (fun i => TInv1 pa x tx mm p.length i), rfl, rfl, W, hst, hLf, hwr, hnw, F5, N5,
      ⟨p.length, t4, none, by rw [← hpv0], by simp⟩, (fun i vals news ⟨_, _, _, e, _⟩ => by rw [e]; simp), listIter_alive, ?_, ?_⟩
    · rintro E i v vals news own h₆ k₆ hi hv ⟨pl, t, c, rfl, hsk⟩ hnw6 hown _ F6 N6
      refine hideLet ?_
      intro PHid
      replace F6 : Fr h L h₆ (locs (nms (dScope 21)) [some (.ref pa), some (.str x tx), some (.int pl t), some v, none, none, none]) := F6
      have him : i < mm.length := by rw [← hml]; exact hi
      obtain ⟨am, hvm, sm⟩ := hsm.get (List.getElem?_eq_getElem him)
      have hve : v = .ref am := Option.some.inj (hv.symm.trans hvm)
      subst hve
      have hpm : mm[i].length ≤ 100 := hq _ (List.mem_cons_of_mem _ (List.dropLast_subset _ (hmm ▸ List.getElem_mem him)))
      obtain ⟨pvm, hlm, hsm2⟩ := id sm
      have hpvm := hsm2.len_eq
      refine wpAny_execs_cons (hideLet ?_)
      intro PHid
      refine whileS (vals := [some (.ref pa), some (.str x tx), some (.int pl t), some (.ref am), none, none, none]) (TInv2 pa am x tx mm[i] own news pl) (x.length + 1 - pl) F6 N6 ⟨pl, t, rfl, rfl, rfl, rfl⟩ ?_
      rintro E' n vals news' h₇ k₇ ⟨pl', t', rfl, rfl, hn, hsk'⟩ F7 N7
      refine hideLet ?_
      intro PHid
      refine isTrue_and (wpAny_isTrue_Compare1 (ldl 2 ok F7 rfl rfl ?_))
      refine callB (fun Q' q => ldb 6 ok l F7 rfl (by decide) boot_len q) (arg (ldl 1 ok F7 rfl rfl (args_nil ?_)))
      refine lenSS (by lia) (fun t10 k11 => le_int (wpAny_truthy_bool ?_))
      by_cases hc : (pl' : Int) ≤ x.length
      · rw [decide_eq_true hc]
        refine ite_tt (isTrue_and (isTrue_not (isTrue_plain ?_)))
        refine callF (kf := 20) l (by decide) (fun Q' q => ldg 5 20 ok l F7 rfl (by decide) rfl q) ?_
        refine arg (ldl 3 ok F7 rfl rfl (arg (ldl 1 ok F7 rfl rfl (arg (ldl 2 ok F7 rfl rfl (args_nil ⟨F7.keep, ?_⟩))))))
        refine useS (fits_c mm[i] x pl' am tx t' (by lia) (by lia) (by lia)) rfl (by show dp + 1 + 3 < _; lia) (by show un + 3 + 8 * 3 < _; lia) l F7 N7 (sm.keeps F7.keep) (fun v h₈ k₈ F8 N8 kp hv => ?_)
        subst hv
        refine wpAny_truthy_bool ?_
        obtain ⟨m', hm'⟩ : ∃ m', n = m' + 1 := ⟨n - 1, by lia⟩
        cases hfi : fits mm[i] x pl' with
        | false =>
          refine ite_tt (isTrue_and_nil (ite_tt ?_))
          refine wpAny_execs_cons (hideLet ?_)
          intro PHid
          refine wpAny_AugAssign_Name (ldnl 2 ok F8 rfl rfl (cInt fun t11 k12 => iaddI fun t12 k13 => ?_))
          refine stS 2 [some (.ref pa), some (.str x tx), some (.int (pl' + 1) t12), some (.ref am), none, none, none] ok F8 N8 rfl (Nat.le_of_ble_eq_true rfl) rfl (fun h₉ k14 F9 N9 => wpAny_execs_nil ?_)
          refine ⟨m', by lia, At.mk F9 N9 ⟨pl' + 1, t12, by simp, rfl, by lia, ?_⟩⟩
          rw [← hsk', hm', seek_step, hfi, decide_eq_true (by lia : pl' ≤ x.length)]
          rfl
        | true =>
          refine ite_ff (ite_ff ?_)
          have hstop : seek mm[i] x n pl' = pl' := by rw [hm', seek_step, hfi]; simp
          refine wpAny_execs_cons (hideLet ?_)
          intro PHid
          refine wpAny_AugAssign_Name (ldnl 2 ok F8 rfl rfl ?_)
          refine callB (fun Q' q => ldb 6 ok l F8 rfl (by decide) boot_len q) (arg (ldl 3 ok F8 rfl rfl (args_nil ?_)))
          refine lenLS (hlm.at fun o e => F8.keep _ o e) (by lia) (fun t12 k13 => iaddI fun t13 k14 => ?_)
          refine stS 2 [some (.ref pa), some (.str x tx), some (.int (pl' + pvm.length) t13), some (.ref am), none, none, none] ok F8 N8 rfl (Nat.le_of_ble_eq_true rfl) rfl (fun h₉ k15 F9 N9 => wpAny_execs_nil ?_)
          refine At.mk F9 N9 ⟨news, rfl, hnw6, pl' + pvm.length, t13, some (.ref am), by simp, ?_⟩
          rw [← hsk, List.drop_eq_getElem_cons him, seekAll, ← hsk', hstop, hpvm]
      · rw [decide_eq_false hc]
        refine ite_ff (ite_ff ?_)
        have hstop : seek mm[i] x n pl' = pl' := by rw [show n = 0 by lia]; rfl
        refine wpAny_execs_cons (hideLet ?_)
        intro PHid
        refine wpAny_AugAssign_Name (ldnl 2 ok F7 rfl rfl ?_)
        refine callB (fun Q' q => ldb 6 ok l F7 rfl (by decide) boot_len q) (arg (ldl 3 ok F7 rfl rfl (args_nil ?_)))
        refine lenLS (hlm.at fun o e => F7.keep _ o e) (by lia) (fun t12 k13 => iaddI fun t13 k14 => ?_)
        refine stS 2 [some (.ref pa), some (.str x tx), some (.int (pl' + pvm.length) t13), some (.ref am), none, none, none] ok F7 N7 rfl (Nat.le_of_ble_eq_true rfl) rfl (fun h₉ k15 F9 N9 => wpAny_execs_nil ?_)
        refine At.mk F9 N9 ⟨news, rfl, hnw6, pl' + pvm.length, t13, some (.ref am), by simp, ?_⟩
        rw [← hsk, List.drop_eq_getElem_cons him, seekAll, ← hsk', hstop, hpvm]
    · rintro h₆ k₆ vals news F6 N6 ⟨pl, t, c, rfl, hsk⟩
      have hpl : pl = seekAll x mm p.length := by
        rw [← hsk, hml, List.drop_length]; rfl
      have hlast : (p :: q :: r')[vs.length - 1]? = some ((q :: r').getLastD []) := by
        have e1 : (q :: r').getLast? = some ((q :: r').getLastD []) := by rw [List.getLast?_cons, List.getLastD_cons, List.getLastD_eq_getLast?]
        rw [List.getLast?_eq_getElem?] at e1
        rw [hlen', Nat.add_sub_cancel, ← e1]
        simp
      obtain ⟨al, hvl, sl⟩ := hs.get hlast
      obtain ⟨pvl, hll, hsl⟩ := id sl
      have hpvl := hsl.len_eq
      have hpl100 : ((q :: r').getLastD []).length ≤ 100 := hq _ (List.mem_of_getElem? hlast)
      generalize hla : (q :: r').getLastD [] = la at *
      refine wpAny_execs_cons (hideLet ?_)
      intro PHid
      refine wpAny_Assign_Name (wpAny_BinOp ?_)
      refine callB (fun Q' q => ldb 6 ok l F6 rfl (by decide) boot_len q) (arg (ldl 1 ok F6 rfl rfl (args_nil ?_)))
      refine lenSS (by lia) (fun t10 k11 => ?_)
      refine callB (fun Q' q => ldb 6 ok l F6 rfl (by decide) boot_len q) (arg (Subscript_ (ldl 0 ok F6 rfl rfl (UnaryOp_ (cInt fun t11 k12 => minusI fun t12 k13 => ?_)))))
      refine itemLastS (hl.at fun o e => F6.keep _ o e) (by intro e; rw [e] at hv2; simp at hv2) hvl (args_nil ?_)
      refine lenLS (hll.at fun o e => F6.keep _ o e) (by lia) (fun t13 k14 => subI fun t14 k15 => ?_)
      refine stS 4 [some (.ref pa), some (.str x tx), some (.int pl t), c, some (.int ((x.length : Int) - pvl.length) t14), none, none] ok F6 N6 rfl (Nat.le_of_ble_eq_true rfl) rfl (fun h₇ k16 F7 N7 => ?_)
      refine wpAny_execs_cons (hideLet ?_)
      intro PHid
      refine wpAny_Return_some (BoolOp_and (wpAny_Compare1 (ldl 4 ok F7 rfl rfl (ldl 2 ok F7 rfl rfl (ge_int (wpAny_truthy_bool ?_))))))
      by_cases hc : (x.length : Int) - pvl.length ≥ pl
      · rw [decide_eq_true hc]
        refine ite_tt (BoolOp_one ?_)
        refine callF (kf := 20) l (by decide) (fun Q' q => ldg 5 20 ok l F7 rfl (by decide) rfl q) ?_
        refine arg (Subscript_ (ldl 0 ok F7 rfl rfl (UnaryOp_ (cInt fun t15 k17 => minusI fun t16 k18 => itemLastS (hl.at fun o e => F7.keep _ o e) (by intro e; rw [e] at hv2; simp at hv2) hvl ?_))))
        refine arg (ldl 1 ok F7 rfl rfl (arg (ldl 4 ok F7 rfl rfl (args_nil ⟨F7.keep, ?_⟩))))
        have hint : (x.length : Int) - pvl.length = ((x.length - la.length : Nat) : Int) := by lia
        rw [hint]
        refine useS (fits_c la x (x.length - la.length) al tx t14 (by lia) (by lia) (by lia)) rfl (by show dp + 1 + 3 < _; lia) (by show un + 3 + 8 * 3 < _; lia) l F7 N7 (sl.keeps F7.keep) (fun v h₈ k₈ F8 N8 kp hv => ?_)
        subst hv
        refine hR _ _ _ F8.keep ?_
        show Value.bool _ = _
        congr 1
        simp only [takes, hf, Bool.true_and, hmm, hla, ← hpl]
        rw [decide_eq_true (by lia), Bool.true_and]
      · rw [decide_eq_false hc]
        refine ite_ff (hR _ _ _ F7.keep ?_)
        show Value.bool _ = _
        congr 1
        simp only [takes, hf, Bool.true_and, hmm, hla, ← hpl]
        rw [decide_eq_false (by lia), Bool.false_and]
end Mine
namespace Mine
/-! one sign through str.translate -/
section
variable {w : World} {A : Around} {E : Value → Shared → Prop} {s : Shared} {dm : Addr} {f : Int → Option Value}

theorem look_text {c : Nat} {x : Str} {t : Tok} {Q : Builtin.Str.Mapped → Shared → Prop} (hm : s.heap.MapOf (intKind prg w) dm f) (hv : f c = some (.str x t)) (q : ∀ tk, Q (.text x) { s with toks := tk }) :
    wpAny (model prg w) A (Builtin.Str.tableLookup (.ref dm) c) Q E s := by
  unfold Builtin.Str.tableLookup
  refine wpAny_bind (wpAny_attempt (wpAny_bind (wpAny_mkInt (wpAny_getItem_of (intKind_is prg w c _) hm hv ?_))))
  exact fun _ _ _ => q _
theorem sub_key_lookup : isSubtype (.type "KeyError") (.type "LookupError") = pure true := by rw [isSubtype_type]; kernel_rfl
theorem look_keep {c : Nat} {Q : Builtin.Str.Mapped → Shared → Prop} (hh : A.handled = none) (hd : (dm == sysModules) = false) (hm : s.heap.MapOf (intKind prg w) dm f) (hv : f c = none) (q : ∀ h' tk, Kp s.heap h' → Q .keep { s with heap := h', toks := tk }) :
    wpAny (model prg w) A (Builtin.Str.tableLookup (.ref dm) c) Q E s := by
  unfold Builtin.Str.tableLookup
  refine wpAny_bind (wpAny_attempt (wpAny_bind (wpAny_mkInt (wpAny_getItem_missing_of (intKind_is prg w c _) hd hh hm hv fun h' e x => ?_))))
  obtain ⟨ob, t, h1, h2, h3⟩ := x.there
  refine wpAny_bind (wpAny_isInstance (T := "KeyError") (b := true) ⟨ob, h1, h2⟩ sub_key_lookup ?_)
  exact wpAny_bind (wpAny_rule (wpAny_pure (q h' _ x.keeps)))

theorem forIn_one {β : Type} {c : Nat} {b : β} {f : Nat → β → Sem (ForInStep β)} : forIn (one c).cps b f = f c b >>= fun r => match r with | .done b => pure b | .yield b => pure b := by
  show forIn (#[c] : Array Nat) b f = _
  rw [← Array.forIn_toList]
  simp only [List.forIn_cons, List.forIn_nil]
  rfl

set_option maxHeartbeats 4000000 in
theorem translate_one {c : Nat} {t : Tok} {y : Str} {Q : Value → Shared → Prop} (hh : A.handled = none) (hd : (dm == sysModules) = false) (hc : c < 128) (hm : s.heap.MapOf (intKind prg w) dm f) (hv : (∃ u, f c = some (.str y u) ∧ y.length = 2) ∨ (f c = none ∧ y = one c))
    (q : ∀ h' t' tk, Kp s.heap h' → Q (.str y t') { s with heap := h', toks := tk }) :
    wpAny (model prg w) A (call (.builtin "str.translate") [.str (one c) t, .ref dm]) Q E s := by
  refine wpAny_call_entry F.slot_str_translate (T := "str") rfl F.entry_str_translate ?_ (F.args_str_translate_2 _ _)
  unfold Builtin.«str.translate»
  have hf : (one c).cps.all (fun x => decide (x < 128)) = true := by simp [hc]
  refine wpAny_bind (wpAny_of_eq (a := (.str (one c) t, one c, .ref dm)) rfl ?_)
  dsimp only
  rw [if_neg (by simp [Str.length])]
  rw [forIn_one, hf]
  simp only [List.lookup_nil, if_true]
  have h1 : Builtin.Str.tooLong 0 = false := by decide
  simp only [h1, Bool.false_eq_true, if_false]
  refine wpAny_bind (wpAny_bind (wpAny_bind ?_))
  refine hideGoal ?_
  intro RG
  rcases hv with ⟨u, hv, hx⟩ | ⟨hv, e⟩
  · have h2 : (y.length == 1) = false := by rw [hx]; rfl
    have h3 : Builtin.Str.tooLong (0 + y.length) = false := by rw [hx]; decide
    refine look_text hm hv fun tk1 => ?_
    simp only [h2, Bool.false_and, Bool.false_eq_true, if_false]
    refine wpAny_bind (wpAny_pure ?_)
    dsimp only
    refine wpAny_bind (wpAny_rule (wpAny_bind ?_))
    refine look_text hm hv fun tk2 => ?_
    refine wpAny_pure ?_
    refine wpAny_pure ?_
    simp only [h3, Bool.false_eq_true, if_false]
    have h4 : (⟨List.foldl (fun acc (p : Str) => acc ++ p.cps) #[] [y].reverse⟩ : Str) = y := by simp
    rw [h4]
    unfold retStr
    exact wpAny_bind (wpAny_mkStr (wpAny_pure ⟨_, rfl, q s.heap _ _ (fun _ _ e => e)⟩) (by rw [hx, sizeLine]; lia))
  · have h3 : Builtin.Str.tooLong (0 + 1) = false := by decide
    refine look_keep hh hd hm hv fun h' tk1 kp => ?_
    refine wpAny_bind (wpAny_pure ?_)
    dsimp only
    refine wpAny_pure ?_
    refine wpAny_pure ?_
    simp only [h3, Bool.false_eq_true, if_false]
    have h4 : (⟨List.foldl (fun acc (p : Str) => acc ++ p.cps) #[] [one c].reverse⟩ : Str) = y := by rw [e]; simp
    rw [h4]
    unfold retStr
    exact wpAny_bind (wpAny_mkStr (wpAny_pure ⟨_, rfl, q _ _ _ kp⟩) (by rw [e]; simp [Str.length, sizeLine]))
end
end Mine
namespace Mine
noncomputable def special (c : Nat) : Bool := [40, 41, 91, 93, 123, 125, 63, 42, 43, 45, 124, 94, 36, 92, 46, 38, 126, 35, 32, 9, 10, 13, 11, 12].contains c
noncomputable def esc (c : Nat) : Str := if special c then ⟨#[92, c]⟩ else one c
/-- the table of the escapes stands -/
noncomputable def Sp (w : World) (mg : Str → Option Value) (h : Heap) : Prop := ∃ dm f, mg "_special_chars_map" = some (.ref dm) ∧ (dm == sysModules) = false ∧ h.MapOf (intKind prg w) dm f ∧
  ∀ c : Nat, c < 128 → (special c = true → ∃ t, f (c : Int) = some (.str ⟨#[92, c]⟩ t)) ∧ (special c = false → f (c : Int) = none)
theorem Sp.keeps {w : World} {mg : Str → Option Value} {h h' : Heap} (x : Sp w mg h) (kp : Kp h h') : Sp w mg h' := by
  obtain ⟨dm, f, h1, h2, ⟨o, es, ep, ho, r⟩, h4⟩ := x
  exact ⟨dm, f, h1, h2, ⟨o, es, ep, kp _ _ ho, r⟩, h4⟩

section
variable {w : World} {A : Around} {E : Value → Shared → Prop} {h : Heap} {g : Array GenState} {d : Drawn} {k : Nat} {o : OsState} {name : Str} {sc : Scope} {L a : Addr} {cd : Value} {cl : List (Str × Addr)} {h₀ : Heap}
  {m : Str → Option Value} {mg mb : Str → Option Value} {ad : Nat → Addr} {env : Env}
theorem cwB {M : Model} {s : Shared} {pos : Pos} {id : String} {first : List Value} {e : Expr} {rest : List Expr} {Q : Value → Shared → Prop}
    (q : wpAny M A (spliced (backTo pos (starEach (e :: rest) env))) (fun vs s₁ => wpAny M A (call (.builtin id) (first ++ vs)) Q E s₁) E s) (hp : (e :: rest).all plainE = true := by rfl) :
    wpAny M A (callWith pos (.builtin id) first (backTo pos (starEach (e :: rest) env)) []) Q E s := by
  rw [List.all_cons, Bool.and_eq_true] at hp
  exact callWith_method1 q (starE hp.1) (anyE hp.2)
/-- any global name of the text's -/
theorem ldgv {x : Str} {pos : Pos} {v : Value} {Q : Value → Shared → Prop} (i : Nat) (ok : ScOk sc) (l : Lib ad mg mb h₀) (F : Fr h₀ L h m) (hi : sc.names[i]? = some (x, .globalImplicit)) (hv : mg x = some v)
    (q : Q v ⟨h, g, d, k, o⟩) (hd : (x == ("__debug__" : Str)) = false := by decide) : wpAny (model prg w) A (eval (.Name x pos) (envX name sc L a cd cl)) Q E ⟨h, g, d, k, o⟩ :=
  Name_function_global ok.fk (kind_idx ok hi) (loadGlobal_global (env := envX name sc L a cd cl) (l.g.keeps F.keep) hv q) hd
end

theorem sc7 : ScOk (dScope 7) := .of (by decide +kernel)
set_option maxHeartbeats 4000000 in
theorem escape_c {w : World} {ad : Nat → Addr} {mg mb : Str → Option Value} (c : Nat) (t : Tok) (hc : c < 128) :
    FnC w ad mg mb 7 [.str (one c) t] 1 (Sp w mg) (fun _ v => ∃ t', v = .str (esc c) t') := by
  rintro ⟨hd0, dp, fr, gd, un⟩ ⟨h, g, d, k, o⟩ R hh hd hu l ⟨dm, f, hmg, hsys, hm, hf⟩ hR
  dsimp only at hh hd hu hR hm
  subst hh
  have ok := sc7
  refine enterS 7 ["pattern"] _ l (by decide) ok (by show dp < _; lia) (by with_unfolding_all rfl) (by with_unfolding_all rfl) rfl (fun _ _ _ => rfl) (by decide +kernel) (by decide +kernel) (fun L cd h₁ k₁ hL F N => ?_)
  replace F : Fr h L h₁ (locs (nms (dScope 7)) [some (.str (one c) t), none, none, none]) := F
  refine hideA ?_
  intro AHid
  refine wpAny_execs_cons (hideLet ?_)
  intro PHid
  refine wpAny_If (isTrue_plain ?_)
  refine callB (fun Q' q => ldb 1 ok l F rfl (by decide) boot_isinstance q) (arg (ldl 0 ok F rfl rfl (arg (ldb 2 ok l F rfl (by decide) PyProof.Rows.boot_str (args_nil ?_)))))
  refine IsiPair.str_str (wpAny_truthy_bool (ite_tt ?_))
  refine wpAny_execs_cons (hideLet ?_)
  intro PHid
  refine wpAny_Return_some (MethodCall_ (ldl 0 ok F rfl rfl (GM.of (name := "translate") _ (typeIs_str _ _ _) PySem.F.slot_str_translate PySem.F.type_str_translate GM.noRef ?_)))
  refine cwB (arg (ldgv 3 ok l F rfl hmg (args_nil ?_)))
  have hm1 : h₁.MapOf (intKind prg w) dm f := by obtain ⟨ob, es, ep, ho, r⟩ := hm; exact ⟨ob, es, ep, F.keep _ _ ho, r⟩
  refine translate_one (y := esc c) rfl hsys hc hm1 ?_ (fun h' t' tk kp => hR _ _ _ (fun b o e => kp _ _ (F.keep b o e)) ⟨t', rfl⟩)
  cases hs : special c with
  | true =>
    obtain ⟨u, hu2⟩ := (hf c hc).1 hs
    refine .inl ⟨u, ?_, ?_⟩
    · rw [hu2]; simp [esc, hs]
    · simp [esc, hs]; rfl
  | false => exact .inr ⟨(hf c hc).2 hs, by simp [esc, hs]⟩
end Mine
namespace Mine
/-! object(), and list.append as a value -/
noncomputable abbrev objO : Obj := { cls := .type "object", data := .plain }
noncomputable abbrev bndO (l : Addr) : Obj := { cls := .type "builtin_function_or_method", data := .fields #[.builtin "list.append", .ref l] }

theorem bo_lk_get : typeLookup (.type "method_descriptor") "__get__" = pure (some (.builtin "method_descriptor.__get__")) := by rw [typeLookup_type, builtinLookup_eq_fast]; kernel_rfl
theorem bo_lk_set : typeLookup (.type "method_descriptor") "__set__" = pure none := by rw [typeLookup_type, builtinLookup_eq_fast]; kernel_rfl
theorem bo_lk_del : typeLookup (.type "method_descriptor") "__delete__" = pure none := by rw [typeLookup_type, builtinLookup_eq_fast]; kernel_rfl
theorem bo_slot_get : Slot "method_descriptor" "__get__" "method_descriptor.__get__" :=
  .of (owner := "method_descriptor") (n := "__get__") (by rw [typeLookup_type, builtinLookup_eq_fast]; kernel_rfl) (by decide +kernel) (by decide +kernel) (by decide +kernel)
    (by first | exact .inl (by decide +kernel) | exact .inr (by decide +kernel)) (by rw [isSubtype_type]; kernel_rfl)
theorem bo_entry_get : entryFor table "method_descriptor.__get__" = some Builtin.«method_descriptor.__get__» := entryFor_of_tree (by kernel_rfl)
theorem bo_args_get (a b c : Value) : argsOk "method_descriptor.__get__" ⟨[a, b, c], []⟩ := by unfold argsOk; kernel_rfl
theorem bo_told : Manifest.toldItsClass.contains "list.append" = false := by decide +kernel
theorem bo_sub : isSubtype (.type "list") (.type "list") = pure true := by rw [isSubtype_type]; kernel_rfl

section
variable {prog : Program} {w : World} {M : Model} {A : Around} {E : Value → Shared → Prop} {h : Heap} {g : Array GenState} {d : Drawn} {t : Nat} {os : OsState} {l : Addr} {o : Obj}

set_option maxHeartbeats 1000000 in
theorem bo_get {R : Result → Shared → Prop} (hx : h.get? l = some o) (hc : o.cls = .type "list") (hq : R (.ok (.ret (.ref h.objs.size))) ⟨h.push (bndO l), g, d, t, os⟩) :
    codeAny (model prog w) A (.call (.builtin "method_descriptor.__get__") ⟨[.builtin "list.append", .ref l, .type "list"], []⟩) R ⟨h, g, d, t, os⟩ := by
  have hT : (⟨h, g, d, t, os⟩ : Shared).TypeIs (.ref l) "list" := ⟨_, hx, hc⟩
  have hT5 : (⟨h, g, d, t, os⟩ : Shared).TypeIs (.builtin "list.append") "method_descriptor" := PySem.F.type_list_append
  refine codeAny_call_builtin bo_slot_get.plain bo_entry_get (bo_slot_get.check _ _ _ _ _ _ _ _ hT5 (bo_args_get _ _ _) ?_)
  have f1 := bo_told
  have f2 := bo_sub
  unfold Builtin.«method_descriptor.__get__»
  refine wpAny_bind (wpAny_of_eq (a := (.builtin "list.append", some (.ref l), some (.type "list"))) (by first | rfl | kernel_rfl) ?_)
  dsimp only
  rw [if_neg (by rw [f1]; decide)]
  refine wpAny_bind ?_
  refine wpAny_bind (wpAny_of_eq (a := (("append" : Str), Value.type "list")) (by kernel_rfl) ?_)
  dsimp only
  refine wpAny_bind (wpAny_isInstance (T := "list") (b := true) hT f2 ?_)
  simp only [Bool.not_true, Bool.false_eq_true, if_false]
  refine wpAny_pure (wpAny_bind ?_)
  exact wpAny_newObj_type (wpAny_pure hq)


set_option maxHeartbeats 1000000 in
theorem bo_entry {items : Array Value} {kk : Nat} {tk : Tok} {Q : Fin → Shared → Prop} (hx : h.get? l = some (lstO items kk)) (hq : Q (.done (.ret (.ref h.objs.size))) ⟨h.push (bndO l), g, d, t, os⟩) :
    wpAny (model prog w) A (Builtin.«object.__getattribute__» ⟨[.ref l, .str "append" tk], []⟩) Q E ⟨h, g, d, t, os⟩ := by
  have hT : (⟨h, g, d, t, os⟩ : Shared).TypeIs (.ref l) "list" := ⟨_, hx, rfl⟩
  have hT5 : (⟨h, g, d, t, os⟩ : Shared).TypeIs (.builtin "list.append") "method_descriptor" := PySem.F.type_list_append
  have f4 := PySem.F.slot_list_append.lookup
  have f5 := PySem.F.type_list_append
  have f6 := bo_lk_get
  have f7 := bo_lk_set
  have f8 := bo_lk_del
  repeat (any_goals (first | assumption | wp_step))
  exact bo_get hx rfl (wpAny_pure hq)

set_option maxHeartbeats 1000000 in
theorem bo_attr {items : Array Value} {kk : Nat} {Q : Value → Shared → Prop} (hx : h.get? l = some (lstO items kk)) (hq : ∀ t', Q (.ref h.objs.size) ⟨h.push (bndO l), g, d, t', os⟩) :
    wpAny (model prog w) A (getAttr (.ref l) "append" true) Q E ⟨h, g, d, t, os⟩ := by
  have hT : (⟨h, g, d, t, os⟩ : Shared).TypeIs (.ref l) "list" := ⟨_, hx, rfl⟩
  have f2 := PySem.F.slot_list_getattribute.lookup
  have f3 := PySem.F.slot_list_getattribute.bind (.ref l)
  unfold getAttr
  repeat (any_goals (first | assumption | wp_step))
  refine codeAny_call_builtin PySem.F.slot_list_getattribute.plain PySem.F.entry_list_ga (PySem.F.slot_list_getattribute.check _ _ _ _ _ _ _ _ (show (⟨h, g, d, t + 1, os⟩ : Shared).TypeIs (.ref l) "list" from ⟨_, hx, rfl⟩) (PySem.F.args_list_getattribute_2 _ _) ?_)
  refine bo_entry hx ?_
  show wpAny _ _ (handedOut (.ref _)) _ _ _
  exact wpAny_pure (hq _)

theorem ob_mro : mroOf (.type "object") = pure [.type "object"] := by kernel_rfl
theorem ob_new : typeLookup (.type "object") "__new__" = pure (some (.builtin "object.__new__")) := by rw [typeLookup_type, builtinLookup_eq_fast]; kernel_rfl
theorem ob_sub : isSubtype (.type "object") (.type "object") = pure true := by rw [isSubtype_type]; kernel_rfl
theorem ob_slot_init : Slot "object" "__init__" "object.__init__" :=
  .of (owner := "object") (n := "__init__") (by rw [typeLookup_type, builtinLookup_eq_fast]; kernel_rfl) (by decide +kernel) (by decide +kernel) (by decide +kernel)
    (by first | exact .inl (by decide +kernel) | exact .inr (by decide +kernel)) (by rw [isSubtype_type]; kernel_rfl)
theorem ob_called : TypeCalled "object" "object.__new__" "object.__init__" :=
  ⟨by decide +kernel, by decide +kernel, ⟨_, _, ob_mro⟩, madeBy_type ob_mro ob_new (by decide +kernel), by decide +kernel, ob_sub, ob_slot_init⟩
theorem ob_tc : checkTypeCall "object" ⟨[], []⟩ = pure () := by kernel_rfl
theorem ob_nc : checkBuiltinCall "object.__new__" ⟨[.type "object"], []⟩ = pure () := by kernel_rfl
theorem ob_here : Bind.madeHere "object.__new__" (.type "object") = pure () := by kernel_rfl
theorem ob_dict : typeHasDict (.type "object") = false := by decide +kernel
theorem ob_noNew : (Manifest.find? "object").elim false (fun b => b.mro.any (fun t => (Manifest.find? t).elim false (·.noNew))) = false := by decide +kernel
theorem ob_args (a : Value) : argsOk "object.__init__" ⟨[a], []⟩ := by unfold argsOk; kernel_rfl

theorem ob_new_meets : Meets (Builtin.«object.__new__» ⟨[.type "object"], []⟩) (fun _ R s => R (.ok (.ret (.ref s.heap.objs.size))) { s with heap := s.heap.push objO }) := by
  refine Meets.of_wp fun prog w A R s hs => ?_
  unfold Builtin.«object.__new__»
  have f2 := ob_here
  have f3 := ob_dict
  have f4 := ob_noNew
  repeat (any_goals (first | assumption | wp_step))
  exact ⟨_, rfl, hs⟩

theorem new_object {Q : Value → Shared → Prop} (hq : ∀ t', Q (.ref h.objs.size) ⟨h.push objO, g, d, t', os⟩) :
    wpAny (model prog w) A (call (.type "object") []) Q E ⟨h, g, d, t, os⟩ := by
  refine callType_meets (Q₁ := fun obj s₁ => obj = .ref h.objs.size ∧ s₁ = ⟨h.push objO, g, d, t, os⟩) ob_called ob_tc ob_nc PySem.F.entry_object_new PySem.F.entry_object_init ob_new_meets ⟨rfl, rfl⟩ ?_
  rintro _ _ ⟨rfl, rfl⟩
  exact ⟨⟨objO, Heap.get?_push_size _ rfl, rfl⟩, ob_args _, fun _ R s => R (.ok (.ret .none)) s, Meets.of_wp fun prog w A R s hs => wpAny_pure ⟨_, rfl, hs⟩, rfl, hq _⟩
end
end Mine
namespace Mine
theorem bc_sig : Manifest.signature? "list.append" = some ⟨.oneArg, "list.append", "append", .self, [⟨"object", .posOnly, true⟩]⟩ := by kernel_rfl
theorem bc_kind : builtinKind "list.append" = some .method := by decide +kernel
theorem bc_mod : isSubtype (.type "list") (.type "module") = pure false := by rw [isSubtype_type]; kernel_rfl
theorem bc_var : Manifest.varargsMethods.contains "list.append" = false := by decide +kernel
theorem bc_check (a b : Value) : Bind.checkArgs "list.append" ⟨.oneArg, s!"{Bind.lastOf "list"}.{Bind.lastOf "list.append"}", "append", .self, [⟨"object", .posOnly, true⟩]⟩ ⟨[a, b], []⟩ = pure () := by kernel_rfl
theorem bc_ttype : isSubtype (.type "list") (.type "type") = pure false := by rw [isSubtype_type]; kernel_rfl

section
variable {prog : Program} {w : World} {M : Model} {A : Around} {E : Value → Shared → Prop} {h : Heap} {g : Array GenState} {d : Drawn} {t : Nat} {os : OsState} {l : Addr} {o : Obj}
theorem bo_check {x : Value} {items : Array Value} {kk : Nat} {Q : Unit → Shared → Prop} (hx : h.get? l = some (lstO items kk)) (hq : Q () ⟨h, g, d, t, os⟩) : wpAny M A (checkBoundCall "list.append" ⟨[.ref l, x], []⟩) Q E ⟨h, g, d, t, os⟩ := by
  have hT : (⟨h, g, d, t, os⟩ : Shared).TypeIs (.ref l) "list" := ⟨_, hx, rfl⟩
  unfold checkBoundCall
  rw [bc_sig]
  simp only [bc_kind]
  refine wpAny_bind (wpAny_isInstance (T := "list") (b := false) hT bc_mod ?_)
  rw [bc_var]
  refine wpAny_bind (wpAny_bind (wpAny_loadPart_at hx (wpAny_pure ?_)))
  simp only [Bool.false_eq_true, if_false]
  refine wpAny_bind (wpAny_typeOf (T := "list") hT ?_)
  refine wpAny_of_eq (bc_check _ _) hq

theorem bnd_call {b : Addr} {x : Value} {items : Array Value} {kk : Nat} {Q : Value → Shared → Prop} (hb : h.get? b = some (bndO l)) (hx : h.get? l = some (lstO items kk))
    (hq : ∀ h' kk', h'.get? l = some (lstO (items.push x) kk') → Heap.SameBut l h h' → Q .none ⟨h', g, d, t, os⟩) (hsz : items.size ≤ sizeLine) : wpAny (model prog w) A (call (.ref b) [x]) Q E ⟨h, g, d, t, os⟩ := by
  refine wpAny_call (codeAny_of_tree ?_)
  show wpAny _ A.in1 (callAny (.ref b) ⟨[x], []⟩) _ _ _
  simp only [callAny]
  refine wpAny_bind (wpAny_load hb ?_)
  simp only [show (Value.type "builtin_function_or_method" == Value.type "method" || Value.type "builtin_function_or_method" == Value.type "builtin_function_or_method" || Value.type "builtin_function_or_method" == Value.type "method-wrapper") = true by decide, if_true]
  refine KFB.if_so (by decide) ?_
  refine wpAny_bind (bo_check hx ?_)
  refine wpAny_bind (wpAny_pure (wpAny_pure ?_))
  refine ⟨Code.quiet_builtin _ (by decide +kernel), codeAny_builtin entry_list_append ?_⟩
  show wpAny _ _ (updateSeq l (·.push x) >>= fun _ => ret .none) _ _ _
  refine wpAny_bind ?_
  refine wpAny_updateSeq (s := ⟨h, g, d, t, os⟩) hx rfl (wpAny_pure ?_)
  refine hq _ (kk + 1) ?_ (Heap.SameBut.update ..)
  show (Heap.update h l _).get? l = _
  rw [Heap.get?_update_self _ hx (by rw [Obj.mapSeq_push_plain]; rfl), Obj.mapSeq_push_plain]
end

section
variable {w : World} {M : Model} {A : Around} {E : Value → Shared → Prop} {h h' : Heap} {g : Array GenState} {d : Drawn} {k : Nat} {o : OsState} {name : Str} {sc : Scope} {L a : Addr} {cd : Value} {cl : List (Str × Addr)} {h₀ : Heap} {vals : List (Option Value)}
  {m : Str → Option Value} {mg mb : Str → Option Value} {ad : Nat → Addr} {news : List (Addr × Obj)} {env : Env} {pos : Pos}

theorem updL {D : Addr} {ob ob' : Obj} (F : Fr h₀ L h m) (N : News h₀ L h ((D, ob) :: news)) (hD : ∀ p ∈ news, p.1 ≠ D) (hs : Heap.SameBut D h h') (hx : h'.get? D = some ob') : Fr h₀ L h' m ∧ News h₀ L h' ((D, ob') :: news) := by
  have n := N (D, ob) List.mem_cons_self
  have hD0 : h₀.get? D = none := n.2.2
  have hDL : D ≠ L := n.2.1
  refine ⟨⟨F.ns.sameBut hs (Ne.symm hDL), fun b o e => hs.extBut b o (fun q => by subst q; rw [hD0] at e; cases e) (F.keep b o e), F.above⟩, fun p hp => ?_⟩
  rcases List.mem_cons.mp hp with rfl | hp
  · exact ⟨hx, hDL, hD0⟩
  · have n2 := N p (List.mem_cons_of_mem _ hp)
    exact ⟨hs.extBut _ _ (hD p hp) n2.1, n2.2⟩

theorem appS {D : Addr} {items : Array Value} {kk : Nat} {x : Value} {Q : Value → Shared → Prop} (F : Fr h₀ L h m) (N : News h₀ L h ((D, lstO items kk) :: news)) (hD : ∀ p ∈ news, p.1 ≠ D)
    (q : ∀ h' kk', Heap.SameBut D h h' → Fr h₀ L h' m → News h₀ L h' ((D, lstO (items.push x) kk') :: news) → Q .none ⟨h', g, d, k, o⟩) (hsz : items.size ≤ sizeLine := by size_fits) :
    wpAny (model prg w) A (call (.builtin "list.append") [.ref D, x]) Q E ⟨h, g, d, k, o⟩ := by
  refine wpAny_list_append_plain (s := ⟨h, g, d, k, o⟩) (l := D) (items := items) ⟨kk, N.get List.mem_cons_self⟩ (fun h' hl hs => ?_) hsz
  obtain ⟨kk', e⟩ := hl
  obtain ⟨F', N'⟩ := updL F N hD hs e
  exact q h' kk' hs F' N'

/-- a call of a bound append: the arguments first -/
theorem cwBnd {s : Shared} {b : Addr} {D : Addr} {e : Expr} {Q : Value → Shared → Prop}
    (q : wpAny M A (eval e env) (fun v s₁ => s₁.heap.get? b = some (bndO D) ∧ wpAny M A (call (.ref b) [v]) Q E s₁) E s) (hp : plainE e = true := by rfl) :
    wpAny M A (callWith pos (.ref b) [] (backTo pos (starEach [e] env)) []) Q E s := by
  rw [starE hp]
  unfold callWith
  refine wpAny_bind (wpAny_holding (wpAny_mono (Q := fun x s₁ => s₁.heap.get? b = some (bndO D) ∧ wpAny M A (call (.ref b) ([] ++ x.pos) x.kw) Q E s₁) ?_ (fun x s₁ h₁ => wpAny_bind (wpAny_standAt ?_)) fun _ _ x => x))
  · exact evalArgs_plain (spliced_cons (wpAny_mono q (fun v s₁ h₁ => spliced_nil h₁) fun _ _ e => e))
  obtain ⟨ho, hcall⟩ := h₁
  have hplain : (backTo pos ((false, eval e env) :: starEach [] env)).any (·.1) = false := rfl
  simp only [hplain, List.any_nil, Bool.or_false]
  refine wpAny_bind (m := keeperOf (.ref b)) ?_
  unfold keeperOf
  refine wpAny_bind (wpAny_load ho ?_)
  simp only [show (Value.type "builtin_function_or_method" != Value.type "method") = true by decide, show (Value.type "builtin_function_or_method" == Value.type "builtin_function_or_method" || Value.type "builtin_function_or_method" == Value.type "method-wrapper") = true by decide, if_true]
  refine wpAny_pure ?_
  exact wpAny_bind (wpAny_mono hcall (fun r s₂ hr => wpAny_bind (wpAny_holding (wpAny_point (wpAny_pure hr)))) fun _ _ x => x)
theorem callT0 {M : Model} {s : Shared} {func : Expr} {T : String} {Q : Value → Shared → Prop} (hf : ∀ Q' : Value → Shared → Prop, Q' (.type T) s → wpAny M A (eval func env) Q' E s)
    (h : wpAny M A (call (.type T) []) Q E s)
    (he : eval (.Call func [] [] pos) env = (do callWith pos (← eval func env) [] (backTo pos (starEach [] env)) (backToKw pos (keywordEach [] env))) := by rfl) : wpAny M A (eval (.Call func [] [] pos) env) Q E s := by
  refine Call_ (hf _ ?_) he
  refine PySem.callWith_type rfl ?_
  unfold evalArgs
  show wpAny _ _ (spliced [] >>= fun p => pure (p, none) >>= _) _ _ _
  refine wpAny_bind (spliced_nil (wpAny_bind (wpAny_pure ?_)))
  refine wpAny_holding ?_
  exact wpAny_bind (wpAny_pure (wpAny_bind (wpAny_pure (wpAny_pure h))))
end
end Mine
namespace Mine
section
variable {w : World} {M : Model} {A : Around} {E : Value → Shared → Prop} {h h' : Heap} {g : Array GenState} {d : Drawn} {k : Nat} {o : OsState} {name : Str} {sc : Scope} {L a : Addr} {cd : Value} {cl : List (Str × Addr)} {h₀ : Heap} {vals : List (Option Value)}
  {m : Str → Option Value} {mg mb : Str → Option Value} {ad : Nat → Addr} {news : List (Addr × Obj)} {env : Env} {pos : Pos}

theorem ext_kp (he : Heap.ExtBut h.objs.size h h') : Kp h h' := fun b o e => he b o (fun q => by subst q; exact absurd (Heap.lt_size e) (Nat.lt_irrefl _)) e
theorem Fr.kp (F : Fr h₀ L h m) (kp : Kp h h') : Fr h₀ L h' m := ⟨F.ns.keeps kp, fun b o e => kp b o (F.keep b o e), F.above⟩
theorem News.kp (N : News h₀ L h news) (kp : Kp h h') : News h₀ L h' news := fun p hp => ⟨kp _ _ (N p hp).1, (N p hp).2⟩
theorem News.sub {news' : List (Addr × Obj)} (N : News h₀ L h news) (hs : ∀ p ∈ news', p ∈ news) : News h₀ L h news' := fun p hp => N p (hs p hp)

theorem News.got {D : Addr} {ob : Obj} {h₁ : Heap} (F : Fr h₀ L h m) (N : News h₀ L h news) (N' : News h₀ L h₁ news) (hf : h.get? D = none) (hD : h₁.get? D = some ob) : News h₀ L h₁ ((D, ob) :: news) ∧ ∀ p ∈ news, p.1 ≠ D := by
  refine ⟨fun p hp => ?_, fun p hp e => ?_⟩
  · rcases List.mem_cons.mp hp with rfl | hp
    · refine ⟨hD, ?_, ?_⟩
      · rintro rfl
        obtain ⟨o, es, ep, e, _⟩ := F.ns
        rw [hf] at e; cases e
      · cases q : h₀.get? D with
        | none => rfl
        | some o => have := F.keep _ _ q; rw [hf] at this; cases this
    · exact N' p hp
  · have := (N p hp).1
    rw [e, hf] at this; cases this
theorem unpS {T : Addr} {items : Array Value} {n : Nat} {Q : List Value → Shared → Prop} (hh : A.handled = none) (F : Fr h₀ L h m) (N : News h₀ L h news) (ht : h.get? T = some { cls := .type "tuple", data := .seq items }) (hn : n = items.size)
    (q : ∀ h', Kp h h' → Fr h₀ L h' m → News h₀ L h' news → Q items.toList ⟨h', g, d, k, o⟩) : wpAny (model prg w) A (unpackItems (.ref T) n none) Q E ⟨h, g, d, k, o⟩ := by
  subst hn
  exact unpackItems_tuple (s := ⟨h, g, d, k, o⟩) hh ⟨_, ht, rfl, _, rfl⟩ fun h' he => q h' (ext_kp he) (Fr.kp F (ext_kp he)) (News.kp N (ext_kp he))
theorem asgT {elts : List Expr} {xx} {tpos : Pos} {T : Addr} {items : Array Value} {Q : Unit → Shared → Prop} (hh : A.handled = none) (F : Fr h₀ L h m) (N : News h₀ L h news) (ht : h.get? T = some { cls := .type "tuple", data := .seq items })
    (hn : (assignEach elts env).length = items.size) (hstar : (assignEach elts env).findIdx? (·.1) = none)
    (q : ∀ h', Kp h h' → Fr h₀ L h' m → News h₀ L h' news → wpAny (model prg w) A (assignInOrder ((assignEach elts env).map (·.2)) items.toList) Q E ⟨h', g, d, k, o⟩) : wpAny (model prg w) A (assign (.Tuple elts xx tpos) env (.ref T)) Q E ⟨h, g, d, k, o⟩ :=
  assign_Tuple_tuple (s := ⟨h, g, d, k, o⟩) hh ⟨_, ht, rfl, _, rfl⟩ hn hstar fun h' he => q h' (ext_kp he) (Fr.kp F (ext_kp he)) (News.kp N (ext_kp he))
end

section
variable {w : World} {M : Model} {A : Around} {E : Value → Shared → Prop} {h h' : Heap} {g : Array GenState} {d : Drawn} {k : Nat} {o : OsState} {name : Str} {sc : Scope} {L a : Addr} {cd : Value} {cl : List (Str × Addr)} {h₀ : Heap} {vals : List (Option Value)}
  {m : Str → Option Value} {mg mb : Str → Option Value} {ad : Nat → Addr} {news : List (Addr × Obj)} {env : Env} {pos : Pos}
theorem item_at {x : Str} {i c : Nat} (hc : x.cps.toList[i]? = some c) : Txt.item x (i : Int) = one c :=
  item_meets (by lia) (by simpa using hc)
theorem itemT {value slice : Expr} {x : Str} {t u : Tok} {i c : Nat} {Q : Value → Shared → Prop} (hc : x.cps.toList[i]? = some c) (hb : i ≤ 1000000) (q : ∀ t' k', Q (.str (one c) t') ⟨h, g, d, k', o⟩)
    (hs : subscripted slice false (.str x t) (.int i u) = operate [.str x t, .int i u] (getItem (.str x t) (.int i u)) := by with_unfolding_all rfl)
    (ht : ∀ r, letTemporaryGo value (.str x t) r = pure () := by intro _; with_unfolding_all rfl) :
    wpAny (model prg w) A (subscriptTail value slice (.str x t) (.int i u)) Q E ⟨h, g, d, k, o⟩ := by
  have hi : i < x.length := by
    have := (List.getElem?_eq_some_iff.mp hc).1
    simpa [Str.length] using this
  refine item_str (by unfold fitsSsize; simp; lia) (by lia) (by lia) (fun _ => ?_) hs ht
  rw [item_at hc]
  exact q _ _
theorem addS {B D : Addr} {items : Array Value} {kk : Nat} {v : Value} {Q : Value → Shared → Prop} (F : Fr h₀ L h m) (N : News h₀ L h ((D, lstO items kk) :: news)) (hB : (B, bndO D) ∈ news) (hD : ∀ p ∈ news, p.1 ≠ D)
    (q : ∀ h' kk', Fr h₀ L h' m → News h₀ L h' ((D, lstO (items.push v) kk') :: news) → Q .none ⟨h', g, d, k, o⟩) (hsz : items.size ≤ 1000000) :
    (⟨h, g, d, k, o⟩ : Shared).heap.get? B = some (bndO D) ∧ wpAny (model prg w) A (call (.ref B) [v]) Q E ⟨h, g, d, k, o⟩ := by
  have hb := N.get (List.mem_cons_of_mem _ hB)
  refine ⟨hb, bnd_call hb (N.get List.mem_cons_self) (fun h' kk' e hs => ?_) (by rw [sizeLine]; lia)⟩
  obtain ⟨F', N'⟩ := updL F N hD hs e
  exact q h' kk' F' N'
theorem truthyL {l : Addr} {vs : List Value} {Q : Bool → Shared → Prop} (hl : h.IsList l vs.toArray) (hb : vs.length ≤ 1000000) (q : ∀ k', Q (!vs.isEmpty) ⟨h, g, d, k', o⟩) : wpAny (model prg w) A (truthy (.ref l)) Q E ⟨h, g, d, k, o⟩ := by
  refine wpAny_truthy_list (s := ⟨h, g, d, k, o⟩) hl (by simp; lia) ?_
  have : (!vs.toArray.isEmpty) = !vs.isEmpty := by simp
  rw [this]
  exact q _
end
end Mine
namespace Mine
/-! the parts of a pattern: none is the star -/
noncomputable def padd (acc : List (Option Str)) (c : Nat) : List (Option Str) :=
  if c = 42 then (if acc.getLast? = some none then acc else acc ++ [none]) else if c = 63 then acc ++ [some (one 46)] else acc ++ [some (esc c)]
noncomputable def parts (cs : List Nat) : List (Option Str) := cs.foldl padd []
noncomputable def PIs (S : Addr) (v : Value) : Option Str → Prop | none => v = .ref S | some x => ∃ t, v = .str x t
noncomputable def PtsAre (S : Addr) (vs : List Value) (ps : List (Option Str)) : Prop := vs.length = ps.length ∧ ∀ (i : Nat) (v : Value) (p : Option Str), vs[i]? = some v → ps[i]? = some p → PIs S v p
theorem PtsAre.snoc {S : Addr} {vs : List Value} {ps : List (Option Str)} {v : Value} {p : Option Str} (x : PtsAre S vs ps) (hv : PIs S v p) : PtsAre S (vs ++ [v]) (ps ++ [p]) := by
  obtain ⟨hl, hx⟩ := x
  refine ⟨by simp [hl], fun i w q hw hq => ?_⟩
  by_cases hi : i < vs.length
  · rw [List.getElem?_append_left hi] at hw
    rw [List.getElem?_append_left (hl ▸ hi)] at hq
    exact hx i w q hw hq
  · have h1 : i < (vs ++ [v]).length := (List.getElem?_eq_some_iff.mp hw).1
    have h2 : i = vs.length := by simp at h1; lia
    subst h2
    simp at hw
    rw [hl] at hq
    simp at hq
    subst hw hq
    exact hv
theorem parts_take {cs : List Nat} {i c : Nat} (hc : cs[i]? = some c) : parts (cs.take (i + 1)) = padd (parts (cs.take i)) c := by
  obtain ⟨hi, rfl⟩ := List.getElem?_eq_some_iff.mp hc
  rw [parts, List.take_succ_eq_append_getElem hi, List.foldl_append]
  rfl
theorem parts_len (cs : List Nat) : (parts cs).length ≤ cs.length := by
  have : ∀ (cs : List Nat) (acc : List (Option Str)), (cs.foldl padd acc).length ≤ acc.length + cs.length := by
    intro cs
    induction cs with
    | nil => intro acc; simp
    | cons c cs ih =>
      intro acc
      have h1 := ih (padd acc c)
      have h2 : (padd acc c).length ≤ acc.length + 1 := by
        unfold padd
        repeat' split
        all_goals simp
      simp only [List.foldl_cons, List.length_cons]
      lia
  have := this cs []
  simpa [parts] using this

theorem one_beq (c e : Nat) : (one c == one e) = decide (c = e) := by
  rw [Bool.eq_iff_iff, beq_iff_eq, decide_eq_true_eq]
  constructor
  · intro h; simpa [one] using h
  · rintro rfl; rfl

theorem sc9 : ScOk (dScope 9) := .of (by decide +kernel)
inductive TrInv (cs : List Nat) (S D B : Addr) (t tq t7 : Tok) (n : Nat) (vals : List (Option Value)) (news : List (Addr × Obj)) : Prop
  | mk (i : Nat) (ti : Tok) (c : Option Value) (vs : List Value) (kk : Nat) (h1 : i ≤ cs.length) (h2 : n = cs.length - i) (h3 : vals = [some (.str ⟨cs.toArray⟩ t), some (.ref S), some (.str (one 46) tq), some (.ref D), some (.ref B), some (.int i ti), some (.int cs.length t7), c, none, none, none, none, none, none, none, none, none]) (h4 : news = [(D, lstO vs.toArray kk), (B, bndO D)]) (h5 : PtsAre S vs (parts (cs.take i))) : TrInv cs S D B t tq t7 n vals news
set_option maxHeartbeats 4000000 in
theorem translate9_c {w : World} {ad : Nat → Addr} {mg mb : Str → Option Value} (h0 : Heap) (cs : List Nat) (S : Addr) (t tq : Tok) (hb : cs.length ≤ 100) (hcs : ∀ c ∈ cs, c < 128 ∧ c ≠ 91) :
    FnC w ad mg mb 9 [.str ⟨cs.toArray⟩ t, .ref S, .str (one 46) tq] 3 (fun h => h = h0 ∧ h.get? S = some objO ∧ Sp w mg h) (fun h v => ∃ D vs kk, v = .ref D ∧ h0.get? D = none ∧ h.get? D = some (lstO vs.toArray kk) ∧ PtsAre S vs (parts cs)) := by
  rintro ⟨hd0, dp, fr, gd, un⟩ ⟨h, g, d, k, o⟩ R hh hd hu l ⟨e0, hS, sp⟩ hR
  dsimp only at hh hd hu hR hS sp e0
  subst e0
  subst hh
  have ok := sc9
  refine enterS 9 ["pat", "STAR", "QUESTION_MARK"] _ l (by decide) ok (by show dp < _; lia) (by with_unfolding_all rfl) (by with_unfolding_all rfl) rfl (fun _ _ _ => rfl) (by decide +kernel) (by decide +kernel) (fun L cd h₁ k₁ hL F N => ?_)
  replace F : Fr h L h₁ (locs (nms (dScope 9)) [some (.str ⟨cs.toArray⟩ t), some (.ref S), some (.str (one 46) tq), none, none, none, none, none, none, none, none, none, none, none, none, none, none]) := F
  refine hideA ?_
  intro AHid
  refine wpAny_execs_cons (hideLet ?_)
  intro PHid
  refine wpAny_Assign_Name (List_ (args_nil (newListS F N (fun D h₂ kp F2 N2 hD => ?_))))
  refine stS 3 [some (.str ⟨cs.toArray⟩ t), some (.ref S), some (.str (one 46) tq), some (.ref D), none, none, none, none, none, none, none, none, none, none, none, none, none] ok F2 N2 rfl (Nat.le_of_ble_eq_true rfl) rfl (fun h₃ k₃ F3 N3 => ?_)
  refine wpAny_execs_cons (hideLet ?_)
  intro PHid
  refine wpAny_Assign_Name (Attribute_name (ldl 3 ok F3 rfl rfl (bo_attr (N3.get List.mem_cons_self) fun k4 => ?_)))
  generalize hB : h₃.objs.size = B
  have F4 := F3.push (bndO D)
  have N4 := News.push F3 N3 (bndO D)
  rw [hB] at N4
  have hBD : D ≠ B := by rw [← hB]; exact Nat.ne_of_lt (Heap.lt_size (N3.get List.mem_cons_self))
  replace N4 : News h L _ [(D, lstO #[] 0), (B, bndO D)] := News.sub N4 (fun p hp => by simpa [or_comm] using hp)
  generalize h₃.push (bndO D) = h₄ at F4 N4 ⊢
  refine stS 4 [some (.str ⟨cs.toArray⟩ t), some (.ref S), some (.str (one 46) tq), some (.ref D), some (.ref B), none, none, none, none, none, none, none, none, none, none, none, none] ok F4 N4 rfl (Nat.le_of_ble_eq_true rfl) rfl (fun h₅ k₅ F5 N5 => ?_)
  refine wpAny_execs_cons (hideLet ?_)
  intro PHid
  refine Assign_Tuple_swapped (Tuple_ (arg (cInt fun t6 k6 => arg ?_))) (by rfl) (by rfl)
  refine callB (fun Q' q => ldb 13 ok l F5 rfl (by decide) boot_len q) (arg (ldl 0 ok F5 rfl rfl (args_nil ?_)))
  refine lenSS (by simp [Str.length]; lia) (fun t7 k7 => args_nil (newTupS F5 N5 (fun T h₆ kp6 F6 N6 hT => ?_)))
  refine unpS rfl F6 N6 (N6.get List.mem_cons_self) rfl (fun h₇ kp7 F7 N7 => ?_)
  refine assignInOrder_cons (bindName_ (stS 6 [some (.str ⟨cs.toArray⟩ t), some (.ref S), some (.str (one 46) tq), some (.ref D), some (.ref B), none, some (.int cs.length t7), none, none, none, none, none, none, none, none, none, none] ok F7 N7 rfl (Nat.le_of_ble_eq_true rfl) rfl (fun h₈ k₈ F8 N8 => ?_)))
  refine assignInOrder_cons (bindName_ (stS 5 [some (.str ⟨cs.toArray⟩ t), some (.ref S), some (.str (one 46) tq), some (.ref D), some (.ref B), some (.int 0 t6), some (.int cs.length t7), none, none, none, none, none, none, none, none, none, none] ok F8 N8 rfl (Nat.le_of_ble_eq_true rfl) rfl (fun h₉ k₉ F9 N9 => assignInOrder_nil ?_)))
  replace N9 := newsTail N9
  refine wpAny_execs_cons (hideLet ?_)
  intro PHid
  refine whileS (TrInv cs S D B t tq t7) cs.length F9 N9 ⟨0, t6, none, [], 0, by lia, by lia, rfl, rfl, rfl, fun i v p hv => by simp at hv⟩ ?_
  rintro E' n vals news h' k' ⟨i, ti, c0, vs, kk, hi, rfl, rfl, rfl, hp⟩ F N
  refine hideLet ?_
  intro PHid
  have hlen := hp.1
  have hpl := parts_len (cs.take i)
  rw [List.length_take] at hpl
  refine wpAny_isTrue_Compare1 (ldl 5 ok F rfl rfl (ldl 6 ok F rfl rfl (lt_int (wpAny_truthy_bool ?_))))
  by_cases hlt : i < cs.length
  · rw [decide_eq_true (by lia)]
    refine ite_tt ?_
    obtain ⟨c, hc⟩ : ∃ c, cs[i]? = some c := ⟨_, List.getElem?_eq_getElem hlt⟩
    have hcc := hcs c (List.mem_of_getElem? hc)
    refine wpAny_execs_cons (hideLet ?_)
    intro PHid
    refine wpAny_Assign_Name (Subscript_ (ldl 0 ok F rfl rfl (ldl 5 ok F rfl rfl (itemT (by simpa using hc) (by lia) (fun t8 k8 => ?_)))))
    refine stS 7 [some (.str ⟨cs.toArray⟩ t), some (.ref S), some (.str (one 46) tq), some (.ref D), some (.ref B), some (.int i ti), some (.int cs.length t7), some (.str (one c) t8), none, none, none, none, none, none, none, none, none] ok F N rfl (Nat.le_of_ble_eq_true rfl) rfl (fun h1 k1 F1 N1 => ?_)
    refine wpAny_execs_cons (hideLet ?_)
    intro PHid
    refine wpAny_Assign_Name (wpAny_BinOp (ldl 5 ok F1 rfl rfl (cInt fun t9 k9 => addI fun t10 k10 => ?_)))
    refine stS 5 [some (.str ⟨cs.toArray⟩ t), some (.ref S), some (.str (one 46) tq), some (.ref D), some (.ref B), some (.int (i + 1 : Nat) t10), some (.int cs.length t7), some (.str (one c) t8), none, none, none, none, none, none, none, none, none] ok F1 N1 rfl (Nat.le_of_ble_eq_true rfl) rfl (fun h2 k2 F2 N2 => ?_)
    -- the end of each road
    have hgo : ∀ (h3 : Heap) (k3 : Nat) (v : Value) (kk3 : Nat) (p : Option Str), PIs S v p → padd (parts (cs.take i)) c = parts (cs.take i) ++ [p] → Fr h L h3 (locs (nms (dScope 9)) [some (.str ⟨cs.toArray⟩ t), some (.ref S), some (.str (one 46) tq), some (.ref D), some (.ref B), some (.int (i + 1 : Nat) t10), some (.int cs.length t7), some (.str (one c) t8), none, none, none, none, none, none, none, none, none]) →
        News h L h3 [(D, lstO (vs.toArray.push v) kk3), (B, bndO D)] → ∃ m, m < cs.length - i ∧ At h L (dScope 9) g d o (TrInv cs S D B t tq t7 m) ⟨h3, g, d, k3, o⟩ := by
      intro h3 k3 v kk3 p hv hpa F3 N3
      refine ⟨cs.length - (i + 1), by lia, At.mk F3 N3 ⟨i + 1, t10, _, vs ++ [v], kk3, by lia, rfl, rfl, by simp, ?_⟩⟩
      rw [parts_take hc, hpa]
      exact hp.snoc hv
    have hD : h2.IsList D vs.toArray := ⟨_, N2.get List.mem_cons_self, rfl, _, rfl⟩
    have hBD' : ∀ p ∈ [(B, bndO D)], p.1 ≠ D := fun p hp => by rw [List.mem_singleton.mp hp]; exact Ne.symm hBD
    refine wpAny_execs_cons (hideLet ?_)
    intro PHid
    refine wpAny_If (wpAny_isTrue_Compare1 (ldl 7 ok F2 rfl rfl (cStr fun t11 k11 => PyProof.Rows.eq_str (wpAny_truthy_bool ?_))))
    show if (one c == one 42) = true then _ else _
    rw [one_beq]
    by_cases h42 : c = 42
    · subst h42
      refine ite_tt ?_
      refine wpAny_execs_cons (hideLet ?_)
      intro PHid
      refine wpAny_If (wpAny_mono (Q := fun b s' => b = !decide ((parts (cs.take i)).getLast? = some none) ∧ ∃ k', s' = ⟨h2, g, d, k', o⟩) ?_ ?_ (fun _ _ e => e))
      · refine isTrue_or (isTrue_not (isTrue_plain (ldl 3 ok F2 rfl rfl (truthyL hD (by lia) fun k12 => ?_))))
        cases hvs : vs with
        | nil =>
          have : parts (cs.take i) = [] := by rw [hvs] at hlen; exact List.length_eq_zero_iff.mp hlen.symm
          exact ⟨by rw [this]; rfl, _, rfl⟩
        | cons v0 vr =>
          have hne : vs ≠ [] := by rw [hvs]; exact List.cons_ne_nil _ _
          rw [← hvs]
          have hem : (!(!vs.isEmpty)) = false := by rw [hvs]; rfl
          rw [hem]
          refine ite_ff (isTrue_or (wpAny_isTrue_Compare1 (Subscript_ (ldl 3 ok F2 rfl rfl (UnaryOp_ (cInt fun t13 k13 => minusI fun t14 k14 => ?_))))))
          have hpos : 0 < vs.length := List.length_pos_iff.mpr hne
          obtain ⟨v, hv⟩ : ∃ v, vs[vs.length - 1]? = some v := ⟨_, List.getElem?_eq_getElem (by lia)⟩
          obtain ⟨p, hpp⟩ : ∃ p, (parts (cs.take i))[vs.length - 1]? = some p := ⟨_, List.getElem?_eq_getElem (by lia)⟩
          have hlast : (parts (cs.take i)).getLast? = some p := by rw [List.getLast?_eq_getElem?, ← hlen, hpp]
          have hvp := hp.2 _ _ _ hv hpp
          refine itemLastS hD hne hv (ldl 1 ok F2 rfl rfl ?_)
          rw [hlast]
          cases p with
          | none =>
            obtain rfl : v = .ref S := hvp
            refine wpAny_isNot_ref_self (wpAny_truthy_bool (ite_ff (isTrue_or_nil ⟨by simp, _, rfl⟩)))
          | some x =>
            obtain ⟨tx, rfl⟩ := hvp
            refine wpAny_isNot_other rfl (by intro e; cases e) (wpAny_truthy_bool (ite_tt ⟨by simp, _, rfl⟩))
      · rintro _ _ ⟨rfl, k15, rfl⟩
        by_cases hst : (parts (cs.take i)).getLast? = some none
        · rw [decide_eq_true hst]
          refine ite_ff (wpAny_execs_nil (wpAny_execs_nil (wpAny_execs_nil ?_)))
          refine ⟨cs.length - (i + 1), by lia, At.mk F2 N2 ⟨i + 1, t10, _, vs, kk, by lia, rfl, rfl, rfl, ?_⟩⟩
          rw [parts_take hc, padd, if_pos rfl, if_pos hst]
          exact hp
        · rw [decide_eq_false hst]
          refine ite_tt (wpAny_execs_cons (hideLet ?_))
          intro PHid
          refine wpAny_Expr_any (Call_ (ldl 4 ok F2 rfl rfl (cwBnd (ldl 1 ok F2 rfl rfl (addS F2 N2 List.mem_cons_self hBD' (fun h3 kk3 F3 N3 => ?_) (by simp; lia))))))
          refine wpAny_execs_nil (wpAny_execs_nil (wpAny_execs_nil (hgo _ _ _ _ none rfl ?_ F3 N3)))
          rw [padd, if_pos rfl, if_neg hst]
    · rw [decide_eq_false h42]
      refine ite_ff (wpAny_execs_cons (hideLet ?_))
      intro PHid
      refine wpAny_If (wpAny_isTrue_Compare1 (ldl 7 ok F2 rfl rfl (cStr fun t11 k11 => PyProof.Rows.eq_str (wpAny_truthy_bool ?_))))
      show if (one c == one 63) = true then _ else _
      rw [one_beq]
      by_cases h63 : c = 63
      · subst h63
        refine ite_tt (wpAny_execs_cons (hideLet ?_))
        intro PHid
        refine wpAny_Expr_any (Call_ (ldl 4 ok F2 rfl rfl (cwBnd (ldl 2 ok F2 rfl rfl (addS F2 N2 List.mem_cons_self hBD' (fun h3 kk3 F3 N3 => ?_) (by simp; lia))))))
        refine wpAny_execs_nil (wpAny_execs_nil (wpAny_execs_nil (hgo _ _ _ _ (some (one 46)) ⟨_, rfl⟩ ?_ F3 N3)))
        rw [padd, if_neg h42, if_pos rfl]
      · rw [decide_eq_false h63]
        refine ite_ff (wpAny_execs_cons (hideLet ?_))
        intro PHid
        refine wpAny_If (wpAny_isTrue_Compare1 (ldl 7 ok F2 rfl rfl (cStr fun t12 k12 => PyProof.Rows.eq_str (wpAny_truthy_bool ?_))))
        show if (one c == one 91) = true then _ else _
        rw [one_beq, decide_eq_false hcc.2]
        refine ite_ff (wpAny_execs_cons (hideLet ?_))
        intro PHid
        refine wpAny_Expr_any (Call_ (ldl 4 ok F2 rfl rfl (cwBnd (D := D) ?_)))
        refine callF (kf := 7) l (by decide) (fun Q' q => ldg 16 7 ok l F2 rfl (by decide) rfl q) (arg (ldl 7 ok F2 rfl rfl (args_nil ⟨F2.keep, ?_⟩)))
        refine useS (escape_c c t8 hcc.1) rfl (by show dp + 1 + 1 < _; lia) (by show un + 3 + 8 * 1 < _; lia) l F2 N2 (sp.keeps F2.keep) (fun v h₈ k₈ F8 N8 kp hv => ?_)
        refine addS F8 N8 List.mem_cons_self hBD' (fun h3 kk3 F3 N3 => ?_) (by simp; lia)
        refine wpAny_execs_nil (wpAny_execs_nil (wpAny_execs_nil (wpAny_execs_nil (hgo _ _ _ _ (some (esc c)) hv ?_ F3 N3))))
        rw [padd, if_neg h42, if_neg h63]
  · have hin : i = cs.length := by lia
    rw [decide_eq_false (by lia)]
    refine ite_ff ?_
    refine wpAny_execs_cons (hideLet ?_)
    intro PHid
    refine wpAny_Assert_holds (wpAny_isTrue_Compare1 (ldl 5 ok F rfl rfl (ldl 6 ok F rfl rfl (eq_int (wpAny_truthy_bool ⟨by simp [hin], ?_⟩)))))
    refine wpAny_execs_cons (hideLet ?_)
    intro PHid
    refine wpAny_Return_some (ldl 3 ok F rfl rfl (hR _ _ _ F.keep ⟨D, vs, kk, rfl, N.fresh List.mem_cons_self, N.get List.mem_cons_self, ?_⟩))
    rw [hin, List.take_length] at hp
    exact hp
end Mine
namespace Mine
noncomputable abbrev tx (l : List Nat) : Str := ⟨l.toArray⟩
noncomputable def catN (ys : List Str) : List Nat := ys.flatMap fun y => y.cps.toList
noncomputable def bodyOf : List (List Str) → List Nat
  | [] => []
  | [s] => [46, 42] ++ catN s
  | s :: s2 :: r => [40, 63, 62, 46, 42, 63] ++ catN s ++ [41] ++ bodyOf (s2 :: r)
noncomputable def consHead (ys : List Str) : List (List Str) → List (List Str)
  | [] => [ys]
  | s :: t => (ys ++ s) :: t
noncomputable def segs : List (Option Str) → List (List Str)
  | [] => [[]]
  | none :: r => [] :: segs r
  | some x :: r => consHead [x] (segs r)
noncomputable def joined (ps : List (Option Str)) : List Nat := match segs ps with | [] => [] | s :: t => catN s ++ bodyOf t

theorem catN_append (a b : List Str) : catN (a ++ b) = catN a ++ catN b := by simp [catN]
theorem consHead_ne (ys : List Str) (ss : List (List Str)) : consHead ys ss ≠ [] := by cases ss <;> simp [consHead]
theorem segs_ne (ps : List (Option Str)) : segs ps ≠ [] := by
  cases ps with
  | nil => simp [segs]
  | cons p r => cases p with
    | none => simp [segs]
    | some x => exact consHead_ne _ _
theorem consHead_consHead (a b : List Str) {ss : List (List Str)} (h : ss ≠ []) : consHead a (consHead b ss) = consHead (a ++ b) ss := by
  cases ss with
  | nil => exact absurd rfl h
  | cons s t => simp [consHead]
theorem segs_some {ps : List (Option Str)} {i : Nat} {x : Str} (h : ps[i]? = some (some x)) : segs (ps.drop i) = consHead [x] (segs (ps.drop (i + 1))) := by
  obtain ⟨hi, e⟩ := List.getElem?_eq_some_iff.mp h
  rw [List.drop_eq_getElem_cons hi, e, segs]
theorem segs_none {ps : List (Option Str)} {i : Nat} (h : ps[i]? = some none) : segs (ps.drop i) = [] :: segs (ps.drop (i + 1)) := by
  obtain ⟨hi, e⟩ := List.getElem?_eq_some_iff.mp h
  rw [List.drop_eq_getElem_cons hi, e, segs]
theorem segs_end {ps : List (Option Str)} {i : Nat} (h : i = ps.length) : segs (ps.drop i) = [[]] := by
  rw [h, List.drop_length]; rfl
theorem bodyOf_len : ∀ ss : List (List Str), (bodyOf ss).length ≤ (ss.map fun s => (catN s).length + 7).sum
  | [] => by simp [bodyOf]
  | [s] => by simp [bodyOf]
  | s :: s2 :: r => by
    have := bodyOf_len (s2 :: r)
    simp only [bodyOf, List.length_append, List.length_cons, List.length_nil, List.map_cons, List.sum_cons] at this ⊢
    lia
theorem segs_len : ∀ ps : List (Option Str), (∀ x, some x ∈ ps → x.length ≤ 2) → ((segs ps).map fun s => (catN s).length + 7).sum ≤ 9 * ps.length + 7
  | [], _ => by simp [segs, catN]
  | none :: r, h => by
    have := segs_len r fun x hx => h x (List.mem_cons_of_mem _ hx)
    simp only [segs, List.map_cons, List.sum_cons, List.length_cons]
    simp only [catN, List.flatMap_nil, List.length_nil] at this ⊢
    lia
  | some x :: r, h => by
    have := segs_len r fun x hx => h x (List.mem_cons_of_mem _ hx)
    have hx := h x List.mem_cons_self
    have hx' : x.cps.size ≤ 2 := hx
    simp only [segs, List.length_cons]
    cases hs : segs r with
    | nil => exact absurd hs (segs_ne r)
    | cons s t =>
      rw [hs] at this
      simp only [consHead, List.map_cons, List.sum_cons, catN_append, List.length_append] at this ⊢
      have : (catN [x]).length = x.cps.size := by simp [catN]
      lia
theorem joined_len (ps : List (Option Str)) (h : ∀ x, some x ∈ ps → x.length ≤ 2) : (joined ps).length ≤ 9 * ps.length + 7 := by
  have h1 := segs_len ps h
  unfold joined
  cases hs : segs ps with
  | nil => simp
  | cons s t =>
    rw [hs] at h1
    have h2 := bodyOf_len t
    simp only [List.map_cons, List.sum_cons, List.length_append] at h1 ⊢
    lia
theorem join_empty (ys : List Str) : Txt.join Str.empty ys = tx (catN ys) := by
  show Builtin.Str.glued Str.empty ys = _
  rw [StrLaws.glued_eq_join]
  induction ys with
  | nil => rfl
  | cons y r ih =>
    cases r with
    | nil => simp [Str.join, catN]
    | cons y2 r2 =>
      have e : Str.join Str.empty (y :: y2 :: r2) = y ++ Str.empty ++ Str.join Str.empty (y2 :: r2) := rfl
      rw [e, ih]
      show (⟨y.cps ++ #[] ++ (catN (y2 :: r2)).toArray⟩ : Str) = _
      simp [catN]
end Mine
namespace Mine
section
variable {w : World} {M : Model} {A : Around} {E : Value → Shared → Prop} {h h' : Heap} {g : Array GenState} {d : Drawn} {k : Nat} {o : OsState} {name : Str} {sc : Scope} {L a : Addr} {cd : Value} {cl : List (Str × Addr)} {h₀ : Heap} {vals : List (Option Value)}
  {m : Str → Option Value} {mg mb : Str → Option Value} {ad : Nat → Addr} {news : List (Addr × Obj)} {env : Env} {pos : Pos}
/-- ''.join of a list of texts -/
theorem joinS {D : Addr} {vs : List Value} {ys : List Str} {t : Tok} {Q : Value → Shared → Prop} (hl : h.IsList D vs.toArray) (hs : StrsAre vs ys) (hb : (ys.map (·.length)).sum + ys.length ≤ 1000000)
    (q : ∀ t' k', Q (.str (tx (catN ys)) t') ⟨h, g, d, k', o⟩) : wpAny (model prg w) A (call (.builtin "str.join") [.str Str.empty t, .ref D]) Q E ⟨h, g, d, k, o⟩ := by
  refine join_listW (s := ⟨h, g, d, k, o⟩) hl (by simpa using hs) (by decide) (by lia) fun t' k' => ?_
  rw [join_empty]
  exact q t' k'
theorem catN_len (ys : List Str) : (catN ys).length = (ys.map (·.length)).sum := by
  induction ys with
  | nil => rfl
  | cons y r ih => rw [catN, List.flatMap_cons, List.length_append]; rw [catN] at ih; rw [ih]; simp [Str.length]
end
theorem fopen_eq (l : List Nat) : Str.empty ++ Str.ofString "(?>.*?" ++ tx l ++ Str.ofString ")" = tx ([40, 63, 62, 46, 42, 63] ++ l ++ [41]) := by
  show (⟨#[] ++ #[40, 63, 62, 46, 42, 63] ++ l.toArray ++ #[41]⟩ : Str) = tx ([40, 63, 62, 46, 42, 63] ++ l ++ [41])
  simp
theorem fpre_eq (l : List Nat) : Str.empty ++ Str.ofString "(?s:" ++ tx l ++ Str.ofString ")\\Z" = tx ([40, 63, 115, 58] ++ l ++ [41, 92, 90]) := by
  show (⟨#[] ++ #[40, 63, 115, 58] ++ l.toArray ++ #[41, 92, 90]⟩ : Str) = tx ([40, 63, 115, 58] ++ l ++ [41, 92, 90])
  simp
theorem beqN_t {a b : Nat} (h : a = b) : ((a : Int) == (b : Int)) = true := by subst h; simp
theorem beqN_f {a b : Nat} (h : a ≠ b) : ((a : Int) == (b : Int)) = false := by simp; lia
theorem sc10 : ScOk (dScope 10) := .of (by decide +kernel)
inductive JQ1 (ps : List (Option Str)) (P S D B : Addr) (t7 : Tok) (vals : List (Option Value)) (news : List (Addr × Obj)) : Prop
  | mk (i : Nat) (ti : Tok) (vs : List Value) (ys : List Str) (kk : Nat) (h1 : i ≤ ps.length) (h2 : (i < ps.length → ps[i]? = some none)) (h3 : vs.length = i) (h4 : StrsAre vs ys) (h5 : vals = [some (.ref P), some (.ref S), some (.ref D), some (.ref B), some (.int i ti), some (.int ps.length t7), none, none]) (h6 : news = [(D, lstO vs.toArray kk), (B, bndO D)]) (h7 : segs ps = consHead ys (segs (ps.drop i))) : JQ1 ps P S D B t7 vals news
inductive JA (ps : List (Option Str)) (P S D B : Addr) (t7 : Tok) (n : Nat) (vals : List (Option Value)) (news : List (Addr × Obj)) : Prop
  | mk (i : Nat) (ti : Tok) (vs : List Value) (ys : List Str) (kk : Nat) (h1 : i ≤ ps.length) (h2 : n = ps.length - i) (h3 : vs.length = i) (h4 : StrsAre vs ys) (h5 : vals = [some (.ref P), some (.ref S), some (.ref D), some (.ref B), some (.int i ti), some (.int ps.length t7), none, none]) (h6 : news = [(D, lstO vs.toArray kk), (B, bndO D)]) (h7 : segs ps = consHead ys (segs (ps.drop i))) : JA ps P S D B t7 n vals news
inductive JQ2 (ps : List (Option Str)) (P S D B : Addr) (t7 : Tok) (vals : List (Option Value)) (news : List (Addr × Obj)) : Prop
  | mk (i : Nat) (ti : Tok) (c : Option Value) (vs : List Value) (ys : List Str) (kk : Nat) (h1 : i ≤ ps.length) (h2 : i = ps.length) (h3 : (i < ps.length → ps[i]? = some none)) (h4 : vs.length ≤ 2 * i) (h5 : StrsAre vs ys) (h6 : vals = [some (.ref P), some (.ref S), some (.ref D), some (.ref B), some (.int i ti), some (.int ps.length t7), c, none]) (h7 : news = [(D, lstO vs.toArray kk), (B, bndO D)]) (h8 : joined ps = catN ys ++ bodyOf (segs (ps.drop i)).tail) : JQ2 ps P S D B t7 vals news
inductive JB (ps : List (Option Str)) (P S D B : Addr) (t7 : Tok) (n : Nat) (vals : List (Option Value)) (news : List (Addr × Obj)) : Prop
  | mk (i : Nat) (ti : Tok) (c : Option Value) (vs : List Value) (ys : List Str) (kk : Nat) (h1 : i ≤ ps.length) (h2 : n = ps.length - i) (h3 : (i < ps.length → ps[i]? = some none)) (h4 : vs.length ≤ 2 * i) (h5 : StrsAre vs ys) (h6 : vals = [some (.ref P), some (.ref S), some (.ref D), some (.ref B), some (.int i ti), some (.int ps.length t7), c, none]) (h7 : news = [(D, lstO vs.toArray kk), (B, bndO D)]) (h8 : joined ps = catN ys ++ bodyOf (segs (ps.drop i)).tail) : JB ps P S D B t7 n vals news
inductive JQ3 (ps : List (Option Str)) (P S D B : Addr) (t7 : Tok) (X : Addr) (i : Nat) (vs : List Value) (kk : Nat) (vals : List (Option Value)) (news : List (Addr × Obj)) : Prop
  | mk (j : Nat) (tj : Tok) (ws : List Value) (zs : List Str) (kx : Nat) (h1 : i + 1 < j) (h2 : j ≤ ps.length) (h3 : (j < ps.length → ps[j]? = some none)) (h4 : ws.length + (i + 1) = j) (h5 : StrsAre ws zs) (h6 : vals = [some (.ref P), some (.ref S), some (.ref D), some (.ref B), some (.int j tj), some (.int ps.length t7), some (.ref X), none]) (h7 : news = [(X, lstO ws.toArray kx), (D, lstO vs.toArray kk), (B, bndO D)]) (h8 : segs (ps.drop (i + 1)) = consHead zs (segs (ps.drop j))) : JQ3 ps P S D B t7 X i vs kk vals news
inductive JC (ps : List (Option Str)) (P S D B : Addr) (t7 : Tok) (X : Addr) (i : Nat) (vs : List Value) (kk : Nat) (n : Nat) (vals : List (Option Value)) (news : List (Addr × Obj)) : Prop
  | mk (j : Nat) (tj : Tok) (ws : List Value) (zs : List Str) (kx : Nat) (h1 : i + 1 ≤ j) (h2 : j ≤ ps.length) (h3 : n = ps.length - j) (h4 : ws.length + (i + 1) = j) (h5 : StrsAre ws zs) (h6 : vals = [some (.ref P), some (.ref S), some (.ref D), some (.ref B), some (.int j tj), some (.int ps.length t7), some (.ref X), none]) (h7 : news = [(X, lstO ws.toArray kx), (D, lstO vs.toArray kk), (B, bndO D)]) (h8 : segs (ps.drop (i + 1)) = consHead zs (segs (ps.drop j))) : JC ps P S D B t7 X i vs kk n vals news
set_option maxHeartbeats 4000000 in
theorem join10_c {w : World} {ad : Nat → Addr} {mg mb : Str → Option Value} (ps : List (Option Str)) (S P : Addr) (hb : ps.length ≤ 100) (hx : ∀ x, some x ∈ ps → x.length ≤ 2) (hadj : ∀ i : Nat, ps[i]? = some none → ps[i + 1]? ≠ some none) :
    FnC w ad mg mb 10 [.ref P, .ref S] 2 (fun h => h.get? S = some objO ∧ ∃ vs, h.IsList P vs.toArray ∧ PtsAre S vs ps) (fun _ v => ∃ t, v = .str (tx ([40, 63, 115, 58] ++ joined ps ++ [41, 92, 90])) t) := by
  rintro ⟨hd0, dp, fr, gd, un⟩ ⟨h, g, d, k, o⟩ R hh hd hu l ⟨hS, ps', hl, hp⟩ hR
  dsimp only at hh hd hu hR hS hl
  subst hh
  have ok := sc10
  have hlen := hp.1
  refine enterS 10 ["inp", "STAR"] _ l (by decide) ok (by show dp < _; lia) (by with_unfolding_all rfl) (by with_unfolding_all rfl) rfl (fun _ _ _ => rfl) (by decide +kernel) (by decide +kernel) (fun L cd h₁ k₁ hL F N => ?_)
  replace F : Fr h L h₁ (locs (nms (dScope 10)) [some (.ref P), some (.ref S), none, none, none, none, none, none]) := F
  refine hideA ?_
  intro AHid
  refine wpAny_execs_cons (hideLet ?_)
  intro PHid
  refine wpAny_Assign_Name (List_ (args_nil (newListS F N (fun D h₂ kp F2 N2 hD => ?_))))
  refine stS 2 [some (.ref P), some (.ref S), some (.ref D), none, none, none, none, none] ok F2 N2 rfl (Nat.le_of_ble_eq_true rfl) rfl (fun h₃ k₃ F3 N3 => ?_)
  refine wpAny_execs_cons (hideLet ?_)
  intro PHid
  refine wpAny_Assign_Name (Attribute_name (ldl 2 ok F3 rfl rfl (bo_attr (N3.get List.mem_cons_self) fun k4 => ?_)))
  generalize hB : h₃.objs.size = B
  have F4 := F3.push (bndO D)
  have N4 := News.push F3 N3 (bndO D)
  rw [hB] at N4
  have hBD : D ≠ B := by rw [← hB]; exact Nat.ne_of_lt (Heap.lt_size (N3.get List.mem_cons_self))
  replace N4 : News h L _ [(D, lstO #[] 0), (B, bndO D)] := News.sub N4 (fun p hp => by simpa [or_comm] using hp)
  generalize h₃.push (bndO D) = h₄ at F4 N4 ⊢
  refine stS 3 [some (.ref P), some (.ref S), some (.ref D), some (.ref B), none, none, none, none] ok F4 N4 rfl (Nat.le_of_ble_eq_true rfl) rfl (fun h₅ k₅ F5 N5 => ?_)
  refine wpAny_execs_cons (hideLet ?_)
  intro PHid
  refine Assign_Tuple_swapped (Tuple_ (arg (cInt fun t6 k6 => arg ?_))) (by rfl) (by rfl)
  refine callB (fun Q' q => ldb 7 ok l F5 rfl (by decide) boot_len q) (arg (ldl 0 ok F5 rfl rfl (args_nil ?_)))
  refine lenLS (hl.at fun o e => F5.keep _ o e) (by lia) (fun t7 k7 => args_nil (newTupS F5 N5 (fun T h₆ kp6 F6 N6 hT => ?_)))
  rw [hlen] at N6
  refine unpS rfl F6 N6 (N6.get List.mem_cons_self) rfl (fun h₇ kp7 F7 N7 => ?_)
  refine assignInOrder_cons (bindName_ (stS 5 [some (.ref P), some (.ref S), some (.ref D), some (.ref B), none, some (.int ps.length t7), none, none] ok F7 N7 rfl (Nat.le_of_ble_eq_true rfl) rfl (fun h₈ k₈ F8 N8 => ?_)))
  refine assignInOrder_cons (bindName_ (stS 4 [some (.ref P), some (.ref S), some (.ref D), some (.ref B), some (.int 0 t6), some (.int ps.length t7), none, none] ok F8 N8 rfl (Nat.le_of_ble_eq_true rfl) rfl (fun h₉ k₉ F9 N9 => assignInOrder_nil ?_)))
  replace N9 := newsTail N9
  have hBD' : ∀ p ∈ [(B, bndO D)], p.1 ≠ D := fun p hp => by rw [List.mem_singleton.mp hp]; exact Ne.symm hBD
  have item : ∀ (i : Nat), i < ps.length → ∃ v p, ps'[i]? = some v ∧ ps[i]? = some p ∧ PIs S v p := fun i hi => by
    have hi' : i < ps'.length := by lia
    exact ⟨_, _, List.getElem?_eq_getElem hi', List.getElem?_eq_getElem hi, hp.2 i _ _ (List.getElem?_eq_getElem hi') (List.getElem?_eq_getElem hi)⟩
  -- the first loop
  refine wpAny_execs_cons (hideLet ?_)
  intro PHid
  refine wpAny_mono (Q := fun f s => f = .next ∧ At h L (dScope 10) g d o (JQ1 ps P S D B t7) s) ?_ ?_ (fun _ _ e => e)
  · refine whileS (JA ps P S D B t7) ps.length F9 N9
      ⟨0, t6, [], [], 0, by lia, by lia, rfl, .nil, rfl, rfl, ?_⟩ ?_
    · rw [List.drop_zero]
      cases hs : segs ps with
      | nil => exact absurd hs (segs_ne _)
      | cons s t => rfl
    rintro E' n vals news h' k' ⟨i, ti, vs, ys, kk, hi, rfl, hvl, hst, rfl, rfl, hsg⟩ F N
    refine hideLet ?_
    intro PHid
    refine isTrue_and (wpAny_isTrue_Compare1 (ldl 4 ok F rfl rfl (ldl 5 ok F rfl rfl (lt_int (wpAny_truthy_bool ?_)))))
    by_cases hlt : i < ps.length
    · rw [decide_eq_true (by lia)]
      obtain ⟨v, p, hv, hpi, hvp⟩ := item i hlt
      refine ite_tt (isTrue_and (wpAny_isTrue_Compare1 (Subscript_ (ldl 0 ok F rfl rfl (ldl 4 ok F rfl rfl ?_)))))
      refine itemS (hl.at fun o e => F.keep _ o e) (by lia) hv (ldl 1 ok F rfl rfl ?_)
      cases p with
      | none =>
        obtain rfl : v = .ref S := hvp
        refine wpAny_isNot_ref_self (wpAny_truthy_bool (ite_ff (ite_ff ⟨rfl, At.mk F N ⟨i, ti, vs, ys, kk, hi, fun _ => hpi, hvl, hst, rfl, rfl, hsg⟩⟩)))
      | some x =>
        obtain ⟨tx', rfl⟩ := hvp
        refine wpAny_isNot_other rfl (by intro e; cases e) (wpAny_truthy_bool (ite_tt (isTrue_and_nil (ite_tt ?_))))
        refine wpAny_execs_cons (hideLet ?_)
        intro PHid
        refine wpAny_Expr_any (Call_ (ldl 3 ok F rfl rfl (cwBnd (D := D) (Subscript_ (ldl 0 ok F rfl rfl (ldl 4 ok F rfl rfl ?_))))))
        refine itemS (hl.at fun o e => F.keep _ o e) (by lia) hv ?_
        refine addS F N List.mem_cons_self hBD' (fun h3 kk3 F3 N3 => ?_) (by simp; lia)
        refine wpAny_execs_cons (hideLet ?_)
        intro PHid
        refine wpAny_AugAssign_Name (ldnl 4 ok F3 rfl rfl (cInt fun t11 k12 => iaddI fun t12 k13 => ?_))
        refine stS 4 [some (.ref P), some (.ref S), some (.ref D), some (.ref B), some (.int (i + 1 : Nat) t12), some (.int ps.length t7), none, none] ok F3 N3 rfl (Nat.le_of_ble_eq_true rfl) rfl (fun h₉ k14 F9 N9 => wpAny_execs_nil ?_)
        refine ⟨ps.length - (i + 1), by lia, At.mk F9 N9 ⟨i + 1, t12, vs ++ [.str x tx'], ys ++ [x], kk3, by lia, rfl, by simp [hvl], hst.append' (.cons _ _ .nil), rfl, by simp, ?_⟩⟩
        rw [hsg, segs_some hpi, consHead_consHead _ _ (segs_ne _)]
    · rw [decide_eq_false (by lia)]
      exact ite_ff (ite_ff ⟨rfl, At.mk F N ⟨i, ti, vs, ys, kk, hi, fun h => absurd h hlt, hvl, hst, rfl, rfl, hsg⟩⟩)
  · rintro f s ⟨rfl, h1, k1, vals, news, rfl, F, N, i, ti, vs, ys, kk, hi, hno, hvl, hst, rfl, rfl, hsg⟩
    have hjl := joined_len ps hx
    refine wpAny_execs_cons (hideLet ?_)
    intro PHid
    refine wpAny_mono (Q := fun f s => f = .next ∧ At h L (dScope 10) g d o (JQ2 ps P S D B t7) s) ?_ ?_ (fun _ _ e => e)
    · refine whileS (JB ps P S D B t7) (ps.length - i) F N ⟨i, ti, none, vs, ys, kk, hi, rfl, hno, by lia, hst, rfl, rfl, ?_⟩ ?_
      · unfold joined
        rw [hsg]
        rcases Nat.lt_or_ge i ps.length with hlt | hge
        · rw [segs_none (hno hlt)]; simp [consHead]
        · rw [segs_end (by lia)]; simp [consHead]
      clear hsg hst hvl hno hi F N i ti vs ys kk
      rintro E' n vals news h' k' ⟨i, ti, c, vs, ys, kk, hi, rfl, hno, hvl, hst, rfl, rfl, hj⟩ F N
      refine hideLet ?_
      intro PHid
      have hsl := hst.len_eq
      refine wpAny_isTrue_Compare1 (ldl 4 ok F rfl rfl (ldl 5 ok F rfl rfl (lt_int (wpAny_truthy_bool ?_))))
      by_cases hlt : i < ps.length
      · rw [decide_eq_true (by lia)]
        have hpi := hno hlt
        refine ite_tt ?_
        obtain ⟨v, p, hv, hpi', hvp⟩ := item i hlt
        obtain rfl : p = none := by rw [hpi] at hpi'; exact (Option.some.inj hpi').symm
        obtain rfl : v = .ref S := hvp
        refine wpAny_execs_cons (hideLet ?_)
        intro PHid
        refine wpAny_Assert_holds (wpAny_isTrue_Compare1 (Subscript_ (ldl 0 ok F rfl rfl (ldl 4 ok F rfl rfl ?_))))
        refine itemS (hl.at fun o e => F.keep _ o e) (by lia) hv (ldl 1 ok F rfl rfl (wpAny_is_ref_self (wpAny_truthy_bool ⟨rfl, ?_⟩)))
        refine wpAny_execs_cons (hideLet ?_)
        intro PHid
        refine wpAny_AugAssign_Name (ldnl 4 ok F rfl rfl (cInt fun t11 k12 => iaddI fun t12 k13 => ?_))
        refine stS 4 [some (.ref P), some (.ref S), some (.ref D), some (.ref B), some (.int (i + 1 : Nat) t12), some (.int ps.length t7), c, none] ok F N rfl (Nat.le_of_ble_eq_true rfl) rfl (fun h2 k2 F2 N2 => ?_)
        rw [segs_none hpi, List.tail_cons] at hj
        refine wpAny_execs_cons (hideLet ?_)
        intro PHid
        refine wpAny_If (wpAny_isTrue_Compare1 (ldl 4 ok F2 rfl rfl (ldl 5 ok F2 rfl rfl (eq_int (wpAny_truthy_bool ?_)))))
        by_cases hend : i + 1 = ps.length
        · rw [beqN_t hend]
          refine ite_tt ?_
          refine wpAny_execs_cons (hideLet ?_)
          intro PHid
          refine wpAny_Expr_any (Call_ (ldl 3 ok F2 rfl rfl (cwBnd (D := D) (cStr fun t13 k13 => addS F2 N2 List.mem_cons_self hBD' (fun h3 kk3 F3 N3 => ?_) (by simp; lia)))))
          refine wpAny_execs_cons (hideLet ?_)
          intro PHid
          refine wpAny_Break ⟨rfl, At.mk F3 N3 ⟨i + 1, t12, c, vs ++ [.str (tx [46, 42]) t13], ys ++ [tx [46, 42]], kk3, by lia, hend, by lia, by simp; lia, hst.append' (.cons _ _ .nil), rfl, ?_, ?_⟩⟩
          · simp
            rfl
          · rw [hj, segs_end hend, catN_append]
            simp [bodyOf, catN]
        · rw [beqN_f hend]
          refine ite_ff (wpAny_execs_nil ?_)
          have hlt1 : i + 1 < ps.length := by lia
          obtain ⟨v, p, hv, hpi1, hvp⟩ := item (i + 1) hlt1
          obtain ⟨x, rfl⟩ : ∃ x, p = some x := by
            cases p with
            | none => exact absurd hpi1 (hadj i hpi)
            | some x => exact ⟨x, rfl⟩
          obtain ⟨tv, rfl⟩ := hvp
          refine wpAny_execs_cons (hideLet ?_)
          intro PHid
          refine wpAny_Assert_holds (wpAny_isTrue_Compare1 (Subscript_ (ldl 0 ok F2 rfl rfl (ldl 4 ok F2 rfl rfl ?_))))
          refine itemS (hl.at fun o e => F2.keep _ o e) (by lia) hv (ldl 1 ok F2 rfl rfl (wpAny_isNot_other rfl (by intro e; cases e) (wpAny_truthy_bool ⟨rfl, ?_⟩)))
          refine wpAny_execs_cons (hideLet ?_)
          intro PHid
          refine wpAny_Assign_Name (List_ (args_nil (newListS F2 N2 (fun X h3 kp3 F3 N3 hX => ?_))))
          refine stS 6 [some (.ref P), some (.ref S), some (.ref D), some (.ref B), some (.int (i + 1 : Nat) t12), some (.int ps.length t7), some (.ref X), none] ok F3 N3 rfl (Nat.le_of_ble_eq_true rfl) rfl (fun h4 k4 F4 N4 => ?_)
          refine wpAny_execs_cons (hideLet ?_)
          intro PHid
          refine wpAny_mono (Q := fun f s => f = .next ∧ At h L (dScope 10) g d o (JQ3 ps P S D B t7 X i vs kk) s) ?_ ?_ (fun _ _ e => e)
          · refine whileS (JC ps P S D B t7 X i vs kk) (ps.length - (i + 1)) F4 N4
              ⟨i + 1, t12, [], [], 0, by lia, by lia, rfl, by simp, .nil, rfl, rfl, ?_⟩ ?_
            · cases hs : segs (ps.drop (i + 1)) with
              | nil => exact absurd hs (segs_ne _)
              | cons s t => rfl
            rintro E2 n vals news h5 k5 ⟨j, tj, ws, zs, kx, hij, hjl', rfl, hwl, hsz, rfl, rfl, hsg⟩ F5 N5
            refine hideLet ?_
            intro PHid
            refine isTrue_and (wpAny_isTrue_Compare1 (ldl 4 ok F5 rfl rfl (ldl 5 ok F5 rfl rfl (lt_int (wpAny_truthy_bool ?_)))))
            by_cases hjlt : j < ps.length
            · rw [decide_eq_true (by lia)]
              obtain ⟨v2, p2, hv2, hpj, hvp2⟩ := item j hjlt
              refine ite_tt (isTrue_and (wpAny_isTrue_Compare1 (Subscript_ (ldl 0 ok F5 rfl rfl (ldl 4 ok F5 rfl rfl ?_)))))
              refine itemS (hl.at fun o e => F5.keep _ o e) (by lia) hv2 (ldl 1 ok F5 rfl rfl ?_)
              cases p2 with
              | none =>
                obtain rfl : v2 = .ref S := hvp2
                have hne : j ≠ i + 1 := by rintro rfl; rw [hpi1] at hpj; cases hpj
                refine wpAny_isNot_ref_self (wpAny_truthy_bool (ite_ff (ite_ff ⟨rfl, At.mk F5 N5 ⟨j, tj, ws, zs, kx, by lia, hjl', fun _ => hpj, hwl, hsz, rfl, rfl, hsg⟩⟩)))
              | some x2 =>
                obtain ⟨tx2, rfl⟩ := hvp2
                refine wpAny_isNot_other rfl (by intro e; cases e) (wpAny_truthy_bool (ite_tt (isTrue_and_nil (ite_tt ?_))))
                have hXN : ∀ p ∈ [(D, lstO vs.toArray kk), (B, bndO D)], p.1 ≠ X := hX
                refine wpAny_execs_cons (hideLet ?_)
                intro PHid
                refine wpAny_Expr_any (MethodCall_ (ldl 6 ok F5 rfl rfl (getMethod_list_append (N5.get List.mem_cons_self) rfl rfl ?_)))
                refine cwB (arg (Subscript_ (ldl 0 ok F5 rfl rfl (ldl 4 ok F5 rfl rfl ?_))))
                refine itemS (hl.at fun o e => F5.keep _ o e) (by lia) hv2 (args_nil ?_)
                refine appS F5 N5 hXN (fun h6 kk6 hsb F6 N6 => ?_) (by rw [sizeLine]; simp; lia)
                refine wpAny_execs_cons (hideLet ?_)
                intro PHid
                refine wpAny_AugAssign_Name (ldnl 4 ok F6 rfl rfl (cInt fun t21 k22 => iaddI fun t22 k23 => ?_))
                refine stS 4 [some (.ref P), some (.ref S), some (.ref D), some (.ref B), some (.int (j + 1 : Nat) t22), some (.int ps.length t7), some (.ref X), none] ok F6 N6 rfl (Nat.le_of_ble_eq_true rfl) rfl (fun h₉ k24 F9 N9 => wpAny_execs_nil ?_)
                refine ⟨ps.length - (j + 1), by lia, At.mk F9 N9 ⟨j + 1, t22, ws ++ [.str x2 tx2], zs ++ [x2], kk6, by lia, by lia, rfl, by simp; lia, hsz.append' (.cons _ _ .nil), rfl, by simp, ?_⟩⟩
                rw [hsg, segs_some hpj, consHead_consHead _ _ (segs_ne _)]
            · rw [decide_eq_false (by lia)]
              exact ite_ff (ite_ff ⟨rfl, At.mk F5 N5 ⟨j, tj, ws, zs, kx, by lia, hjl', fun h => absurd h hjlt, hwl, hsz, rfl, rfl, hsg⟩⟩)
          · rintro f s ⟨rfl, h5, k5, vals, news, rfl, F5, N5, j, tj, ws, zs, kx, hij, hjl', hno2, hwl, hsz, rfl, rfl, hsg⟩
            have hzl := hsz.len_eq
            have hztot : (zs.map (·.length)).sum ≤ 900 := by
              have q1 := segs_len (ps.drop (i + 1)) fun x hx' => hx x (List.mem_of_mem_drop hx')
              rw [hsg, List.length_drop] at q1
              rw [← catN_len]
              cases hq : segs (ps.drop j) with
              | nil => exact absurd hq (segs_ne _)
              | cons s t =>
                rw [hq] at q1
                simp only [consHead, List.map_cons, List.sum_cons, catN_append, List.length_append] at q1
                lia
            have hXN : ∀ p ∈ [(D, lstO vs.toArray kk), (B, bndO D)], p.1 ≠ X := hX
            refine wpAny_execs_cons (hideLet ?_)
            intro PHid
            refine wpAny_Assign_Name (MethodCall_ (cStr fun t25 k25 => GM.join ?_))
            refine cwB (arg (ldl 6 ok F5 rfl rfl (args_nil ?_)))
            refine joinS ⟨_, N5.get List.mem_cons_self, rfl, _, rfl⟩ hsz (by lia) (fun t26 k26 => ?_)
            refine stS 6 [some (.ref P), some (.ref S), some (.ref D), some (.ref B), some (.int j tj), some (.int ps.length t7), some (.str (tx (catN zs)) t26), none] ok F5 (newsTail N5) rfl (Nat.le_of_ble_eq_true rfl) rfl (fun h6 k27 F6 N6 => ?_)
            have hcl : (tx (catN zs)).length ≤ 900 := by
              show (catN zs).toArray.size ≤ 900
              rw [List.size_toArray, catN_len]; lia
            refine wpAny_execs_cons (hideLet ?_)
            intro PHid
            refine wpAny_If (wpAny_isTrue_Compare1 (ldl 4 ok F6 rfl rfl (ldl 5 ok F6 rfl rfl (eq_int (wpAny_truthy_bool ?_)))))
            by_cases hje : j = ps.length
            · rw [beqN_t hje]
              refine ite_tt ?_
              refine wpAny_execs_cons (hideLet ?_)
              intro PHid
              refine wpAny_Expr_any (Call_ (ldl 3 ok F6 rfl rfl (cwBnd (D := D) (cStr fun t28 k28 => addS F6 N6 List.mem_cons_self hBD' (fun h7 kk7 F7 N7 => ?_) (by simp; lia)))))
              refine wpAny_execs_cons (hideLet ?_)
              intro PHid
              refine wpAny_Expr_any (Call_ (ldl 3 ok F7 rfl rfl (cwBnd (D := D) (ldl 6 ok F7 rfl rfl (addS F7 N7 List.mem_cons_self hBD' (fun h8 kk8 F8 N8 => ?_) (by simp; lia))))))
              refine wpAny_execs_nil (wpAny_execs_nil ⟨ps.length - j, by lia, At.mk F8 N8 ⟨j, tj, _, vs ++ [.str (tx [46, 42]) t28] ++ [.str (tx (catN zs)) t26], ys ++ [tx [46, 42]] ++ [tx (catN zs)], kk8, by lia, rfl, hno2, by simp; lia, (hst.append' (.cons _ _ .nil)).append' (.cons _ _ .nil), rfl, ?_, ?_⟩⟩)
              · simp
                rfl
              · rw [hj, hsg, segs_end hje, catN_append, catN_append]
                simp [consHead, bodyOf, catN]
            · rw [beqN_f hje]
              refine ite_ff ?_
              refine wpAny_execs_cons (hideLet ?_)
              intro PHid
              refine wpAny_Expr_any (Call_ (ldl 3 ok F6 rfl rfl (cwBnd (D := D) (JoinedStr_many ?_))))
              refine joinParts_cons (cStr fun t29 k29 => ⟨by decide, joinParts_cons (FormattedValue_plain (ldl 6 ok F6 rfl rfl (formatField_str (fun t30 k30 => ⟨by rw [sizeLine, strLen_append, strLen_append]; exact (by show 0 + 6 + (tx (catN zs)).length ≤ 16777216; lia), joinParts_cons (cStr fun t31 k31 => ⟨by rw [sizeLine, strLen_append, strLen_append, strLen_append]; exact (by show 0 + 6 + (tx (catN zs)).length + 1 ≤ 16777216; lia), joinParts_nil ?_ (by rw [sizeLine, strLen_append, strLen_append, strLen_append]; exact (by show 0 + 6 + (tx (catN zs)).length + 1 ≤ 16777216; lia))⟩)⟩) (by rw [sizeLine]; lia))))⟩)
              refine addS F6 N6 List.mem_cons_self hBD' (fun h7 kk7 F7 N7 => ?_) (by simp; lia)
              refine wpAny_execs_nil (wpAny_execs_nil ⟨ps.length - j, by lia, At.mk F7 N7 ⟨j, tj, _, vs ++ [.str (tx ([40, 63, 62, 46, 42, 63] ++ catN zs ++ [41])) k31], ys ++ [tx ([40, 63, 62, 46, 42, 63] ++ catN zs ++ [41])], kk7, by lia, rfl, hno2, by simp; lia, hst.append' (.cons _ _ .nil), rfl, ?_, ?_⟩⟩)
              · rw [← fopen_eq]; simp
              · rw [hj, hsg, segs_none (hno2 (by lia)), List.tail_cons, catN_append]
                have hne := segs_ne (ps.drop (j + 1))
                cases hq : segs (ps.drop (j + 1)) with
                | nil => exact absurd hq hne
                | cons s t => simp [consHead, bodyOf, catN]
      · rw [decide_eq_false (by lia)]
        exact ite_ff ⟨rfl, At.mk F N ⟨i, ti, c, vs, ys, kk, hi, by lia, hno, hvl, hst, rfl, rfl, hj⟩⟩
    · clear hsg hst hvl hno hi F N i ti vs ys kk
      rintro f s ⟨rfl, h1, k1, vals, news, rfl, F, N, i, ti, c, vs, ys, kk, _, rfl, _, hvl, hst, rfl, rfl, hj⟩
      have hsl := hst.len_eq
      refine wpAny_execs_cons (hideLet ?_)
      intro PHid
      refine wpAny_Assert_holds (wpAny_isTrue_Compare1 (ldl 4 ok F rfl rfl (ldl 5 ok F rfl rfl (eq_int (wpAny_truthy_bool ⟨by simp, ?_⟩)))))
      refine wpAny_execs_cons (hideLet ?_)
      intro PHid
      refine wpAny_Assign_Name (MethodCall_ (cStr fun t25 k25 => GM.join ?_))
      refine cwB (arg (ldl 2 ok F rfl rfl (args_nil ?_)))
      rw [segs_end rfl, List.tail_cons] at hj
      have hj' : joined ps = catN ys := by rw [hj]; simp [bodyOf]
      have hyl : (ys.map (·.length)).sum ≤ 907 := by rw [← catN_len, ← hj']; lia
      refine joinS ⟨_, N.get List.mem_cons_self, rfl, _, rfl⟩ hst (by lia) (fun t26 k26 => ?_)
      have hcl : (tx (catN ys)).length ≤ 907 := by
        show (catN ys).toArray.size ≤ 907
        rw [List.size_toArray, catN_len]; lia
      refine stS 2 [some (.ref P), some (.ref S), some (.str (tx (catN ys)) t26), some (.ref B), some (.int ps.length ti), some (.int ps.length t7), c, none] ok F N rfl (Nat.le_of_ble_eq_true rfl) rfl (fun h6 k27 F6 N6 => ?_)
      refine wpAny_execs_cons (hideLet ?_)
      intro PHid
      refine wpAny_Return_some (JoinedStr_many ?_)
      refine joinParts_cons (cStr fun t29 k29 => ⟨by decide, joinParts_cons (FormattedValue_plain (ldl 2 ok F6 rfl rfl (formatField_str (fun t30 k30 => ⟨by rw [sizeLine, strLen_append, strLen_append]; exact (by show 0 + 4 + (tx (catN ys)).length ≤ 16777216; lia), joinParts_cons (cStr fun t31 k31 => ⟨by rw [sizeLine, strLen_append, strLen_append, strLen_append]; exact (by show 0 + 4 + (tx (catN ys)).length + 3 ≤ 16777216; lia), joinParts_nil ?_ (by rw [sizeLine, strLen_append, strLen_append, strLen_append]; exact (by show 0 + 4 + (tx (catN ys)).length + 3 ≤ 16777216; lia))⟩)⟩) (by rw [sizeLine]; lia))))⟩)
      refine hR _ _ _ F6.keep ⟨k31, ?_⟩
      rw [hj', ← fpre_eq]
end Mine
namespace Mine
theorem esc_len (c : Nat) : (esc c).length ≤ 2 := by unfold esc; split <;> simp [Str.length]
theorem padd_small (c : Nat) (acc : List (Option Str)) (h : ∀ x, some x ∈ acc → x.length ≤ 2) : ∀ x, some x ∈ padd acc c → x.length ≤ 2 := by
  intro x hx
  unfold padd at hx
  have he := esc_len c
  repeat' split at hx
  · exact h x hx
  · simp at hx; exact h x hx
  · simp at hx
    rcases hx with hx | rfl
    · exact h x hx
    · simp [Str.length]
  · simp at hx
    rcases hx with hx | rfl
    · exact h x hx
    · exact he
theorem parts_small (cs : List Nat) : ∀ x, some x ∈ parts cs → x.length ≤ 2 := by
  have : ∀ (cs : List Nat) (acc : List (Option Str)), (∀ x, some x ∈ acc → x.length ≤ 2) → ∀ x, some x ∈ cs.foldl padd acc → x.length ≤ 2 := by
    intro cs
    induction cs with
    | nil => intro acc h; exact h
    | cons c cs ih => intro acc h; exact ih _ (padd_small c acc h)
  exact this cs [] (by first | exact Nat.le_of_ble_eq_true rfl | (repeat (first | exact .head _ | apply List.Mem.tail)); done | simp)
noncomputable def Apart (ps : List (Option Str)) : Prop := ∀ i : Nat, ps[i]? = some none → ps[i + 1]? ≠ some none
theorem Apart.snoc_some {ps : List (Option Str)} {x : Str} (h : Apart ps) : Apart (ps ++ [some x]) := by
  intro i h1 h2
  have hi : i + 1 < (ps ++ [some x]).length := (List.getElem?_eq_some_iff.mp h2).1
  by_cases hl : i + 1 < ps.length
  · rw [List.getElem?_append_left (by lia)] at h1
    rw [List.getElem?_append_left hl] at h2
    exact h i h1 h2
  · have : i + 1 = ps.length := by simp at hi; lia
    rw [this] at h2
    simp at h2
theorem Apart.snoc_none {ps : List (Option Str)} (h : Apart ps) (hl : ps.getLast? ≠ some none) : Apart (ps ++ [none]) := by
  intro i h1 h2
  have hi : i + 1 < (ps ++ [none]).length := (List.getElem?_eq_some_iff.mp h2).1
  by_cases hl' : i + 1 < ps.length
  · rw [List.getElem?_append_left (by lia)] at h1
    rw [List.getElem?_append_left hl'] at h2
    exact h i h1 h2
  · have e : i + 1 = ps.length := by simp at hi; lia
    rw [List.getElem?_append_left (by lia)] at h1
    apply hl
    rw [List.getLast?_eq_getElem?, ← e]
    exact h1
theorem parts_apart (cs : List Nat) : Apart (parts cs) := by
  have : ∀ (cs : List Nat) (acc : List (Option Str)), Apart acc → Apart (cs.foldl padd acc) := by
    intro cs
    induction cs with
    | nil => intro acc h; exact h
    | cons c cs ih =>
      intro acc h
      refine ih _ ?_
      unfold padd
      split
      · split
        · exact h
        · rename_i h2; exact h.snoc_none h2
      · split <;> exact h.snoc_some
  exact this cs [] (fun i h => by simp at h)
noncomputable def render (cs : List Nat) : List Nat := [40, 63, 115, 58] ++ joined (parts cs) ++ [41, 92, 90]

theorem sc4 : ScOk (dScope 4) := .of (by decide +kernel)
set_option maxHeartbeats 4000000 in
theorem translate_c {w : World} {ad : Nat → Addr} {mg mb : Str → Option Value} (cs : List Nat) (t : Tok) (hb : cs.length ≤ 100) (hcs : ∀ c ∈ cs, c < 128 ∧ c ≠ 91) :
    FnC w ad mg mb 4 [.str (tx cs) t] 5 (Sp w mg) (fun _ v => ∃ t', v = .str (tx (render cs)) t') := by
  rintro ⟨hd0, dp, fr, gd, un⟩ ⟨h, g, d, k, o⟩ R hh hd hu l sp hR
  dsimp only at hh hd hu hR sp
  subst hh
  have ok := sc4
  refine enterS 4 ["pat"] _ l (by decide) ok (by show dp < _; lia) (by with_unfolding_all rfl) (by with_unfolding_all rfl) rfl (fun _ _ _ => rfl) (by decide +kernel) (by decide +kernel) (fun L cd h₁ k₁ hL F N => ?_)
  replace F : Fr h L h₁ (locs (nms (dScope 4)) [some (.str (tx cs) t), none, none, none, none, none]) := F
  refine hideA ?_
  intro AHid
  refine wpAny_execs_cons (hideLet ?_)
  intro PHid
  refine wpAny_Expr_any (cStr fun t1 k2 => ?_)
  refine wpAny_execs_cons (hideLet ?_)
  intro PHid
  refine wpAny_Assign_Name (callT0 (fun Q' q => ldb 3 ok l F rfl (by decide) PyProof.Rows.boot_object q) (new_object fun k3 => ?_))
  generalize hS : h₁.objs.size = S
  have F2 := F.push objO
  have N2 := News.push F N objO
  rw [hS] at N2
  generalize h₁.push objO = h₂ at F2 N2 ⊢
  refine stS 1 [some (.str (tx cs) t), some (.ref S), none, none, none, none] ok F2 N2 rfl (Nat.le_of_ble_eq_true rfl) rfl (fun h₃ k₃ F3 N3 => ?_)
  refine wpAny_execs_cons (hideLet ?_)
  intro PHid
  refine wpAny_Assign_Name ?_
  refine callF (kf := 9) l (by decide) (fun Q' q => ldg 4 9 ok l F3 rfl (by decide) rfl q) (arg (ldl 0 ok F3 rfl rfl (arg (ldl 1 ok F3 rfl rfl (arg (cStr fun t4 k4 => args_nil ⟨F3.keep, ?_⟩))))))
  refine useS (translate9_c h₃ cs S t t4 hb hcs) rfl (by show dp + 1 + 3 < _; lia) (by show un + 3 + 8 * 3 < _; lia) l F3 N3 ⟨rfl, N3.get List.mem_cons_self, sp.keeps F3.keep⟩ (fun v h₅ k₅ F5 N5 kp hv => ?_)
  obtain ⟨D, vs, kk, rfl, hfr, hD, hpts⟩ := hv
  have hlen := parts_len cs
  obtain ⟨N6, hDn⟩ := News.got F3 N3 N5 hfr hD
  refine stS 2 [some (.str (tx cs) t), some (.ref S), some (.ref D), none, none, none] ok F5 N6 rfl (Nat.le_of_ble_eq_true rfl) rfl (fun h₇ k₇ F7 N7 => ?_)
  refine wpAny_execs_cons (hideLet ?_)
  intro PHid
  refine wpAny_Return_some ?_
  refine callF (kf := 10) l (by decide) (fun Q' q => ldg 5 10 ok l F7 rfl (by decide) rfl q) (arg (ldl 2 ok F7 rfl rfl (arg (ldl 1 ok F7 rfl rfl (args_nil ⟨F7.keep, ?_⟩)))))
  refine useS (join10_c (parts cs) S D (by lia) (parts_small cs) (parts_apart cs)) rfl (by show dp + 1 + 2 < _; lia) (by show un + 3 + 8 * 2 < _; lia) l F7 N7
    ⟨N7.get (List.mem_cons_of_mem _ List.mem_cons_self), vs, ⟨_, N7.get List.mem_cons_self, rfl, _, rfl⟩, hpts⟩ (fun v h₈ k₈ F8 N8 kp8 hv => ?_)
  exact hR _ _ _ F8.keep hv
end Mine
namespace Mine
/-! the tokens of a made pattern, and what they say -/
inductive TK
  | sgn (x : Str)
  | opn
  | cls
  | tl
noncomputable def TK.text : TK → List Nat
  | .sgn x => x.cps.toList
  | .opn => [40, 63, 62, 46, 42, 63]
  | .cls => [41]
  | .tl => [46, 42]
noncomputable def tks (ts : List TK) : List Nat := ts.flatMap TK.text
noncomputable def sval (x : Str) : Str := if x = one 46 then Str.empty else one (x.cps.toList.getLastD 0)
noncomputable def bad : List Nat := [94, 36, 42, 43, 63, 123, 125, 91, 93, 124, 40]
noncomputable def SgnOk (x : Str) : Prop := (∃ c, x = one c ∧ c ∉ bad ∧ c ≠ 41 ∧ c ≠ 92) ∨ (∃ c, x = ⟨#[92, c]⟩)
noncomputable def TkOk : TK → Prop | .sgn x => SgnOk x | _ => True
noncomputable def run : List TK → Bool → Bool → List (List Str) → List Str → Option (List (List Str))
  | [], held, last, init, cur => if !held && (last == !init.isEmpty) then some (init ++ [cur]) else none
  | .opn :: r, held, last, init, cur => if held || last then none else run r true last (init ++ [cur]) []
  | .tl :: r, held, last, init, cur => if held || last then none else run r held true (init ++ [cur]) []
  | .cls :: r, held, last, init, cur => if held then run r false last init cur else none
  | .sgn x :: r, held, last, init, cur => if held || last || init.isEmpty then run r held last init (cur ++ [sval x]) else none
noncomputable def tokBody : List (List Str) → List TK
  | [] => []
  | [s] => .tl :: s.map .sgn
  | s :: s2 :: r => .opn :: s.map .sgn ++ [.cls] ++ tokBody (s2 :: r)
noncomputable def toksOf : List (List Str) → List TK
  | [] => []
  | s :: t => s.map .sgn ++ tokBody t
theorem tks_append (a b : List TK) : tks (a ++ b) = tks a ++ tks b := by simp [tks]
theorem tks_sgns (s : List Str) : tks (s.map .sgn) = catN s := by
  induction s with
  | nil => rfl
  | cons x s ih => simp only [tks, catN, List.map_cons, List.flatMap_cons] at ih ⊢; rw [ih]; rfl
theorem tks_body : ∀ t, tks (tokBody t) = bodyOf t
  | [] => rfl
  | [s] => by
    show TK.text .tl ++ tks (s.map .sgn) = _
    rw [tks_sgns]; rfl
  | s :: s2 :: r => by
    have := tks_body (s2 :: r)
    have h2 : tokBody (s :: s2 :: r) = [.opn] ++ s.map .sgn ++ [.cls] ++ tokBody (s2 :: r) := rfl
    rw [h2, tks_append, tks_append, tks_append, this, tks_sgns]
    rfl
theorem tks_toks (ps : List (Option Str)) : tks (toksOf (segs ps)) = joined ps := by
  unfold joined toksOf
  cases segs ps with
  | nil => rfl
  | cons s t => rw [tks_append, tks_sgns, tks_body]
theorem run_sgns (s : List Str) (r : List TK) (held last : Bool) (init : List (List Str)) (cur : List Str) (h : (held || last || init.isEmpty) = true) :
    run (s.map .sgn ++ r) held last init cur = run r held last init (cur ++ s.map sval) := by
  induction s generalizing cur with
  | nil => simp
  | cons x s ih => simp only [List.map_cons, List.cons_append, run, h, if_true]; rw [ih]; simp
theorem run_body : ∀ (t : List (List Str)) (init : List (List Str)) (cur : List Str), t ≠ [] → run (tokBody t) false false init cur = some (init ++ [cur] ++ t.map (·.map sval))
  | [], _, _, h => absurd rfl h
  | [s], init, cur, _ => by
    have := run_sgns s [] false true (init ++ [cur]) [] rfl
    simp only [List.append_nil] at this
    simp [tokBody, run, this]
  | s :: s2 :: r, init, cur, _ => by
    have h1 := run_sgns s ([.cls] ++ tokBody (s2 :: r)) true false (init ++ [cur]) [] rfl
    have h2 := run_body (s2 :: r) (init ++ [cur]) (s.map sval) (by first | exact Nat.le_of_ble_eq_true rfl | (repeat (first | exact .head _ | apply List.Mem.tail)); done | simp)
    simp only [tokBody, List.cons_append, List.append_assoc, run, Bool.or_self, Bool.false_eq_true, if_false] at h1 ⊢
    rw [h1]
    simp only [List.nil_append, List.cons_append, run, if_true] at h2 ⊢
    rw [h2]
    simp
theorem run_toks : ∀ (ss : List (List Str)), ss ≠ [] → run (toksOf ss) false false [] [] = some (ss.map (·.map sval))
  | [], h => absurd rfl h
  | [s], _ => by
    have := run_sgns s [] false false [] [] rfl
    simp only [List.append_nil] at this
    simp [toksOf, tokBody, this, run]
  | s :: s2 :: r, _ => by
    have := run_sgns s (tokBody (s2 :: r)) false false [] [] rfl
    simp only [toksOf]
    rw [this, run_body _ _ _ (by first | exact Nat.le_of_ble_eq_true rfl | (repeat (first | exact .head _ | apply List.Mem.tail)); done | simp)]
    simp
theorem sgnOk_esc (c : Nat) : SgnOk (esc c) := by
  unfold esc
  split
  · exact .inr ⟨c, rfl⟩
  · rename_i h
    refine .inl ⟨c, rfl, ?_, ?_, ?_⟩
    · intro hb
      apply h
      simp only [bad, List.mem_cons, List.not_mem_nil, or_false] at hb
      rcases hb with rfl | rfl | rfl | rfl | rfl | rfl | rfl | rfl | rfl | rfl | rfl <;> rfl
    · rintro rfl; exact h rfl
    · rintro rfl; exact h rfl
theorem sgnOk_dot : SgnOk (one 46) := .inl ⟨46, rfl, by decide, by decide, by decide⟩
theorem parts_ok (cs : List Nat) : ∀ x, some x ∈ parts cs → SgnOk x := by
  have : ∀ (cs : List Nat) (acc : List (Option Str)), (∀ x, some x ∈ acc → SgnOk x) → ∀ x, some x ∈ cs.foldl padd acc → SgnOk x := by
    intro cs
    induction cs with
    | nil => intro acc h; exact h
    | cons c cs ih =>
      intro acc h
      refine ih _ fun x hx => ?_
      unfold padd at hx
      repeat' split at hx
      · exact h x hx
      · simp at hx; exact h x hx
      · simp at hx
        rcases hx with hx | rfl
        · exact h x hx
        · exact sgnOk_dot
      · simp at hx
        rcases hx with hx | rfl
        · exact h x hx
        · exact sgnOk_esc c
  exact this cs [] (by first | exact Nat.le_of_ble_eq_true rfl | (repeat (first | exact .head _ | apply List.Mem.tail)); done | simp)
theorem segs_mem {ps : List (Option Str)} {x : Str} : ∀ {s : List Str}, s ∈ segs ps → x ∈ s → some x ∈ ps := by
  induction ps with
  | nil => intro s hs hx; simp [segs] at hs; subst hs; simp at hx
  | cons p r ih =>
    intro s hs hx
    cases p with
    | none =>
      simp only [segs, List.mem_cons] at hs
      rcases hs with rfl | hs
      · simp at hx
      · exact List.mem_cons_of_mem _ (ih hs hx)
    | some y =>
      simp only [segs] at hs
      cases hq : segs r with
      | nil => exact absurd hq (segs_ne r)
      | cons a t =>
        rw [hq] at hs
        simp only [consHead, List.mem_cons] at hs
        rcases hs with rfl | hs
        · simp only [List.cons_append, List.nil_append, List.mem_cons] at hx
          rcases hx with rfl | hx
          · exact List.mem_cons_self
          · exact List.mem_cons_of_mem _ (ih (hq ▸ List.mem_cons_self) hx)
        · exact List.mem_cons_of_mem _ (ih (hq ▸ List.mem_cons_of_mem _ hs) hx)
theorem tokBody_ok : ∀ (t : List (List Str)), (∀ s ∈ t, ∀ x ∈ s, SgnOk x) → ∀ k ∈ tokBody t, TkOk k
  | [], _, k, hk => by simp [tokBody] at hk
  | [s], h, k, hk => by
    simp only [tokBody, List.mem_cons, List.mem_map] at hk
    rcases hk with rfl | ⟨x, hx, rfl⟩
    · trivial
    · exact h s (by first | exact Nat.le_of_ble_eq_true rfl | (repeat (first | exact .head _ | apply List.Mem.tail)); done | simp) x hx
  | s :: s2 :: r, h, k, hk => by
    simp only [tokBody, List.cons_append, List.append_assoc, List.mem_cons, List.mem_append, List.mem_map, List.not_mem_nil, or_false, false_or] at hk
    rcases hk with rfl | ⟨x, hx, rfl⟩ | rfl | hk
    · trivial
    · exact h s (by first | exact Nat.le_of_ble_eq_true rfl | (repeat (first | exact .head _ | apply List.Mem.tail)); done | simp) x hx
    · trivial
    · exact tokBody_ok (s2 :: r) (fun s' hs' => h s' (List.mem_cons_of_mem _ hs')) k hk
theorem toks_ok (ps : List (Option Str)) (h : ∀ x, some x ∈ ps → SgnOk x) : ∀ k ∈ toksOf (segs ps), TkOk k := by
  intro k hk
  cases hs : segs ps with
  | nil => exact absurd hs (segs_ne ps)
  | cons s t =>
    rw [hs] at hk
    simp only [toksOf, List.mem_append, List.mem_map] at hk
    rcases hk with ⟨x, hx, rfl⟩ | hk
    · exact h x (segs_mem (s := s) (by rw [hs]; simp) hx)
    · exact tokBody_ok t (fun s' hs' x hx => h x (segs_mem (s := s') (by rw [hs]; simp [hs']) hx)) k hk
end Mine
namespace Mine
section
variable {w : World} {M : Model} {A : Around} {E : Value → Shared → Prop} {h h' : Heap} {g : Array GenState} {d : Drawn} {k : Nat} {o : OsState} {name : Str} {sc : Scope} {L a : Addr} {cd : Value} {cl : List (Str × Addr)} {h₀ : Heap} {vals : List (Option Value)}
  {m : Str → Option Value} {mg mb : Str → Option Value} {ad : Nat → Addr} {news : List (Addr × Obj)} {env : Env} {pos : Pos}
theorem slSS {value slice : Expr} {x : Str} {t : Tok} {i j : Int} {ui uj : Tok} {Q : Value → Shared → Prop} (F : Fr h₀ L h m) (N : News h₀ L h news) (q : ∀ h' t' k', Fr h₀ L h' m → News h₀ L h' news → Q (.str (Txt.slice x (some i) (some j)) t') ⟨h', g, d, k', o⟩)
    (hsz : x.length ≤ 1000000)
    (hs : subscripted slice false (.str x t) (.ref h.objs.size) = operate [.ref h.objs.size, .str x t] (getItem (.str x t) (.ref h.objs.size)) := by with_unfolding_all rfl)
    (ht : ∀ r, letTemporaryGo value (.str x t) r = pure () := by intro _; with_unfolding_all rfl) :
    wpAny (model prg w) A (subscriptTail value slice (.str x t) (.ref h.objs.size)) Q E ⟨h.push { cls := .type "slice", data := .fields #[.int i ui, .int j uj, .none] }, g, d, k, o⟩ :=
  slice_strN_ss (s := ⟨h, g, d, k, o⟩) F N (fun h' t' k' F' N' => q h' t' k' F' N') hs ht (by rw [sizeLine]; lia)
theorem slNS {value slice : Expr} {x : Str} {t : Tok} {j : Int} {uj : Tok} {Q : Value → Shared → Prop} (F : Fr h₀ L h m) (N : News h₀ L h news) (q : ∀ h' t' k', Fr h₀ L h' m → News h₀ L h' news → Q (.str (Txt.slice x none (some j)) t') ⟨h', g, d, k', o⟩)
    (hsz : x.length ≤ 1000000)
    (hs : subscripted slice false (.str x t) (.ref h.objs.size) = operate [.ref h.objs.size, .str x t] (getItem (.str x t) (.ref h.objs.size)) := by with_unfolding_all rfl)
    (ht : ∀ r, letTemporaryGo value (.str x t) r = pure () := by intro _; with_unfolding_all rfl) :
    wpAny (model prg w) A (subscriptTail value slice (.str x t) (.ref h.objs.size)) Q E ⟨h.push { cls := .type "slice", data := .fields #[.none, .int j uj, .none] }, g, d, k, o⟩ :=
  slice_strN_ns (s := ⟨h, g, d, k, o⟩) F N (fun h' t' k' F' N' => q h' t' k' F' N') hs ht (by rw [sizeLine]; lia)
end
noncomputable def clipL (n : Nat) (v : Option Int) (d : Int) : Int := match v with | none => d | some i => max 0 (min (if i < 0 then i + n else i) n)
theorem idx_clip (n : Nat) (lo hi : Option Int) : Builtin.Str.strSliceIndices lo hi 1 n = PySem.sliceRange (clipL n lo 0) (clipL n hi n) 1 := by
  cases lo <;> cases hi <;> rfl
theorem clipL_le (n : Nat) (v : Option Int) (d : Int) (hd : d ≤ n) : clipL n v d ≤ n := by
  cases v with
  | none => exact hd
  | some i => show max 0 (min _ _) ≤ _; lia
theorem sl_gen {l : List Nat} {lo hi : Option Int} {a b : Nat} (ha : clipL l.length lo 0 = a) (hb : clipL l.length hi l.length = b) (hab : a ≤ b) : Txt.slice (tx l) lo hi = tx ((l.drop a).take (b - a)) := by
  have hbl : b ≤ l.length := by
    have := clipL_le l.length hi l.length (Int.le_refl _)
    lia
  have e : Txt.slice (tx l) lo hi = Txt.slice (tx l) (some (a : Int)) (some (b : Int)) := by
    unfold Txt.slice
    have h1 : (tx l).length = l.length := by simp [Str.length]
    rw [h1, idx_clip, idx_clip, ha, hb]
    have h2 : clipL l.length (some (a : Int)) 0 = a := by show max 0 (min (if (a : Int) < 0 then _ else _) _) = _; rw [if_neg (by lia)]; lia
    have h3 : clipL l.length (some (b : Int)) l.length = b := by show max 0 (min (if (b : Int) < 0 then _ else _) _) = _; rw [if_neg (by lia)]; lia
    rw [h2, h3]
  rw [e]
  have := beq_iff_eq.mp (slice_closesL (x := tx l) (i := (a : Int)) (j := (b : Int)) (by lia) (by lia) (by simp [Str.length]; lia))
  rw [this]
  simp
theorem sl_ss {l : List Nat} {i j : Nat} (h : i ≤ j) (hi : i ≤ l.length) : Txt.slice (tx l) (some (i : Int)) (some (j : Int)) = tx ((l.drop i).take (j - i)) := by
  have h2 : clipL l.length (some (i : Int)) 0 = i := by show max 0 (min (if (i : Int) < 0 then _ else _) _) = _; rw [if_neg (by lia)]; lia
  have h3 : clipL l.length (some (j : Int)) l.length = ((min j l.length : Nat) : Int) := by show max 0 (min (if (j : Int) < 0 then _ else _) _) = _; rw [if_neg (by lia)]; lia
  rw [sl_gen h2 h3 (by lia)]
  congr 1
  rw [List.take_eq_take_iff, List.length_drop]
  lia
end Mine
namespace Mine
section
variable {w : World} {M : Model} {A : Around} {E : Value → Shared → Prop} {h h' : Heap} {g : Array GenState} {d : Drawn} {k : Nat} {o : OsState} {name : Str} {sc : Scope} {L a : Addr} {cd : Value} {cl : List (Str × Addr)} {h₀ : Heap} {vals : List (Option Value)}
  {m : Str → Option Value} {mg mb : Str → Option Value} {ad : Nat → Addr} {news : List (Addr × Obj)} {env : Env} {pos : Pos}
theorem itemLastT {value slice : Expr} {l : List Nat} {t u : Tok} {c : Nat} {Q : Value → Shared → Prop} (hc : l.getLast? = some c) (hb : l.length ≤ 1000000) (q : ∀ t' k', Q (.str (one c) t') ⟨h, g, d, k', o⟩)
    (hs : subscripted slice false (.str (tx l) t) (.int (-1) u) = operate [.str (tx l) t, .int (-1) u] (getItem (.str (tx l) t) (.int (-1) u)) := by with_unfolding_all rfl)
    (ht : ∀ r, letTemporaryGo value (.str (tx l) t) r = pure () := by intro _; with_unfolding_all rfl) :
    wpAny (model prg w) A (subscriptTail value slice (.str (tx l) t) (.int (-1) u)) Q E ⟨h, g, d, k, o⟩ := by
  have hl : 0 < l.length := by
    cases l with
    | nil => simp at hc
    | cons a r => simp
  have hlen : (tx l).length = l.length := by simp [Str.length]
  refine item_str (by decide) (by lia) (by lia) (fun _ => ?_) hs ht
  have e : Txt.item (tx l) (-1) = one c := by
    unfold Txt.item Txt.charAt
    have : seqIndex? (-1) (tx l).length = some (l.length - 1) := by
      rw [hlen, seqIndex_back (by lia) (by lia)]
      congr 1
      lia
    rw [this]
    rw [List.getLast?_eq_getElem?] at hc
    simp [hc]
  rw [e]
  exact q _ _
theorem addT {x y : List Nat} {t u : Tok} {Q : Value → Shared → Prop} (hb : x.length + y.length ≤ 1000000) (q : ∀ t' k', Q (.str (tx (x ++ y)) t') ⟨h, g, d, k', o⟩) :
    wpAny (model prg w) A (binaryOp .Add (.str (tx x) t) (.str (tx y) u)) Q E ⟨h, g, d, k, o⟩ := by
  refine PyProof.Rows.add_str (fun t' tk => ?_) (by simp [Str.length, sizeLine]; lia)
  have : tx x ++ tx y = tx (x ++ y) := by show (⟨x.toArray ++ y.toArray⟩ : Str) = _; simp
  rw [this]
  exact q _ _
theorem tx_inj {a b : List Nat} : (tx a == tx b) = decide (a = b) := by
  rw [Bool.eq_iff_iff, beq_iff_eq, decide_eq_true_eq]
  constructor
  · intro h
    have := congrArg (fun x : Str => x.cps.toList) h
    simpa using this
  · rintro rfl; rfl
theorem eqT {x y : List Nat} {t u : Tok} {Q : Value → Shared → Prop} (q : Q (.bool (decide (x = y))) ⟨h, g, d, k, o⟩) : wpAny (model prg w) A (compareOp .Eq (.str (tx x) t) (.str (tx y) u)) Q E ⟨h, g, d, k, o⟩ := by
  refine PyProof.Rows.eq_str ?_
  rw [tx_inj]
  exact q
theorem notInT {l : List Nat} {c : Nat} {t u : Tok} {Q : Value → Shared → Prop} (q : Q (.bool (!l.contains c)) ⟨h, g, d, k, o⟩) : wpAny (model prg w) A (compareOp .NotIn (.str (one c) u) (.str (tx l) t)) Q E ⟨h, g, d, k, o⟩ := by
  refine PySem.P.notIn_str ?_
  have : (!(Builtin.Str.occurrences (tx l) (one c) 0 (tx l).length 1).isEmpty) = l.contains c := by
    rw [StrLaws.found_one]
    simp
  rw [this]
  exact q
end
theorem News.swap {h₀ h : Heap} {L : Addr} {a b : Addr × Obj} {r : List (Addr × Obj)} (N : News h₀ L h (a :: b :: r)) : News h₀ L h (b :: a :: r) := fun p hp => by
  rcases List.mem_cons.mp hp with rfl | hp
  · exact N _ (List.mem_cons_of_mem _ List.mem_cons_self)
  · rcases List.mem_cons.mp hp with rfl | hp
    · exact N _ List.mem_cons_self
    · exact N _ (List.mem_cons_of_mem _ (List.mem_cons_of_mem _ hp))
theorem News.swap3 {h₀ h : Heap} {L : Addr} {a b c : Addr × Obj} {r : List (Addr × Obj)} (N : News h₀ L h (a :: b :: c :: r)) : News h₀ L h (c :: a :: b :: r) := fun p hp => by
  rcases List.mem_cons.mp hp with rfl | hp
  · exact N _ (List.mem_cons_of_mem _ (List.mem_cons_of_mem _ List.mem_cons_self))
  · rcases List.mem_cons.mp hp with rfl | hp
    · exact N _ List.mem_cons_self
    · rcases List.mem_cons.mp hp with rfl | hp
      · exact N _ (List.mem_cons_of_mem _ List.mem_cons_self)
      · exact N _ (List.mem_cons_of_mem _ (List.mem_cons_of_mem _ (List.mem_cons_of_mem _ hp)))
/-- where the pieces lie -/
noncomputable def PcsIn (led : List (Addr × Obj)) (As : List Addr) (pcs : List (List Str)) : Prop :=
  As.length = pcs.length ∧ ∀ (i : Nat) (a : Addr) (p : List Str), As[i]? = some a → pcs[i]? = some p → ∃ vs kk, (a, lstO vs.toArray kk) ∈ led ∧ StrsAre vs p
theorem PcsIn.snoc {led : List (Addr × Obj)} {As : List Addr} {pcs : List (List Str)} {a : Addr} {vs : List Value} {kk : Nat} {p : List Str} (x : PcsIn led As pcs) (hm : (a, lstO vs.toArray kk) ∈ led) (hs : StrsAre vs p) : PcsIn led (As ++ [a]) (pcs ++ [p]) := by
  obtain ⟨hl, hx⟩ := x
  refine ⟨by simp [hl], fun i b q hb hq => ?_⟩
  by_cases hi : i < As.length
  · rw [List.getElem?_append_left hi] at hb
    rw [List.getElem?_append_left (hl ▸ hi)] at hq
    exact hx i b q hb hq
  · have h1 : i < (As ++ [a]).length := (List.getElem?_eq_some_iff.mp hb).1
    have h2 : i = As.length := by simp at h1; lia
    subst h2
    simp at hb
    rw [hl] at hq
    simp at hq
    subst hb hq
    exact ⟨vs, kk, hm, hs⟩
theorem PcsIn.mono {led led' : List (Addr × Obj)} {As : List Addr} {pcs : List (List Str)} (x : PcsIn led As pcs) (h : ∀ p ∈ led, p ∈ led') : PcsIn led' As pcs :=
  ⟨x.1, fun i a p ha hp => let ⟨vs, kk, hm, hs⟩ := x.2 i a p ha hp; ⟨vs, kk, h _ hm, hs⟩⟩
theorem PcsIn.strss {led : List (Addr × Obj)} {h : Heap} (hl : ∀ p ∈ led, h.get? p.1 = some p.2) : ∀ {As : List Addr} {pcs : List (List Str)}, PcsIn led As pcs → Strss h (As.map .ref) pcs
  | [], [], _ => .nil
  | [], _ :: _, x => by have := x.1; simp at this
  | _ :: _, [], x => by have := x.1; simp at this
  | a :: As, p :: pcs, x => by
    obtain ⟨vs, kk, hm, hs⟩ := x.2 0 a p rfl rfl
    exact .cons ⟨vs, ⟨_, hl _ hm, rfl, _, rfl⟩, hs⟩ (PcsIn.strss hl ⟨by simpa using x.1, fun i b q hb hq => x.2 (i + 1) b q (by simpa using hb) (by simpa using hq)⟩)
theorem tks_head : ∀ {ts : List TK}, (∀ k ∈ ts, TkOk k) → ∀ q, tks ts ≠ 42 :: q
  | [], _, q => by simp [tks]
  | .opn :: r, _, q => by simp [tks, TK.text]
  | .cls :: r, _, q => by simp [tks, TK.text]
  | .tl :: r, _, q => by simp [tks, TK.text]
  | .sgn x :: r, h, q => by
    have hx : SgnOk x := h (.sgn x) List.mem_cons_self
    rcases hx with ⟨c, rfl, hc, _⟩ | ⟨c, rfl⟩
    · intro e
      simp [tks, TK.text] at e
      exact hc (by rw [e.1]; decide)
    · simp [tks, TK.text]
theorem sgn_key {x : Str} (hx : SgnOk x) : ∃ f e n u, (TK.sgn x).text = f :: u ∧ (f :: u).length = n ∧ ((n = 2 ∧ f = 92) ∨ (n = 1 ∧ f ≠ 92 ∧ bad.contains f = false)) ∧ f ≠ 41 ∧ f ≠ 40 ∧ (f :: u).getLast? = some e ∧ sval x = if f = 46 then Str.empty else one e := by
  rcases hx with ⟨c, rfl, hc, h41, h92⟩ | ⟨c, rfl⟩
  · refine ⟨c, c, 1, [], rfl, rfl, .inr ⟨rfl, h92, by simpa using hc⟩, h41, ?_, rfl, ?_⟩
    · rintro rfl; exact hc (by decide)
    · unfold sval
      by_cases h : c = 46
      · subst h; simp
      · rw [if_neg h, if_neg (by intro e; apply h; simpa using e)]
        rfl
  · refine ⟨92, c, 2, [c], rfl, rfl, .inl ⟨rfl, rfl⟩, by decide, by decide, rfl, ?_⟩
    unfold sval
    simp
theorem ends_eq (bd : List Nat) (n : Nat) (hn : 3 ≤ n) : (([40, 63, 115, 58] ++ bd ++ [41, 92, 90]).drop 0).take (4 - 0) ++ (([40, 63, 115, 58] ++ bd ++ [41, 92, 90]).drop (bd.length + 4)).take n = [40, 63, 115, 58, 41, 92, 90] := by
  have q1 : ([40, 63, 115, 58] ++ bd ++ [41, 92, 90]).drop (bd.length + 4) = [41, 92, 90] := List.drop_left' (by first | exact Nat.le_of_ble_eq_true rfl | (repeat (first | exact .head _ | apply List.Mem.tail)); done | simp)
  rw [q1, List.take_of_length_le (l := [41, 92, 90]) (by simpa using hn)]
  simp
theorem sc19 : ScOk (dScope 19) := .of (by decide +kernel)
set_option maxHeartbeats 4000000 in
inductive PInv (tt bd : List Nat) (t t5 : Tok) (P : Addr) (res : List (List Str)) (n : Nat) (vals : List (Option Value)) (news : List (Addr × Obj)) : Prop
  | mk (rest : List TK) (held last : Bool) (init : List (List Str)) (cur : List Str) (place : Nat) (tp : Tok) (st : Option Value) (As : List Addr) (X : Addr) (vsL : List Value) (kl kp : Nat) (olds : List (Addr × Obj)) (h1 : n = rest.length) (h2 : (∀ k ∈ rest, TkOk k)) (h3 : run rest held last init cur = some res) (h4 : place + (tks rest).length = bd.length) (h5 : bd.drop place = tks rest) (h6 : vals = [some (.str (tx tt) t), some (.str (tx bd) t5), some (.int place tp), some (.bool held), some (.bool last), some (.ref P), some (.bool true), st, none]) (h7 : news = (X, lstO vsL.toArray kl) :: (P, lstO ((As ++ [X]).map Value.ref).toArray kp) :: olds) (h8 : PcsIn olds As init) (h9 : StrsAre vsL cur) (h10 : P ≠ X) (h11 : (∀ p ∈ olds, p.1 ≠ X ∧ p.1 ≠ P)) (h12 : As.length ≤ place) (h13 : vsL.length ≤ place) : PInv tt bd t t5 P res n vals news
set_option maxHeartbeats 4000000 in
theorem pieces_c {w : World} {ad : Nat → Addr} {mg mb : Str → Option Value} (h0 : Heap) (ts : List TK) (res : List (List Str)) (t : Tok) (hb : (tks ts).length ≤ 1000) (hok : ∀ k ∈ ts, TkOk k) (hrun : run ts false false [] [] = some res) :
    FnC w ad mg mb 19 [.str (tx ([40, 63, 115, 58] ++ tks ts ++ [41, 92, 90])) t] 2 (fun h => h = h0)
      (fun h v => ∃ P As kp led, v = .ref P ∧ (∀ p ∈ led, h0.get? p.1 = none ∧ h.get? p.1 = some p.2) ∧ (P, lstO (As.map Value.ref).toArray kp) ∈ led ∧ PcsIn led As res) := by
  rintro ⟨hd0, dp, fr, gd, un⟩ ⟨h, g, d, k, o⟩ R hh hd hu l e0 hR
  dsimp only at hh hd hu hR e0
  subst hh
  subst e0
  have ok := sc19
  generalize hbd : tks ts = bd at *
  generalize htt : [40, 63, 115, 58] ++ bd ++ [41, 92, 90] = tt at *
  have htl : tt.length = bd.length + 7 := by rw [← htt]; simp
  refine enterS 19 ["text"] _ l (by decide) ok (by show dp < _; lia) (by with_unfolding_all rfl) (by with_unfolding_all rfl) rfl (fun _ _ _ => rfl) (by decide +kernel) (by decide +kernel) (fun L cd h₁ k₁ hL F N => ?_)
  replace F : Fr h L h₁ (locs (nms (dScope 19)) [some (.str (tx tt) t), none, none, none, none, none, none, none, none]) := F
  refine hideA ?_
  intro AHid
  refine wpAny_execs_cons (hideLet ?_)
  intro PHid
  refine Assign_Tuple (Tuple_ ?_) (by rfl) (by rfl)
  refine arg (sliceSub (ldl 0 ok F rfl rfl (evalPart_some_step (cInt fun t2 k2 => evalPart_some_step (UnaryOp_ (cInt fun t3 k3 => minusI fun t4 k4 => ?_))))))
  refine slSS F N (fun h2 t5 k5 F2 N2 => ?_) (by simp [Str.length]; lia)
  rw [sl_gen (a := 4) (b := bd.length + 4) (by simp [clipL]; lia) (by simp [clipL]; lia) (by lia)]
  have e1 : (tt.drop 4).take (bd.length + 4 - 4) = bd := by rw [← htt]; simp
  rw [e1]
  refine arg (cInt fun t6 k6 => arg (Constant_bool (arg (Constant_bool (arg ?_)))))
  refine List_ (arg (List_ (args_nil (newListS F2 N2 (fun X h3 kp3 F3 N3 hX => args_nil ?_)))))
  refine newListS F3 N3 (fun P h4 kp4 F4 N4 hP => args_nil ?_)
  refine newTupS F4 N4 (fun T h5 kp5 F5 N5 hT => ?_)
  refine asgT rfl F5 N5 (N5.get List.mem_cons_self) rfl (by rfl) (fun h6 kp6 F6 N6 => ?_)
  replace N6 : News h L h6 [(X, lstO #[] 0), (P, lstO #[.ref X] 0)] := News.swap (newsTail N6)
  have hXP : P ≠ X := fun e => hP (X, lstO #[] 0) List.mem_cons_self e.symm
  refine assignInOrder_cons (assign_Name (stS 1 [some (.str (tx tt) t), some (.str (tx bd) t5), none, none, none, none, none, none, none] ok F6 N6 rfl (Nat.le_of_ble_eq_true rfl) rfl (fun h7 k7 F7 N7 => ?_)))
  refine assignInOrder_cons (assign_Name (stS 2 [some (.str (tx tt) t), some (.str (tx bd) t5), some (.int 0 t6), none, none, none, none, none, none] ok F7 N7 rfl (Nat.le_of_ble_eq_true rfl) rfl (fun h8 k8 F8 N8 => ?_)))
  refine assignInOrder_cons (assign_Name (stS 3 [some (.str (tx tt) t), some (.str (tx bd) t5), some (.int 0 t6), some (.bool false), none, none, none, none, none] ok F8 N8 rfl (Nat.le_of_ble_eq_true rfl) rfl (fun h9 k9 F9 N9 => ?_)))
  refine assignInOrder_cons (assign_Name (stS 4 [some (.str (tx tt) t), some (.str (tx bd) t5), some (.int 0 t6), some (.bool false), some (.bool false), none, none, none, none] ok F9 N9 rfl (Nat.le_of_ble_eq_true rfl) rfl (fun h10 k10 F10 N10 => ?_)))
  refine assignInOrder_cons (assign_Name (stS 5 [some (.str (tx tt) t), some (.str (tx bd) t5), some (.int 0 t6), some (.bool false), some (.bool false), some (.ref P), none, none, none] ok F10 N10 rfl (Nat.le_of_ble_eq_true rfl) rfl (fun h11 k11 F11 N11 => assignInOrder_nil ?_)))
  clear F F2 N2 F3 N3 F4 N4 F5 N5 F6 N6 F7 N7 F8 N8 F9 N9 F10 N10 kp3 kp4 kp5 kp6
  refine wpAny_execs_cons (hideLet ?_)
  intro PHid
  refine wpAny_Assign_Name (wpAny_Compare1 (wpAny_BinOp ?_))
  refine sliceSub (ldl 0 ok F11 rfl rfl (evalPart_none_step (evalPart_some_step (cInt fun t12 k12 => ?_))))
  refine slNS F11 N11 (fun h12 t13 k13 F12 N12 => ?_) (by simp [Str.length]; lia)
  rw [sl_gen (a := 0) (b := 4) (by simp [clipL]) (by simp [clipL]; lia) (by lia)]
  refine sliceSub (ldl 0 ok F12 rfl rfl (evalPart_some_step (UnaryOp_ (cInt fun t14 k14 => minusI fun t15 k15 => evalPart_none_step ?_))))
  refine slFrom F12 N12 (fun h13 t16 k16 F13 N13 => ?_) (by simp [Str.length]; lia)
  rw [sl_gen (a := bd.length + 4) (b := tt.length) (by simp [clipL]; lia) (by simp [clipL]) (by lia)]
  refine addT (by simp; lia) (fun t17 k17 => ?_)
  refine cStr fun t18 k18 => ?_
  refine eqT (y := [40, 63, 115, 58, 41, 92, 90]) ?_
  have e2 : decide (((tt.drop 0).take (4 - 0)) ++ ((tt.drop (bd.length + 4)).take (tt.length - (bd.length + 4))) = [40, 63, 115, 58, 41, 92, 90]) = true := by
    rw [decide_eq_true_eq, htl, ← htt]
    exact ends_eq bd _ (by lia)
  rw [e2]
  refine stS 6 [some (.str (tx tt) t), some (.str (tx bd) t5), some (.int 0 t6), some (.bool false), some (.bool false), some (.ref P), some (.bool true), none, none] ok F13 N13 rfl (Nat.le_of_ble_eq_true rfl) rfl (fun h14 k19 F14 N14 => ?_)
  clear F11 F12 F13 N11 N12 N13
  refine wpAny_execs_cons (whileS (PInv tt bd t t5 P res) ts.length F14 N14 ⟨ts, false, false, [], [], 0, t6, none, [], X, [], 0, 0, [], rfl, hok, hrun, by rw [hbd]; simp, by rw [hbd]; rfl, rfl, rfl, ⟨rfl, fun i a p ha => by simp at ha⟩, .nil, hXP, by simp, by simp, by simp⟩ ?_)
  clear F14 N14 hXP
  rintro E' n vals news h1 k1 ⟨rest, held, last, init, cur, place, tp, st, As, X, vsL, kl, kp, olds, rfl, hok', hrun', hpl, hdr, rfl, rfl, hpcs, hcur, hPX, hol, hAs, hvl⟩ F N
  refine hideLet ?_
  intro PHid
  refine isTrue_and (isTrue_plain (ldl 6 ok F rfl rfl (wpAny_truthy_bool (ite_tt (isTrue_and (wpAny_isTrue_Compare1 (ldl 2 ok F rfl rfl ?_)))))))
  refine callB (fun Q' q => ldb 8 ok l F rfl (by decide) boot_len q) (arg (ldl 1 ok F rfl rfl (args_nil ?_)))
  refine lenSS (by simp [Str.length]; lia) (fun t20 k20 => lt_int (wpAny_truthy_bool ?_))
  have hbl : (tx bd).length = bd.length := by simp [Str.length]
  rw [hbl]
  cases rest with
  | nil =>
    have hpe : place = bd.length := by simpa [tks] using hpl
    rw [decide_eq_false (by lia)]
    refine ite_ff (ite_ff ?_)
    simp only [run] at hrun'
    obtain ⟨rfl, hlast, rfl⟩ : held = false ∧ last = (!init.isEmpty) ∧ init ++ [cur] = res := by
      cases held with
      | true => simp at hrun'
      | false =>
        by_cases hq : last = (!init.isEmpty)
        · simp [hq] at hrun'; exact ⟨rfl, hq, hrun'⟩
        · rw [if_neg (by simpa using hq)] at hrun'; cases hrun'
    have hlen : (As ++ [X]).length = init.length + 1 := by simp [hpcs.1]
    have hPl : h1.IsList P ((As ++ [X]).map Value.ref).toArray := ⟨_, N.get (List.mem_cons_of_mem _ List.mem_cons_self), rfl, _, rfl⟩
    refine wpAny_execs_cons (hideLet ?_)
    intro PHid
    refine wpAny_Return_some (IfExp_ (isTrue_and (isTrue_plain (ldl 6 ok F rfl rfl (wpAny_truthy_bool (ite_tt ?_))))))
    refine isTrue_and (isTrue_not (isTrue_plain (ldl 3 ok F rfl rfl (wpAny_truthy_bool (ite_tt ?_)))))
    refine isTrue_and (wpAny_isTrue_Compare1 (ldl 4 ok F rfl rfl (wpAny_Compare1 ?_)))
    refine callB (fun Q' q => ldb 8 ok l F rfl (by decide) boot_len q) (arg (ldl 5 ok F rfl rfl (args_nil ?_)))
    refine lenLS hPl (by simp; lia) (fun t30 k30 => cInt fun t31 k31 => gt_int (PyProof.Rows.eq_bool (wpAny_truthy_bool ?_)))
    have hval : (last == decide ((((As ++ [X]).map Value.ref).length : Int) > 1)) = true := by
      rw [hlast, List.length_map, hlen]
      cases init <;> simp
      lia
    rw [hval]
    refine ite_tt (isTrue_and_nil (ite_tt (ldl 5 ok F rfl rfl ?_)))
    exact hR _ _ _ F.keep ⟨P, As ++ [X], kp, _, rfl, fun p hp => ⟨N.fresh hp, N.get hp⟩, List.mem_cons_of_mem _ List.mem_cons_self, PcsIn.snoc (hpcs.mono fun p hp => List.mem_cons_of_mem _ (List.mem_cons_of_mem _ hp)) List.mem_cons_self hcur⟩
  | cons tk r =>
    have htk : TkOk tk := hok' tk List.mem_cons_self
    have hok2 : ∀ k ∈ r, TkOk k := fun k hk => hok' k (List.mem_cons_of_mem _ hk)
    have htx : tks (tk :: r) = tk.text ++ tks r := rfl
    have hlen1 : 0 < tk.text.length := by
      cases tk with
      | sgn x => rcases htk with ⟨c, rfl, _⟩ | ⟨c, rfl⟩ <;> simp [TK.text]
      | _ => simp [TK.text]
    rw [htx, List.length_append] at hpl
    rw [htx] at hdr
    rw [decide_eq_true (by lia)]
    refine ite_tt (isTrue_and_nil (ite_tt ?_))
    have hp2 : bd.drop (place + tk.text.length) = tks r := by
      rw [← List.drop_drop, hdr, List.drop_left]
    refine wpAny_execs_cons (hideLet ?_)
    intro PHid
    refine wpAny_If (wpAny_isTrue_Compare1 (sliceSub (ldl 1 ok F rfl rfl (evalPart_some_step (ldl 2 ok F rfl rfl (evalPart_some_step (wpAny_BinOp (ldl 2 ok F rfl rfl (cInt fun t21 k21 => addI fun t22 k22 => ?_)))))))))
    refine slSS F N (fun h2 t23 k23 F2 N2 => ?_) (by lia)
    refine cStr fun t24 k24 => ?_
    have e6 := sl_ss (l := bd) (i := place) (j := place + 6) (by lia) (by lia)
    rw [show ((place + 6 : Nat) : Int) = (place : Int) + 6 from rfl, hdr, Nat.add_sub_cancel_left] at e6
    rw [e6]
    refine eqT (y := [40, 63, 62, 46, 42, 63]) (wpAny_truthy_bool ?_)
    cases tk with
    | opn =>
      simp only [run] at hrun'
      obtain ⟨rfl, rfl⟩ : held = false ∧ last = false := by cases held <;> cases last <;> simp at hrun' <;> exact ⟨rfl, rfl⟩
      simp only [Bool.or_self, Bool.false_eq_true, if_false] at hrun'
      rw [show decide (((TK.opn).text ++ tks r).take 6 = [40, 63, 62, 46, 42, 63]) = true from rfl]
      refine ite_tt ?_
      refine wpAny_execs_cons (hideLet ?_)
      intro PHid
      refine Assign_Tuple_swapped (Tuple_ ?_) (by rfl) (by rfl)
      refine arg (BoolOp_and (UnaryOp_ (ldl 3 ok F2 rfl rfl (not_of (wpAny_truthy_bool (wpAny_truthy_bool (ite_tt ?_)))))))
      refine BoolOp_one (UnaryOp_ (ldl 4 ok F2 rfl rfl (not_of (wpAny_truthy_bool ?_))))
      refine arg (Constant_bool (arg (wpAny_BinOp (ldl 2 ok F2 rfl rfl (cInt fun t25 k25 => addI fun t26 k26 => args_nil (newTupS F2 N2 (fun T h4 kp4 F4 N4 hT => ?_)))))))
      refine unpS rfl F4 N4 (N4.get List.mem_cons_self) rfl (fun h5 kp5 F5 N5 => ?_)
      replace N5 := newsTail N5
      refine assignInOrder_cons (bindName_ (stS 2 [some (.str (tx tt) t), some (.str (tx bd) t5), some (.int (place + 6 : Nat) t26), some (.bool false), some (.bool false), some (.ref P), some (.bool true), st, none] ok F5 N5 rfl (Nat.le_of_ble_eq_true rfl) rfl (fun h6 k27 F6 N6 => ?_)))
      refine assignInOrder_cons (bindName_ (stS 3 [some (.str (tx tt) t), some (.str (tx bd) t5), some (.int (place + 6 : Nat) t26), some (.bool true), some (.bool false), some (.ref P), some (.bool true), st, none] ok F6 N6 rfl (Nat.le_of_ble_eq_true rfl) rfl (fun h7 k28 F7 N7 => ?_)))
      refine assignInOrder_cons (bindName_ (stS 6 [some (.str (tx tt) t), some (.str (tx bd) t5), some (.int (place + 6 : Nat) t26), some (.bool true), some (.bool false), some (.ref P), some (.bool true), st, none] ok F7 N7 rfl (Nat.le_of_ble_eq_true rfl) rfl (fun h8 k29 F8 N8 => assignInOrder_nil ?_)))
      refine wpAny_execs_cons (hideLet ?_)
      intro PHid
      refine wpAny_Expr_any (MethodCall_ (ldl 5 ok F8 rfl rfl (getMethod_list_append (N8.get (List.mem_cons_of_mem _ List.mem_cons_self)) rfl rfl (cwB (arg (List_ (args_nil ?_)))))))
      refine newListS F8 N8 (fun Y h9 kp9 F9 N9 hY => args_nil ?_)
      replace N9 : News h L h9 ((P, lstO ((As ++ [X]).map Value.ref).toArray kp) :: (Y, lstO #[] 0) :: (X, lstO vsL.toArray kl) :: olds) := News.swap3 N9
      have hPY : P ≠ Y := hY _ (List.mem_cons_of_mem _ List.mem_cons_self)
      have hXY : X ≠ Y := hY _ List.mem_cons_self
      refine appS F9 N9 ?_ (fun h10 kp10 hs10 F10 N10 => ?_) (by rw [sizeLine]; simp; lia)
      · intro p hp
        rcases List.mem_cons.mp hp with rfl | hp
        · exact Ne.symm hPY
        · rcases List.mem_cons.mp hp with rfl | hp
          · exact Ne.symm hPX
          · exact (hol p hp).2
      refine wpAny_execs_nil (wpAny_execs_nil ⟨r.length, Nat.lt_succ_self _, At.mk F10 (News.swap N10) ⟨r, true, false, init ++ [cur], [], place + 6, t26, st, As ++ [X], Y, [], 0, kp10, (X, lstO vsL.toArray kl) :: olds, rfl, hok2, hrun', by simp [TK.text] at hpl; lia, hp2, rfl, by simp, ?_, .nil, hPY, ?_, by simp; lia, by simp⟩⟩)
      · exact PcsIn.snoc (hpcs.mono fun p hp => List.mem_cons_of_mem _ hp) List.mem_cons_self hcur
      · intro p hp
        rcases List.mem_cons.mp hp with rfl | hp
        · exact ⟨hXY, Ne.symm hPX⟩
        · exact ⟨hY p (List.mem_cons_of_mem _ (List.mem_cons_of_mem _ hp)), (hol p hp).2⟩
    | tl =>
      simp only [run] at hrun'
      obtain ⟨rfl, rfl⟩ : held = false ∧ last = false := by cases held <;> cases last <;> simp at hrun' <;> exact ⟨rfl, rfl⟩
      simp only [Bool.or_self, Bool.false_eq_true, if_false] at hrun'
      rw [show decide (((TK.tl).text ++ tks r).take 6 = [40, 63, 62, 46, 42, 63]) = false from rfl]
      refine ite_ff ?_
      refine wpAny_execs_cons (hideLet ?_)
      intro PHid
      refine wpAny_If (wpAny_isTrue_Compare1 (sliceSub (ldl 1 ok F2 rfl rfl (evalPart_some_step (ldl 2 ok F2 rfl rfl (evalPart_some_step (wpAny_BinOp (ldl 2 ok F2 rfl rfl (cInt fun t21 k21 => addI fun t22 k22 => ?_)))))))))
      refine slSS F2 N2 (fun h3 t23 k23 F3 N3 => ?_) (by lia)
      clear F2 N2
      have F2 := F3
      have N2 := N3
      refine cStr fun t24 k24 => ?_
      have e2 := sl_ss (l := bd) (i := place) (j := place + 2) (by lia) (by lia)
      rw [show ((place + 2 : Nat) : Int) = (place : Int) + 2 from rfl, hdr, Nat.add_sub_cancel_left] at e2
      rw [e2]
      refine eqT (y := [46, 42]) (wpAny_truthy_bool ?_)
      rw [show decide (((TK.tl).text ++ tks r).take 2 = [46, 42]) = true from rfl]
      refine ite_tt ?_
      refine wpAny_execs_cons (hideLet ?_)
      intro PHid
      refine Assign_Tuple_swapped (Tuple_ ?_) (by rfl) (by rfl)
      refine arg (BoolOp_and (UnaryOp_ (ldl 3 ok F2 rfl rfl (not_of (wpAny_truthy_bool (wpAny_truthy_bool (ite_tt ?_)))))))
      refine BoolOp_one (UnaryOp_ (ldl 4 ok F2 rfl rfl (not_of (wpAny_truthy_bool ?_))))
      refine arg (Constant_bool (arg (wpAny_BinOp (ldl 2 ok F2 rfl rfl (cInt fun t25 k25 => addI fun t26 k26 => args_nil (newTupS F2 N2 (fun T h4 kp4 F4 N4 hT => ?_)))))))
      refine unpS rfl F4 N4 (N4.get List.mem_cons_self) rfl (fun h5 kp5 F5 N5 => ?_)
      replace N5 := newsTail N5
      refine assignInOrder_cons (bindName_ (stS 2 [some (.str (tx tt) t), some (.str (tx bd) t5), some (.int (place + 2 : Nat) t26), some (.bool false), some (.bool false), some (.ref P), some (.bool true), st, none] ok F5 N5 rfl (Nat.le_of_ble_eq_true rfl) rfl (fun h6 k27 F6 N6 => ?_)))
      refine assignInOrder_cons (bindName_ (stS 4 [some (.str (tx tt) t), some (.str (tx bd) t5), some (.int (place + 2 : Nat) t26), some (.bool false), some (.bool true), some (.ref P), some (.bool true), st, none] ok F6 N6 rfl (Nat.le_of_ble_eq_true rfl) rfl (fun h7 k28 F7 N7 => ?_)))
      refine assignInOrder_cons (bindName_ (stS 6 [some (.str (tx tt) t), some (.str (tx bd) t5), some (.int (place + 2 : Nat) t26), some (.bool false), some (.bool true), some (.ref P), some (.bool true), st, none] ok F7 N7 rfl (Nat.le_of_ble_eq_true rfl) rfl (fun h8 k29 F8 N8 => assignInOrder_nil ?_)))
      refine wpAny_execs_cons (hideLet ?_)
      intro PHid
      refine wpAny_Expr_any (MethodCall_ (ldl 5 ok F8 rfl rfl (getMethod_list_append (N8.get (List.mem_cons_of_mem _ List.mem_cons_self)) rfl rfl (cwB (arg (List_ (args_nil ?_)))))))
      refine newListS F8 N8 (fun Y h9 kp9 F9 N9 hY => args_nil ?_)
      replace N9 : News h L h9 ((P, lstO ((As ++ [X]).map Value.ref).toArray kp) :: (Y, lstO #[] 0) :: (X, lstO vsL.toArray kl) :: olds) := News.swap3 N9
      have hPY : P ≠ Y := hY _ (List.mem_cons_of_mem _ List.mem_cons_self)
      have hXY : X ≠ Y := hY _ List.mem_cons_self
      refine appS F9 N9 ?_ (fun h10 kp10 hs10 F10 N10 => ?_) (by rw [sizeLine]; simp; lia)
      · intro p hp
        rcases List.mem_cons.mp hp with rfl | hp
        · exact Ne.symm hPY
        · rcases List.mem_cons.mp hp with rfl | hp
          · exact Ne.symm hPX
          · exact (hol p hp).2
      refine wpAny_execs_nil (wpAny_execs_nil (wpAny_execs_nil ⟨r.length, Nat.lt_succ_self _, At.mk F10 (News.swap N10) ⟨r, false, true, init ++ [cur], [], place + 2, t26, st, As ++ [X], Y, [], 0, kp10, (X, lstO vsL.toArray kl) :: olds, rfl, hok2, hrun', by simp [TK.text] at hpl; lia, hp2, rfl, by simp, ?_, .nil, hPY, ?_, by simp; lia, by simp⟩⟩))
      · exact PcsIn.snoc (hpcs.mono fun p hp => List.mem_cons_of_mem _ hp) List.mem_cons_self hcur
      · intro p hp
        rcases List.mem_cons.mp hp with rfl | hp
        · exact ⟨hXY, Ne.symm hPX⟩
        · exact ⟨hY p (List.mem_cons_of_mem _ (List.mem_cons_of_mem _ hp)), (hol p hp).2⟩
    | cls =>
      simp only [run] at hrun'
      obtain rfl : held = true := by cases held <;> simp at hrun' <;> rfl
      simp only [if_true] at hrun'
      have hf : bd[place]? = some 41 := by
        have := congrArg (fun l => l[0]?) hdr
        simpa [TK.text] using this
      rw [show decide (((TK.cls).text ++ tks r).take 6 = [40, 63, 62, 46, 42, 63]) = false from rfl]
      refine ite_ff ?_
      refine wpAny_execs_cons (hideLet ?_)
      intro PHid
      refine wpAny_If (wpAny_isTrue_Compare1 (sliceSub (ldl 1 ok F2 rfl rfl (evalPart_some_step (ldl 2 ok F2 rfl rfl (evalPart_some_step (wpAny_BinOp (ldl 2 ok F2 rfl rfl (cInt fun t21 k21 => addI fun t22 k22 => ?_)))))))))
      refine slSS F2 N2 (fun h3 t23 k23 F3 N3 => ?_) (by lia)
      refine cStr fun t24 k24 => ?_
      have e2 := sl_ss (l := bd) (i := place) (j := place + 2) (by lia) (by lia)
      rw [show ((place + 2 : Nat) : Int) = (place : Int) + 2 from rfl, hdr, Nat.add_sub_cancel_left] at e2
      rw [e2]
      refine eqT (y := [46, 42]) (wpAny_truthy_bool ?_)
      rw [show decide (((TK.cls).text ++ tks r).take 2 = [46, 42]) = false from rfl]
      refine ite_ff ?_
      refine wpAny_execs_cons (hideLet ?_)
      intro PHid
      refine wpAny_If (wpAny_isTrue_Compare1 (Subscript_ (ldl 1 ok F3 rfl rfl (ldl 2 ok F3 rfl rfl (itemT (by simpa using hf) (by lia) (fun t8 k8 => ?_))))))
      refine cStr fun t9 k9 => PyProof.Rows.eq_str (wpAny_truthy_bool ?_)
      show if (one 41 == one 41) = true then _ else _
      rw [one_beq, decide_eq_true rfl]
      refine ite_tt ?_
      refine wpAny_execs_cons (hideLet ?_)
      intro PHid
      refine Assign_Tuple_swapped (Tuple_ ?_) (by rfl) (by rfl)
      refine arg (ldl 3 ok F3 rfl rfl (arg (Constant_bool (arg (wpAny_BinOp (ldl 2 ok F3 rfl rfl (cInt fun t25 k25 => addI fun t26 k26 => args_nil (newTupS F3 N3 (fun T h4 kp4 F4 N4 hT => ?_)))))))))
      refine unpS rfl F4 N4 (N4.get List.mem_cons_self) rfl (fun h5 kp5 F5 N5 => ?_)
      replace N5 := newsTail N5
      refine assignInOrder_cons (bindName_ (stS 2 [some (.str (tx tt) t), some (.str (tx bd) t5), some (.int (place + 1 : Nat) t26), some (.bool true), some (.bool last), some (.ref P), some (.bool true), st, none] ok F5 N5 rfl (Nat.le_of_ble_eq_true rfl) rfl (fun h6 k27 F6 N6 => ?_)))
      refine assignInOrder_cons (bindName_ (stS 3 [some (.str (tx tt) t), some (.str (tx bd) t5), some (.int (place + 1 : Nat) t26), some (.bool false), some (.bool last), some (.ref P), some (.bool true), st, none] ok F6 N6 rfl (Nat.le_of_ble_eq_true rfl) rfl (fun h7 k28 F7 N7 => ?_)))
      refine assignInOrder_cons (bindName_ (stS 6 [some (.str (tx tt) t), some (.str (tx bd) t5), some (.int (place + 1 : Nat) t26), some (.bool false), some (.bool last), some (.ref P), some (.bool true), st, none] ok F7 N7 rfl (Nat.le_of_ble_eq_true rfl) rfl (fun h8 k29 F8 N8 => assignInOrder_nil ?_)))
      refine wpAny_execs_nil (wpAny_execs_nil (wpAny_execs_nil (wpAny_execs_nil ⟨r.length, Nat.lt_succ_self _, At.mk F8 N8 ⟨r, false, last, init, cur, place + 1, t26, st, As, X, vsL, kl, kp, olds, rfl, hok2, hrun', by simp [TK.text] at hpl; lia, hp2, rfl, rfl, hpcs, hcur, hPX, hol, by lia, by lia⟩⟩)))
    | sgn x =>
      simp only [run] at hrun'
      have hcond : (held || last || init.isEmpty) = true := by
        cases hq : (held || last || init.isEmpty) with
        | true => rfl
        | false => rw [hq] at hrun'; simp at hrun'
      rw [hcond, if_pos rfl] at hrun'
      obtain ⟨f, e, sn, u, htext, hsn, hkind, h41, h40, hgl, hsv⟩ := sgn_key htk
      rw [htext] at hdr hp2 hpl ⊢
      rw [hsn] at hpl
      have hf : bd[place]? = some f := by
        have := congrArg (fun l => l[0]?) hdr
        simpa using this
      rw [show decide (((f :: u) ++ tks r).take 6 = [40, 63, 62, 46, 42, 63]) = false by simp; intro e; exact absurd e h40]
      refine ite_ff ?_
      refine wpAny_execs_cons (hideLet ?_)
      intro PHid
      refine wpAny_If (wpAny_isTrue_Compare1 (sliceSub (ldl 1 ok F2 rfl rfl (evalPart_some_step (ldl 2 ok F2 rfl rfl (evalPart_some_step (wpAny_BinOp (ldl 2 ok F2 rfl rfl (cInt fun t21 k21 => addI fun t22 k22 => ?_)))))))))
      refine slSS F2 N2 (fun h3 t23 k23 F3 N3 => ?_) (by lia)
      refine cStr fun t24 k24 => ?_
      have e2 := sl_ss (l := bd) (i := place) (j := place + 2) (by lia) (by lia)
      rw [show ((place + 2 : Nat) : Int) = (place : Int) + 2 from rfl, hdr, Nat.add_sub_cancel_left] at e2
      rw [e2]
      refine eqT (y := [46, 42]) (wpAny_truthy_bool ?_)
      have hn2 : ((f :: u) ++ tks r).take 2 ≠ [46, 42] := by
        intro e3
        rcases hkind with ⟨_, rfl⟩ | ⟨rfl, _, _⟩
        · simp at e3
        · have hu : u = [] := by simpa using hsn
          subst hu
          simp at e3
          obtain ⟨_, e4⟩ := e3
          cases hr : tks r with
          | nil => rw [hr] at e4; simp at e4
          | cons z zs => rw [hr] at e4; simp at e4; subst e4; exact tks_head hok2 zs hr
      rw [decide_eq_false hn2]
      refine ite_ff ?_
      clear F2 N2
      refine wpAny_execs_cons (hideLet ?_)
      intro PHid
      refine wpAny_If (wpAny_isTrue_Compare1 (Subscript_ (ldl 1 ok F3 rfl rfl (ldl 2 ok F3 rfl rfl (itemT (by simpa using hf) (by lia) (fun t8 k8 => ?_))))))
      refine cStr fun t9 k9 => PyProof.Rows.eq_str (wpAny_truthy_bool ?_)
      show if (one f == one 41) = true then _ else _
      rw [one_beq, decide_eq_false h41]
      refine ite_ff ?_
      -- the step
      refine wpAny_execs_cons (hideLet ?_)
      intro PHid
      refine wpAny_Assign_Name (wpAny_mono (Q := fun v s' => ∃ ts k', v = .int sn ts ∧ s' = ⟨h3, g, d, k', o⟩) ?_ ?_ (fun _ _ e => e))
      · refine IfExp_ (wpAny_isTrue_Compare1 (Subscript_ (ldl 1 ok F3 rfl rfl (ldl 2 ok F3 rfl rfl (itemT (by simpa using hf) (by lia) (fun t10 k10 => ?_))))))
        refine cStr fun t11 k11 => PyProof.Rows.eq_str (wpAny_truthy_bool ?_)
        show if (one f == one 92) = true then _ else _
        rw [one_beq]
        rcases hkind with ⟨rfl, rfl⟩ | ⟨rfl, h92, _⟩
        · exact ite_tt (cInt fun t12 k12 => ⟨_, _, rfl, rfl⟩)
        · rw [decide_eq_false h92]
          exact ite_ff (cInt fun t12 k12 => ⟨_, _, rfl, rfl⟩)
      rintro _ _ ⟨tq, k13, rfl, rfl⟩
      refine stS 7 [some (.str (tx tt) t), some (.str (tx bd) t5), some (.int place tp), some (.bool held), some (.bool last), some (.ref P), some (.bool true), some (.int sn tq), none] ok F3 N3 rfl (Nat.le_of_ble_eq_true rfl) rfl (fun h4 k14 F4 N4 => ?_)
      clear F3 N3
      have hlen : (As ++ [X]).length = init.length + 1 := by simp [hpcs.1]
      have hPl : h4.IsList P ((As ++ [X]).map Value.ref).toArray := ⟨_, N4.get (List.mem_cons_of_mem _ List.mem_cons_self), rfl, _, rfl⟩
      refine wpAny_execs_cons (hideLet ?_)
      intro PHid
      refine wpAny_Assign_Name (wpAny_mono (Q := fun v s' => ∃ k', v = .bool true ∧ s' = ⟨h4, g, d, k', o⟩) ?_ ?_ (fun _ _ e => e))
      · refine BoolOp_and (wpAny_mono (Q := fun v s' => ∃ k', v = .bool true ∧ s' = ⟨h4, g, d, k', o⟩) ?_ ?_ (fun _ _ e => e))
        · refine BoolOp_or (ldl 3 ok F4 rfl rfl (wpAny_truthy_bool ?_))
          cases held with
          | true => exact ite_tt ⟨_, rfl, rfl⟩
          | false =>
            refine ite_ff (BoolOp_or (ldl 4 ok F4 rfl rfl (wpAny_truthy_bool ?_)))
            cases last with
            | true => exact ite_tt ⟨_, rfl, rfl⟩
            | false =>
              refine ite_ff (BoolOp_one (wpAny_Compare1 ?_))
              refine callB (fun Q' q => ldb 8 ok l F4 rfl (by decide) boot_len q) (arg (ldl 5 ok F4 rfl rfl (args_nil ?_)))
              refine lenLS hPl (by simp; lia) (fun t30 k30 => cInt fun t31 k31 => eq_int ⟨_, ?_, rfl⟩)
              have hie : init = [] := by simpa using hcond
              subst hie
              have : As = [] := by simpa using hpcs.1
              subst this
              rfl
        · rintro _ _ ⟨k15, rfl, rfl⟩
          refine wpAny_truthy_bool (ite_tt (BoolOp_one (BoolOp_or (wpAny_Compare1 (ldl 7 ok F4 rfl rfl (cInt fun t16 k16 => eq_int (wpAny_truthy_bool ?_)))))))
          rcases hkind with ⟨rfl, rfl⟩ | ⟨rfl, h92, hbad⟩
          · exact ite_tt ⟨_, rfl, rfl⟩
          · refine ite_ff (BoolOp_one (wpAny_Compare1 (Subscript_ (ldl 1 ok F4 rfl rfl (ldl 2 ok F4 rfl rfl (itemT (by simpa using hf) (by lia) (fun t17 k17 => ?_)))))))
            refine cStr fun t18 k18 => notInT (l := bad) ⟨_, ?_, rfl⟩
            rw [hbad]; rfl
      rintro _ _ ⟨k16, rfl, rfl⟩
      refine stS 6 [some (.str (tx tt) t), some (.str (tx bd) t5), some (.int place tp), some (.bool held), some (.bool last), some (.ref P), some (.bool true), some (.int sn tq), none] ok F4 N4 rfl (Nat.le_of_ble_eq_true rfl) rfl (fun h5 k17 F5 N5 => ?_)
      clear F4 N4 hPl
      have hPl : h5.IsList P ((As ++ [X]).map Value.ref).toArray := ⟨_, N5.get (List.mem_cons_of_mem _ List.mem_cons_self), rfl, _, rfl⟩
      refine wpAny_execs_cons (hideLet ?_)
      intro PHid
      refine wpAny_Expr_any (MethodCall_ (Subscript_ (ldl 5 ok F5 rfl rfl (UnaryOp_ (cInt fun t18 k18 => minusI fun t19 k19 => ?_)))))
      refine itemLastS (x := .ref X) hPl (by first | exact Nat.le_of_ble_eq_true rfl | (repeat (first | exact .head _ | apply List.Mem.tail)); done | simp) (by first | exact Nat.le_of_ble_eq_true rfl | (repeat (first | exact .head _ | apply List.Mem.tail)); done | simp) ?_
      refine getMethod_list_append (N5.get List.mem_cons_self) rfl rfl (cwB (arg ?_))
      refine wpAny_mono (Q := fun v s' => ∃ tv h6 k', v = .str (sval x) tv ∧ s' = ⟨h6, g, d, k', o⟩ ∧ Fr h L h6 (locs (nms (dScope 19)) [some (.str (tx tt) t), some (.str (tx bd) t5), some (.int place tp), some (.bool held), some (.bool last), some (.ref P), some (.bool true), some (.int sn tq), none]) ∧
        News h L h6 ((X, lstO vsL.toArray kl) :: (P, lstO ((As ++ [X]).map Value.ref).toArray kp) :: olds)) ?_ ?_ (fun _ _ e => e)
      · refine IfExp_ (wpAny_isTrue_Compare1 (Subscript_ (ldl 1 ok F5 rfl rfl (ldl 2 ok F5 rfl rfl (itemT (by simpa using hf) (by lia) (fun t10 k10 => ?_))))))
        refine cStr fun t11 k11 => PyProof.Rows.eq_str (wpAny_truthy_bool ?_)
        show if (one f == one 46) = true then _ else _
        rw [one_beq]
        by_cases h46 : f = 46
        · rw [decide_eq_true h46]
          refine ite_tt (cStr fun t12 k12 => ⟨t12, _, _, ?_, rfl, F5, N5⟩)
          rw [hsv, if_pos h46]
          rfl
        · rw [decide_eq_false h46]
          refine ite_ff (Subscript_ ?_)
          refine sliceSub (ldl 1 ok F5 rfl rfl (evalPart_some_step (ldl 2 ok F5 rfl rfl (evalPart_some_step (wpAny_BinOp (ldl 2 ok F5 rfl rfl (ldl 7 ok F5 rfl rfl (addI fun t22 k22 => ?_))))))))
          refine slSS F5 N5 (fun h6 t23 k23 F6 N6 => ?_) (by lia)
          have e3 := sl_ss (l := bd) (i := place) (j := place + sn) (by lia) (by lia)
          rw [show ((place + sn : Nat) : Int) = (place : Int) + (sn : Int) from rfl, hdr, Nat.add_sub_cancel_left, List.take_left' hsn] at e3
          rw [e3]
          refine UnaryOp_ (cInt fun t24 k24 => minusI fun t25 k25 => itemLastT hgl (by lia) (fun t26 k26 => ⟨t26, _, _, ?_, rfl, F6, N6⟩))
          rw [hsv, if_neg h46]
      rintro _ _ ⟨tv, h6, k20, rfl, rfl, F6, N6⟩
      refine args_nil (appS F6 N6 ?_ (fun h7 kl7 hs7 F7 N7 => ?_) (by rw [sizeLine]; simp; lia))
      · intro p hp
        rcases List.mem_cons.mp hp with rfl | hp
        · exact hPX
        · exact (hol p hp).1
      refine wpAny_execs_cons (hideLet ?_)
      intro PHid
      refine wpAny_AugAssign_Name (ldnl 2 ok F7 rfl rfl (ldl 7 ok F7 rfl rfl (iaddI fun t27 k28 => ?_)))
      refine stS 2 [some (.str (tx tt) t), some (.str (tx bd) t5), some (.int (place + sn : Nat) t27), some (.bool held), some (.bool last), some (.ref P), some (.bool true), some (.int sn tq), none] ok F7 N7 rfl (Nat.le_of_ble_eq_true rfl) rfl (fun h8 k29 F8 N8 => ?_)
      refine wpAny_execs_nil (wpAny_execs_nil (wpAny_execs_nil (wpAny_execs_nil ⟨r.length, Nat.lt_succ_self _, At.mk F8 N8 ⟨r, held, last, init, cur ++ [sval x], place + sn, t27, _, As, X, vsL ++ [.str (sval x) tv], kl7, kp, olds, rfl, hok2, hrun', by lia, by rw [← hsn]; exact hp2, rfl, by simp, hpcs, hcur.append' (.cons _ _ .nil), hPX, hol, by lia, by rcases hkind with ⟨rfl, _⟩ | ⟨rfl, _⟩ <;> simp <;> lia⟩⟩)))
end Mine
namespace Mine
noncomputable def kof (sc : Scope) (x : Str) : Option NameKind := sc.names.lookup x
theorem lookup_relabel {env : Env} : ∀ {names : List (Str × NameKind)} {x : Str} {k : NameKind}, names.lookup x = some k →
    (names.map fun (n, k) => if (k == NameKind.free && env.scope.kind == .function && env.kindOf n == some .cell) then (n, NameKind.cell) else (n, k)).lookup x = some (if (k == NameKind.free && env.scope.kind == .function && env.kindOf x == some .cell) then .cell else k)
  | [], _, _, h => by simp at h
  | (n, k') :: r, x, k, h => by
    have ih := @lookup_relabel env r x k
    rw [List.map_cons]
    rw [List.lookup_cons] at h
    by_cases hx : x = n
    · subst hx
      simp only [beq_self_eq_true, Option.some.injEq] at h
      subst h
      dsimp only
      split <;> simp
    · have hb : (x == n) = false := by simpa using hx
      rw [hb] at h
      dsimp only
      split
      · rw [List.lookup_cons, hb]; exact ih h
      · rw [List.lookup_cons, hb]; exact ih h

section
variable {w : World} {A : Around} {E : Value → Shared → Prop} {h : Heap} {g : Array GenState} {d : Drawn} {k : Nat} {o : OsState} {name : Str} {sc sc' : Scope} {L a : Addr} {cd : Value} {cl cl' : List (Str × Addr)} {h₀ : Heap} {vals : List (Option Value)}
  {m : Str → Option Value} {mg mb : Str → Option Value} {ad : Nat → Addr} {news : List (Addr × Obj)} {env : Env}

theorem kindC {x : Str} {kk : NameKind} (hx : sc.names.lookup x = some kk) (hn : kk ≠ .free) {C : Addr} : (compEnvC sc cl C env).kindOf x = some kk := by
  show (relabel sc env).names.lookup x = _
  refine (lookup_relabel (env := env) hx).trans ?_
  have hf : (kk == NameKind.free) = false := by simpa using hn
  rw [hf]
  rfl
/-- a captured name in a comprehension -/
theorem ldCc {x : Str} {pos : Pos} {c C : Addr} {v : Value} {Q : Value → Shared → Prop} (hk : sc'.kind = .function) (hx : sc'.names.lookup x = some .free) (ok : sc.kind = .function) (hec : sc.names.lookup x = some .cell) (hcl : cl'.lookup x = some c) (hc : h.IsCell c (some v))
    (q : Q v ⟨h, g, d, k, o⟩) (hd : (x == ("__debug__" : Str)) = false := by decide) : wpAny (model prg w) A (eval (.Name x pos) (compEnvC sc' cl' C (envX name sc L a cd cl))) Q E ⟨h, g, d, k, o⟩ := by
  refine wpAny_Name (wpAny_loadName_cell (env := compEnvC sc' cl' C (envX name sc L a cd cl)) hk ?_ hcl hc q) hd
  show (relabel sc' _).names.lookup x = _
  have e : (envX name sc L a cd cl).kindOf x = some .cell := hec
  have e2 : (envX name sc L a cd cl).scope.kind = .function := ok
  refine (lookup_relabel (env := envX name sc L a cd cl) hx).trans ?_
  rw [e, e2]
  rfl
theorem ldgC {x : Str} {pos : Pos} {C : Addr} {Q : Value → Shared → Prop} (kf : Nat) (hk : sc'.kind = .function) (hx : sc'.names.lookup x = some .globalImplicit) (l : Lib ad mg mb h₀) (F : Fr h₀ L h m) (hi : kf ∈ fnIdx) (e : dName kf = x)
    (q : Q (.ref (ad kf)) ⟨h, g, d, k, o⟩) (hd : (x == ("__debug__" : Str)) = false := by decide) : wpAny (model prg w) A (eval (.Name x pos) (compEnvC sc' cl' C (envX name sc L a cd cl))) Q E ⟨h, g, d, k, o⟩ :=
  Name_function_global (env := compEnvC sc' cl' C (envX name sc L a cd cl)) hk (kindC hx (by decide)) (loadGlobal_global (env := compEnvC sc' cl' C (envX name sc L a cd cl)) (l.g.keeps F.keep) (e ▸ (l.fn kf hi).1) q) hd
theorem ldbC {x : Str} {pos : Pos} {C : Addr} {v : Value} {Q : Value → Shared → Prop} (hk : sc'.kind = .function) (hx : sc'.names.lookup x = some .globalImplicit) (l : Lib ad mg mb h₀) (F : Fr h₀ L h m) (hm : x ∈ bNames)
    (hv : bootBuiltins x = some v) (q : Q v ⟨h, g, d, k, o⟩) (hn : x ≠ "__name__" := by decide) (hd : (x == ("__debug__" : Str)) = false := by decide) : wpAny (model prg w) A (eval (.Name x pos) (compEnvC sc' cl' C (envX name sc L a cd cl))) Q E ⟨h, g, d, k, o⟩ :=
  Name_function_global (env := compEnvC sc' cl' C (envX name sc L a cd cl)) hk (kindC hx (by decide)) (loadGlobal_builtin (env := compEnvC sc' cl' C (envX name sc L a cd cl)) (l.g.keeps F.keep) (l.no x hm) (l.b.keeps F.keep) ((l.bi x hn).trans hv) q) hd

/-- a call of a def with one cell -/
theorem enterC {A : Around} {R : Result → Shared → Prop} (i : Nat) {args : List Value} (ps : List Str) (vals : List (Option Value)) (cn : Str) (cv : Option Value) (l : Lib ad mg mb h) (hi : i ∈ fnIdx) (ok : ScOk (dScope i)) (hroom : A.depth < recursionLimit)
    (hps : (dArgs i).args.map (·.arg) = ps)
    (hbind : ∀ pm cd doc, bindArgs (docDef (dName i) (dArgs i) (dBody i) (dScope i) pm cd doc) ⟨args, []⟩ = pure (((dArgs i).args.map (·.arg)).zip args))
    (hcell : ∀ n, cellsFrom n (dScope i).names [] = [(cn, n)]) (hkind : ∀ x ∈ ps, (dScope i).names.lookup x = some .local ∨ ((dScope i).names.lookup x = some .cell ∧ x = cn))
    (hm : bindL (kof (dScope i)) (ps.zip args) (fun _ => none) = locs (nms (dScope i)) vals) (hc : bindC (kof (dScope i)) (ps.zip args) (fun _ => none) cn = cv)
    (q : ∀ L cd h₁ k' ob, h.objs.size ≤ L → Fr h L h₁ (locs (nms (dScope i)) vals) → News h L h₁ [(L + 1, ob)] → ob.data = .cell cv →
      wpAny (model prg w) (A.deeper (envX (dName i) (dScope i) L (ad i) cd [(cn, L + 1)])) (execs (dBody i) (envX (dName i) (dScope i) L (ad i) cd [(cn, L + 1)]))
        (fun f s' => R (.ok (.ret (match f with | .ret v => v | _ => .none))) s') (fun _ _ => False) ⟨h₁, g, d, k', o⟩) :
    codeAny (model prg w) A (.call (.ref (ad i)) ⟨args, []⟩) R ⟨h, g, d, k, o⟩ := by
  obtain ⟨ob, pm, cd, doc, h1, h2, h3⟩ := (l.fn i hi).2
  refine call_cellsN_ret (s := ⟨h, g, d, k, o⟩) hroom h1 h2 l.nolimit h3 (hbind pm cd doc) ?_ ?_ (fun h₁ tk cells F N X => ?_) ok.co ok.gen ok.fk
  · intro x hx
    rw [hps] at hx
    have hx1 := (List.of_mem_zip (a := x.1) (b := x.2) hx).1
    rcases hkind x.1 hx1 with hl | ⟨hl, e⟩
    · exact .inl hl
    · refine .inr ⟨hl, ?_⟩
      rw [hcell, e]
      simp
  · rw [hcell]; simp
  · rw [hps] at F X
    have e1 : (envOfC (dName i) (dScope i) h.objs.size (ad i) cd).kindOf = kof (dScope i) := by funext y; rfl
    have e2 : envOfC (dName i) (dScope i) h.objs.size (ad i) cd = envX (dName i) (dScope i) h.objs.size (ad i) cd [(cn, h.objs.size + 1)] := by
      show envX _ _ _ _ _ (cellsFrom (h.objs.size + 1) (dScope i).names []) = _
      rw [hcell]
    rw [e1] at F X
    rw [hm] at F
    rw [hcell] at X
    obtain ⟨ob', rfl, hob⟩ := X.one
    rw [hc] at hob
    have := q h.objs.size cd h₁ tk ob' (Nat.le_refl _) F N hob
    rw [← e2] at this
    exact this
/-- a store to the cell -/
theorem stCell {x : Str} {c : Addr} {ob : Obj} {v₀ : Option Value} {v : Value} {Q : Unit → Shared → Prop} (ok : ScOk sc) (F : Fr h₀ L h m) (N : News h₀ L h ((c, ob) :: news)) (hi : sc.names.lookup x = some .cell) (hcl : cl.lookup x = some c) (hd : ob.data = .cell v₀) (hne : ∀ p ∈ news, p.1 ≠ c)
    (q : ∀ h' ob', Fr h₀ L h' m → News h₀ L h' ((c, ob') :: news) → ob'.data = .cell (some v) → Q () ⟨h', g, d, k, o⟩) : wpAny (model prg w) A (storeName (envX name sc L a cd cl) x v) Q E ⟨h, g, d, k, o⟩ := by
  refine wpAny_storeName_cell (env := envX name sc L a cd cl) ok.fk hi hcl ⟨ob, N.get List.mem_cons_self, hd⟩ fun h' hv hs => ?_
  obtain ⟨ob', ho', hd'⟩ := hv
  obtain ⟨F', N'⟩ := updL F N hne hs ho'
  exact q h' ob' F' N' hd'
/-- the cell's own name -/
theorem ldCell {x : Str} {pos : Pos} {c : Addr} {v : Value} {Q : Value → Shared → Prop} (ok : ScOk sc) (hi : sc.names.lookup x = some .cell) (hcl : cl.lookup x = some c) (hc : h.IsCell c (some v)) (q : Q v ⟨h, g, d, k, o⟩)
    (hd : (x == ("__debug__" : Str)) = false := by decide) : wpAny (model prg w) A (eval (.Name x pos) (envX name sc L a cd cl)) Q E ⟨h, g, d, k, o⟩ :=
  wpAny_Name (wpAny_loadName_cell (env := envX name sc L a cd cl) ok.fk hi hcl hc q) hd
end
end Mine
namespace Mine
theorem News.gotMany {h₀ h h₁ : Heap} {L : Addr} {m : Str → Option Value} {news led : List (Addr × Obj)} (F : Fr h₀ L h m) (N : News h₀ L h news) (N' : News h₀ L h₁ news) (hl : ∀ p ∈ led, h.get? p.1 = none ∧ h₁.get? p.1 = some p.2) :
    News h₀ L h₁ (led ++ news) ∧ ∀ p ∈ led, ∀ q ∈ news, p.1 ≠ q.1 := by
  refine ⟨fun p hp => ?_, fun p hp q hq e => ?_⟩
  · rcases List.mem_append.mp hp with hp | hp
    · exact (News.got F N N' (hl p hp).1 (hl p hp).2).1 p List.mem_cons_self
    · exact N' p hp
  · have := (hl p hp).1
    rw [e, (N q hq).1] at this
    cases this
theorem segs_len1 (ps : List (Option Str)) : (segs ps).length ≤ ps.length + 1 := by
  induction ps with
  | nil => simp [segs]
  | cons p r ih =>
    cases p with
    | none => simp [segs]; lia
    | some x =>
      simp only [segs, List.length_cons]
      cases hs : segs r with
      | nil => exact absurd hs (segs_ne r)
      | cons s t => rw [hs] at ih; simp [consHead] at ih ⊢; lia
theorem segs_lens (ps : List (Option Str)) : ∀ s ∈ segs ps, s.length ≤ ps.length := by
  induction ps with
  | nil => simp [segs]
  | cons p r ih =>
    cases p with
    | none =>
      intro s hs
      simp only [segs, List.mem_cons] at hs
      rcases hs with rfl | hs
      · simp
      · have := ih s hs; simp; lia
    | some x =>
      intro s hs
      simp only [segs] at hs
      cases hq : segs r with
      | nil => exact absurd hq (segs_ne r)
      | cons a t =>
        rw [hq] at hs
        simp only [consHead, List.mem_cons] at hs
        rcases hs with rfl | hs
        · have := ih a (by rw [hq]; simp); simp; lia
        · have := ih s (by rw [hq]; simp [hs]); simp; lia
/-- the pieces that a pattern stands for -/
noncomputable def pcsOf (cs : List Nat) : List (List Str) := (segs (parts cs)).map (·.map sval)
theorem sc22 : ScOk (dScope 22) := .of (by decide +kernel)
set_option maxHeartbeats 4000000 in
theorem taken_c {w : World} {ad : Nat → Addr} {mg mb : Str → Option Value} (h0 : Heap) (cs : List Nat) (na : Addr) (vs : List Value) (xs : List Str) (t : Tok) (hb : cs.length ≤ 50) (hcs : ∀ c ∈ cs, c < 128 ∧ c ≠ 91) (hxs : xs.length ≤ 1000) (hx : ∀ x ∈ xs, x.length ≤ 100) (hs : StrsAre vs xs) :
    FnC w ad mg mb 22 [.str (tx cs) t, .ref na] 7 (fun h => h = h0 ∧ Sp w mg h ∧ h.IsList na vs.toArray)
      (fun h v => ∃ D ws kk, v = .ref D ∧ h0.get? D = none ∧ h.get? D = some (lstO ws.toArray kk) ∧ StrsAre ws (xs.filter (takes (pcsOf cs)))) := by
  rintro ⟨hd0, dp, fr, gd, un⟩ ⟨h, g, d, k, o⟩ R hh hd hu l ⟨e0, sp, hl⟩ hR
  dsimp only at hh hd hu hR e0 sp hl
  subst hh
  subst e0
  have ok := sc22
  refine enterC 22 ["pattern", "names"] [some (.str (tx cs) t), some (.ref na), none, none, none] "pieces" none l (by decide) ok (by show dp < _; lia) (by with_unfolding_all rfl) (fun _ _ _ => rfl) (fun n => by with_unfolding_all rfl) (by decide +kernel) ?_ ?_ (fun L cd h₁ k₁ ob hL F N hob => ?_)
  · funext y
    have h1 : kof (dScope 22) "pattern" = some .local := by decide +kernel
    have h2 : kof (dScope 22) "names" = some .local := by decide +kernel
    simp only [List.zip_cons_cons, List.zip_nil_right, bindL, h1, h2, if_true]
    show _ = locs ["pattern", "names", "pieces", "_law_pieces", "translate"] _ y
    simp only [locs, ite_self]
    by_cases a2 : y = ("names" : Str)
    · rw [a2, if_pos rfl, if_neg (by decide), if_pos rfl]
    · rw [if_neg a2, if_neg a2]
  · have h1 : kof (dScope 22) "pattern" = some .local := by decide +kernel
    have h2 : kof (dScope 22) "names" = some .local := by decide +kernel
    simp only [List.zip_cons_cons, List.zip_nil_right, bindC, h1, h2, if_true]
  have hsl := hs.len_eq
  refine hideA ?_
  intro AHid
  refine wpAny_execs_cons (hideLet ?_)
  intro PHid
  refine wpAny_Assign_Name ?_
  refine callF (kf := 19) l (by decide) (fun Q' q => ldg 3 19 ok l F rfl (by decide) rfl q) (arg ?_)
  refine callF (kf := 4) l (by decide) (fun Q' q => ldg 4 4 ok l F rfl (by decide) rfl q) (arg (ldl 0 ok F rfl rfl (args_nil ⟨F.keep, ?_⟩)))
  refine useS (translate_c cs t (by lia) hcs) rfl (by show dp + 1 + 5 < _; lia) (by show un + 3 + 8 * 5 < _; lia) l F N (sp.keeps F.keep) (fun v h2 k2 F2 N2 kp2 hv => ?_)
  obtain ⟨t2, rfl⟩ := hv
  refine args_nil ⟨F2.keep, ?_⟩
  have hpl := parts_len cs
  have hjl := joined_len (parts cs) (parts_small cs)
  have htk := tks_toks (parts cs)
  have hrender : render cs = [40, 63, 115, 58] ++ tks (toksOf (segs (parts cs))) ++ [41, 92, 90] := by rw [htk]; rfl
  rw [hrender]
  refine useS (pieces_c h2 (toksOf (segs (parts cs))) (pcsOf cs) t2 (by rw [htk]; lia) (toks_ok _ (parts_ok cs)) (run_toks _ (segs_ne _))) rfl (by show dp + 1 + 2 < _; lia) (by show un + 3 + 8 * 2 < _; lia) l F2 N2 rfl (fun v h3 k3 F3 N3 kp3 hv => ?_)
  obtain ⟨P, As, kpP, led, rfl, hled, hP, hpcs⟩ := hv
  obtain ⟨N4, hne⟩ := News.gotMany F2 N2 N3 hled
  replace N4 : News h L h3 ((L + 1, ob) :: led) := News.sub N4 (fun p hp => by
    rcases List.mem_cons.mp hp with rfl | hp
    · exact List.mem_append_right _ List.mem_cons_self
    · exact List.mem_append_left _ hp)
  refine stCell ok F3 N4 (by decide +kernel) rfl hob (fun p hp => hne p hp _ List.mem_cons_self) (fun h4 ob4 F4 N5 hob4 => ?_)
  have hlen1 := segs_len1 (parts cs)
  have hlens := segs_lens (parts cs)
  refine wpAny_execs_cons (hideLet ?_)
  intro PHid
  refine wpAny_Return_some ?_
  refine evalCompS (cl := [("pieces", L + 1)]) F4 (by rfl) (by decide) rfl (by decide) (ldl 1 ok F4 rfl rfl ?_)
  refine iterLS rfl F4 N5 (hl.at fun o e => F4.keep _ o e) (fun I h5 W hst hLf hwr hnw hfp F5 N6 kp5 => ?_)
  have hpn : pcsOf cs ≠ [] := by unfold pcsOf; intro e; exact segs_ne (parts cs) (List.map_eq_nil_iff.mp e)
  have hp1 : (pcsOf cs).length ≤ 100 := by unfold pcsOf; rw [List.length_map]; lia
  have hp2 : ∀ ps ∈ pcsOf cs, ps.length ≤ 100 := by
    intro ps hps
    unfold pcsOf at hps
    obtain ⟨s, hs', rfl⟩ := List.mem_map.mp hps
    rw [List.length_map]
    have := hlens s hs'
    lia
  refine ⟨_, compAtW (fun i ys => ys.length ≤ i ∧ StrsAre ys ((xs.take i).filter (takes (pcsOf cs)))) W (by decide) rfl hst hfp hLf hwr hnw F5 N6 ⟨Nat.le_refl _, by simpa using StrsAre.nil⟩ (fun i ys h1 h2 => by rw [sizeLine]; lia) ?_, F5.ns.lt, ?_⟩
  · rintro E' i v C h6 k6 mc ys hi hv ⟨hy1, hy2⟩ hC hnC hmc F6 N7
    have hix : i < xs.length := by lia
    obtain ⟨tq, hq⟩ := hs.at (j := i) (List.getElem?_eq_getElem hix)
    obtain rfl : v = .str xs[i] tq := by rw [hq] at hv; exact (Option.some.inj hv).symm
    have htake : (xs.take (i + 1)).filter (takes (pcsOf cs)) = (xs.take i).filter (takes (pcsOf cs)) ++ (if takes (pcsOf cs) xs[i] then [xs[i]] else []) := by
      rw [List.take_succ_eq_append_getElem hix, List.filter_append]
      congr 1
      simp only [List.filter_cons, List.filter_nil]
    show wpAny _ _ _ _ _ _
    refine wpAny_tests_one (isTrue_plain ?_)
    refine callF (kf := 21) l (by decide) (fun Q' q => ldgC 21 rfl (by decide) l F6 (by decide) rfl q) (arg (ldCc rfl (by decide) ok.fk (by decide +kernel) rfl ⟨ob4, N7.get List.mem_cons_self, hob4⟩ (arg (ldC rfl (by decide) hnC hmc (args_nil ⟨F6.keep, ?_⟩)))))
    refine useS (takes_c (pcsOf cs) xs[i] P tq hp1 hp2 (hx _ (List.getElem_mem hix)) hpn) rfl (by show dp + 1 + 4 < _; lia) (by show un + 3 + 8 * 4 < _; lia) l F6 N7
      ⟨As.map .ref, ⟨_, N7.get (List.mem_cons_of_mem _ hP), rfl, _, rfl⟩, PcsIn.strss (fun p hp => N7.get (List.mem_cons_of_mem _ hp)) hpcs⟩ (fun v h7 k7 F7 N8 kp7 hv => ?_)
    subst hv
    refine wpAny_truthy_bool ⟨Keeps.mk' kp7, ?_⟩
    cases hb' : takes (pcsOf cs) xs[i] with
    | true =>
      refine ite_tt (ldC rfl (by decide) (hnC.keeps kp7) hmc ⟨Keeps.mk' fun _ _ e => e, by simp; lia, ?_⟩)
      rw [htake, hb', if_pos rfl]
      exact hy2.append' (.cons _ _ .nil)
    | false =>
      refine ite_ff ⟨by lia, ?_⟩
      rw [htake, hb']
      simpa using hy2
  · rintro D h6 k6 news F6 N7 ⟨ys, kk, ⟨hy1, hy2⟩, rfl, _⟩
    refine hR _ _ _ F6.keep ⟨D, ys, kk, rfl, N7.fresh List.mem_cons_self, N7.get List.mem_cons_self, ?_⟩
    rw [hsl, List.take_length] at hy2
    exact hy2
end Mine
namespace Mine
section
variable {w : World} {A : Around} {E : Value → Shared → Prop} {h : Heap} {g : Array GenState} {d : Drawn} {k : Nat} {o : OsState} {L a : Addr} {h₀ : Heap}
  {m : Str → Option Value} {news : List (Addr × Obj)} {env : Env}
theorem rangeS1 {n : Nat} {t : Tok} {Q : Value → Shared → Prop} (F : Fr h₀ L h m) (N : News h₀ L h news)
    (q : ∀ r h' k' t₁ u₁ v₁, IsRange h' r 0 n 1 t₁ u₁ v₁ → Fr h₀ L h' m → News h₀ L h' news → Kp h h' → Q (.ref r) ⟨h', g, d, k', o⟩) : wpAny (model prg w) A (call (.type "range") [.int n t]) Q E ⟨h, g, d, k, o⟩ :=
  range1_rows (s := ⟨h, g, d, k, o⟩) F N fun h' tk t₁ u₁ v₁ hr F' N' kp => q _ h' tk t₁ u₁ v₁ hr F' N' kp
theorem rangeS2 {a b : Int} {t u : Tok} {Q : Value → Shared → Prop} (F : Fr h₀ L h m) (N : News h₀ L h news)
    (q : ∀ r h' k' t₁ u₁ v₁, IsRange h' r a b 1 t₁ u₁ v₁ → Fr h₀ L h' m → News h₀ L h' news → Kp h h' → Q (.ref r) ⟨h', g, d, k', o⟩) : wpAny (model prg w) A (call (.type "range") [.int a t, .int b u]) Q E ⟨h, g, d, k, o⟩ :=
  range2_rows (s := ⟨h, g, d, k, o⟩) F N fun h' tk t₁ u₁ v₁ hr F' N' kp => q _ h' tk t₁ u₁ v₁ hr F' N' kp
theorem rangeS3 {a b c : Int} {t u v : Tok} {Q : Value → Shared → Prop} (F : Fr h₀ L h m) (N : News h₀ L h news) (hc : c ≠ 0) (hp : Builtin.divisionGoesByPylong (b - a) c = false)
    (q : ∀ r h' k' t₁ u₁ v₁, IsRange h' r a b c t₁ u₁ v₁ → Fr h₀ L h' m → News h₀ L h' news → Kp h h' → Q (.ref r) ⟨h', g, d, k', o⟩) : wpAny (model prg w) A (call (.type "range") [.int a t, .int b u, .int c v]) Q E ⟨h, g, d, k, o⟩ :=
  range3_rows (s := ⟨h, g, d, k, o⟩) F N hc (fun h' tk t₁ u₁ v₁ hr F' N' kp => q _ h' tk t₁ u₁ v₁ hr F' N' kp) (.inl hp)
theorem iterRange {r : Addr} {a b c : Int} {t u v : Tok} {n : Nat} {Q : Value → Shared → Prop} (hh : A.handled = none) (F : Fr h₀ L h m) (N : News h₀ L h news) (hr : IsRange h r a b c t u v) (hsmall : Builtin.Range.small a b c = true) (hn : Builtin.Range.rangeSize a b c = (n : Int))
    (q : ∀ I h', Walks prg w A I [I] [I] n (fun i v => ∃ t, v = .int (a + i * c) t) (fun i h => IsRangeIter h I (a + (i : Nat) * c) ((n : Int) - (i : Nat)) c) → IsRangeIter h' I (a + ((0 : Nat) : Int) * c) ((n : Int) - ((0 : Nat) : Int)) c → L ∉ [I] → (∀ b ∈ [I], h₀.get? b = none) →
      (∀ p ∈ news, p.1 ∉ [I]) → (∀ b ∈ [I], b < h'.objs.size) → Fr h₀ L h' m → News h₀ L h' news → Kp h h' → Q (.ref I) ⟨h', g, d, k, o⟩) :
    wpAny (model prg w) A (pyIter (.ref r)) Q E ⟨h, g, d, k, o⟩ := by
  have hLt : L < h.objs.size := F.ns.lt
  refine wpAny_pyIter_range hr hsmall ?_
  refine q h.objs.size _ (Walks.range hh _ a c n) ?_ ?_ ?_ ?_ ?_ (F.push _) (fun p hp => ⟨Heap.get?_push_of_some _ (N p hp).1, (N p hp).2⟩) (fun _ _ e => Heap.get?_push_of_some _ e)
  · show IsRangeIter _ _ _ _ _
    rw [hn]
    simpa using Heap.get?_push_size _ rfl
  · exact notMem1 (Nat.ne_of_lt hLt)
  · intro b hb
    rw [List.mem_singleton.mp hb]
    cases q : h₀.get? h.objs.size with
    | none => rfl
    | some o => exact absurd (Heap.lt_size (F.keep _ _ q)) (Nat.lt_irrefl _)
  · exact fun p hp => notMem1 (Nat.ne_of_lt (Heap.lt_size (N p hp).1))
  · intro b hb
    rw [Heap.size_push, List.mem_singleton.mp hb]
    exact Nat.lt_succ_self _
theorem rangeIter_alive {I : Addr} {a c : Int} {n : Nat} : ∀ (i : Nat) (h : Heap), IsRangeIter h I (a + (i : Nat) * c) ((n : Int) - (i : Nat)) c → ∀ b ∈ [I], ∃ o, h.get? b = some o := fun i h st b hb => by
  rw [List.mem_singleton.mp hb]
  exact ⟨_, st⟩
end
end Mine
namespace Mine
noncomputable def tbl : List Nat := [97, 98, 46, 43, 40, 124, 92, 94, 36, 10, 126, 38, 32, 93, 33, 45, 123, 35]
noncomputable def sgnAt (a i : Nat) : Nat := tbl.getD ((a + i) % 18) 0
section
variable {w : World} {A : Around} {E : Value → Shared → Prop} {h : Heap} {g : Array GenState} {d : Drawn} {k : Nat} {o : OsState}
theorem modN {x y : Nat} {t u : Tok} {Q : Value → Shared → Prop} (hy : y ≠ 0) (q : ∀ t k', Q (.int (x % y : Nat) t) ⟨h, g, d, k', o⟩) : wpAny (model prg w) A (binaryOp .Mod (.int x t) (.int y u)) Q E ⟨h, g, d, k, o⟩ := by
  refine mod_int' (by lia) ?_
  have : (x : Int).fmod (y : Int) = ((x % y : Nat) : Int) := by
    rw [Int.fmod_eq_emod_of_nonneg _ (by lia)]
    rfl
  rw [this]
  exact q _ _
end
theorem catN_one {α : Type} (f : α → Nat) (l : List α) : catN (l.map fun j => one (f j)) = l.map f := by
  induction l with
  | nil => rfl
  | cons a l ih => simp only [catN, List.map_cons, List.flatMap_cons] at ih ⊢; rw [ih]; rfl
theorem sc18 : ScOk (dScope 18) := .of (by decide +kernel)
set_option maxHeartbeats 4000000 in
theorem signs_c {w : World} {ad : Nat → Addr} {mg mb : Str → Option Value} (at' n : Nat) (t t2 : Tok) (hn : n ≤ 100) :
    FnC w ad mg mb 18 [.int at' t, .int n t2] 1 (fun _ => True) (fun _ v => ∃ t', v = .str (tx ((List.range n).map (sgnAt at'))) t') := by
  rintro ⟨hd0, dp, fr, gd, un⟩ ⟨h, g, d, k, o⟩ R hh hd hu l _ hR
  dsimp only at hh hd hu hR
  subst hh
  have ok := sc18
  refine enterC 18 ["at", "amount"] [none, some (.int n t2), none] "at" (some (.int at' t)) l (by decide) ok (by show dp < _; lia) (by with_unfolding_all rfl) (fun _ _ _ => rfl) (fun n => by with_unfolding_all rfl) (by decide +kernel) ?_ ?_ (fun L cd h₁ k₁ ob hL F N hob => ?_)
  · funext y
    have h1 : kof (dScope 18) "at" = some .cell := by decide +kernel
    have h2 : kof (dScope 18) "amount" = some .local := by decide +kernel
    have hc : ¬ (some NameKind.cell = some NameKind.local) := by decide
    simp only [List.zip_cons_cons, List.zip_nil_right, bindL, h1, h2, if_true, if_neg hc]
    show _ = locs ["at", "amount", "range"] _ y
    simp only [locs, ite_self]
    by_cases a2 : y = ("amount" : Str)
    · rw [a2, if_pos rfl, if_neg (by decide)]
    · rw [if_neg a2]
      exact (ite_self _).symm
  · have h1 : kof (dScope 18) "at" = some .cell := by decide +kernel
    have h2 : kof (dScope 18) "amount" = some .local := by decide +kernel
    have hc : ¬ (some NameKind.cell = some NameKind.local) := by decide
    simp only [List.zip_cons_cons, List.zip_nil_right, bindC, h1, h2, if_true, if_neg hc]
  refine hideA ?_
  intro AHid
  refine wpAny_execs_cons (hideLet ?_)
  intro PHid
  refine wpAny_Return_some (MethodCall_ (cStr fun t3 k3 => GM.join ?_))
  refine cwB (arg ?_)
  refine evalCompS (cl := [("at", L + 1)]) F (by rfl) (by decide) rfl (by decide) (callT (fun Q' q => ldb 2 ok l F rfl (by decide) boot_range q) (arg (ldl 1 ok F rfl rfl (args_nil ?_))))
  refine rangeS1 F N (fun r h2 k4 _ _ _ hr F2 N2 kp2 => ?_)
  refine iterRange (n := n) rfl F2 N2 hr (small_one (by lia) (by lia) (by lia) (by lia)) (by rw [rangeSize_nat]; simp) (fun I h3 W hst hLf hwr hnw hfp F3 N3 kp3 => ?_)
  refine ⟨_, compAtW (fun i ys => ys.length = i ∧ StrsAre ys ((List.range i).map fun j => one (sgnAt at' j))) W (by decide) rfl hst hfp hLf hwr hnw F3 N3 ⟨rfl, .nil⟩ (fun i ys h1 h2 => by rw [sizeLine]; lia) ?_, F3.ns.lt, ?_⟩
  · rintro E' i v C h6 k6 mc ys hi ⟨tv, rfl⟩ ⟨hy1, hy2⟩ hC hnC hmc F6 N6
    show wpAny _ _ _ _ _ _
    refine wpAny_tests_nil ⟨Keeps.mk' fun _ _ e => e, ite_tt ?_⟩
    refine Subscript_ (cStr fun t7 k7 => wpAny_BinOp (wpAny_BinOp (ldCc rfl (by decide) ok.fk (by decide +kernel) rfl ⟨ob, N6.get List.mem_cons_self, hob⟩ (ldC rfl (by decide) hnC hmc (addI fun t8 k8 => cInt fun t9 k9 => ?_)))))
    rw [show ((at' : Int) + (0 + (i : Int) * 1)) = ((at' + i : Nat) : Int) by lia]
    refine modN (y := 18) (by decide) (fun t10 k10 => ?_)
    have hlt : (at' + i) % 18 < 18 := Nat.mod_lt _ (by decide)
    refine itemT (x := tx tbl) (c := sgnAt at' i) ?_ (by lia) (fun t11 k11 => ⟨Keeps.mk' fun _ _ e => e, by simp [hy1], ?_⟩)
    · show tbl[(at' + i) % 18]? = some (tbl.getD ((at' + i) % 18) 0)
      rw [List.getD_eq_getElem?_getD, List.getElem?_eq_getElem (by exact hlt)]
      rfl
    · rw [List.range_succ, List.map_append]
      exact hy2.append' (.cons _ _ .nil)
  · rintro D h6 k6 news F6 N6 ⟨ys, kk, ⟨hy1, hy2⟩, rfl, _⟩
    refine args_nil (joinS ⟨_, N6.get List.mem_cons_self, rfl, _, rfl⟩ hy2 ?_ (fun t12 k12 => hR _ _ _ F6.keep ⟨t12, ?_⟩))
    · rw [← catN_len, catN_one, List.length_map, List.length_map, List.length_range]; lia
    · rw [catN_one]
end Mine
namespace Mine
section
variable {prog : Program} {w : World} {A : Around} {E : Value → Shared → Prop} {s : Shared} {env : Env} {h₀ : Heap} {L : Addr} {m : Str → Option Value} {news : List (Addr × Obj)}
variable {I : Addr} {fp wr : List Addr} {n : Nat}

/-- what the inner iterator of a turn shows -/
inductive InnerQ (prog : Program) (w : World) (A : Around) (elt : Expr) (cenv : Env) (x y : Str) (s₂ : Shared) (h₀ : Heap) (L : Addr) (m : Str → Option Value) (news : List (Addr × Obj)) (C : Addr) (h : Heap) (v : Value) (ys : List Value) (Rn : List Value → Prop) (jt : Value) (s₄ : Shared) : Prop
  | mk (J : Addr) (fp2 wr2 : List Addr) (n2 : Nat) (P2 : Nat → Value → Prop) (St2 : Nat → Heap → Prop) (R2 : Nat → List Value → Prop) (h4 : Heap) (tk4 : Nat) (hf1 : jt = .ref J) (hf2 : s₄ = { s₂ with heap := h4, toks := tk4 }) (hf3 : Kp h h4) (hf4 : Walks prog w A J fp2 wr2 n2 P2 St2) (hf5 : St2 0 h4) (hf6 : (∀ b ∈ fp2, b < s₂.heap.objs.size ∨ h.get? b = none)) (hf7 : (∀ b ∈ wr2, h.get? b = none)) (hf8 : R2 0 ys) (hf9 : (∀ ys', R2 n2 ys' → Rn ys')) (hf10 : (∀ j ys', R2 j ys' → j ≤ n2 → ys'.length ≤ sizeLine)) (hf11 : ∀ E' j u h5 tk5 mc5 ys5, j < n2 → P2 j u → R2 j ys5 → h5.Ns C mc5 → mc5 x = some v → mc5 y = some u → Fr h₀ L h5 m → News h₀ L h5 news → wpAny (model prog w) A (eval elt cenv) (fun val s₆ => Keeps { s₂ with heap := h5, toks := tk5 } s₆ ∧ R2 (j + 1) (ys5 ++ [val])) E' { s₂ with heap := h5, toks := tk5 }) : InnerQ prog w A elt cenv x y s₂ h₀ L m news C h v ys Rn jt s₄
inductive CompI2 (s₂ : Shared) (C D : Addr) (h3 : Heap) (x : Str) (v : Value) (St2 : Nat → Heap → Prop) (R2 : Nat → List Value → Prop) (n2 : Nat) (k : Nat) (s' : Shared) : Prop
  | mk (g' : Heap) (tk' : Nat) (mc' : Str → Option Value) (zs : List Value) (j : Nat) (hf1 : s' = { s₂ with heap := g', toks := tk' }) (hf2 : (∀ b o, b ≠ D → b ≠ C → h3.get? b = some o → g'.get? b = some o)) (hf3 : g'.Ns C mc') (hf4 : mc' x = some v) (hf5 : g'.PlainList D zs.toArray) (hf6 : St2 j g') (hf7 : R2 j zs) (hf8 : j ≤ n2) (hf9 : k = n2 + 1 - j) : CompI2 s₂ C D h3 x v St2 R2 n2 k s'
theorem compAt2 {P : Nat → Value → Prop} {St : Nat → Heap → Prop} {elt iter i2 : Expr} {x y : Str} {px py : Pos} {scope : Scope} {cl : List (Str × Addr)} {pos : Pos} {s₂ : Shared} (R : Nat → List Value → Prop)
    (W : Walks prog w A I fp wr n P St) (hx : scope.names.lookup x = some .local) (hy : scope.names.lookup y = some .local) (hxy : x ≠ y) (hkind : scope.kind = .function) (hst : St 0 s₂.heap) (hfp : ∀ b ∈ fp, b < s₂.heap.objs.size) (hLf : L ∉ fp) (hwr : ∀ b ∈ wr, h₀.get? b = none)
    (hnw : ∀ p ∈ news, p.1 ∉ wr) (F : Fr h₀ L s₂.heap m) (N : News h₀ L s₂.heap news) (h0 : R 0 []) (hfold : ∀ C x, foldedSetIterable i2 (compEnvC scope cl C env) x = pure x)
    (turn : ∀ E i v C D h tk mc ys, i < n → P i v → R i ys → s₂.heap.objs.size ≤ C → s₂.heap.objs.size ≤ D → h.Ns C mc → mc x = some v → (∃ o, h.get? D = some o) → Fr h₀ L h m → News h₀ L h news →
      wpAny (model prog w) A (eval i2 (compEnvC scope cl C env)) (fun xv s₃ => wpAny (model prog w) A (pyIter xv) (fun jt s₄ => InnerQ prog w A elt (compEnvC scope cl C env) x y s₂ h₀ L m news C h v ys (R (i + 1)) jt s₄) E s₃) E { s₂ with heap := h, toks := tk }) :
    CompAt prog w A env elt [⟨.Name x px, iter, [], 0⟩, ⟨.Name y py, i2, [], 0⟩] scope cl pos h₀ L m (Fin1 n R news) (.ref I) s₂ := by
  refine ⟨I, rfl, fun s' Q' E' k hq => W.self 0 _ _ _ (W.frame _ _ _ hst fun b _ o e => k b o e) hq, fun D C h₁ tk RR hD hC hDC hn ha kp hRR => ?_⟩
  have hLlt : L < s₂.heap.objs.size := F.ns.lt
  have h0lt : ∀ b o, h₀.get? b = some o → b < s₂.heap.objs.size := fun b o e => Heap.lt_size (F.keep b o e)
  have hLw : L ∉ wr := fun h => hLf (W.sub _ h)
  have hDL : D ≠ L := Nat.ne_of_gt (Nat.lt_of_lt_of_le hLlt hD)
  have hCL : C ≠ L := Nat.ne_of_gt (Nat.lt_of_lt_of_le hLlt hC)
  have hDf : D ∉ fp := fun h => absurd (hfp _ h) (Nat.not_lt.mpr hD)
  have hCf : C ∉ fp := fun h => absurd (hfp _ h) (Nat.not_lt.mpr hC)
  have hDw : D ∉ wr := fun h => hDf (W.sub _ h)
  have hCw : C ∉ wr := fun h => hCf (W.sub _ h)
  have hDn : ∀ p ∈ news, p.1 ≠ D := fun p hp q => absurd (Heap.lt_size (N p hp).1) (Nat.not_lt.mpr (q ▸ hD))
  have hCn : ∀ p ∈ news, p.1 ≠ C := fun p hp q => absurd (Heap.lt_size (N p hp).1) (Nat.not_lt.mpr (q ▸ hC))
  have hD0 : h₀.get? D = none := by
    cases q : h₀.get? D with
    | none => rfl
    | some o => exact absurd (h0lt D o q) (Nat.not_lt.mpr hD)
  have hC0 : h₀.get? C = none := by
    cases q : h₀.get? C with
    | none => rfl
    | some o => exact absurd (h0lt C o q) (Nat.not_lt.mpr hC)
  refine loop2o (CompI s₂ St C D h₀ L m news R n) ?_ (n + 1)
    ⟨h₁, tk, _, [], 0, rfl, W.frame _ _ _ hst fun b _ o e => kp b o e, hn, ha, ⟨F.ns.keeps kp, fun b o e => kp b o (F.keep b o e), F.above⟩, fun p hp => ⟨kp _ _ (N p hp).1, (N p hp).2⟩, h0, Nat.zero_le _, rfl⟩ (hfold C)
  rintro E' k s' ⟨h', tk', mc, ys, i, rfl, hst', hn', ha', F', N', hR, hi, rfl⟩
  by_cases hlt : i < n
  · refine W.item i _ _ _ hlt hst' fun v h2 tk2 hP hst2 k2 => ?_
    obtain ⟨F2, N2⟩ := frN_up F' N' hLw hwr hnw k2
    have hn2 : h2.Ns C mc := hn'.at' fun o e => k2 _ o hCw e
    have ha2 : h2.PlainList D ys.toArray := ha'.at fun o e => k2 _ o hDw e
    have e0 : letOwnedTupleGo (.Name x px) (.ref I) v = pure () := rfl
    refine wpAny_of_eq e0 ?_
    refine wpAny_assign_Name (wpAny_storeName_local (env := compEnvC scope cl C env) (lookup_relabel_local hx) hn2 (fun h3 hn3 hs3 => ?_) (by simp [compEnvC, relabel, hkind]))
    have hs3 : Heap.SameBut C h2 h3 := hs3
    have F3 : Fr h₀ L h3 m := ⟨F2.ns.sameBut hs3 (Ne.symm hCL), fun b o e => hs3.extBut b o (fun q => by rw [q, hC0] at e; cases e) (F2.keep b o e), F2.above⟩
    have N3 : News h₀ L h3 news := fun p hp => ⟨hs3.extBut _ _ (hCn p hp) (N2 p hp).1, (N2 p hp).2⟩
    have hst3 : St (i + 1) h3 := W.frame _ _ _ hst2 fun b hb o e => hs3.extBut b o (fun q => hCf (q ▸ hb)) e
    have ha3 : h3.PlainList D ys.toArray := ha2.extBut hs3.extBut hDC
    have hDs : ∃ o, h3.get? D = some o := let ⟨kk, e⟩ := ha3; ⟨_, e⟩
    have hCs : ∃ o, h3.get? C = some o := let ⟨o, es, ep, e, _⟩ := hn3; ⟨o, e⟩
    refine wpAny_mono (turn E' i v C D h3 _ _ ys hlt hP hR hC hD hn3 (by first | exact Nat.le_of_ble_eq_true rfl | (repeat (first | exact .head _ | apply List.Mem.tail)); done | simp) hDs F3 N3) (fun xv s₃ h₃ => wpAny_mono h₃ (fun jt s₄ h₄ => ?_) fun _ _ e => e) fun _ _ e => e
    obtain ⟨J, fp2, wr2, n2, P2, St2, R2, h4, tk4, rfl, rfl, kp4, W2, st2, hfp2, hwr2, r0, rN, rlen, turn2⟩ := h₄
    intro R' hR'
    have hD2 : D ∉ fp2 := fun hm => by
      obtain ⟨o, e⟩ := hDs
      rcases hfp2 _ hm with h | h
      · exact absurd h (Nat.not_lt.mpr hD)
      · rw [h] at e; cases e
    have hC2 : C ∉ fp2 := fun hm => by
      obtain ⟨o, e⟩ := hCs
      rcases hfp2 _ hm with h | h
      · exact absurd h (Nat.not_lt.mpr hC)
      · rw [h] at e; cases e
    have hold : ∀ b o, h3.get? b = some o → b ∉ wr2 := fun b o e hm => by rw [hwr2 b hm] at e; cases e
    have up : ∀ g' : Heap, (∀ b o, b ≠ D → b ≠ C → h3.get? b = some o → g'.get? b = some o) → Fr h₀ L g' m ∧ News h₀ L g' news ∧ St (i + 1) g' := fun g' kk =>
      ⟨⟨F3.ns.at' fun o e => kk _ o (Ne.symm hDL) (Ne.symm hCL) e, fun b o e => kk b o (fun q => by rw [q, hD0] at e; cases e) (fun q => by rw [q, hC0] at e; cases e) (F3.keep b o e), F3.above⟩,
        fun p hp => ⟨kk _ _ (hDn p hp) (hCn p hp) (N3 p hp).1, (N3 p hp).2⟩, W.frame _ _ _ hst3 fun b hb o e => kk b o (fun q => hDf (q ▸ hb)) (fun q => hCf (q ▸ hb)) e⟩
    have loop : codeAny (model prog w) A (.compLoop (.ListComp elt [⟨.Name x px, iter, [], 0⟩, ⟨.Name y py, i2, [], 0⟩] scope pos) 1 (.ref J) (.ref D) (compEnvC scope cl C env)) R' { s₂ with heap := h4, toks := tk4 } := by
      refine loop2i (CompI2 s₂ C D h3 x v St2 R2 n2) ?_ (n2 + 1)
        ⟨h4, tk4, _, ys, 0, rfl, fun b o _ _ e => kp4 b o e, hn3.keeps kp4, by simp, ha3.at fun o e => kp4 _ o e, st2, r0, Nat.zero_le _, rfl⟩
      rintro E2 k s' ⟨g1, tk1, mc1, zs, j, rfl, kk1, hg1, hgx, hgD, hst1, hr1, hj, rfl⟩
      by_cases hjlt : j < n2
      · refine W2.item j _ _ _ hjlt hst1 fun u g2 tk2 hP2 hst2' k2' => ?_
        have hCw2 : C ∉ wr2 := fun hm => hC2 (W2.sub _ hm)
        have hDw2 : D ∉ wr2 := fun hm => hD2 (W2.sub _ hm)
        have hg2 : g2.Ns C mc1 := hg1.at' fun o e => k2' _ o hCw2 e
        have hgD2 : g2.PlainList D zs.toArray := hgD.at fun o e => k2' _ o hDw2 e
        have e1 : letOwnedTupleGo (.Name y py) (.ref J) u = pure () := rfl
        refine wpAny_of_eq e1 ?_
        refine wpAny_assign_Name (wpAny_storeName_local (env := compEnvC scope cl C env) (lookup_relabel_local hy) hg2 (fun g3 hg3 hs4 => ?_) (by simp [compEnvC, relabel, hkind]))
        have hs4 : Heap.SameBut C g2 g3 := hs4
        have kk3 : ∀ b o, b ≠ D → b ≠ C → h3.get? b = some o → g3.get? b = some o := fun b o hb hc e => hs4.extBut b o hc (k2' b o (hold b o e) (kk1 b o hb hc e))
        obtain ⟨F5, N5, _⟩ := up g3 kk3
        have hgD3 : g3.PlainList D zs.toArray := hgD2.extBut hs4.extBut hDC
        have hst3' : St2 (j + 1) g3 := W2.frame _ _ _ hst2' fun b hb o e => hs4.extBut b o (fun q => hC2 (q ▸ hb)) e
        refine wpAny_mono (turn2 E2 j u g3 _ _ zs hjlt hP2 hr1 hg3 (by simp [hxy, hgx]) (by first | exact Nat.le_of_ble_eq_true rfl | (repeat (first | exact .head _ | apply List.Mem.tail)); done | simp) F5 N5) (fun val s₆ h₆ => ?_) fun _ _ e => e
        obtain ⟨⟨g4, tk6, rfl, kp6⟩, hr2⟩ := h₆
        refine wpAny_list_append_plain (hgD3.at fun o e => kp6 _ o e) (fun g5 ha5 hs5 => ?_) (by simpa using rlen j zs hr1 hj)
        refine ⟨n2 + 1 - (j + 1), by lia, g5, _, _, zs ++ [val], j + 1, rfl, fun b o hb hc e => hs5.extBut b o hb (kp6 b o (kk3 b o hb hc e)), (hg3.keeps kp6).sameBut hs5 (Ne.symm hDC), by simp [hxy, hgx], by simpa using ha5, ?_, hr2, hjlt, rfl⟩
        exact W2.frame _ _ _ hst3' fun b hb o e => hs5.extBut b o (fun q => hD2 (q ▸ hb)) (kp6 b o e)
      · have hjn : j = n2 := by lia
        subst hjn
        refine W2.done _ _ _ hst1 fun g2 tk2 k2' => hR' _ ?_
        have hCw2 : C ∉ wr2 := fun hm => hC2 (W2.sub _ hm)
        have hDw2 : D ∉ wr2 := fun hm => hD2 (W2.sub _ hm)
        obtain ⟨F5, N5, S5⟩ := up g2 fun b o hb hc e => k2' b o (hold b o e) (kk1 b o hb hc e)
        exact ⟨n + 1 - (i + 1), by lia, g2, tk2, _, zs, i + 1, rfl, S5, hg1.at' fun o e => k2' _ o hCw2 e, hgD.at fun o e => k2' _ o hDw2 e, F5, N5, rN _ hr1, hlt, rfl⟩
    exact start2i loop fun E3 => W2.self 0 _ _ _ st2 loop
  · have hin : i = n := by lia
    refine W.done _ _ _ (hin ▸ hst') fun h2 tk2 k2 => ?_
    obtain ⟨F2, N2⟩ := frN_up F' N' hLw hwr hnw k2
    obtain ⟨kk, hDo⟩ := (ha'.at fun o e => k2 _ o hDw e : h2.PlainList D ys.toArray)
    refine hRR h2 tk2 mc ((D, lstO ys.toArray kk) :: news) (hn'.at' fun o e => k2 _ o hCw e) F2 ?_ ?_ ⟨ys, kk, hin ▸ hR, rfl, hDn⟩
    · intro p hp
      rcases List.mem_cons.mp hp with rfl | hp
      · exact ⟨hDo, hDL, hD0⟩
      · exact N2 p hp
    · intro p hp
      rcases List.mem_cons.mp hp with rfl | hp
      · exact hDC
      · exact hCn p hp
end
end Mine
namespace Mine
section
variable {w : World} {A : Around} {E : Value → Shared → Prop} {h : Heap} {g : Array GenState} {d : Drawn} {k : Nat} {o : OsState} {name : Str} {sc : Scope} {L a : Addr} {cd : Value} {cl : List (Str × Addr)} {h₀ : Heap} {vals : List (Option Value)}
  {m : Str → Option Value} {mg mb : Str → Option Value} {ad : Nat → Addr} {news : List (Addr × Obj)} {env : Env}
theorem iterTextI {x : Str} {t : Tok} {Q : Value → Shared → Prop} (hh : A.handled = none)
    (q : ∀ J St h', Walks prg w A J [J] [J] x.cps.size (SignAt x) St → St 0 h' → h.get? J = none → Kp h h' → Q (.ref J) ⟨h', g, d, k, o⟩) : wpAny (model prg w) A (pyIter (.str x t)) Q E ⟨h, g, d, k, o⟩ := by
  refine PySem.wpAny_pyIter_str fun ob St W st => ?_
  exact q _ St _ (W A hh) st (Heap.get?_none_of_le (Nat.le_refl _)) fun _ _ e => Heap.get?_push_of_some _ e
theorem assignCompS {elt target iter : Expr} {ifs : List Expr} {more : List Comprehension} {scope : Scope} {cl' : List (Str × Addr)} {pos spos py : Pos} {y : Str} {Q : Flow → Shared → Prop} (i : Nat) (vals' : Addr → List (Option Value)) (ok : ScOk sc) (hi : sc.names[i]? = some (y, .local))
    (hl : i < vals.length) (hv : ∀ D, vals.set i (some (.ref D)) = vals' D)
    (hsw : swapsWith (.ListComp elt (⟨target, iter, ifs, 0⟩ :: more) scope pos) (some (.Name y py)) spos.line (envX name sc L a cd cl) = pure true)
    (hclos : closureFor scope (envX name sc L a cd cl) = pure cl') (hcell : ∀ y ∈ scope.names, y.2 ≠ .cell) (hkind : scope.kind = .function) (hnames : ∀ y ∈ scope.names, y.2 = .local → scope.names.lookup y.1 = some .local)
    (q : wpAny (model prg w) A (eval iter (envX name sc L a cd cl)) (fun xv s₁ => wpAny (model prg w) A (pyIter xv) (fun it s₂ => ∃ h₂ k₂ Fin, s₂ = ⟨h₂, g, d, k₂, o⟩ ∧ CompAt prg w A (envX name sc L a cd cl) elt (⟨target, iter, ifs, 0⟩ :: more) scope cl' pos h₀ L (locs (nms sc) vals) Fin it s₂ ∧ L < h₂.objs.size ∧
      ∀ D h' k' news, Fr h₀ L h' (locs (nms sc) (vals' D)) → News h₀ L h' news → Fin D news → Q .next ⟨h', g, d, k', o⟩) E s₁) E ⟨h, g, d, k, o⟩)
    (hs : ∀ x, foldedSetIterable iter (envX name sc L a cd cl) x = pure x := by intro _; rfl) :
    wpAny (model prg w) A (exec (.Assign [.Name y py] (.ListComp elt (⟨target, iter, ifs, 0⟩ :: more) scope pos) spos) (envX name sc L a cd cl)) Q E ⟨h, g, d, k, o⟩ := by
  refine assignComp (L := L) (h₀ := h₀) (m := locs (nms sc) vals) rfl hsw hclos hcell hkind hnames (wpAny_mono q (fun xv s₁ h₁ => wpAny_mono h₁ (fun it s₂ h₂ => ?_) fun _ _ e => e) fun _ _ e => e) hs
  obtain ⟨h₂, k₂, Fin, rfl, hc, hL, hQ⟩ := h₂
  refine ⟨Fin, hc, hL, fun D C h' tk' mc news hC hn F N hne hF => ?_⟩
  have hLC : L ≠ C := Nat.ne_of_lt (Nat.lt_of_lt_of_le hL hC)
  refine wpAny_storeName_local (env := envX name sc L a cd cl) (kind_idx ok hi) F.ns (fun h3 hn3 hs3 => ?_) (by
    show (sc.kind == .class || (sc.kind == .module && _)) = false
    rw [ok.fk]; rfl)
  have hs3 : Heap.SameBut L h' h3 := hs3
  refine ⟨⟨mc, hn.sameBut hs3 (Ne.symm hLC)⟩, fun h4 hs4 => ?_⟩
  have F3 := F.set hn3 hs3
  have N3 := N.set hs3
  rw [locs_set ok.nd (nms_idx hi) hl, hv] at F3
  have hold : ∀ b ob, h₀.get? b = some ob → b ≠ C := fun b ob e q => by
    have := Heap.lt_size e
    rw [q] at this
    exact absurd (Nat.lt_of_lt_of_le this (Nat.le_trans F.above (Nat.le_of_lt hL))) (Nat.not_lt.mpr hC)
  exact hQ D h4 _ news ⟨F3.ns.sameBut hs4 hLC, fun b ob e => hs4.extBut b ob (hold b ob e) (F3.keep b ob e), F3.above⟩ (fun p hp => ⟨hs4.extBut _ _ (hne p hp) (N3 p hp).1, (N3 p hp).2⟩) hF
theorem addLists {l b : Addr} {vs ws : List Value} {Q : Value → Shared → Prop} (F : Fr h₀ L h m) (N : News h₀ L h news) (hl : h.IsList l vs.toArray) (hb : h.IsList b ws.toArray) (hsz : vs.length + ws.length ≤ 1000000)
    (q : ∀ D h', Fr h₀ L h' m → News h₀ L h' ((D, lstO (vs ++ ws).toArray 0) :: news) → (∀ p ∈ news, p.1 ≠ D) → Q (.ref D) ⟨h', g, d, k, o⟩) : wpAny (model prg w) A (binaryOp .Add (.ref l) (.ref b)) Q E ⟨h, g, d, k, o⟩ := by
  refine add_lists (s := ⟨h, g, d, k, o⟩) F N hl hb (fun h' F' N' => ?_) (by rw [sizeLine]; lia)
  exact q _ h' F' N' fun p hp e => absurd (Heap.lt_size (N p hp).1) (by rw [e]; exact Nat.lt_irrefl _)
end
noncomputable def grow (sg : List Nat) (hs : List (List Nat)) : List (List Nat) := hs.flatMap fun h => sg.map fun s => h ++ [s]
noncomputable def namesN (sg : List Nat) : Nat → List (List Nat) × List (List Nat)
  | 0 => ([[]], [[]])
  | n + 1 => let p := namesN sg n; (p.1 ++ grow sg p.2, grow sg p.2)
theorem grow_len (sg : List Nat) (hs : List (List Nat)) : (grow sg hs).length = hs.length * sg.length := by
  induction hs with
  | nil => simp [grow]
  | cons a r ih => simp only [grow, List.flatMap_cons, List.length_append, List.length_map, List.length_cons] at ih ⊢; rw [ih, Nat.add_mul]; lia
theorem grow_lens (sg : List Nat) (hs : List (List Nat)) (n : Nat) (h : ∀ x ∈ hs, x.length = n) : ∀ x ∈ grow sg hs, x.length = n + 1 := by
  intro x hx
  simp only [grow, List.mem_flatMap, List.mem_map] at hx
  obtain ⟨a, ha, s, _, rfl⟩ := hx
  simp [h a ha]
theorem grow_append (sg : List Nat) (a b : List (List Nat)) : grow sg (a ++ b) = grow sg a ++ grow sg b := by simp only [grow, List.flatMap_append]
theorem grow_one (sg : List Nat) (x : List Nat) : grow sg [x] = sg.map fun s => x ++ [s] := by simp only [grow, List.flatMap_cons, List.flatMap_nil, List.append_nil]
theorem sc25 : ScOk (dScope 25) := .of (by decide +kernel)
inductive NInv (L : Addr) (ob : Obj) (sg : List Nat) (i : Nat) (vals : List (Option Value)) (news : List (Addr × Obj)) : Prop
  | mk (X Y : Addr) (sz : Option Value) (vsN vsH : List Value) (kn kh : Nat) (h1 : vals = [none, some (.ref X), some (.ref Y), sz, none]) (h2 : news = [(Y, lstO vsH.toArray kh), (X, lstO vsN.toArray kn), (L + 1, ob)]) (h3 : StrsAre vsN ((namesN sg i).1.map tx)) (h4 : StrsAre vsH ((namesN sg i).2.map tx)) (h5 : (namesN sg i).2.length = 2 ^ i) (h6 : (namesN sg i).1.length ≤ 2 ^ (i + 1)) (h7 : (∀ x ∈ (namesN sg i).2, x.length = i)) : NInv L ob sg i vals news
set_option maxHeartbeats 4000000 in
theorem names_c {w : World} {ad : Nat → Addr} {mg mb : Str → Option Value} (h0 : Heap) (sg : List Nat) (t : Tok) (hsg : sg.length = 2) :
    FnC w ad mg mb 25 [.str (tx sg) t] 1 (fun h => h = h0) (fun h v => ∃ D ws kk, v = .ref D ∧ h0.get? D = none ∧ h.get? D = some (lstO ws.toArray kk) ∧ StrsAre ws ((namesN sg 3).1.map tx)) := by
  rintro ⟨hd0, dp, fr, gd, un⟩ ⟨h, g, d, k, o⟩ R hh hd hu l e0 hR
  dsimp only at hh hd hu hR e0
  subst hh
  subst e0
  have ok := sc25
  refine enterC 25 ["signs"] [none, none, none, none, none] "signs" (some (.str (tx sg) t)) l (by decide) ok (by show dp < _; lia) (by with_unfolding_all rfl) (fun _ _ _ => rfl) (fun n => by with_unfolding_all rfl) (by decide +kernel) ?_ ?_ (fun L cd h₁ k₁ ob hL F N hob => ?_)
  · funext y
    have h1 : kof (dScope 25) "signs" = some .cell := by decide +kernel
    have hc : ¬ (some NameKind.cell = some NameKind.local) := by decide
    simp only [List.zip_cons_cons, List.zip_nil_right, bindL, h1, if_neg hc]
    show _ = locs ["signs", "names", "heads", "size", "range"] _ y
    simp only [locs, ite_self]
  · have h1 : kof (dScope 25) "signs" = some .cell := by decide +kernel
    have hc : ¬ (some NameKind.cell = some NameKind.local) := by decide
    simp only [List.zip_cons_cons, List.zip_nil_right, bindC, h1, if_true, if_neg hc]
  refine hideA ?_
  intro AHid
  refine wpAny_execs_cons (hideLet ?_)
  intro PHid
  refine Assign_Tuple_swapped (Tuple_ ?_) (by rfl) (by rfl)
  refine arg (List_ (arg (cStr fun t2 k2 => args_nil (newListS F N (fun X h2 kp2 F2 N2 hX => ?_)))))
  refine arg (List_ (arg (cStr fun t3 k3 => args_nil (newListS F2 N2 (fun Y h3 kp3 F3 N3 hY => args_nil ?_)))))
  refine newTupS F3 N3 (fun T h4 kp4 F4 N4 hT => ?_)
  refine unpS rfl F4 N4 (N4.get List.mem_cons_self) rfl (fun h5 kp5 F5 N5 => ?_)
  replace N5 := newsTail N5
  refine assignInOrder_cons (bindName_ (stS 2 [none, none, some (.ref Y), none, none] ok F5 N5 rfl (Nat.le_of_ble_eq_true rfl) rfl (fun h6 k6 F6 N6 => ?_)))
  refine assignInOrder_cons (bindName_ (stS 1 [none, some (.ref X), some (.ref Y), none, none] ok F6 N6 rfl (Nat.le_of_ble_eq_true rfl) rfl (fun h7 k7 F7 N7 => assignInOrder_nil ?_)))
  refine wpAny_execs_cons (hideLet ?_)
  intro PHid
  refine forS2 ok F7 3 rfl (callT (fun Q' q => ldb 4 ok l F7 rfl (by decide) boot_range q) (arg (cInt fun t8 k8 => args_nil ?_)))
  refine rangeS1 (n := 3) F7 N7 (fun r h8 k9 _ _ _ hr F8 N8 kp8 => ?_)
  refine iterRange (n := 3) rfl F8 N8 hr (small_one (by lia) (by lia) (by lia) (by lia)) (by rw [rangeSize_nat]; rfl) (fun I h9 W hst hLf hwr hnw hfp F9 N9 kp9 => ?_)
  have hXY : X ≠ Y := hY _ List.mem_cons_self
  refine ⟨I, _, _, 3, _, _, h9, k9, _, _, fun i => NInv L ob sg i, rfl, rfl, W, hst, hLf, hwr, hnw, F9, N9,
    ⟨X, Y, none, _, _, 0, 0, rfl, rfl, .cons _ _ .nil, .cons _ _ .nil, rfl, by simp [namesN], by simp [namesN]⟩, ?_, rangeIter_alive, ?_, ?_⟩
  · rintro i vals news ⟨X, Y, sz, vsN, vsH, kn, kh, rfl, _⟩
    simp
  · rintro E' i v vals news own h1 k1 hi hv ⟨X, Y, sz, vsN, vsH, kn, kh, rfl, rfl, hN, hH, hl2, hl1, hlx⟩ hnw1 hown _ F1 N1
    refine hideLet ?_
    intro PHid
    obtain ⟨o1, hIo⟩ := hown I (by first | exact Nat.le_of_ble_eq_true rfl | (repeat (first | exact .head _ | apply List.Mem.tail)); done | simp)
    have hg3 : i < 3 := hi
    have hls := hH.len_eq
    rw [List.length_map] at hls
    have hlN := hN.len_eq
    rw [List.length_map] at hlN
    have hp8 : 2 ^ i ≤ 4 := by
      have : i = 0 ∨ i = 1 ∨ i = 2 := by lia
      rcases this with rfl | rfl | rfl <;> decide
    have hp9 : 2 ^ (i + 1) ≤ 8 := by
      have : i = 0 ∨ i = 1 ∨ i = 2 := by lia
      rcases this with rfl | rfl | rfl <;> decide
    replace F1 : Fr h L h1 (locs (nms (dScope 25)) [none, some (.ref X), some (.ref Y), some v, none]) := F1
    have mY : (Y, lstO vsH.toArray kh) ∈ own ++ [(Y, lstO vsH.toArray kh), (X, lstO vsN.toArray kn), (L + 1, ob)] := List.mem_append_right _ List.mem_cons_self
    have mX : (X, lstO vsN.toArray kn) ∈ own ++ [(Y, lstO vsH.toArray kh), (X, lstO vsN.toArray kn), (L + 1, ob)] := List.mem_append_right _ (List.mem_cons_of_mem _ List.mem_cons_self)
    have mC : (L + 1, ob) ∈ own ++ [(Y, lstO vsH.toArray kh), (X, lstO vsN.toArray kn), (L + 1, ob)] := List.mem_append_right _ (List.mem_cons_of_mem _ (List.mem_cons_of_mem _ List.mem_cons_self))
    refine wpAny_execs_cons (hideLet ?_)
    intro PHid
    refine assignCompS (cl' := [("signs", L + 1)]) (h₀ := h) (vals := [none, some (.ref X), some (.ref Y), some v, none]) 2 (fun D => [none, some (.ref X), some (.ref D), some v, none]) ok rfl (by first | exact Nat.le_of_ble_eq_true rfl | (repeat (first | exact .head _ | apply List.Mem.tail)); done | simp) (fun D => rfl) (by rfl) (by rfl) (by decide) rfl (by decide) (ldl 2 ok F1 rfl rfl ?_)
    refine iterLS (vs := vsH) rfl F1 N1 ⟨_, N1.get mY, rfl, _, rfl⟩ (fun I2 h2 W2 hst2 hLf2 hwr2 hnw2 hfp2 F2 N2 kp2 => ?_)
    refine ⟨h2, _, _, rfl, compAt2 (fun q ys => ys.length = q * 2 ∧ StrsAre ys ((grow sg ((namesN sg i).2.take q)).map tx)) W2 (by decide) (by decide) (by decide) rfl hst2 hfp2 hLf2 hwr2 hnw2 F2 N2 ⟨rfl, by simpa [grow] using StrsAre.nil⟩ (fun _ _ => rfl) ?_, F2.ns.lt, ?_⟩
    · rintro E2 q u C D h3 k3 mc ys hq hu ⟨hy1, hy2⟩ hC hD hnC hmc hDs F3 N3
      have hqx : q < (namesN sg i).2.length := by lia
      obtain ⟨tq, hqv⟩ := hH.at (j := q) (y := tx (namesN sg i).2[q]) (by rw [List.getElem?_map, List.getElem?_eq_getElem hqx]; rfl)
      obtain rfl : u = .str (tx (namesN sg i).2[q]) tq := by
        have hu' : vsH[q]? = some u := hu
        rw [hqv] at hu'; exact (Option.some.inj hu').symm
      have hxl := hlx _ (List.getElem_mem hqx)
      have hgs : grow sg ((namesN sg i).2.take (q + 1)) = grow sg ((namesN sg i).2.take q) ++ sg.map fun s => (namesN sg i).2[q] ++ [s] := by
        rw [List.take_succ_eq_append_getElem hqx, grow_append, grow_one]
      generalize (namesN sg i).2[q] = hd at *
      refine ldCc rfl (by decide) ok.fk (by decide +kernel) rfl ⟨ob, N3.get mC, hob⟩ ?_
      refine iterTextI rfl (fun J St h4 W4 st4 hJ kp4 => ?_)
      have hsz : (tx sg).cps.size = 2 := by simpa using hsg
      rw [hsz] at W4
      refine ⟨J, _, _, 2, _, _, fun j zs => zs.length = q * 2 + j ∧ StrsAre zs ((grow sg ((namesN sg i).2.take q) ++ (sg.take j).map fun s => hd ++ [s]).map tx), h4, k3, rfl, rfl, kp4, W4, st4, fun b hb => .inr (by rw [List.mem_singleton.mp hb]; exact hJ), fun b hb => by rw [List.mem_singleton.mp hb]; exact hJ,
        ⟨by lia, by simpa using hy2⟩, ?_, ?_, ?_⟩
      · rintro ys' ⟨z1, z2⟩
        refine ⟨by lia, ?_⟩
        rw [hgs]
        rw [List.take_of_length_le (l := sg) (by lia)] at z2
        exact z2
      · rintro j ys' ⟨z1, _⟩ hj
        rw [sizeLine]; lia
      · rintro E5 j u5 h5 k5 mc5 zs hj ⟨c, uc, hc, rfl⟩ ⟨z1, z2⟩ hn5 hx5 hy5 F5 N5
        refine wpAny_BinOp (ldC rfl (by decide) hn5 hx5 (ldC rfl (by decide) hn5 hy5 ?_))
        refine addT (x := hd) (y := [c]) (by simp [hxl]; lia) (fun t9 k9 => ⟨Keeps.mk' fun _ _ e => e, by simp [z1]; lia, ?_⟩)
        have hjc : sg[j]? = some c := by simpa using hc
        obtain ⟨hjl, rfl⟩ := List.getElem?_eq_some_iff.mp hjc
        have e : (grow sg ((namesN sg i).2.take q) ++ (sg.take (j + 1)).map fun s => hd ++ [s]).map tx = (grow sg ((namesN sg i).2.take q) ++ (sg.take j).map fun s => hd ++ [s]).map tx ++ [tx (hd ++ [sg[j]])] := by
          rw [List.take_succ_eq_append_getElem hjl]
          simp only [List.map_append, List.map_cons, List.map_nil, List.append_assoc]
        rw [e]
        exact z2.append' (.cons _ _ .nil)
    · rintro D h3 k3 news F3 N3 ⟨ys, kk, ⟨hy1, hy2⟩, rfl, hDn⟩
      have hH2 : StrsAre ys ((namesN sg (i + 1)).2.map tx) := by
        rw [hls, List.take_length] at hy2
        exact hy2
      have hg2 : (namesN sg (i + 1)).2.length = 2 ^ (i + 1) := by
        show (grow sg (namesN sg i).2).length = _
        rw [grow_len, hl2, hsg, Nat.pow_succ]
      refine wpAny_execs_cons (hideLet ?_)
      intro PHid
      refine wpAny_Assign_Name (wpAny_BinOp (ldl 1 ok F3 rfl rfl (ldl 2 ok F3 rfl rfl ?_)))
      refine addLists F3 N3 (vs := vsN) (ws := ys) ⟨_, N3.get (List.mem_cons_of_mem _ mX), rfl, _, rfl⟩ ⟨_, N3.get List.mem_cons_self, rfl, _, rfl⟩ (by lia) (fun G h4 F4 N4 hG => ?_)
      refine stS 1 [none, some (.ref G), some (.ref D), some v, none] ok F4 N4 rfl (Nat.le_of_ble_eq_true rfl) rfl (fun h5 k5 F5 N5 => wpAny_execs_nil ?_)
      have hDI : D ≠ I := fun e => hDn _ (List.mem_append_left _ hIo) e.symm
      have hGI : G ≠ I := fun e => hG _ (List.mem_cons_of_mem _ (List.mem_append_left _ hIo)) e.symm
      refine At.mk F5 (news := own ++ [(D, lstO ys.toArray kk), (G, lstO (vsN ++ ys).toArray 0), (L + 1, ob)]) (News.sub N5 ?_) ⟨[(D, lstO ys.toArray kk), (G, lstO (vsN ++ ys).toArray 0), (L + 1, ob)], rfl, ?_, G, D, some v, vsN ++ ys, ys, 0, kk, rfl, rfl, ?_, hH2, hg2, ?_, ?_⟩
      · intro p hp
        rcases List.mem_append.mp hp with hp | hp
        · exact List.mem_cons_of_mem _ (List.mem_cons_of_mem _ (List.mem_append_left _ hp))
        · simp only [List.mem_cons, List.not_mem_nil, or_false] at hp
          rcases hp with rfl | rfl | rfl
          · exact List.mem_cons_of_mem _ List.mem_cons_self
          · exact List.mem_cons_self
          · exact List.mem_cons_of_mem _ (List.mem_cons_of_mem _ mC)
      · intro p hp
        simp only [List.mem_cons, List.not_mem_nil, or_false] at hp ⊢
        rcases hp with rfl | rfl | rfl
        · exact hDI
        · exact hGI
        · exact fun e => hnw1 (L + 1, ob) (List.mem_cons_of_mem _ (List.mem_cons_of_mem _ List.mem_cons_self)) (by show L + 1 ∈ [I]; rw [show L + 1 = I from e]; exact List.mem_cons_self)
      · show StrsAre _ (((namesN sg i).1 ++ grow sg (namesN sg i).2).map tx)
        rw [List.map_append]
        exact hN.append' hH2
      · show ((namesN sg i).1 ++ grow sg (namesN sg i).2).length ≤ _
        rw [List.length_append, grow_len, hl2, hsg]
        have : 2 ^ (i + 1 + 1) = 2 ^ (i + 1) * 2 := Nat.pow_succ ..
        have : 2 ^ (i + 1) = 2 ^ i * 2 := Nat.pow_succ ..
        lia
      · exact grow_lens sg _ i hlx
  · rintro h1 k1 vals news F1 N1 ⟨X, Y, sz, vsN, vsH, kn, kh, rfl, rfl, hN, hH, _⟩
    exact wpAny_execs_cons (wpAny_Return_some (ldl 1 ok F1 rfl rfl (hR _ _ _ F1.keep ⟨X, vsN, kn, rfl, N1.fresh (List.mem_cons_of_mem _ List.mem_cons_self), N1.get (List.mem_cons_of_mem _ List.mem_cons_self), hN⟩)))
end Mine
namespace Mine
section
variable {w : World} {A : Around} {E : Value → Shared → Prop} {h : Heap} {g : Array GenState} {d : Drawn} {k : Nat} {o : OsState} {name : Str} {sc : Scope} {L a : Addr} {cd : Value} {cl : List (Str × Addr)} {h₀ : Heap} {vals : List (Option Value)}
  {m : Str → Option Value} {news : List (Addr × Obj)} {env : Env}
inductive ForCT (own : List (Addr × Obj)) (q : Addr × Obj) (wr : List Addr) (J : List (Option Value) → List (Addr × Obj) → Prop) (vals' : List (Option Value)) (news' : List (Addr × Obj)) : Prop
  | mk (new : List (Addr × Obj)) (h1 : news' = own ++ q :: new) (h2 : ∀ p ∈ new, p.1 ∉ wr) (h3 : ∀ p ∈ new, p.1 ≠ q.1) (h4 : J vals' new) : ForCT own q wr J vals' news'
inductive ForCI (g : Array GenState) (d : Drawn) (o : OsState) (sc : Scope) (L : Addr) (h₀ : Heap) (c : Addr) (n : Nat) (wr : List Addr) (St : Nat → Heap → Prop) (J : Nat → List (Option Value) → List (Addr × Obj) → Prop) (k : Nat) (s' : Shared) : Prop
  | mk (h' : Heap) (tk : Nat) (vals : List (Option Value)) (news : List (Addr × Obj)) (ob : Obj) (cv : Option Value) (i : Nat) (h1 : s' = ⟨h', g, d, tk, o⟩) (h2 : St i h') (h3 : Fr h₀ L h' (locs (nms sc) vals)) (h4 : News h₀ L h' ((c, ob) :: news)) (h5 : ob.data = .cell cv) (h6 : ∀ p ∈ news, p.1 ∉ wr) (h7 : ∀ p ∈ news, p.1 ≠ c) (h8 : J i vals news) (h9 : i ≤ n) (h10 : k = n + 1 - i) : ForCI g d o sc L h₀ c n wr St J k s'
inductive ForCQ (w : World) (A : Around) (g : Array GenState) (d : Drawn) (o : OsState) (name : Str) (sc : Scope) (L a : Addr) (cd : Value) (cl : List (Str × Addr)) (h₀ : Heap) (body : List Stmt) (c : Addr) (Q : Flow → Shared → Prop) (it : Value) (s₂ : Shared) : Prop
  | mk (I : Addr) (fp wr : List Addr) (n : Nat) (P : Nat → Value → Prop) (St : Nat → Heap → Prop) (h₂ : Heap) (k₂ : Nat) (vals : List (Option Value)) (news : List (Addr × Obj)) (ob : Obj) (cv : Option Value) (J : Nat → List (Option Value) → List (Addr × Obj) → Prop) (h1 : s₂ = ⟨h₂, g, d, k₂, o⟩) (h2 : it = .ref I) (h3 : Walks prg w A I fp wr n P St) (h4 : St 0 h₂) (h5 : L ∉ fp) (h6 : c ∉ fp) (h7 : (∀ b ∈ wr, h₀.get? b = none)) (h8 : (∀ p ∈ news, p.1 ∉ wr)) (h9 : (∀ p ∈ news, p.1 ≠ c)) (h10 : ob.data = .cell cv) (h11 : Fr h₀ L h₂ (locs (nms sc) vals)) (h12 : News h₀ L h₂ ((c, ob) :: news)) (h13 : J 0 vals news) (h14 : (∀ i h, St i h → ∀ b ∈ wr, ∃ o, h.get? b = some o)) (h15 : (∀ E i v vals news own ob h k, i < n → P i v → J i vals news → (∀ p ∈ news, p.1 ∉ wr) → (∀ p ∈ news, p.1 ≠ c) → ob.data = .cell (some v) → (∀ b ∈ wr, ∃ o, (b, o) ∈ own) → (∀ p ∈ own, p.1 ∈ fp) → Fr h₀ L h (locs (nms sc) vals) → News h₀ L h (own ++ (c, ob) :: news) → wpAny (model prg w) A (execs body (envX name sc L a cd cl)) (fun f s₃ => match f with | .next | .cont => At h₀ L sc g d o (ForCT own (c, ob) wr (J (i + 1))) s₃ | .brk => Q .next s₃ | .ret v => Q (.ret v) s₃) E ⟨h, g, d, k, o⟩)) (h16 : ∀ h k vals news ob, Fr h₀ L h (locs (nms sc) vals) → News h₀ L h ((c, ob) :: news) → (∀ p ∈ news, p.1 ≠ c) → J n vals news → Q .next ⟨h, g, d, k, o⟩) : ForCQ w A g d o name sc L a cd cl h₀ body c Q it s₂
/-- a for whose name is a cell -/
theorem forC {x : Str} {px pos : Pos} {iter : Expr} {body : List Stmt} {Q : Flow → Shared → Prop} (ok : ScOk sc) (c : Addr) (hx : sc.names.lookup x = some .cell) (hcl : cl.lookup x = some c)
    (q : wpAny (model prg w) A (eval iter (envX name sc L a cd cl)) (fun xv s₁ => wpAny (model prg w) A (pyIter xv) (ForCQ w A g d o name sc L a cd cl h₀ body c Q) E s₁) E ⟨h, g, d, k, o⟩)
    (hs : ∀ x, foldedSetIterable iter (envX name sc L a cd cl) x = pure x := by intro _; rfl) :
    wpAny (model prg w) A (exec (.For (.Name x px) iter body [] pos) (envX name sc L a cd cl)) Q E ⟨h, g, d, k, o⟩ := by
  refine wpAny_For (wpAny_mono q (fun xv s₁ h₁ => wpAny_mono h₁ (fun it s₂ h₂ => ?_) fun _ _ e => e) fun _ _ e => e) hs
  obtain ⟨I, fp, wr, n, P, St, h₂, k₂, vals, news, ob, cv, J, rfl, rfl, W, hst, hLf, hcf, hwr, hnw, hnc, hob, F, N, j, alive, turn, done⟩ := h₂
  have hLw : L ∉ wr := fun h => hLf (W.sub _ h)
  have hcw : c ∉ wr := fun h => hcf (W.sub _ h)
  have old : ∀ b o, h₀.get? b = some o → b ∉ wr := fun b o e hb => by rw [hwr b hb] at e; cases e
  refine codeAny_forLoop (ForCI g d o sc L h₀ c n wr St J) ?_ (n + 1)
    ⟨h₂, k₂, vals, news, ob, cv, 0, rfl, hst, F, N, hob, hnw, hnc, j, Nat.zero_le _, rfl⟩
  rintro k s' ⟨h', tk, vals', news', ob', cv', i, rfl, hst', F', N', hob', hnw', hnc', hJ, hi, rfl⟩
  have next : ∀ h₁ : Heap, (∀ b o, b ∉ wr → h'.get? b = some o → h₁.get? b = some o) → Fr h₀ L h₁ (locs (nms sc) vals') ∧ News h₀ L h₁ ((c, ob') :: news') := fun h₁ hk₁ =>
    ⟨⟨F'.ns.at' fun o e => hk₁ _ o hLw e, fun b o e => hk₁ b o (old b o e) (F'.keep b o e), F'.above⟩, fun p hp => by
      rcases List.mem_cons.mp hp with rfl | hp2
      · exact ⟨hk₁ _ _ hcw (N' _ hp).1, (N' _ hp).2⟩
      · exact ⟨hk₁ _ _ (hnw' p hp2) (N' p hp).1, (N' p hp).2⟩⟩
  by_cases hlt : i < n
  · refine W.item i _ _ _ hlt hst' fun v h₁ tk₁ hP hst₁ hk₁ => ?_
    obtain ⟨F₁, N₁⟩ := next h₁ hk₁
    refine wpAny_assign_Name ?_
    refine wpAny_storeName_cell (env := envX name sc L a cd cl) ok.fk hx hcl ⟨ob', N₁.get List.mem_cons_self, hob'⟩ fun h2 hv hs => ?_
    obtain ⟨ob2, ho2, hd2⟩ := hv
    dsimp only at hs
    obtain ⟨F₂, N₂⟩ := updL F₁ N₁ hnc' hs ho2
    have hst₂ : St (i + 1) h2 := W.frame _ _ _ hst₁ fun b hb o e => (hs.2 b fun q => hcf (q ▸ hb)).trans e
    have Nown : News h₀ L h2 (ownOf h₀ fp h2) := news_ownOf hLf
    refine wpAny_mono (turn _ i v vals' news' (ownOf h₀ fp h2) ob2 h2 _ hlt hP hJ hnw' hnc' hd2 (fun b hb => ?_) ownOf_sub F₂ (Nown.append N₂)) (fun f s₃ h₃ => ?_) fun _ _ e => e
    · obtain ⟨ob, hob⟩ := alive _ _ hst₂ b hb
      exact ⟨ob, mem_ownOf (W.sub _ hb) (hwr b hb) hob⟩
    · have fin : At h₀ L sc g d o (ForCT (ownOf h₀ fp h2) (c, ob2) wr (J (i + 1))) s₃ →
          ∃ m, m < n + 1 - i ∧ ForCI g d o sc L h₀ c n wr St J m s₃ := by
        rintro ⟨h3, k3, vals3, news3, rfl, F3, N3, new, rfl, hn1, hn2, hj⟩
        refine ⟨n + 1 - (i + 1), by lia, h3, k3, vals3, new, ob2, _, i + 1, rfl, ?_, F3, N3.right, hd2, hn1, hn2, hj, hlt, rfl⟩
        refine W.frame _ _ _ hst₂ fun b hb o e₂ => ?_
        cases hn : h₀.get? b with
        | some o₀ =>
          have : o₀ = o := by have := F₂.keep b o₀ hn; rw [e₂] at this; exact (Option.some.inj this).symm
          exact this ▸ F3.keep b o₀ hn
        | none => exact (N3 _ (List.mem_append_left _ (mem_ownOf hb hn e₂))).1
      cases f with
      | ret v => exact h₃
      | brk => exact h₃
      | next => exact fin h₃
      | cont => exact fin h₃
  · have hin : i = n := by lia
    refine W.done _ _ _ (hin ▸ hst') fun h₁ tk₁ hk₁ => wpAny_execs_nil ?_
    obtain ⟨F₁, N₁⟩ := next h₁ hk₁
    exact done h₁ tk₁ vals' news' ob' F₁ N₁ hnc' (hin ▸ hJ)

theorem setS {D : Addr} {items : Array Value} {kk i : Nat} {v : Value} {u : Tok} {Q : Unit → Shared → Prop} (F : Fr h₀ L h m) (N : News h₀ L h ((D, lstO items kk) :: news)) (hD : ∀ p ∈ news, p.1 ≠ D) (hi : i < items.size) (hb : i ≤ 1000000)
    (q : ∀ h' kk', Fr h₀ L h' m → News h₀ L h' ((D, lstO (items.setIfInBounds i v) kk') :: news) → Q () ⟨h', g, d, k, o⟩) : wpAny (model prg w) A (setItem (.ref D) (.int i u) v) Q E ⟨h, g, d, k, o⟩ := by
  have hx := N.get (List.mem_cons_self)
  refine ki_setAt (s := ⟨h, g, d, k, o⟩) (n := kk) hx (by lia) (by lia) (by simpa using hi) ?_
  have e : Obj.mapSeq (fun x => x.setIfInBounds (i : Int).toNat v) (lstO items kk) = lstO (items.setIfInBounds i v) kk := by
    simp [Obj.mapSeq]
  obtain ⟨F', N'⟩ := updL (ob' := lstO (items.setIfInBounds i v) kk) F N hD (Heap.SameBut.update (h := h) (a := D) (f := Obj.mapSeq (·.setIfInBounds (i : Int).toNat v))) (by
    rw [Heap.get?_update_self _ hx (by rw [e]; rfl), e])
  exact q _ _ F' N'
theorem foldl_rep {α : Type} (v : α) (n : Nat) : List.foldl (fun x1 x2 => x1 ++ x2) #[] (List.replicate n #[v]) = (List.replicate n v).toArray := by
  have : ∀ (n : Nat) (l : List α), List.foldl (fun x1 x2 => x1 ++ x2) l.toArray (List.replicate n #[v]) = (l ++ List.replicate n v).toArray := by
    intro n
    induction n with
    | zero => intro l; simp
    | succ n ih =>
      intro l
      have e : l.toArray ++ #[v] = (l ++ [v]).toArray := by simp
      rw [List.replicate_succ, List.foldl_cons, e, ih, List.replicate_succ]
      simp
  simpa using this n []
theorem mulS {l : Addr} {v : Value} {kk n : Nat} {u : Tok} {Q : Value → Shared → Prop} (F : Fr h₀ L h m) (N : News h₀ L h news) (hl : h.get? l = some (lstO #[v] kk)) (hn : n ≤ 1000000)
    (q : ∀ D h', Fr h₀ L h' m → News h₀ L h' ((D, lstO (List.replicate n v).toArray 0) :: news) → (∀ p ∈ news, p.1 ≠ D) → Q (.ref D) ⟨h', g, d, k, o⟩) : wpAny (model prg w) A (binaryOp .Mult (.ref l) (.int n u)) Q E ⟨h, g, d, k, o⟩ := by
  refine mul_list (s := ⟨h, g, d, k, o⟩) F N hl (by lia) (by lia) (by simp; lia) (fun h' F' N' => ?_)
  have e : (List.foldl (fun x1 x2 => x1 ++ x2) #[] (List.replicate (if (#[v] : Array Value).isEmpty = true then 0 else (n : Int).toNat) #[v])) = (List.replicate n v).toArray := by
    rw [show (if (#[v] : Array Value).isEmpty = true then 0 else (n : Int).toNat) = n by simp, foldl_rep]
  rw [e] at N'
  exact q _ h' F' N' fun p hp e => absurd (Heap.lt_size (N p hp).1) (by rw [e]; exact Nat.lt_irrefl _)
theorem revS {l : Addr} {vs : List Value} {Q : Value → Shared → Prop} (F : Fr h₀ L h m) (N : News h₀ L h news) (hl : h.IsList l vs.toArray)
    (q : ∀ D h', Kp h h' → Fr h₀ L h' m → News h₀ L h' ((D, revObj l ((vs.length : Int) - 1)) :: news) → h.get? D = none → (∀ p ∈ news, p.1 ≠ D) → l ≠ D → Q (.ref D) ⟨h', g, d, k, o⟩) : wpAny (model prg w) A (call (.type "reversed") [.ref l]) Q E ⟨h, g, d, k, o⟩ := by
  refine call_reversed_list (s := ⟨h, g, d, k, o⟩) hl ?_
  have hlt : @LT.lt Nat instLTNat l h.objs.size := by obtain ⟨_, e, _⟩ := hl; exact Heap.lt_size e
  have e : ((vs.toArray.size : Nat) : Int) - 1 = (vs.length : Int) - 1 := by simp
  rw [e]
  exact q _ _ (fun _ _ e => Heap.get?_push_of_some _ e) (F.push _) (News.push F N _) (Heap.get?_none_of_le (Nat.le_refl _)) (fun p hp e => absurd (Heap.lt_size (N p hp).1) (by rw [e]; exact Nat.lt_irrefl _)) (Nat.ne_of_lt hlt)
end
end Mine
namespace Mine
noncomputable def rowW (it : Nat) : List Nat → List Int → List Int
  | [], ws => [if it = 42 then ws.headD 0 else 0]
  | c :: x, ws => (if it = 42 then ws.headD 0 + (rowW it x ws.tail).headD 0 else if it = 63 ∨ it = c then ws.tail.headD 0 else 0) :: rowW it x ws.tail
noncomputable def waysL (x : List Nat) : List Nat → List Int
  | [] => List.replicate x.length 0 ++ [1]
  | it :: r => rowW it x (waysL x r)
noncomputable def waysOf (items x : List Nat) : Int := (waysL x items).headD 0
theorem rowW_len (it : Nat) : ∀ (x : List Nat) (ws : List Int), (rowW it x ws).length = x.length + 1
  | [], _ => rfl
  | c :: x, ws => by simp [rowW, rowW_len it x]
theorem waysL_len (x : List Nat) : ∀ items, (waysL x items).length = x.length + 1
  | [] => by simp [waysL]
  | it :: r => rowW_len ..
theorem tail_getD (ws : List Int) (p : Nat) : ws.tail.getD p 0 = ws.getD (p + 1) 0 := by cases ws <;> simp
theorem headD_getD (ws : List Int) : ws.headD 0 = ws.getD 0 0 := by cases ws <;> simp
theorem rowW_at (it : Nat) : ∀ (x : List Nat) (ws : List Int) (p : Nat), p ≤ x.length →
    (rowW it x ws)[p]? = some (if it = 42 then ws.getD p 0 + (if p < x.length then (rowW it x ws).getD (p + 1) 0 else 0) else if p < x.length ∧ (it = 63 ∨ x[p]? = some it) then ws.getD (p + 1) 0 else 0)
  | [], ws, p, h => by
    obtain rfl : p = 0 := by simpa using h
    cases ws <;> simp [rowW]
  | c :: x, ws, 0, _ => by
    simp only [rowW, List.getElem?_cons_zero, headD_getD, tail_getD, List.length_cons, Nat.zero_lt_succ, if_true, true_and, Option.some.injEq, List.getD_cons_succ]
    simp only [eq_comm (a := c)]
  | c :: x, ws, p + 1, h => by
    have hp : p ≤ x.length := by simpa using h
    have ih := rowW_at it x ws.tail p hp
    simp only [rowW, List.getElem?_cons_succ, ih, tail_getD, List.length_cons, Nat.succ_lt_succ_iff, List.getD_cons_succ]
noncomputable def midW (R : List Int) (j : Nat) : List Int := List.replicate j 0 ++ R.drop j
theorem midW_len {R : List Int} {j : Nat} (h : j ≤ R.length) : (midW R j).length = R.length := by simp [midW]; lia
theorem midW_set {R : List Int} {p : Nat} {v : Int} (h : R[p]? = some v) : (midW R (p + 1)).set p v = midW R p := by
  obtain ⟨hp, rfl⟩ := List.getElem?_eq_some_iff.mp h
  unfold midW
  rw [List.drop_eq_getElem_cons hp, List.replicate_succ', List.append_assoc, List.set_append_right _ _ (by first | exact Nat.le_of_ble_eq_true rfl | (repeat (first | exact .head _ | apply List.Mem.tail)); done | simp)]
  simp
theorem midW_zero {R : List Int} {p : Nat} (h : R[p]? = some 0) : midW R (p + 1) = midW R p := by
  obtain ⟨hp, e⟩ := List.getElem?_eq_some_iff.mp h
  unfold midW
  rw [List.drop_eq_getElem_cons hp, List.replicate_succ', List.append_assoc, e]
  simp
theorem midW_get {R : List Int} {p : Nat} : (midW R p)[p]? = R[p]? := by
  unfold midW
  rw [List.getElem?_append_right (by first | exact Nat.le_of_ble_eq_true rfl | (repeat (first | exact .head _ | apply List.Mem.tail)); done | simp)]
  simp
theorem IntsAre.set : ∀ {vs : List Value} {ns : List Int}, IntsAre vs ns → ∀ (i : Nat) (v : Int) (t : Tok), IntsAre (vs.set i (.int v t)) (ns.set i v) := by
  intro vs ns x
  induction x with
  | nil => intro _ _ _; exact .nil
  | cons n t r ih =>
    intro i v u
    cases i with
    | zero => exact .cons v u r
    | succ i => exact .cons n t (ih i v u)
theorem IntsAre.rep (x : Int) (t : Tok) : ∀ n, IntsAre (List.replicate n (.int x t)) (List.replicate n x)
  | 0 => .nil
  | n + 1 => .cons x t (IntsAre.rep x t n)
theorem sc26 : ScOk (dScope 26) := .of (by decide +kernel)
inductive WInv1 (ia : Addr) (items x : List Nat) (t : Tok) (i : Nat) (vals : List (Option Value)) (news : List (Addr × Obj)) : Prop
  | mk (Wd : Addr) (vsW : List Value) (kw : Nat) (it fr pl : Option Value) (h1 : vals = [some (.ref ia), some (.str (tx x) t), some (.ref Wd), it, fr, pl, none, none, none]) (h2 : news = [(Wd, lstO vsW.toArray kw)]) (h3 : IntsAre vsW (waysL x (items.drop (items.length - i)))) : WInv1 ia items x t i vals news
inductive WInv2 (ia Wd FR : Addr) (x : List Nat) (t tq : Tok) (it : Nat) (own : List (Addr × Obj)) (vsW : List Value) (kw : Nat) (Rw : List Int) (j : Nat) (vals : List (Option Value)) (news : List (Addr × Obj)) : Prop
  | mk (vsF : List Value) (kf : Nat) (pl : Option Value) (h1 : vals = [some (.ref ia), some (.str (tx x) t), some (.ref Wd), some (.str (one it) tq), some (.ref FR), pl, none, none, none]) (h2 : news = (FR, lstO vsF.toArray kf) :: (own ++ [(Wd, lstO vsW.toArray kw)])) (h3 : IntsAre vsF (midW Rw (x.length + 1 - j))) : WInv2 ia Wd FR x t tq it own vsW kw Rw j vals news
set_option maxHeartbeats 4000000 in
theorem ways_c {w : World} {ad : Nat → Addr} {mg mb : Str → Option Value} (items x : List Nat) (ia : Addr) (vs : List Value) (t : Tok) (hi : items.length ≤ 100) (hx : x.length ≤ 100) (hs : StrsAre vs (items.map one)) :
    FnC w ad mg mb 26 [.ref ia, .str (tx x) t] 1 (fun h => h.IsList ia vs.toArray) (fun _ v => ∃ t, v = .int (waysOf items x) t) := by
  rintro ⟨hd0, dp, fr, gd, un⟩ ⟨h, g, d, k, o⟩ R hh hd hu l hl hR
  dsimp only at hh hd hu hR hl
  subst hh
  have ok := sc26
  have hsl := hs.len_eq
  rw [List.length_map] at hsl
  have hxl : (tx x).length = x.length := by simp [Str.length]
  refine enterS 26 ["items", "name"] _ l (by decide) ok (by show dp < _; lia) (by with_unfolding_all rfl) (by with_unfolding_all rfl) rfl (fun _ _ _ => rfl) (by decide +kernel) (by decide +kernel) (fun L cd h₁ k₁ hL F N => ?_)
  replace F : Fr h L h₁ (locs (nms (dScope 26)) [some (.ref ia), some (.str (tx x) t), none, none, none, none, none, none, none]) := F
  refine hideA ?_
  intro AHid
  refine wpAny_execs_cons (hideLet ?_)
  intro PHid
  refine wpAny_Assign_Name (wpAny_BinOp (wpAny_BinOp (List_ (arg (cInt fun t1 k1 => args_nil (newListS F N (fun X h2 kp2 F2 N2 hX => ?_)))))))
  refine callB (fun Q' q => ldb 6 ok l F2 rfl (by decide) boot_len q) (arg (ldl 1 ok F2 rfl rfl (args_nil ?_)))
  refine lenSS (by lia) (fun t3 k3 => ?_)
  rw [hxl]
  refine mulS F2 N2 (N2.get List.mem_cons_self) (by lia) (fun Y h4 F4 N4 hY => ?_)
  refine List_ (arg (cInt fun t5 k5 => args_nil (newListS F4 N4 (fun Z h5 kp5 F5 N5 hZ => ?_))))
  refine addLists F5 N5 (vs := List.replicate x.length (Value.int 0 t1)) (ws := [Value.int 1 t5]) ⟨_, N5.get (List.mem_cons_of_mem _ List.mem_cons_self), rfl, _, rfl⟩ ⟨_, N5.get List.mem_cons_self, rfl, _, rfl⟩ (by simp; lia) (fun W0 h6 F6 N6 hW => ?_)
  refine stS 2 [some (.ref ia), some (.str (tx x) t), some (.ref W0), none, none, none, none, none, none] ok F6 N6 rfl (Nat.le_of_ble_eq_true rfl) rfl (fun h7 k7 F7 N7 => ?_)
  replace N7 : News h L h7 [(W0, lstO (List.replicate x.length (Value.int 0 t1) ++ [Value.int 1 t5]).toArray 0)] := News.sub N7 (by first | exact Nat.le_of_ble_eq_true rfl | (repeat (first | exact .head _ | apply List.Mem.tail)); done | simp)
  refine wpAny_execs_cons (hideLet ?_)
  intro PHid
  refine forS2 ok F7 3 rfl (callT (fun Q' q => ldb 7 ok l F7 rfl (by decide) boot_reversed q) (arg (ldl 0 ok F7 rfl rfl (args_nil ?_))))
  refine revS F7 N7 (hl.at fun o e => F7.keep _ o e) (fun I h8 kp8 F8 N8 hI0 hI hlI => ?_)
  have hIr : h8.IsRevIter I ia ((vs.length : Int) - 1) := ⟨_, N8.get List.mem_cons_self, rfl, rfl⟩
  refine wpAny_pyIter_revIter (s := ⟨h8, g, d, k7, o⟩) hIr ?_
  have hIL : I ≠ L := by
    rintro rfl
    obtain ⟨ob, es, ep, e, _⟩ := F7.ns
    rw [hI0] at e; cases e
  have hIh : h.get? I = none := by
    cases q : h.get? I with
    | none => rfl
    | some ob => have := F7.keep _ _ q; rw [hI0] at this; cases this
  have hiaL : ia ≠ L := isList_ne_L F7 (hl.at fun o e => F7.keep _ o e)
  refine ⟨I, _, _, _, _, _, h8, _, _, _, (fun i => WInv1 ia items x t i), rfl, rfl, Walks.listRev rfl I ia hlI vs.toArray, ⟨Nat.zero_le _, by simpa using hIr, hl.at fun o e => F8.keep _ o e⟩, notMem2 hIL.symm hiaL.symm, fun b hb => by rw [List.mem_singleton.mp hb]; exact hIh,
    fun p hp => notMem1 (hI p hp), F8, newsTail N8, ⟨W0, _, 0, none, none, none, rfl, rfl, ?_⟩, ?_, ?_, ?_, ?_⟩
  · rw [Nat.sub_zero, List.drop_length]
    exact (IntsAre.rep 0 t1 _).append (.cons _ _ .nil)
  · rintro i vals news ⟨Wd, vsW, kw, it, fr, pl, rfl, _⟩
    simp
  · rintro i h' ⟨_, hr, _⟩ b hb
    rw [List.mem_singleton.mp hb]
    obtain ⟨ob, e, _⟩ := hr
    exact ⟨ob, e⟩
  · rintro E' i v vals news own h1 k1 hi1 hv ⟨Wd, vsW, kw, it0, fr0, pl0, rfl, rfl, hints⟩ hnw1 hown hofp F1 N1
    refine hideLet ?_
    intro PHid
    rw [List.size_toArray] at hi1 hv
    obtain ⟨o1, hIo⟩ := hown I (by first | exact Nat.le_of_ble_eq_true rfl | (repeat (first | exact .head _ | apply List.Mem.tail)); done | simp)
    have hpos : vs.length - 1 - i < items.length := by lia
    obtain ⟨tq, hq⟩ := hs.at (j := vs.length - 1 - i) (y := one items[vs.length - 1 - i]) (by rw [List.getElem?_map, List.getElem?_eq_getElem hpos]; rfl)
    have hv' : vs[vs.length - 1 - i]? = some v := by simpa using hv
    obtain rfl : v = .str (one items[vs.length - 1 - i]) tq := by rw [hq] at hv'; exact (Option.some.inj hv').symm
    have hdrop : items.drop (items.length - (i + 1)) = items[vs.length - 1 - i] :: items.drop (items.length - i) := by
      have e1 : items.length - (i + 1) = vs.length - 1 - i := by lia
      have e2 : items.length - i = vs.length - 1 - i + 1 := by lia
      rw [e1, e2, List.drop_eq_getElem_cons hpos]
    generalize hit : items[vs.length - 1 - i] = it at *
    generalize hws : waysL x (items.drop (items.length - i)) = ws at *
    have hwsl : ws.length = x.length + 1 := by rw [← hws, waysL_len]
    have hR1 : waysL x (items.drop (items.length - (i + 1))) = rowW it x ws := by rw [hdrop, waysL, hws]
    have hRl := rowW_len it x ws
    have hRa := rowW_at it x ws
    generalize rowW it x ws = Rw at *
    replace F1 : Fr h L h1 (locs (nms (dScope 26)) [some (.ref ia), some (.str (tx x) t), some (.ref Wd), some (.str (one it) tq), fr0, pl0, none, none, none]) := F1
    refine wpAny_execs_cons (hideLet ?_)
    intro PHid
    refine wpAny_Assign_Name (wpAny_BinOp (List_ (arg (cInt fun t1 k1 => args_nil (newListS F1 N1 (fun X h2 kp2 F2 N2 hX => ?_))))))
    refine wpAny_BinOp (callB (fun Q' q => ldb 6 ok l F2 rfl (by decide) boot_len q) (arg (ldl 1 ok F2 rfl rfl (args_nil ?_))))
    refine lenSS (by lia) (fun t3 k3 => cInt fun t4 k4 => addI fun t5 k5 => ?_)
    rw [hxl, show ((x.length : Int) + 1) = ((x.length + 1 : Nat) : Int) from rfl]
    refine mulS F2 N2 (N2.get List.mem_cons_self) (by lia) (fun FR h4 F4 N4 hFR => ?_)
    refine stS 4 [some (.ref ia), some (.str (tx x) t), some (.ref Wd), some (.str (one it) tq), some (.ref FR), pl0, none, none, none] ok F4 N4 rfl (Nat.le_of_ble_eq_true rfl) rfl (fun h5 k5 F5 N5 => ?_)
    replace N5 : News h L h5 ((FR, lstO (List.replicate (x.length + 1) (Value.int 0 t1)).toArray 0) :: (own ++ [(Wd, lstO vsW.toArray kw)])) := News.sub N5 (fun p hp => by
      rcases List.mem_cons.mp hp with rfl | hp
      · exact List.mem_cons_self
      · exact List.mem_cons_of_mem _ (List.mem_cons_of_mem _ hp))
    replace hFR : ∀ p ∈ own ++ [(Wd, lstO vsW.toArray kw)], p.1 ≠ FR := fun p hp => hFR p (List.mem_cons_of_mem _ hp)
    have mW : (Wd, lstO vsW.toArray kw) ∈ own ++ [(Wd, lstO vsW.toArray kw)] := List.mem_append_right _ List.mem_cons_self
    refine wpAny_execs_cons (hideLet ?_)
    intro PHid
    refine forS2 ok F5 5 rfl (callT (fun Q' q => ldb 8 ok l F5 rfl (by decide) boot_range q) (arg ?_))
    refine callB (fun Q' q => ldb 6 ok l F5 rfl (by decide) boot_len q) (arg (ldl 1 ok F5 rfl rfl (args_nil ?_)))
    refine lenSS (by lia) (fun t6 k6 => arg (UnaryOp_ (cInt fun t7 k7 => minusI fun t8 k8 => arg (UnaryOp_ (cInt fun t9 k9 => minusI fun t10 k10 => args_nil ?_)))))
    rw [hxl]
    refine rangeS3 F5 N5 (by decide) (PyProof.noPylong_of_log2 (by decide +kernel)) (fun r h6 k11 _ _ _ hr F6 N6 kp6 => ?_)
    refine iterRange (n := x.length + 1) rfl F6 N6 hr (small_down (by lia) (by lia) (by lia) (by lia)) (by rw [rangeSize_downNat]; lia) (fun I2 h7 W2 hst2 hLf2 hwr2 hnw2 hfp2 F7 N7 kp7 => ?_)
    refine ⟨I2, _, _, x.length + 1, _, _, h7, k11, _, _, (fun j => WInv2 ia Wd FR x t tq it own vsW kw Rw j), rfl, rfl, W2, hst2, hLf2, hwr2, hnw2, F7, N7,
      ⟨_, 0, pl0, rfl, rfl, ?_⟩, ?_, rangeIter_alive, ?_, ?_⟩
    · have e : midW Rw (x.length + 1 - 0) = List.replicate (x.length + 1) 0 := by
        unfold midW
        rw [List.drop_eq_nil_of_le (by lia)]
        simp
      rw [e]
      exact IntsAre.rep 0 t1 _
    · rintro j vals news ⟨vsF, kf, pl, rfl, _⟩
      simp
    · rintro E2 j v2 vals news own2 h8 k12 hj ⟨t11, rfl⟩ ⟨vsF, kf, pl, rfl, rfl, hF⟩ hnw3 hown2 hofp2 F8 N8
      refine hideLet ?_
      intro PHid
      replace F8 : Fr h L h8 (locs (nms (dScope 26)) [some (.ref ia), some (.str (tx x) t), some (.ref Wd), some (.str (one it) tq), some (.ref FR), some (.int ((x.length : Int) + (j : Int) * (-1)) t11), none, none, none]) := F8
      obtain ⟨p, hp⟩ : ∃ p, p = x.length - j := ⟨_, rfl⟩
      have hpe : ((x.length : Int) + (j : Int) * (-1)) = (p : Int) := by lia
      rw [hpe] at F8
      have hj1 : x.length + 1 - j = p + 1 := by lia
      have hj2 : x.length + 1 - (j + 1) = p := by lia
      rw [hj1] at hF
      have hpx : p ≤ x.length := by lia
      have hFl := hF.length
      rw [midW_len (by lia), hRl] at hFl
      have hints_l := hints.length
      rw [hwsl] at hints_l
      have hFR2 : ∀ q ∈ own2 ++ (own ++ [(Wd, lstO vsW.toArray kw)]), q.1 ≠ FR := fun q hq => by
        rcases List.mem_append.mp hq with hq | hq
        · intro e
          exact hnw3 (FR, lstO vsF.toArray kf) List.mem_cons_self (by show FR ∈ _; rw [← e]; exact hofp2 q hq)
        · exact hFR q hq
      have N9 : News h L h8 ((FR, lstO vsF.toArray kf) :: (own2 ++ (own ++ [(Wd, lstO vsW.toArray kw)]))) := News.sub N8 (fun q hq => by
        rcases List.mem_cons.mp hq with rfl | hq
        · exact List.mem_append_right _ List.mem_cons_self
        · rcases List.mem_append.mp hq with hq | hq
          · exact List.mem_append_left _ hq
          · exact List.mem_append_right _ (List.mem_cons_of_mem _ hq))
      have hWl : h8.IsList Wd vsW.toArray := ⟨_, N8.get (List.mem_append_right _ (List.mem_cons_of_mem _ mW)), rfl, _, rfl⟩
      have hFRl : h8.IsList FR vsF.toArray := ⟨_, N9.get List.mem_cons_self, rfl, _, rfl⟩
      have fin : ∀ (hE : Heap) (kE : Nat) (vsE : List Value) (kk : Nat), Fr h L hE (locs (nms (dScope 26)) [some (.ref ia), some (.str (tx x) t), some (.ref Wd), some (.str (one it) tq), some (.ref FR), some (.int (p : Int) t11), none, none, none]) →
          News h L hE ((FR, lstO vsE.toArray kk) :: (own2 ++ (own ++ [(Wd, lstO vsW.toArray kw)]))) → IntsAre vsE (midW Rw p) →
          At h L (dScope 26) g d o (ForT own2 [I2] (WInv2 ia Wd FR x t tq it own vsW kw Rw (j + 1))) ⟨hE, g, d, kE, o⟩ := by
        intro hE kE vsE kk FE NE hIE
        refine At.mk FE (news := own2 ++ ((FR, lstO vsE.toArray kk) :: (own ++ [(Wd, lstO vsW.toArray kw)]))) (News.sub NE (fun q hq => ?_)) ⟨_, rfl, ?_, vsE, kk, _, rfl, rfl, by rw [hj2]; exact hIE⟩
        · rcases List.mem_append.mp hq with hq | hq
          · exact List.mem_cons_of_mem _ (List.mem_append_left _ hq)
          · rcases List.mem_cons.mp hq with rfl | hq
            · exact List.mem_cons_self
            · exact List.mem_cons_of_mem _ (List.mem_append_right _ hq)
        · intro q hq
          rcases List.mem_cons.mp hq with rfl | hq
          · exact hnw3 (FR, lstO vsF.toArray kf) List.mem_cons_self
          · exact hnw3 q (List.mem_cons_of_mem _ hq)
      have store : ∀ (AS : Around) (hS : Heap) (v : Int) (tv : Tok) (kE : Nat), Fr h L hS (locs (nms (dScope 26)) [some (.ref ia), some (.str (tx x) t), some (.ref Wd), some (.str (one it) tq), some (.ref FR), some (.int (p : Int) t11), none, none, none]) → News h L hS ((FR, lstO vsF.toArray kf) :: (own2 ++ (own ++ [(Wd, lstO vsW.toArray kw)]))) → Rw[p]? = some v → wpAny (model prg w) AS (setItem (.ref FR) (.int (p : Int) t11) (.int v tv)) (fun _ s => At h L (dScope 26) g d o (ForT own2 [I2] (WInv2 ia Wd FR x t tq it own vsW kw Rw (j + 1))) s) E2 ⟨hS, g, d, kE, o⟩ := fun AS hS v tv kE FS NS hv => by
        refine setS FS NS hFR2 (by rw [List.size_toArray]; lia) (by lia) (fun h9 kk9 F9 N10 => ?_)
        have e : vsF.toArray.setIfInBounds p (.int v tv) = (vsF.set p (.int v tv)).toArray := by simp
        rw [e] at N10
        refine fin _ _ _ _ F9 N10 ?_
        rw [← midW_set hv]
        exact IntsAre.set hF p v tv
      refine wpAny_execs_cons (hideLet ?_)
      intro PHid
      refine wpAny_If (wpAny_isTrue_Compare1 (ldl 3 ok F8 rfl rfl (cStr fun t12 k13 => eqT (x := [it]) (y := [42]) (wpAny_truthy_bool ?_))))
      by_cases h42 : it = 42
      · rw [show decide ([it] = [42]) = true by simp [h42]]
        refine ite_tt (wpAny_execs_cons (hideLet ?_))
        intro PHid
        refine wpAny_Assign_Subscript (wpAny_BinOp (Subscript_ (ldl 2 ok F8 rfl rfl (ldl 5 ok F8 rfl rfl ?_))))
        obtain ⟨tw, hw⟩ := hints.get p (ws.getD p 0) (by rw [List.getD_eq_getElem?_getD, List.getElem?_eq_getElem (by lia)]; rfl)
        refine itemS hWl (by lia) hw ?_
        refine IfExp_ (wpAny_isTrue_Compare1 (ldl 5 ok F8 rfl rfl ?_))
        refine callB (fun Q' q => ldb 6 ok l F8 rfl (by decide) boot_len q) (arg (ldl 1 ok F8 rfl rfl (args_nil ?_)))
        refine lenSS (by lia) (fun t13 k14 => lt_int (wpAny_truthy_bool ?_))
        rw [hxl]
        by_cases hlt : p < x.length
        · rw [decide_eq_true (by lia)]
          refine ite_tt (Subscript_ (ldl 4 ok F8 rfl rfl (wpAny_BinOp (ldl 5 ok F8 rfl rfl (cInt fun t14 k15 => addI fun t15 k16 => ?_)))))
          obtain ⟨tf, hf⟩ := hF.get (p + 1) (Rw.getD (p + 1) 0) (by rw [midW_get, List.getD_eq_getElem?_getD, List.getElem?_eq_getElem (by lia)]; rfl)
          rw [show ((p : Int) + 1) = ((p + 1 : Nat) : Int) from rfl]
          refine itemS hFRl (by lia) hf (addI fun t16 k17 => ldl 4 ok F8 rfl rfl (ldl 5 ok F8 rfl rfl ?_))
          refine wpAny_mono (store _ _ _ _ _ F8 N9 ?_) (fun _ s hs => wpAny_execs_nil (wpAny_execs_nil hs)) fun _ _ e => e
          rw [hRa p hpx, if_pos h42, if_pos hlt]
        · rw [decide_eq_false (by lia)]
          refine ite_ff (cInt fun t14 k15 => addI fun t16 k17 => ldl 4 ok F8 rfl rfl (ldl 5 ok F8 rfl rfl ?_))
          refine wpAny_mono (store _ _ _ _ _ F8 N9 ?_) (fun _ s hs => wpAny_execs_nil (wpAny_execs_nil hs)) fun _ _ e => e
          rw [hRa p hpx, if_pos h42, if_neg hlt]
      · rw [show decide ([it] = [42]) = false by simp [h42]]
        refine ite_ff (wpAny_execs_cons (hideLet ?_))
        intro PHid
        refine wpAny_If (isTrue_and (wpAny_isTrue_Compare1 (ldl 5 ok F8 rfl rfl ?_)))
        refine callB (fun Q' q => ldb 6 ok l F8 rfl (by decide) boot_len q) (arg (ldl 1 ok F8 rfl rfl (args_nil ?_)))
        refine lenSS (by lia) (fun t13 k14 => lt_int (wpAny_truthy_bool ?_))
        rw [hxl]
        by_cases hlt : p < x.length
        · rw [decide_eq_true (by lia)]
          refine ite_tt (isTrue_and (wpAny_isTrue_Compare1 (ldl 3 ok F8 rfl rfl (Tuple_ (arg (cStr fun t14 k15 => arg (Subscript_ (ldl 1 ok F8 rfl rfl (ldl 5 ok F8 rfl rfl ?_)))))))))
          refine itemT (x := tx x) (i := p) (c := x[p]) (by rw [List.getElem?_eq_getElem hlt]) (by lia) (fun t15 k16 => args_nil ?_)
          refine newTupS F8 N9 (fun T h9 kp9 F9 N10 hT => ?_)
          have htup : h9.IsTuple T #[.str (one 63) t14, .str (one x[p]) t15] := ⟨_, N10.get List.mem_cons_self, rfl, _, rfl⟩
          refine PySem.SeqAt.in_tupleAt (eStr (one it)) htup ?_ (wpAny_truthy_bool ?_)
          · intro y hy
            simp only [List.mem_toArray, List.mem_cons, List.not_mem_nil, or_false, Array.mem_def] at hy
            rcases hy with rfl | rfl
            · exact PySem.SeqAt.EqAt.str_str _ _ _ _
            · exact PySem.SeqAt.EqAt.str_str _ _ _ _
          · have hv : ((#[.str (one 63) t14, .str (one x[p]) t15] : Array Value).any (eStr (one it))) = decide (it = 63 ∨ x[p]? = some it) := by
              have e1 : ((#[.str (one 63) t14, .str (one x[p]) t15] : Array Value).any (eStr (one it))) = (one 63 == one it || one x[p] == one it) := by simp [eStr]
              rw [e1, one_beq, one_beq, List.getElem?_eq_getElem hlt]
              by_cases a1 : it = 63
              · simp [a1]
              · have a2 : ¬ (63 = it) := fun e => a1 e.symm
                simp [a1, a2]
            rw [hv]
            replace N10 := newsTail N10
            by_cases hm : it = 63 ∨ x[p]? = some it
            · rw [decide_eq_true hm]
              refine ite_tt (isTrue_and_nil (ite_tt (wpAny_execs_cons (hideLet ?_))))
              intro PHid
              refine wpAny_Assign_Subscript (Subscript_ (ldl 2 ok F9 rfl rfl (wpAny_BinOp (ldl 5 ok F9 rfl rfl (cInt fun t16 k17 => addI fun t17 k18 => ?_)))))
              obtain ⟨tw, hw⟩ := hints.get (p + 1) (ws.getD (p + 1) 0) (by rw [List.getD_eq_getElem?_getD, List.getElem?_eq_getElem (by lia)]; rfl)
              rw [show ((p : Int) + 1) = ((p + 1 : Nat) : Int) from rfl]
              refine itemS (hWl.at fun o e => kp9 _ o e) (by lia) hw (ldl 4 ok F9 rfl rfl (ldl 5 ok F9 rfl rfl ?_))
              refine wpAny_mono (store _ _ _ _ _ F9 N10 ?_) (fun _ s hs => wpAny_execs_nil (wpAny_execs_nil (wpAny_execs_nil hs))) fun _ _ e => e
              rw [hRa p hpx, if_neg h42, if_pos ⟨hlt, hm⟩]
            · rw [decide_eq_false hm]
              refine ite_ff (ite_ff (wpAny_execs_nil (wpAny_execs_nil (wpAny_execs_nil ?_))))
              refine fin _ _ _ _ F9 N10 ?_
              rw [← midW_zero]
              · exact hF
              · rw [hRa p hpx, if_neg h42, if_neg (fun q => hm q.2)]
        · rw [decide_eq_false (by lia)]
          refine ite_ff (ite_ff (wpAny_execs_nil (wpAny_execs_nil (wpAny_execs_nil ?_))))
          refine fin _ _ _ _ F8 N9 ?_
          rw [← midW_zero]
          · exact hF
          · rw [hRa p hpx, if_neg h42, if_neg (fun q => hlt q.1)]
    · rintro h8 k12 vals news F8 N8 ⟨vsF, kf, pl, rfl, rfl, hF⟩
      refine wpAny_execs_cons (hideLet ?_)
      intro PHid
      refine wpAny_Assign_Name (ldl 4 ok F8 rfl rfl ?_)
      refine stS 2 [some (.ref ia), some (.str (tx x) t), some (.ref FR), some (.str (one it) tq), some (.ref FR), pl, none, none, none] ok F8 N8 rfl (Nat.le_of_ble_eq_true rfl) rfl (fun h9 k13 F9 N9 => wpAny_execs_nil ?_)
      refine At.mk F9 (news := own ++ [(FR, lstO vsF.toArray kf)]) (News.sub N9 (fun q hq => ?_)) ⟨_, rfl, ?_, FR, vsF, kf, _, _, _, rfl, rfl, ?_⟩
      · rcases List.mem_append.mp hq with hq | hq
        · exact List.mem_cons_of_mem _ (List.mem_append_left _ hq)
        · rw [List.mem_singleton.mp hq]; exact List.mem_cons_self
      · intro q hq
        rw [List.mem_singleton.mp hq]
        exact notMem1 (fun e => hFR _ (List.mem_append_left _ hIo) e.symm)
      · rw [hR1]
        simpa [midW] using hF
  · rintro h9 k9 vals news F9 N9 ⟨Wd, vsW, kw, it, fr, pl, rfl, rfl, hints⟩
    have hz : items.length - vs.toArray.size = 0 := by simp; lia
    rw [hz, List.drop_zero] at hints
    have hll := hints.length
    rw [waysL_len] at hll
    obtain ⟨tw, hw⟩ := hints.get 0 (waysOf items x) (by
      unfold waysOf
      cases hq : waysL x items with
      | nil => have := waysL_len x items; rw [hq] at this; simp at this
      | cons a b => rfl)
    refine wpAny_execs_cons (hideLet ?_)
    intro PHid
    refine wpAny_Return_some (Subscript_ (ldl 2 ok F9 rfl rfl (cInt fun t20 k20 => ?_)))
    refine itemS (i := 0) ⟨_, N9.get List.mem_cons_self, rfl, _, rfl⟩ (by lia) hw ?_
    exact hR _ _ _ F9.keep ⟨tw, rfl⟩
end Mine
namespace Mine
section
variable {w : World} {A : Around} {E : Value → Shared → Prop} {h : Heap} {g : Array GenState} {d : Drawn} {k : Nat} {o : OsState} {L a : Addr} {h₀ : Heap}
  {m : Str → Option Value} {news : List (Addr × Obj)} {env : Env}
/-- range's iterator, told as new against the heap ahead -/
theorem iterRangeI {r : Addr} {a b c : Int} {t u v : Tok} {n : Nat} {Q : Value → Shared → Prop} (hh : A.handled = none) (hr : IsRange h r a b c t u v) (hsmall : Builtin.Range.small a b c = true) (hn : Builtin.Range.rangeSize a b c = (n : Int))
    (q : ∀ I h', Walks prg w A I [I] [I] n (fun i v => ∃ t, v = .int (a + i * c) t) (fun i h => IsRangeIter h I (a + (i : Nat) * c) ((n : Int) - (i : Nat)) c) → IsRangeIter h' I (a + ((0 : Nat) : Int) * c) ((n : Int) - ((0 : Nat) : Int)) c → h.get? I = none → Kp h h' → Q (.ref I) ⟨h', g, d, k, o⟩) :
    wpAny (model prg w) A (pyIter (.ref r)) Q E ⟨h, g, d, k, o⟩ := by
  refine wpAny_pyIter_range hr hsmall ?_
  refine q h.objs.size _ (Walks.range hh _ a c n) ?_ (Heap.get?_none_of_le (Nat.le_refl _)) (fun _ _ e => Heap.get?_push_of_some _ e)
  show IsRangeIter _ _ _ _ _
  rw [hn]
  simpa using Heap.get?_push_size _ rfl
theorem mulT {c n : Nat} {t u : Tok} {Q : Value → Shared → Prop} (hn : n ≤ 1000000) (q : ∀ t' k', Q (.str (tx (List.replicate n c)) t') ⟨h, g, d, k', o⟩) : wpAny (model prg w) A (binaryOp .Mult (.str (one c) t) (.int n u)) Q E ⟨h, g, d, k, o⟩ := by
  refine SB.mul (mulOk_of 1 1000000 (by simp [Str.length]) (by lia) (by lia) (by lia) (by lia)) (fun t' k' => ?_)
  have e : Txt.mul (one c) (n : Int) = tx (List.replicate n c) := by
    have := mul_one_list c (n : Int)
    rw [Int.toNat_natCast] at this
    show _ = (⟨(List.replicate n c).toArray⟩ : Str)
    rw [← this]
  rw [e]
  exact q t' k'
end
noncomputable def starF (hs : List (List Nat)) : List (List Nat) := hs.flatMap fun h => (List.range (4 - h.length)).map fun a => h ++ List.replicate a 63
noncomputable def fillF (hs : List (List Nat)) (it : Nat) : List (List Nat) := if it = 42 then starF hs else (hs.filter fun h => decide (h.length < 3)).map fun h => h ++ [it]
noncomputable def filled (items : List Nat) : List (List Nat) := items.foldl fillF [[]]
theorem starF_append (a b : List (List Nat)) : starF (a ++ b) = starF a ++ starF b := by simp only [starF, List.flatMap_append]
theorem starF_one (x : List Nat) : starF [x] = (List.range (4 - x.length)).map fun a => x ++ List.replicate a 63 := by simp only [starF, List.flatMap_cons, List.flatMap_nil, List.append_nil]
theorem starF_le (hs : List (List Nat)) : (starF hs).length ≤ 4 * hs.length := by
  induction hs with
  | nil => simp [starF]
  | cons a r ih =>
    have : starF (a :: r) = starF [a] ++ starF r := starF_append [a] r
    rw [this, starF_one]
    simp only [List.length_append, List.length_map, List.length_range, List.length_cons]
    lia
theorem fillF_le (hs : List (List Nat)) (it : Nat) : (fillF hs it).length ≤ 4 * hs.length := by
  unfold fillF
  split
  · exact starF_le hs
  · rw [List.length_map]
    have := List.length_filter_le (fun h : List Nat => decide (h.length < 3)) hs
    lia
theorem fillF_small (hs : List (List Nat)) (it : Nat) (h : ∀ x ∈ hs, x.length ≤ 3) : ∀ x ∈ fillF hs it, x.length ≤ 3 := by
  intro x hx
  unfold fillF at hx
  split at hx
  · simp only [starF, List.mem_flatMap, List.mem_map, List.mem_range] at hx
    obtain ⟨a, ha, n, hn, rfl⟩ := hx
    simp; lia
  · simp only [List.mem_map, List.mem_filter, decide_eq_true_eq] at hx
    obtain ⟨a, ⟨_, ha⟩, rfl⟩ := hx
    simp; lia
theorem sc24 : ScOk (dScope 24) := .of (by decide +kernel)
inductive FInv (ia : Addr) (items : List Nat) (i : Nat) (vals : List (Option Value)) (news : List (Addr × Obj)) : Prop
  | mk (Y : Addr) (vsH : List Value) (kh : Nat) (h1 : vals = [some (.ref ia), some (.ref Y), none]) (h2 : news = [(Y, lstO vsH.toArray kh)]) (h3 : StrsAre vsH (((items.take i).foldl fillF [[]]).map tx)) (h4 : ((items.take i).foldl fillF [[]]).length ≤ 4 ^ i) (h5 : ∀ x ∈ (items.take i).foldl fillF [[]], x.length ≤ 3) : FInv ia items i vals news
set_option maxHeartbeats 4000000 in
theorem filled_c {w : World} {ad : Nat → Addr} {mg mb : Str → Option Value} (h0 : Heap) (items : List Nat) (ia : Addr) (vs : List Value) (hi : items.length ≤ 8) (hs : StrsAre vs (items.map one)) :
    FnC w ad mg mb 24 [.ref ia] 1 (fun h => h = h0 ∧ h.IsList ia vs.toArray) (fun h v => ∃ D ws kk, v = .ref D ∧ h0.get? D = none ∧ h.get? D = some (lstO ws.toArray kk) ∧ StrsAre ws ((filled items).map tx)) := by
  rintro ⟨hd0, dp, fr, gd, un⟩ ⟨h, g, d, k, o⟩ R hh hd hu l ⟨e0, hl⟩ hR
  dsimp only at hh hd hu hR e0 hl
  subst hh
  subst e0
  have ok := sc24
  have hsl := hs.len_eq
  rw [List.length_map] at hsl
  refine enterC 24 ["items"] [some (.ref ia), none, none] "item" none l (by decide) ok (by show dp < _; lia) (by with_unfolding_all rfl) (fun _ _ _ => rfl) (fun n => by with_unfolding_all rfl) (by decide +kernel) ?_ ?_ (fun L cd h₁ k₁ ob hL F N hob => ?_)
  · funext y
    have h1 : kof (dScope 24) "items" = some .local := by decide +kernel
    simp only [List.zip_cons_cons, List.zip_nil_right, bindL, h1, if_true]
    show _ = locs ["items", "heads", "item"] _ y
    simp only [locs, ite_self]
  · have h1 : kof (dScope 24) "items" = some .local := by decide +kernel
    simp only [List.zip_cons_cons, List.zip_nil_right, bindC, h1, if_true]
  refine hideA ?_
  intro AHid
  refine wpAny_execs_cons (hideLet ?_)
  intro PHid
  refine wpAny_Assign_Name (List_ (arg (cStr fun t1 k1 => args_nil (newListS F N (fun Y h2 kp2 F2 N2 hY => ?_)))))
  refine stS 1 [some (.ref ia), some (.ref Y), none] ok F2 N2 rfl (Nat.le_of_ble_eq_true rfl) rfl (fun h3 k3 F3 N3 => ?_)
  replace N3 : News h L h3 [(L + 1, ob), (Y, lstO #[.str (tx []) t1] 0)] := News.swap N3
  have hcI : L + 1 ≠ ia := fun e => by
    have h1 : h.get? ia = none := by rw [← e]; exact N3.fresh (a := L + 1) (o := ob) List.mem_cons_self
    obtain ⟨ob', e', _⟩ := hl
    rw [h1] at e'; cases e'
  have hYc : Y ≠ L + 1 := fun e => hY (L + 1, ob) List.mem_cons_self e.symm
  refine wpAny_execs_cons (hideLet ?_)
  intro PHid
  refine forC (h₀ := h) ok (L + 1) (by decide +kernel) rfl (ldl 0 ok F3 rfl rfl ?_)
  refine iterLS rfl F3 N3 (hl.at fun o e => F3.keep _ o e) (fun I h4 W hst hLf hwr hnw hfp F4 N4 kp4 => ?_)
  refine ⟨I, _, _, _, _, _, h4, k3, _, _, ob, none, (fun i => FInv ia items i), rfl, rfl, W, hst, hLf, notMem2 (fun e => hnw (L + 1, ob) List.mem_cons_self (by show L + 1 ∈ _; rw [e]; exact List.mem_cons_self)) hcI, hwr, (fun p hp => hnw p (List.mem_cons_of_mem _ hp)), ?_, hob, F4, N4,
    ⟨Y, _, 0, rfl, rfl, .cons _ _ .nil, by simp, by simp⟩, listIter_alive, ?_, ?_⟩
  · intro p hp
    rw [List.mem_singleton.mp hp]
    exact hYc
  · rintro E' i v vals news own ob1 h1 k1 hi1 hv ⟨Y, vsH, kh, rfl, rfl, hH, hlen, hsm⟩ hnw1 hnc1 hob1 hown hofp F1 N1
    refine hideLet ?_
    intro PHid
    obtain ⟨o1, hIo⟩ := hown I (by first | exact Nat.le_of_ble_eq_true rfl | (repeat (first | exact .head _ | apply List.Mem.tail)); done | simp)
    have hix : i < items.length := by lia
    obtain ⟨tq, hq⟩ := hs.at (j := i) (y := one items[i]) (by rw [List.getElem?_map, List.getElem?_eq_getElem hix]; rfl)
    obtain rfl : v = .str (one items[i]) tq := by
      have hv' : vs[i]? = some v := hv
      rw [hq] at hv'; exact (Option.some.inj hv').symm
    have hnx : (items.take (i + 1)).foldl fillF [[]] = fillF ((items.take i).foldl fillF [[]]) items[i] := by
      rw [List.take_succ_eq_append_getElem hix, List.foldl_append]; rfl
    generalize items[i] = it at *
    generalize (items.take i).foldl fillF [[]] = hds at *
    have hls := hH.len_eq
    rw [List.length_map] at hls
    have hp4 : 4 ^ i ≤ 4 ^ 7 := Nat.pow_le_pow_right (by decide) (by lia)
    have hp47 : (4 : Nat) ^ 7 = 16384 := by decide
    have hle := fillF_le hds it
    have hsm2 := fillF_small hds it hsm
    have mC : (L + 1, ob1) ∈ own ++ (L + 1, ob1) :: [(Y, lstO vsH.toArray kh)] := List.mem_append_right _ List.mem_cons_self
    have mY : (Y, lstO vsH.toArray kh) ∈ own ++ (L + 1, ob1) :: [(Y, lstO vsH.toArray kh)] := List.mem_append_right _ (List.mem_cons_of_mem _ List.mem_cons_self)
    have fin : ∀ (D : Addr) (hE : Heap) (kE : Nat) (ys : List Value) (kk : Nat), Fr h L hE (locs (nms (dScope 24)) [some (.ref ia), some (.ref D), none]) → News h L hE ((D, lstO ys.toArray kk) :: (own ++ (L + 1, ob1) :: [(Y, lstO vsH.toArray kh)])) → (∀ p ∈ own ++ (L + 1, ob1) :: [(Y, lstO vsH.toArray kh)], p.1 ≠ D) →
        StrsAre ys ((fillF hds it).map tx) → At h L (dScope 24) g d o (ForCT own (L + 1, ob1) [I] (FInv ia items (i + 1))) ⟨hE, g, d, kE, o⟩ := by
      intro D hE kE ys kk FE NE hD hys
      refine At.mk FE (news := own ++ (L + 1, ob1) :: [(D, lstO ys.toArray kk)]) (News.sub NE (fun q hq => ?_)) ⟨_, rfl, ?_, ?_, D, ys, kk, rfl, rfl, by rw [hnx]; exact hys, by rw [hnx, Nat.pow_succ]; lia, by rw [hnx]; exact hsm2⟩
      · rcases List.mem_append.mp hq with hq | hq
        · exact List.mem_cons_of_mem _ (List.mem_append_left _ hq)
        · rcases List.mem_cons.mp hq with rfl | hq
          · exact List.mem_cons_of_mem _ mC
          · rw [List.mem_singleton.mp hq]; exact List.mem_cons_self
      · intro q hq
        rw [List.mem_singleton.mp hq]
        exact notMem1 (fun e => hD _ (List.mem_append_left _ hIo) e.symm)
      · intro q hq
        rw [List.mem_singleton.mp hq]
        exact fun e => hD _ mC e.symm
    refine wpAny_execs_cons (hideLet ?_)
    intro PHid
    refine wpAny_If (wpAny_isTrue_Compare1 (ldCell ok (by decide +kernel) rfl ⟨ob1, N1.get mC, hob1⟩ (cStr fun t12 k13 => eqT (x := [it]) (y := [42]) (wpAny_truthy_bool ?_))))
    by_cases h42 : it = 42
    · rw [show decide ([it] = [42]) = true by simp [h42]]
      have hfe : fillF hds it = starF hds := by unfold fillF; rw [if_pos h42]
      refine ite_tt (wpAny_execs_cons (hideLet ?_))
      intro PHid
      refine assignCompS (cl' := []) (h₀ := h) (vals := [some (.ref ia), some (.ref Y), none]) 1 (fun D => [some (.ref ia), some (.ref D), none]) ok rfl (by first | exact Nat.le_of_ble_eq_true rfl | (repeat (first | exact .head _ | apply List.Mem.tail)); done | simp) (fun D => rfl) (by rfl) (closureFor_none (by decide)) (by decide) rfl (by decide) (ldl 1 ok F1 rfl rfl ?_)
      refine iterLS (vs := vsH) rfl F1 N1 ⟨_, N1.get mY, rfl, _, rfl⟩ (fun I2 h2 W2 hst2 hLf2 hwr2 hnw2 hfp2 F2 N2 kp2 => ?_)
      refine ⟨h2, _, _, rfl, compAt2 (fun q ys => ys.length ≤ 4 * q ∧ StrsAre ys ((starF (hds.take q)).map tx)) W2 (by decide) (by decide) (by decide) rfl hst2 hfp2 hLf2 hwr2 hnw2 F2 N2 ⟨Nat.le_refl _, by simpa [starF] using StrsAre.nil⟩ (fun _ _ => rfl) ?_, F2.ns.lt, ?_⟩
      · rintro E2 q u C D h3 k3 mc ys hq hu ⟨hy1, hy2⟩ hC hD hnC hmc hDs F3 N3
        have hqx : q < hds.length := by lia
        obtain ⟨tq, hqv⟩ := hH.at (j := q) (y := tx hds[q]) (by rw [List.getElem?_map, List.getElem?_eq_getElem hqx]; rfl)
        obtain rfl : u = .str (tx hds[q]) tq := by
          have hu' : vsH[q]? = some u := hu
          rw [hqv] at hu'; exact (Option.some.inj hu').symm
        have hxl := hsm _ (List.getElem_mem hqx)
        have hgs : starF (hds.take (q + 1)) = starF (hds.take q) ++ (List.range (4 - hds[q].length)).map fun a => hds[q] ++ List.replicate a 63 := by
          rw [List.take_succ_eq_append_getElem hqx, starF_append, starF_one]
        generalize hds[q] = hd at *
        have hdl : (tx hd).length = hd.length := by simp [Str.length]
        refine callT (fun Q' q => ldbC rfl (by decide) l F3 (by decide) boot_range q) (arg (wpAny_BinOp (cInt fun t5 k5 => ?_)))
        refine callB (fun Q' q => ldbC rfl (by decide) l F3 (by decide) boot_len q) (arg (ldC rfl (by decide) hnC hmc (args_nil ?_)))
        refine lenSS (by lia) (fun t6 k6 => subI fun t7 k7 => args_nil ?_)
        rw [hdl, show ((4 : Int) - (hd.length : Int)) = ((4 - hd.length : Nat) : Int) by lia]
        refine rangeS1 F3 N3 (fun r h4 k8 _ _ _ hr F4 N4 kp4 => ?_)
        refine iterRangeI (n := 4 - hd.length) rfl hr (small_one (by lia) (by lia) (by lia) (by lia)) (by rw [rangeSize_nat]; simp) (fun J h5 W5 st5 hJ kp5 => ?_)
        have hJ3 : h3.get? J = none := by
          cases e : h3.get? J with
          | none => rfl
          | some ob => have := kp4 _ _ e; rw [hJ] at this; cases this
        refine ⟨J, _, _, 4 - hd.length, _, _, fun j zs => zs.length ≤ 4 * q + j ∧ StrsAre zs ((starF (hds.take q) ++ (List.range j).map fun a => hd ++ List.replicate a 63).map tx), h5, k8, rfl, rfl, fun b o e => kp5 _ _ (kp4 _ _ e), W5, st5, fun b hb => .inr (by rw [List.mem_singleton.mp hb]; exact hJ3), fun b hb => by rw [List.mem_singleton.mp hb]; exact hJ3,
          ⟨by lia, by simpa using hy2⟩, ?_, ?_, ?_⟩
        · rintro ys' ⟨z1, z2⟩
          refine ⟨by lia, ?_⟩
          rw [hgs]
          exact z2
        · rintro j ys' ⟨z1, _⟩ hj
          rw [sizeLine]; lia
        · rintro E5 j u5 h6 k6 mc5 zs hj ⟨tu, rfl⟩ ⟨z1, z2⟩ hn5 hx5 hy5 F5 N5
          have e5 : ((0 : Int) + (j : Int) * 1) = (j : Int) := by lia
          rw [e5] at hy5
          refine wpAny_BinOp (ldC rfl (by decide) hn5 hx5 (wpAny_BinOp (cStr fun t9 k9 => ldC rfl (by decide) hn5 hy5 ?_)))
          refine mulT (c := 63) (by lia) (fun t10 k10 => ?_)
          refine addT (x := hd) (y := List.replicate j 63) (by simp; lia) (fun t11 k11 => ⟨Keeps.mk' fun _ _ e => e, by simp; lia, ?_⟩)
          have e : (starF (hds.take q) ++ (List.range (j + 1)).map fun a => hd ++ List.replicate a 63).map tx = (starF (hds.take q) ++ (List.range j).map fun a => hd ++ List.replicate a 63).map tx ++ [tx (hd ++ List.replicate j 63)] := by
            rw [List.range_succ]
            simp only [List.map_append, List.map_cons, List.map_nil, List.append_assoc]
          rw [e]
          exact z2.append' (.cons _ _ .nil)
      · rintro D h3 k3 news F3 N3 ⟨ys, kk, ⟨hy1, hy2⟩, rfl, hDn⟩
        rw [hls, List.take_length, ← hfe] at hy2
        refine wpAny_execs_nil (wpAny_execs_nil ?_)
        exact fin D h3 k3 ys kk F3 N3 hDn hy2
    · rw [show decide ([it] = [42]) = false by simp [h42]]
      have hfe : fillF hds it = (hds.filter fun h => decide (h.length < 3)).map fun h => h ++ [it] := by unfold fillF; rw [if_neg h42]
      refine ite_ff (wpAny_execs_cons (hideLet ?_))
      intro PHid
      refine assignCompS (cl' := [("item", L + 1)]) (h₀ := h) (vals := [some (.ref ia), some (.ref Y), none]) 1 (fun D => [some (.ref ia), some (.ref D), none]) ok rfl (by first | exact Nat.le_of_ble_eq_true rfl | (repeat (first | exact .head _ | apply List.Mem.tail)); done | simp) (fun D => rfl) (by rfl) (by rfl) (by decide) rfl (by decide) (ldl 1 ok F1 rfl rfl ?_)
      refine iterLS (vs := vsH) rfl F1 N1 ⟨_, N1.get mY, rfl, _, rfl⟩ (fun I2 h2 W2 hst2 hLf2 hwr2 hnw2 hfp2 F2 N2 kp2 => ?_)
      refine ⟨h2, _, _, rfl, compAtW (fun q ys => ys.length ≤ q ∧ StrsAre ys ((((hds.take q).filter fun h => decide (h.length < 3)).map fun h => h ++ [it]).map tx)) W2 (by decide) rfl hst2 hfp2 hLf2 hwr2 hnw2 F2 N2 ⟨Nat.le_refl _, by simpa using StrsAre.nil⟩ (fun q ys h1 h2 => by rw [sizeLine]; lia) ?_, F2.ns.lt, ?_⟩
      · rintro E2 q u C h3 k3 mc ys hq hu ⟨hy1, hy2⟩ hC hnC hmc F3 N3
        have hqx : q < hds.length := by lia
        obtain ⟨tq, hqv⟩ := hH.at (j := q) (y := tx hds[q]) (by rw [List.getElem?_map, List.getElem?_eq_getElem hqx]; rfl)
        obtain rfl : u = .str (tx hds[q]) tq := by
          have hu' : vsH[q]? = some u := hu
          rw [hqv] at hu'; exact (Option.some.inj hu').symm
        have hxl := hsm _ (List.getElem_mem hqx)
        have htake : (((hds.take (q + 1)).filter fun h => decide (h.length < 3)).map fun h => h ++ [it]).map tx = (((hds.take q).filter fun h => decide (h.length < 3)).map fun h => h ++ [it]).map tx ++ (if hds[q].length < 3 then [tx (hds[q] ++ [it])] else []) := by
          rw [List.take_succ_eq_append_getElem hqx, List.filter_append, List.map_append, List.map_append]
          congr 1
          simp only [List.filter_cons, List.filter_nil]
          by_cases h3 : hds[q].length < 3 <;> simp [h3]
        rw [htake]
        generalize hds[q] = hd at *
        have hdl : (tx hd).length = hd.length := by simp [Str.length]
        show wpAny _ _ _ _ _ _
        refine wpAny_tests_one (wpAny_isTrue_Compare1 ?_)
        refine callB (fun Q' q => ldbC rfl (by decide) l F3 (by decide) boot_len q) (arg (ldC rfl (by decide) hnC hmc (args_nil ?_)))
        refine lenSS (by lia) (fun t6 k6 => cInt fun t7 k7 => lt_int (wpAny_truthy_bool ⟨Keeps.mk' fun _ _ e => e, ?_⟩))
        rw [hdl]
        by_cases hlt : hd.length < 3
        · rw [decide_eq_true (by lia), if_pos hlt]
          refine ite_tt (wpAny_BinOp (ldC rfl (by decide) hnC hmc (ldCc rfl (by decide) ok.fk (by decide +kernel) rfl ⟨ob1, N3.get mC, hob1⟩ ?_)))
          refine addT (x := hd) (y := [it]) (by simp; lia) (fun t11 k11 => ⟨Keeps.mk' fun _ _ e => e, by simp; lia, ?_⟩)
          exact hy2.append' (.cons _ _ .nil)
        · rw [decide_eq_false (by lia), if_neg hlt]
          refine ite_ff ⟨by lia, ?_⟩
          simpa using hy2
      · rintro D h3 k3 news F3 N3 ⟨ys, kk, ⟨hy1, hy2⟩, rfl, hDn⟩
        rw [hls, List.take_length, ← hfe] at hy2
        refine wpAny_execs_nil (wpAny_execs_nil ?_)
        exact fin D h3 k3 ys kk F3 N3 hDn hy2
  · rintro h9 k9 vals news ob9 F9 N9 hnc ⟨Y, vsH, kh, rfl, rfl, hH, _, _⟩
    rw [hsl, List.take_length] at hH
    refine wpAny_execs_cons (hideLet ?_)
    intro PHid
    refine wpAny_Return_some (ldl 1 ok F9 rfl rfl ?_)
    exact hR _ _ _ F9.keep ⟨Y, vsH, kh, rfl, N9.fresh (List.mem_cons_of_mem _ List.mem_cons_self), N9.get (List.mem_cons_of_mem _ List.mem_cons_self), hH⟩
end Mine
namespace Mine
section
variable {w : World} {A : Around} {E : Value → Shared → Prop} {h : Heap} {g : Array GenState} {d : Drawn} {k : Nat} {o : OsState} {name : Str} {sc : Scope} {L a : Addr} {cd : Value} {cl : List (Str × Addr)} {h₀ : Heap} {vals : List (Option Value)}
  {m : Str → Option Value} {news : List (Addr × Obj)} {env : Env}
inductive ForS3 (w : World) (A : Around) (g : Array GenState) (d : Drawn) (o : OsState) (name : Str) (sc : Scope) (L a : Addr) (cd : Value) (cl : List (Str × Addr)) (h₀ : Heap) (body : List Stmt) (ix : Nat) (Q : Flow → Shared → Prop) (it : Value) (s₂ : Shared) : Prop
  | mk (I : Addr) (fp wr : List Addr) (n : Nat) (P : Nat → Value → Prop) (St : Nat → Heap → Prop) (h₂ : Heap) (k₂ : Nat) (vals : List (Option Value)) (news : List (Addr × Obj)) (J : Nat → List (Option Value) → List (Addr × Obj) → Prop) (h1 : s₂ = ⟨h₂, g, d, k₂, o⟩) (h2 : it = .ref I) (h3 : Walks prg w A I fp wr n P St) (h4 : St 0 h₂) (h5 : L ∉ fp) (h6 : (∀ b ∈ wr, h₀.get? b = none)) (h7 : (∀ p ∈ news, p.1 ∉ wr)) (h8 : Fr h₀ L h₂ (locs (nms sc) vals)) (h9 : News h₀ L h₂ news) (h10 : J 0 vals news) (h11 : (∀ i vals news, J i vals news → ix < vals.length)) (h12 : (∀ E i v vals news own h k, i < n → P i v → J i vals news → (∀ p ∈ news, p.1 ∉ wr) → (∀ p ∈ own, p.1 ∈ fp) → Fr h₀ L h (locs (nms sc) (vals.set ix (some v))) → News h₀ L h (own ++ news) → wpAny (model prg w) A (execs body (envX name sc L a cd cl)) (fun f s₃ => match f with | .next | .cont => At h₀ L sc g d o (ForT own wr (J (i + 1))) s₃ | .brk => Q .next s₃ | .ret v => Q (.ret v) s₃) E ⟨h, g, d, k, o⟩)) (h13 : ∀ h k vals news, Fr h₀ L h (locs (nms sc) vals) → News h₀ L h news → J n vals news → Q .next ⟨h, g, d, k, o⟩) : ForS3 w A g d o name sc L a cd cl h₀ body ix Q it s₂
/-- as forS2; nothing is asked of the iterator's own objects -/
theorem forS3 {x : Str} {px pos : Pos} {iter : Expr} {body : List Stmt} {Q : Flow → Shared → Prop} (ok : ScOk sc) (_F : Fr h₀ L h (locs (nms sc) vals)) (ix : Nat) (hx : sc.names[ix]? = some (x, .local))
    (q : wpAny (model prg w) A (eval iter (envX name sc L a cd cl)) (fun xv s₁ => wpAny (model prg w) A (pyIter xv) (ForS3 w A g d o name sc L a cd cl h₀ body ix Q) E s₁) E ⟨h, g, d, k, o⟩)
    (hs : ∀ x, foldedSetIterable iter (envX name sc L a cd cl) x = pure x := by intro _; rfl) :
    wpAny (model prg w) A (exec (.For (.Name x px) iter body [] pos) (envX name sc L a cd cl)) Q E ⟨h, g, d, k, o⟩ := by
  refine wpAny_For (wpAny_mono q (fun xv s₁ h₁ => wpAny_mono h₁ (fun it s₂ h₂ => ?_) fun _ _ e => e) fun _ _ e => e) hs
  obtain ⟨I, fp, wr, n, P, St, h₂, k₂, vals, news, J, rfl, rfl, W, hst, hLf, hwr, hnw, F, N, j, hlen, turn, done⟩ := h₂
  have hp : ((envX name sc L a cd cl).scope.kind == .class || ((envX name sc L a cd cl).scope.kind == .module && (envX name sc L a cd cl).locals != (envX name sc L a cd cl).globals)) = false := by
    show (sc.kind == .class || (sc.kind == .module && _)) = false
    rw [ok.fk]; rfl
  refine codeAny_forLoop_frV (env := envX name sc L a cd cl) (h₀ := h₀) W (kind_idx ok hx) hp hLf hwr hnw hst F N (fun i m news => ∃ vals, m = locs (nms sc) vals ∧ J i vals news) ⟨vals, rfl, j⟩ ?_ ?_
  · rintro i v m₁ news₁ s₁ own ⟨h₁, k₁, rfl⟩ hi hP ⟨vals, rfl, hJ⟩ hnw₁ hfo hoo hown hst₁ F₁ N₁
    rw [locs_set ok.nd (nms_idx hx) (hlen _ _ _ hJ)] at F₁
    refine wpAny_mono (turn _ i v vals news₁ own h₁ k₁ hi hP hJ hnw₁ hfo F₁ N₁) (fun f s₃ hf => ?_) fun _ _ e => e
    have fin : At h₀ L sc g d o (ForT own wr (J (i + 1))) s₃ →
        LoopStepU h₀ L wr own (fun m news => ∃ vals, m = locs (nms sc) vals ∧ J (i + 1) vals news) ⟨h₁, g, d, k₁, o⟩ .next s₃ := by
      rintro ⟨h', k', vals', news', rfl, F', N', new, rfl, hn, hj⟩
      exact ⟨rfl, h', k', _, new, rfl, F', N', hn, vals', rfl, hj⟩
    cases f with
    | ret v => exact hf
    | brk => exact hf
    | next => exact fin hf
    | cont => exact fin hf
  · rintro h' k' m' news' F' N' _ ⟨vals', rfl, hJ⟩
    exact done h' k' vals' news' F' N' hJ
theorem iaddT {x y : List Nat} {t u : Tok} {Q : Value → Shared → Prop} (hb : x.length + y.length ≤ 1000000) (q : ∀ t' k', Q (.str (tx (x ++ y)) t') ⟨h, g, d, k', o⟩) :
    wpAny (model prg w) A (inplaceOp .Add (.str (tx x) t) (.str (tx y) u)) Q E ⟨h, g, d, k, o⟩ := by
  refine PyProof.Rows.iadd_str (s := ⟨h, g, d, k, o⟩) (fun t' k' => ?_) (by rw [sizeLine]; simp [Str.length]; lia)
  have e : tx x ++ tx y = tx (x ++ y) := by
    show (⟨x.toArray ++ y.toArray⟩ : Str) = tx (x ++ y)
    simp
  rw [e]
  exact q t' k'
theorem countIn_strs (x : Str) (ys : List Str) : PySem.Spec.countIn (.str x) (ys.map PyData.str) = ((ys.count x : Nat) : Int) := by
  induction ys with
  | nil => rfl
  | cons y r ih =>
    rw [List.map_cons, PySem.Spec.countIn, ih, List.count_cons]
    show (if (y == x) = true then (1 : Int) else 0) + _ = _
    cases y == x <;> simp <;> lia
theorem countS {l : Addr} {vs : List Value} {ys : List Str} {x : Str} {t : Tok} {Q : Value → Shared → Prop} (hl : h.IsList l vs.toArray) (hs : StrsAre vs ys) (q : ∀ t k', Q (.int (ys.count x : Nat) t) ⟨h, g, d, k', o⟩) :
    wpAny (model prg w) A (call (.builtin "list.count") [.ref l, .str x t]) Q E ⟨h, g, d, k, o⟩ := by
  refine count_list_strs (s := ⟨h, g, d, k, o⟩) hl hs ?_
  rw [countIn_strs]
  exact q _ _
theorem methL {M : Model} {nm : Str} {id : String} {D : Addr} {items : Array Value} {kk : Nat} {pl : Sem Bool} {Q : Value × List Value → Shared → Prop} (hD : h.get? D = some (lstO items kk)) (slot : Slot "list" nm id) (hty : typeOf (.builtin id) = pure (.type "method_descriptor"))
    (q : Q (.builtin id, [.ref D]) ⟨h, g, d, k, o⟩) : wpAny M A (getMethod (.ref D) nm pl) Q E ⟨h, g, d, k, o⟩ :=
  getMethod_builtin (s := ⟨h, g, d, k, o⟩) ⟨_, hD, rfl⟩ PySem.F.plainAttrs_list slot hty (fun a e => by cases e; exact ⟨_, hD, rfl⟩) q
theorem pick_last {vs : List Value} : slicePick vs.toArray (some (-1)) none none = (vs.drop (vs.length - 1)).toArray := by
  rw [slicePick_plain]
  have e2 := clipAt_neg vs.length 1 (by lia)
  simp only [List.size_toArray, Option.elim_some, Option.elim_none]
  rw [show clipAt vs.length (-1) = vs.length - 1 from e2]
  congr 1
  rw [List.take_of_length_le]
  simp
/-- texts' lists under != -/
theorem neStrs {l b : Addr} {vs ws : List Value} {xs ys : List Str} {Q : Value → Shared → Prop} (hl : h.IsList l vs.toArray) (hb : h.IsList b ws.toArray) (hx : StrsAre vs xs) (hy : StrsAre ws ys) (hu : A.units < cLine) (q : Q (.bool (!decide (xs = ys))) ⟨h, g, d, k, o⟩) :
    wpAny (model prg w) A (compareOp .NotEq (.ref l) (.ref b)) Q E ⟨h, g, d, k, o⟩ := by
  have hxl := hx.len_eq
  have hyl := hy.len_eq
  by_cases hlen : vs.length = ws.length
  · have e : (List.range vs.length).all (fun j => xs[j]?.getD Str.empty == ys[j]?.getD Str.empty) = decide (xs = ys) := by
      rw [Bool.eq_iff_iff, decide_eq_true_eq, List.all_eq_true]
      constructor
      · intro q
        apply List.ext_getElem (by lia)
        intro i h1 h2
        have := q i (by simp; lia)
        rw [List.getElem?_eq_getElem h1, List.getElem?_eq_getElem h2] at this
        simpa using this
      · rintro rfl i hi
        simp
    have := PySem.SeqAt.RcNeAt.lists (A := A) (s := ⟨h, g, d, k, o⟩) (items := vs.toArray) (items2 := ws.toArray) (e := fun j => xs[j]?.getD Str.empty == ys[j]?.getD Str.empty) hl hb (by simpa using hlen) hu (fun j h1 h2 => by
      rw [List.size_toArray] at h1 h2
      obtain ⟨t1, e1⟩ := hx.at (j := j) (List.getElem?_eq_getElem (by lia))
      obtain ⟨t2, e2⟩ := hy.at (j := j) (List.getElem?_eq_getElem (by lia))
      rw [List.getElem?_eq_getElem h1] at e1
      rw [List.getElem?_eq_getElem h2] at e2
      rw [List.getElem_toArray, List.getElem_toArray, Option.some.inj e1, Option.some.inj e2, List.getElem?_eq_getElem (by lia), List.getElem?_eq_getElem (by lia)]
      exact PySem.SeqAt.EqAt.str_str _ _ _ _)
    refine this prg w E Q ?_
    rw [List.size_toArray, e]
    exact q
  · have := PySem.SeqAt.RcNeAt.lists_lengths (A := A) (s := ⟨h, g, d, k, o⟩) hl hb (by simpa using hlen) hu
    refine this prg w E Q ?_
    have e : decide (xs = ys) = false := decide_eq_false (fun e => hlen (by rw [hxl, hyl, e]))
    rw [e] at q
    exact q
end
theorem count_ones (c : Nat) (l : List Nat) : (l.map one).count (one c) = l.count c := by
  induction l with
  | nil => rfl
  | cons a r ih =>
    rw [List.map_cons, List.count_cons, List.count_cons, ih, one_beq]
    by_cases h : a = c <;> simp [h]
noncomputable def marksOf (s0 s1 c : Nat) : List Nat := match c % 6 with | 0 | 1 => [42] | 2 => [63] | 3 => [s0] | 4 => [s1] | _ => [42, s0]
noncomputable def markStep (st : List Nat × List Nat) (mk : Nat) : List Nat × List Nat :=
  if mk = 42 then (if st.1.getLast? = some 42 then st.1 else st.1 ++ [42], st.2 ++ [42]) else if st.1.length < 3 + st.1.count 42 then (st.1 ++ [mk], st.2 ++ [mk]) else st
noncomputable def drawn (s0 s1 : Nat) (cells : List Nat) : List Nat × List Nat := cells.foldl (fun st c => (marksOf s0 s1 c).foldl markStep st) ([], [])
theorem markStep_le (st : List Nat × List Nat) (mk : Nat) : (markStep st mk).1.length ≤ st.1.length + 1 ∧ (markStep st mk).2.length ≤ st.2.length + 1 := by
  unfold markStep
  repeat' split
  all_goals simp
theorem markFold_le : ∀ (ms : List Nat) (st : List Nat × List Nat), (ms.foldl markStep st).1.length ≤ st.1.length + ms.length ∧ (ms.foldl markStep st).2.length ≤ st.2.length + ms.length
  | [], st => by simp
  | mk :: ms, st => by
    have h1 := markStep_le st mk
    have h2 := markFold_le ms (markStep st mk)
    simp only [List.foldl_cons, List.length_cons]
    lia
theorem marksOf_le (s0 s1 c : Nat) : (marksOf s0 s1 c).length ≤ 2 := by unfold marksOf; split <;> simp
theorem seqIndex_nat' {i n : Nat} (h : i < n) : seqIndex? (i : Int) n = some i := by
  have := PySem.seqIndex_of (k := (i : Int)) (n := n) (by lia) (by lia)
  simpa using this
theorem sc23 : ScOk (dScope 23) := .of (by decide +kernel)
inductive DInv1 (ca D : Addr) (s0 s1 : Nat) (t : Tok) (cells : List Nat) (i : Nat) (vals : List (Option Value)) (news : List (Addr × Obj)) : Prop
  | mk (vsI : List Value) (kI : Nat) (tp : Tok) (c1 m1 : Option Value) (h1 : vals = [some (.ref ca), some (.str (tx [s0, s1]) t), some (.ref D), some (.str (tx (drawn s0 s1 (cells.take i)).2) tp), c1, m1, none]) (h2 : news = [(D, lstO vsI.toArray kI)]) (h3 : StrsAre vsI ((drawn s0 s1 (cells.take i)).1.map one)) (h4 : (drawn s0 s1 (cells.take i)).1.length ≤ 2 * i) (h5 : (drawn s0 s1 (cells.take i)).2.length ≤ 2 * i) : DInv1 ca D s0 s1 t cells i vals news
inductive DInv2 (ca D : Addr) (s0 s1 : Nat) (t tq : Tok) (c : Nat) (ms : List Nat) (st : List Nat × List Nat) (own : List (Addr × Obj)) (j : Nat) (vals : List (Option Value)) (news : List (Addr × Obj)) : Prop
  | mk (vsI : List Value) (kI : Nat) (tp : Tok) (m1 : Option Value) (h1 : vals = [some (.ref ca), some (.str (tx [s0, s1]) t), some (.ref D), some (.str (tx ((ms.take j).foldl markStep st).2) tp), some (.int (c : Nat) tq), m1, none]) (h2 : news = own ++ [(D, lstO vsI.toArray kI)]) (h3 : StrsAre vsI (((ms.take j).foldl markStep st).1.map one)) (h4 : ((ms.take j).foldl markStep st).1.length ≤ st.1.length + j) (h5 : ((ms.take j).foldl markStep st).2.length ≤ st.2.length + j) : DInv2 ca D s0 s1 t tq c ms st own j vals news
set_option maxHeartbeats 4000000 in
theorem drawn_c {w : World} {ad : Nat → Addr} {mg mb : Str → Option Value} (h0 : Heap) (cells : List Nat) (ca : Addr) (vs : List Value) (s0 s1 : Nat) (t : Tok) (hc : cells.length ≤ 6) (hs : IntsAre vs (cells.map Int.ofNat)) :
    FnC w ad mg mb 23 [.ref ca, .str (tx [s0, s1]) t] 1 (fun h => h = h0 ∧ h.IsList ca vs.toArray) (fun h v => ∃ T D ws kk t', v = .ref T ∧ h0.get? T = none ∧ h0.get? D = none ∧ T ≠ D ∧ h.get? T = some { cls := .type "tuple", data := .seq #[.ref D, .str (tx (drawn s0 s1 cells).2) t'] } ∧
      h.get? D = some (lstO ws.toArray kk) ∧ StrsAre ws ((drawn s0 s1 cells).1.map one)) := by
  rintro ⟨hd0, dp, fr, gd, un⟩ ⟨h, g, d, k, o⟩ R hh hd hu l ⟨e0, hl⟩ hR
  dsimp only at hh hd hu hR e0 hl
  subst hh
  subst e0
  have ok := sc23
  have hsl := hs.length
  rw [List.length_map] at hsl
  refine enterS 23 ["cells", "signs"] _ l (by decide) ok (by show dp < _; lia) (by with_unfolding_all rfl) (by with_unfolding_all rfl) rfl (fun _ _ _ => rfl) (by decide +kernel) (by decide +kernel) (fun L cd h₁ k₁ hL F N => ?_)
  replace F : Fr h L h₁ (locs (nms (dScope 23)) [some (.ref ca), some (.str (tx [s0, s1]) t), none, none, none, none, none]) := F
  refine hideA ?_
  intro AHid
  refine wpAny_execs_cons (hideLet ?_)
  intro PHid
  refine Assign_Tuple_swapped (Tuple_ ?_) (by rfl) (by rfl)
  refine arg (List_ (args_nil (newListS F N (fun D h2 kp2 F2 N2 hD => ?_))))
  refine arg (cStr fun t2 k2 => args_nil ?_)
  refine newTupS F2 N2 (fun T h4 kp4 F4 N4 hT => ?_)
  refine unpS rfl F4 N4 (N4.get List.mem_cons_self) rfl (fun h5 kp5 F5 N5 => ?_)
  replace N5 := newsTail N5
  refine assignInOrder_cons (bindName_ (stS 3 [some (.ref ca), some (.str (tx [s0, s1]) t), none, some (.str (tx []) t2), none, none, none] ok F5 N5 rfl (Nat.le_of_ble_eq_true rfl) rfl (fun h6 k6 F6 N6 => ?_)))
  refine assignInOrder_cons (bindName_ (stS 2 [some (.ref ca), some (.str (tx [s0, s1]) t), some (.ref D), some (.str (tx []) t2), none, none, none] ok F6 N6 rfl (Nat.le_of_ble_eq_true rfl) rfl (fun h7 k7 F7 N7 => assignInOrder_nil ?_)))
  have hDca : ca ≠ D := fun e => by
    have h1 : h.get? ca = none := by rw [e]; exact N7.fresh (a := D) List.mem_cons_self
    obtain ⟨ob', e', _⟩ := hl
    rw [h1] at e'; cases e'
  refine wpAny_execs_cons (hideLet ?_)
  intro PHid
  refine forS3 ok F7 4 rfl (ldl 0 ok F7 rfl rfl ?_)
  refine iterLS rfl F7 N7 (hl.at fun o e => F7.keep _ o e) (fun I h8 W hst hLf hwr hnw hfp F8 N8 kp8 => ?_)
  refine ⟨I, _, _, _, _, _, h8, k7, _, _, (fun i => DInv1 ca D s0 s1 t cells i), rfl, rfl, W, hst, hLf, hwr, hnw, F8, N8,
    ⟨[], 0, t2, none, none, rfl, rfl, .nil, by simp [drawn], by simp [drawn]⟩, ?_, ?_, ?_⟩
  · rintro i vals news ⟨vsI, kI, tp, c1, m1, rfl, _⟩
    simp
  · rintro E' i v vals news own h1 k1 hi hv ⟨vsI, kI, tp, c1, m1, rfl, rfl, hI, hl1, hl2⟩ hnw1 hofp F1 N1
    refine hideLet ?_
    intro PHid
    have hix : i < cells.length := by lia
    obtain ⟨tq, hq⟩ := hs.get i (cells[i] : Nat) (by rw [List.getElem?_map, List.getElem?_eq_getElem hix]; rfl)
    obtain rfl : v = .int (cells[i] : Nat) tq := by
      have hv' : vs[i]? = some v := hv
      rw [hq] at hv'; exact (Option.some.inj hv').symm
    have hnx : drawn s0 s1 (cells.take (i + 1)) = (marksOf s0 s1 cells[i]).foldl markStep (drawn s0 s1 (cells.take i)) := by
      unfold drawn
      rw [List.take_succ_eq_append_getElem hix, List.foldl_append]; rfl
    have hDI : D ∉ [I] := hnw1 (D, lstO vsI.toArray kI) List.mem_cons_self
    have hownD : ∀ p ∈ own, p.1 ≠ D := fun p hp e => by
      have := hofp p hp
      rw [e] at this
      rcases List.mem_cons.mp this with e2 | this
      · exact hnw1 _ List.mem_cons_self (by show D ∈ _; rw [e2]; exact List.mem_cons_self)
      · exact hDca (List.mem_singleton.mp this).symm
    generalize cells[i] = c at *
    generalize drawn s0 s1 (cells.take i) = st at *
    replace F1 : Fr h L h1 (locs (nms (dScope 23)) [some (.ref ca), some (.str (tx [s0, s1]) t), some (.ref D), some (.str (tx st.2) tp), some (.int (c : Nat) tq), m1, none]) := F1
    have hmsl := marksOf_le s0 s1 c
    refine wpAny_execs_cons (hideLet ?_)
    intro PHid
    refine forS3 ok F1 5 rfl (Subscript_ (Tuple_ ?_))
    refine arg (cStr fun t10 k10 => arg (cStr fun t11 k11 => arg (cStr fun t12 k12 => ?_)))
    refine arg (Subscript_ (ldl 1 ok F1 rfl rfl (cInt fun t13 k13 => itemT (x := tx [s0, s1]) (i := 0) (c := s0) rfl (by lia) (fun t14 k14 => ?_))))
    refine arg (Subscript_ (ldl 1 ok F1 rfl rfl (cInt fun t15 k15 => itemT (x := tx [s0, s1]) (i := 1) (c := s1) rfl (by lia) (fun t16 k16 => ?_))))
    refine arg (wpAny_BinOp (cStr fun t17 k17 => Subscript_ (ldl 1 ok F1 rfl rfl (cInt fun t18 k18 => itemT (x := tx [s0, s1]) (i := 0) (c := s0) rfl (by lia) (fun t19 k19 => ?_)))))
    refine addT (x := [42]) (y := [s0]) (by first | exact Nat.le_of_ble_eq_true rfl | (repeat (first | exact .head _ | apply List.Mem.tail)); done | simp) (fun t20 k20 => args_nil ?_)
    refine newTupS F1 N1 (fun T h2 kp2 F2 N2 hT => ?_)
    refine wpAny_BinOp (ldl 4 ok F2 rfl rfl (cInt fun t21 k21 => modN (y := 6) (by decide) (fun t22 k22 => ?_)))
    have hc6 : c % 6 < 6 := Nat.mod_lt _ (by decide)
    obtain ⟨tm, hm⟩ : ∃ tm, [Value.str (Str.ofString "*") t10, .str (Str.ofString "*") t11, .str (Str.ofString "?") t12, .str (one s0) t14, .str (one s1) t16, .str (tx ([42] ++ [s0])) t20][c % 6]? = some (.str (tx (marksOf s0 s1 c)) tm) := by
      unfold marksOf
      have : c % 6 = 0 ∨ c % 6 = 1 ∨ c % 6 = 2 ∨ c % 6 = 3 ∨ c % 6 = 4 ∨ c % 6 = 5 := by lia
      rcases this with e | e | e | e | e | e <;> rw [e] <;> exact ⟨_, rfl⟩
    refine item_tupleT (j := c % 6) (l := [Value.str (Str.ofString "*") t10, .str (Str.ofString "*") t11, .str (Str.ofString "?") t12, .str (one s0) t14, .str (one s1) t16, .str (tx ([42] ++ [s0])) t20]) ⟨_, N2.get List.mem_cons_self, rfl, _, rfl⟩ (by lia) (by lia) (seqIndex_nat' hc6) hm ?_ (by with_unfolding_all rfl)
    replace N2 := newsTail N2
    generalize hms : marksOf s0 s1 c = ms at *
    refine iterTextI rfl (fun J St h3 W3 st3 hJ kp3 => ?_)
    have hsz : (tx ms).cps.size = ms.length := by simp
    rw [hsz] at W3
    have F3 := Fr.kp F2 kp3
    have N3 := News.kp N2 kp3
    have hJL : L ≠ J := by
      rintro rfl
      obtain ⟨ob, es, ep, e, _⟩ := F2.ns
      rw [hJ] at e; cases e
    have hJh : h.get? J = none := by
      cases q : h.get? J with
      | none => rfl
      | some ob => have := F2.keep _ _ q; rw [hJ] at this; cases this
    have hJn : ∀ p ∈ own ++ [(D, lstO vsI.toArray kI)], p.1 ∉ [J] := fun p hp => notMem1 (fun e => by
      have := (N2 p hp).1
      rw [e, hJ] at this; cases this)
    refine ⟨J, _, _, ms.length, _, _, h3, _, _, _, (fun j => DInv2 ca D s0 s1 t tq c ms st own j), rfl, rfl, W3, st3, notMem1 hJL, (fun b hb => by rw [List.mem_singleton.mp hb]; exact hJh), hJn, F3, N3,
      ⟨vsI, kI, tp, m1, rfl, rfl, hI, by simp, by simp⟩, ?_, ?_, ?_⟩
    · rintro j vals news ⟨vsI, kI, tp, m1, rfl, _⟩
      simp
    · rintro E2 j v2 vals news own2 h4 k23 hj ⟨mk, um, hmk, rfl⟩ ⟨vsJ, kJ, tp2, m2, rfl, rfl, hJs, hj1, hj2⟩ hnw3 hofp2 F4 N4
      refine hideLet ?_
      intro PHid
      have hmk' : ms[j]? = some mk := by simpa using hmk
      obtain ⟨hjl, hme⟩ := List.getElem?_eq_some_iff.mp hmk'
      have hnx2 : (ms.take (j + 1)).foldl markStep st = markStep ((ms.take j).foldl markStep st) mk := by
        rw [List.take_succ_eq_append_getElem hjl, List.foldl_append, hme]; rfl
      have hle := markStep_le ((ms.take j).foldl markStep st) mk
      generalize (ms.take j).foldl markStep st = sj at *
      have hJl := hJs.len_eq
      rw [List.length_map] at hJl
      replace F4 : Fr h L h4 (locs (nms (dScope 23)) [some (.ref ca), some (.str (tx [s0, s1]) t), some (.ref D), some (.str (tx sj.2) tp2), some (.int (c : Nat) tq), some (.str (one mk) um), none]) := F4
      have hDJ : D ∉ [J] := hnw3 (D, lstO vsJ.toArray kJ) (List.mem_append_right _ List.mem_cons_self)
      have hDo : ∀ p ∈ own2 ++ own, p.1 ≠ D := fun p hp => by
        rcases List.mem_append.mp hp with hp | hp
        · exact fun e => hDJ (e ▸ hofp2 p hp)
        · exact hownD p hp
      replace N4 : News h L h4 ((D, lstO vsJ.toArray kJ) :: (own2 ++ own)) := News.sub N4 (fun p hp => by
        rcases List.mem_cons.mp hp with rfl | hp
        · exact List.mem_append_right _ (List.mem_append_right _ List.mem_cons_self)
        · rcases List.mem_append.mp hp with hp | hp
          · exact List.mem_append_left _ hp
          · exact List.mem_append_right _ (List.mem_append_left _ hp))
      have fin : ∀ (hE : Heap) (kE : Nat) (vsE : List Value) (kk : Nat) (tE : Tok), Fr h L hE (locs (nms (dScope 23)) [some (.ref ca), some (.str (tx [s0, s1]) t), some (.ref D), some (.str (tx (markStep sj mk).2) tE), some (.int (c : Nat) tq), some (.str (one mk) um), none]) →
          News h L hE ((D, lstO vsE.toArray kk) :: (own2 ++ own)) → StrsAre vsE ((markStep sj mk).1.map one) →
          At h L (dScope 23) g d o (ForT own2 [J] (DInv2 ca D s0 s1 t tq c ms st own (j + 1))) ⟨hE, g, d, kE, o⟩ := by
        intro hE kE vsE kk tE FE NE hE2
        refine At.mk FE (news := own2 ++ (own ++ [(D, lstO vsE.toArray kk)])) (News.sub NE (fun q hq => ?_)) ⟨_, rfl, ?_, vsE, kk, tE, _, by rw [hnx2], rfl, by rw [hnx2]; exact hE2, by rw [hnx2]; lia, by rw [hnx2]; lia⟩
        · rcases List.mem_append.mp hq with hq | hq
          · exact List.mem_cons_of_mem _ (List.mem_append_left _ hq)
          · rcases List.mem_append.mp hq with hq | hq
            · exact List.mem_cons_of_mem _ (List.mem_append_right _ hq)
            · rw [List.mem_singleton.mp hq]; exact List.mem_cons_self
        · intro q hq
          rcases List.mem_append.mp hq with hq | hq
          · exact hnw3 q (List.mem_append_left _ hq)
          · rw [List.mem_singleton.mp hq]; exact hDJ
      refine wpAny_execs_cons (hideLet ?_)
      intro PHid
      refine wpAny_If (wpAny_isTrue_Compare1 (ldl 5 ok F4 rfl rfl (cStr fun t30 k30 => eqT (x := [mk]) (y := [42]) (wpAny_truthy_bool ?_))))
      by_cases h42 : mk = 42
      · rw [show decide ([mk] = [42]) = true by simp [h42]]
        refine ite_tt (wpAny_execs_cons (hideLet ?_))
        intro PHid
        refine wpAny_AugAssign_Name (ldnl 3 ok F4 rfl rfl (cStr fun t31 k31 => iaddT (x := sj.2) (y := [42]) (by simp; lia) (fun t32 k32 => ?_)))
        refine stS 3 [some (.ref ca), some (.str (tx [s0, s1]) t), some (.ref D), some (.str (tx (sj.2 ++ [42])) t32), some (.int (c : Nat) tq), some (.str (one mk) um), none] ok F4 N4 rfl (Nat.le_of_ble_eq_true rfl) rfl (fun h5 k33 F5 N5 => ?_)
        have e2 : (markStep sj mk).2 = sj.2 ++ [42] := by unfold markStep; rw [if_pos h42]
        have e1 : (markStep sj mk).1 = if sj.1.getLast? = some 42 then sj.1 else sj.1 ++ [42] := by unfold markStep; rw [if_pos h42]
        refine wpAny_execs_cons (hideLet ?_)
        intro PHid
        refine wpAny_If (wpAny_isTrue_Compare1 (sliceSub (ldl 2 ok F5 rfl rfl (evalPart_some_step (UnaryOp_ (cInt fun t34 k34 => minusI fun t35 k35 => evalPart_none_step ?_))))))
        refine sliceLS F5 N5 ⟨_, N5.get List.mem_cons_self, rfl, _, rfl⟩ (.int (-1) _) .none (by simp; lia) (fun X h6 kp6 F6 N6 hX => ?_)
        rw [pick_last] at N6
        refine List_ (arg (cStr fun t36 k36 => args_nil (newListS F6 N6 (fun Z h7 kp7 F7 N7 hZ => ?_))))
        refine neStrs (xs := (sj.1.drop (sj.1.length - 1)).map one) (ys := [one 42]) ⟨_, N7.get (List.mem_cons_of_mem _ List.mem_cons_self), rfl, _, rfl⟩ ⟨_, N7.get List.mem_cons_self, rfl, _, rfl⟩ (by rw [List.map_drop, hJl]; exact hJs.drop' _) (.cons _ _ .nil) (by show un + 3 < _; lia) (wpAny_truthy_bool ?_)
        have e3 : decide ((sj.1.drop (sj.1.length - 1)).map one = [one 42]) = decide (sj.1.getLast? = some 42) := by
          rw [decide_eq_decide]
          cases hq : sj.1.getLast? with
          | none =>
            have : sj.1 = [] := List.getLast?_eq_none_iff.mp hq
            simp [this]
          | some z =>
            obtain ⟨pre, hpre⟩ := List.getLast?_eq_some_iff.mp hq
            rw [hpre]
            simp
        rw [e3]
        replace N7 := newsTail (newsTail N7)
        by_cases hlast : sj.1.getLast? = some 42
        · rw [decide_eq_true hlast]
          refine ite_ff (wpAny_execs_nil (wpAny_execs_nil (wpAny_execs_nil ?_)))
          refine fin _ _ vsJ kJ t32 (by rw [e2]; exact F7) N7 ?_
          rw [e1, if_pos hlast]
          exact hJs
        · rw [decide_eq_false hlast]
          refine ite_tt (wpAny_execs_cons (hideLet ?_))
          intro PHid
          refine wpAny_Expr_any (MethodCall_ (ldl 2 ok F7 rfl rfl (getMethod_list_append (N7.get List.mem_cons_self) rfl rfl (cwB (arg (cStr fun t37 k37 => args_nil ?_))))))
          refine appS F7 N7 hDo (fun h8 kk8 hs8 F8 N8 => ?_) (by rw [sizeLine]; simp; lia)
          refine wpAny_execs_nil (wpAny_execs_nil (wpAny_execs_nil ?_))
          have e4 : vsJ.toArray.push (Value.str (Str.ofString "*") t37) = (vsJ ++ [Value.str (one 42) t37]).toArray := by simp; rfl
          rw [e4] at N8
          refine fin _ _ _ kk8 t32 (by rw [e2]; exact F8) N8 ?_
          rw [e1, if_neg hlast, List.map_append]
          exact hJs.append' (.cons _ _ .nil)
      · rw [show decide ([mk] = [42]) = false by simp [h42]]
        have hDl : h4.IsList D vsJ.toArray := ⟨_, N4.get List.mem_cons_self, rfl, _, rfl⟩
        refine ite_ff (wpAny_execs_cons (hideLet ?_))
        intro PHid
        refine wpAny_If (wpAny_isTrue_Compare1 (wpAny_BinOp ?_))
        refine callB (fun Q' q => ldb 6 ok l F4 rfl (by decide) boot_len q) (arg (ldl 2 ok F4 rfl rfl (args_nil ?_)))
        refine lenLS hDl (by lia) (fun t31 k31 => ?_)
        refine MethodCall_ (ldl 2 ok F4 rfl rfl (methL (N4.get List.mem_cons_self) PySem.F.slot_list_count PySem.F.type_list_count (cwB (arg (cStr fun t32 k32 => args_nil ?_)))))
        refine countS hDl hJs (fun t33 k33 => subI fun t34 k34 => cInt fun t35 k35 => lt_int (wpAny_truthy_bool ?_))
        have hcnt : (sj.1.map one).count (Str.ofString "*") = sj.1.count 42 := by
          rw [show Str.ofString "*" = one 42 from rfl]
          exact count_ones _ _
        rw [hcnt]
        have e5 : decide (((vsJ.length : Int) - ((sj.1.count 42 : Nat) : Int)) < 3) = decide (sj.1.length < 3 + sj.1.count 42) := by
          rw [decide_eq_decide]
          lia
        rw [e5]
        by_cases hlt : sj.1.length < 3 + sj.1.count 42
        · rw [decide_eq_true hlt]
          have e2 : (markStep sj mk).2 = sj.2 ++ [mk] := by unfold markStep; rw [if_neg h42, if_pos hlt]
          have e1 : (markStep sj mk).1 = sj.1 ++ [mk] := by unfold markStep; rw [if_neg h42, if_pos hlt]
          refine ite_tt (wpAny_execs_cons (hideLet ?_))
          intro PHid
          refine wpAny_AugAssign_Name (ldnl 3 ok F4 rfl rfl (ldl 5 ok F4 rfl rfl (iaddT (x := sj.2) (y := [mk]) (by simp; lia) (fun t36 k36 => ?_))))
          refine stS 3 [some (.ref ca), some (.str (tx [s0, s1]) t), some (.ref D), some (.str (tx (sj.2 ++ [mk])) t36), some (.int (c : Nat) tq), some (.str (one mk) um), none] ok F4 N4 rfl (Nat.le_of_ble_eq_true rfl) rfl (fun h5 k37 F5 N5 => ?_)
          refine wpAny_execs_cons (hideLet ?_)
          intro PHid
          refine wpAny_Expr_any (MethodCall_ (ldl 2 ok F5 rfl rfl (getMethod_list_append (N5.get List.mem_cons_self) rfl rfl (cwB (arg (ldl 5 ok F5 rfl rfl (args_nil ?_)))))))
          refine appS F5 N5 hDo (fun h8 kk8 hs8 F8 N8 => ?_) (by rw [sizeLine]; simp; lia)
          refine wpAny_execs_nil (wpAny_execs_nil (wpAny_execs_nil ?_))
          have e4 : vsJ.toArray.push (Value.str (one mk) um) = (vsJ ++ [Value.str (one mk) um]).toArray := by simp
          rw [e4] at N8
          refine fin _ _ _ kk8 t36 (by rw [e2]; exact F8) N8 ?_
          rw [e1, List.map_append]
          exact hJs.append' (.cons _ _ .nil)
        · rw [decide_eq_false hlt]
          have e0 : markStep sj mk = sj := by unfold markStep; rw [if_neg h42, if_neg hlt]
          refine ite_ff (wpAny_execs_nil (wpAny_execs_nil (wpAny_execs_nil ?_)))
          exact fin _ _ vsJ kJ tp2 (by rw [e0]; exact F4) N4 (by rw [e0]; exact hJs)
    · rintro h9 k9 vals news F9 N9 ⟨vsI, kI, tp, m1, rfl, rfl, hI, hj1, hj2⟩
      rw [List.take_length, ← hnx] at hI hj1 hj2 F9
      refine wpAny_execs_nil ?_
      refine At.mk F9 N9 ⟨_, rfl, ?_, vsI, kI, tp, _, m1, rfl, rfl, hI, by lia, by lia⟩
      intro q hq
      rw [List.mem_singleton.mp hq]
      exact hDI
  · rintro h9 k9 vals news F9 N9 ⟨vsI, kI, tp, c1, m1, rfl, rfl, hI, _, _⟩
    rw [hsl, List.take_length] at hI F9
    refine wpAny_execs_cons (hideLet ?_)
    intro PHid
    refine wpAny_Return_some (Tuple_ (arg (ldl 2 ok F9 rfl rfl (arg (ldl 3 ok F9 rfl rfl (args_nil (newTupS F9 N9 (fun T hE kpE FE NE hT => ?_))))))))
    exact hR _ _ _ FE.keep ⟨T, D, vsI, kI, tp, rfl, NE.fresh List.mem_cons_self, NE.fresh (List.mem_cons_of_mem _ List.mem_cons_self), fun e => hT _ List.mem_cons_self e.symm, NE.get List.mem_cons_self, NE.get (List.mem_cons_of_mem _ List.mem_cons_self), hI⟩
end Mine
namespace Mine
/-! a heap with some objects put out of sight -/
noncomputable def hide (h : Heap) : List Addr → Heap
  | [] => h
  | a :: as => (hide h as).update a fun o => { o with data := .freed }
theorem hide_size (h : Heap) : ∀ as, (hide h as).objs.size = h.objs.size
  | [] => rfl
  | a :: as => by rw [hide, Heap.size_after_update, hide_size h as]
theorem freed_get {h : Heap} {a : Addr} {b : Addr} {o : Obj} (e : (h.update a fun o => { o with data := .freed }).get? b = some o) : b ≠ a ∧ h.get? b = some o := by
  by_cases hb : b = a
  · subst hb
    exfalso
    cases q : h.get? b with
    | none =>
      have hs := Heap.size_after_update h b (fun o => { o with data := .freed })
      unfold Heap.get? at e q
      obtain ⟨objs, life⟩ := h
      simp only [Heap.update] at e q
      revert e q
      rw [Array.getElem?_modify]
      simp only [if_true]
      cases hq : objs[b]? with
      | none => simp
      | some ob => simp
    | some ob =>
      unfold Heap.get? at e
      obtain ⟨objs, life⟩ := h
      simp only [Heap.update] at e
      revert e
      rw [Array.getElem?_modify]
      simp only [if_true]
      cases hq : objs[b]? with
      | none => simp
      | some ob => simp
  · exact ⟨hb, by rw [Heap.get?_update_other _ _ (Ne.symm hb)] at e; exact e⟩
theorem hide_get {h : Heap} {b : Addr} {o : Obj} : ∀ {as : List Addr}, (hide h as).get? b = some o → b ∉ as ∧ h.get? b = some o
  | [], e => ⟨by simp, e⟩
  | a :: as, e => by
    obtain ⟨h1, h2⟩ := freed_get e
    obtain ⟨h3, h4⟩ := hide_get h2
    exact ⟨by simp [h1, h3], h4⟩
theorem hide_keep {h : Heap} {b : Addr} {o : Obj} (e : h.get? b = some o) : ∀ {as : List Addr}, b ∉ as → (hide h as).get? b = some o
  | [], _ => e
  | a :: as, hb => by
    have h1 : b ≠ a := fun e => hb (by simp [e])
    have h2 : b ∉ as := fun e => hb (by simp [e])
    rw [hide, Heap.get?_update_other _ _ (Ne.symm h1)]
    exact hide_keep e h2
theorem hide_none {h : Heap} {b : Addr} {as : List Addr} (hb : b ∈ as) : (hide h as).get? b = none := by
  cases q : (hide h as).get? b with
  | none => rfl
  | some o => exact absurd hb (hide_get q).1

theorem rm_spec {x : Str} : ∀ {vs : List Value} {ts : List Str}, StrsAre vs ts → x ∈ ts → ∃ j, ∃ hj : j < vs.length, isStrOf x vs[j] = true ∧ (∀ m (hm : m < vs.length), m < j → isStrOf x vs[m] = false) ∧ StrsAre (vs.eraseIdx j) (ts.erase x) := by
  intro vs ts r
  induction r with
  | nil => intro h; cases h
  | @cons y t vs ts r ih =>
    intro h
    by_cases hy : y = x
    · subst hy
      exact ⟨0, by simp, by simp [isStrOf], by simp, by simpa using r⟩
    · have hx : x ∈ ts := by
        rcases List.mem_cons.mp h with e | e
        · exact absurd e.symm hy
        · exact e
      obtain ⟨j, hj, h1, h2, h3⟩ := ih hx
      have hyx : (y == x) = false := by simpa using hy
      refine ⟨j + 1, by simp; lia, by simpa using h1, ?_, ?_⟩
      · intro m hm hlt
        cases m with
        | zero => simpa [isStrOf] using hy
        | succ m => simpa using h2 m (by simpa using hm) (by lia)
      · rw [List.erase_cons, hyx]
        simpa using StrsAre.cons y t h3

section
variable {w : World} {A : Around} {E : Value → Shared → Prop} {h : Heap} {g : Array GenState} {d : Drawn} {k : Nat} {o : OsState} {name : Str} {sc : Scope} {L a : Addr} {cd : Value} {cl : List (Str × Addr)} {h₀ : Heap} {vals : List (Option Value)}
  {m : Str → Option Value} {news : List (Addr × Obj)} {env : Env}
theorem popS {D : Addr} {vs : List Value} {y : Value} {kk : Nat} {Q : Value → Shared → Prop} (F : Fr h₀ L h m) (N : News h₀ L h ((D, lstO (vs ++ [y]).toArray kk) :: news)) (hD : ∀ p ∈ news, p.1 ≠ D) (hb : vs.length ≤ 1000000)
    (q : ∀ h' kk', Fr h₀ L h' m → News h₀ L h' ((D, lstO vs.toArray kk') :: news) → Q y ⟨h', g, d, k, o⟩) : wpAny (model prg w) A (call (.builtin "list.pop") [.ref D]) Q E ⟨h, g, d, k, o⟩ := by
  refine Copied.pop_at (s := ⟨h, g, d, k, o⟩) (N.get List.mem_cons_self) (y := y) (by first | exact Nat.le_of_ble_eq_true rfl | (repeat (first | exact .head _ | apply List.Mem.tail)); done | simp) (fun h' hs e => ?_) (by rw [sizeLine]; simp; lia)
  have e1 : (vs ++ [y]).toArray.pop = vs.toArray := by simp
  rw [e1] at e
  obtain ⟨F', N'⟩ := updL F N hD hs e
  exact q _ _ F' N'
theorem rmvS {D : Addr} {vs : List Value} {ts : List Str} {x : Str} {t : Tok} {kk : Nat} {Q : Value → Shared → Prop} (F : Fr h₀ L h m) (N : News h₀ L h ((D, lstO vs.toArray kk) :: news)) (hD : ∀ p ∈ news, p.1 ≠ D) (hs : StrsAre vs ts) (hx : x ∈ ts) (hb : vs.length ≤ 1000000)
    (q : ∀ h' kk' vs', Fr h₀ L h' m → News h₀ L h' ((D, lstO vs'.toArray kk') :: news) → StrsAre vs' (ts.erase x) → Q .none ⟨h', g, d, k, o⟩) : wpAny (model prg w) A (call (.builtin "list.remove") [.ref D, .str x t]) Q E ⟨h, g, d, k, o⟩ := by
  obtain ⟨j, hj, h1, h2, h3⟩ := rm_spec hs hx
  have hg := N.get (List.mem_cons_self)
  refine call_meets PySem.F.slot_list_remove ⟨_, hg, rfl⟩ PySem.F.entry_list_remove (PySem.F.args_list_remove_2 _ _)
    (MeetsSeq.list_remove D vs.toArray kk (.str x t) (isStrOf x) (fun y hy => eq_isStrOf x t hs y (by simpa using hy)) j (by simpa using hj) (by simpa using h1) (fun m hm hlt => by simpa using h2 m (by simpa using hm) hlt) (by rw [sizeLine]; simp; lia))
    ⟨hg, ?_⟩
  have e1 : vs.toArray.eraseIdxIfInBounds j = (vs.eraseIdx j).toArray := by
    simp [Array.eraseIdxIfInBounds, hj]
  have e2 : Obj.mapSeq (fun xs => xs.eraseIdxIfInBounds j) (lstO vs.toArray kk) = lstO (vs.eraseIdx j).toArray (if (vs.eraseIdx j).toArray.size == vs.toArray.size then kk else kk + 1) := by
    rw [← e1]
    rfl
  obtain ⟨F', N'⟩ := updL F N hD (Heap.SameBut.update (h := h) (a := D) (f := Obj.mapSeq (fun xs => xs.eraseIdxIfInBounds j))) (by rw [Heap.get?_update_self _ hg (by rw [e2]; rfl), e2])
  exact q _ _ _ F' N' h3
theorem rmvE {D : Addr} {vs : List Value} {ts : List Str} {x : Str} {t : Tok} {kk : Nat} {Q : Value → Shared → Prop} (hh : A.handled = none) (hg : h.get? D = some (lstO vs.toArray kk)) (hs : StrsAre vs ts) (hx : x ∉ ts)
    (q : ∀ h' k' e, Heap.NewExc h h' e "ValueError" → E (.ref e) ⟨h', g, d, k', o⟩) : wpAny (model prg w) A (call (.builtin "list.remove") [.ref D, .str x t]) Q E ⟨h, g, d, k, o⟩ := by
  refine call_meets PySem.F.slot_list_remove ⟨_, hg, rfl⟩ PySem.F.entry_list_remove (PySem.F.args_list_remove_2 _ _)
    (MeetsSeq.list_remove_none D vs.toArray kk (.str x t) (isStrOf x) (fun y hy => eq_isStrOf x t hs y (by simpa using hy)) (fun m hm => ?_)) ⟨hg, hh, fun h' tk e hx => q h' tk e hx⟩
  have hm' : m < vs.length := by simpa using hm
  have hml : m < ts.length := by rw [← hs.len_eq]; exact hm'
  obtain ⟨tq, hq⟩ := hs.at (j := m) (List.getElem?_eq_getElem hml)
  rw [List.getElem?_eq_getElem hm'] at hq
  rw [List.getElem_toArray, Option.some.inj hq]
  show (ts[m] == x) = false
  rw [beq_eq_false_iff_ne]
  intro e
  exact hx (e ▸ List.getElem_mem hml)
end
/-- what is left and what stays -/
noncomputable def uldGo : List Str → List Str → List Str → List Str × List Str
  | [], tk, ms => (ms, tk)
  | x :: r, tk, ms => if x ∈ tk then uldGo r (tk.erase x) ms else uldGo r tk (ms ++ [x])
theorem boot_ValueError : bootBuiltins "ValueError" = some (.type "ValueError") := by decide +kernel
theorem sc13 : ScOk (dScope 13) := .of (by decide +kernel)
inductive UInv (ea aa M Lc : Addr) (oc : Obj) (pile taken : List Str) (n : Nat) (vals : List (Option Value)) (news : List (Addr × Obj)) : Prop
  | mk (vsP vsT vsM : List Value) (kp kt km : Nat) (ps ts ms : List Str) (it : Option Value) (sl : Array (Option Value)) (h1 : n = ps.length) (h2 : vals = [some (.ref ea), some (.ref aa), some (.ref M), it, none]) (h3 : news = [(ea, lstO vsP.toArray kp), (aa, lstO vsT.toArray kt), (M, lstO vsM.toArray km), (Lc, { oc with slots := sl })]) (h4 : StrsAre vsP ps) (h5 : StrsAre vsT ts) (h6 : StrsAre vsM ms) (h7 : uldGo ps.reverse ts ms = uldGo pile.reverse taken []) (h8 : ps.length + ms.length ≤ 10000) (h9 : ts.length ≤ 10000) : UInv ea aa M Lc oc pile taken n vals news
set_option maxHeartbeats 4000000 in
theorem uld_c {w : World} {ad : Nat → Addr} {mg mb : Str → Option Value} {h₀ : Heap} {ea aa Lc : Addr} {vsP vsT : List Value} {kp kt : Nat} {pile taken : List Str} {oc : Obj} {envC : Env} {A : Around} {h : Heap} {g : Array GenState} {d : Drawn} {k : Nat} {o : OsState} {R : Result → Shared → Prop}
    (hh : A.handled = none) (hfr : A.frames = some [envC]) (Fs : TI.Frs [envC] [(Lc, oc)]) (hd : A.depth + 2 < recursionLimit) (l : Lib ad mg mb h₀) (kp0 : Kp h₀ h) (h1 : h₀.get? ea = none) (h2 : h₀.get? aa = none) (h3 : h₀.get? Lc = none)
    (hea : h.get? ea = some (lstO vsP.toArray kp)) (haa : h.get? aa = some (lstO vsT.toArray kt)) (hLc : h.get? Lc = some oc) (hne : ea ≠ aa) (hsP : StrsAre vsP pile) (hsT : StrsAre vsT taken) (hbP : pile.length ≤ 10000) (hbT : taken.length ≤ 10000)
    (hR : ∀ T M wsM km wsT kT h' k' sl, (∀ b ob, b ≠ ea → b ≠ aa → b ≠ Lc → h.get? b = some ob → h'.get? b = some ob) → h'.get? Lc = some { oc with slots := sl } → h.get? T = none → h.get? M = none → T ≠ M →
      h'.get? T = some { cls := .type "tuple", data := .seq #[.ref M, .ref aa] } → h'.get? M = some (lstO wsM.toArray km) → StrsAre wsM (uldGo pile.reverse taken []).1 → h'.get? aa = some (lstO wsT.toArray kT) → StrsAre wsT (uldGo pile.reverse taken []).2 → R (.ok (.ret (.ref T))) ⟨h', g, d, k', o⟩) :
    codeAny (model prg w) A (.call (.ref (ad 13)) ⟨[.ref ea, .ref aa], []⟩) R ⟨h, g, d, k, o⟩ := by
  have ok := sc13
  obtain ⟨hkd, hfrm, ⟨es, ep, hdict⟩, _⟩ := Fs
  have hLe : ea ≠ Lc := by
    rintro rfl
    rw [hea] at hLc; cases hLc; cases hdict
  have hLa : aa ≠ Lc := by
    rintro rfl
    rw [haa] at hLc; cases hLc; cases hdict
  obtain ⟨hB, hBe⟩ : ∃ hB, hB = hide h [ea, aa, Lc] := ⟨_, rfl⟩
  have lB : Lib ad mg mb hB := l.keeps fun b ob e => by
    rw [hBe]
    refine hide_keep (kp0 _ _ e) (fun hm => ?_)
    simp only [List.mem_cons, List.not_mem_nil, or_false] at hm
    rcases hm with rfl | rfl | rfl
    · rw [h1] at e; cases e
    · rw [h2] at e; cases e
    · rw [h3] at e; cases e
  refine enterS 13 ["expected", "actual"] _ (l.keeps kp0) (by decide) ok (by lia) (by with_unfolding_all rfl) (by with_unfolding_all rfl) rfl (fun _ _ _ => rfl) (by decide +kernel) (by decide +kernel) (fun L cd h₁ k₁ hL F0 N0 => ?_)
  replace F0 : Fr h L h₁ (locs (nms (dScope 13)) [some (.ref ea), some (.ref aa), none, none, none]) := F0
  have F : Fr hB L h₁ (locs (nms (dScope 13)) [some (.ref ea), some (.ref aa), none, none, none]) := ⟨F0.ns, fun b ob e => F0.keep _ _ (hide_get (hBe ▸ e)).2, by rw [hBe, hide_size]; exact F0.above⟩
  have lt : ∀ {b : Addr} {ob : Obj}, h.get? b = some ob → b ≠ L := fun e => Nat.ne_of_lt (Nat.lt_of_lt_of_le (Heap.lt_size e) F0.above)
  have N : News hB L h₁ [(ea, lstO vsP.toArray kp), (aa, lstO vsT.toArray kt), (Lc, oc)] := by
    exact (allC (⟨F0.keep _ _ hea, lt hea, by rw [hBe]; exact hide_none (by first | exact Nat.le_of_ble_eq_true rfl | (repeat (first | exact .head _ | apply List.Mem.tail)); done | simp)⟩) (allC (⟨F0.keep _ _ haa, lt haa, by rw [hBe]; exact hide_none (by first | exact Nat.le_of_ble_eq_true rfl | (repeat (first | exact .head _ | apply List.Mem.tail)); done | simp)⟩) (allC (⟨F0.keep _ _ hLc, lt hLc, by rw [hBe]; exact hide_none (by first | exact Nat.le_of_ble_eq_true rfl | (repeat (first | exact .head _ | apply List.Mem.tail)); done | simp)⟩) allN)))
  refine hideA ?_
  intro AHid
  refine wpAny_execs_cons (hideLet ?_)
  intro PHid
  refine wpAny_Expr_any (cStr fun t0 k0 => ?_)
  refine wpAny_execs_cons (hideLet ?_)
  intro PHid
  refine wpAny_Assign_Name (List_ (args_nil (newListS F N (fun M h2 kp2 F2 N2 hM => ?_))))
  refine stS 2 [some (.ref ea), some (.ref aa), some (.ref M), none, none] ok F2 N2 rfl (Nat.le_of_ble_eq_true rfl) rfl (fun h3 k3 F3 N3 => ?_)
  have hMe : ea ≠ M := hM (ea, lstO vsP.toArray kp) List.mem_cons_self
  have hMa : aa ≠ M := hM (aa, lstO vsT.toArray kt) (List.mem_cons_of_mem _ List.mem_cons_self)
  have hMc : Lc ≠ M := hM (Lc, oc) (List.mem_cons_of_mem _ (List.mem_cons_of_mem _ List.mem_cons_self))
  have hMh : hB.get? M = none := N3.fresh List.mem_cons_self
  have hM0 : h.get? M = none := by
    cases q : h.get? M with
    | none => rfl
    | some ob =>
      have := hide_keep (as := [ea, aa, Lc]) q (by simp [Ne.symm hMe, Ne.symm hMa, Ne.symm hMc])
      rw [← hBe, hMh] at this; cases this
  refine wpAny_execs_cons (whileS (UInv ea aa M Lc oc pile taken) pile.length F3
    (News.sub N3 (by repeat (first | exact allN | refine allC (by (repeat (first | exact hp | exact List.mem_append_left _ hp | exact .head _ | apply List.Mem.tail | apply List.mem_append_right))) ?_ | refine allA (fun p hp => by (repeat (first | exact hp | exact List.mem_append_left _ hp | exact .head _ | apply List.Mem.tail | apply List.mem_append_right))) ?_ | exact fun p hp => by (repeat (first | exact hp | exact List.mem_append_left _ hp | exact .head _ | apply List.Mem.tail | apply List.mem_append_right))))) ⟨vsP, vsT, [], kp, kt, 0, pile, taken, [], none, oc.slots, rfl, rfl, rfl, hsP, hsT, .nil, rfl, by simpa using hbP, hbT⟩ ?_)
  rintro E' n vals news h4 k4 ⟨vsP, vsT, vsM, kp, kt, km, ps, ts, ms, it, sl, rfl, rfl, rfl, sP, sT, sM, hgo, hb1, hb2⟩ F4 N4
  refine hideLet ?_
  intro PHid
  have lP := sP.len_eq
  have lT := sT.len_eq
  have lM := sM.len_eq
  refine isTrue_plain (ldl 0 ok F4 rfl rfl (truthyL ⟨_, N4.get List.mem_cons_self, rfl, _, rfl⟩ (by lia) (fun k5 => ?_)))
  rcases List.eq_nil_or_concat ps with rfl | ⟨ps', x, rfl⟩
  · -- the end
    have e0 : vsP = [] := List.length_eq_zero_iff.mp (by simpa using lP)
    subst e0
    refine ite_ff ?_
    refine wpAny_execs_cons (hideLet ?_)
    intro PHid
    refine wpAny_Return_some (Tuple_ (arg (ldl 2 ok F4 rfl rfl (arg (ldl 1 ok F4 rfl rfl (args_nil (newTupS F4 N4 (fun T h5 kp5 F5 N5 hT => ?_))))))))
    have hTM : T ≠ M := fun e => hT (M, _) (List.mem_cons_of_mem _ (List.mem_cons_of_mem _ List.mem_cons_self)) e.symm
    have hTe : T ≠ ea := fun e => hT (ea, _) List.mem_cons_self e.symm
    have hTa : T ≠ aa := fun e => hT (aa, _) (List.mem_cons_of_mem _ List.mem_cons_self) e.symm
    have hTc : T ≠ Lc := fun e => hT (Lc, _) (List.mem_cons_of_mem _ (List.mem_cons_of_mem _ (List.mem_cons_of_mem _ List.mem_cons_self))) e.symm
    have hT0 : h.get? T = none := by
      cases q : h.get? T with
      | none => rfl
      | some ob =>
        have := hide_keep (as := [ea, aa, Lc]) q (by simp [hTe, hTa, hTc])
        rw [← hBe, N5.fresh List.mem_cons_self] at this; cases this
    have hgo' : (ms, ts) = uldGo pile.reverse taken [] := hgo
    refine hR T M vsM km vsT kt h5 _ sl (fun b ob hb1 hb2 hb3 e => F5.keep _ _ (by rw [hBe]; exact hide_keep e (by simp [hb1, hb2, hb3]))) (N5.get (List.mem_cons_of_mem _ (List.mem_cons_of_mem _ (List.mem_cons_of_mem _ (List.mem_cons_of_mem _ List.mem_cons_self))))) hT0 hM0 hTM
      (N5.get List.mem_cons_self) (N5.get (List.mem_cons_of_mem _ (List.mem_cons_of_mem _ (List.mem_cons_of_mem _ List.mem_cons_self)))) (by rw [← hgo']; exact sM) (N5.get (List.mem_cons_of_mem _ (List.mem_cons_of_mem _ List.mem_cons_self))) (by rw [← hgo']; exact sT)
  · -- a turn
    have hne2 : vsP ≠ [] := fun e => by rw [e] at lP; simp at lP
    rw [show (!vsP.isEmpty) = true by cases vsP <;> simp at hne2 ⊢]
    refine ite_tt (wpAny_noRaise ?_)
    obtain ⟨vp, y, rfl⟩ : ∃ vp y, vsP = vp ++ [y] := by
      rcases List.eq_nil_or_concat vsP with e | ⟨vp, y, e⟩
      · exact absurd e hne2
      · exact ⟨vp, y, by rw [e, List.concat_eq_append]⟩
    rw [List.concat_eq_append] at *
    have lvp : vp.length = ps'.length := by simpa using lP
    have sP' : StrsAre vp ps' := by
      have := sP.take' ps'.length
      rw [List.take_left' lvp, List.take_left' rfl] at this
      exact this
    obtain ⟨tx', rfl⟩ : ∃ tx', y = .str x tx' := by
      obtain ⟨t', e⟩ := sP.at (j := ps'.length) (y := x) (by first | exact Nat.le_of_ble_eq_true rfl | (repeat (first | exact .head _ | apply List.Mem.tail)); done | simp)
      rw [← lvp] at e
      simp at e
      exact ⟨t', e⟩
    have hgo2 : (if x ∈ ts then uldGo ps'.reverse (ts.erase x) ms else uldGo ps'.reverse ts (ms ++ [x])) = uldGo pile.reverse taken [] := by
      rw [← hgo, List.reverse_append]
      rfl
    have hps : (ps' ++ [x]).length = ps'.length + 1 := by simp
    have d1 : ∀ p ∈ [(aa, lstO vsT.toArray kt), (M, lstO vsM.toArray km), (Lc, { oc with slots := sl })], p.1 ≠ ea := by
      exact (allC (hne.symm) (allC (hMe.symm) (allC (hLe.symm) allN)))
    refine wpAny_execs_cons (hideLet ?_)
    intro PHid
    refine wpAny_Assign_Name (MethodCall_ (ldl 0 ok F4 rfl rfl (methL (N4.get List.mem_cons_self) PySem.F.slot_list_pop PySem.F.type_list_pop (callWith_method0 ?_))))
    refine popS F4 N4 d1 (by lia) (fun h5 kp5 F5 N5 => ?_)
    refine stS 3 [some (.ref ea), some (.ref aa), some (.ref M), some (.str x tx'), none] ok F5 N5 rfl (Nat.le_of_ble_eq_true rfl) rfl (fun h6 k6 F6 N6 => ?_)
    have fin : ∀ (hE : Heap) (kE : Nat) (vsT vsM : List Value) (kp kt km : Nat) (ts ms : List Str) (sl : Array (Option Value)), Fr hB L hE (locs (nms (dScope 13)) [some (.ref ea), some (.ref aa), some (.ref M), some (.str x tx'), none]) →
        News hB L hE [(ea, lstO vp.toArray kp), (aa, lstO vsT.toArray kt), (M, lstO vsM.toArray km), (Lc, { oc with slots := sl })] → StrsAre vsT ts → StrsAre vsM ms → uldGo ps'.reverse ts ms = uldGo pile.reverse taken [] → ps'.length + ms.length ≤ 10000 → ts.length ≤ 10000 →
        ∃ m, m < (ps' ++ [x]).length ∧ At hB L (dScope 13) g d o (UInv ea aa M Lc oc pile taken m) ⟨hE, g, d, kE, o⟩ :=
      fun hE kE vsT vsM kp kt km ts ms sl FE NE a b c d1 d2 => ⟨ps'.length, by lia, At.mk FE NE ⟨vp, vsT, vsM, kp, kt, km, ps', ts, ms, _, sl, rfl, rfl, rfl, sP', a, b, c, d1, d2⟩⟩
    have d2 : ∀ (sl : Array (Option Value)), ∀ p ∈ [(ea, lstO vp.toArray kp5), (M, lstO vsM.toArray km), (Lc, { oc with slots := sl })], p.1 ≠ aa := by
      intro sl
      exact (allC (hne) (allC (hMa.symm) (allC (hLa.symm) allN)))
    have d3 : ∀ (sl : Array (Option Value)), ∀ p ∈ [(ea, lstO vp.toArray kp5), (aa, lstO vsT.toArray kt), (Lc, { oc with slots := sl })], p.1 ≠ M := by
      intro sl
      exact (allC (hMe) (allC (hMa) (allC (hMc) allN)))
    refine wpAny_execs_cons (hideLet ?_)
    intro PHid
    refine wpAny_Try_except (wpAny_execs_cons (hideLet ?_))
    intro PHid
    refine wpAny_Expr_any (MethodCall_ (ldl 1 ok F6 rfl rfl (methL (N6.get (List.mem_cons_of_mem _ List.mem_cons_self)) PySem.F.slot_list_remove PySem.F.type_list_remove (cwB (arg (ldl 3 ok F6 rfl rfl (args_nil ?_)))))))
    by_cases hx : x ∈ ts
    · rw [if_pos hx] at hgo2
      refine rmvS F6 (News.swap N6) (d2 sl) sT hx (by lia) (fun h7 kk7 vs7 F7 N7 s7 => ?_)
      refine wpAny_execs_nil (wpAny_execs_nil ?_)
      refine wpAny_execs_nil ?_
      exact fin h7 _ vs7 vsM kp5 kk7 km _ ms sl F7 (News.swap N7) s7 sM hgo2 (by lia) (by rw [List.length_erase]; split <;> lia)
    · rw [if_neg hx] at hgo2
      refine rmvE hh (N6.get (List.mem_cons_of_mem _ List.mem_cons_self)) sT hx (fun h7 k7 e hX => ?_)
      have FsN : TI.Frs [envC] [(Lc, { oc with slots := sl })] := ⟨hkd, hfrm, ⟨es, ep, hdict⟩, trivial⟩
      refine TI.noted_newT3 hfr FsN hX F6 N6 (by rfl) (fun h8 frs' SU Fs' H => ?_)
      obtain ⟨sl', rfl⟩ := TLg.one_up SU
      refine H.land (fun h9 H9 => ?_)
      refine wpAny_handleBy_builtin (X := "ValueError") (T := "ValueError") (b := true) (isSubtype_of_subB (by decide +kernel)) (isSubtype_of_subB (by decide +kernel)) (isSubtype_of_subB (by decide +kernel)) (ldb 4 ok lB H9.held.fr rfl (by decide) boot_ValueError ⟨rfl, H9.isA, ?_⟩)
      rw [if_pos rfl]
      refine H9.lands (fun h10 F10 N10 => ?_)
      refine wpAny_execs_cons (hideLet ?_)
      intro PHid
      refine wpAny_Expr_any (MethodCall_ (ldl 2 ok F10 rfl rfl (getMethod_list_append (N10.get (List.mem_cons_of_mem _ (List.mem_cons_of_mem _ List.mem_cons_self))) rfl rfl (cwB (arg (ldl 3 ok F10 rfl rfl (args_nil ?_)))))))
      refine appS F10 (news := [(ea, lstO vp.toArray kp5), (aa, lstO vsT.toArray kt), (Lc, { oc with slots := sl' })]) (News.sub N10 (by repeat (first | exact allN | refine allC (by (repeat (first | exact hp | exact List.mem_append_left _ hp | exact .head _ | apply List.Mem.tail | apply List.mem_append_right))) ?_ | refine allA (fun p hp => by (repeat (first | exact hp | exact List.mem_append_left _ hp | exact .head _ | apply List.Mem.tail | apply List.mem_append_right))) ?_ | exact fun p hp => by (repeat (first | exact hp | exact List.mem_append_left _ hp | exact .head _ | apply List.Mem.tail | apply List.mem_append_right))))) (d3 sl') (fun h11 kk11 hs11 F11 N11 => ?_) (by rw [sizeLine]; simp; lia)
      refine wpAny_execs_nil ?_
      refine wpAny_execs_nil ?_
      have e4 : vsM.toArray.push (Value.str x tx') = (vsM ++ [Value.str x tx']).toArray := by simp
      rw [e4] at N11
      refine fin h11 _ vsT _ kp5 kt kk11 ts (ms ++ [x]) sl' F11 (News.sub N11 (by repeat (first | exact allN | refine allC (by (repeat (first | exact hp | exact List.mem_append_left _ hp | exact .head _ | apply List.Mem.tail | apply List.mem_append_right))) ?_ | refine allA (fun p hp => by (repeat (first | exact hp | exact List.mem_append_left _ hp | exact .head _ | apply List.Mem.tail | apply List.mem_append_right))) ?_ | exact fun p hp => by (repeat (first | exact hp | exact List.mem_append_left _ hp | exact .head _ | apply List.Mem.tail | apply List.mem_append_right))))) sT (sM.append' (.cons _ _ .nil)) hgo2 (by simp; lia) hb2
end Mine
namespace Mine
section
variable {w : World} {A : Around} {E : Value → Shared → Prop} {h : Heap} {g : Array GenState} {d : Drawn} {k : Nat} {o : OsState} {name : Str} {sc : Scope} {L a : Addr} {cd : Value} {cl : List (Str × Addr)} {h₀ : Heap} {vals : List (Option Value)}
  {m : Str → Option Value} {news : List (Addr × Obj)} {env : Env}
theorem locs_set2 {ns : List Str} {vs : List (Option Value)} {i j : Nat} {x y : Str} {v u : Value} (hd : ns.Nodup) (hi : ns[i]? = some x) (hj : ns[j]? = some y) (hi2 : i < vs.length) (hj2 : j < vs.length) :
    (fun z => if z = y then some u else if z = x then some v else locs ns vs z) = locs ns ((vs.set i (some v)).set j (some u)) := by
  rw [← locs_set hd hj (by simpa using hj2), ← locs_set hd hi hi2]
inductive ForET (own : List (Addr × Obj)) (e it l : Addr) (n : Nat) (J : List (Option Value) → Array Value → List (Addr × Obj) → Prop) (vals' : List (Option Value)) (news' : List (Addr × Obj)) : Prop
  | mk (items' : Array Value) (kl' : Nat) (new : List (Addr × Obj)) (h1 : news' = own ++ (l, lstO items' kl') :: new) (h2 : items'.size = n) (h3 : ∀ p ∈ new, p.1 ≠ e ∧ p.1 ≠ it) (h4 : J vals' items' new) : ForET own e it l n J vals' news'
inductive ForEI (g : Array GenState) (d : Drawn) (o : OsState) (sc : Scope) (L : Addr) (h₀ : Heap) (e it l : Addr) (n : Nat) (J : Nat → List (Option Value) → Array Value → List (Addr × Obj) → Prop) (k : Nat) (s' : Shared) : Prop
  | mk (h' : Heap) (tk : Nat) (vals : List (Option Value)) (items : Array Value) (kl : Nat) (news : List (Addr × Obj)) (i : Nat) (old : Value) (h1 : s' = ⟨h', g, d, tk, o⟩) (h2 : IsEnum h' e it i old) (h3 : h'.IsListIter it l i) (h4 : Fr h₀ L h' (locs (nms sc) vals)) (h5 : News h₀ L h' ((l, lstO items kl) :: news)) (h6 : items.size = n) (h7 : ∀ p ∈ news, p.1 ≠ e ∧ p.1 ≠ it) (h8 : J i vals items news) (h9 : i ≤ n) (h10 : k = n + 1 - i) : ForEI g d o sc L h₀ e it l n J k s'
inductive ForE (w : World) (A : Around) (h₀ : Heap) (L : Addr) (sc : Scope) (g : Array GenState) (d : Drawn) (o : OsState) (ii ic : Nat) (body : List Stmt) (env : Env) (Q : Flow → Shared → Prop) (itv : Value) (s₂ : Shared) : Prop
  | intro (e it l : Addr) (n : Nat) (h₂ : Heap) (k₂ : Nat) (vals : List (Option Value)) (items : Array Value) (kl : Nat) (news : List (Addr × Obj)) (old : Value) (J : Nat → List (Option Value) → Array Value → List (Addr × Obj) → Prop) (h1 : s₂ = ⟨h₂, g, d, k₂, o⟩) (h2 : itv = .ref e) (h3 : IsEnum h₂ e it 0 old) (h4 : h₂.IsListIter it l 0) (h5 : e ≠ it) (h6 : l ≠ e) (h7 : l ≠ it) (h8 : e ≠ L) (h9 : it ≠ L) (h10 : h₀.get? e = none) (h11 : h₀.get? it = none) (h12 : (∀ p ∈ news, p.1 ≠ e ∧ p.1 ≠ it)) (h13 : Fr h₀ L h₂ (locs (nms sc) vals)) (h14 : News h₀ L h₂ ((l, lstO items kl) :: news)) (h15 : items.size = n) (h16 : J 0 vals items news) (h17 : (∀ i vals items news, J i vals items news → ii < vals.length ∧ ic < vals.length)) (h18 : (∀ E R i t v vals items kl news own h k, i < n → items[i]? = some v → items.size = n → J i vals items news → (∀ p ∈ news, p.1 ≠ e ∧ p.1 ≠ it) → (∀ p ∈ own, p.1 = e ∨ p.1 = it) → (∃ o₁, (e, o₁) ∈ own) → (∃ o₂, (it, o₂) ∈ own) → Fr h₀ L h (locs (nms sc) ((vals.set ii (some (.int i t))).set ic (some v))) → News h₀ L h (own ++ (l, lstO items kl) :: news) → (∀ f h k vals' items' kl' new, f = .next ∨ f = .cont → Fr h₀ L h (locs (nms sc) vals') → News h₀ L h (own ++ (l, lstO items' kl') :: new) → items'.size = n → (∀ p ∈ new, p.1 ≠ e ∧ p.1 ≠ it) → J (i + 1) vals' items' new → R f ⟨h, g, d, k, o⟩) → wpAny (model prg w) A (execs body env) R E ⟨h, g, d, k, o⟩)) (h19 : ∀ h k vals items kl news, Fr h₀ L h (locs (nms sc) vals) → News h₀ L h ((l, lstO items kl) :: news) → J n vals items news → Q .next ⟨h, g, d, k, o⟩) : ForE w A h₀ L sc g d o ii ic body env Q itv s₂
/-- for i, x in enumerate(l): the list may be turned by the body -/
theorem forEn {xi xc : Str} {pk pv pt pos : Pos} {x1 : Nat} {iter : Expr} {body : List Stmt} {Q : Flow → Shared → Prop} (hh : A.handled = none) (ok : ScOk sc) (ii ic : Nat) (hxi : sc.names[ii]? = some (xi, .local)) (hxc : sc.names[ic]? = some (xc, .local))
    (q : wpAny (model prg w) A (eval iter (envX name sc L a cd cl)) (fun xv s₁ => wpAny (model prg w) A (pyIter xv) (ForE w A h₀ L sc g d o ii ic body (envX name sc L a cd cl) Q) E s₁) E ⟨h, g, d, k, o⟩)
    (hs : ∀ x, foldedSetIterable iter (envX name sc L a cd cl) x = pure x := by intro _; rfl) :
    wpAny (model prg w) A (exec (.For (.Tuple [.Name xi pk, .Name xc pv] x1 pt) iter body [] pos) (envX name sc L a cd cl)) Q E ⟨h, g, d, k, o⟩ := by
  refine wpAny_For (wpAny_mono q (fun xv s₁ h₁ => wpAny_mono h₁ (fun itv s₂ h₂ => ?_) fun _ _ e => e) fun _ _ e => e) hs
  obtain ⟨e, it, l, n, h₂, k₂, vals, items, kl, news, old, J, rfl, rfl, hen, hit, hei, hle, hli, heL, hiL, he0, hi0, hnw, F, N, hsz, hJ0, hlen, turn, done⟩ := h₂
  have hp : ((envX name sc L a cd cl).scope.kind == .class || ((envX name sc L a cd cl).scope.kind == .module && (envX name sc L a cd cl).locals != (envX name sc L a cd cl).globals)) = false := by
    show (sc.kind == .class || (sc.kind == .module && _)) = false
    rw [ok.fk]; rfl
  have ob : ∀ b ob, h₀.get? b = some ob → b ∉ [e, it] := fun b ob q hb => by
    simp only [List.mem_cons, List.not_mem_nil, or_false] at hb
    rcases hb with rfl | rfl
    · rw [he0] at q; cases q
    · rw [hi0] at q; cases q
  have hLw : L ∉ [e, it] := by
    simp only [List.mem_cons, List.not_mem_nil, or_false]
    rintro (rfl | rfl)
    · exact heL rfl
    · exact hiL rfl
  refine codeAny_forLoop_any (ForEI g d o sc L h₀ e it l n J) ?_ (n + 1) ⟨h₂, k₂, vals, items, kl, news, 0, old, rfl, hen, hit, F, N, hsz, hnw, hJ0, Nat.zero_le _, rfl⟩
  rintro k s' ⟨H, tk, vals', items', kl', news', i, old', rfl, hen', hit', F', N', hsz', hnw', hJ, hi, rfl⟩
  have hlst : H.IsList l items' := ⟨_, N'.get List.mem_cons_self, rfl, _, rfl⟩
  have W := WalksT.enumerateD (prog := prg) (w := w) (A := A) (Draws.list (A := A.in1) hh it l hli items') e hei (notMem2 hei hle.symm) List.mem_cons_self
  have next : ∀ h₁ : Heap, (∀ b o, b ∉ [e, it] → H.get? b = some o → h₁.get? b = some o) → Fr h₀ L h₁ (locs (nms sc) vals') ∧ News h₀ L h₁ ((l, lstO items' kl') :: news') := fun h₁ hk₁ =>
    ⟨⟨F'.ns.at' fun o q => hk₁ _ o hLw q, fun b o q => hk₁ b o (ob b o q) (F'.keep b o q), F'.above⟩, fun p hp => by
      have hpn : p.1 ∉ [e, it] := by
        rcases List.mem_cons.mp hp with rfl | hp
        · simp only [List.mem_cons, List.not_mem_nil, or_false]
          rintro (q | q)
          · exact hle q
          · exact hli q
        · simp only [List.mem_cons, List.not_mem_nil, or_false]
          rintro (q | q)
          · exact (hnw' p hp).1 q
          · exact (hnw' p hp).2 q
      exact ⟨hk₁ _ _ hpn (N' p hp).1, (N' p hp).2⟩⟩
  by_cases hlt : i < n
  · refine W.item i _ _ _ (by rw [hsz']; exact hlt) ⟨⟨old', hen'⟩, hit', hlst⟩ fun T vs h₁ tk₁ hPt _ hT hMid hk₁ => ?_
    obtain ⟨t, v, hv, rfl⟩ := hPt
    refine W.go _ x1 pt i T _ _ _ hMid fun h3 hst3 hk3 => ?_
    obtain ⟨⟨old3, hen3⟩, hit3, _⟩ := hst3
    have ht3 : h3.IsTuple T #[.int i t, v] := hT.at fun o q => hk3 T o (W.apart i T h₁ hMid) q
    refine wpAny_assign_Tuple hh ht3 rfl rfl fun h4 hx4 => ?_
    replace hx4 : Heap.ExtBut h3.objs.size h3 h4 := hx4
    have up4 : ∀ b o, h3.get? b = some o → h4.get? b = some o := fun b o x => hx4 b o (Nat.ne_of_lt (Heap.lt_size x)) x
    obtain ⟨F4, N4⟩ := next h4 fun b o hb x => up4 b o (hk3 b o hb (hk₁ b o hb x))
    obtain ⟨hl1, hl2⟩ := hlen _ _ _ _ hJ
    show wpAny _ A (do holding [v] (assign (.Name xi pk) (envX name sc L a cd cl) (.int i t)); do holding [] (assign (.Name xc pv) (envX name sc L a cd cl) v); pure ()) _ _ _
    refine wpAny_bind (wpAny_holding (wpAny_assign_Name (wpAny_storeName_local (env := envX name sc L a cd cl) (kind_idx ok hxi) F4.ns (fun h5 hn5 hs5 => ?_) hp)))
    replace hs5 : Heap.SameBut L h4 h5 := hs5
    have F5 := F4.set hn5 hs5
    refine wpAny_bind (wpAny_holding (wpAny_assign_Name (wpAny_storeName_local (env := envX name sc L a cd cl) (kind_idx ok hxc) F5.ns (fun h6 hn6 hs6 => wpAny_pure ?_) hp)))
    replace hs6 : Heap.SameBut L h5 h6 := hs6
    have F6 := F5.set hn6 hs6
    have N6 : News h₀ L h6 ((l, lstO items' kl') :: news') := (N4.set hs5).set hs6
    rw [locs_set2 ok.nd (nms_idx hxi) (nms_idx hxc) hl1 hl2] at F6
    have keep6 : ∀ b o, b ≠ L → h3.get? b = some o → h6.get? b = some o := fun b o hb q => hs6.extBut b o hb (hs5.extBut b o hb (up4 b o q))
    have hen6 : IsEnum h6 e it ((i : Int) + 1) old3 := keep6 e _ heL hen3
    have hit6 : h6.IsListIter it l (i + 1) := hit3.at fun o q => keep6 it o hiL q
    refine wpAny_mono (turn _ (fun f s₃ => match f with
      | .next | .cont => At h₀ L sc g d o (ForET (ownOf h₀ [e, it] h6) e it l n (J (i + 1))) s₃
      | .brk => Q .next s₃
      | .ret v => Q (.ret v) s₃) i t v vals' items' kl' news' (ownOf h₀ [e, it] h6) h6 _ hlt (by simpa using hv) hsz' hJ hnw' (fun p hp => by
      have := ownOf_sub p hp
      simpa using this) ⟨_, mem_ownOf (by first | exact Nat.le_of_ble_eq_true rfl | (repeat (first | exact .head _ | apply List.Mem.tail)); done | simp) he0 hen6⟩ (by obtain ⟨q1, q2, _⟩ := hit6; exact ⟨q1, mem_ownOf (by first | exact Nat.le_of_ble_eq_true rfl | (repeat (first | exact .head _ | apply List.Mem.tail)); done | simp) hi0 q2⟩) F6 ((news_ownOf hLw).append N6) (fun f h k vals' items' kl' new hf F N hz hn hj => by rcases hf with rfl | rfl <;> exact At.mk F N ⟨items', kl', new, rfl, hz, hn, hj⟩)) (fun f s₃ h₆ => ?_) fun _ _ e => e
    have fin : At h₀ L sc g d o (ForET (ownOf h₀ [e, it] h6) e it l n (J (i + 1))) s₃ →
        ∃ m, m < n + 1 - i ∧ ForEI g d o sc L h₀ e it l n J m s₃ := by
      rintro ⟨h7, k7, vals7, news7, rfl, F7, N7, items7, kl7, new7, rfl, hsz7, hn7, hJ7⟩
      have back : ∀ b ∈ [e, it], ∀ ob, h6.get? b = some ob → h7.get? b = some ob := fun b hb ob q => (N7 _ (List.mem_append_left _ (mem_ownOf hb (by
        simp only [List.mem_cons, List.not_mem_nil, or_false] at hb
        rcases hb with rfl | rfl
        · exact he0
        · exact hi0) q))).1
      refine ⟨n + 1 - (i + 1), by lia, h7, k7, vals7, items7, kl7, new7, i + 1, old3, rfl, ?_, hit6.at fun o q => back it (by first | exact Nat.le_of_ble_eq_true rfl | (repeat (first | exact .head _ | apply List.Mem.tail)); done | simp) o q, F7, N7.right, hsz7, hn7, hJ7, hlt, rfl⟩
      have := back e (by first | exact Nat.le_of_ble_eq_true rfl | (repeat (first | exact .head _ | apply List.Mem.tail)); done | simp) _ hen6
      show IsEnum h7 e it ((i + 1 : Nat) : Int) old3
      rw [show ((i + 1 : Nat) : Int) = (i : Int) + 1 from rfl]
      exact this
    cases f with
    | ret v => exact h₆
    | brk => exact h₆
    | next => exact fin h₆
    | cont => exact fin h₆
  · have hin : i = n := by lia
    refine W.done _ _ _ (by rw [hsz', ← hin]; exact ⟨⟨old', hen'⟩, hit', hlst⟩) fun h₁ tk₁ hk₁ => wpAny_execs_nil ?_
    obtain ⟨F₁, N₁⟩ := next h₁ hk₁
    exact done h₁ tk₁ vals' items' kl' news' F₁ N₁ (hin ▸ hJ)
theorem sub_str_object : isSubtype (.type "str") (.type "object") = pure true := by rw [isSubtype_type]; kernel_rfl
set_option maxHeartbeats 1000000 in
theorem str_eq_obj (x : Str) (t : Tok) (N : Addr) : Meets (Builtin.«str.__eq__» ⟨[.str x t, .ref N], []⟩) (fun _ R s => s.heap.get? N = some objO ∧ R (.ok (.ret .notImplemented)) s) :=
  Meets.of_wp fun prog w A R s hs => by
    obtain ⟨hp, g, d, tk, os⟩ := s; obtain ⟨hl, h⟩ := hs
    wp_walk using PySem.AutoSeq1.wpAny_loadPart' hl
    exact ⟨_, rfl, h⟩
end
end Mine
namespace Mine
/-! what stands behind the top, as far as the proof leans on it; printed by wip/mkfrag.py -/
noncomputable def clsStmt (i j : Nat) : Stmt := (match stmtAt i with | .ClassDef _ _ _ b _ _ _ _ _ _ _ => b | _ => []).getD j (.Pass default)
noncomputable def cArgs (i j : Nat) : Arguments := match clsStmt i j with | .FunctionDef _ a _ _ _ _ _ _ _ _ => a | _ => default
noncomputable def cBody (i j : Nat) : List Stmt := match clsStmt i j with | .FunctionDef _ _ b _ _ _ _ _ _ _ => b | _ => []
noncomputable def cScope (i j : Nat) : Scope := match clsStmt i j with | .FunctionDef _ _ _ _ _ _ sc _ _ _ => sc | _ => default
noncomputable def misK (P : Params) : Frag := [
  (2, { cls := Value.none, data := Data.dict #[{ hash := PyData.keyHash P ((⟨#[105, 109, 112, 111, 114, 116, 46, 108, 111, 97, 100, 101, 100, 46, 95, 115, 114, 101]⟩ : Str)), key := Value.str ((⟨#[105, 109, 112, 111, 114, 116, 46, 108, 111, 97, 100, 101, 100, 46, 95, 115, 114, 101]⟩ : Str)) 183, val := Value.bool true }, { hash := PyData.keyHash P (Str.ofString "class._frozen_importlib.BuiltinImporter"), key := Value.str (Str.ofString "class._frozen_importlib.BuiltinImporter") 185, val := Value.ref 14 }, { hash := PyData.keyHash P ((⟨#[119, 97, 116, 99, 104, 101, 100, 46, 105, 109, 112, 111, 114, 116]⟩ : Str)), key := Value.str ((⟨#[119, 97, 116, 99, 104, 101, 100, 46, 105, 109, 112, 111, 114, 116]⟩ : Str)) 206, val := Value.ref 18 }, { hash := PyData.keyHash P (Str.ofString "class._frozen_importlib.ModuleSpec"), key := Value.str (Str.ofString "class._frozen_importlib.ModuleSpec") 216, val := Value.ref 22 }, { hash := PyData.keyHash P (Str.ofString "sys.modules.booked-epoch"), key := Value.str (Str.ofString "sys.modules.booked-epoch") 245, val := Value.int 3 0 }, { hash := PyData.keyHash P ((⟨#[105, 109, 112, 111, 114, 116, 46, 108, 97, 116, 101, 114, 45, 108, 97, 105, 100, 46, 95, 115, 114, 101]⟩ : Str)), key := Value.str ((⟨#[105, 109, 112, 111, 114, 116, 46, 108, 97, 116, 101, 114, 45, 108, 97, 105, 100, 46, 95, 115, 114, 101]⟩ : Str)) 270, val := Value.bool true }, { hash := PyData.keyHash P (Str.ofString "watched.library"), key := Value.str (Str.ofString "watched.library") 272, val := Value.ref 27 }, { hash := PyData.keyHash P (Str.ofString "watched.library-objects"), key := Value.str (Str.ofString "watched.library-objects") 0, val := Value.str (Str.ofString "\x0c") 0 }, { hash := PyData.keyHash P (Str.ofString "watched.library-deep._sre"), key := Value.str (Str.ofString "watched.library-deep._sre") 273, val := Value.str (Str.ofString "\x04\x00\x00\x0b\x04\x00\x00\x0b\x04\x00\x00\x03\x04\x00\x00\x0b\x08\x04dict\x02") 0 }] 9 }),
  (3, { cls := Value.type "dict", data := Data.dict #[{ hash := PyData.keyHash P (Str.ofString "__name__"), key := Value.str (Str.ofString "__name__") 165, val := Value.str (Str.ofString "law_ij0108_01") 749 }, { hash := PyData.keyHash P (Str.ofString "__doc__"), key := Value.str (Str.ofString "__doc__") 166, val := Value.none }, { hash := PyData.keyHash P (Str.ofString "__package__"), key := Value.str (Str.ofString "__package__") 167, val := Value.none }, { hash := PyData.keyHash P (Str.ofString "__loader__"), key := Value.str (Str.ofString "__loader__") 168, val := Value.builtin "__main__.__loader__#opaque" }, { hash := PyData.keyHash P (Str.ofString "__spec__"), key := Value.str (Str.ofString "__spec__") 169, val := Value.none }, { hash := PyData.keyHash P (Str.ofString "__annotations__"), key := Value.str (Str.ofString "__annotations__") 170, val := Value.ref 6 }, { hash := PyData.keyHash P (Str.ofString "__builtins__"), key := Value.str (Str.ofString "__builtins__") 171, val := Value.ref 4 }, { hash := PyData.keyHash P (Str.ofString "__file__"), key := Value.str (Str.ofString "__file__") 173, val := Value.str (Str.ofString "/claim/cut.py") 172 }, { hash := PyData.keyHash P (Str.ofString "__cached__"), key := Value.str (Str.ofString "__cached__") 174, val := Value.none }, { hash := PyData.keyHash P (Str.ofString "_sre"), key := Value.str (Str.ofString "_sre") 275, val := Value.ref 12 }, { hash := PyData.keyHash P (Str.ofString "_wall"), key := Value.str (Str.ofString "_wall") 288, val := Value.ref 38 }, { hash := PyData.keyHash P (Str.ofString "_twin_re_1"), key := Value.str (Str.ofString "_twin_re_1") 328, val := Value.ref 43 }, { hash := PyData.keyHash P (Str.ofString "translate"), key := Value.str (Str.ofString "translate") 338, val := Value.ref 50 }, { hash := PyData.keyHash P (Str.ofString "_special_chars_map"), key := Value.str (Str.ofString "_special_chars_map") 486, val := Value.ref 52 }, { hash := PyData.keyHash P (Str.ofString "escape"), key := Value.str (Str.ofString "escape") 493, val := Value.ref 62 }, { hash := PyData.keyHash P (Str.ofString "_translate"), key := Value.str (Str.ofString "_translate") 514, val := Value.ref 69 }, { hash := PyData.keyHash P (Str.ofString "_join_translated_parts"), key := Value.str (Str.ofString "_join_translated_parts") 527, val := Value.ref 76 }, { hash := PyData.keyHash P (Str.ofString "_tuplegetter"), key := Value.str (Str.ofString "_tuplegetter") 586, val := Value.ref 115 }, { hash := PyData.keyHash P (Str.ofString "unorderable_list_difference"), key := Value.str (Str.ofString "unorderable_list_difference") 597, val := Value.ref 126 }, { hash := PyData.keyHash P (Str.ofString "Mismatch"), key := Value.str (Str.ofString "Mismatch") 725, val := Value.ref 197 }, { hash := PyData.keyHash P (Str.ofString "_Mismatch"), key := Value.str (Str.ofString "_Mismatch") 726, val := Value.ref 197 }, { hash := PyData.keyHash P (Str.ofString "_count_diff_all_purpose"), key := Value.str (Str.ofString "_count_diff_all_purpose") 748, val := Value.ref 207 }, { hash := PyData.keyHash P (Str.ofString "_law_signs"), key := Value.str (Str.ofString "_law_signs") 756, val := Value.ref 212 }, { hash := PyData.keyHash P (Str.ofString "_law_pieces"), key := Value.str (Str.ofString "_law_pieces") 770, val := Value.ref 219 }, { hash := PyData.keyHash P (Str.ofString "_law_fits"), key := Value.str (Str.ofString "_law_fits") 776, val := Value.ref 224 }, { hash := PyData.keyHash P (Str.ofString "_law_takes"), key := Value.str (Str.ofString "_law_takes") 787, val := Value.ref 231 }, { hash := PyData.keyHash P (Str.ofString "_law_taken"), key := Value.str (Str.ofString "_law_taken") 793, val := Value.ref 236 }, { hash := PyData.keyHash P (Str.ofString "_law_drawn"), key := Value.str (Str.ofString "_law_drawn") 805, val := Value.ref 243 }, { hash := PyData.keyHash P (Str.ofString "_law_filled"), key := Value.str (Str.ofString "_law_filled") 811, val := Value.ref 248 }, { hash := PyData.keyHash P (Str.ofString "_law_names"), key := Value.str (Str.ofString "_law_names") 817, val := Value.ref 253 }, { hash := PyData.keyHash P (Str.ofString "_law_ways"), key := Value.str (Str.ofString "_law_ways") 829, val := Value.ref 260 }, { hash := PyData.keyHash P (Str.ofString "law"), key := Value.str (Str.ofString "law") 835, val := Value.ref 265 }] 32 }),
  (52, { cls := Value.type "dict", data := Data.dict #[{ hash := 40, key := Value.int 40 342, val := Value.str (Str.ofString "\\(") 346 }, { hash := 41, key := Value.int 41 348, val := Value.str (Str.ofString "\\)") 352 }, { hash := 91, key := Value.int 91 354, val := Value.str (Str.ofString "\\[") 358 }, { hash := 93, key := Value.int 93 360, val := Value.str (Str.ofString "\\]") 364 }, { hash := 123, key := Value.int 123 366, val := Value.str (Str.ofString "\\{") 370 }, { hash := 125, key := Value.int 125 372, val := Value.str (Str.ofString "\\}") 376 }, { hash := 63, key := Value.int 63 378, val := Value.str (Str.ofString "\\?") 382 }, { hash := 42, key := Value.int 42 384, val := Value.str (Str.ofString "\\*") 388 }, { hash := 43, key := Value.int 43 390, val := Value.str (Str.ofString "\\+") 394 }, { hash := 45, key := Value.int 45 396, val := Value.str (Str.ofString "\\-") 400 }, { hash := 124, key := Value.int 124 402, val := Value.str (Str.ofString "\\|") 406 }, { hash := 94, key := Value.int 94 408, val := Value.str (Str.ofString "\\^") 412 }, { hash := 36, key := Value.int 36 414, val := Value.str (Str.ofString "\\$") 418 }, { hash := 92, key := Value.int 92 420, val := Value.str (Str.ofString "\\\\") 424 }, { hash := 46, key := Value.int 46 426, val := Value.str (Str.ofString "\\.") 430 }, { hash := 38, key := Value.int 38 432, val := Value.str (Str.ofString "\\&") 436 }, { hash := 126, key := Value.int 126 438, val := Value.str (Str.ofString "\\~") 442 }, { hash := 35, key := Value.int 35 444, val := Value.str (Str.ofString "\\#") 448 }, { hash := 32, key := Value.int 32 450, val := Value.str (Str.ofString "\\ ") 454 }, { hash := 9, key := Value.int 9 456, val := Value.str (Str.ofString "\\\t") 460 }, { hash := 10, key := Value.int 10 462, val := Value.str (Str.ofString "\\\n") 466 }, { hash := 13, key := Value.int 13 468, val := Value.str (Str.ofString "\\\x0d") 472 }, { hash := 11, key := Value.int 11 474, val := Value.str (Str.ofString "\\\x0b") 478 }, { hash := 12, key := Value.int 12 480, val := Value.str (Str.ofString "\\\x0c") 484 }] 24 }),
  (143, { cls := Value.type "code", data := Data.fields #[Value.str (Str.ofString "__new__") 619, Value.str (Str.ofString "Mismatch.__new__") 620, Value.str (Str.ofString "/claim/cut.py") 621, Value.int 152 0, Value.int 4 0, Value.int 0 0, Value.int 0 0, Value.int 3 0, Value.ref 138, Value.bool true, Value.int 276 0, Value.ref 139, Value.none, Value.ref 140, Value.ref 141, Value.ref 142, Value.int 626 0, Value.int 152 0, Value.str (Str.ofString "/claim/cut.py") 627] }),
  (144, { cls := Value.type "function", data := Data.func { name := Str.ofString "__new__", qualname := Str.ofString "Mismatch.__new__", params := cArgs 14 4, body := FuncBody.stmts (cBody 14 4), scope := cScope 14 4, globals := 3, closure := [], defaults := Value.none, kwdefaults := Value.none, doc := Value.str ((⟨#[67, 114, 101, 97, 116, 101, 32, 110, 101, 119, 32, 105, 110, 115, 116, 97, 110, 99, 101, 32, 111, 102, 32, 77, 105, 115, 109, 97, 116, 99, 104, 40, 97, 99, 116, 117, 97, 108, 44, 32, 101, 120, 112, 101, 99, 116, 101, 100, 44, 32, 118, 97, 108, 117, 101, 41]⟩ : Str)) 628, pyModule := Value.str (Str.ofString "cpy313.unittest.util") 528, code := Value.ref 143 } }),
  (196, { cls := Value.type "dict", data := Data.dict #[{ hash := PyData.keyHash P (Str.ofString "__module__"), key := Value.str (Str.ofString "__module__") 605, val := Value.str (Str.ofString "cpy313.unittest.util") 528 }, { hash := PyData.keyHash P (Str.ofString "__firstlineno__"), key := Value.str (Str.ofString "__firstlineno__") 609, val := Value.int 146 608 }, { hash := PyData.keyHash P (Str.ofString "__doc__"), key := Value.str (Str.ofString "__doc__") 611, val := Value.str (Str.ofString "Mismatch(actual, expected, value)") 610 }, { hash := PyData.keyHash P (Str.ofString "__slots__"), key := Value.str (Str.ofString "__slots__") 613, val := Value.ref 135 }, { hash := PyData.keyHash P (Str.ofString "_fields"), key := Value.str (Str.ofString "_fields") 617, val := Value.ref 136 }, { hash := PyData.keyHash P (Str.ofString "_field_defaults"), key := Value.str (Str.ofString "_field_defaults") 618, val := Value.ref 137 }, { hash := PyData.keyHash P (Str.ofString "__new__"), key := Value.str (Str.ofString "__new__") 629, val := Value.ref 198 }, { hash := PyData.keyHash P (Str.ofString "_make"), key := Value.str (Str.ofString "_make") 651, val := Value.ref 153 }, { hash := PyData.keyHash P (Str.ofString "_replace"), key := Value.str (Str.ofString "_replace") 662, val := Value.ref 162 }, { hash := PyData.keyHash P (Str.ofString "__replace__"), key := Value.str (Str.ofString "__replace__") 663, val := Value.ref 162 }, { hash := PyData.keyHash P (Str.ofString "__repr__"), key := Value.str (Str.ofString "__repr__") 671, val := Value.ref 169 }, { hash := PyData.keyHash P (Str.ofString "_asdict"), key := Value.str (Str.ofString "_asdict") 678, val := Value.ref 176 }, { hash := PyData.keyHash P (Str.ofString "__getnewargs__"), key := Value.str (Str.ofString "__getnewargs__") 686, val := Value.ref 183 }, { hash := PyData.keyHash P (Str.ofString "__match_args__"), key := Value.str (Str.ofString "__match_args__") 690, val := Value.ref 184 }, { hash := PyData.keyHash P (Str.ofString "actual"), key := Value.str (Str.ofString "actual") 700, val := Value.ref 186 }, { hash := PyData.keyHash P (Str.ofString "expected"), key := Value.str (Str.ofString "expected") 710, val := Value.ref 189 }, { hash := PyData.keyHash P (Str.ofString "value"), key := Value.str (Str.ofString "value") 720, val := Value.ref 192 }, { hash := PyData.keyHash P (Str.ofString "__static_attributes__"), key := Value.str (Str.ofString "__static_attributes__") 721, val := Value.ref 194 }] 2 }),
  (197, { cls := Value.type "type", data := Data.cls { name := Str.ofString "Mismatch", bases := [Value.type "tuple"], mro := [Value.ref 197, Value.type "tuple", Value.type "object"], ns := 196, qualname := Str.ofString "Mismatch", hasDict := false }, slots := #[some (Value.ref 127), none, some (Value.str (Str.ofString "Mismatch") 598), some (Value.str (Str.ofString "Mismatch") 606), some Value.none, some (Value.bool false)] }),
  (198, { cls := Value.type "staticmethod", data := Data.fields #[Value.ref 144] })]
theorem misK_addrs (P : Params) : [2, 3, 52, 143, 144, 196, 197, 198] = (misK P).map (·.1) := by kernel_rfl
theorem mk_reads (P : Params) : readsIn (misK P) 197 (.type "type") = true := by kernel_rfl
theorem mk_new (P : Params) : findCls (misK P) (.ref 197) (.type "type") "__new__" = some (.get (.builtin "staticmethod.__get__") (.ref 198) .none (.ref 197)) := by kernel_rfl
theorem mk_sm (P : Params) : recIn (misK P) 198 "staticmethod" = some [.ref 144] := by kernel_rfl
theorem mk_call (P : Params) : specialIn (misK P) (.ref 197) "__call__" = some (some (.builtin "type.__call__")) := by kernel_rfl
theorem mk_init (P : Params) : findIn (misK P) (.ref 197) "__init__" = some (some (.builtin "object.__init__")) := by kernel_rfl
theorem mk_eq (P : Params) : findIn (misK P) (.ref 197) "__eq__" = some (some (.builtin "tuple.__eq__")) := by kernel_rfl
theorem mk_ty (P : Params) : instIn (misK P) (.ref 197) (.type "type") = some true := by kernel_rfl
theorem mk_tup (P : Params) : subIn (misK P) (.ref 197) (.type "tuple") = some true := by kernel_rfl
theorem mk_self (P : Params) : subIn (misK P) (.ref 197) (.ref 197) = some true := by kernel_rfl
theorem mk_obj (P : Params) : subIn (misK P) (.ref 197) (.type "object") = some true := by kernel_rfl
theorem mk_mm (P : Params) : nsIn (misK P) 3 "_Mismatch" = some (some (.ref 197)) := by kernel_rfl
theorem mk_sp (P : Params) : nsIn (misK P) 3 "_special_chars_map" = some (some (.ref 52)) := by kernel_rfl
end Mine
namespace Mine
noncomputable abbrev misO (dx : Addr) (vs : Array Value) : Obj := { cls := .ref 197, dict := some dx, data := .seq vs }
theorem mk_cls (P : Params) : ∃ sl, (misK P).lookup 197 = some ⟨.type "type", none, .cls { name := "Mismatch", bases := [.type "tuple"], mro := [.ref 197, .type "tuple", .type "object"], ns := 196, qualname := "Mismatch", hasDict := false }, sl⟩ ∧ sl[4]? = some (some .none) := ⟨_, rfl, rfl⟩
theorem mk_fn (P : Params) : ∃ o, (misK P).lookup 144 = some o ∧ o.cls = .type "function" ∧ ∃ fd, o.data = .func fd ∧ fd.name = "__new__" ∧ fd.qualname = "Mismatch.__new__" ∧ fd.params = cArgs 14 4 ∧ fd.body = .stmts (cBody 14 4) ∧ fd.scope = cScope 14 4 ∧ fd.globals = mainGlobals ∧ fd.closure = [] ∧ fd.defaults = .none ∧ fd.kwdefaults = .none ∧ fd.builtins = builtinsNs ∧ fd.code = .ref 143 :=
  ⟨_, rfl, rfl, _, rfl, rfl, rfl, rfl, rfl, rfl, rfl, rfl, rfl, rfl, rfl, rfl⟩
section
variable {M : Model} {h : Heap} {P : Params}
theorem lk_madeBy (X : (misK P).In h) : Looks M h (Bind.madeBy (.ref 197)) none := by
  obtain ⟨sl, ho, h4⟩ := mk_cls P
  have hm : Looks M h (mroOf (.ref 197)) [.ref 197, .type "tuple", .type "object"] := (looks_clsIn X (by unfold clsIn; rw [ho])).andThen .now
  intro A Q E s k q
  unfold Bind.madeBy
  refine wpAny_bind (hm A _ E s k ?_)
  rw [List.forIn_cons]
  refine wpAny_bind (wpAny_bind (wpAny_bind (wpAny_bind (wpAny_loadPart (k _ _ (X _ _ ho)) (wpAny_pure ?_)))))
  dsimp only
  rw [h4]
  exact wpAny_pure (wpAny_pure (wpAny_pure q))
theorem tup_mro : mroOf (.type "tuple") = pure [.type "tuple", .type "object"] := by rw [mroOf_type]; kernel_rfl
theorem tup_made : Bind.madeBy (.type "tuple") = pure (some "tuple.__new__") := madeBy_type tup_mro (by rw [typeLookup_type, builtinLookup_eq_fast]; kernel_rfl) (by decide +kernel)
theorem tup_best : Builtin.Slots.bestBase [.type "tuple"] = pure (.type "tuple") := by kernel_rfl
theorem lk_static (X : (misK P).In h) : Looks M h (Bind.staticBase (.ref 197)) (.type "tuple") := by
  obtain ⟨sl, ho, h4⟩ := mk_cls P
  have hc : Looks M h (classData 197) { name := "Mismatch", bases := [.type "tuple"], mro := [.ref 197, .type "tuple", .type "object"], ns := 196, qualname := "Mismatch", hasDict := false } := looks_clsIn X (by unfold clsIn; rw [ho])
  have hm : Looks M h (mroOf (.ref 197)) [.ref 197, .type "tuple", .type "object"] := hc.andThen .now
  have hb := lk_madeBy (M := M) X
  intro A Q E s k q
  have hb' := hb.keeps k
  have hc' := hc.keeps k
  have hm' := hm.keeps k
  obtain ⟨hh, g, d, t, os⟩ := s
  dsimp only at hb' hc' hm' k
  have e1 := Looks.of_pure (M := M) (h := hh) tup_best
  have e2 := Looks.of_pure (M := M) (h := hh) tup_made
  unfold Bind.staticBase
  repeat (first | with_reducible exact wpAny_pure q | lk)
theorem tn_kind : builtinKind "tuple.__new__" = some .builtinFn := by decide +kernel
theorem tn_split : splitId "tuple.__new__" = some ("tuple", "__new__") := by decide +kernel
theorem tn_args (a b : Addr) : argsOk "tuple.__new__" ⟨[.ref a, .ref b], []⟩ := by unfold argsOk; kernel_rfl
theorem tn_canon : (Manifest.canonical "tuple.__new__" != Manifest.canonical "tuple.__new__") = false := by simp
end
section
variable {w : World} {A : Around} {R : Result → Shared → Prop} {h : Heap} {g : Array GenState} {d : Drawn} {k : Nat} {o : OsState}
set_option maxHeartbeats 4000000 in
theorem tn_call {T : Addr} {items : Array Value} (X : (misK w.params).In h) (hT : h.get? T = some { cls := .type "tuple", data := .seq items }) (hsz : items.size ≤ 1000)
    (q : ∀ x dx h' k', Kp h h' → h.get? x = none → h'.get? x = some (misO dx items) → R (.ok (.ret (.ref x))) ⟨h', g, d, k', o⟩) :
    codeAny (model prg w) A (.call (.builtin "tuple.__new__") ⟨[.ref 197, .ref T], []⟩) R ⟨h, g, d, k, o⟩ := by
  obtain ⟨sl, ho, h4⟩ := mk_cls w.params
  have hC := X _ _ ho
  have hm : Looks (model prg w) h (mroOf (.ref 197)) [.ref 197, .type "tuple", .type "object"] := (looks_clsIn X (by unfold clsIn; rw [ho])).andThen .now
  have l1 := lk_madeBy (M := model prg w) X
  have l2 := lk_static (M := model prg w) X
  have l3 := Looks.of_pure (M := model prg w) (h := h) tup_made
  have l4 := looks_subIn (M := model prg w) X (mk_tup w.params)
  have l5 : Looks (model prg w) h (typeLookup (.ref 197) "__init__") (some (.builtin "object.__init__")) := looks_findIn X (mk_init w.params)
  refine codeAny_call_builtin PySem.F.plain_tuple_new PySem.F.entry_tuple_new ?_
  simp only [checkBuiltinCall, tn_kind, tn_split]
  repeat (first | with_reducible refine wpAny_collect_seq T (.inr rfl) hT rfl rfl (fun h' kp => ?_) (by rw [sizeLine]; lia) | simp only [tn_canon, Bool.false_eq_true, if_false] | lk)
  have e0 : items.toList.toArray = items := by simp
  rw [e0, if_neg (by rw [sizeLine]; lia)]
  unfold newObjAsIs classHasDel
  have hC2 := kp _ _ hC
  refine wpAny_bind (wpAny_alloc (wpAny_bind (wpAny_bind (wpAny_load (Heap.get?_push_of_some _ (Heap.get?_push_of_some _ hC2)) (wpAny_pure ?_)))))
  refine wpAny_pure (wpAny_pure ?_)
  have kp2 : Kp h ((h'.push { cls := .type "dict", data := .dict #[] }).push (misO h'.objs.size items)) := fun b o e => Heap.get?_push_of_some _ (Heap.get?_push_of_some _ (kp _ _ e))
  refine q (h'.push { cls := .type "dict", data := .dict #[] }).objs.size h'.objs.size _ k kp2 ?_ (Heap.get?_push_size _ rfl)
  cases e : h.get? (h'.push { cls := .type "dict", data := .dict #[] }).objs.size with
  | none => rfl
  | some ob => exact absurd (Heap.lt_size (Heap.get?_push_of_some { cls := .type "dict", data := .dict #[] } (kp _ _ e))) (Nat.lt_irrefl _)
theorem scN_ok : ScOk (cScope 14 4) := .of (by decide +kernel)
theorem mk_cd (P : Params) : ∃ o vs t, (misK P).lookup 143 = some o ∧ o.data = .fields vs ∧ vs[1]? = some (.str "Mismatch.__new__" t) := ⟨_, _, _, rfl, rfl, rfl⟩
theorem mk_tn (P : Params) : findCls (misK P) (.type "tuple") (.type "type") "__new__" = some (.val (.builtin "tuple.__new__")) := by kernel_rfl
theorem oi_args4 (a b c d : Value) : argsOk "object.__init__" ⟨[a, b, c, d], []⟩ := by unfold argsOk; kernel_rfl
end
end Mine
namespace Mine
section
variable {w : World} {A : Around} {R : Result → Shared → Prop} {h : Heap} {g : Array GenState} {d : Drawn} {k : Nat} {o : OsState}
set_option maxHeartbeats 4000000 in
theorem mis_new {A : Around} {R : Result → Shared → Prop} {ad : Nat → Addr} {mg mb : Str → Option Value} {v1 v2 v3 : Value} (hd : A.depth < recursionLimit) (X : (misK w.params).In h) (l : Lib ad mg mb h)
    (q : ∀ x dx h' k', Kp h h' → h.get? x = none → h'.get? x = some (misO dx #[v1, v2, v3]) → R (.ok (.ret (.ref x))) ⟨h', g, d, k', o⟩) : codeAny (model prg w) A (.call (.ref 144) ⟨[.ref 197, v1, v2, v3], []⟩) R ⟨h, g, d, k, o⟩ := by
  obtain ⟨ob, ho, hoc, fd, hfd, e1, e2, e3, e4, e5, e6, e7, e8, e9, e10, e11⟩ := mk_fn w.params
  obtain ⟨oc, vsc, tc, hc, hcd, hc1⟩ := mk_cd w.params
  obtain ⟨name, qualname, params, body, scope, globals, closure, defaults, kwdefaults, doc, pyModule, annotations, code, closureTuple, builtins⟩ := fd
  simp only at e1 e2 e3 e4 e5 e6 e7 e8 e9 e10 e11
  subst e1 e2 e3 e4 e5 e6 e7 e8 e9 e10 e11
  have ok := scN_ok
  refine codeAny_call_plain (binds := [("_cls", .ref 197), ("actual", v1), ("expected", v2), ("value", v3)]) hd (X _ _ ho) hfd l.nolimit ⟨143, oc, vsc, tc, rfl, X _ _ hc, hcd, hc1⟩ rfl (by with_unfolding_all rfl) (show ∀ x ∈ (cScope 14 4).names, x.2 ≠ .cell from by decide +kernel) ?_ (fun h₁ hns hk => ?_) ok.co ok.gen ok.fk
  · intro x hx
    simp only [List.mem_cons, List.not_mem_nil, or_false] at hx
    rcases hx with rfl | rfl | rfl | rfl
    · exact show (cScope 14 4).names.lookup ("_cls" : Str) = some NameKind.local by decide +kernel
    · exact show (cScope 14 4).names.lookup ("actual" : Str) = some NameKind.local by decide +kernel
    · exact show (cScope 14 4).names.lookup ("expected" : Str) = some NameKind.local by decide +kernel
    · exact show (cScope 14 4).names.lookup ("value" : Str) = some NameKind.local by decide +kernel
  refine wpAny_mono (E := fun _ _ => False) ?_ (fun _ _ x => x) (fun _ _ x => x.elim)
  show wpAny (model prg w) (A.deeper (envX "Mismatch.__new__" (cScope 14 4) h.objs.size 144 (.ref 143) [])) (execs (cBody 14 4) (envX "Mismatch.__new__" (cScope 14 4) h.objs.size 144 (.ref 143) [])) _ _ _
  have F : Fr h h.objs.size h₁ (locs (nms (cScope 14 4)) [some (.ref 197), some v1, some v2, some v3, none]) := by
    refine ⟨?_, hk, Nat.le_refl _⟩
    have e := binds_locs (ps := ["_cls", "actual", "expected", "value"]) (rest := ["tuple"]) (args := [.ref 197, v1, v2, v3]) (by decide) rfl
    have e2 : nms (cScope 14 4) = (["_cls", "actual", "expected", "value"] : List Str) ++ (["tuple"] : List Str) := by with_unfolding_all rfl
    rw [e2]
    rw [← show (["_cls", "actual", "expected", "value"] : List Str).zip [Value.ref 197, v1, v2, v3] = ([("_cls", Value.ref 197), ("actual", v1), ("expected", v2), ("value", v3)] : List (Str × Value)) from rfl, e] at hns
    exact hns
  refine wpAny_execs_cons (hideLet ?_)
  intro PHid
  refine wpAny_Expr_any (cStr fun t1 k1 => ?_)
  refine wpAny_execs_cons (hideLet ?_)
  intro PHid
  refine wpAny_Return_some (MethodCall_ ?_)
  refine ldb 4 ok l F rfl (by decide) PyProof.Rows.boot_tuple ?_
  refine method_type (T := "tuple") (name := "__new__") F X (by kernel_rfl) (by decide +kernel) (mk_tn w.params) (by decide +kernel) ?_
  refine cwB (first := []) ?_
  refine arg (ldl 0 ok F rfl rfl (arg ?_))
  refine Tuple_ (arg (ldl 1 ok F rfl rfl (arg (ldl 2 ok F rfl rfl (arg (ldl 3 ok F rfl rfl (args_nil ?_)))))))
  refine newTupS F News.nil (fun T h2 kp2 F2 N2 _ => args_nil (wpAny_call ?_))
  refine tn_call (X.keeps F2.keep) (N2.get List.mem_cons_self) (by first | exact Nat.le_of_ble_eq_true rfl | (repeat (first | exact .head _ | apply List.Mem.tail)); done | simp) (fun x dx h3 k3 kp3 hx0 hx => ?_)
  refine q x dx h3 k3 (fun b o e => kp3 _ _ (F2.keep _ _ e)) ?_ hx
  cases e : h.get? x with
  | none => rfl
  | some ob => have := F2.keep _ _ e; rw [hx0] at this; cases this
set_option maxHeartbeats 4000000 in
theorem mis_call {A : Around} {E : Value → Shared → Prop} {Q : Value → Shared → Prop} {ad : Nat → Addr} {mg mb : Str → Option Value} {v1 v2 v3 : Value} (hd : A.depth + 1 < recursionLimit) (X : (misK w.params).In h) (l : Lib ad mg mb h)
    (q : ∀ x dx h' k', Kp h h' → h.get? x = none → h'.get? x = some (misO dx #[v1, v2, v3]) → Q (.ref x) ⟨h', g, d, k', o⟩) : wpAny (model prg w) A (call (.ref 197) [v1, v2, v3]) Q E ⟨h, g, d, k, o⟩ := by
  obtain ⟨sl, ho, h4⟩ := mk_cls w.params
  have hC := X _ _ ho
  have hm : Looks (model prg w) h (mroOf (.ref 197)) [.ref 197, .type "tuple", .type "object"] := (looks_clsIn X (by unfold clsIn; rw [ho])).andThen .now
  have l1 := lk_madeBy (M := model prg w) X
  have lc := looks_specialIn (M := model prg w) X (mk_call w.params)
  have lt := looks_instIn (M := model prg w) X (mk_ty w.params)
  refine wpAny_call (codeAny_of_tree ?_)
  show wpAny _ _ (callAny (.ref 197) _) _ _ _
  refine nd_load hC ?_
  show wpAny _ _ (callAny.viaDunder (.ref 197) _) _ _ _
  unfold callAny.viaDunder
  refine wpAny_bind (lc.at ?_)
  dsimp only
  rw [tc_bind]
  refine wpAny_bind (wpAny_pure (wpAny_bind (wpAny_pure ?_)))
  refine wpAny_pure (a := Fin.again (.call (.builtin "type.__call__") ⟨.ref 197 :: [v1, v2, v3], []⟩)) (And.intro rfl ?_)
  show codeAny _ _ (.call (.builtin "type.__call__") ⟨[.ref 197, v1, v2, v3], []⟩) _ _
  refine codeAny_call_builtin_at (Code.quiet_builtin _ (by decide +kernel)) entry_typeCall ?_
  refine check_slot (i := "type.__call__") (self := .ref 197) (rest := [v1, v2, v3]) (kw := []) tc_kind tc_split lt (tc_args _ _ _) ?_
  unfold Builtin.«type.__call__»
  repeat (first | with_reducible refine wpAny_call ?_ | with_reducible refine cls_bind X (mk_reads w.params) (mk_new w.params) ?_ | lk)
  refine sm_get X (mk_sm w.params) ?_
  show wpAny _ _ (handedOut (.ref 144)) _ _ _
  refine wpAny_pure ?_
  show wpAny _ _ (holding [.ref 144] (call (.ref 144) [.ref 197, v1, v2, v3] []) >>= _) _ _ _
  refine wpAny_bind (wpAny_holding (wpAny_call ?_))
  refine mis_new (by show A.depth + 1 < _; exact hd) X l (fun x dx h' k' kp hx0 hx => ?_)
  show wpAny _ _ _ _ _ _
  have X' := X.keeps kp
  have t1 : Looks (model prg w) h' (typeOf (.ref x)) (.ref 197) := (Looks.ld hx).andThen .now
  have t2 := looks_subIn (M := model prg w) X' (mk_self w.params)
  have t3 := looks_subIn (M := model prg w) X' (mk_obj w.params)
  have t4 := looks_findIn (M := model prg w) X' (mk_init w.params)
  have t5 := lk_madeBy (M := model prg w) X'
  have t6 : Looks (model prg w) h' (isInstance (.ref x) (.type "object")) true := t1.andThen t3
  have b1 := Looks.of_pure (M := model prg w) (h := h') (oi_bind (.ref x))
  unfold isInstance callSpecial? specialOf
  repeat (first | with_reducible refine wpAny_call ?_ | lk)
  show codeAny _ _ (.call (.builtin "object.__init__") ⟨[.ref x, v1, v2, v3], []⟩) _ _
  refine codeAny_call_builtin oi_plain entry_oi ?_
  refine check_slot (i := "object.__init__") (self := .ref x) (rest := [v1, v2, v3]) (kw := []) oi_kind oi_split t6 (oi_args4 (.ref x) v1 v2 v3) ?_
  unfold Builtin.«object.__init__»
  repeat lk
  exact q x dx h' k' kp hx0 hx
end
end Mine
namespace Mine
theorem hidePost {M : Model} {A : Around} {α : Type} {t : Sem α} {Q : α → Shared → Prop} {E : Value → Shared → Prop} {s : Shared} (h : ∀ P : α → Shared → Prop, (∀ a s, Q a s → P a s) → wpAny M A t P E s) : wpAny M A t Q E s := h Q fun _ _ q => q
section
variable {w : World} {A : Around} {E : Value → Shared → Prop} {h : Heap} {g : Array GenState} {d : Drawn} {k : Nat} {o : OsState} {name : Str} {sc : Scope} {L a : Addr} {cd : Value} {cl : List (Str × Addr)} {h₀ : Heap} {vals : List (Option Value)}
  {m : Str → Option Value} {news : List (Addr × Obj)} {env : Env}
theorem eqObjStr {N : Addr} {x : Str} {t : Tok} {Q : Value → Shared → Prop} (hN : h.get? N = some objO) (hu : A.units < cLine) (q : Q (.bool false) ⟨h, g, d, k, o⟩) : wpAny (model prg w) A (compareOp .Eq (.ref N) (.str x t)) Q E ⟨h, g, d, k, o⟩ := by
  have ha : (⟨h, g, d, k, o⟩ : Shared).TypeIs (.ref N) "object" := ⟨_, hN, rfl⟩
  have hb : (⟨h, g, d, k, o⟩ : Shared).TypeIs (.str x t) "str" := rfl
  show wpAny _ A (richCompare .Eq _ _) Q E _
  have h1 := PySem.F.slot_object_eq
  have h2 := PySem.F.slot_str_eq_refl
  rcases hi : cmpInfo CmpOp.Eq with ⟨sym, f, r⟩
  rw [hi] at h1 h2
  simp only [richCompare, hi, ha.oneThing_none]
  with_reducible refine wpAny_holding ?_
  refine wpAny_bind (wpAny_cRoomFor_or (.inr hu) ?_)
  refine wpAny_bind (wpAny_typeOf ha (wpAny_bind (wpAny_typeOf hb ?_)))
  simp only [show (Value.type "object" != Value.type "str") = true from by decide, if_true]
  refine wpAny_bind (wpAny_of_eq sub_str_object ?_)
  simp only [if_true]
  refine wpAny_bind (m := tryCompare (.str x t) _ (.ref N)) (wpAny_tryCompare_declines hb h2 (call_meets h2 hb PySem.F.entry_str_eq (PySem.F.args_str_eq_2 _ _) (str_eq_obj x t N) ⟨hN, rfl, ?_⟩))
  refine wpAny_bind (m := tryCompare (.ref N) _ (.str x t)) (wpAny_tryCompare_declines ha h1 (call_gives h1 ha PySem.F.entry_object_eq (PySem.F.args_object_eq_2 _ _) (PySem.TypeEq.object_eq_other rfl rfl) ⟨rfl, ?_⟩))
  simp only [Bool.not_true, Bool.false_eq_true, if_false]
  exact wpAny_bind (wpAny_rule (wpAny_bind (wpAny_isSame_plain rfl (wpAny_pure q))))
/-- an item of a list some of whose items were put out -/
noncomputable def NulV (N : Addr) (v : Value) : Prop := v = .ref N ∨ ∃ y t, v = .str y t
theorem eqNul {N : Addr} {x : Str} {t : Tok} {v : Value} {Q : Value → Shared → Prop} (hN : h.get? N = some objO) (hv : NulV N v) (hu : A.units < cLine) (q : Q (.bool (isStrOf x v)) ⟨h, g, d, k, o⟩) : wpAny (model prg w) A (compareOp .Eq v (.str x t)) Q E ⟨h, g, d, k, o⟩ := by
  rcases hv with rfl | ⟨y, u, rfl⟩
  · exact eqObjStr hN hu q
  · exact PySem.SeqAt.RcAt.str_str _ _ _ _ prg w E Q q
theorem copyS {l : Addr} {vs : List Value} {Q : Value → Shared → Prop} (F : Fr h₀ L h m) (N : News h₀ L h news) (hl : h.IsList l vs.toArray) (hb : vs.length ≤ 1000000)
    (q : ∀ D h' kk', Kp h h' → Fr h₀ L h' m → News h₀ L h' ((D, lstO vs.toArray kk') :: news) → (∀ p ∈ news, p.1 ≠ D) → Q (.ref D) ⟨h', g, d, k, o⟩) : wpAny (model prg w) A (call (.type "list") [.ref l]) Q E ⟨h, g, d, k, o⟩ := by
  obtain ⟨ob, ho, hc, n, hda⟩ := hl
  refine call_list_seq (s := ⟨h, g, d, k, o⟩) l (.inl rfl) ho hc hda (fun h' c' hk hD => ?_) (by rw [sizeLine]; simp; lia)
  replace hk : Kp h h' := hk
  have hs : h.get? h.objs.size = none := by
    cases e : h.get? h.objs.size with
    | none => rfl
    | some o => exact absurd (Heap.lt_size e) (Nat.lt_irrefl _)
  obtain ⟨N2, hne⟩ := News.got F N (Mine.News.kp N hk) hs hD
  exact q _ h' c' hk (Mine.Fr.kp F hk) N2 hne
theorem enumS {l : Addr} {vs : List Value} {Q : Value → Shared → Prop} (F : Fr h₀ L h m) (N : News h₀ L h news) (hl : h.IsList l vs.toArray)
    (q : ∀ e it h', IsEnum h' e it 0 .none → h'.IsListIter it l 0 → e ≠ it → l ≠ e → l ≠ it → e ≠ L → it ≠ L → h₀.get? e = none → h₀.get? it = none → (∀ p ∈ news, p.1 ≠ e ∧ p.1 ≠ it) → e < h'.objs.size → it < h'.objs.size → Fr h₀ L h' m → News h₀ L h' news → Kp h h' → Q (.ref e) ⟨h', g, d, k, o⟩) :
    wpAny (model prg w) A (call (.type "enumerate") [.ref l]) Q E ⟨h, g, d, k, o⟩ := by
  refine call_enumerate_list (s := ⟨h, g, d, k, o⟩) hl fun h' he hit hsz hk => ?_
  replace hk : Kp h h' := hk
  replace hsz : h'.objs.size = h.objs.size + 2 := hsz
  have hLs : L < h.objs.size := F.ns.lt
  have hll : l < h.objs.size := by obtain ⟨ob, e, _⟩ := hl; exact Heap.lt_size e
  have no : ∀ b, h.objs.size ≤ b → h₀.get? b = none := fun b hb => by
    cases e : h₀.get? b with
    | none => rfl
    | some o => exact absurd (Heap.lt_size (F.keep _ _ e)) (Nat.not_lt.mpr hb)
  refine q (h.objs.size + 1) h.objs.size h' he hit (by first | exact Nat.le_of_ble_eq_true rfl | (repeat (first | exact .head _ | apply List.Mem.tail)); done | simp) (Nat.ne_of_lt (Nat.lt_succ_of_lt hll)) (Nat.ne_of_lt hll) (Nat.ne_of_gt (Nat.lt_succ_of_lt hLs)) (Nat.ne_of_gt hLs) (no _ (Nat.le_succ _)) (no _ (Nat.le_refl _)) (fun p hp => ?_)
    (hsz.symm ▸ Nat.lt_succ_self _) (hsz.symm ▸ Nat.lt_succ_of_lt (Nat.lt_succ_self _)) (Mine.Fr.kp F hk) (Mine.News.kp N hk) hk
  have := Heap.lt_size (N p hp).1
  exact ⟨Nat.ne_of_lt (Nat.lt_succ_of_lt this), Nat.ne_of_lt this⟩
end
end Mine
namespace Mine
section
variable {w : World} {A : Around} {E : Value → Shared → Prop} {h : Heap} {g : Array GenState} {d : Drawn} {k : Nat} {o : OsState} {name : Str} {sc : Scope} {L a : Addr} {cd : Value} {cl : List (Str × Addr)} {h₀ : Heap} {vals : List (Option Value)}
  {m : Str → Option Value} {news : List (Addr × Obj)} {env : Env}
/-- what a loop's iterator must show -/
inductive For2 (w : World) (A : Around) (h₀ : Heap) (L : Addr) (sc : Scope) (g : Array GenState) (d : Drawn) (o : OsState) (ix : Nat) (body : List Stmt) (env : Env) (Q : Flow → Shared → Prop) (it : Value) (s₂ : Shared) : Prop
  | intro (I : Addr) (fp wr : List Addr) (n : Nat) (P : Nat → Value → Prop) (St : Nat → Heap → Prop) (h₂ : Heap) (k₂ : Nat) (vals : List (Option Value)) (news : List (Addr × Obj)) (J : Nat → List (Option Value) → List (Addr × Obj) → Prop) (h1 : s₂ = ⟨h₂, g, d, k₂, o⟩) (h2 : it = .ref I) (h3 : Walks prg w A I fp wr n P St) (h4 : St 0 h₂) (h5 : L ∉ fp) (h6 : (∀ b ∈ wr, h₀.get? b = none)) (h7 : (∀ p ∈ news, p.1 ∉ wr)) (h8 : Fr h₀ L h₂ (locs (nms sc) vals)) (h9 : News h₀ L h₂ news) (h10 : J 0 vals news) (h11 : (∀ i vals news, J i vals news → ix < vals.length)) (h12 : (∀ E R i v vals news own h k, i < n → P i v → J i vals news → (∀ p ∈ news, p.1 ∉ wr) → (∀ p ∈ own, p.1 ∈ fp) → Fr h₀ L h (locs (nms sc) (vals.set ix (some v))) → News h₀ L h (own ++ news) → (∀ f h k vals' new, f = .next ∨ f = .cont → Fr h₀ L h (locs (nms sc) vals') → News h₀ L h (own ++ new) → (∀ p ∈ new, p.1 ∉ wr) → J (i + 1) vals' new → R f ⟨h, g, d, k, o⟩) → (∀ s, Q .next s → R .brk s) → (∀ v s, Q (.ret v) s → R (.ret v) s) → wpAny (model prg w) A (execs body env) R E ⟨h, g, d, k, o⟩)) (h13 : ∀ h k vals news, Fr h₀ L h (locs (nms sc) vals) → News h₀ L h news → J n vals news → Q .next ⟨h, g, d, k, o⟩) : For2 w A h₀ L sc g d o ix body env Q it s₂
theorem For2.mk {ix : Nat} {body : List Stmt} {Q : Flow → Shared → Prop} {I : Addr} {fp wr : List Addr} {n : Nat} {P : Nat → Value → Prop} {St : Nat → Heap → Prop} (J : Nat → List (Option Value) → List (Addr × Obj) → Prop)
    (W : Walks prg w A I fp wr n P St) (st : St 0 h) (hLf : L ∉ fp) (hwr : ∀ b ∈ wr, h₀.get? b = none) (hnw : ∀ p ∈ news, p.1 ∉ wr) (F : Fr h₀ L h (locs (nms sc) vals)) (N : News h₀ L h news) (j : J 0 vals news) (hlen : ∀ i vals news, J i vals news → ix < vals.length)
    (turn : ∀ E R i v vals news own h k, i < n → P i v → J i vals news → (∀ p ∈ news, p.1 ∉ wr) → (∀ p ∈ own, p.1 ∈ fp) → Fr h₀ L h (locs (nms sc) (vals.set ix (some v))) → News h₀ L h (own ++ news) →
      (∀ f h k vals' new, f = .next ∨ f = .cont → Fr h₀ L h (locs (nms sc) vals') → News h₀ L h (own ++ new) → (∀ p ∈ new, p.1 ∉ wr) → J (i + 1) vals' new → R f ⟨h, g, d, k, o⟩) → (∀ s, Q .next s → R .brk s) → (∀ v s, Q (.ret v) s → R (.ret v) s) →
      wpAny (model prg w) A (execs body env) R E ⟨h, g, d, k, o⟩)
    (done : ∀ h k vals news, Fr h₀ L h (locs (nms sc) vals) → News h₀ L h news → J n vals news → Q .next ⟨h, g, d, k, o⟩) :
    For2 w A h₀ L sc g d o ix body env Q (.ref I) ⟨h, g, d, k, o⟩ :=
  ⟨I, fp, wr, n, P, St, h, k, vals, news, J, rfl, rfl, W, st, hLf, hwr, hnw, F, N, j, hlen, turn, done⟩
theorem forR {x : Str} {px pos : Pos} {iter : Expr} {body : List Stmt} {Q : Flow → Shared → Prop} (ok : ScOk sc) (F0 : Fr h₀ L h (locs (nms sc) vals)) (ix : Nat) (hx : sc.names[ix]? = some (x, .local))
    (q : wpAny (model prg w) A (eval iter (envX name sc L a cd cl)) (fun xv s₁ => wpAny (model prg w) A (pyIter xv) (For2 w A h₀ L sc g d o ix body (envX name sc L a cd cl) Q) E s₁) E ⟨h, g, d, k, o⟩)
    (hs : ∀ x, foldedSetIterable iter (envX name sc L a cd cl) x = pure x := by intro _; rfl) :
    wpAny (model prg w) A (exec (.For (.Name x px) iter body [] pos) (envX name sc L a cd cl)) Q E ⟨h, g, d, k, o⟩ := by
  refine forS3 ok F0 ix hx (wpAny_mono q (fun xv s₁ h₁ => wpAny_mono h₁ (fun it s₂ h₂ => ?_) fun _ _ e => e) fun _ _ e => e) hs
  obtain ⟨I, fp, wr, n, P, St, h₂, k₂, vals, news, J, rfl, rfl, W, st, hLf, hwr, hnw, F, N, j, hlen, turn, done⟩ := h₂
  refine ⟨I, fp, wr, n, P, St, h₂, k₂, vals, news, J, rfl, rfl, W, st, hLf, hwr, hnw, F, N, j, hlen, fun E i v vals news own h k hi hP hJ hnw hof F N => ?_, done⟩
  exact turn E _ i v vals news own h k hi hP hJ hnw hof F N (fun f h k vals' new hf F N hn hj => by
    rcases hf with rfl | rfl
    · exact At.mk F N ⟨new, rfl, hn, hj⟩
    · exact At.mk F N ⟨new, rfl, hn, hj⟩) (fun s q => q) (fun v s q => q)

theorem ForE.mk {ii ic : Nat} {body : List Stmt} {Q : Flow → Shared → Prop} {e it l : Addr} {items : Array Value} {kl : Nat} {old : Value} (J : Nat → List (Option Value) → Array Value → List (Addr × Obj) → Prop)
    (he : IsEnum h e it 0 old) (hi : h.IsListIter it l 0) (hei : e ≠ it) (hle : l ≠ e) (hli : l ≠ it) (heL : e ≠ L) (hiL : it ≠ L) (he0 : h₀.get? e = none) (hi0 : h₀.get? it = none) (hnw : ∀ p ∈ news, p.1 ≠ e ∧ p.1 ≠ it) (F : Fr h₀ L h (locs (nms sc) vals))
    (N : News h₀ L h ((l, lstO items kl) :: news)) (j : J 0 vals items news) (hlen : ∀ i vals items news, J i vals items news → ii < vals.length ∧ ic < vals.length)
    (turn : ∀ E R i t v vals items' kl news own h k, i < items.size → items'[i]? = some v → items'.size = items.size → J i vals items' news → (∀ p ∈ news, p.1 ≠ e ∧ p.1 ≠ it) → (∀ p ∈ own, p.1 = e ∨ p.1 = it) → (∃ o₁, (e, o₁) ∈ own) → (∃ o₂, (it, o₂) ∈ own) →
          Fr h₀ L h (locs (nms sc) ((vals.set ii (some (.int i t))).set ic (some v))) → News h₀ L h (own ++ (l, lstO items' kl) :: news) →
          (∀ f h k vals' items'' kl' new, f = .next ∨ f = .cont → Fr h₀ L h (locs (nms sc) vals') → News h₀ L h (own ++ (l, lstO items'' kl') :: new) → items''.size = items.size → (∀ p ∈ new, p.1 ≠ e ∧ p.1 ≠ it) → J (i + 1) vals' items'' new → R f ⟨h, g, d, k, o⟩) →
          wpAny (model prg w) A (execs body env) R E ⟨h, g, d, k, o⟩)
    (done : ∀ h k vals items' kl news, Fr h₀ L h (locs (nms sc) vals) → News h₀ L h ((l, lstO items' kl) :: news) → J items.size vals items' news → Q .next ⟨h, g, d, k, o⟩) :
    ForE w A h₀ L sc g d o ii ic body env Q (.ref e) ⟨h, g, d, k, o⟩ :=
  ⟨e, it, l, items.size, h, k, vals, items, kl, news, old, J, rfl, rfl, he, hi, hei, hle, hli, heL, hiL, he0, hi0, hnw, F, N, rfl, j, hlen, turn, done⟩
end
end Mine
namespace Mine
noncomputable def fBody : Stmt → List Stmt | .For _ _ b _ _ => b | _ => []
noncomputable def nthS (l : List Stmt) (i : Nat) : Stmt := l.getD i (.Pass default)
noncomputable def lpS : Stmt := nthS (dBody 16) 5
noncomputable def lpT : Stmt := nthS (dBody 16) 6
noncomputable def inA : Stmt := nthS (fBody lpS) 2
noncomputable def inB : Stmt := nthS (fBody lpS) 3
theorem sc16 : ScOk (dScope 16) := .of (by decide +kernel)
noncomputable abbrev VV (ia ib S T : Addr) (m n : Value) (N R : Addr) (i e cs ct j oe df : Option Value) : List (Option Value) :=
  [some (.ref ia), some (.ref ib), some (.ref S), some (.ref T), some m, some n, some (.ref N), some (.ref R), i, e, cs, ct, j, oe, df, none, none, none, none, none, none]
noncomputable def nul (N : Addr) (x : Str) (v : Value) : Value := if isStrOf x v then .ref N else v
noncomputable def midN (N : Addr) (x : Str) (us : List Value) (q : Nat) : List Value := (us.take q).map (nul N x) ++ us.drop q
theorem midN_zero (N : Addr) (x : Str) (us : List Value) : midN N x us 0 = us := by simp [midN]
theorem midN_all (N : Addr) (x : Str) (us : List Value) : midN N x us us.length = us.map (nul N x) := by simp [midN]
theorem midN_len (N : Addr) (x : Str) (us : List Value) (q : Nat) : (midN N x us q).length = us.length := by simp [midN]; lia
theorem midN_get {N : Addr} {x : Str} {us : List Value} {q : Nat} (hq : q < us.length) : (midN N x us q)[q]? = us[q]? := by
  unfold midN
  rw [List.getElem?_append_right (by simp; lia)]
  simp [Nat.min_eq_left (Nat.le_of_lt hq)]
theorem take_one {α : Type} {us : List α} {q : Nat} (hq : q < us.length) : us.take (q + 1) = us.take q ++ [us[q]] := by
  rw [List.take_add_one, List.getElem?_eq_getElem hq]; rfl
theorem midN_yes {N : Addr} {x : Str} {us : List Value} {q : Nat} (hq : q < us.length) (hx : isStrOf x us[q] = true) : (midN N x us q).set q (.ref N) = midN N x us (q + 1) := by
  unfold midN
  rw [List.drop_eq_getElem_cons hq, List.set_append_right _ _ (by simp; lia)]
  simp only [List.length_map, List.length_take, Nat.min_eq_left (Nat.le_of_lt hq), Nat.sub_self, List.set_cons_zero]
  rw [take_one hq, List.map_append, List.map_cons, List.map_nil, List.append_assoc]
  simp only [nul, hx, if_true, List.cons_append, List.nil_append]
theorem midN_no {N : Addr} {x : Str} {us : List Value} {q : Nat} (hq : q < us.length) (hx : isStrOf x us[q] = false) : midN N x us q = midN N x us (q + 1) := by
  unfold midN
  rw [List.drop_eq_getElem_cons hq, take_one hq, List.map_append, List.map_cons, List.map_nil, List.append_assoc]
  simp only [nul, hx, Bool.false_eq_true, if_false, List.cons_append, List.nil_append]
theorem cnt_yes {x : Str} {us : List Value} {q : Nat} (hq : q < us.length) (hx : isStrOf x us[q] = true) : (us.take (q + 1)).countP (isStrOf x) = (us.take q).countP (isStrOf x) + 1 := by
  rw [take_one hq, List.countP_append, List.countP_singleton, hx]; rfl
theorem cnt_no {x : Str} {us : List Value} {q : Nat} (hq : q < us.length) (hx : isStrOf x us[q] = false) : (us.take (q + 1)).countP (isStrOf x) = (us.take q).countP (isStrOf x) := by
  rw [take_one hq, List.countP_append, List.countP_singleton, hx]; rfl
section
variable {w : World} {A : Around} {E : Value → Shared → Prop} {h : Heap} {g : Array GenState} {d : Drawn} {k : Nat} {o : OsState} {L a : Addr} {cd : Value} {h₀ : Heap} {ad : Nat → Addr} {mg mb : Str → Option Value}
  {ia ib S T N R : Addr} {n : Value} {ct j oe df : Option Value} {others : List (Addr × Obj)}
inductive AInv (ia ib S T : Addr) (ln : Nat) (tm : Tok) (n : Value) (N R : Addr) (i : Nat) (ti : Tok) (x : Str) (tt : Tok) (us as : List Value) (ct oe df : Option Value) (others : List (Addr × Obj)) (q : Nat) (vals : List (Option Value)) (news : List (Addr × Obj)) : Prop
  | mk (tc' : Tok) (j' : Option Value) (kl' : Nat) (hf1 : vals = VV ia ib S T (.int ln tm) n N R (some (.int i ti)) (some (.str x tt)) (some (.int ((us.take q).countP (isStrOf x)) tc')) ct j' oe df) (hf2 : news = (S, lstO (as ++ midN N x us q).toArray kl') :: others) : AInv ia ib S T ln tm n N R i ti x tt us as ct oe df others q vals news
set_option maxHeartbeats 2000000 in
theorem inA_c (hh : A.handled = none) (hu : A.units < cLine) (l : Lib ad mg mb h₀) {vs : List Value} {i kl : Nat} {ti tm tt tc : Tok} {x : Str} {Q : Flow → Shared → Prop} (hi : i ≤ vs.length) (hb : vs.length ≤ 10000) (hV : ∀ v ∈ vs, NulV N v)
    (F : Fr h₀ L h (locs (nms (dScope 16)) (VV ia ib S T (.int vs.length tm) n N R (some (.int i ti)) (some (.str x tt)) (some (.int 0 tc)) ct j oe df)))
    (NN : News h₀ L h ((S, lstO vs.toArray kl) :: others)) (hO : (N, objO) ∈ others) (hD : ∀ p ∈ others, p.1 ≠ S)
    (q : ∀ h' k' tc' j' kl', Fr h₀ L h' (locs (nms (dScope 16)) (VV ia ib S T (.int vs.length tm) n N R (some (.int i ti)) (some (.str x tt)) (some (.int ((vs.drop i).countP (isStrOf x)) tc')) ct j' oe df)) →
      News h₀ L h' ((S, lstO (vs.take i ++ (vs.drop i).map (nul N x)).toArray kl') :: others) → Q .next ⟨h', g, d, k', o⟩) :
    wpAny (model prg w) A (exec inA (envX (dName 16) (dScope 16) L a cd [])) Q E ⟨h, g, d, k, o⟩ := by
  have ok := sc16
  refine hidePost (fun Q' hQ => ?_)
  replace q := fun h' k' tc' j' kl' F' N' => hQ _ _ (q h' k' tc' j' kl' F' N')
  clear hQ
  refine forR ok F 12 rfl (callT (fun Q' q => ldb 19 ok l F rfl (by decide) boot_range q) (arg (ldl 8 ok F rfl rfl (arg (ldl 4 ok F rfl rfl (args_nil ?_))))))
  refine rangeS2 F NN (fun r h1 k1 _ _ _ hr F1 N1 kp1 => ?_)
  refine iterRange (n := vs.length - i) hh F1 N1 hr (small_one (by lia) (by lia) (by lia) (by lia)) (by rw [rangeSize_nat]; lia) (fun I h2 W st hLf hwr hnw hfp F2 N2 kp2 => ?_)
  obtain ⟨us, hus⟩ : ∃ us, us = vs.drop i := ⟨_, rfl⟩
  have hul : us.length = vs.length - i := by rw [hus, List.length_drop]
  have huV : ∀ v ∈ us, NulV N v := fun v hv => hV v (List.mem_of_mem_drop (hus ▸ hv))
  have hvs : vs = vs.take i ++ us := by rw [hus, List.take_append_drop]
  obtain ⟨as, has⟩ : ∃ as, as = vs.take i := ⟨_, rfl⟩
  have hal : as.length = i := by rw [has, List.length_take]; lia
  rw [← has] at hvs
  rw [← hus, ← has] at q
  refine For2.mk (AInv ia ib S T vs.length tm n N R i ti x tt us as ct oe df others) W st hLf hwr hnw F2 N2 ⟨tc, j, kl, by simp, by rw [midN_zero, ← hvs]⟩ ?_ ?_ ?_
  · rintro q vals news ⟨tc', j', kl', rfl, rfl⟩
    simp
  · rintro E2 R2 q2 v vals news own h3 k3 hq ⟨t1, rfl⟩ ⟨tc', j', kl', rfl, rfl⟩ hnw3 hof F3 N3 fin _ _
    replace F3 : Fr h₀ L h3 (locs (nms (dScope 16)) (VV ia ib S T (.int vs.length tm) n N R (some (.int i ti)) (some (.str x tt)) (some (.int ((us.take q2).countP (isStrOf x)) tc')) ct (some (.int ((i : Int) + (q2 : Int) * 1) t1)) oe df)) := F3
    have hq' : q2 < us.length := by rw [hul]; exact hq
    rw [show ((i : Int) + (q2 : Int) * 1) = ((i + q2 : Nat) : Int) by lia] at F3
    have N4 : News h₀ L h3 ((S, lstO (as ++ midN N x us q2).toArray kl') :: (own ++ others)) := News.pull N3
    have hD4 : ∀ p ∈ own ++ others, p.1 ≠ S := fun p hp => by
      rcases List.mem_append.mp hp with hp | hp
      · intro e
        exact hnw3 _ List.mem_cons_self (e ▸ hof p hp)
      · exact hD p hp
    have hN : h3.get? N = some objO := N4.get (List.mem_cons_of_mem _ (List.mem_append_right _ hO))
    have hl : h3.IsList S (as ++ midN N x us q2).toArray := ⟨_, N4.get List.mem_cons_self, rfl, _, rfl⟩
    have hx : (as ++ midN N x us q2)[i + q2]? = some us[q2] := by
      rw [List.getElem?_append_right (by lia), hal, Nat.add_sub_cancel_left, midN_get hq', List.getElem?_eq_getElem hq']
    have back : ∀ {h4 : Heap} {it : List Value} {k4 : Nat}, News h₀ L h4 ((S, lstO it.toArray k4) :: (own ++ others)) → News h₀ L h4 (own ++ (S, lstO it.toArray k4) :: others) := fun N => News.sub N (fun p hp => by
      rcases List.mem_append.mp hp with hp | hp
      · exact List.mem_cons_of_mem _ (List.mem_append_left _ hp)
      · rcases List.mem_cons.mp hp with rfl | hp
        · exact List.mem_cons_self
        · exact List.mem_cons_of_mem _ (List.mem_append_right _ hp))
    have hnw5 : ∀ {it : List Value} {k4 : Nat}, ∀ p ∈ (S, lstO it.toArray k4) :: others, p.1 ∉ [I] := fun {it k4} p hp => by
      rcases List.mem_cons.mp hp with rfl | hp
      · exact hnw3 (S, lstO (as ++ midN N x us q2).toArray kl') List.mem_cons_self
      · exact hnw3 p (List.mem_cons_of_mem _ hp)
    refine wpAny_execs_cons (hideLet ?_)
    intro PHid
    refine wpAny_If (wpAny_isTrue_Compare1 (Subscript_ (ldl 2 ok F3 rfl rfl (ldl 12 ok F3 rfl rfl ?_))))
    refine itemS hl (by lia) hx (ldl 9 ok F3 rfl rfl (eqNul hN (huV _ (List.getElem_mem hq')) hu (wpAny_truthy_bool ?_)))
    cases hs : isStrOf x us[q2] with
    | true =>
      refine ite_tt (wpAny_execs_cons (hideLet ?_))
      intro PHid
      refine wpAny_AugAssign_Name (ldnl 10 ok F3 rfl rfl (cInt fun t2 k4 => iaddI fun t3 k5 => ?_))
      refine stS 10 (VV ia ib S T (.int vs.length tm) n N R (some (.int i ti)) (some (.str x tt)) (some (.int (((us.take q2).countP (isStrOf x) : Nat) + 1) t3)) ct (some (.int ((i + q2 : Nat) : Int) t1)) oe df) ok F3 N4 rfl (Nat.le_of_ble_eq_true rfl) rfl (fun h5 k6 F5 N5 => ?_)
      refine wpAny_execs_cons (hideLet ?_)
      intro PHid
      refine wpAny_Assign_Subscript (ldl 6 ok F5 rfl rfl (ldl 2 ok F5 rfl rfl (ldl 12 ok F5 rfl rfl ?_)))
      refine setS F5 N5 hD4 (by simp [midN_len]; lia) (by lia) (fun h6 kk6 F6 N6 => wpAny_execs_nil (wpAny_execs_nil ?_))
      have e : (as ++ midN N x us q2).toArray.setIfInBounds (i + q2) (.ref N) = (as ++ midN N x us (q2 + 1)).toArray := by
        rw [← midN_yes hq' hs, List.setIfInBounds_toArray, List.set_append_right _ _ (by lia), hal, Nat.add_sub_cancel_left]
      rw [e] at N6
      refine fin _ _ _ _ _ (.inl rfl) F6 (back N6) hnw5 ⟨t3, some (.int ((i + q2 : Nat) : Int) t1), kk6, ?_, rfl⟩
      rw [cnt_yes hq' hs]; rfl
    | false =>
      refine ite_ff (wpAny_execs_nil (wpAny_execs_nil ?_))
      refine fin _ _ _ _ _ (.inl rfl) F3 (back N4) hnw5 ⟨tc', some (.int ((i + q2 : Nat) : Int) t1), kl', ?_, ?_⟩
      · rw [cnt_no hq' hs]
      · rw [midN_no hq' hs]
  · rintro h3 k3 vals news F3 N3 ⟨tc', j', kl', rfl, rfl⟩
    rw [← hul, midN_all] at N3
    rw [← hul, List.take_length] at F3
    exact q _ _ _ _ _ F3 N3
end
end Mine
namespace Mine
section
variable {w : World} {A : Around} {E : Value → Shared → Prop} {h : Heap} {g : Array GenState} {d : Drawn} {k : Nat} {o : OsState} {L a : Addr} {cd : Value} {h₀ : Heap} {ad : Nat → Addr} {mg mb : Str → Option Value}
  {ia ib S T N R : Addr} {mv n : Value} {i cs j oe df : Option Value} {others : List (Addr × Obj)}
inductive BInv (ia ib S T : Addr) (mv n : Value) (N R : Addr) (i : Option Value) (x : Str) (tt : Tok) (cs df : Option Value) (vs : List Value) (others : List (Addr × Obj)) (q : Nat) (vals : List (Option Value)) (items : Array Value) (news : List (Addr × Obj)) : Prop
  | mk (tc' : Tok) (j' oe' : Option Value) (hf1 : vals = VV ia ib S T mv n N R i (some (.str x tt)) cs (some (.int ((vs.take q).countP (isStrOf x)) tc')) j' oe' df) (hf2 : items = (midN N x vs q).toArray) (hf3 : news = others) : BInv ia ib S T mv n N R i x tt cs df vs others q vals items news
set_option maxHeartbeats 2000000 in
theorem inB_c (hh : A.handled = none) (hu : A.units < cLine) (l : Lib ad mg mb h₀) {vs : List Value} {kl : Nat} {tt tc : Tok} {x : Str} {Q : Flow → Shared → Prop} (hb : vs.length ≤ 10000) (hV : ∀ v ∈ vs, NulV N v)
    (F : Fr h₀ L h (locs (nms (dScope 16)) (VV ia ib S T mv n N R i (some (.str x tt)) cs (some (.int 0 tc)) j oe df)))
    (NN : News h₀ L h ((T, lstO vs.toArray kl) :: others)) (hO : (N, objO) ∈ others) (hD : ∀ p ∈ others, p.1 ≠ T)
    (q : ∀ h' k' tc' j' oe' kl', Fr h₀ L h' (locs (nms (dScope 16)) (VV ia ib S T mv n N R i (some (.str x tt)) cs (some (.int (vs.countP (isStrOf x)) tc')) j' oe' df)) →
      News h₀ L h' ((T, lstO (vs.map (nul N x)).toArray kl') :: others) → Q .next ⟨h', g, d, k', o⟩) :
    wpAny (model prg w) A (exec inB (envX (dName 16) (dScope 16) L a cd [])) Q E ⟨h, g, d, k, o⟩ := by
  have ok := sc16
  refine hidePost (fun Q' hQ => ?_)
  replace q := fun h' k' tc' j' oe' kl' F' N' => hQ _ _ (q h' k' tc' j' oe' kl' F' N')
  clear hQ
  refine forEn (h₀ := h₀) hh ok 12 13 rfl rfl (callT (fun Q' q => ldb 18 ok l F rfl (by decide) boot_enumerate q) (arg (ldl 3 ok F rfl rfl (args_nil ?_))))
  refine enumS F NN (l := T) (vs := vs) ⟨_, NN.get List.mem_cons_self, rfl, _, rfl⟩ (fun e it h1 he hit hei hle hli heL hiL he0 hi0 hnw hel hil F1 N1 kp1 => ?_)
  refine wpAny_pyIter_enum he ?_
  refine ForE.mk (l := T) (items := vs.toArray) (kl := kl) (BInv ia ib S T mv n N R i x tt cs df vs others) he hit hei hle hli heL hiL he0 hi0 (fun p hp => hnw p (List.mem_cons_of_mem _ hp)) F1 N1 ⟨tc, j, oe, by simp, by rw [midN_zero], rfl⟩ ?_ ?_ ?_
  · rintro q vals items news ⟨tc', j', oe', rfl, rfl, rfl⟩
    simp
  · rintro E2 R2 q2 t1 v vals items kl2 news own h3 k3 hq hv hsz ⟨tc', j', oe', rfl, rfl, rfl⟩ hnw3 hof _ _ F3 N3 fin
    replace F3 : Fr h₀ L h3 (locs (nms (dScope 16)) (VV ia ib S T mv n N R i (some (.str x tt)) cs (some (.int ((vs.take q2).countP (isStrOf x)) tc')) (some (.int (q2 : Nat) t1)) (some v) df)) := F3
    have hq' : q2 < vs.length := by simpa using hq
    obtain rfl : v = vs[q2] := by
      rw [List.getElem?_toArray, midN_get hq', List.getElem?_eq_getElem hq'] at hv
      exact (Option.some.inj hv).symm
    have N4 : News h₀ L h3 ((T, lstO (midN N x vs q2).toArray kl2) :: (own ++ news)) := News.sub N3 (fun p hp => by
      rcases List.mem_cons.mp hp with rfl | hp
      · exact List.mem_append_right _ List.mem_cons_self
      · rcases List.mem_append.mp hp with hp | hp
        · exact List.mem_append_left _ hp
        · exact List.mem_append_right _ (List.mem_cons_of_mem _ hp))
    have hD4 : ∀ p ∈ own ++ news, p.1 ≠ T := fun p hp => by
      rcases List.mem_append.mp hp with hp | hp
      · intro q
        rcases hof p hp with q2 | q2
        · exact hle (q.symm.trans q2)
        · exact hli (q.symm.trans q2)
      · exact hD p hp
    have hN : h3.get? N = some objO := N4.get (List.mem_cons_of_mem _ (List.mem_append_right _ hO))
    have back : ∀ {h4 : Heap} {it : List Value} {k4 : Nat}, News h₀ L h4 ((T, lstO it.toArray k4) :: (own ++ news)) → News h₀ L h4 (own ++ (T, lstO it.toArray k4) :: news) := fun N => News.sub N (fun p hp => by
      rcases List.mem_append.mp hp with hp | hp
      · exact List.mem_cons_of_mem _ (List.mem_append_left _ hp)
      · rcases List.mem_cons.mp hp with rfl | hp
        · exact List.mem_cons_self
        · exact List.mem_cons_of_mem _ (List.mem_append_right _ hp))
    refine wpAny_execs_cons (hideLet ?_)
    intro PHid
    refine wpAny_If (wpAny_isTrue_Compare1 (ldl 13 ok F3 rfl rfl (ldl 9 ok F3 rfl rfl (eqNul hN (hV _ (List.getElem_mem hq')) hu (wpAny_truthy_bool ?_)))))
    cases hs : isStrOf x vs[q2] with
    | true =>
      refine ite_tt (wpAny_execs_cons (hideLet ?_))
      intro PHid
      refine wpAny_AugAssign_Name (ldnl 11 ok F3 rfl rfl (cInt fun t2 k4 => iaddI fun t3 k5 => ?_))
      refine stS 11 (VV ia ib S T mv n N R i (some (.str x tt)) cs (some (.int (((vs.take q2).countP (isStrOf x) : Nat) + 1) t3)) (some (.int (q2 : Nat) t1)) (some vs[q2]) df) ok F3 N4 rfl (Nat.le_of_ble_eq_true rfl) rfl (fun h5 k6 F5 N5 => ?_)
      refine wpAny_execs_cons (hideLet ?_)
      intro PHid
      refine wpAny_Assign_Subscript (ldl 6 ok F5 rfl rfl (ldl 3 ok F5 rfl rfl (ldl 12 ok F5 rfl rfl ?_)))
      refine setS F5 N5 hD4 (by simp [midN_len]; lia) (by lia) (fun h6 kk6 F6 N6 => wpAny_execs_nil (wpAny_execs_nil ?_))
      have e : (midN N x vs q2).toArray.setIfInBounds q2 (.ref N) = (midN N x vs (q2 + 1)).toArray := by
        rw [← midN_yes hq' hs, List.setIfInBounds_toArray]
      rw [e] at N6
      refine fin _ _ _ _ _ _ _ (.inl rfl) F6 (back N6) (by simp [midN_len]) hnw3 ⟨t3, some (.int (q2 : Nat) t1), some vs[q2], ?_, rfl, rfl⟩
      rw [cnt_yes hq' hs]; rfl
    | false =>
      refine ite_ff (wpAny_execs_nil (wpAny_execs_nil ?_))
      refine fin _ _ _ _ _ _ _ (.inl rfl) F3 (back N4) (by simp [midN_len]) hnw3 ⟨tc', some (.int (q2 : Nat) t1), some vs[q2], ?_, ?_, rfl⟩
      · rw [cnt_no hq' hs]
      · rw [midN_no hq' hs]
  · rintro h3 k3 vals items kl2 news F3 N3 ⟨tc', j', oe', rfl, rfl, rfl⟩
    rw [List.size_toArray, midN_all] at N3
    rw [List.size_toArray, List.take_length] at F3
    exact q _ _ _ _ _ _ F3 N3
end
end Mine
namespace Mine
noncomputable def outV (N : Addr) (sn : List Str) : Value → Value | .str y t => if y ∈ sn then .ref N else .str y t | v => v
theorem outV_nil {N : Addr} : ∀ {vs : List Value} {ts : List Str}, StrsAre vs ts → vs.map (outV N []) = vs := by
  intro vs ts x
  induction x with
  | nil => rfl
  | cons y t r ih => rw [List.map_cons, ih]; simp [outV]
theorem outV_nul {N : Addr} {x : Str} {sn : List Str} : ∀ {vs : List Value} {ts : List Str}, StrsAre vs ts → (vs.map (outV N sn)).map (nul N x) = vs.map (outV N (sn ++ [x]))
  | _, _, .nil => rfl
  | _, _, .cons y t r => by
    rw [List.map_cons, List.map_cons, List.map_cons, outV_nul r]
    congr 1
    by_cases h1 : y ∈ sn
    · simp [outV, nul, h1, isStrOf]
    · by_cases h2 : y = x
      · subst h2; simp [outV, nul, h1, isStrOf]
      · simp [outV, nul, h1, h2, isStrOf]
theorem outV_count {N : Addr} {x : Str} {sn : List Str} (hx : x ∉ sn) : ∀ {vs : List Value} {ts : List Str}, StrsAre vs ts → (vs.map (outV N sn)).countP (isStrOf x) = ts.count x
  | _, _, .nil => rfl
  | _, _, .cons y t r => by
    rw [List.map_cons, List.countP_cons, List.count_cons, outV_count hx r]
    congr 1
    by_cases h1 : y ∈ sn
    · have h2 : y ≠ x := fun e => hx (e ▸ h1)
      simp [outV, h1, isStrOf, h2]
    · simp [outV, h1, isStrOf]
theorem outV_same {N : Addr} {x : Str} {sn : List Str} (hx : x ∈ sn) : ∀ {vs : List Value} {ts : List Str}, StrsAre vs ts → vs.map (outV N (sn ++ [x])) = vs.map (outV N sn)
  | _, _, .nil => rfl
  | _, _, .cons y t r => by
    rw [List.map_cons, List.map_cons, outV_same hx r]
    congr 1
    by_cases h2 : y = x
    · simp [outV, h2, hx]
    · simp [outV, h2]
theorem outV_all {N : Addr} {sn : List Str} : ∀ {vs : List Value} {ts : List Str}, StrsAre vs ts → (∀ t ∈ ts, t ∈ sn) → ∀ v ∈ vs.map (outV N sn), v = .ref N := by
  intro vs ts x
  induction x with
  | nil => intro _ v hv; cases hv
  | cons y t r ih =>
    intro h v hv
    rw [List.map_cons] at hv
    rcases List.mem_cons.mp hv with rfl | hv
    · simp [outV, h y List.mem_cons_self]
    · exact ih (fun t ht => h t (List.mem_cons_of_mem _ ht)) v hv
theorem outV_ok {N : Addr} {sn : List Str} : ∀ {vs : List Value} {ts : List Str}, StrsAre vs ts → ∀ v ∈ vs.map (outV N sn), NulV N v := by
  intro vs ts x
  induction x with
  | nil => intro v hv; cases hv
  | cons y t r ih =>
    intro v hv
    rw [List.map_cons] at hv
    rcases List.mem_cons.mp hv with rfl | hv
    · by_cases h1 : y ∈ sn
      · exact .inl (by simp [outV, h1])
      · exact .inr ⟨y, t, by simp [outV, h1]⟩
    · exact ih v hv
theorem strs_take : ∀ {vs : List Value} {ts : List Str} (i : Nat), StrsAre vs ts → StrsAre (vs.take i) (ts.take i)
  | _, _, _, .nil => by simpa using StrsAre.nil
  | _, _, 0, .cons y t r => by simpa using StrsAre.nil
  | _, _, i + 1, .cons y t r => by rw [List.take_succ_cons, List.take_succ_cons]; exact .cons y t (strs_take i r)
theorem outV_front {N : Addr} {vs : List Value} {ts : List Str} (hs : StrsAre vs ts) (i : Nat) : ∀ v ∈ (vs.map (outV N (ts.take i))).take i, v = .ref N := by
  rw [← List.map_take]
  exact outV_all (strs_take i hs) (fun t ht => ht)
theorem outV_step {N : Addr} {x : Str} {vs : List Value} {ts : List Str} (hs : StrsAre vs ts) (i : Nat) :
    (vs.map (outV N (ts.take i))).take i ++ ((vs.map (outV N (ts.take i))).drop i).map (nul N x) = vs.map (outV N (ts.take i ++ [x])) := by
  have e : ((vs.map (outV N (ts.take i))).take i).map (nul N x) = (vs.map (outV N (ts.take i))).take i := by
    rw [List.map_congr_left (g := id) (fun v hv => ?_), List.map_id]
    rw [outV_front hs i v hv]
    simp [nul, isStrOf]
  rw [← outV_nul hs, ← e, ← List.map_append, List.take_append_drop]
theorem outV_cnt {N : Addr} {x : Str} {vs : List Value} {ts : List Str} (hs : StrsAre vs ts) (i : Nat) (hx : x ∉ ts.take i) : ((vs.map (outV N (ts.take i))).drop i).countP (isStrOf x) = ts.count x := by
  rw [← outV_count (N := N) hx hs]
  conv => rhs; rw [← List.take_append_drop i (vs.map (outV N (ts.take i))), List.countP_append]
  have e : ((vs.map (outV N (ts.take i))).take i).countP (isStrOf x) = 0 := by
    rw [List.countP_eq_zero]
    intro v hv
    rw [outV_front hs i v hv]
    simp [isStrOf]
  rw [e, Nat.zero_add]
noncomputable def firstN (pile : List Str) : Nat → List Str
  | 0 => []
  | i + 1 => match pile[i]? with
    | some x => if x ∈ pile.take i then firstN pile i else firstN pile i ++ [x]
    | none => firstN pile i
noncomputable def difOf (pile taken : List Str) (x : Str) : Option (Nat × Nat × Str) := if pile.count x = taken.count x then none else some (pile.count x, taken.count x, x)
/-- the mismatches, in a ledger -/
inductive MisIn (led : List (Addr × Obj)) : List Value → List (Nat × Nat × Str) → Prop
  | nil : MisIn led [] []
  | cons {x dx : Addr} {a b : Nat} {s : Str} {t u v : Tok} {ms : List Value} {ds : List (Nat × Nat × Str)} : (x, misO dx #[.int a t, .int b u, .str s v]) ∈ led → MisIn led ms ds → MisIn led (.ref x :: ms) ((a, b, s) :: ds)
theorem MisIn.mono {led led' : List (Addr × Obj)} (h : ∀ p ∈ led, p ∈ led') : ∀ {ms : List Value} {ds : List (Nat × Nat × Str)}, MisIn led ms ds → MisIn led' ms ds := by
  intro ms ds x
  induction x with
  | nil => exact .nil
  | cons m _ ih => exact .cons (h _ m) ih
theorem MisIn.snoc {led : List (Addr × Obj)} {x dx : Addr} {a b : Nat} {s : Str} {t u v : Tok} (hm : (x, misO dx #[.int a t, .int b u, .str s v]) ∈ led) : ∀ {ms : List Value} {ds : List (Nat × Nat × Str)}, MisIn led ms ds → MisIn led (ms ++ [.ref x]) (ds ++ [(a, b, s)]) := by
  intro ms ds x
  induction x with
  | nil => exact .cons hm .nil
  | cons m _ ih => exact .cons m ih
theorem MisIn.len {led : List (Addr × Obj)} : ∀ {ms : List Value} {ds : List (Nat × Nat × Str)}, MisIn led ms ds → ms.length = ds.length
  | _, _, .nil => rfl
  | _, _, .cons m r => by rw [List.length_cons, List.length_cons, r.len]
theorem firstN_le (pile : List Str) : ∀ i, (firstN pile i).length ≤ i
  | 0 => Nat.le_refl _
  | i + 1 => by
    unfold firstN
    have := firstN_le pile i
    split
    · split
      · lia
      · simp; lia
    · lia
section
variable {w : World} {A : Around} {E : Value → Shared → Prop} {s : Shared} {env : Env} {pos : Pos}
theorem cwM {e : Expr} {rest : List Expr} {Q : Value → Shared → Prop}
    (q : wpAny (model prg w) A (spliced (backTo pos (starEach (e :: rest) env))) (fun vs s₁ => (misK w.params).In s₁.heap ∧ wpAny (model prg w) A (call (.ref 197) vs) Q E s₁) E s) (hp : (e :: rest).all plainE = true := by rfl) :
    wpAny (model prg w) A (callWith pos (.ref 197) [] (backTo pos (starEach (e :: rest) env)) []) Q E s := by
  have hp' := hp
  rw [List.all_cons, Bool.and_eq_true] at hp
  have h1 := starE (rest := rest) (env := env) hp.1
  have h2 := anyE (env := env) (pos := pos) hp.2
  rw [h1] at q ⊢
  unfold callWith
  refine wpAny_bind (wpAny_holding (wpAny_mono (Q := fun x s₁ => (misK w.params).In s₁.heap ∧ wpAny (model prg w) A (call (.ref 197) ([] ++ x.pos) x.kw) Q E s₁) ?_ (fun x s₁ h₁ => wpAny_bind (wpAny_standAt ?_)) fun _ _ x => x))
  · exact evalArgs_plain (wpAny_mono q (fun vs s₁ h₁ => h₁) fun _ _ e => e)
  obtain ⟨X, hcall⟩ := h₁
  obtain ⟨sl, ho, h4⟩ := mk_cls w.params
  have lc := looks_specialIn (M := model prg w) X (mk_call w.params)
  have hplain : (backTo pos ((false, eval e env) :: starEach rest env)).any (·.1) = false := h1 ▸ anyE hp'
  simp only [hplain, List.any_nil, Bool.or_false]
  refine wpAny_bind (m := keeperOf (.ref 197)) ?_
  unfold keeperOf
  refine wpAny_bind (wpAny_load (X _ _ ho) ?_)
  refine wpAny_bind (lc.at ?_)
  refine wpAny_pure ?_
  exact wpAny_bind (wpAny_mono hcall (fun r s₂ hr => wpAny_bind (wpAny_holding (wpAny_point (wpAny_pure hr)))) fun _ _ x => x)
end
end Mine
namespace Mine
theorem firstN_dup {pile : List Str} {i : Nat} {x : Str} (hx : pile[i]? = some x) (hm : x ∈ pile.take i) : firstN pile (i + 1) = firstN pile i := by
  rw [firstN]; simp only [hx]; rw [if_pos hm]
theorem firstN_new {pile : List Str} {i : Nat} {x : Str} (hx : pile[i]? = some x) (hm : x ∉ pile.take i) : firstN pile (i + 1) = firstN pile i ++ [x] := by
  rw [firstN]; simp only [hx]; rw [if_neg hm]
theorem dif_same {pile taken : List Str} {i : Nat} {x : Str} (hx : pile[i]? = some x) (hm : x ∉ pile.take i) (e : pile.count x = taken.count x) : (firstN pile (i + 1)).filterMap (difOf pile taken) = (firstN pile i).filterMap (difOf pile taken) := by
  rw [firstN_new hx hm, List.filterMap_append]
  simp [difOf, e]
theorem dif_new {pile taken : List Str} {i : Nat} {x : Str} (hx : pile[i]? = some x) (hm : x ∉ pile.take i) (e : pile.count x ≠ taken.count x) : (firstN pile (i + 1)).filterMap (difOf pile taken) = (firstN pile i).filterMap (difOf pile taken) ++ [(pile.count x, taken.count x, x)] := by
  rw [firstN_new hx hm, List.filterMap_append]
  simp [difOf, e]
inductive JS (ia ib S T : Addr) (n : Value) (N R : Addr) (tm : Tok) (vsP vsT : List Value) (pile taken : List Str) (q : Nat) (vals : List (Option Value)) (items : Array Value) (news : List (Addr × Obj)) : Prop
  | intro (i' e' cs' ct' j' oe' df' : Option Value) (kT' kR' : Nat) (ms : List Value) (led : List (Addr × Obj)) (hf1 : vals = VV ia ib S T (.int vsP.length tm) n N R i' e' cs' ct' j' oe' df') (hf2 : items = (vsP.map (outV N (pile.take q))).toArray) (hf3 : news = (T, lstO (vsT.map (outV N (pile.take q))).toArray kT') :: (R, lstO ms.toArray kR') :: (N, objO) :: led) (hf4 : (∀ p ∈ led, p.1 ≠ S ∧ p.1 ≠ T ∧ p.1 ≠ R)) (hf5 : MisIn led ms ((firstN pile q).filterMap (difOf pile taken))) : JS ia ib S T n N R tm vsP vsT pile taken q vals items news
theorem JS.mk {ia ib S T : Addr} {n : Value} {N R : Addr} {tm : Tok} {vsP vsT : List Value} {pile taken : List Str} {q : Nat} {i' e' cs' ct' j' oe' df' : Option Value} {kT' kR' : Nat} {ms : List Value} {led : List (Addr × Obj)} {items : List Value} {itT : List Value}
    (e1 : items = vsP.map (outV N (pile.take q))) (e2 : itT = vsT.map (outV N (pile.take q))) (hl : ∀ p ∈ led, p.1 ≠ S ∧ p.1 ≠ T ∧ p.1 ≠ R) (hm : MisIn led ms ((firstN pile q).filterMap (difOf pile taken))) :
    JS ia ib S T n N R tm vsP vsT pile taken q (VV ia ib S T (.int vsP.length tm) n N R i' e' cs' ct' j' oe' df') items.toArray ((T, lstO itT.toArray kT') :: (R, lstO ms.toArray kR') :: (N, objO) :: led) :=
  ⟨i', e', cs', ct', j', oe', df', kT', kR', ms, led, rfl, by rw [e1], by rw [e2], hl, hm⟩
section
variable {w : World} {A : Around} {E : Value → Shared → Prop} {h : Heap} {g : Array GenState} {d : Drawn} {k : Nat} {o : OsState} {L a : Addr} {cd : Value} {h₀ : Heap} {ad : Nat → Addr} {mg mb : Str → Option Value}
  {ia ib S T N R : Addr} {n : Value} {i e cs ct j oe df : Option Value}
set_option maxHeartbeats 4000000 in
theorem lpS_c (hh : A.handled = none) (hd : A.depth + 1 < recursionLimit) (hu : A.units < cLine) (l : Lib ad mg mb h₀) (hmm : mg "_Mismatch" = some (.ref 197)) (X : (misK w.params).In h₀) {vsP vsT : List Value} {pile taken : List Str} (hP : StrsAre vsP pile) (hT : StrsAre vsT taken)
    (hbP : pile.length ≤ 10000) (hbT : taken.length ≤ 10000) {kS kT kR : Nat} {tm : Tok} {Q : Flow → Shared → Prop} (F : Fr h₀ L h (locs (nms (dScope 16)) (VV ia ib S T (.int vsP.length tm) n N R i e cs ct j oe df)))
    (NN : News h₀ L h [(S, lstO vsP.toArray kS), (T, lstO vsT.toArray kT), (R, lstO #[] kR), (N, objO)]) (hST : S ≠ T) (hSR : S ≠ R) (hSN : S ≠ N) (hTR : T ≠ R) (hTN : T ≠ N) (hRN : R ≠ N)
    (q : ∀ h' k' kS' kT' kR' ms led i' e' cs' ct' j' oe' df', Fr h₀ L h' (locs (nms (dScope 16)) (VV ia ib S T (.int vsP.length tm) n N R i' e' cs' ct' j' oe' df')) →
      News h₀ L h' ((S, lstO (vsP.map (outV N pile)).toArray kS') :: (T, lstO (vsT.map (outV N pile)).toArray kT') :: (R, lstO ms.toArray kR') :: (N, objO) :: led) → (∀ p ∈ led, p.1 ≠ S ∧ p.1 ≠ T ∧ p.1 ≠ R) →
      MisIn led ms ((firstN pile pile.length).filterMap (difOf pile taken)) → Q .next ⟨h', g, d, k', o⟩) :
    wpAny (model prg w) A (exec lpS (envX (dName 16) (dScope 16) L a cd [])) Q E ⟨h, g, d, k, o⟩ := by
  have ok := sc16
  have hPl := hP.len_eq
  have hTl := hT.len_eq
  refine hidePost (fun Q' hQ => ?_)
  replace q := fun h' k' kS' kT' kR' ms led i' e' cs' ct' j' oe' df' F' N' a b => hQ _ _ (q h' k' kS' kT' kR' ms led i' e' cs' ct' j' oe' df' F' N' a b)
  clear hQ
  refine forEn (h₀ := h₀) hh ok 8 9 rfl rfl (callT (fun Q' q => ldb 18 ok l F rfl (by decide) boot_enumerate q) (arg (ldl 2 ok F rfl rfl (args_nil ?_))))
  refine enumS F NN (l := S) (vs := vsP) ⟨_, NN.get List.mem_cons_self, rfl, _, rfl⟩ (fun en it h1 he hit hei hle hli heL hiL he0 hi0 hnw hel hil F1 N1 kp1 => ?_)
  refine wpAny_pyIter_enum he ?_
  refine ForE.mk (l := S) (items := vsP.toArray) (kl := kS) (JS ia ib S T n N R tm vsP vsT pile taken) he hit hei hle hli heL hiL he0 hi0 (fun p hp => hnw p (List.mem_cons_of_mem _ hp)) F1 N1
    (JS.mk (led := []) (ms := []) (by rw [List.take_zero, outV_nil hP]) (by rw [List.take_zero, outV_nil hT]) (by first | exact Nat.le_of_ble_eq_true rfl | (repeat (first | exact .head _ | apply List.Mem.tail)); done | simp) .nil) ?_ ?_ ?_
  · rintro q vals items news ⟨i', e', cs', ct', j', oe', df', kT', kR', ms, led, rfl, _⟩
    simp
  · rintro E2 R2 q2 t1 v vals items kl2 news own h3 k3 hq hv hsz ⟨i', e', cs', ct', j', oe', df', kT', kR', ms, led, rfl, rfl, rfl, hled, hms⟩ hnw3 hof ⟨o1, ho1⟩ ⟨o2, ho2⟩ F3 N3 fin
    clear F F1 N1 NN hnw q he hit
    have hq' : q2 < vsP.length := by simpa using hq
    have hqp : q2 < pile.length := hPl ▸ hq'
    obtain ⟨x, hx⟩ : ∃ x, pile[q2]? = some x := ⟨_, List.getElem?_eq_getElem hqp⟩
    obtain ⟨tt, htt⟩ := hP.at hx
    have hvo : v = outV N (pile.take q2) (.str x tt) := by
      rw [List.getElem?_toArray, List.getElem?_map, htt] at hv
      exact (Option.some.inj hv).symm
    subst hvo
    have htk : pile.take (q2 + 1) = pile.take q2 ++ [x] := by rw [List.take_add_one, hx]; rfl
    have hmsl := hms.len
    have hdl : ((firstN pile q2).filterMap (difOf pile taken)).length ≤ q2 := Nat.le_trans (List.length_filterMap_le _ _) (firstN_le pile q2)
    by_cases hm : x ∈ pile.take q2
    · have e1 : outV N (pile.take q2) (.str x tt) = .ref N := by simp [outV, hm]
      rw [e1] at F3
      replace F3 : Fr h₀ L h3 (locs (nms (dScope 16)) (VV ia ib S T (.int vsP.length tm) n N R (some (.int (q2 : Nat) t1)) (some (.ref N)) cs' ct' j' oe' df')) := F3
      refine wpAny_execs_cons (hideLet ?_)
      intro PHid
      refine wpAny_If (wpAny_isTrue_Compare1 (ldl 9 ok F3 rfl rfl (ldl 6 ok F3 rfl rfl (wpAny_is_ref_self (wpAny_truthy_bool ?_)))))
      refine ite_tt (wpAny_execs_cons (hideLet ?_))
      intro PHid
      refine wpAny_Continue ?_
      refine fin _ _ _ _ _ _ _ (.inr rfl) F3 N3 hsz hnw3 (JS.mk ?_ ?_ hled ?_)
      · rw [htk, outV_same hm hP]
      · rw [htk, outV_same hm hT]
      · rw [firstN_dup hx hm]; exact hms
    · have e1 : outV N (pile.take q2) (.str x tt) = .str x tt := by simp [outV, hm]
      rw [e1] at F3
      replace F3 : Fr h₀ L h3 (locs (nms (dScope 16)) (VV ia ib S T (.int vsP.length tm) n N R (some (.int (q2 : Nat) t1)) (some (.str x tt)) cs' ct' j' oe' df')) := F3
      have hnT : T ≠ en ∧ T ≠ it := hnw3 _ List.mem_cons_self
      have hnR : R ≠ en ∧ R ≠ it := hnw3 _ (List.mem_cons_of_mem _ List.mem_cons_self)
      have hsS : ∀ p ∈ own, p.1 ≠ S := fun p hp e => by
        rcases hof p hp with q | q
        · exact hle (e.symm.trans q)
        · exact hli (e.symm.trans q)
      have hsT : ∀ p ∈ own, p.1 ≠ T := fun p hp e => by
        have := hnw3 _ List.mem_cons_self
        rcases hof p hp with q | q
        · exact this.1 (e.symm.trans q)
        · exact this.2 (e.symm.trans q)
      have hsR : ∀ p ∈ own, p.1 ≠ R := fun p hp e => by
        have := hnw3 _ (List.mem_cons_of_mem _ List.mem_cons_self)
        rcases hof p hp with q | q
        · exact this.1 (e.symm.trans q)
        · exact this.2 (e.symm.trans q)
      have N4 : News h₀ L h3 ((S, lstO (vsP.map (outV N (pile.take q2))).toArray kl2) :: (own ++ (T, lstO (vsT.map (outV N (pile.take q2))).toArray kT') :: (R, lstO ms.toArray kR') :: (N, objO) :: led)) := News.sub N3 (by repeat (first | exact allN | refine allC (by (repeat (first | exact hp | exact List.mem_append_left _ hp | exact .head _ | apply List.Mem.tail | apply List.mem_append_right))) ?_ | refine allA (fun p hp => by (repeat (first | exact hp | exact List.mem_append_left _ hp | exact .head _ | apply List.Mem.tail | apply List.mem_append_right))) ?_ | exact fun p hp => by (repeat (first | exact hp | exact List.mem_append_left _ hp | exact .head _ | apply List.Mem.tail | apply List.mem_append_right))))
      refine wpAny_execs_cons (hideLet ?_)
      intro PHid
      refine wpAny_If (wpAny_isTrue_Compare1 (ldl 9 ok F3 rfl rfl (ldl 6 ok F3 rfl rfl (wpAny_is_other rfl (by first | exact Nat.le_of_ble_eq_true rfl | (repeat (first | exact .head _ | apply List.Mem.tail)); done | simp) (wpAny_truthy_bool ?_)))))
      refine ite_ff (wpAny_execs_nil ?_)
      refine wpAny_execs_cons (hideLet ?_)
      intro PHid
      refine wpAny_Assign_two (cInt fun t2 k4 => assign_Name (stS 10 (VV ia ib S T (.int vsP.length tm) n N R (some (.int (q2 : Nat) t1)) (some (.str x tt)) (some (.int 0 t2)) ct' j' oe' df') ok F3 N4 rfl (Nat.le_of_ble_eq_true rfl) rfl (fun h4 k5 F4 N4 => ?_)))
      refine assign_Name (stS 11 (VV ia ib S T (.int vsP.length tm) n N R (some (.int (q2 : Nat) t1)) (some (.str x tt)) (some (.int 0 t2)) (some (.int 0 t2)) j' oe' df') ok F4 N4 rfl (Nat.le_of_ble_eq_true rfl) rfl (fun h5 k6 F5 N5 => ?_))
      clear F3 N3 F4 N4
      have hlen5 : (vsP.map (outV N (pile.take q2))).length = vsP.length := List.length_map ..
      rw [← hlen5] at F5
      refine wpAny_execs_cons (hideLet ?_)
      intro PHid
      refine inA_c hh hu l (vs := vsP.map (outV N (pile.take q2))) (i := q2) (by rw [hlen5]; lia) (by rw [hlen5]; lia) (outV_ok hP) F5 N5 (by first | exact Nat.le_of_ble_eq_true rfl | (repeat (first | exact .head _ | apply List.Mem.tail)); done | simp) (fun p hp => ?_) (fun h6 k7 tc6 j6 kl6 F6 N6 => ?_)
      · revert p; exact (allA (fun p hp => hsS p hp) (allC (hST.symm) (allC (hSR.symm) (allC (hSN.symm) (fun p hp => (hled p hp).1)))))
      rw [outV_cnt hP q2 hm, hlen5] at F6
      rw [outV_step hP q2] at N6
      clear F5 N5
      replace N6 : News h₀ L h6 ((T, lstO (vsT.map (outV N (pile.take q2))).toArray kT') :: (own ++ (S, lstO (vsP.map (outV N (pile.take q2 ++ [x]))).toArray kl6) :: (R, lstO ms.toArray kR') :: (N, objO) :: led)) := News.sub N6 (by repeat (first | exact allN | refine allC (by (repeat (first | exact hp | exact List.mem_append_left _ hp | exact .head _ | apply List.Mem.tail | apply List.mem_append_right))) ?_ | refine allA (fun p hp => by (repeat (first | exact hp | exact List.mem_append_left _ hp | exact .head _ | apply List.Mem.tail | apply List.mem_append_right))) ?_ | exact fun p hp => by (repeat (first | exact hp | exact List.mem_append_left _ hp | exact .head _ | apply List.Mem.tail | apply List.mem_append_right))))
      refine wpAny_execs_cons (hideLet ?_)
      intro PHid
      refine inB_c hh hu l (vs := vsT.map (outV N (pile.take q2))) (by rw [List.length_map]; lia) (outV_ok hT) F6 N6 (by first | exact Nat.le_of_ble_eq_true rfl | (repeat (first | exact .head _ | apply List.Mem.tail)); done | simp) (fun p hp => ?_) (fun h7 k8 tc7 j7 oe7 kl7 F7 N7 => ?_)
      · revert p; exact (allA (fun p hp => hsT p hp) (allC (hST) (allC (hTR.symm) (allC (hTN.symm) (fun p hp => (hled p hp).2.1)))))
      rw [outV_count hm hT] at F7
      rw [outV_nul hT] at N7
      clear F6 N6
      refine wpAny_execs_cons (hideLet ?_)
      intro PHid
      refine wpAny_If (wpAny_isTrue_Compare1 (ldl 10 ok F7 rfl rfl (ldl 11 ok F7 rfl rfl (ne_int (wpAny_truthy_bool ?_)))))
      by_cases hc : pile.count x = taken.count x
      · rw [show (((pile.count x : Nat) : Int) != ((taken.count x : Nat) : Int)) = false by rw [hc]; simp]
        refine ite_ff (wpAny_execs_nil (wpAny_execs_nil ?_))
        refine fin _ _ _ _ (vsP.map (outV N (pile.take q2 ++ [x]))).toArray kl6 ((T, lstO (vsT.map (outV N (pile.take q2 ++ [x]))).toArray kl7) :: (R, lstO ms.toArray kR') :: (N, objO) :: led) (.inl rfl) F7 (News.sub N7 (by repeat (first | exact allN | refine allC (by (repeat (first | exact hp | exact List.mem_append_left _ hp | exact .head _ | apply List.Mem.tail | apply List.mem_append_right))) ?_ | refine allA (fun p hp => by (repeat (first | exact hp | exact List.mem_append_left _ hp | exact .head _ | apply List.Mem.tail | apply List.mem_append_right))) ?_ | exact fun p hp => by (repeat (first | exact hp | exact List.mem_append_left _ hp | exact .head _ | apply List.Mem.tail | apply List.mem_append_right))))) (by first | exact Nat.le_of_ble_eq_true rfl | (repeat (first | exact .head _ | apply List.Mem.tail)); done | simp) (fun p hp => ?_) (JS.mk (by rw [htk]) (by rw [htk]) hled ?_)
        · rcases List.mem_cons.mp hp with rfl | hp
          · exact hnT
          · exact hnw3 p (List.mem_cons_of_mem _ hp)
        · rw [dif_same hx hm hc]; exact hms
      · rw [show (((pile.count x : Nat) : Int) != ((taken.count x : Nat) : Int)) = true by simp; lia]
        refine ite_tt (wpAny_execs_cons (hideLet ?_))
        intro PHid
        refine wpAny_Assign_Name (Call_ (ldgv 20 ok l F7 rfl hmm (cwM (arg (ldl 10 ok F7 rfl rfl (arg (ldl 11 ok F7 rfl rfl (arg (ldl 9 ok F7 rfl rfl (args_nil ⟨X.keeps F7.keep, ?_⟩))))))))) (by rfl))
        refine mis_call hd (X.keeps F7.keep) (l.keeps F7.keep) (fun y dx h8 k9 kp8 hy0 hy => ?_)
        obtain ⟨N8, hyn⟩ := News.got F7 N7 (Mine.News.kp N7 kp8) hy0 hy
        have F8 := Mine.Fr.kp F7 kp8
        clear F7 N7
        refine stS 14 (VV ia ib S T (.int vsP.length tm) n N R (some (.int (q2 : Nat) t1)) (some (.str x tt)) (some (.int (pile.count x : Nat) tc6)) (some (.int (taken.count x : Nat) tc7)) j7 oe7 (some (.ref y))) ok F8 N8 rfl (Nat.le_of_ble_eq_true rfl) rfl (fun h9 k10 F9 N9 => ?_)
        replace N9 : News h₀ L h9 ((R, lstO ms.toArray kR') :: (own ++ (S, lstO (vsP.map (outV N (pile.take q2 ++ [x]))).toArray kl6) :: (T, lstO (vsT.map (outV N (pile.take q2 ++ [x]))).toArray kl7) :: (N, objO) :: (y, misO dx #[.int (pile.count x : Nat) tc6, .int (taken.count x : Nat) tc7, .str x tt]) :: led)) := News.sub N9 (by repeat (first | exact allN | refine allC (by (repeat (first | exact hp | exact List.mem_append_left _ hp | exact .head _ | apply List.Mem.tail | apply List.mem_append_right))) ?_ | refine allA (fun p hp => by (repeat (first | exact hp | exact List.mem_append_left _ hp | exact .head _ | apply List.Mem.tail | apply List.mem_append_right))) ?_ | exact fun p hp => by (repeat (first | exact hp | exact List.mem_append_left _ hp | exact .head _ | apply List.Mem.tail | apply List.mem_append_right))))
        refine wpAny_execs_cons (hideLet ?_)
        intro PHid
        refine wpAny_Expr_any (MethodCall_ (ldl 7 ok F9 rfl rfl (getMethod_list_append (N9.get List.mem_cons_self) rfl rfl (cwB (arg (ldl 14 ok F9 rfl rfl (args_nil ?_)))))))
        have hyR : R ≠ y := hyn (R, lstO ms.toArray kR') (by first | exact Nat.le_of_ble_eq_true rfl | (repeat (first | exact .head _ | apply List.Mem.tail)); done | simp)
        have hyS : S ≠ y := hyn (S, lstO (vsP.map (outV N (pile.take q2 ++ [x]))).toArray kl6) (by first | exact Nat.le_of_ble_eq_true rfl | (repeat (first | exact .head _ | apply List.Mem.tail)); done | simp)
        have hyT : T ≠ y := hyn (T, lstO (vsT.map (outV N (pile.take q2 ++ [x]))).toArray kl7) (by first | exact Nat.le_of_ble_eq_true rfl | (repeat (first | exact .head _ | apply List.Mem.tail)); done | simp)
        refine appS F9 N9 (fun p hp => ?_) (fun h10 kk10 _ F10 N10 => ?_) (by rw [sizeLine]; simp; lia)
        · revert p; exact (allA (fun p hp => hsR p hp) (allC (hSR) (allC (hTR) (allC (hRN.symm) (allC (hyR.symm) (fun p hp => (hled p hp).2.2))))))
        have e2 : ms.toArray.push (.ref y) = (ms ++ [Value.ref y]).toArray := by simp
        rw [e2] at N10
        refine wpAny_execs_nil (wpAny_execs_nil ?_)
        refine fin _ _ _ _ (vsP.map (outV N (pile.take q2 ++ [x]))).toArray kl6 ((T, lstO (vsT.map (outV N (pile.take q2 ++ [x]))).toArray kl7) :: (R, lstO (ms ++ [Value.ref y]).toArray kk10) :: (N, objO) :: (y, misO dx #[.int (pile.count x : Nat) tc6, .int (taken.count x : Nat) tc7, .str x tt]) :: led) (.inl rfl) F10 (News.sub N10 (by repeat (first | exact allN | refine allC (by (repeat (first | exact hp | exact List.mem_append_left _ hp | exact .head _ | apply List.Mem.tail | apply List.mem_append_right))) ?_ | refine allA (fun p hp => by (repeat (first | exact hp | exact List.mem_append_left _ hp | exact .head _ | apply List.Mem.tail | apply List.mem_append_right))) ?_ | exact fun p hp => by (repeat (first | exact hp | exact List.mem_append_left _ hp | exact .head _ | apply List.Mem.tail | apply List.mem_append_right))))) (by first | exact Nat.le_of_ble_eq_true rfl | (repeat (first | exact .head _ | apply List.Mem.tail)); done | simp) (fun p hp => ?_) (JS.mk (by rw [htk]) (by rw [htk]) ?_ ?_)
        · revert p; exact (allC (hnT) (allC (hnR) (allC (hnw3 (N, objO) (by first | exact Nat.le_of_ble_eq_true rfl | (repeat (first | exact .head _ | apply List.Mem.tail)); done | simp)) (allC (⟨fun e => hyn (en, o1) (List.mem_cons_of_mem _ (List.mem_append_left _ ho1)) e.symm, fun e => hyn (it, o2) (List.mem_cons_of_mem _ (List.mem_append_left _ ho2)) e.symm⟩) (fun p hp => hnw3 p (by simp [hp]))))))
        · intro p hp
          rcases List.mem_cons.mp hp with rfl | hp
          · exact ⟨hyS.symm, hyT.symm, hyR.symm⟩
          · exact hled p hp
        · rw [dif_new hx hm hc]
          exact MisIn.snoc List.mem_cons_self (hms.mono (fun p hp => List.mem_cons_of_mem _ hp))
  · rintro h3 k3 vals items kl2 news F3 N3 ⟨i', e', cs', ct', j', oe', df', kT', kR', ms, led, rfl, rfl, rfl, hled, hms⟩
    rw [List.size_toArray, hPl] at N3 hms
    rw [List.take_length] at N3
    exact q _ _ _ _ _ _ _ _ _ _ _ _ _ _ F3 N3 hled hms
end
end Mine
namespace Mine
section
variable {w : World} {A : Around} {E : Value → Shared → Prop} {h : Heap} {g : Array GenState} {d : Drawn} {k : Nat} {o : OsState} {L a : Addr} {cd : Value} {h₀ : Heap} {ad : Nat → Addr} {mg mb : Str → Option Value}
  {ia ib S T N R : Addr} {n mv : Value} {i e cs ct j oe df : Option Value} {others : List (Addr × Obj)}
set_option maxHeartbeats 2000000 in
theorem lpT_c (hh : A.handled = none) (l : Lib ad mg mb h₀) {vs : List Value} {kT : Nat} {Q : Flow → Shared → Prop} (hN : ∀ v ∈ vs, v = .ref N) (F : Fr h₀ L h (locs (nms (dScope 16)) (VV ia ib S T mv n N R i e cs ct j oe df)))
    (NN : News h₀ L h ((T, lstO vs.toArray kT) :: others))
    (q : ∀ h' k' i' e' kT', Fr h₀ L h' (locs (nms (dScope 16)) (VV ia ib S T mv n N R i' e' cs ct j oe df)) → News h₀ L h' ((T, lstO vs.toArray kT') :: others) → Q .next ⟨h', g, d, k', o⟩) :
    wpAny (model prg w) A (exec lpT (envX (dName 16) (dScope 16) L a cd [])) Q E ⟨h, g, d, k, o⟩ := by
  have ok := sc16
  refine forEn (h₀ := h₀) hh ok 8 9 rfl rfl (callT (fun Q' q => ldb 18 ok l F rfl (by decide) boot_enumerate q) (arg (ldl 3 ok F rfl rfl (args_nil ?_))))
  refine enumS F NN (l := T) (vs := vs) ⟨_, NN.get List.mem_cons_self, rfl, _, rfl⟩ (fun en it h1 he hit hei hle hli heL hiL he0 hi0 hnw hel hil F1 N1 kp1 => ?_)
  refine wpAny_pyIter_enum he ?_
  refine ForE.mk (l := T) (items := vs.toArray) (kl := kT) (fun q vals items news => ∃ i' e', vals = VV ia ib S T mv n N R i' e' cs ct j oe df ∧ items = vs.toArray ∧ news = others) he hit hei hle hli heL hiL he0 hi0 (fun p hp => hnw p (List.mem_cons_of_mem _ hp)) F1 N1 ⟨i, e, rfl, rfl, rfl⟩ ?_ ?_ ?_
  · rintro q vals items news ⟨i', e', rfl, _⟩
    simp
  · rintro E2 R2 q2 t1 v vals items kl2 news own h3 k3 hq hv hsz ⟨i', e', rfl, rfl, rfl⟩ hnw3 hof _ _ F3 N3 fin
    have hv' : v = .ref N := hN v (by
      rw [List.getElem?_toArray] at hv
      exact List.mem_of_getElem? hv)
    subst hv'
    replace F3 : Fr h₀ L h3 (locs (nms (dScope 16)) (VV ia ib S T mv n N R (some (.int (q2 : Nat) t1)) (some (.ref N)) cs ct j oe df)) := F3
    refine wpAny_execs_cons (hideLet ?_)
    intro PHid
    refine wpAny_If (wpAny_isTrue_Compare1 (ldl 9 ok F3 rfl rfl (ldl 6 ok F3 rfl rfl (wpAny_is_ref_self (wpAny_truthy_bool ?_)))))
    refine ite_tt (wpAny_execs_cons (hideLet ?_))
    intro PHid
    refine wpAny_Continue ?_
    exact fin _ _ _ _ _ _ _ (.inr rfl) F3 N3 hsz hnw3 ⟨_, _, rfl, rfl, rfl⟩
  · rintro h3 k3 vals items kl2 news F3 N3 ⟨i', e', rfl, rfl, rfl⟩
    exact q _ _ _ _ _ F3 N3
end
/-- what is between two lists of texts -/
noncomputable def difs (pile taken : List Str) : List (Nat × Nat × Str) := (firstN pile pile.length).filterMap (difOf pile taken)
set_option maxHeartbeats 4000000 in
theorem cd_c {w : World} {ad : Nat → Addr} {mg mb : Str → Option Value} (h0 : Heap) (pile taken : List Str) (ia ib : Addr) (vsP vsT : List Value) (hP : StrsAre vsP pile) (hT : StrsAre vsT taken) (hbP : pile.length ≤ 10000) (hbT : taken.length ≤ 10000) (hsub : ∀ t ∈ taken, t ∈ pile)
    (hmm : mg "_Mismatch" = some (.ref 197)) :
    FnC w ad mg mb 16 [.ref ia, .ref ib] 2 (fun h => h = h0 ∧ h.IsList ia vsP.toArray ∧ h.IsList ib vsT.toArray ∧ (misK w.params).In h)
      (fun h v => ∃ D ms kk led, v = .ref D ∧ (∀ p ∈ led, h0.get? p.1 = none ∧ h.get? p.1 = some p.2) ∧ (D, lstO ms.toArray kk) ∈ led ∧ MisIn led ms (difs pile taken)) := by
  rintro ⟨hd0, dp, fr, gd, un⟩ ⟨h, g, d, k, o⟩ R0 hh hd hu l ⟨e0, hlP, hlT, X⟩ hR
  dsimp only at hh hd hu hR e0 hlP hlT X
  subst hh
  subst e0
  have ok := sc16
  have hPl := hP.len_eq
  have hTl := hT.len_eq
  refine enterS 16 ["actual", "expected"] _ l (by decide) ok (by show dp < _; lia) (by with_unfolding_all rfl) (by with_unfolding_all rfl) rfl (fun _ _ _ => rfl) (by decide +kernel) (by decide +kernel) (fun L cd h₁ k₁ hL F N => ?_)
  replace F : Fr h L h₁ (locs (nms (dScope 16)) [some (.ref ia), some (.ref ib), none, none, none, none, none, none, none, none, none, none, none, none, none, none, none, none, none, none, none]) := F
  refine hidePost (fun Q' hQ => ?_)
  replace hR : ∀ h' k' v, Kp h h' → (∃ D ms kk led, v = .ref D ∧ (∀ p ∈ led, h.get? p.1 = none ∧ h'.get? p.1 = some p.2) ∧ (D, lstO ms.toArray kk) ∈ led ∧ MisIn led ms (difs pile taken)) → Q' (.ret v) ⟨h', g, d, k', o⟩ := fun h' k' v a b => hQ _ _ (hR _ _ _ a b)
  clear hQ
  refine hideA ?_
  intro AHid
  refine wpAny_execs_cons (hideLet ?_)
  intro PHid
  refine wpAny_Expr_any (cStr fun t1 k1 => ?_)
  refine wpAny_execs_cons (hideLet ?_)
  intro PHid
  refine Assign_Tuple_swapped (Tuple_ ?_) (by rfl) (by rfl)
  refine arg (callT (fun Q' q => ldb 15 ok l F rfl (by decide) boot_list q) (arg (ldl 0 ok F rfl rfl (args_nil ?_))))
  refine copyS F N (hlP.at fun o e => F.keep _ o e) (by lia) (fun S h2 kS kp2 F2 N2 hS => ?_)
  refine arg (callT (fun Q' q => ldb 15 ok l F2 rfl (by decide) boot_list q) (arg (ldl 1 ok F2 rfl rfl (args_nil ?_))))
  refine copyS F2 N2 (hlT.at fun o e => F2.keep _ o e) (by lia) (fun T h3 kT kp3 F3 N3 hT3 => args_nil ?_)
  have hST : S ≠ T := hT3 (S, lstO vsP.toArray kS) List.mem_cons_self
  refine newTupS F3 N3 (fun Tp h4 kp4 F4 N4 hTp => ?_)
  refine unpS rfl F4 N4 (N4.get List.mem_cons_self) rfl (fun h5 kp5 F5 N5 => ?_)
  replace N5 : News h L h5 [(S, lstO vsP.toArray kS), (T, lstO vsT.toArray kT)] := News.sub N5 (by first | exact Nat.le_of_ble_eq_true rfl | (repeat (first | exact .head _ | apply List.Mem.tail)); done | simp)
  refine assignInOrder_cons (bindName_ (stS 3 [some (.ref ia), some (.ref ib), none, some (.ref T), none, none, none, none, none, none, none, none, none, none, none, none, none, none, none, none, none] ok F5 N5 rfl (Nat.le_of_ble_eq_true rfl) rfl (fun h6 k6 F6 N6 => ?_)))
  refine assignInOrder_cons (bindName_ (stS 2 [some (.ref ia), some (.ref ib), some (.ref S), some (.ref T), none, none, none, none, none, none, none, none, none, none, none, none, none, none, none, none, none] ok F6 N6 rfl (Nat.le_of_ble_eq_true rfl) rfl (fun h7 k7 F7 N7 => assignInOrder_nil ?_)))
  clear F F2 F3 F4 F5 F6 N N2 N3 N4 N5 N6 kp2 kp3 kp4 kp5
  refine wpAny_execs_cons (hideLet ?_)
  intro PHid
  refine Assign_Tuple_swapped (Tuple_ ?_) (by rfl) (by rfl)
  refine arg (callB (fun Q' q => ldb 16 ok l F7 rfl (by decide) boot_len q) (arg (ldl 2 ok F7 rfl rfl (args_nil ?_))))
  refine lenLS (vs := vsP) ⟨_, N7.get List.mem_cons_self, rfl, _, rfl⟩ (by lia) (fun tm k8 => ?_)
  refine arg (callB (fun Q' q => ldb 16 ok l F7 rfl (by decide) boot_len q) (arg (ldl 3 ok F7 rfl rfl (args_nil ?_))))
  refine lenLS (vs := vsT) ⟨_, N7.get (List.mem_cons_of_mem _ List.mem_cons_self), rfl, _, rfl⟩ (by lia) (fun tn k9 => args_nil ?_)
  refine newTupS F7 N7 (fun Tp2 h8 kp8 F8 N8 hTp2 => ?_)
  refine unpS rfl F8 N8 (N8.get List.mem_cons_self) rfl (fun h9 kp9 F9 N9 => ?_)
  replace N9 : News h L h9 [(S, lstO vsP.toArray kS), (T, lstO vsT.toArray kT)] := newsTail N9
  refine assignInOrder_cons (bindName_ (stS 5 [some (.ref ia), some (.ref ib), some (.ref S), some (.ref T), none, some (.int vsT.length tn), none, none, none, none, none, none, none, none, none, none, none, none, none, none, none] ok F9 N9 rfl (Nat.le_of_ble_eq_true rfl) rfl (fun h10 k10 F10 N10 => ?_)))
  refine assignInOrder_cons (bindName_ (stS 4 [some (.ref ia), some (.ref ib), some (.ref S), some (.ref T), some (.int vsP.length tm), some (.int vsT.length tn), none, none, none, none, none, none, none, none, none, none, none, none, none, none, none] ok F10 N10 rfl (Nat.le_of_ble_eq_true rfl) rfl (fun h11 k11 F11 N11 => assignInOrder_nil ?_)))
  clear F7 F8 F9 F10 N7 N8 N9 N10 kp8 kp9
  refine wpAny_execs_cons (hideLet ?_)
  intro PHid
  refine wpAny_Assign_Name (callT0 (fun Q' q => ldb 17 ok l F11 rfl (by decide) boot_object q) (new_object (fun k12 => ?_)))
  obtain ⟨N12, hN⟩ := News.got F11 N11 (h₁ := h11.push objO) (Mine.News.kp N11 (fun b o e => Heap.get?_push_of_some _ e)) (Heap.get?_none_of_le (Nat.le_refl _)) (Heap.get?_push_size _ rfl)
  have F12 : Fr h L (h11.push objO) _ := Mine.Fr.kp F11 (fun b o e => Heap.get?_push_of_some _ e)
  generalize h11.objs.size = Nn at N12 hN ⊢
  generalize h11.push objO = h12 at N12 F12 ⊢
  clear F11 N11
  refine stS 6 [some (.ref ia), some (.ref ib), some (.ref S), some (.ref T), some (.int vsP.length tm), some (.int vsT.length tn), some (.ref Nn), none, none, none, none, none, none, none, none, none, none, none, none, none, none] ok F12 N12 rfl (Nat.le_of_ble_eq_true rfl) rfl (fun h13 k13 F13 N13 => ?_)
  refine wpAny_execs_cons (hideLet ?_)
  intro PHid
  refine wpAny_Assign_Name (List_ (args_nil (newListS F13 N13 (fun Rl h14 kp14 F14 N14 hR14 => ?_))))
  refine stS 7 (VV ia ib S T (.int vsP.length tm) (.int vsT.length tn) Nn Rl none none none none none none none) ok F14 N14 rfl (Nat.le_of_ble_eq_true rfl) rfl (fun h15 k15 F15 N15 => ?_)
  have hSN : S ≠ Nn := hN (S, lstO vsP.toArray kS) (by first | exact Nat.le_of_ble_eq_true rfl | (repeat (first | exact .head _ | apply List.Mem.tail)); done | simp)
  have hTN : T ≠ Nn := hN (T, lstO vsT.toArray kT) (by first | exact Nat.le_of_ble_eq_true rfl | (repeat (first | exact .head _ | apply List.Mem.tail)); done | simp)
  have hSR : S ≠ Rl := hR14 (S, lstO vsP.toArray kS) (by first | exact Nat.le_of_ble_eq_true rfl | (repeat (first | exact .head _ | apply List.Mem.tail)); done | simp)
  have hTR : T ≠ Rl := hR14 (T, lstO vsT.toArray kT) (by first | exact Nat.le_of_ble_eq_true rfl | (repeat (first | exact .head _ | apply List.Mem.tail)); done | simp)
  have hRN : Rl ≠ Nn := (hR14 (Nn, objO) (by first | exact Nat.le_of_ble_eq_true rfl | (repeat (first | exact .head _ | apply List.Mem.tail)); done | simp)).symm
  replace N15 : News h L h15 [(S, lstO vsP.toArray kS), (T, lstO vsT.toArray kT), (Rl, lstO #[] 0), (Nn, objO)] := News.sub N15 (by repeat (first | exact allN | refine allC (by (repeat (first | exact hp | exact List.mem_append_left _ hp | exact .head _ | apply List.Mem.tail | apply List.mem_append_right))) ?_ | refine allA (fun p hp => by (repeat (first | exact hp | exact List.mem_append_left _ hp | exact .head _ | apply List.Mem.tail | apply List.mem_append_right))) ?_ | exact fun p hp => by (repeat (first | exact hp | exact List.mem_append_left _ hp | exact .head _ | apply List.Mem.tail | apply List.mem_append_right))))
  clear F12 N12 F13 N13 F14 N14 kp14 hN hR14
  refine wpAny_execs_cons (hideLet ?_)
  intro PHid
  refine lpS_c rfl (by show dp + 1 + 1 < _; lia) (by show un + _ < _; lia) l hmm X hP hT hbP hbT F15 N15 hST hSR hSN hTR hTN hRN (fun h16 k16 kS' kT' kR' ms led i' e' cs' ct' j' oe' df' F16 N16 hled hms => ?_)
  replace N16 : News h L h16 ((T, lstO (vsT.map (outV Nn pile)).toArray kT') :: (Rl, lstO ms.toArray kR') :: led) := News.sub N16 (by repeat (first | exact allN | refine allC (by (repeat (first | exact hp | exact List.mem_append_left _ hp | exact .head _ | apply List.Mem.tail | apply List.mem_append_right))) ?_ | refine allA (fun p hp => by (repeat (first | exact hp | exact List.mem_append_left _ hp | exact .head _ | apply List.Mem.tail | apply List.mem_append_right))) ?_ | exact fun p hp => by (repeat (first | exact hp | exact List.mem_append_left _ hp | exact .head _ | apply List.Mem.tail | apply List.mem_append_right))))
  refine wpAny_execs_cons (hideLet ?_)
  intro PHid
  refine lpT_c rfl l (outV_all hT hsub) F16 N16 (fun h17 k17 i'' e'' kT'' F17 N17 => ?_)
  refine wpAny_execs_cons (hideLet ?_)
  intro PHid
  refine wpAny_Return_some (ldl 7 ok F17 rfl rfl ?_)
  refine hR _ _ _ F17.keep ⟨Rl, ms, kR', (Rl, lstO ms.toArray kR') :: led, rfl, fun p hp => ?_, List.mem_cons_self, hms.mono fun p hp => List.mem_cons_of_mem _ hp⟩
  have := N17 p (List.mem_cons_of_mem _ hp)
  exact ⟨this.2.2, this.1⟩
end Mine
namespace Mine
/-- a zip whose last tuple is alive -/
noncomputable abbrev IsZipB (h : Heap) (z TI TO T : Addr) (b : Bool) : Prop :=
  h.get? z = some { cls := .type "zip", dict := none, data := .fields #[rawInt T, .bool b, .bool false, .ref TI, .ref TO], slots := #[] }
theorem wpAny_alive {M : Model} {A : Around} {E : Value → Shared → Prop} {s : Shared} {a : Addr} {Q : Option Obj → Shared → Prop} (h : Q (s.heap.get? a) s) : wpAny M A (loadIfAlive a) Q E s := fun _ _ _ => h
section
variable {prog : Program} {w : World} {A : Around} {E : Value → Shared → Prop} {s : Shared} {z TI TO T i1 i2 l1 l2 : Addr} {k1 k2 : Nat} {xs ys : Array Value} {x y : Value} {b : Bool} {oT : Obj}
theorem notFree {Q : Bool → Shared → Prop} (hz : IsZipB s.heap z TI TO T b) (hT : s.heap.get? T = some oT) (hQ : ∀ h', IsZipB h' z TI TO T true → Heap.SameBut z s.heap h' → Q false { s with heap := h' }) :
    wpAny (model prog w) A (Builtin.SmallTypes.ownedTupleIsFree (.ref z)) Q E s := by
  unfold Builtin.SmallTypes.ownedTupleIsFree
  refine wpAny_bind (wpAny_field hz rfl (x := rawInt T) rfl ?_)
  show wpAny _ _ (loadIfAlive (Int.toNat (T : Nat)) >>= _) _ _ _
  rw [Int.toNat_natCast]
  refine wpAny_bind (wpAny_alive ?_)
  rw [hT]
  show wpAny _ _ (field (.ref z) 1 >>= _) _ _ _
  refine wpAny_bind (wpAny_field hz rfl (x := .bool b) rfl ?_)
  cases b with
  | true => exact wpAny_pure (hQ _ hz (Heap.SameBut.refl _ _))
  | false =>
    show wpAny _ _ (setField (.ref z) 1 (.bool true) >>= _) _ _ _
    exact wpAny_bind (wpAny_setField_rec hz (by first | exact Nat.le_of_ble_eq_true rfl | (repeat (first | exact .head _ | apply List.Mem.tail)); done | simp) fun h₀ hz₀ hs₀ => wpAny_pure (hQ _ hz₀ hs₀))
theorem zipB_item {Q : Value → Shared → Prop} (D : ZipApart z TI TO i1 i2 l1 l2) (hz : IsZipB s.heap z TI TO T b) (hTI : IsPair s.heap TI (.ref i1) (.ref i2)) (hT : s.heap.get? T = some oT) 
    (h1 : s.heap.IsListIter i1 l1 k1) (h2 : s.heap.IsListIter i2 l2 k2) (hl1 : s.heap.IsList l1 xs) (hl2 : s.heap.IsList l2 ys) (hx : xs[k1]? = some x) (hy : ys[k2]? = some y)
    (hQ : ∀ h', IsZipB h' z TI TO T true → h'.IsListIter i1 l1 (k1 + 1) → h'.IsListIter i2 l2 (k2 + 1) → IsPair h' s.heap.objs.size x y → h'.objs.size = s.heap.objs.size + 1 →
      (∀ c o, c ≠ z → c ≠ i1 → c ≠ i2 → s.heap.get? c = some o → h'.get? c = some o) → Q (.ref s.heap.objs.size) { s with heap := h' }) :
    wpAny (model prog w) A (Builtin.«zip.__next__» ⟨[.ref z], []⟩) (fun fin s' => ∃ v, fin = .done (.ret v) ∧ Q v s') E s := by
  show wpAny _ _ (field (.ref z) 2 >>= _) _ _ _
  refine wpAny_bind (wpAny_field hz rfl (x := .bool false) rfl ?_)
  show wpAny _ _ (field (.ref z) 3 >>= _) _ _ _
  refine wpAny_bind (wpAny_field hz rfl (x := .ref TI) rfl (wpAny_bind (wpAny_seqItems hTI rfl ?_)))
  show wpAny _ _ (Builtin.SmallTypes.ownedTupleIsFree (.ref z) >>= _) _ _ _
  refine wpAny_bind ?_
  refine notFree hz hT fun h0 hz0 hs0 => ?_
  simp only [Bool.false_eq_true, if_false]
  refine wpAny_bind ?_
  rw [← Array.forIn_toList]
  simp only [List.forIn_cons, List.forIn_nil]
  refine wpAny_bind (wpAny_bind (wpAny_holding ?_))
  show wpAny _ _ (Builtin.SmallTypes.nextOf (.ref i1) >>= _) _ _ _
  refine wpAny_bind (wpAny_nextOf_list_item (h1.extBut hs0.extBut D.i1z) (hl1.extBut hs0.extBut D.l1z) hx fun h3 h13 hs3 => wpAny_pure ?_)
  refine wpAny_pure ?_
  refine wpAny_bind (wpAny_bind (wpAny_holding ?_))
  show wpAny _ _ (Builtin.SmallTypes.nextOf (.ref i2) >>= _) _ _ _
  refine wpAny_bind (wpAny_nextOf_list_item ((h2.extBut hs0.extBut D.i2z).extBut hs3.extBut D.i12.symm) ((hl2.extBut hs0.extBut D.l2z).extBut hs3.extBut D.l2i1) hy fun h4 h24 hs4 => wpAny_pure ?_)
  refine wpAny_pure (wpAny_pure ?_)
  refine wpAny_bind (wpAny_newTuple ?_ (by show 2 ≤ sizeLine; decide +kernel))
  have hsz : h4.objs.size = s.heap.objs.size := by rw [hs4.1, hs3.1, hs0.1]
  refine wpAny_pure ⟨_, rfl, ?_⟩
  show Q (.ref h4.objs.size) _
  rw [hsz]
  have kz : ∀ c o, c ≠ z → c ≠ i1 → c ≠ i2 → s.heap.get? c = some o → h4.get? c = some o := fun c o c1 c2 c3 e => hs4.extBut _ _ c3 (hs3.extBut _ _ c2 (hs0.extBut _ _ c1 e))
  refine hQ _ (Heap.get?_push_of_some _ (hs4.extBut _ _ D.i2z.symm (hs3.extBut _ _ D.i1z.symm hz0))) ((h13.extBut hs4.extBut D.i12).at fun o e => Heap.get?_push_of_some _ e) (h24.at fun o e => Heap.get?_push_of_some _ e) (by rw [← hsz]; exact Heap.get?_push_size _ rfl) (by rw [Heap.size_push, hsz]) (fun c o c1 c2 c3 e => Heap.get?_push_of_some _ (kz c o c1 c2 c3 e))
theorem zipB_end {Q : Fin → Shared → Prop} (hh : A.handled = none) (D : ZipApart z TI TO i1 i2 l1 l2) (hz : IsZipB s.heap z TI TO T b) (hTI : IsPair s.heap TI (.ref i1) (.ref i2)) (hT : s.heap.get? T = some oT)
    (h1 : s.heap.IsListIter i1 l1 k1) (hl1 : s.heap.IsList l1 xs) (hx : xs[k1]? = none)
    (hE : ∀ h' e, (∀ c o, c ≠ z → c ≠ i1 → c ≠ i2 → s.heap.get? c = some o → h'.get? c = some o) → (∃ o, h'.get? e = some o ∧ o.cls = .type "StopIteration") → E (.ref e) { s with heap := h' }) :
    wpAny (model prog w) A (Builtin.«zip.__next__» ⟨[.ref z], []⟩) Q E s := by
  show wpAny _ _ (field (.ref z) 2 >>= _) _ _ _
  refine wpAny_bind (wpAny_field hz rfl (x := .bool false) rfl ?_)
  show wpAny _ _ (field (.ref z) 3 >>= _) _ _ _
  refine wpAny_bind (wpAny_field hz rfl (x := .ref TI) rfl (wpAny_bind (wpAny_seqItems hTI rfl ?_)))
  show wpAny _ _ (Builtin.SmallTypes.ownedTupleIsFree (.ref z) >>= _) _ _ _
  refine wpAny_bind ?_
  refine notFree hz hT fun h0 hz0 hs0 => ?_
  simp only [Bool.false_eq_true, if_false]
  refine wpAny_bind ?_
  rw [← Array.forIn_toList]
  simp only [List.forIn_cons, List.forIn_nil]
  refine wpAny_bind (wpAny_bind (wpAny_holding ?_))
  show wpAny _ _ (Builtin.SmallTypes.nextOf (.ref i1) >>= _) _ _ _
  refine wpAny_bind (wpAny_nextOf_list_end hh (h1.extBut hs0.extBut D.i1z) (hl1.extBut hs0.extBut D.l1z) hx fun h3 e hs3 he => ?_)
  exact hE _ _ (fun c o c1 c2 c3 x => hs3 _ _ c2 (hs0.extBut _ _ c1 x)) he
theorem next_zipB {Q : Option Value → Shared → Prop} (D : ZipApart z TI TO i1 i2 l1 l2) (hz : IsZipB s.heap z TI TO T b) (hTI : IsPair s.heap TI (.ref i1) (.ref i2)) (hT : s.heap.get? T = some oT) 
    (h1 : s.heap.IsListIter i1 l1 k1) (h2 : s.heap.IsListIter i2 l2 k2) (hl1 : s.heap.IsList l1 xs) (hl2 : s.heap.IsList l2 ys) (hx : xs[k1]? = some x) (hy : ys[k2]? = some y)
    (hQ : ∀ h', IsZipB h' z TI TO T true → h'.IsListIter i1 l1 (k1 + 1) → h'.IsListIter i2 l2 (k2 + 1) → IsPair h' s.heap.objs.size x y → h'.objs.size = s.heap.objs.size + 1 →
      (∀ c o, c ≠ z → c ≠ i1 → c ≠ i2 → s.heap.get? c = some o → h'.get? c = some o) → Q (some (.ref s.heap.objs.size)) { s with heap := h' }) :
    wpAny (model prog w) A (pyNext (.ref z)) Q E s := by
  have ht : s.TypeIs (.ref z) "zip" := ⟨_, hz, rfl⟩
  unfold pyNext
  exact wpAny_bind (wpAny_attempt (wpAny_callSpecial?_slot (name := Str.ofString "__next__") ht PySem.F.slot_zip_next
    (wpAny_call_entry PySem.F.slot_zip_next ht PySem.F.entry_zip_next
      (zipB_item D hz hTI hT h1 h2 hl1 hl2 hx hy fun h' a1 a2 a3 a4 a5 a6 => wpAny_pure (hQ h' a1 a2 a3 a4 a5 a6)) (PySem.F.args_zip_next_1 _))))
theorem next_zipB_end {Q : Option Value → Shared → Prop} (hh : A.handled = none) (D : ZipApart z TI TO i1 i2 l1 l2) (hz : IsZipB s.heap z TI TO T b) (hTI : IsPair s.heap TI (.ref i1) (.ref i2)) (hT : s.heap.get? T = some oT)
    (h1 : s.heap.IsListIter i1 l1 k1) (hl1 : s.heap.IsList l1 xs) (hx : xs[k1]? = none)
    (hQ : ∀ h', (∀ c o, c ≠ z → c ≠ i1 → c ≠ i2 → s.heap.get? c = some o → h'.get? c = some o) → Q none { s with heap := h' }) :
    wpAny (model prog w) A (pyNext (.ref z)) Q E s := by
  have ht : s.TypeIs (.ref z) "zip" := ⟨_, hz, rfl⟩
  unfold pyNext
  refine wpAny_bind (wpAny_attempt (wpAny_callSpecial?_slot (name := Str.ofString "__next__") ht PySem.F.slot_zip_next
    (wpAny_call_entry PySem.F.slot_zip_next ht PySem.F.entry_zip_next (zipB_end hh D hz hTI hT h1 hl1 hx fun h' e hk he => ?_) (PySem.F.args_zip_next_1 _))))
  obtain ⟨o, ho, hc⟩ := he
  refine wpAny_bind (wpAny_isInstance (T := "StopIteration") (b := true) ⟨o, ho, hc⟩ isSubtype_stop ?_)
  exact wpAny_pure (hQ _ hk)
/-- a zip has no keys -/
theorem zip_getattr_none : typeLookup (.type "zip") "__getattr__" = pure none := by rw [typeLookup_type, builtinLookup_eq_fast]; kernel_rfl
theorem zip_keys_none : typeLookup (.type "zip") "keys" = pure none := by rw [typeLookup_type, builtinLookup_eq_fast]; kernel_rfl
theorem entry_zip_getattribute : entryFor table "zip.__getattribute__" = some Builtin.«object.__getattribute__» :=
  entryFor_alias (id' := "object.__getattribute__") (by kernel_rfl) (by decide +kernel) (by decide +kernel) (by kernel_rfl)
theorem zip_miss (a : Addr) (fs : Array Value) (u : Tok) :
    Meets (Builtin.«object.__getattribute__» ⟨[.ref a, .str "keys" u], []⟩) (fun A R s => s.heap.get? a = some { cls := .type "zip", dict := none, data := .fields fs, slots := #[] } ∧ raisesAttr (.ref a) "keys" A R s) :=
  Meets.of_wp fun prog w A R s hs => by
    obtain ⟨hp, g, d, tk, os⟩ := s
    obtain ⟨hx, hs⟩ := hs
    have hT : (⟨hp, g, d, tk, os⟩ : Shared).TypeIs (.ref a) "zip" := ⟨_, hx, rfl⟩
    have hmiss := zip_keys_none
    have hname : (["__module__", "__name__", "__qualname__", "__doc__", "__annotations__"] : List Str).contains "keys" = false := by decide +kernel
    unfold Builtin.«object.__getattribute__»
    repeat (any_goals (first | assumption | wp_step))
    try simp only [hname, Bool.false_eq_true, if_false]
    repeat (any_goals (first | assumption | wp_step))
    exact wpAny_raiseAttrError hs.1 hs.2 (attrMsg_fits (by decide +kernel) (by size_fits))
end
end Mine
namespace Mine
section
variable {prog : Program} {w : World} {A : Around} {E : Value → Shared → Prop} {s : Shared}
theorem keys_zip {a : Addr} {fs : Array Value} {Q : Option Value → Shared → Prop} (hx : s.heap.get? a = some { cls := .type "zip", dict := none, data := .fields fs, slots := #[] }) (hA : A.handled = none)
    (h : ∀ h' tk, Kp s.heap h' → Q none { s with heap := h', toks := tk }) : wpAny (model prog w) A (getAttr? (.ref a) "keys") Q E s := by
  obtain ⟨hp, g, d, tk, os⟩ := s
  have hT : ∀ tk', (⟨hp, g, d, tk', os⟩ : Shared).TypeIs (.ref a) "zip" := fun _ => ⟨_, hx, rfl⟩
  have f1 := sub_AttributeError
  have f3 := PySem.F.slot_zip_getattribute.lookup
  have f4 := PySem.F.slot_zip_getattribute.bind (.ref a)
  have f5 := zip_getattr_none
  unfold getAttr? getAttrBy? getAttrBy
  repeat (any_goals (first | assumption | exact hT _ | (with_reducible refine wpAny_attempt ?_) | ((with_reducible show wpAny _ _ (call (Value.builtin "zip.__getattribute__") _ _) _ _ _); refine call_meets PySem.F.slot_zip_getattribute (hT _) entry_zip_getattribute (PySem.F.args_zip_getattribute_2 _ _) (zip_miss a fs _) ⟨hx, hA, fun h' tk' e hx' => ?_⟩) | wp_step))
  have hk : Kp hp h' := hx'.of.keeps
  obtain ⟨t', u', he⟩ := hx'.there
  show wpAny _ _ (getattributeRaised _ _ _ _ _ _ _) _ _ _
  unfold getattributeRaised
  repeat (any_goals (first | assumption | exact h _ _ hk | wp_step))
theorem ul_entry : entryFor table "dict.update.loop" = some Builtin.«dict.update.loop» := entryFor_of_tree (by kernel_rfl)
theorem ul_plain : plainId "dict.update.loop" = true := by decide +kernel
end
section
variable {w : World} {A : Around} {R : Result → Shared → Prop}
/-- a zip of two lists after k items -/
noncomputable def ZS (z TI TO i1 i2 l1 l2 : Addr) (vs ws : List Value) (k : Nat) (h : Heap) : Prop :=
  IsPair h TI (.ref i1) (.ref i2) ∧ h.IsListIter i1 l1 k ∧ h.IsListIter i2 l2 k ∧ h.IsList l1 vs.toArray ∧ h.IsList l2 ws.toArray ∧
  ((k = 0 ∧ IsZip h z TI TO .none ∧ IsPair h TO .none .none) ∨ ∃ T b oT, IsZipB h z TI TO T b ∧ h.get? T = some oT ∧ T ≠ z ∧ T ≠ i1 ∧ T ≠ i2 ∧ oT.cls = .type "tuple")
theorem ZS.item {z TI TO i1 i2 l1 l2 : Addr} {vs ws : List Value} {k : Nat} {s : Shared} {x y : Value} {Q : Option Value → Shared → Prop} {E : Value → Shared → Prop} (D : ZipApart z TI TO i1 i2 l1 l2) (Z : ZS z TI TO i1 i2 l1 l2 vs ws k s.heap) (hx : vs[k]? = some x) (hy : ws[k]? = some y)
    (hQ : ∀ T h', ZS z TI TO i1 i2 l1 l2 vs ws (k + 1) h' → s.heap.get? T = none → IsPair h' T x y → (∀ c o, c ≠ z → c ≠ TO → c ≠ i1 → c ≠ i2 → s.heap.get? c = some o → h'.get? c = some o) → Q (some (.ref T)) { s with heap := h' }) :
    wpAny (model prg w) A (pyNext (.ref z)) Q E s := by
  obtain ⟨hTI, h1, h2, hl1, hl2, hz⟩ := Z
  have hx' : vs.toArray[k]? = some x := by simpa using hx
  have hy' : ws.toArray[k]? = some y := by simpa using hy
  have fresh : s.heap.get? s.heap.objs.size = none := Heap.get?_none_of_le (Nat.le_refl _)
  have ne : ∀ b o, s.heap.get? b = some o → s.heap.objs.size ≠ b := fun b o e q => by rw [← q, fresh] at e; cases e
  have n1 : s.heap.objs.size ≠ i1 := by obtain ⟨o, e, _⟩ := h1; exact ne _ _ e
  have n2 : s.heap.objs.size ≠ i2 := by obtain ⟨o, e, _⟩ := h2; exact ne _ _ e
  rcases hz with ⟨rfl, hz, hTO⟩ | ⟨T, b, oT, hz, hT, t1, t2, t3, t4⟩
  · refine wpAny_pyNext_zip_item D hz hTI hTO h1 h2 hl1 hl2 hx' hy' fun h' a1 a2 a3 a4 a5 a6 a7 => ?_
    refine hQ _ h' ⟨a7 _ _ D.TIz D.TITO D.TIi1 D.TIi2 hTI, a3, a4, hl1.at fun o e => a7 _ _ D.l1z D.l1TO D.l1i1 D.l1i2 e, hl2.at fun o e => a7 _ _ D.l2z D.l2TO D.l2i1 D.l2i2 e, .inr ⟨_, false, _, a1, a5, ne _ _ hz, n1, n2, rfl⟩⟩ fresh a5 a7
  · refine next_zipB D hz hTI hT h1 h2 hl1 hl2 hx' hy' fun h' a1 a2 a3 a4 a5 a6 => ?_
    refine hQ _ h' ⟨a6 _ _ D.TIz D.TIi1 D.TIi2 hTI, a2, a3, hl1.at fun o e => a6 _ _ D.l1z D.l1i1 D.l1i2 e, hl2.at fun o e => a6 _ _ D.l2z D.l2i1 D.l2i2 e, .inr ⟨T, true, oT, a1, a6 _ _ t1 t2 t3 hT, t1, t2, t3, t4⟩⟩ fresh a4 (fun c o c1 _ c3 c4 e => a6 c o c1 c3 c4 e)
theorem ZS.done {z TI TO i1 i2 l1 l2 : Addr} {vs ws : List Value} {k : Nat} {s : Shared} {Q : Option Value → Shared → Prop} {E : Value → Shared → Prop} (hh : A.handled = none) (D : ZipApart z TI TO i1 i2 l1 l2) (Z : ZS z TI TO i1 i2 l1 l2 vs ws k s.heap) (hx : vs[k]? = none)
    (hQ : ∀ h', (∀ c o, c ≠ z → c ≠ TO → c ≠ i1 → c ≠ i2 → s.heap.get? c = some o → h'.get? c = some o) → Q none { s with heap := h' }) :
    wpAny (model prg w) A (pyNext (.ref z)) Q E s := by
  obtain ⟨hTI, h1, h2, hl1, hl2, hz⟩ := Z
  have hx' : vs.toArray[k]? = none := by simpa using hx
  rcases hz with ⟨rfl, hz, hTO⟩ | ⟨T, b, oT, hz, hT, t1, t2, t3, t4⟩
  · exact wpAny_pyNext_zip_end hh D hz hTI hTO h1 h2 hl1 hl2 (.inl hx') fun h' a => hQ h' a
  · exact next_zipB_end hh D hz hTI hT h1 hl1 hx' fun h' a => hQ h' fun c o c1 _ c3 c4 e => a c o c1 c3 c4 e
theorem ZS.frame {z TI TO i1 i2 l1 l2 d : Addr} {vs ws : List Value} {k : Nat} {h h' : Heap} (Z : ZS z TI TO i1 i2 l1 l2 vs ws k h) (hs : Heap.SameBut d h h') (hd : ∀ o, h.get? d = some o → o.cls = .type "dict") : ZS z TI TO i1 i2 l1 l2 vs ws k h' := by
  have kp : ∀ b o, o.cls ≠ .type "dict" → h.get? b = some o → h'.get? b = some o := fun b o hc e => hs.extBut b o (fun q => hc (hd o (q ▸ e))) e
  obtain ⟨hTI, ⟨q1, e1, c1, r1⟩, ⟨q2, e2, c2, r2⟩, ⟨q3, e3, c3, r3⟩, ⟨q4, e4, c4, r4⟩, hz⟩ := Z
  refine ⟨kp _ _ (by first | exact Nat.le_of_ble_eq_true rfl | (repeat (first | exact .head _ | apply List.Mem.tail)); done | simp) hTI, ⟨q1, kp _ _ (by simp [c1]) e1, c1, r1⟩, ⟨q2, kp _ _ (by simp [c2]) e2, c2, r2⟩, ⟨q3, kp _ _ (by simp [c3]) e3, c3, r3⟩, ⟨q4, kp _ _ (by simp [c4]) e4, c4, r4⟩, ?_⟩
  rcases hz with ⟨rfl, hz, hTO⟩ | ⟨T, b, oT, hz, hT, t1, t2, t3, t4⟩
  · exact .inl ⟨rfl, kp _ _ (by first | exact Nat.le_of_ble_eq_true rfl | (repeat (first | exact .head _ | apply List.Mem.tail)); done | simp) hz, kp _ _ (by first | exact Nat.le_of_ble_eq_true rfl | (repeat (first | exact .head _ | apply List.Mem.tail)); done | simp) hTO⟩
  · exact .inr ⟨T, b, oT, kp _ _ (by first | exact Nat.le_of_ble_eq_true rfl | (repeat (first | exact .head _ | apply List.Mem.tail)); done | simp) hz, kp _ _ (by simp [t4]) hT, t1, t2, t3, t4⟩
noncomputable def mergeP (kvs : List (Str × Value)) (ps : List (Str × Value)) : List (Str × Value) := ps.foldl (fun m p => stored m p.1 p.2) kvs
theorem stored_le (kvs : List (Str × Value)) (k : Str) (v : Value) : (stored kvs k v).length ≤ kvs.length + 1 := by
  unfold stored
  split <;> simp
set_option maxHeartbeats 2000000 in
theorem upd_loop {z TI TO i1 i2 l1 l2 d : Addr} {vs ws : List Value} {ns : List Str} (hh : A.handled = none) (D : ZipApart z TI TO i1 i2 l1 l2) (hdz : d ≠ z) (hdT : d ≠ TO) (hd1 : d ≠ i1) (hd2 : d ≠ i2) (hs : StrsAre vs ns) (hlen : vs.length = ws.length) (hb : vs.length ≤ 1000) :
    ∀ (m k : Nat) (s : Shared) (kvs : List (Str × Value)), vs.length - k = m → k ≤ vs.length → kvs.length ≤ k → ZS z TI TO i1 i2 l1 l2 vs ws k s.heap → s.heap.DictOf (strKind prg w) d kvs →
    (∀ h' tk', (∀ c o, c ≠ z → c ≠ TO → c ≠ i1 → c ≠ i2 → c ≠ d → s.heap.get? c = some o → h'.get? c = some o) → h'.DictOf (strKind prg w) d (mergeP kvs ((ns.zip ws).drop k)) → R (.ok (.ret .none)) { s with heap := h', toks := tk' }) →
    codeAny (model prg w) A (.builtin "dict.update.loop" ⟨[.ref d, .ref z, rawInt k, .none], []⟩) R s := by
  have hnl : vs.length = ns.length := hs.len_eq
  intro m
  induction m with
  | zero =>
    intro k s kvs hm hk hkl Z hd hR
    have hkv : k = vs.length := by lia
    refine codeAny_builtin ul_entry ?_
    rw [Around.under_plainId ul_plain _]
    show wpAny _ A.in1 (pyNext (.ref z) >>= _) _ _ s
    refine wpAny_bind (Z.done (A := A.in1) hh D (by rw [hkv]; simp) fun h' a => ?_)
    refine wpAny_pure (hR h' _ (fun c o c1 c2 c3 c4 _ e => a c o c1 c2 c3 c4 e) ?_)
    have e : (ns.zip ws).drop k = [] := List.drop_eq_nil_of_le (by rw [List.length_zip]; lia)
    rw [e]
    obtain ⟨o, es, ep, ho, r⟩ := hd
    exact ⟨o, es, ep, a _ _ hdz hdT hd1 hd2 ho, r⟩
  | succ m ih =>
    intro k s kvs hm hk hkl Z hd hR
    have hlt : k < vs.length := by lia
    have hltw : k < ws.length := by lia
    have hltn : k < ns.length := by lia
    obtain ⟨t, ht⟩ := hs.at (j := k) (List.getElem?_eq_getElem hltn)
    refine codeAny_builtin ul_entry ?_
    rw [Around.under_plainId ul_plain _]
    show wpAny _ A.in1 (pyNext (.ref z) >>= _) _ _ s
    refine wpAny_bind (Z.item (A := A.in1) D ht (List.getElem?_eq_getElem hltw) fun T h1 Z1 hT0 hT a => ?_)
    have hd1' : h1.DictOf (strKind prg w) d kvs := by
      obtain ⟨o, es, ep, ho, r⟩ := hd
      exact ⟨o, es, ep, a _ _ hdz hdT hd1 hd2 ho, r⟩
    show wpAny _ _ (holding [.ref T] _ >>= _) _ _ _
    refine wpAny_bind (wpAny_holding ?_)
    refine wpAny_bind (wpAny_tryCatch ?_)
    unfold Builtin.Dict.pairItems
    refine wpAny_bind (wpAny_typeOf ⟨_, hT, rfl⟩ ?_)
    rw [if_pos (by decide)]
    refine wpAny_bind (wpAny_seqItems hT rfl (wpAny_pure ?_))
    show wpAny _ _ (holding _ (dictSet d (.str ns[k] t) ws[k])) _ _ _
    refine wpAny_holding (wpAny_dictSet_pairs (knd := strKind prg w) (k := ns[k]) (by simp [PySem.strKind, PySem.Value.isStrOf]) hd1' (fun h2 hd2' hs2 => ?_) (by rw [sizeLine]; lia))
    refine wpAny_pure ⟨plainId_quiet ul_plain _, ?_⟩
    have Z2 := Z1.frame hs2 (fun o e => by
      obtain ⟨o', es, ep, ho, hc, r⟩ := hd1'
      replace e : h1.get? d = some o := e
      rw [ho] at e
      cases e
      exact hc.1)
    have := ih (k + 1) { s with heap := h2, toks := s.toks + 1 } (stored kvs ns[k] ws[k]) (by lia) (by lia) (by have := stored_le kvs ns[k] ws[k]; lia) Z2 hd2' (fun h' tk' a' hd' => ?_)
    · exact this
    · refine hR h' tk' (fun c o c1 c2 c3 c4 c5 e => a' c o c1 c2 c3 c4 c5 (hs2.extBut c o c5 (a c o c1 c2 c3 c4 e))) ?_
      have e : (ns.zip ws).drop k = (ns[k], ws[k]) :: (ns.zip ws).drop (k + 1) := by
        rw [List.drop_eq_getElem_cons (by rw [List.length_zip]; lia)]
        simp
      rw [e]
      exact hd'
end
end Mine
namespace Mine
theorem dz_mro : mroOf (.type "dict") = pure [.type "dict", .type "object"] := by rw [mroOf_type]; kernel_rfl
theorem dz_new : typeLookup (.type "dict") "__new__" = pure (some (.builtin "dict.__new__")) := by rw [typeLookup_type, builtinLookup_eq_fast]; kernel_rfl
theorem dz_called : TypeCalled "dict" "dict.__new__" "dict.__init__" :=
  ⟨by decide +kernel, by decide +kernel, ⟨_, _, dz_mro⟩, madeBy_type dz_mro dz_new (by decide +kernel), by decide +kernel, by rw [isSubtype_type]; kernel_rfl, PySem.F.slot_dict_init⟩
theorem dz_typeCall (a : Value) : checkTypeCall "dict" ⟨[a], []⟩ = pure () := by kernel_rfl
theorem dz_newCall (a : Value) : checkBuiltinCall "dict.__new__" ⟨[.type "dict", a], []⟩ = pure () := by kernel_rfl
theorem dz_entry : entryFor table "dict.__new__" = some Builtin.«dict.__new__» := entryFor_of_tree (by kernel_rfl)
theorem dz_plain : plainId "dict.__new__" = true := by decide +kernel
theorem dz_sub : isSubtype (.type "dict") (.type "dict") = pure true := by rw [isSubtype_type]; kernel_rfl
section
variable {w : World} {A : Around} {E : Value → Shared → Prop} {s : Shared}
theorem dz_code (a : Value) {Q₁ : Value → Shared → Prop} (h : Q₁ (.ref s.heap.objs.size) { s with heap := s.heap.push { cls := .type "dict", data := .dict #[] } }) :
    codeAny (model prg w) A (.call (.builtin "dict.__new__") ⟨[.type "dict", a], []⟩) (wants Q₁ E) s := by
  refine codeAny_call_builtin dz_plain dz_entry (wpAny_of_eq (dz_newCall a) ?_)
  have hsub := dz_sub
  have hmro := dz_mro
  obtain ⟨hp, g, d, tk, os⟩ := s
  unfold Builtin.«dict.__new__»
  wp_walk
  exact h
theorem dict_zip {z TI TO i1 i2 l1 l2 : Addr} {vs ws : List Value} {ns : List Str} {Q : Value → Shared → Prop} (hh : A.handled = none) (D : ZipApart z TI TO i1 i2 l1 l2) (hs : StrsAre vs ns) (hlen : vs.length = ws.length) (hb : vs.length ≤ 1000)
    (hz : IsZip s.heap z TI TO .none) (hTI : IsPair s.heap TI (.ref i1) (.ref i2)) (hTO : IsPair s.heap TO .none .none) (h1 : s.heap.IsListIter i1 l1 0) (h2 : s.heap.IsListIter i2 l2 0) (hl1 : s.heap.IsList l1 vs.toArray) (hl2 : s.heap.IsList l2 ws.toArray)
    (q : ∀ h' tk, (∀ c o, c ≠ z → c ≠ TO → c ≠ i1 → c ≠ i2 → s.heap.get? c = some o → h'.get? c = some o) → h'.DictOf (strKind prg w) s.heap.objs.size (mergeP [] (ns.zip ws)) → Q (.ref s.heap.objs.size) { s with heap := h', toks := tk }) :
    wpAny (model prg w) A (call (.type "dict") [.ref z]) Q E s := by
  refine callType_codes (Q₁ := fun obj s₁ => obj = .ref s.heap.objs.size ∧ s₁ = { s with heap := s.heap.push { cls := .type "dict", data := .dict #[] } }) dz_called (dz_typeCall _) PySem.F.entry_dict_init (dz_code _ ⟨rfl, rfl⟩) ?_
  rintro obj s₁ ⟨rfl, rfl⟩
  have hnew : (s.heap.push { cls := .type "dict", data := .dict #[] }).DictOf (strKind prg w) s.heap.objs.size [] := Heap.DictOf.new s.heap
  have fresh : s.heap.get? s.heap.objs.size = none := Heap.get?_none_of_le (Nat.le_refl _)
  have ne : ∀ b o, s.heap.get? b = some o → s.heap.objs.size ≠ b := fun b o e q => by rw [← q, fresh] at e; cases e
  have n1 : s.heap.objs.size ≠ i1 := by obtain ⟨o, e, _⟩ := h1; exact ne _ _ e
  have n2 : s.heap.objs.size ≠ i2 := by obtain ⟨o, e, _⟩ := h2; exact ne _ _ e
  have kp1 : Kp s.heap (s.heap.push { cls := .type "dict", data := .dict #[] }) := fun b o e => Heap.get?_push_of_some _ e
  generalize s.heap.push { cls := .type "dict", data := .dict #[] } = hp at hnew kp1 ⊢
  refine ⟨hnew.typeIs, PySem.F.args_dict_init_2 _ _, ?_⟩
  unfold Builtin.«dict.__init__»
  refine wpAny_bind ?_
  unfold Builtin.Dict.selfAndRest
  refine wpAny_bind (wpAny_notOrdered_dict hnew.typeIs ?_)
  show wpAny _ _ (pure (s.heap.objs.size, [Value.ref z])) _ _ _
  refine wpAny_pure ?_
  show wpAny _ _ (Builtin.Dict.updateFrom "dict.__init__" s.heap.objs.size (.ref z) [] .none) _ _ _
  unfold Builtin.Dict.updateFrom
  refine wpAny_bind (wpAny_typeOf (T := "zip") ⟨_, kp1 _ _ hz, rfl⟩ ?_)
  rw [if_pos (by decide)]
  refine wpAny_bind (keys_zip (kp1 _ _ hz) hh fun h3 tk3 kp3 => ?_)
  replace kp3 : Kp hp h3 := kp3
  rw [if_pos (by rfl)]
  have kp : Kp s.heap h3 := fun b o e => kp3 _ _ (kp1 _ _ e)
  refine wpAny_bind (wpAny_rule (wpAny_bind (wpAny_pyIter_zip (kp _ _ hz) (wpAny_pure ⟨plainId_quiet ul_plain _, ?_⟩))))
  refine upd_loop (A := A.in1) hh D (ne _ _ hz) (ne _ _ hTO) n1 n2 hs hlen hb vs.length 0 { s with heap := h3, toks := tk3 } [] rfl (Nat.zero_le _) (Nat.le_refl _)
    ⟨kp _ _ hTI, h1.at fun o e => kp _ o e, h2.at fun o e => kp _ o e, hl1.at fun o e => kp _ o e, hl2.at fun o e => kp _ o e, .inl ⟨rfl, kp _ _ hz, kp _ _ hTO⟩⟩ (by obtain ⟨o, es, ep, ho, r⟩ := hnew; exact ⟨o, es, ep, kp3 _ _ ho, r⟩) (fun h' tk' a hd => ⟨rfl, ?_⟩)
  exact q h' tk' (fun c o c1 c2 c3 c4 e => a c o c1 c2 c3 c4 (fun e2 => ne _ _ e e2.symm) (kp _ _ e)) hd
end
section
variable {w : World} {A : Around} {E : Value → Shared → Prop} {h : Heap} {g : Array GenState} {d : Drawn} {k : Nat} {o : OsState} {L : Addr} {h₀ : Heap} {m : Str → Option Value} {news : List (Addr × Obj)}
theorem dictZipS {l1 l2 : Addr} {vs ws : List Value} {ns : List Str} {Q : Value → Shared → Prop} (hh : A.handled = none) (F : Fr h₀ L h m) (N : News h₀ L h news) (hl1 : h.IsList l1 vs.toArray) (hl2 : h.IsList l2 ws.toArray) (hs : StrsAre vs ns) (hlen : vs.length = ws.length) (hb : vs.length ≤ 1000)
    (q : ∀ D h' k' ob, Kp h h' → Fr h₀ L h' m → News h₀ L h' ((D, ob) :: news) → (∀ p ∈ news, p.1 ≠ D) → ob.IsDictOf (strKind prg w) (mergeP [] (ns.zip ws)) → Q (.ref D) ⟨h', g, d, k', o⟩) :
    wpAny (model prg w) A (call (.type "zip") [.ref l1, .ref l2]) (fun zv s₁ => wpAny (model prg w) A (call (.type "dict") [zv]) Q E s₁) E ⟨h, g, d, k, o⟩ := by
  refine call_zip_2 (s := ⟨h, g, d, k, o⟩) hl1 hl2 fun h1 hz hTI hTO hi1 hi2 hsz kp => ?_
  replace kp : Kp h h1 := kp
  replace hsz : h1.objs.size = h.objs.size + 5 := hsz
  have lt1 : @LT.lt Nat instLTNat l1 h.objs.size := by obtain ⟨_, e, _⟩ := hl1; exact Heap.lt_size e
  have lt2 : @LT.lt Nat instLTNat l2 h.objs.size := by obtain ⟨_, e, _⟩ := hl2; exact Heap.lt_size e
  show wpAny _ _ (call (.type "dict") [.ref (h.objs.size + 4)]) _ _ _
  have D : ZipApart (h.objs.size + 4) (h.objs.size + 2) (h.objs.size + 3) h.objs.size (h.objs.size + 1) l1 l2 :=
    ⟨nN (by lia), nN (by lia), nN (by lia), nN (by lia), nN (by lia), nN (by lia), nN (by lia), nN (by lia), nN (by lia), nN (by lia), nN (by lia), nN (by lia), nN (by lia), nN (by lia), nN (by lia), nN (by lia), nN (by lia), nN (by lia)⟩
  refine dict_zip hh D hs hlen hb hz hTI hTO hi1 hi2 (hl1.at fun o e => kp _ o e) (hl2.at fun o e => kp _ o e) (fun h' tk a hd => ?_)
  replace a : ∀ c o, c ≠ h.objs.size + 4 → c ≠ h.objs.size + 3 → c ≠ h.objs.size → c ≠ h.objs.size + 1 → h1.get? c = some o → h'.get? c = some o := a
  replace hd : h'.DictOf (strKind prg w) h1.objs.size (mergeP [] (ns.zip ws)) := hd
  have kp2 : Kp h h' := fun c o e => by
    have hc : @LT.lt Nat instLTNat c h.objs.size := Heap.lt_size e
    exact a c o (nN (by lia)) (nN (by lia)) (nN (by lia)) (nN (by lia)) (kp _ _ e)
  obtain ⟨ob, ho, hob⟩ := Heap.dictOf_iff.mp hd
  have hn : h.get? h1.objs.size = none := Heap.get?_none_of_le (by rw [hsz]; exact Nat.le_add_right _ _)
  obtain ⟨N2, hne⟩ := News.got F N (Mine.News.kp N kp2) hn ho
  exact q _ h' tk ob kp2 (Mine.Fr.kp F kp2) N2 hne hob
theorem itemD {value slice : Expr} {a : Addr} {ob : Obj} {kvs : List (Str × Value)} {x : Str} {t : Tok} {v : Value} {Q : Value → Shared → Prop} (ha : h.get? a = some ob) (hd : ob.IsDictOf (strKind prg w) kvs) (hv : valueAt kvs x = some v) (q : ∀ k', Q v ⟨h, g, d, k', o⟩)
    (hs : subscripted slice false (.ref a) (.str x t) = operate [.ref a, .str x t] (getItem (.ref a) (.str x t)) := by with_unfolding_all rfl) (hg : ∀ r, letTemporaryGo value (.ref a) r = pure () := by intro _; with_unfolding_all rfl) :
    wpAny (model prg w) A (subscriptTail value slice (.ref a) (.str x t)) Q E ⟨h, g, d, k, o⟩ := by
  have hm : h.DictOf (strKind prg w) a kvs := Heap.dictOf_iff.mpr ⟨ob, ha, hd⟩
  exact subscriptTail_builtin (s := ⟨h, g, d, k, o⟩) hm.typeIs slot_dict_getitem.lookup (wpAny_getItem_of (strKind_is prg w x t) hm.mapOf hv (q _)) hs hg
end
end Mine
namespace Mine
theorem sc27 : ScOk (dScope 27) := .of (by decide +kernel)
noncomputable abbrev LV (sa : Addr) (dr ce si pa ta fi su : Option Value) : List (Option Value) :=
  [some (.ref sa), dr, ce, si, none, pa, none, none, none, ta, fi, su, none, none, none, none, none, none, none, none, none, none, none, none, none]
noncomputable abbrev clL (L : Addr) : List (Str × Addr) := [("pile", L + 4), ("ways", L + 3), ("names", L + 2), ("items", L + 1)]
noncomputable abbrev envL (L fa : Addr) (cd : Value) : Env := envX (dName 27) (dScope 27) L fa cd (clL L)
theorem pick_to {vs : List Value} {n : Nat} : slicePick vs.toArray none (some (n : Int)) none = (vs.take n).toArray := by
  rw [slicePick_plain]
  have e1 := clipAt_nat vs.length n
  simp only [List.size_toArray, Option.elim_some, Option.elim_none, e1]
  simp
noncomputable def dListN (xs : List Int) : List Nat := (xs.take 6).map fun c => (c % 1000000000).toNat
noncomputable def cellsN (xs : List Int) : List Nat := if 1 < (dListN xs).length then dListN xs else dListN xs ++ [0, 3, 0]
section
variable {w : World} {A : Around} {E : Value → Shared → Prop} {h : Heap} {g : Array GenState} {d : Drawn} {k : Nat} {o : OsState} {L fa sa : Addr} {cd : Value} {h₀ : Heap} {ad : Nat → Addr} {mg mb : Str → Option Value} {news : List (Addr × Obj)}
  {P : Flow → Shared → Prop} {dr ce si pa ta fi su : Option Value}
theorem law_enter {R : Result → Shared → Prop} (hf : FnObj h 27 fa) (l : Lib ad mg mb h) (hroom : A.depth < recursionLimit)
    (q : ∀ L cd h₁ k' o1 o2 o3 o4, Fr h L h₁ (locs (nms (dScope 27)) (LV sa none none none none none none none)) → News h L h₁ [(L + 4, o4), (L + 3, o3), (L + 2, o2), (L + 1, o1)] →
      o1.data = .cell none → o2.data = .cell none → o3.data = .cell none → o4.data = .cell none →
      wpAny (model prg w) (A.deeper (envL L fa cd)) (execs (dBody 27) (envL L fa cd)) (fun f s' => R (.ok (.ret (match f with | .ret v => v | _ => .none))) s') (fun _ _ => False) ⟨h₁, g, d, k', o⟩) :
    codeAny (model prg w) A (.call (.ref fa) ⟨[.ref sa], []⟩) R ⟨h, g, d, k, o⟩ := by
  have ok := sc27
  obtain ⟨ob, pm, cd, doc, h1, h2, h3⟩ := hf
  have hcell : ∀ n, cellsFrom n (dScope 27).names [] = ([("pile", n + 3), ("ways", n + 2), ("names", n + 1), ("items", n)] : List (Str × Addr)) := fun n => by with_unfolding_all rfl
  have hps : (dArgs 27).args.map (·.arg) = (["script"] : List Str) := by with_unfolding_all rfl
  refine call_cellsN_ret (s := ⟨h, g, d, k, o⟩) (binds := [("script", .ref sa)]) hroom h1 h2 l.nolimit h3 rfl ?_ ?_ (fun h₁ tk cells F N X => ?_) ok.co ok.gen ok.fk
  · intro x hx
    rw [List.mem_singleton.mp hx]
    exact .inl (show (dScope 27).names.lookup ("script" : Str) = some NameKind.local by decide +kernel)
  · rw [hcell]; decide
  · have e1 : (envOfC (dName 27) (dScope 27) h.objs.size fa cd).kindOf = kof (dScope 27) := by funext y; rfl
    have e2 : envOfC (dName 27) (dScope 27) h.objs.size fa cd = envL h.objs.size fa cd := by
      show envX _ _ _ _ _ (cellsFrom (h.objs.size + 1) (dScope 27).names []) = _
      rw [hcell]
    have k1 : kof (dScope 27) "script" = some .local := by decide +kernel
    have hm : bindL (kof (dScope 27)) [("script", .ref sa)] (fun _ => none) = locs (nms (dScope 27)) (LV sa none none none none none none none) := by
      have e := binds_locs (ps := ["script"]) (rest := (nms (dScope 27)).drop 1) (args := [.ref sa]) (by decide +kernel) rfl
      have e3 : nms (dScope 27) = (["script"] : List Str) ++ (nms (dScope 27)).drop 1 := by with_unfolding_all rfl
      funext y
      simp only [bindL, k1, if_true]
      rw [e3]
      show _ = locs (("script" : Str) :: (nms (dScope 27)).drop 1) _ y
      unfold locs
      by_cases hy : y = ("script" : Str)
      · rw [if_pos hy, if_pos hy]
      · rw [if_neg hy, if_neg hy]
        have : ∀ r : List Str, ∀ n, locs r (List.replicate n none) y = none := fun r => by
          induction r with
          | nil => intro n; cases n <;> rfl
          | cons a r ih =>
            intro n
            cases n with
            | zero => rfl
            | succ n =>
              rw [List.replicate_succ]
              unfold locs
              rw [ih]
              simp
        exact (this _ 24).symm
    have hc : ∀ x : Str, bindC (kof (dScope 27)) [("script", .ref sa)] (fun _ => none) x = none := fun x => by simp only [bindC, k1, if_true]
    rw [e1, hm] at F
    rw [e1, hcell] at X
    cases X with
    | cons d4 X => cases X with
      | cons d3 X => cases X with
        | cons d2 X => cases X with
          | cons d1 X => cases X with
            | nil =>
              rw [hc] at d1 d2 d3 d4
              rw [e2]
              exact q h.objs.size cd h₁ tk _ _ _ _ F N d1 d2 d3 d4
set_option maxHeartbeats 2000000 in
theorem law0 (hh : A.handled = none) (l : Lib ad mg mb h₀) {vs : List Value} {xs : List Int} (hsa : h₀.IsList sa vs.toArray) (hx : IntsAre vs xs) (hb : xs.length ≤ 1000) (F : Fr h₀ L h (locs (nms (dScope 27)) (LV sa dr ce si pa ta fi su))) (N : News h₀ L h news)
    (q : ∀ D h' k' ws kk, Fr h₀ L h' (locs (nms (dScope 27)) (LV sa (some (.ref D)) ce si pa ta fi su)) → News h₀ L h' ((D, lstO ws.toArray kk) :: news) → (∀ p ∈ news, p.1 ≠ D) → IntsAre ws ((dListN xs).map Int.ofNat) → P .next ⟨h', g, d, k', o⟩) :
    wpAny (model prg w) A (exec (nthS (dBody 27) 0) (envL L fa cd)) P E ⟨h, g, d, k, o⟩ := by
  have ok := sc27
  have hvl := hx.length
  refine assignCompS (cl' := []) (h₀ := h₀) (vals := LV sa dr ce si pa ta fi su) 1 (fun D => LV sa (some (.ref D)) ce si pa ta fi su) ok rfl (by first | exact Nat.le_of_ble_eq_true rfl | (repeat (first | exact .head _ | apply List.Mem.tail)); done | simp) (fun D => rfl) (by rfl) (closureFor_none (by decide)) (by decide) rfl (by decide) ?_
  refine sliceSub (ldl 0 ok F rfl rfl (evalPart_none_step (evalPart_some_step (cInt fun t1 k1 => ?_))))
  refine sliceLS F N (hsa.at fun o e => F.keep _ o e) .none (.int 6 _) (by simp; lia) (fun X h2 kp2 F2 N2 hX => ?_)
  rw [show (some (6 : Int)) = some ((6 : Nat) : Int) from rfl, pick_to] at N2
  refine iterLS hh F2 N2 (vs := vs.take 6) ⟨_, N2.get List.mem_cons_self, rfl, _, rfl⟩ (fun I h3 W hst hLf hwr hnw hfp F3 N3 kp3 => ?_)
  refine ⟨h3, _, _, rfl, compAtW (fun i ys => ys.length = i ∧ IntsAre ys (((dListN xs).take i).map Int.ofNat)) W (by decide) rfl hst hfp hLf hwr hnw F3 N3 ⟨rfl, by simpa using IntsAre.nil⟩ (fun i ys h1 h2 => by rw [sizeLine]; simp at h2; lia) ?_, F3.ns.lt, ?_⟩
  · rintro E' i v C h6 k6 mc ys hi hv ⟨hy1, hy2⟩ hC hnC hmc F6 N6
    show wpAny _ _ _ _ _ _
    have hx6 := hx.take 6
    obtain ⟨c, tc, rfl, hc⟩ := hx6.at i v hv
    refine wpAny_tests_nil ⟨Keeps.mk' fun _ _ e => e, ite_tt ?_⟩
    refine wpAny_BinOp (callT (fun Q' q => ldbC rfl (by decide) l F6 (by decide) PyProof.Rows.boot_int q) (arg (ldC rfl (by decide) hnC hmc (args_nil (call_int_int ?_)))))
    refine wpAny_BinOp (cInt fun t7 k7 => cInt fun t8 k8 => pow_int_small (by decide) (by decide) (by decide) ?_)
    refine mod_int (by decide) ⟨Keeps.mk' fun _ _ e => e, by simp [hy1], ?_⟩
    have e : (dListN xs).take (i + 1) = (dListN xs).take i ++ [(c % 1000000000).toNat] := by
      rw [List.take_add_one]
      congr 1
      unfold dListN
      rw [List.getElem?_map, hc]
      rfl
    rw [e, List.map_append]
    refine hy2.append ?_
    have e2 : c.fmod (10 ^ (Int.toNat 9)) = Int.ofNat (c % 1000000000).toNat := by
      show c.fmod 1000000000 = _
      rw [Int.fmod_eq_emod_of_nonneg _ (by decide)]
      exact (Int.toNat_of_nonneg (Int.emod_nonneg _ (by decide))).symm
    rw [e2]
    exact .cons _ _ .nil
  · rintro D h6 k6 news6 F6 N6 ⟨ys, kk, ⟨hy1, hy2⟩, rfl, hD⟩
    have e : (dListN xs).take (vs.take 6).length = dListN xs := List.take_of_length_le (by unfold dListN; rw [List.length_map, List.length_take, List.length_take, hvl]; exact Nat.le_refl _)
    rw [e] at hy2
    refine q D h6 k6 ys kk F6 (News.sub N6 (fun p hp => ?_)) (fun p hp => hD p (List.mem_cons_of_mem _ hp)) hy2
    rcases List.mem_cons.mp hp with rfl | hp
    · exact List.mem_cons_self
    · exact List.mem_cons_of_mem _ (List.mem_cons_of_mem _ hp)
end
end Mine
namespace Mine
theorem dListN_le (xs : List Int) : (dListN xs).length ≤ 6 := by unfold dListN; rw [List.length_map, List.length_take]; lia
theorem cellsN_le (xs : List Int) : (cellsN xs).length ≤ 6 := by
  unfold cellsN
  have := dListN_le xs
  split
  · exact this
  · simp; lia
noncomputable def atN (cs : List Nat) : Nat := (cs.map (· / 6)).sum
section
variable {w : World} {A : Around} {E : Value → Shared → Prop} {h : Heap} {g : Array GenState} {d : Drawn} {k : Nat} {o : OsState} {L fa sa : Addr} {cd : Value} {h₀ : Heap} {ad : Nat → Addr} {mg mb : Str → Option Value} {news : List (Addr × Obj)}
  {P : Flow → Shared → Prop} {dr ce si pa ta fi su : Option Value} {m : Str → Option Value}
theorem sumS {l : Addr} {vs : List Value} {ns : List Int} {Q : Value → Shared → Prop} (hh : A.handled = none) (F : Fr h₀ L h m) (N : News h₀ L h news) (hl : h.IsList l vs.toArray) (hi : IntsAre vs ns)
    (q : ∀ h' t k', Fr h₀ L h' m → News h₀ L h' news → Q (.int ns.sum t) ⟨h', g, d, k', o⟩) : wpAny (model prg w) A (call (.builtin "sum") [.ref l]) Q E ⟨h, g, d, k, o⟩ := by
  obtain ⟨xs, hx⟩ := hi.allInts.items
  have hn := hi.numsOf
  have e : vs = (intItems xs).toList := by rw [← hx]
  rw [e, nums_intItems] at hn
  rw [hx] at hl
  refine sum_intListG (s := ⟨h, g, d, k, o⟩) hh hl fun h' tk t' hk => ?_
  replace hk : Kp h h' := hk
  rw [preSum_eq, List.take_of_length_le (by first | exact Nat.le_of_ble_eq_true rfl | (repeat (first | exact .head _ | apply List.Mem.tail)); done | simp), hn]
  exact q h' t' tk (Mine.Fr.kp F hk) (Mine.News.kp N hk)
theorem law1 (l : Lib ad mg mb h₀) {D : Addr} {ws : List Value} {kk : Nat} {xs : List Int} (hx : IntsAre ws ((dListN xs).map Int.ofNat)) (F : Fr h₀ L h (locs (nms (dScope 27)) (LV sa (some (.ref D)) ce si pa ta fi su))) (N : News h₀ L h ((D, lstO ws.toArray kk) :: news)) (hD : ∀ p ∈ news, p.1 ≠ D)
    (q : ∀ C h' k' ws kk, Fr h₀ L h' (locs (nms (dScope 27)) (LV sa (some (.ref D)) (some (.ref C)) si pa ta fi su)) → News h₀ L h' ((C, lstO ws.toArray kk) :: news) → (∀ p ∈ news, p.1 ≠ C) → IntsAre ws ((cellsN xs).map Int.ofNat) → P .next ⟨h', g, d, k', o⟩) :
    wpAny (model prg w) A (exec (nthS (dBody 27) 1) (envL L fa cd)) P E ⟨h, g, d, k, o⟩ := by
  have ok := sc27
  have hl := hx.length
  rw [List.length_map] at hl
  have h6 := dListN_le xs
  have hlist : h.IsList D ws.toArray := ⟨_, N.get List.mem_cons_self, rfl, _, rfl⟩
  refine wpAny_Assign_Name (IfExp_ (wpAny_isTrue_Compare1 (callB (fun Q' q => ldb 12 ok l F rfl (by decide) boot_len q) (arg (ldl 1 ok F rfl rfl (args_nil ?_))))))
  refine lenLS hlist (by lia) (fun t1 k1 => cInt fun t2 k2 => gt_int (wpAny_truthy_bool ?_))
  by_cases h1 : 1 < (dListN xs).length
  · rw [decide_eq_true (by lia)]
    refine ite_tt (ldl 1 ok F rfl rfl ?_)
    refine stS 2 (LV sa (some (.ref D)) (some (.ref D)) si pa ta fi su) ok F N rfl (Nat.le_of_ble_eq_true rfl) rfl (fun h2 k3 F2 N2 => ?_)
    exact q D h2 k3 ws kk F2 N2 hD (by unfold cellsN; rw [if_pos h1]; exact hx)
  · rw [decide_eq_false (by lia)]
    refine ite_ff (wpAny_BinOp (ldl 1 ok F rfl rfl (List_ (arg (cInt fun t3 k3 => arg (cInt fun t4 k4 => arg (cInt fun t5 k5 => args_nil ?_)))))))
    refine newListS F N (fun X h2 kp2 F2 N2 hX => ?_)
    refine addLists F2 N2 (vs := ws) (ws := [.int 0 t3, .int 3 t4, .int 0 t5]) (hlist.at fun o e => kp2 _ o e) ⟨_, N2.get List.mem_cons_self, rfl, _, rfl⟩ (by simp; lia) (fun C h3 F3 N3 hC => ?_)
    refine stS 2 (LV sa (some (.ref D)) (some (.ref C)) si pa ta fi su) ok F3 N3 rfl (Nat.le_of_ble_eq_true rfl) rfl (fun h4 k6 F4 N4 => ?_)
    refine q C h4 k6 (ws ++ [Value.int 0 t3, .int 3 t4, .int 0 t5]) 0 F4 (News.sub N4 (fun p hp => ?_)) (fun p hp => hC p (List.mem_cons_of_mem _ (List.mem_cons_of_mem _ hp))) ?_
    · rcases List.mem_cons.mp hp with rfl | hp
      · exact List.mem_cons_self
      · exact List.mem_cons_of_mem _ (List.mem_cons_of_mem _ (List.mem_cons_of_mem _ hp))
    · unfold cellsN
      rw [if_neg h1, List.map_append]
      exact hx.append (.cons _ _ (.cons _ _ (.cons _ _ .nil)))
theorem sum_ofNat : ∀ ns : List Nat, (ns.map Int.ofNat).sum = (ns.sum : Nat)
  | [] => rfl
  | n :: r => by rw [List.map_cons, List.sum_cons, List.sum_cons, sum_ofNat r]; rfl
theorem law2 (hh : A.handled = none) (hd : A.depth + 1 < recursionLimit) (hu : A.units + 8 < cLine) (l : Lib ad mg mb h₀) {C : Addr} {ws : List Value} {kk : Nat} {cs : List Nat} (hc6 : cs.length ≤ 6) (hx : IntsAre ws (cs.map Int.ofNat)) (F : Fr h₀ L h (locs (nms (dScope 27)) (LV sa dr (some (.ref C)) si pa ta fi su))) (N : News h₀ L h ((C, lstO ws.toArray kk) :: news))
    (q : ∀ h' k' t, Fr h₀ L h' (locs (nms (dScope 27)) (LV sa dr (some (.ref C)) (some (.str (tx [sgnAt (atN cs) 0, sgnAt (atN cs) 1]) t)) pa ta fi su)) → News h₀ L h' ((C, lstO ws.toArray kk) :: news) → P .next ⟨h', g, d, k', o⟩) :
    wpAny (model prg w) A (exec (nthS (dBody 27) 2) (envL L fa cd)) P E ⟨h, g, d, k, o⟩ := by
  have ok := sc27
  have hlen := hx.length
  rw [List.length_map] at hlen
  refine wpAny_Assign_Name (callF (kf := 18) l (by decide) (fun Q' q => ldg 13 18 ok l F rfl (by decide) rfl q) (arg (callB (fun Q' q => ldb 14 ok l F rfl (by decide) boot_sum q) (arg ?_))))
  refine evalCompS (cl := []) F (closureFor_none (by decide)) (by decide) rfl (by decide) (ldl 2 ok F rfl rfl ?_)
  refine iterLS hh F N (vs := ws) ⟨_, N.get List.mem_cons_self, rfl, _, rfl⟩ (fun I h3 W hst hLf hwr hnw hfp F3 N3 kp3 => ?_)
  refine ⟨_, compAtW (fun i ys => ys.length = i ∧ IntsAre ys (((cs.map (· / 6)).take i).map Int.ofNat)) W (by decide) rfl hst hfp hLf hwr hnw F3 N3 ⟨rfl, by simpa using IntsAre.nil⟩ (fun i ys h1 h2 => by rw [sizeLine]; lia) ?_, F3.ns.lt, ?_⟩
  · rintro E' i v K h6 k6 mc ys hi hv ⟨hy1, hy2⟩ hK hnC hmc F6 N6
    show wpAny _ _ _ _ _ _
    obtain ⟨c, tc, rfl, hc⟩ := hx.at i v hv
    obtain ⟨n, hn, rfl⟩ : ∃ n, cs[i]? = some n ∧ Int.ofNat n = c := by
      rw [List.getElem?_map] at hc
      exact Option.map_eq_some_iff.mp hc
    refine wpAny_tests_nil ⟨Keeps.mk' fun _ _ e => e, ite_tt ?_⟩
    refine wpAny_BinOp (ldC rfl (by decide) hnC hmc (cInt fun t7 k7 => floordiv_int (by decide) ⟨Keeps.mk' fun _ _ e => e, by simp [hy1], ?_⟩))
    rw [List.take_add_one, List.getElem?_map, hn, Option.map_some, List.map_append]
    refine hy2.append ?_
    have e2 : (Int.ofNat n).fdiv 6 = Int.ofNat (n / 6) := by
      rw [Int.fdiv_eq_ediv_of_nonneg _ (by decide)]; rfl
    rw [e2]
    exact .cons _ _ .nil
  · rintro D h6 k6 news6 F6 N6 ⟨ys, k7, ⟨hy1, hy2⟩, rfl, hD⟩
    rw [hlen, List.take_of_length_le (by first | exact Nat.le_of_ble_eq_true rfl | (repeat (first | exact .head _ | apply List.Mem.tail)); done | simp)] at hy2
    refine args_nil (sumS hh F6 N6 ⟨_, N6.get List.mem_cons_self, rfl, _, rfl⟩ hy2 (fun h7 t7 k8 F7 N7 => arg (cInt fun t8 k9 => args_nil ⟨F7.keep, ?_⟩)))
    rw [sum_ofNat]
    refine useS (signs_c (atN cs) 2 t7 t8 (by decide)) hh hd hu l F7 N7 trivial (fun v h8 k10 F8 N8 kp8 hv => ?_)
    obtain ⟨t9, rfl⟩ := hv
    refine stS 3 (LV sa dr (some (.ref C)) (some (.str (tx ((List.range 2).map (sgnAt (atN cs)))) t9)) pa ta fi su) ok F8 N8 rfl (Nat.le_of_ble_eq_true rfl) rfl (fun h9 k11 F9 N9 => ?_)
    exact q h9 k11 t9 F9 (newsTail N9)
end
end Mine
namespace Mine
theorem valueAt_stored_same (kvs : List (Str × Value)) (k : Str) (v : Value) : valueAt (stored kvs k v) k = some v := by
  unfold stored valueAt
  by_cases h : kvs.any (fun kv => decide (kv.1 = k)) = true
  · rw [if_pos h]
    induction kvs with
    | nil => simp at h
    | cons p r ih =>
      by_cases hp : p.1 = k
      · simp [hp]
      · simp only [List.map_cons, if_neg hp, List.find?_cons, decide_eq_false hp, Bool.false_eq_true, if_false]
        exact ih (by simpa [hp] using h)
  · rw [if_neg h, List.find?_append]
    have : kvs.find? (fun kv => decide (kv.1 = k)) = none := by
      rw [List.find?_eq_none]
      intro p hp q
      exact h (List.any_eq_true.mpr ⟨p, hp, q⟩)
    rw [this]
    simp
theorem valueAt_stored_other (kvs : List (Str × Value)) {k x : Str} (v : Value) (hx : x ≠ k) : valueAt (stored kvs k v) x = valueAt kvs x := by
  unfold stored valueAt
  by_cases h : kvs.any (fun kv => decide (kv.1 = k)) = true
  · rw [if_pos h]
    clear h
    induction kvs with
    | nil => rfl
    | cons p r ih =>
      rw [List.map_cons, List.find?_cons, List.find?_cons]
      by_cases hp : p.1 = k
      · have : ¬ p.1 = x := fun e => hx (e.symm.trans hp)
        simp only [if_pos hp, decide_eq_false this]
        exact ih
      · simp only [if_neg hp]
        by_cases hq : p.1 = x
        · simp [hq]
        · simp only [decide_eq_false hq]
          exact ih
  · rw [if_neg h, List.find?_append]
    have : [(k, v)].find? (fun kv => decide (kv.1 = x)) = none := by simp [Ne.symm hx]
    rw [this]
    simp
theorem mergeP_other {x : Str} : ∀ (ps kvs : List (Str × Value)), (∀ p ∈ ps, p.1 ≠ x) → valueAt (mergeP kvs ps) x = valueAt kvs x
  | [], _, _ => rfl
  | p :: r, kvs, h => by
    show valueAt (mergeP (stored kvs p.1 p.2) r) x = _
    rw [mergeP_other r _ fun q hq => h q (List.mem_cons_of_mem _ hq), valueAt_stored_other _ _ (h p List.mem_cons_self).symm]
theorem mergeP_at {x : Str} {v : Value} : ∀ (ps kvs : List (Str × Value)), (ps.map (·.1)).Nodup → (x, v) ∈ ps → valueAt (mergeP kvs ps) x = some v
  | [], _, _, h => by simp at h
  | p :: r, kvs, hn, h => by
    rw [List.map_cons, List.nodup_cons] at hn
    show valueAt (mergeP (stored kvs p.1 p.2) r) x = _
    rcases List.mem_cons.mp h with e | h
    · subst e
      rw [mergeP_other r _ (fun q hq e => hn.1 (by have := List.mem_map_of_mem (f := (·.1)) hq; rw [e] at this; exact this)), valueAt_stored_same]
    · exact mergeP_at r _ hn.2 h
section
variable {w : World} {A : Around} {E : Value → Shared → Prop} {h : Heap} {g : Array GenState} {d : Drawn} {k : Nat} {o : OsState} {L fa sa : Addr} {cd : Value} {h₀ : Heap} {ad : Nat → Addr} {mg mb : Str → Option Value} {news : List (Addr × Obj)}
  {P : Flow → Shared → Prop} {dr ce si pa ta fi su : Option Value} {m : Str → Option Value}
theorem law3 (hh : A.handled = none) (hd : A.depth + 1 < recursionLimit) (hu : A.units + 8 < cLine) (l : Lib ad mg mb h₀) {C : Addr} {ws : List Value} {kk : Nat} {cs : List Nat} (hc6 : cs.length ≤ 6) (hx : IntsAre ws (cs.map Int.ofNat)) {s0 s1 : Nat} {t : Tok} {o1 : Obj} (d1 : o1.data = .cell none)
    (F : Fr h₀ L h (locs (nms (dScope 27)) (LV sa dr (some (.ref C)) (some (.str (tx [s0, s1]) t)) pa ta fi su))) (N : News h₀ L h ((L + 1, o1) :: (C, lstO ws.toArray kk) :: news)) (hn1 : ∀ p ∈ news, p.1 ≠ L + 1) (hC1 : C ≠ L + 1)
    (q : ∀ h' k' I wsI kI o1' tp, Fr h₀ L h' (locs (nms (dScope 27)) (LV sa dr (some (.ref C)) (some (.str (tx [s0, s1]) t)) (some (.str (tx (drawn s0 s1 cs).2) tp)) ta fi su)) → News h₀ L h' ((L + 1, o1') :: (I, lstO wsI.toArray kI) :: news) → o1'.data = .cell (some (.ref I)) →
      StrsAre wsI ((drawn s0 s1 cs).1.map one) → (∀ p ∈ news, p.1 ≠ I) → I ≠ L + 1 → P .next ⟨h', g, d, k', o⟩) :
    wpAny (model prg w) A (exec (nthS (dBody 27) 3) (envL L fa cd)) P E ⟨h, g, d, k, o⟩ := by
  have ok := sc27
  refine Assign_Tuple (callF (kf := 23) l (by decide) (fun Q' q => ldg 15 23 ok l F rfl (by decide) rfl q) (arg (ldl 2 ok F rfl rfl (arg (ldl 3 ok F rfl rfl (args_nil ⟨F.keep, ?_⟩)))))) (by rfl) (by rfl)
  refine useS (drawn_c h cs C ws s0 s1 t hc6 hx) hh hd hu l F N ⟨rfl, _, N.get (List.mem_cons_of_mem _ List.mem_cons_self), rfl, _, rfl⟩ (fun v h2 k2 F2 N2 kp2 hv => ?_)
  obtain ⟨T, I, wsI, kI, tp, rfl, hT0, hI0, hTI, hT, hI, hsI⟩ := hv
  obtain ⟨N3, hne⟩ := News.gotMany (led := [(I, lstO wsI.toArray kI)]) F N N2 (fun p hp => by rw [List.mem_singleton.mp hp]; exact ⟨hI0, hI⟩)
  have hI1 : I ≠ L + 1 := hne (I, lstO wsI.toArray kI) List.mem_cons_self (L + 1, o1) List.mem_cons_self
  refine asgT hh F2 N3 hT rfl (by rfl) (fun h3 kp3 F3 N4 => ?_)
  replace N4 : News h₀ L h3 ((L + 1, o1) :: (I, lstO wsI.toArray kI) :: news) := News.sub N4 (by repeat (first | exact allN | refine allC (by (repeat (first | exact hp | exact List.mem_append_left _ hp | exact .head _ | apply List.Mem.tail | apply List.mem_append_right))) ?_ | refine allA (fun p hp => by (repeat (first | exact hp | exact List.mem_append_left _ hp | exact .head _ | apply List.Mem.tail | apply List.mem_append_right))) ?_ | exact fun p hp => by (repeat (first | exact hp | exact List.mem_append_left _ hp | exact .head _ | apply List.Mem.tail | apply List.mem_append_right))))
  refine assignInOrder_cons (assign_Name (stCell ok F3 N4 (by decide +kernel) rfl d1 (fun p hp => ?_) (fun h4 o1' F4 N5 d1' => ?_)))
  · rcases List.mem_cons.mp hp with rfl | hp
    · exact hI1
    · exact hn1 p hp
  refine assignInOrder_cons (assign_Name (stS 5 (LV sa dr (some (.ref C)) (some (.str (tx [s0, s1]) t)) (some (.str (tx (drawn s0 s1 cs).2) tp)) ta fi su) ok F4 N5 rfl (Nat.le_of_ble_eq_true rfl) rfl (fun h5 k5 F5 N6 => assignInOrder_nil ?_)))
  exact q h5 k5 I wsI kI o1' tp F5 N6 d1' hsI (fun p hp e => hne (I, lstO wsI.toArray kI) List.mem_cons_self p (List.mem_cons_of_mem _ (List.mem_cons_of_mem _ hp)) e.symm) hI1
theorem law4 (hh : A.handled = none) (hd : A.depth + 1 < recursionLimit) (hu : A.units + 8 < cLine) (l : Lib ad mg mb h₀) {s0 s1 : Nat} {t : Tok} {o2 : Obj} (d2 : o2.data = .cell none)
    (F : Fr h₀ L h (locs (nms (dScope 27)) (LV sa dr ce (some (.str (tx [s0, s1]) t)) pa ta fi su))) (N : News h₀ L h ((L + 2, o2) :: news)) (hn2 : ∀ p ∈ news, p.1 ≠ L + 2)
    (q : ∀ h' k' M wsM kM o2', Fr h₀ L h' (locs (nms (dScope 27)) (LV sa dr ce (some (.str (tx [s0, s1]) t)) pa ta fi su)) → News h₀ L h' ((L + 2, o2') :: (M, lstO wsM.toArray kM) :: news) → o2'.data = .cell (some (.ref M)) →
      StrsAre wsM ((namesN [s0, s1] 3).1.map tx) → (∀ p ∈ news, p.1 ≠ M) → M ≠ L + 2 → P .next ⟨h', g, d, k', o⟩) :
    wpAny (model prg w) A (exec (nthS (dBody 27) 4) (envL L fa cd)) P E ⟨h, g, d, k, o⟩ := by
  have ok := sc27
  refine wpAny_Assign_Name (callF (kf := 25) l (by decide) (fun Q' q => ldg 16 25 ok l F rfl (by decide) rfl q) (arg (ldl 3 ok F rfl rfl (args_nil ⟨F.keep, ?_⟩))))
  refine useS (names_c h [s0, s1] t rfl) hh hd hu l F N rfl (fun v h2 k2 F2 N2 kp2 hv => ?_)
  obtain ⟨M, wsM, kM, rfl, hM0, hM, hsM⟩ := hv
  obtain ⟨N3, hne⟩ := News.got F N N2 hM0 hM
  have hM2 : M ≠ L + 2 := (hne (L + 2, o2) List.mem_cons_self).symm
  replace N3 : News h₀ L h2 ((L + 2, o2) :: (M, lstO wsM.toArray kM) :: news) := News.swap N3
  refine stCell ok F2 N3 (by decide +kernel) rfl d2 (fun p hp => ?_) (fun h4 o2' F4 N5 d2' => ?_)
  · rcases List.mem_cons.mp hp with rfl | hp
    · exact hM2
    · exact hn2 p hp
  exact q h4 _ M wsM kM o2' F4 N5 d2' hsM (fun p hp => hne p (List.mem_cons_of_mem _ hp)) hM2
set_option maxHeartbeats 2000000 in
theorem law5 (hh : A.handled = none) (hd : A.depth + 1 < recursionLimit) (hu : A.units + 8 < cLine) (l : Lib ad mg mb h₀) {its : List Nat} {nm : List (List Nat)} {I M : Addr} {wsI wsM : List Value} {kI kM : Nat} {o1 o2 o3 : Obj} (d1 : o1.data = .cell (some (.ref I))) (d2 : o2.data = .cell (some (.ref M))) (d3 : o3.data = .cell none)
    (hsI : StrsAre wsI (its.map one)) (hsM : StrsAre wsM (nm.map tx)) (hbI : its.length ≤ 100) (hbM : nm.length ≤ 100) (hbX : ∀ x ∈ nm, x.length ≤ 100) (hnd : (nm.map tx).Nodup)
    (F : Fr h₀ L h (locs (nms (dScope 27)) (LV sa dr ce si pa ta fi su))) (N : News h₀ L h ((L + 3, o3) :: news)) (hn3 : ∀ p ∈ news, p.1 ≠ L + 3) (m1 : (L + 1, o1) ∈ news) (m2 : (L + 2, o2) ∈ news) (mI : (I, lstO wsI.toArray kI) ∈ news) (mM : (M, lstO wsM.toArray kM) ∈ news)
    (q : ∀ h' k' W obW kvs o3', Fr h₀ L h' (locs (nms (dScope 27)) (LV sa dr ce si pa ta fi su)) → News h₀ L h' ((L + 3, o3') :: (W, obW) :: news) → o3'.data = .cell (some (.ref W)) → obW.IsDictOf (strKind prg w) kvs →
      (∀ x ∈ nm, ∃ t, valueAt kvs (tx x) = some (.int (waysOf its x) t)) → (∀ p ∈ news, p.1 ≠ W) → W ≠ L + 3 → P .next ⟨h', g, d, k', o⟩) :
    wpAny (model prg w) A (exec (nthS (dBody 27) 5) (envL L fa cd)) P E ⟨h, g, d, k, o⟩ := by
  have ok := sc27
  have hIl := hsI.len_eq
  have hMl := hsM.len_eq
  rw [List.length_map] at hIl hMl
  have c2 : h.IsCell (L + 2) (some (.ref M)) := ⟨o2, N.get (List.mem_cons_of_mem _ m2), d2⟩
  refine wpAny_Assign_Name (callT (fun Q' q => ldb 17 ok l F rfl (by decide) boot_dict q) (arg ?_))
  refine callT (fun Q' q => ldb 18 ok l F rfl (by decide) boot_zip q) (arg (ldCell ok (by decide +kernel) rfl c2 (arg ?_)))
  refine evalCompS (cl := [("items", L + 1)]) F (by rfl) (by decide) rfl (by decide) (ldCell ok (by decide +kernel) rfl c2 ?_)
  refine iterLS hh F N (vs := wsM) ⟨_, N.get (List.mem_cons_of_mem _ mM), rfl, _, rfl⟩ (fun It h3 W hst hLf hwr hnw hfp F3 N3 kp3 => ?_)
  refine ⟨_, compAtW (fun i ys => ys.length = i ∧ IntsAre ys ((nm.take i).map (waysOf its))) W (by decide) rfl hst hfp hLf hwr hnw F3 N3 ⟨rfl, by simpa using IntsAre.nil⟩ (fun i ys h1 h2 => by rw [sizeLine]; lia) ?_, F3.ns.lt, ?_⟩
  · rintro E' i v K h6 k6 mc ys hi hv ⟨hy1, hy2⟩ hK hnC hmc F6 N6
    have hix : i < nm.length := by lia
    obtain ⟨tq, hq⟩ := hsM.at (j := i) (y := tx nm[i]) (by rw [List.getElem?_map, List.getElem?_eq_getElem hix]; rfl)
    obtain rfl : v = .str (tx nm[i]) tq := by
      have hv' : wsM[i]? = some v := hv
      rw [hq] at hv'; exact (Option.some.inj hv').symm
    show wpAny _ _ _ _ _ _
    refine wpAny_tests_nil ⟨Keeps.mk' fun _ _ e => e, ite_tt ?_⟩
    refine callF (kf := 26) l (by decide) (fun Q' q => ldgC 26 rfl (by decide) l F6 (by decide) rfl q) (arg (ldCc rfl (by decide) ok.fk (by decide +kernel) rfl ⟨o1, N6.get (List.mem_cons_of_mem _ m1), d1⟩ (arg (ldC rfl (by decide) hnC hmc (args_nil ⟨F6.keep, ?_⟩)))))
    refine useS (ways_c its nm[i] I wsI tq hbI (hbX _ (List.getElem_mem hix)) hsI) hh hd hu l F6 N6 ⟨_, N6.get (List.mem_cons_of_mem _ mI), rfl, _, rfl⟩ (fun v h7 k7 F7 N8 kp7 hv => ?_)
    obtain ⟨tw, rfl⟩ := hv
    refine ⟨Keeps.mk' kp7, by simp [hy1], ?_⟩
    rw [List.take_succ_eq_append_getElem hix, List.map_append]
    exact hy2.append (.cons _ _ .nil)
  · rintro D h6 k6 news6 F6 N6 ⟨ys, k7, ⟨hy1, hy2⟩, rfl, hD⟩
    rw [hMl, List.take_length] at hy2
    refine args_nil (wpAny_mono (dictZipS (ns := nm.map tx) hh F6 N6 (vs := wsM) (ws := ys) ⟨_, N6.get (List.mem_cons_of_mem _ (List.mem_cons_of_mem _ mM)), rfl, _, rfl⟩ ⟨_, N6.get List.mem_cons_self, rfl, _, rfl⟩ hsM (by lia) (by lia) (Q := fun v s => wpAny (model prg w) A (storeName (envL L fa cd) "ways" v) (fun _ => P .next) E s) (fun W h7 k8 ob kp7 F7 N7 hW hob => ?_)) (fun zv s hz => args_nil hz) fun _ _ e => e)
    have hW3 : W ≠ L + 3 := (hW (L + 3, o3) (List.mem_cons_of_mem _ List.mem_cons_self)).symm
    replace N7 : News h₀ L h7 ((L + 3, o3) :: (W, ob) :: news) := News.sub N7 (by repeat (first | exact allN | refine allC (by (repeat (first | exact hp | exact List.mem_append_left _ hp | exact .head _ | apply List.Mem.tail | apply List.mem_append_right))) ?_ | refine allA (fun p hp => by (repeat (first | exact hp | exact List.mem_append_left _ hp | exact .head _ | apply List.Mem.tail | apply List.mem_append_right))) ?_ | exact fun p hp => by (repeat (first | exact hp | exact List.mem_append_left _ hp | exact .head _ | apply List.Mem.tail | apply List.mem_append_right))))
    refine stCell ok F7 N7 (by decide +kernel) rfl d3 (fun p hp => ?_) (fun h8 o3' F8 N8 d3' => ?_)
    · rcases List.mem_cons.mp hp with rfl | hp
      · exact hW3
      · exact hn3 p hp
    refine q h8 _ W ob _ o3' F8 N8 d3' hob (fun x hxm => ?_) (fun p hp => hW p (List.mem_cons_of_mem _ (List.mem_cons_of_mem _ hp))) hW3
    obtain ⟨i, hi, rfl⟩ := List.mem_iff_getElem.mp hxm
    obtain ⟨tw, hw⟩ := hy2.get i (waysOf its nm[i]) (by rw [List.getElem?_map, List.getElem?_eq_getElem hi]; rfl)
    refine ⟨tw, mergeP_at _ _ ?_ ?_⟩
    · rw [List.map_fst_zip (by rw [List.length_map]; lia)]
      exact hnd
    · refine List.mem_of_getElem? (i := i) ?_
      rw [List.getElem?_zip_eq_some]
      exact ⟨by rw [List.getElem?_map, List.getElem?_eq_getElem hi]; rfl, hw⟩
end
end Mine
namespace Mine
noncomputable def pileOf (fl : List (List Nat)) (nm : List Str) : List Str := fl.flatMap fun f => nm.filter (takes (pcsOf f))
theorem pileOf_append (a b : List (List Nat)) (nm : List Str) : pileOf (a ++ b) nm = pileOf a nm ++ pileOf b nm := by simp only [pileOf, List.flatMap_append]
theorem pileOf_one (x : List Nat) (nm : List Str) : pileOf [x] nm = nm.filter (takes (pcsOf x)) := by simp only [pileOf, List.flatMap_cons, List.flatMap_nil, List.append_nil]
section
variable {w : World} {A : Around} {E : Value → Shared → Prop} {h : Heap} {g : Array GenState} {d : Drawn} {k : Nat} {o : OsState} {L fa sa : Addr} {cd : Value} {h₀ : Heap} {ad : Nat → Addr} {mg mb : Str → Option Value} {news : List (Addr × Obj)}
  {P : Flow → Shared → Prop} {dr ce si pa ta fi su : Option Value} {m : Str → Option Value}
theorem iterLI {l : Addr} {vs : List Value} {Q : Value → Shared → Prop} (hh : A.handled = none) (hl : h.IsList l vs.toArray)
    (q : ∀ I h', Walks prg w A I [I, l] [I] vs.length (fun i v => vs[i]? = some v) (fun i h => h.IsListIter I l i ∧ h.IsList l vs.toArray) → (h'.IsListIter I l 0 ∧ h'.IsList l vs.toArray) → h.get? I = none → Kp h h' → Q (.ref I) ⟨h', g, d, k, o⟩) :
    wpAny (model prg w) A (pyIter (.ref l)) Q E ⟨h, g, d, k, o⟩ := by
  refine wpAny_pyIter_list hl ?_
  have hlt : @LT.lt Nat instLTNat l h.objs.size := by obtain ⟨_, e, _⟩ := hl; exact Heap.lt_size e
  have W := Walks.list (prog := prg) (w := w) (A := A) hh h.objs.size l (Nat.ne_of_lt hlt) vs.toArray
  rw [List.size_toArray] at W
  have W' : Walks prg w A h.objs.size [h.objs.size, l] [h.objs.size] vs.length (fun i v => vs[i]? = some v) (fun i h' => h'.IsListIter h.objs.size l i ∧ h'.IsList l vs.toArray) := by
    refine ⟨W.sub, W.frame, fun i s Q E hi hst hq => W.item i s Q E hi hst fun v h' tk hv => hq v h' tk (by simpa using hv), W.done, W.self⟩
  exact q h.objs.size _ W' ⟨⟨_, Heap.get?_push_size _ rfl, rfl, rfl⟩, hl.push _⟩ (Heap.get?_none_of_le (Nat.le_refl _)) (fun _ _ e => Heap.get?_push_of_some _ e)
set_option maxHeartbeats 2000000 in
theorem law6 (hh : A.handled = none) (hd : A.depth + 7 < recursionLimit) (hu : A.units + 56 < cLine) (l : Lib ad mg mb h₀) (sp : Sp w mg h₀) {its : List Nat} {nm : List (List Nat)} {I M : Addr} {wsI wsM : List Value} {kI kM : Nat} {o1 o2 o4 : Obj} (d1 : o1.data = .cell (some (.ref I))) (d2 : o2.data = .cell (some (.ref M))) (d4 : o4.data = .cell none)
    (hsI : StrsAre wsI (its.map one)) (hsM : StrsAre wsM (nm.map tx)) (hbI : its.length ≤ 8) (hbM : nm.length ≤ 100) (hbX : ∀ x ∈ nm, x.length ≤ 100) (hfl : (filled its).length ≤ 256) (hf1 : ∀ f ∈ filled its, f.length ≤ 50) (hf2 : ∀ f ∈ filled its, ∀ c ∈ f, c < 128 ∧ c ≠ 91)
    (F : Fr h₀ L h (locs (nms (dScope 27)) (LV sa dr ce si pa ta fi su))) (N : News h₀ L h ((L + 4, o4) :: news)) (hn4 : ∀ p ∈ news, p.1 ≠ L + 4) (m1 : (L + 1, o1) ∈ news) (m2 : (L + 2, o2) ∈ news) (mI : (I, lstO wsI.toArray kI) ∈ news) (mM : (M, lstO wsM.toArray kM) ∈ news)
    (q : ∀ h' k' Pl wsP kP o4', Fr h₀ L h' (locs (nms (dScope 27)) (LV sa dr ce si pa ta fi su)) → News h₀ L h' ((L + 4, o4') :: (Pl, lstO wsP.toArray kP) :: news) → o4'.data = .cell (some (.ref Pl)) → StrsAre wsP (pileOf (filled its) (nm.map tx)) →
      (∀ p ∈ news, p.1 ≠ Pl) → Pl ≠ L + 4 → P .next ⟨h', g, d, k', o⟩) :
    wpAny (model prg w) A (exec (nthS (dBody 27) 6) (envL L fa cd)) P E ⟨h, g, d, k, o⟩ := by
  have ok := sc27
  have hMl := hsM.len_eq
  rw [List.length_map] at hMl
  refine wpAny_Assign_Name ?_
  refine evalCompS (cl := [("names", L + 2)]) F (by rfl) (by decide) rfl (by decide) (callF (kf := 24) l (by decide) (fun Q' q => ldg 19 24 ok l F rfl (by decide) rfl q) (arg (ldCell ok (by decide +kernel) rfl ⟨o1, N.get (List.mem_cons_of_mem _ m1), d1⟩ (args_nil ⟨F.keep, ?_⟩))))
  refine useS (filled_c h its I wsI hbI hsI) hh (by lia) (by lia) l F N ⟨rfl, _, N.get (List.mem_cons_of_mem _ mI), rfl, _, rfl⟩ (fun v h2 k2 F2 N2 kp2 hv => ?_)
  obtain ⟨Fl, wsF, kF, rfl, hF0, hF, hsF⟩ := hv
  generalize hfle : filled its = fl at *
  have hFl := hsF.len_eq
  rw [List.length_map] at hFl
  obtain ⟨N3, hFn⟩ := News.got F N N2 hF0 hF
  refine iterLS hh F2 N3 (vs := wsF) ⟨_, hF, rfl, _, rfl⟩ (fun It h3 W hst hLf hwr hnw hfp F3 N4 kp3 => ?_)
  refine ⟨_, compAt2 (fun q ys => ys.length ≤ 100 * q ∧ StrsAre ys (pileOf (fl.take q) (nm.map tx))) W (by decide) (by decide) (by decide) rfl hst hfp hLf hwr hnw F3 N4 ⟨Nat.le_refl _, by simpa [pileOf] using StrsAre.nil⟩ (fun _ _ => rfl) ?_, F3.ns.lt, ?_⟩
  · rintro E2 q u C D h4 k4 mc ys hq hu' ⟨hy1, hy2⟩ hC hD hnC hmc hDs F4 N5
    have hqx : q < fl.length := by lia
    obtain ⟨tq, hqv⟩ := hsF.at (j := q) (y := tx fl[q]) (by rw [List.getElem?_map, List.getElem?_eq_getElem hqx]; rfl)
    obtain rfl : u = .str (tx fl[q]) tq := by
      have hu2 : wsF[q]? = some u := hu'
      rw [hqv] at hu2; exact (Option.some.inj hu2).symm
    have hgs : pileOf (fl.take (q + 1)) (nm.map tx) = pileOf (fl.take q) (nm.map tx) ++ (nm.map tx).filter (takes (pcsOf fl[q])) := by
      rw [List.take_succ_eq_append_getElem hqx, pileOf_append, pileOf_one]
    have hfm := List.getElem_mem hqx
    have hf1' := hf1 _ hfm
    have hf2' := hf2 _ hfm
    generalize fl[q] = fq at *
    refine callF (kf := 22) l (by decide) (fun Q' q => ldgC 22 rfl (by decide) l F4 (by decide) rfl q) (arg (ldC rfl (by decide) hnC hmc (arg (ldCc rfl (by decide) ok.fk (by decide +kernel) rfl ⟨o2, N5.get (List.mem_cons_of_mem _ (List.mem_cons_of_mem _ m2)), d2⟩ (args_nil ⟨F4.keep, ?_⟩)))))
    refine useS (taken_c h4 fq M wsM (nm.map tx) tq hf1' hf2' (by rw [List.length_map]; lia) (fun x hx => ?_) hsM) hh hd (by lia) l F4 N5 ⟨rfl, sp.keeps F4.keep, _, N5.get (List.mem_cons_of_mem _ (List.mem_cons_of_mem _ mM)), rfl, _, rfl⟩ (fun v h5 k5 F5 N6 kp5 hv => ?_)
    · obtain ⟨y, hy, rfl⟩ := List.mem_map.mp hx
      have := hbX y hy
      simpa [Str.length] using this
    obtain ⟨T, wsT, kT, rfl, hT0, hT, hsT⟩ := hv
    generalize hcur : (nm.map tx).filter (takes (pcsOf fq)) = cur at *
    have hcl : cur.length ≤ 100 := by
      rw [← hcur]
      have := List.length_filter_le (takes (pcsOf fq)) (nm.map tx)
      rw [List.length_map] at this
      lia
    have hTl := hsT.len_eq
    refine iterLI hh (l := T) (vs := wsT) ⟨_, hT, rfl, _, rfl⟩ (fun J h6 W6 st6 hJ kp6 => ?_)
    have hJ4 : h4.get? J = none := by
      cases e : h4.get? J with
      | none => rfl
      | some ob => have := kp5 _ _ e; rw [hJ] at this; cases this
    refine ⟨J, _, _, wsT.length, _, _, fun j zs => zs.length ≤ 100 * q + j ∧ StrsAre zs (pileOf (fl.take q) (nm.map tx) ++ cur.take j), h6, k5, rfl, rfl, fun b o e => kp6 _ _ (kp5 _ _ e), W6, st6, fun b hb => .inr ?_, fun b hb => by rw [List.mem_singleton.mp hb]; exact hJ4,
      ⟨by lia, by simpa using hy2⟩, ?_, ?_, ?_⟩
    · rcases List.mem_cons.mp hb with rfl | hb
      · exact hJ4
      · rw [List.mem_singleton.mp hb]; exact hT0
    · rintro ys' ⟨z1, z2⟩
      refine ⟨by lia, ?_⟩
      rw [hgs]
      rw [hTl, List.take_length] at z2
      exact z2
    · rintro j ys' ⟨z1, _⟩ hj
      rw [sizeLine]; lia
    · rintro E5 j u5 h7 k7 mc5 zs hj hu5 ⟨z1, z2⟩ hn5 hx5 hy5 F7 N7
      have hjl : j < cur.length := by lia
      obtain ⟨t5, ht5⟩ := hsT.at (j := j) (List.getElem?_eq_getElem hjl)
      obtain rfl : u5 = .str cur[j] t5 := by
        have hu2 : wsT[j]? = some u5 := hu5
        rw [ht5] at hu2; exact (Option.some.inj hu2).symm
      refine ldC rfl (by decide) hn5 hy5 ⟨Keeps.mk' fun _ _ e => e, by simp; lia, ?_⟩
      rw [List.take_succ_eq_append_getElem hjl, ← List.append_assoc]
      exact z2.append' (.cons _ _ .nil)
  · rintro D h6 k6 news6 F6 N6 ⟨ys, k7, ⟨hy1, hy2⟩, rfl, hD⟩
    rw [hFl, List.take_length] at hy2
    have hD4 : D ≠ L + 4 := (hD (L + 4, o4) (List.mem_cons_of_mem _ List.mem_cons_self)).symm
    replace N6 : News h₀ L h6 ((L + 4, o4) :: (D, lstO ys.toArray k7) :: news) := News.sub N6 (by repeat (first | exact allN | refine allC (by (repeat (first | exact hp | exact List.mem_append_left _ hp | exact .head _ | apply List.Mem.tail | apply List.mem_append_right))) ?_ | refine allA (fun p hp => by (repeat (first | exact hp | exact List.mem_append_left _ hp | exact .head _ | apply List.Mem.tail | apply List.mem_append_right))) ?_ | exact fun p hp => by (repeat (first | exact hp | exact List.mem_append_left _ hp | exact .head _ | apply List.Mem.tail | apply List.mem_append_right))))
    refine stCell ok F6 N6 (by decide +kernel) rfl d4 (fun p hp => ?_) (fun h8 o4' F8 N8 d4' => ?_)
    · rcases List.mem_cons.mp hp with rfl | hp
      · exact hD4
      · exact hn4 p hp
    exact q h8 _ D ys k7 o4' F8 N8 d4' hy2 (fun p hp => hD p (List.mem_cons_of_mem _ (List.mem_cons_of_mem _ hp))) hD4
end
end Mine
namespace Mine
section
variable {w : World} {A : Around} {E : Value → Shared → Prop} {h : Heap} {g : Array GenState} {d : Drawn} {k : Nat} {o : OsState} {L fa sa : Addr} {cd : Value} {h₀ : Heap} {ad : Nat → Addr} {mg mb : Str → Option Value} {news : List (Addr × Obj)}
  {P : Flow → Shared → Prop} {dr ce si pa ta fi su : Option Value} {m : Str → Option Value}
theorem neInts {l b : Addr} {vs ws : List Value} {xs : List Int} {Q : Value → Shared → Prop} (hl : h.IsList l vs.toArray) (hb : h.IsList b ws.toArray) (hx : IntsAre vs xs) (hy : IntsAre ws xs) (hu : A.units < cLine) (q : Q (.bool false) ⟨h, g, d, k, o⟩) :
    wpAny (model prg w) A (compareOp .NotEq (.ref l) (.ref b)) Q E ⟨h, g, d, k, o⟩ := by
  have hxl := hx.length
  have hyl := hy.length
  have e : (List.range vs.length).all (fun j => xs[j]?.getD 0 == xs[j]?.getD 0) = true := by
    rw [List.all_eq_true]
    intro i hi
    simp
  have := PySem.SeqAt.RcNeAt.lists (A := A) (s := ⟨h, g, d, k, o⟩) (items := vs.toArray) (items2 := ws.toArray) (e := fun j => xs[j]?.getD 0 == xs[j]?.getD 0) hl hb (by simp; lia) hu (fun j h1 h2 => by
    rw [List.size_toArray] at h1 h2
    have hj : j < xs.length := by lia
    obtain ⟨t1, e1⟩ := hx.get j xs[j] (List.getElem?_eq_getElem hj)
    obtain ⟨t2, e2⟩ := hy.get j xs[j] (List.getElem?_eq_getElem hj)
    rw [List.getElem?_eq_getElem h1] at e1
    rw [List.getElem?_eq_getElem h2] at e2
    rw [List.getElem_toArray, List.getElem_toArray, Option.some.inj e1, Option.some.inj e2, List.getElem?_eq_getElem hj]
    exact PySem.SeqAt.EqAt.int_int _ _ _ _)
  refine this prg w E Q ?_
  rw [List.size_toArray, e]
  exact q
set_option maxHeartbeats 2000000 in
theorem law7 (hh : A.handled = none) (hu : A.units + 8 < cLine) {its : List Nat} {nm : List (List Nat)} {pile : List Str} {M W Pl : Addr} {wsM wsP : List Value} {kM kP : Nat} {o2 o3 o4 obW : Obj} {kvs : List (Str × Value)} (d2 : o2.data = .cell (some (.ref M))) (d3 : o3.data = .cell (some (.ref W))) (d4 : o4.data = .cell (some (.ref Pl)))
    (hsM : StrsAre wsM (nm.map tx)) (hsP : StrsAre wsP pile) (hbM : nm.length ≤ 100) (hW : obW.IsDictOf (strKind prg w) kvs) (hwv : ∀ x ∈ nm, ∃ t, valueAt kvs (tx x) = some (.int (waysOf its x) t)) (hcount : ∀ x ∈ nm, ((pile.count (tx x) : Nat) : Int) = waysOf its x)
    (F : Fr h₀ L h (locs (nms (dScope 27)) (LV sa dr ce si pa ta fi su))) (N : News h₀ L h news) (m2 : (L + 2, o2) ∈ news) (m3 : (L + 3, o3) ∈ news) (m4 : (L + 4, o4) ∈ news) (mM : (M, lstO wsM.toArray kM) ∈ news) (mW : (W, obW) ∈ news) (mP : (Pl, lstO wsP.toArray kP) ∈ news)
    (q : ∀ h' k', Fr h₀ L h' (locs (nms (dScope 27)) (LV sa dr ce si pa ta fi su)) → News h₀ L h' news → P .next ⟨h', g, d, k', o⟩) :
    wpAny (model prg w) A (exec (nthS (dBody 27) 7) (envL L fa cd)) P E ⟨h, g, d, k, o⟩ := by
  have ok := sc27
  have hMl := hsM.len_eq
  rw [List.length_map] at hMl
  refine wpAny_If (wpAny_isTrue_Compare1 ?_)
  refine evalCompS (cl := [("pile", L + 4)]) F (by rfl) (by decide) rfl (by decide) (ldCell ok (by decide +kernel) rfl ⟨o2, N.get m2, d2⟩ ?_)
  refine iterLS hh F N (vs := wsM) ⟨_, N.get mM, rfl, _, rfl⟩ (fun It h3 W1 hst hLf hwr hnw hfp F3 N3 kp3 => ?_)
  refine ⟨_, compAtW (fun i ys => ys.length = i ∧ IntsAre ys ((nm.take i).map (waysOf its))) W1 (by decide) rfl hst hfp hLf hwr hnw F3 N3 ⟨rfl, by simpa using IntsAre.nil⟩ (fun i ys h1 h2 => by rw [sizeLine]; lia) ?_, F3.ns.lt, ?_⟩
  · rintro E' i v K h6 k6 mc ys hi hv ⟨hy1, hy2⟩ hK hnC hmc F6 N6
    have hix : i < nm.length := by lia
    obtain ⟨tq, hq⟩ := hsM.at (j := i) (y := tx nm[i]) (by rw [List.getElem?_map, List.getElem?_eq_getElem hix]; rfl)
    obtain rfl : v = .str (tx nm[i]) tq := by
      have hv' : wsM[i]? = some v := hv
      rw [hq] at hv'; exact (Option.some.inj hv').symm
    show wpAny _ _ _ _ _ _
    refine wpAny_tests_nil ⟨Keeps.mk' fun _ _ e => e, ite_tt ?_⟩
    refine MethodCall_ (ldCc rfl (by decide) ok.fk (by decide +kernel) rfl ⟨o4, N6.get m4, d4⟩ (methL (N6.get mP) PySem.F.slot_list_count PySem.F.type_list_count (cwB (arg (ldC rfl (by decide) hnC hmc (args_nil ?_))))))
    refine countS (vs := wsP) ⟨_, N6.get mP, rfl, _, rfl⟩ hsP (fun t8 k8 => ⟨Keeps.mk' fun _ _ e => e, by simp [hy1], ?_⟩)
    rw [List.take_succ_eq_append_getElem hix, List.map_append, hcount _ (List.getElem_mem hix)]
    exact hy2.append (.cons _ _ .nil)
  rintro D1 h6 k6 news6 F6 N6 ⟨ys, k7, ⟨hy1, hy2⟩, rfl, hD1⟩
  rw [hMl, List.take_length] at hy2
  refine evalCompS (cl := [("ways", L + 3)]) F6 (by rfl) (by decide) rfl (by decide) (ldCell ok (by decide +kernel) rfl ⟨o2, N6.get (List.mem_cons_of_mem _ m2), d2⟩ ?_)
  refine iterLS hh F6 N6 (vs := wsM) ⟨_, N6.get (List.mem_cons_of_mem _ mM), rfl, _, rfl⟩ (fun It h7 W2 hst hLf hwr hnw hfp F7 N7 kp7 => ?_)
  refine ⟨_, compAtW (fun i ys => ys.length = i ∧ IntsAre ys ((nm.take i).map (waysOf its))) W2 (by decide) rfl hst hfp hLf hwr hnw F7 N7 ⟨rfl, by simpa using IntsAre.nil⟩ (fun i ys h1 h2 => by rw [sizeLine]; lia) ?_, F7.ns.lt, ?_⟩
  · rintro E' i v K h6 k6 mc ys hi hv ⟨hy1, hy2⟩ hK hnC hmc F6 N6
    have hix : i < nm.length := by lia
    obtain ⟨tq, hq⟩ := hsM.at (j := i) (y := tx nm[i]) (by rw [List.getElem?_map, List.getElem?_eq_getElem hix]; rfl)
    obtain rfl : v = .str (tx nm[i]) tq := by
      have hv' : wsM[i]? = some v := hv
      rw [hq] at hv'; exact (Option.some.inj hv').symm
    show wpAny _ _ _ _ _ _
    refine wpAny_tests_nil ⟨Keeps.mk' fun _ _ e => e, ite_tt ?_⟩
    obtain ⟨tw, hw⟩ := hwv _ (List.getElem_mem hix)
    refine Subscript_ (ldCc rfl (by decide) ok.fk (by decide +kernel) rfl ⟨o3, N6.get (List.mem_cons_of_mem _ m3), d3⟩ (ldC rfl (by decide) hnC hmc ?_))
    refine itemD (N6.get (List.mem_cons_of_mem _ mW)) hW hw (fun k8 => ⟨Keeps.mk' fun _ _ e => e, by simp [hy1], ?_⟩)
    rw [List.take_succ_eq_append_getElem hix, List.map_append]
    exact hy2.append (.cons _ _ .nil)
  rintro D2 h8 k8 news8 F8 N8 ⟨zs, k9, ⟨hz1, hz2⟩, rfl, hD2⟩
  rw [hMl, List.take_length] at hz2
  refine neInts (vs := ys) (ws := zs) ⟨_, N8.get (List.mem_cons_of_mem _ List.mem_cons_self), rfl, _, rfl⟩ ⟨_, N8.get List.mem_cons_self, rfl, _, rfl⟩ hy2 hz2 (by lia) (wpAny_truthy_bool (ite_ff (wpAny_execs_nil ?_)))
  exact q _ _ F8 (newsTail (newsTail N8))
theorem law8 (hh : A.handled = none) (hd : A.depth + 7 < recursionLimit) (hu : A.units + 56 < cLine) (l : Lib ad mg mb h₀) (sp : Sp w mg h₀) {pat : List Nat} {tp : Tok} {nm : List (List Nat)} {M : Addr} {wsM : List Value} {kM : Nat} {o2 : Obj} (d2 : o2.data = .cell (some (.ref M)))
    (hsM : StrsAre wsM (nm.map tx)) (hbM : nm.length ≤ 100) (hbX : ∀ x ∈ nm, x.length ≤ 100) (hp1 : pat.length ≤ 50) (hp2 : ∀ c ∈ pat, c < 128 ∧ c ≠ 91)
    (F : Fr h₀ L h (locs (nms (dScope 27)) (LV sa dr ce si (some (.str (tx pat) tp)) ta fi su))) (N : News h₀ L h news) (m2 : (L + 2, o2) ∈ news) (mM : (M, lstO wsM.toArray kM) ∈ news)
    (q : ∀ h' k' T wsT kT, Fr h₀ L h' (locs (nms (dScope 27)) (LV sa dr ce si (some (.str (tx pat) tp)) (some (.ref T)) fi su)) → News h₀ L h' ((T, lstO wsT.toArray kT) :: news) → StrsAre wsT ((nm.map tx).filter (takes (pcsOf pat))) → (∀ p ∈ news, p.1 ≠ T) → P .next ⟨h', g, d, k', o⟩) :
    wpAny (model prg w) A (exec (nthS (dBody 27) 8) (envL L fa cd)) P E ⟨h, g, d, k, o⟩ := by
  have ok := sc27
  refine wpAny_Assign_Name (callF (kf := 22) l (by decide) (fun Q' q => ldg 20 22 ok l F rfl (by decide) rfl q) (arg (ldl 5 ok F rfl rfl (arg (ldCell ok (by decide +kernel) rfl ⟨o2, N.get m2, d2⟩ (args_nil ⟨F.keep, ?_⟩))))))
  refine useS (taken_c h pat M wsM (nm.map tx) tp hp1 hp2 (by rw [List.length_map]; lia) (fun x hx => ?_) hsM) hh hd (by lia) l F N ⟨rfl, sp.keeps F.keep, _, N.get mM, rfl, _, rfl⟩ (fun v h5 k5 F5 N6 kp5 hv => ?_)
  · obtain ⟨y, hy, rfl⟩ := List.mem_map.mp hx
    have := hbX y hy
    simpa [Str.length] using this
  obtain ⟨T, wsT, kT, rfl, hT0, hT, hsT⟩ := hv
  obtain ⟨N3, hTn⟩ := News.got F N N6 hT0 hT
  refine stS 9 (LV sa dr ce si (some (.str (tx pat) tp)) (some (.ref T)) fi su) ok F5 N3 rfl (Nat.le_of_ble_eq_true rfl) rfl (fun h6 k6 F6 N7 => ?_)
  exact q h6 k6 T wsT kT F6 N7 hsT hTn
theorem any_strs {x : Str} : ∀ {vs : List Value} {ts : List Str}, StrsAre vs ts → vs.toArray.any (eStr x) = decide (x ∈ ts) := by
  intro vs ts r
  induction r with
  | nil => simp
  | cons y t r this =>
    rw [List.any_toArray] at this ⊢
    rw [List.any_cons, this]
    by_cases hy : y = x
    · subst hy; simp [eStr]
    · simp [eStr, hy, Ne.symm hy]
theorem eq_strs {x : Str} {t : Tok} {s : Shared} {vs : List Value} {ts : List Str} (hs : StrsAre vs ts) : ∀ y, y ∈ vs.toArray → PySem.SeqAt.EqAt A s y (.str x t) (eStr x y) := fun y hy => by
  have hy' : y ∈ vs := by simpa using hy
  obtain ⟨i, hi⟩ := List.mem_iff_getElem?.mp hy'
  obtain ⟨z, u, rfl, _⟩ := hs.item i y hi
  exact PySem.SeqAt.EqAt.str_str _ _ _ _
set_option maxHeartbeats 2000000 in
theorem law9 (hh : A.handled = none) (l : Lib ad mg mb h₀) {pile : List Str} {Pl : Addr} {wsP : List Value} {kP : Nat} {o4 : Obj} (d4 : o4.data = .cell (some (.ref Pl))) (hsP : StrsAre wsP pile) (hbP : pile.length ≤ 10000)
    (F : Fr h₀ L h (locs (nms (dScope 27)) (LV sa dr ce si pa ta fi su))) (N : News h₀ L h news) (m4 : (L + 4, o4) ∈ news) (mP : (Pl, lstO wsP.toArray kP) ∈ news)
    (q : ∀ h' k' T wsT kT, Fr h₀ L h' (locs (nms (dScope 27)) (LV sa dr ce si pa ta (some (.ref T)) su)) → News h₀ L h' ((T, lstO wsT.toArray kT) :: news) → StrsAre wsT (firstN pile pile.length) → (∀ p ∈ news, p.1 ≠ T) → P .next ⟨h', g, d, k', o⟩) :
    wpAny (model prg w) A (exec (nthS (dBody 27) 9) (envL L fa cd)) P E ⟨h, g, d, k, o⟩ := by
  have ok := sc27
  have hPl := hsP.len_eq
  refine assignCompS (cl' := [("pile", L + 4)]) (h₀ := h₀) (vals := LV sa dr ce si pa ta fi su) 10 (fun D => LV sa dr ce si pa ta (some (.ref D)) su) ok rfl (by first | exact Nat.le_of_ble_eq_true rfl | (repeat (first | exact .head _ | apply List.Mem.tail)); done | simp) (fun D => rfl) (by rfl) (by rfl) (by decide) rfl (by decide) ?_
  refine callT (fun Q' q => ldb 21 ok l F rfl (by decide) boot_enumerate q) (arg (ldCell ok (by decide +kernel) rfl ⟨o4, N.get m4, d4⟩ (args_nil ?_)))
  have hlist : h.IsList Pl wsP.toArray := ⟨_, N.get mP, rfl, _, rfl⟩
  refine enumS F N hlist (fun e it h1 he hit hei hle hli heL hiL he0 hi0 hnw hel hil F1 N1 kp1 => ?_)
  refine wpAny_pyIter_enum he ?_
  have W := WalksT.enumerateD (prog := prg) (w := w) (A := A) (Draws.list (A := A.in1) hh it Pl hli wsP.toArray) e hei (notMem2 hei hle.symm) List.mem_cons_self
  rw [List.size_toArray] at W
  have hPL : Pl ≠ L := isList_ne_L F hlist
  have hPs : @LT.lt Nat instLTNat Pl h1.objs.size := Heap.lt_size (kp1 _ _ (N.get mP))
  refine ⟨h1, _, _, rfl, compAtT (fun i ys => ys.length ≤ i ∧ StrsAre ys (firstN pile i)) hh W (by decide) (by decide) rfl ⟨⟨_, he⟩, hit, hlist.at fun o e => kp1 _ o e⟩ (fun b hb => ?_) (fun hb => ?_) (fun b hb => ?_) (fun p hp hb => ?_) F1 N1 ⟨Nat.le_refl _, .nil⟩ (fun i ys h1 h2 => by rw [sizeLine]; lia) (fun i vals hv => ?_) ?_, F1.ns.lt, ?_⟩
  · simp only [List.mem_cons, List.not_mem_nil, or_false] at hb
    rcases hb with rfl | rfl | rfl
    · exact hel
    · exact hil
    · exact hPs
  · simp only [List.mem_cons, List.not_mem_nil, or_false] at hb
    rcases hb with q | q | q
    · exact heL q.symm
    · exact hiL q.symm
    · exact hPL q.symm
  · simp only [List.mem_cons, List.not_mem_nil, or_false] at hb
    rcases hb with rfl | rfl
    · exact he0
    · exact hi0
  · simp only [List.mem_cons, List.not_mem_nil, or_false] at hb
    rcases hb with q | q
    · exact (hnw p hp).1 q
    · exact (hnw p hp).2 q
  · obtain ⟨t, x, _, rfl⟩ := hv
    exact ⟨_, _, rfl⟩
  · rintro E' i a b C h6 k6 mc ys hi ⟨t, x, hx, hab⟩ ⟨hy1, hy2⟩ hC hnC F6 N6
    obtain ⟨rfl, rfl⟩ : a = .int i t ∧ b = x := by
      have := congrArg Array.toList hab
      simp at this
      exact this
    have hip : i < pile.length := by lia
    obtain ⟨tq, hq⟩ := hsP.at (j := i) (List.getElem?_eq_getElem hip)
    obtain rfl : b = .str pile[i] tq := by
      have hx' : wsP[i]? = some b := by simpa using hx
      rw [hq] at hx'; exact (Option.some.inj hx').symm
    show wpAny _ _ _ _ _ _
    refine wpAny_tests_one (wpAny_isTrue_Compare1 (ldC rfl (by decide) hnC rfl ?_))
    refine sliceSub (ldCc rfl (by decide) ok.fk (by decide +kernel) rfl ⟨o4, N6.get m4, d4⟩ (evalPart_none_step (evalPart_some_step (ldC rfl (by decide) hnC rfl ?_))))
    refine sliceLS F6 N6 (items := wsP.toArray) ⟨_, N6.get mP, rfl, _, rfl⟩ .none (.int (i : Int) _) (by simp; lia) (fun X h7 kp7 F7 N7 hX => ?_)
    rw [pick_to] at N7
    have hst := strs_take i hsP
    refine PySem.SeqAt.notIn_listAt (eStr pile[i]) (items := (wsP.take i).toArray) ⟨_, N7.get List.mem_cons_self, rfl, _, rfl⟩ (eq_strs hst) (wpAny_truthy_bool ⟨Keeps.mk' kp7, ?_⟩)
    rw [any_strs hst]
    by_cases hm : pile[i] ∈ pile.take i
    · rw [decide_eq_true hm]
      refine ite_ff ⟨by lia, ?_⟩
      rw [firstN_dup (List.getElem?_eq_getElem hip) hm]
      exact hy2
    · rw [decide_eq_false hm]
      refine ite_tt (ldC rfl (by decide) (hnC.keeps kp7) rfl ⟨Keeps.mk' fun _ _ e => e, by simp; lia, ?_⟩)
      rw [firstN_new (List.getElem?_eq_getElem hip) hm]
      exact hy2.append' (.cons _ _ .nil)
  · rintro D h6 k6 news6 F6 N6 ⟨ys, k7, ⟨hy1, hy2⟩, rfl, hD⟩
    rw [hPl] at hy2
    exact q h6 k6 D ys k7 F6 N6 hy2 hD
end
end Mine
namespace Mine
section
variable {w : World} {A : Around} {E : Value → Shared → Prop} {h₀ : Heap} {L I : Addr} {m : Str → Option Value} {news : List (Addr × Obj)} {env : Env} {fp wr : List Addr} {n : Nat}
inductive FinH (n : Nat) (R : Nat → List Value → List (Addr × Obj) → Prop) (news : List (Addr × Obj)) (D : Addr) (news' : List (Addr × Obj)) : Prop
  | mk (ys : List Value) (k : Nat) (led : List (Addr × Obj)) (h1 : R n ys led) (h2 : news' = (D, lstO ys.toArray k) :: (led ++ news)) : FinH n R news D news'
inductive CompHI (s₂ : Shared) (St : Nat → Heap → Prop) (C D : Addr) (h₀ : Heap) (L : Addr) (m : Str → Option Value) (news : List (Addr × Obj)) (fp : List Addr) (R : Nat → List Value → List (Addr × Obj) → Prop) (n : Nat) (k : Nat) (s' : Shared) : Prop
  | mk (h' : Heap) (tk' : Nat) (mc : Str → Option Value) (ys : List Value) (led : List (Addr × Obj)) (i : Nat) (h1 : s' = { s₂ with heap := h', toks := tk' }) (h2 : St i h') (h3 : h'.Ns C mc) (h4 : h'.PlainList D ys.toArray) (h5 : Fr h₀ L h' m) (h6 : News h₀ L h' (led ++ news)) (h7 : (∀ p ∈ led, p.1 ≠ D ∧ p.1 ≠ C ∧ p.1 ∉ fp)) (h8 : R i ys led) (h9 : i ≤ n) (h10 : k = n + 1 - i) : CompHI s₂ St C D h₀ L m news fp R n k s'
noncomputable def TurnH (w : World) (A : Around) (elt : Expr) (ifs : List Expr) (cenv : Env) (Rn : List Value → List (Addr × Obj) → Prop) (ys : List Value) (led : List (Addr × Obj)) (E : Value → Shared → Prop) (s : Shared) : Prop :=
  wpAny (model prg w) A (testsOf ifs cenv) (fun ok s₃ => Keeps s s₃ ∧ if ok = true then wpAny (model prg w) A (eval elt cenv) (fun v s₄ => Keeps s₃ s₄ ∧ ∃ new, (∀ p ∈ new, s.heap.get? p.1 = none ∧ s₄.heap.get? p.1 = some p.2) ∧ Rn (ys ++ [v]) (new ++ led)) E s₃ else Rn ys led) E s
/-- over a plain iterator, one name; the elements are fresh objects, kept in a ledger -/
theorem compAtH {P : Nat → Value → Prop} {St : Nat → Heap → Prop} {elt iter : Expr} {ifs : List Expr} {x : Str} {px : Pos} {scope : Scope} {cl : List (Str × Addr)} {pos : Pos} {s₂ : Shared} (R : Nat → List Value → List (Addr × Obj) → Prop)
    (W : Walks prg w A I fp wr n P St) (alive : ∀ i h, St i h → ∀ b ∈ fp, ∃ o, h.get? b = some o) (hx : scope.names.lookup x = some .local) (hkind : scope.kind = .function) (hst : St 0 s₂.heap) (hfp : ∀ b ∈ fp, b < s₂.heap.objs.size) (hLf : L ∉ fp) (hwr : ∀ b ∈ wr, h₀.get? b = none)
    (hnw : ∀ p ∈ news, p.1 ∉ wr) (F : Fr h₀ L s₂.heap m) (N : News h₀ L s₂.heap news) (h0 : R 0 [] []) (hlen : ∀ i ys led, R i ys led → i ≤ n → ys.length ≤ sizeLine)
    (turn : ∀ E i v C h tk mc ys led, i < n → P i v → R i ys led → s₂.heap.objs.size ≤ C → h.Ns C mc → mc x = some v → Fr h₀ L h m → News h₀ L h (led ++ news) → TurnH w A elt ifs (compEnvC scope cl C env) (R (i + 1)) ys led E { s₂ with heap := h, toks := tk }) :
    CompAt prg w A env elt [⟨.Name x px, iter, ifs, 0⟩] scope cl pos h₀ L m (FinH n R news) (.ref I) s₂ := by
  refine ⟨I, rfl, fun s' Q' E' k hq => W.self 0 _ _ _ (W.frame _ _ _ hst fun b _ o e => k b o e) hq, fun D C h₁ tk RR hD hC hDC hn ha kp hRR => ?_⟩
  have hLlt : L < s₂.heap.objs.size := F.ns.lt
  have h0lt : ∀ b o, h₀.get? b = some o → b < s₂.heap.objs.size := fun b o e => Heap.lt_size (F.keep b o e)
  have hLw : L ∉ wr := fun h => hLf (W.sub _ h)
  have hDL : D ≠ L := Nat.ne_of_gt (Nat.lt_of_lt_of_le hLlt hD)
  have hCL : C ≠ L := Nat.ne_of_gt (Nat.lt_of_lt_of_le hLlt hC)
  have hDf : D ∉ fp := fun h => absurd (hfp _ h) (Nat.not_lt.mpr hD)
  have hCf : C ∉ fp := fun h => absurd (hfp _ h) (Nat.not_lt.mpr hC)
  have hDw : D ∉ wr := fun h => hDf (W.sub _ h)
  have hCw : C ∉ wr := fun h => hCf (W.sub _ h)
  have hDn : ∀ p ∈ news, p.1 ≠ D := fun p hp q => absurd (Heap.lt_size (N p hp).1) (Nat.not_lt.mpr (q ▸ hD))
  have hCn : ∀ p ∈ news, p.1 ≠ C := fun p hp q => absurd (Heap.lt_size (N p hp).1) (Nat.not_lt.mpr (q ▸ hC))
  have hD0 : h₀.get? D = none := by
    cases q : h₀.get? D with
    | none => rfl
    | some o => exact absurd (h0lt D o q) (Nat.not_lt.mpr hD)
  have hC0 : h₀.get? C = none := by
    cases q : h₀.get? C with
    | none => rfl
    | some o => exact absurd (h0lt C o q) (Nat.not_lt.mpr hC)
  have Fup : ∀ {h h' : Heap} {led : List (Addr × Obj)}, Fr h₀ L h m → News h₀ L h (led ++ news) → Kp h h' → Fr h₀ L h' m ∧ News h₀ L h' (led ++ news) := fun F N kk => ⟨Mine.Fr.kp F kk, Mine.News.kp N kk⟩
  refine loop1 (CompHI s₂ St C D h₀ L m news fp R n) ?_ (n + 1)
    ⟨h₁, tk, _, [], [], 0, rfl, W.frame _ _ _ hst fun b _ o e => kp b o e, hn, ha, Mine.Fr.kp F kp, Mine.News.kp N kp, by simp, h0, Nat.zero_le _, rfl⟩
  rintro E' k s' ⟨h', tk', mc, ys, led, i, rfl, hst', hn', ha', F', N', hled, hR, hi, rfl⟩
  have hlw : ∀ p ∈ led ++ news, p.1 ∉ wr := fun p hp => by
    rcases List.mem_append.mp hp with hp | hp
    · exact fun q => (hled p hp).2.2 (W.sub _ q)
    · exact hnw p hp
  by_cases hlt : i < n
  · refine W.item i _ _ _ hlt hst' fun v h2 tk2 hP hst2 k2 => ?_
    obtain ⟨F2, N2⟩ := frN_up F' N' hLw hwr hlw k2
    have hn2 : h2.Ns C mc := hn'.at' fun o e => k2 _ o hCw e
    have ha2 : h2.PlainList D ys.toArray := ha'.at fun o e => k2 _ o hDw e
    have e0 : letOwnedTupleGo (.Name x px) (.ref I) v = pure () := rfl
    refine wpAny_of_eq e0 ?_
    refine wpAny_assign_Name (wpAny_storeName_local (env := compEnvC scope cl C env) (lookup_relabel_local hx) hn2 (fun h3 hn3 hs3 => ?_) (by simp [compEnvC, relabel, hkind]))
    have hs3 : Heap.SameBut C h2 h3 := hs3
    have F3 : Fr h₀ L h3 m := ⟨F2.ns.sameBut hs3 (Ne.symm hCL), fun b o e => hs3.extBut b o (fun q => by rw [q, hC0] at e; cases e) (F2.keep b o e), F2.above⟩
    have N3 : News h₀ L h3 (led ++ news) := fun p hp => ⟨hs3.extBut _ _ (by
      rcases List.mem_append.mp hp with hp | hp
      · exact (hled p hp).2.1
      · exact hCn p hp) (N2 p hp).1, (N2 p hp).2⟩
    have hst3 : St (i + 1) h3 := W.frame _ _ _ hst2 fun b hb o e => hs3.extBut b o (fun q => hCf (q ▸ hb)) e
    have ha3 : h3.PlainList D ys.toArray := ha2.extBut hs3.extBut hDC
    have al3 := alive _ _ hst3
    refine wpAny_mono (turn E' i v C h3 _ _ ys led hlt hP hR hC hn3 (by first | exact Nat.le_of_ble_eq_true rfl | (repeat (first | exact .head _ | apply List.Mem.tail)); done | simp) F3 N3) (fun ok s₃ h₃ => ?_) fun _ _ e => e
    obtain ⟨⟨h4, tk4, rfl, k4⟩, h₃⟩ := h₃
    replace k4 : Kp h3 h4 := k4
    cases ok with
    | false =>
      simp only [Bool.false_eq_true, if_false] at h₃ ⊢
      obtain ⟨F4, N4⟩ := Fup F3 N3 k4
      exact ⟨n + 1 - (i + 1), by lia, h4, tk4, _, ys, led, i + 1, rfl, W.frame _ _ _ hst3 fun b _ o e => k4 b o e, hn3.keeps k4, ha3.at fun o e => k4 _ o e, F4, N4, hled, h₃, hlt, rfl⟩
    | true =>
      simp only [if_true] at h₃ ⊢
      refine wpAny_mono h₃ (fun v s₄ h₄ => ?_) fun _ _ e => e
      obtain ⟨⟨h5, tk5, rfl, k5⟩, new, hnew, hR'⟩ := h₄
      replace k5 : Kp h4 h5 := k5
      have k35 : Kp h3 h5 := fun b o e => k5 _ _ (k4 _ _ e)
      obtain ⟨F5, N5⟩ := Fup F3 N3 k35
      obtain ⟨N5', _⟩ := News.gotMany F3 N3 N5 hnew
      rw [← List.append_assoc] at N5'
      have hfr : ∀ p ∈ new, ∀ b o, h3.get? b = some o → p.1 ≠ b := fun p hp b o e q => by
        have := (hnew p hp).1
        replace this : h3.get? p.1 = none := this
        rw [q, e] at this
        cases this
      obtain ⟨kD, hDo⟩ := ha3
      have hDl : ∀ p ∈ new ++ led, p.1 ≠ D ∧ p.1 ≠ C ∧ p.1 ∉ fp := fun p hp => by
        rcases List.mem_append.mp hp with hp | hp
        · refine ⟨hfr p hp _ _ hDo, ?_, fun q => ?_⟩
          · obtain ⟨o, es, ep, e, _⟩ := hn3
            exact hfr p hp _ _ e
          · obtain ⟨o, e⟩ := al3 _ q
            exact hfr p hp _ _ e rfl
        · exact hled p hp
      have ha5 : h5.PlainList D ys.toArray := ⟨kD, k35 _ _ hDo⟩
      refine wpAny_list_append_plain ha5 (fun h6 ha6 hs6 => ?_) (by simpa using hlen i ys led hR hi)
      refine ⟨n + 1 - (i + 1), by lia, h6, tk5, _, ys ++ [v], new ++ led, i + 1, rfl, W.frame _ _ _ hst3 fun b hb o e => hs6.extBut b o (fun q => hDf (q ▸ hb)) (k35 b o e), (hn3.keeps k35).sameBut hs6 (Ne.symm hDC), by simpa using ha6,
        ⟨F5.ns.sameBut hs6 (Ne.symm hDL), fun b o e => hs6.extBut b o (fun q => by rw [q, hD0] at e; cases e) (F5.keep b o e), F5.above⟩, fun p hp => ⟨hs6.extBut _ _ ?_ (N5' p hp).1, (N5' p hp).2⟩, hDl, hR', hlt, rfl⟩
      rcases List.mem_append.mp hp with hp | hp
      · exact (hDl p hp).1
      · exact hDn p hp
  · have hin : i = n := by lia
    refine W.done _ _ _ (hin ▸ hst') fun h2 tk2 k2 => ?_
    obtain ⟨F2, N2⟩ := frN_up F' N' hLw hwr hlw k2
    obtain ⟨kk, hDo⟩ := (ha'.at fun o e => k2 _ o hDw e : h2.PlainList D ys.toArray)
    refine hRR h2 tk2 mc ((D, lstO ys.toArray kk) :: (led ++ news)) (hn'.at' fun o e => k2 _ o hCw e) F2 ?_ ?_ ⟨ys, kk, led, hin ▸ hR, rfl⟩
    · intro p hp
      rcases List.mem_cons.mp hp with rfl | hp
      · exact ⟨hDo, hDL, hD0⟩
      · exact N2 p hp
    · intro p hp
      rcases List.mem_cons.mp hp with rfl | hp
      · exact hDC
      · rcases List.mem_append.mp hp with hp | hp
        · exact (hled p hp).2.1
        · exact hCn p hp
end
end Mine
namespace Mine
theorem unhold {M : Model} {A : Around} {α : Type} {vs : List Value} {m : Sem α} {Q : α → Shared → Prop} {E : Value → Shared → Prop} {s : Shared} (h : wpAny M A (holding vs m) Q E s) : wpAny M A m Q E s := fun Γ p hΓ => by
  have := h Γ p hΓ
  rwa [Sem.wp_holding] at this
section
variable {A : Around} {s : Shared}
noncomputable abbrev tup3 (a b : Int) (c : Str) (t u v : Tok) : Array Value := #[.int a t, .int b u, .str c v]
theorem mis_teq {x T dx : Addr} {a b : Int} {c : Str} {t u v t' u' v' : Tok} :
    Meets (Builtin.«tuple.__eq__» ⟨[.ref x, .ref T], []⟩) (fun _ R s => s.heap.get? x = some (misO dx (tup3 a b c t u v)) ∧ s.heap.get? T = some { cls := .type "tuple", data := .seq (tup3 a b c t' u' v') } ∧ R (.ok (.ret (.bool true))) s) :=
  Meets.of_wp fun prog w A R s hs => by
    obtain ⟨hp, g, d, tk, os⟩ := s
    obtain ⟨hx, ht, h⟩ := hs
    have f2 := PySem.AutoSeq1.sub_tuple_tuple
    have e1 : PySem.SeqAt.EqAt A.in1 ⟨hp, g, d, tk, os⟩ (.int a t) (.int a t') true := by simpa using PySem.SeqAt.EqAt.int_int (A := A.in1) (s := ⟨hp, g, d, tk, os⟩) a t a t'
    have e2 : PySem.SeqAt.EqAt A.in1 ⟨hp, g, d, tk, os⟩ (.int b u) (.int b u') true := by simpa using PySem.SeqAt.EqAt.int_int (A := A.in1) (s := ⟨hp, g, d, tk, os⟩) b u b u'
    have e3 : PySem.SeqAt.EqAt A.in1 ⟨hp, g, d, tk, os⟩ (.str c v) (.str c v') true := by simpa using PySem.SeqAt.EqAt.str_str (A := A.in1) (s := ⟨hp, g, d, tk, os⟩) c v c v'
    wp_walk using PySem.AutoSeq1.wpAny_loadPart' hx, PySem.AutoSeq1.wpAny_loadPart' ht
    refine unhold (vs := [.int a t, .int a t']) (show wpAny _ _ (eqBool (.int a t) (.int a t')) _ _ _ from e1 prog w _ _ ?_)
    wp_walk
    refine unhold (vs := [.int b u, .int b u']) (show wpAny _ _ (eqBool (.int b u) (.int b u')) _ _ _ from e2 prog w _ _ ?_)
    wp_walk
    refine unhold (vs := [.str c v, .str c v']) (show wpAny _ _ (eqBool (.str c v) (.str c v')) _ _ _ from e3 prog w _ _ ?_)
    wp_walk
    exact ⟨_, rfl, h⟩
theorem bindE {M : Model} {E : Value → Shared → Prop} {h : Heap} {g : Array GenState} {d : Drawn} {k : Nat} {o : OsState} {f v : Value} {r : Value × List Value} {b : Bool} {kk : Value → Sem (Option (Value × List Value))} {Q : Option (Value × List Value) → Shared → Prop} (b1 : Looks M h (bindSpecial f v) r) (q : Q (some r) ⟨h, g, d, k, o⟩) :
    wpAny M A (if b = true then (do let l ← bindSpecial f v; pure (some l)) else (do let l ← bindSpecial f v; pure (some l) : Sem (Option (Value × List Value))).tryCatch kk) Q E ⟨h, g, d, k, o⟩ := by
  cases b with
  | true => exact wpAny_bind (b1.at (wpAny_pure q))
  | false => exact wpAny_tryCatch (wpAny_bind (b1.at (wpAny_pure q)))
theorem te_kind : builtinKind "tuple.__eq__" = some .slot := by decide +kernel
theorem te_split : splitId "tuple.__eq__" = some ("tuple", "__eq__") := by decide +kernel
theorem te_plain : plainId "tuple.__eq__" = true := by decide +kernel
theorem te_sub : isSubtype (.type "tuple") (.ref 197) = pure false := by rw [isSubtype_type]; kernel_rfl
theorem misEq {P : Params} {x T dx : Addr} {a b : Int} {c : Str} {t u v t' u' v' : Tok} (X : (misK P).In s.heap) (hx : s.heap.get? x = some (misO dx (tup3 a b c t u v))) (ht : s.heap.get? T = some { cls := .type "tuple", data := .seq (tup3 a b c t' u' v') }) (hu : A.units < cLine) :
    PySem.SeqAt.EqAt A s (.ref x) (.ref T) true := by
  have hne : x ≠ T := by
    rintro rfl
    rw [ht] at hx
    cases hx
  refine PySem.SeqAt.EqAt.of_refs hne fun prog w E Q hq => ?_
  obtain ⟨h, g, d, k, o⟩ := s
  dsimp only at X hx ht
  have t1 : Looks (model prog w) h (typeOf (.ref x)) (.ref 197) := (Looks.ld hx).andThen .now
  have t2 : Looks (model prog w) h (typeOf (.ref T)) (.type "tuple") := (Looks.ld ht).andThen .now
  have t3 := looks_subIn (M := model prog w) X (mk_tup P)
  have t4 := looks_findIn (M := model prog w) X (mk_eq P)
  have t5 := Looks.of_pure (M := model prog w) (h := h) te_sub
  have t6 : Looks (model prog w) h (isInstance (.ref x) (.type "tuple")) true := t1.andThen t3
  have b1 := Looks.of_pure (M := model prog w) (h := h) (PySem.F.slot_tuple_eq.bind (.ref x))
  unfold richCompare
  refine wpAny_holding (wpAny_bind (wpAny_cRoomFor_or (.inr hu) ?_))
  unfold tryCompare callSpecialIfBound? bindSpecialIfBound?
  repeat (first | with_reducible refine wpAny_call ?_ | lk)
  refine bindE b1 ?_
  repeat (first | with_reducible refine wpAny_call ?_ | lk)
  refine codeAny_call_builtin te_plain PySem.F.entry_tuple_eq (check_slot te_kind te_split t6 (PySem.F.args_tuple_eq_2 _ _) ?_)
  refine mis_teq prog w A (wants _ E) ⟨h, g, d, k, o⟩ ⟨hx, ht, ?_⟩
  show wpAny _ _ _ _ _ _
  repeat lk
  exact hq
end
end Mine
namespace Mine
noncomputable abbrev tupO (xs : Array Value) : Obj := { cls := .type "tuple", data := .seq xs }
/-- tuples of three, in a ledger -/
inductive TupIn (led : List (Addr × Obj)) : List Value → List (Nat × Nat × Str) → Prop
  | nil : TupIn led [] []
  | cons {x : Addr} {a b : Nat} {s : Str} {t u v : Tok} {ms : List Value} {ds : List (Nat × Nat × Str)} : (x, tupO (tup3 a b s t u v)) ∈ led → TupIn led ms ds → TupIn led (.ref x :: ms) ((a, b, s) :: ds)
theorem TupIn.mono {led led' : List (Addr × Obj)} (h : ∀ p ∈ led, p ∈ led') : ∀ {ms : List Value} {ds : List (Nat × Nat × Str)}, TupIn led ms ds → TupIn led' ms ds := by
  intro ms ds x
  induction x with
  | nil => exact .nil
  | cons m _ ih => exact .cons (h _ m) ih
theorem TupIn.snoc {led : List (Addr × Obj)} {x : Addr} {a b : Nat} {s : Str} {t u v : Tok} (hm : (x, tupO (tup3 a b s t u v)) ∈ led) : ∀ {ms : List Value} {ds : List (Nat × Nat × Str)}, TupIn led ms ds → TupIn led (ms ++ [.ref x]) (ds ++ [(a, b, s)]) := by
  intro ms ds x
  induction x with
  | nil => exact .cons hm .nil
  | cons m _ ih => exact .cons m ih
theorem TupIn.len {led : List (Addr × Obj)} : ∀ {ms : List Value} {ds : List (Nat × Nat × Str)}, TupIn led ms ds → ms.length = ds.length := by
  intro ms ds x
  induction x with
  | nil => rfl
  | cons m _ ih => rw [List.length_cons, List.length_cons, ih]
theorem mis_tups {P : Params} {A : Around} {s : Shared} (X : (misK P).In s.heap) (hu : A.units < cLine) {led led' : List (Addr × Obj)} (h1 : ∀ p ∈ led, s.heap.get? p.1 = some p.2) (h2 : ∀ p ∈ led', s.heap.get? p.1 = some p.2) :
    ∀ {ms ts : List Value} {ds : List (Nat × Nat × Str)}, MisIn led ms ds → TupIn led' ts ds → ∀ j (a1 : j < ms.length) (a2 : j < ts.length), PySem.SeqAt.EqAt A s ms[j] ts[j] true := by
  intro ms ts ds x y
  induction x generalizing ts with
  | nil => intro j a1; exact absurd a1 (Nat.not_lt_zero _)
  | cons m1 _ ih =>
    cases y with
    | cons m2 r2 =>
      intro j a1 a2
      cases j with
      | zero => exact misEq X (h1 _ m1) (h2 _ m2) hu
      | succ j => exact ih r2 j (Nat.lt_of_succ_lt_succ a1) (Nat.lt_of_succ_lt_succ a2)
noncomputable def dupOf (pile : List Str) (x : Str) : Option (Nat × Nat × Str) := if 1 < pile.count x then some (pile.count x, 1, x) else none
section
variable {w : World} {A : Around} {E : Value → Shared → Prop} {h : Heap} {g : Array GenState} {d : Drawn} {k : Nat} {o : OsState} {L fa sa : Addr} {cd : Value} {h₀ : Heap} {ad : Nat → Addr} {mg mb : Str → Option Value} {news : List (Addr × Obj)}
  {P : Flow → Shared → Prop} {dr ce si pa ta fi su : Option Value} {m : Str → Option Value}
theorem newTupF {vs : List Value} {Q : Value → Shared → Prop} (q : ∀ D h', Kp h h' → h.get? D = none → h'.get? D = some (tupO vs.toArray) → Q (.ref D) ⟨h', g, d, k, o⟩) (hsz : vs.length ≤ sizeLine := by size_fits) : wpAny (model prg w) A (newTuple vs) Q E ⟨h, g, d, k, o⟩ :=
  wpAny_newTuple (q _ _ (fun _ _ e => Heap.get?_push_of_some _ e) (Heap.get?_none_of_le (Nat.le_refl _)) (Heap.get?_push_size _ rfl)) hsz
set_option maxHeartbeats 4000000 in
theorem law10 (hh : A.handled = none) (hd : A.depth + 2 < recursionLimit) (hu : A.units + 16 < cLine) (l : Lib ad mg mb h₀) (hmm : mg "_Mismatch" = some (.ref 197)) (X : (misK w.params).In h₀) {pile taken : List Str} {W Pl T Fs : Addr} {wsP wsT wsF : List Value} {kP kT kF : Nat} {o3 o4 obW : Obj} {kvs : List (Str × Value)}
    (d3 : o3.data = .cell (some (.ref W))) (d4 : o4.data = .cell (some (.ref Pl))) (hsP : StrsAre wsP pile) (hsT : StrsAre wsT taken) (hsF : StrsAre wsF (firstN pile pile.length)) (hbP : pile.length ≤ 10000) (hbT : taken.length ≤ 10000) (hsub : ∀ t ∈ taken, t ∈ pile)
    (hW : obW.IsDictOf (strKind prg w) kvs) (hwv : ∀ x ∈ firstN pile pile.length, ∃ t, valueAt kvs x = some (.int (pile.count x : Nat) t)) (hdif : difs pile taken = (firstN pile pile.length).filterMap (dupOf pile))
    (F : Fr h₀ L h (locs (nms (dScope 27)) (LV sa dr ce si pa (some (.ref T)) (some (.ref Fs)) su))) (N : News h₀ L h news) (m3 : (L + 3, o3) ∈ news) (m4 : (L + 4, o4) ∈ news) (mW : (W, obW) ∈ news) (mP : (Pl, lstO wsP.toArray kP) ∈ news) (mT : (T, lstO wsT.toArray kT) ∈ news) (mF : (Fs, lstO wsF.toArray kF) ∈ news)
    (q : ∀ h' k', Fr h₀ L h' (locs (nms (dScope 27)) (LV sa dr ce si pa (some (.ref T)) (some (.ref Fs)) su)) → News h₀ L h' news → P .next ⟨h', g, d, k', o⟩) :
    wpAny (model prg w) A (exec (nthS (dBody 27) 10) (envL L fa cd)) P E ⟨h, g, d, k, o⟩ := by
  have ok := sc27
  have hFl := hsF.len_eq
  have hfl := firstN_le pile pile.length
  refine wpAny_If (wpAny_isTrue_Compare1 ?_)
  refine callF (kf := 16) l (by decide) (fun Q' q => ldg 22 16 ok l F rfl (by decide) rfl q) (arg (ldCell ok (by decide +kernel) rfl ⟨o4, N.get m4, d4⟩ (arg (ldl 9 ok F rfl rfl (args_nil ⟨F.keep, ?_⟩)))))
  refine useS (cd_c h pile taken Pl T wsP wsT hsP hsT hbP hbT hsub hmm) hh hd hu l F N ⟨rfl, ⟨_, N.get mP, rfl, _, rfl⟩, ⟨_, N.get mT, rfl, _, rfl⟩, X.keeps F.keep⟩ (fun v h2 k2 F2 N2 kp2 hv => ?_)
  obtain ⟨D, ms, kD, led, rfl, hled, hD, hms⟩ := hv
  obtain ⟨N3, _⟩ := News.gotMany F N N2 hled
  rw [hdif] at hms
  generalize hfs : firstN pile pile.length = fs at *
  refine evalCompS (cl := [("ways", L + 3)]) F2 (by rfl) (by decide) rfl (by decide) (ldl 10 ok F2 rfl rfl ?_)
  refine iterLS hh F2 N3 (vs := wsF) ⟨_, N3.get (List.mem_append_right _ mF), rfl, _, rfl⟩ (fun It h3 W1 hst hLf hwr hnw hfp F3 N4 kp3 => ?_)
  refine ⟨_, compAtH (fun i ys led2 => ys.length ≤ i ∧ TupIn led2 ys ((fs.take i).filterMap (dupOf pile))) W1 (fun i h st b hb => ?_) (by decide) rfl hst hfp hLf hwr hnw F3 N4 ⟨Nat.le_refl _, by simpa using TupIn.nil⟩ (fun i ys led h1 h2 => by rw [sizeLine]; lia) ?_, F3.ns.lt, ?_⟩
  · obtain ⟨⟨q1, e1, _⟩, ⟨q2, e2, _⟩⟩ := st
    rcases List.mem_cons.mp hb with rfl | hb
    · exact ⟨_, e1⟩
    · rw [List.mem_singleton.mp hb]; exact ⟨_, e2⟩
  · rintro E' i v C h6 k6 mc ys led2 hi hv ⟨hy1, hy2⟩ hC hnC hmc F6 N6
    have hix : i < fs.length := by lia
    obtain ⟨tq, hq⟩ := hsF.at (j := i) (List.getElem?_eq_getElem hix)
    obtain rfl : v = .str fs[i] tq := by
      have hv' : wsF[i]? = some v := hv
      rw [hq] at hv'; exact (Option.some.inj hv').symm
    obtain ⟨tw, hw⟩ := hwv _ (List.getElem_mem hix)
    have htk : (fs.take (i + 1)).filterMap (dupOf pile) = (fs.take i).filterMap (dupOf pile) ++ (if 1 < pile.count fs[i] then [(pile.count fs[i], 1, fs[i])] else []) := by
      rw [List.take_succ_eq_append_getElem hix, List.filterMap_append]
      congr 1
      unfold dupOf
      by_cases h1 : 1 < pile.count fs[i] <;> simp [h1]
    have mW6 : h6.get? W = some obW := N6.get (List.mem_append_right _ (List.mem_append_right _ mW))
    have c3 : h6.IsCell (L + 3) (some (.ref W)) := ⟨o3, N6.get (List.mem_append_right _ (List.mem_append_right _ m3)), d3⟩
    show wpAny _ _ _ _ _ _
    refine wpAny_tests_one (wpAny_isTrue_Compare1 (Subscript_ (ldCc rfl (by decide) ok.fk (by decide +kernel) rfl c3 (ldC rfl (by decide) hnC hmc ?_))))
    refine itemD mW6 hW hw (fun k8 => cInt fun t9 k9 => gt_int (wpAny_truthy_bool ⟨Keeps.mk' fun _ _ e => e, ?_⟩))
    by_cases h1 : 1 < pile.count fs[i]
    · rw [decide_eq_true (by lia)]
      refine ite_tt (Tuple_ (arg (Subscript_ (ldCc rfl (by decide) ok.fk (by decide +kernel) rfl c3 (ldC rfl (by decide) hnC hmc ?_)))))
      refine itemD mW6 hW hw (fun k10 => arg (cInt fun t10 k11 => arg (ldC rfl (by decide) hnC hmc (args_nil ?_))))
      refine newTupF (fun T2 h7 kp7 hT20 hT2 => ⟨Keeps.mk' kp7, [(T2, tupO (tup3 (pile.count fs[i] : Nat) (1 : Nat) fs[i] tw t10 tq))], fun p hp => ?_, by simp; lia, ?_⟩)
      · rw [List.mem_singleton.mp hp]
        exact ⟨hT20, hT2⟩
      · rw [htk, if_pos h1]
        exact TupIn.snoc List.mem_cons_self (hy2.mono fun p hp => List.mem_cons_of_mem _ hp)
    · rw [decide_eq_false (by lia)]
      refine ite_ff ⟨by lia, ?_⟩
      rw [htk, if_neg h1, List.append_nil]
      exact hy2
  · rintro D2 h6 k6 news6 F6 N6 ⟨ys, k7, led2, ⟨hy1, hy2⟩, rfl⟩
    rw [hFl, List.take_length] at hy2
    have hlen : ms.length = ys.length := by rw [hms.len, hy2.len]
    have := PySem.SeqAt.RcNeAt.lists (A := A) (s := ⟨h6, g, d, k6, o⟩) (items := ms.toArray) (items2 := ys.toArray) (e := fun _ => true) (l := D) (b := D2) ⟨_, N6.get (List.mem_cons_of_mem _ (List.mem_append_right _ (List.mem_append_left _ hD))), rfl, _, rfl⟩ ⟨_, N6.get List.mem_cons_self, rfl, _, rfl⟩ (by simpa using hlen) (by lia) (fun j a1 a2 => by
      rw [List.size_toArray] at a1 a2
      rw [List.getElem_toArray, List.getElem_toArray]
      exact mis_tups (X.keeps F6.keep) (by show A.units + 1 < _; lia) (fun p hp => N6.get (List.mem_cons_of_mem _ (List.mem_append_right _ (List.mem_append_left _ hp)))) (fun p hp => N6.get (List.mem_cons_of_mem _ (List.mem_append_left _ hp))) hms hy2 j a1 a2)
    refine this prg w E _ ?_
    rw [show (List.range ms.toArray.size).all (fun _ => true) = true by simp]
    refine wpAny_truthy_bool (ite_ff (wpAny_execs_nil ?_))
    exact q _ _ F6 (News.sub N6 fun p hp => List.mem_cons_of_mem _ (List.mem_append_right _ (List.mem_append_right _ hp)))
end
end Mine
namespace Mine
noncomputable def surN (pile : List Str) : Nat → List Str
  | 0 => []
  | i + 1 => surN pile i ++ (match pile[pile.length - 1 - i]? with | some x => if x ∈ pile.drop (pile.length - i) then [x] else [] | none => [])
theorem pick_from {vs : List Value} {n : Nat} (hn : n ≤ vs.length) : slicePick vs.toArray (some (n : Int)) none none = (vs.drop n).toArray := by
  rw [slicePick_plain]
  have e1 := clipAt_nat vs.length n
  simp only [List.size_toArray, Option.elim_some, Option.elim_none, e1, Nat.min_eq_left hn]
  congr 1
  exact List.take_of_length_le (by rw [List.length_drop]; exact Nat.le_refl _)
section
variable {w : World} {A : Around} {E : Value → Shared → Prop} {h : Heap} {g : Array GenState} {d : Drawn} {k : Nat} {o : OsState} {L fa sa : Addr} {cd : Value} {h₀ : Heap} {ad : Nat → Addr} {mg mb : Str → Option Value} {news : List (Addr × Obj)}
  {P : Flow → Shared → Prop} {dr ce si pa ta fi su : Option Value} {m : Str → Option Value}
set_option maxHeartbeats 2000000 in
theorem law11 (hh : A.handled = none) (l : Lib ad mg mb h₀) {pile : List Str} {Pl : Addr} {wsP : List Value} {kP : Nat} {o4 : Obj} (d4 : o4.data = .cell (some (.ref Pl))) (hsP : StrsAre wsP pile) (hbP : pile.length ≤ 10000)
    (F : Fr h₀ L h (locs (nms (dScope 27)) (LV sa dr ce si pa ta fi su))) (N : News h₀ L h news) (m4 : (L + 4, o4) ∈ news) (mP : (Pl, lstO wsP.toArray kP) ∈ news)
    (q : ∀ h' k' S wsS kS, Fr h₀ L h' (locs (nms (dScope 27)) (LV sa dr ce si pa ta fi (some (.ref S)))) → News h₀ L h' ((S, lstO wsS.toArray kS) :: news) → StrsAre wsS (surN pile pile.length) → (∀ p ∈ news, p.1 ≠ S) → P .next ⟨h', g, d, k', o⟩) :
    wpAny (model prg w) A (exec (nthS (dBody 27) 11) (envL L fa cd)) P E ⟨h, g, d, k, o⟩ := by
  have ok := sc27
  have hPl := hsP.len_eq
  refine assignCompS (cl' := [("pile", L + 4)]) (h₀ := h₀) (vals := LV sa dr ce si pa ta fi su) 11 (fun D => LV sa dr ce si pa ta fi (some (.ref D))) ok rfl (by first | exact Nat.le_of_ble_eq_true rfl | (repeat (first | exact .head _ | apply List.Mem.tail)); done | simp) (fun D => rfl) (by rfl) (by rfl) (by decide) rfl (by decide) ?_
  refine callT (fun Q' q => ldb 23 ok l F rfl (by decide) boot_range q) (arg (wpAny_BinOp (callB (fun Q' q => ldb 12 ok l F rfl (by decide) boot_len q) (arg (ldCell ok (by decide +kernel) rfl ⟨o4, N.get m4, d4⟩ (args_nil ?_))))))
  refine lenLS (vs := wsP) ⟨_, N.get mP, rfl, _, rfl⟩ (by lia) (fun t1 k1 => cInt fun t2 k2 => subI fun t3 k3 => ?_)
  refine arg (UnaryOp_ (cInt fun t7 k7 => minusI fun t8 k8 => arg (UnaryOp_ (cInt fun t9 k9 => minusI fun t10 k10 => args_nil ?_))))
  refine rangeS3 F N (by decide) (PyProof.noPylong_of_log2 (by decide +kernel)) (fun r h2 k4 _ _ _ hr F2 N2 kp2 => ?_)
  refine iterRange (n := pile.length) hh F2 N2 hr (small_down (by lia) (by lia) (by lia) (by lia)) (by rw [rangeSize_downNat]; lia) (fun I h3 W hst hLf hwr hnw hfp F3 N3 kp3 => ?_)
  refine ⟨h3, _, _, rfl, compAtW (fun i ys => ys.length ≤ i ∧ StrsAre ys (surN pile i)) W (by decide) rfl hst hfp hLf hwr hnw F3 N3 ⟨Nat.le_refl _, .nil⟩ (fun i ys h1 h2 => by rw [sizeLine]; lia) ?_, F3.ns.lt, ?_⟩
  · rintro E' i v C h6 k6 mc ys hi ⟨tv, rfl⟩ ⟨hy1, hy2⟩ hC hnC hmc F6 N6
    obtain ⟨p, hp⟩ : ∃ p, p = pile.length - 1 - i := ⟨_, rfl⟩
    have hpe : ((wsP.length : Int) - 1 + (i : Int) * -1) = (p : Int) := by lia
    rw [hpe] at hmc
    have hpl : p < pile.length := by lia
    obtain ⟨tq, hq⟩ := hsP.at (j := p) (List.getElem?_eq_getElem hpl)
    have hpd : pile.length - i = p + 1 := by lia
    have hsur : surN pile (i + 1) = surN pile i ++ (if pile[p] ∈ pile.drop (p + 1) then [pile[p]] else []) := by
      rw [surN, ← hp, List.getElem?_eq_getElem hpl, hpd]
    have hl6 : h6.IsList Pl wsP.toArray := ⟨_, N6.get mP, rfl, _, rfl⟩
    have c4 : h6.IsCell (L + 4) (some (.ref Pl)) := ⟨o4, N6.get m4, d4⟩
    show wpAny _ _ _ _ _ _
    refine wpAny_tests_one (wpAny_isTrue_Compare1 (Subscript_ (ldCc rfl (by decide) ok.fk (by decide +kernel) rfl c4 (ldC rfl (by decide) hnC hmc ?_))))
    refine itemS hl6 (by lia) hq ?_
    refine sliceSub (ldCc rfl (by decide) ok.fk (by decide +kernel) rfl c4 (evalPart_some_step (wpAny_BinOp (ldC rfl (by decide) hnC hmc (cInt fun t11 k11 => addI fun t12 k12 => evalPart_none_step ?_)))))
    rw [show ((p : Int) + 1) = ((p + 1 : Nat) : Int) from rfl]
    refine sliceLS F6 N6 (items := wsP.toArray) hl6 (.int ((p + 1 : Nat) : Int) _) .none (by simp; lia) (fun X h7 kp7 F7 N7 hX => ?_)
    rw [pick_from (by lia)] at N7
    have hst := hsP.drop' (p + 1)
    refine PySem.SeqAt.in_listAt (eStr pile[p]) (items := (wsP.drop (p + 1)).toArray) ⟨_, N7.get List.mem_cons_self, rfl, _, rfl⟩ (eq_strs hst) (wpAny_truthy_bool ⟨Keeps.mk' kp7, ?_⟩)
    rw [any_strs hst]
    by_cases hm : pile[p] ∈ pile.drop (p + 1)
    · rw [decide_eq_true hm]
      refine ite_tt (Subscript_ (ldCc rfl (by decide) ok.fk (by decide +kernel) rfl ⟨o4, N7.get (List.mem_cons_of_mem _ m4), d4⟩ (ldC rfl (by decide) (hnC.keeps kp7) hmc ?_)))
      refine itemS (hl6.at fun o e => kp7 _ o e) (by lia) hq ⟨Keeps.mk' fun _ _ e => e, by simp; lia, ?_⟩
      rw [hsur, if_pos hm]
      exact hy2.append' (.cons _ _ .nil)
    · rw [decide_eq_false hm]
      refine ite_ff ⟨by lia, ?_⟩
      rw [hsur, if_neg hm, List.append_nil]
      exact hy2
  · rintro D h6 k6 news6 F6 N6 ⟨ys, k7, ⟨hy1, hy2⟩, rfl, hD⟩
    exact q h6 k6 D ys k7 F6 N6 hy2 hD
set_option maxHeartbeats 4000000 in
theorem law12 (hh : A.handled = none) (hfr : A.frames = some [envL L fa cd]) (hd : A.depth + 2 < recursionLimit) (hu : A.units + 16 < cLine) (l : Lib ad mg mb h₀) {pile taken : List Str} {Pl T S : Addr} {wsP wsT wsS : List Value} {kP kT kS : Nat} {o4 : Obj} (d4 : o4.data = .cell (some (.ref Pl)))
    (hsP : StrsAre wsP pile) (hsT : StrsAre wsT taken) (hsS : StrsAre wsS (surN pile pile.length)) (hbP : pile.length ≤ 10000) (hbT : taken.length ≤ 10000) (hS1 : S ≠ Pl) (hS2 : S ≠ T) (hPT : Pl ≠ T) (hgo : uldGo pile.reverse taken [] = (surN pile pile.length, []))
    (F : Fr h₀ L h (locs (nms (dScope 27)) (LV sa dr ce si pa (some (.ref T)) fi (some (.ref S))))) (N : News h₀ L h news) (m4 : (L + 4, o4) ∈ news) (mP : (Pl, lstO wsP.toArray kP) ∈ news) (mT : (T, lstO wsT.toArray kT) ∈ news) (mS : (S, lstO wsS.toArray kS) ∈ news)
    (q : ∀ h' k', Kp h₀ h' → P (.ret (.bool true)) ⟨h', g, d, k', o⟩) :
    wpAny (model prg w) A (exec (nthS (dBody 27) 12) (envL L fa cd)) P E ⟨h, g, d, k, o⟩ := by
  have ok := sc27
  obtain ⟨oc, es, ep, hLc, hdict, hrest⟩ := id F.ns
  have hL0 : h₀.get? L = none := by
    cases e : h₀.get? L with
    | none => rfl
    | some ob => exact absurd (Heap.lt_size e) (Nat.not_lt.mpr F.above)
  have nP := N.fresh mP
  have nT := N.fresh mT
  refine wpAny_Return_some (wpAny_Compare1 ?_)
  refine callF (kf := 13) l (by decide) (fun Q' q => ldg 24 13 ok l F rfl (by decide) rfl q) (arg (ldCell ok (by decide +kernel) rfl ⟨o4, N.get m4, d4⟩ (arg (ldl 9 ok F rfl rfl (args_nil ⟨F.keep, ?_⟩)))))
  refine wpAny_call (uld_c hh hfr ⟨by show (dScope 27).kind ≠ _; rw [ok.fk]; decide, rfl, ⟨es, ep, hdict⟩, trivial⟩ hd l F.keep nP nT hL0 (N.get mP) (N.get mT) hLc hPT hsP hsT hbP hbT (fun R M wsM km wsT' kT' h2 k2 sl keep hLc2 hR0 hM0 hRM hR hM hsM hT' hsT' => ?_))
  rw [hgo] at hsM hsT'
  dsimp only at hsM hsT'
  have F2 : Fr h₀ L h2 (locs (nms (dScope 27)) (LV sa dr ce si pa (some (.ref T)) fi (some (.ref S)))) := ⟨⟨_, es, ep, hLc2, hdict, hrest⟩, fun b ob e => keep b ob (fun q => by rw [q, nP] at e; cases e) (fun q => by rw [q, nT] at e; cases e) (fun q => by rw [q, hL0] at e; cases e) (F.keep b ob e), F.above⟩
  have keepS : h2.get? S = some (lstO wsS.toArray kS) := keep S _ hS1 hS2 (N _ mS).2.1 (N.get mS)
  have hMS : M ≠ S := fun e => by rw [e, N.get mS] at hM0; cases hM0
  have hML : M ≠ L := fun e => by rw [e, hLc] at hM0; cases hM0
  have hM00 : h₀.get? M = none := by
    cases e : h₀.get? M with
    | none => rfl
    | some ob => have := F.keep _ _ e; rw [hM0] at this; cases this
  have N2 : News h₀ L h2 [(T, lstO wsT'.toArray kT')] := fun p hp => by
    rw [List.mem_singleton.mp hp]
    exact ⟨hT', (N _ mT).2.1, nT⟩
  refine Tuple_ (arg (ldl 11 ok F2 rfl rfl (arg (List_ (args_nil ?_)))))
  refine newListS F2 N2 (fun Xa h3 kp3 F3 N3 hX => args_nil (newTupF (fun Tp h4 kp4 hTp0 hTp => ?_)))
  have hTX : T ≠ Xa := hX (T, lstO wsT'.toArray kT') List.mem_cons_self
  have kp : Kp h2 h4 := fun b ob e => kp4 _ _ (kp3 _ _ e)
  cases hsT'
  have hl0 := hsM.len_eq
  have hl1 := hsS.len_eq
  refine PySem.SeqAt.eq_tupleAt (s := ⟨h4, g, d, k2, o⟩) (e := fun _ => true) (items := #[.ref M, .ref T]) (items2 := #[.ref S, .ref Xa]) ⟨_, kp _ _ hR, rfl, _, rfl⟩ ⟨_, hTp, rfl, _, rfl⟩ (by lia) (fun j h1 h2' => ?_) ?_
  · have hj : j = 0 ∨ j = 1 := by simp at h1; lia
    rcases hj with rfl | rfl
    · refine PySem.SeqAt.EqAt.of_refs hMS ?_
      have := PySem.SeqAt.RcAt.lists (A := A.in1) (s := ⟨h4, g, d, k2, o⟩) (e := fun _ => true) (items := wsM.toArray) (items2 := wsS.toArray) (l := M) (b := S) ⟨_, kp _ _ hM, rfl, _, rfl⟩ ⟨_, kp _ _ keepS, rfl, _, rfl⟩ (by simp; lia) (by show A.units + 1 < _; lia) (fun j a1 a2 => by
        rw [List.size_toArray] at a1 a2
        obtain ⟨t1, e1⟩ := hsM.at (j := j) (List.getElem?_eq_getElem (by lia))
        obtain ⟨t2, e2⟩ := hsS.at (j := j) (List.getElem?_eq_getElem (by lia))
        rw [List.getElem?_eq_getElem a1] at e1
        rw [List.getElem?_eq_getElem a2] at e2
        rw [List.getElem_toArray, List.getElem_toArray, Option.some.inj e1, Option.some.inj e2]
        simpa using PySem.SeqAt.EqAt.str_str (A := A.in1.in1) (s := ⟨h4, g, d, k2, o⟩) (surN pile pile.length)[j] t1 (surN pile pile.length)[j] t2)
      rw [List.all_eq_true.mpr (fun _ _ => rfl)] at this
      exact this
    · refine PySem.SeqAt.EqAt.of_refs hTX ?_
      have := PySem.SeqAt.RcAt.lists (A := A.in1) (s := ⟨h4, g, d, k2, o⟩) (e := fun _ => true) (items := #[]) (items2 := #[]) (l := T) (b := Xa) ⟨_, kp _ _ hT', rfl, _, rfl⟩ ⟨_, kp4 _ _ (N3.get List.mem_cons_self), rfl, _, rfl⟩ rfl (by show A.units + 1 < _; lia) (fun j a1 _ => absurd a1 (Nat.not_lt_zero _))
      simpa using this
  · rw [show ((List.range (min (#[Value.ref M, .ref T] : Array Value).size (#[Value.ref S, .ref Xa] : Array Value).size)).all (fun _ => true) && (#[Value.ref M, .ref T] : Array Value).size == (#[Value.ref S, .ref Xa] : Array Value).size) = true from rfl]
    exact q _ _ (fun b ob e => kp4 _ _ (F3.keep _ _ e))
end
end Mine
namespace Mine
noncomputable def itemsOf (s0 s1 : Nat) (cs : List Nat) : List Nat := (drawn s0 s1 cs).1
noncomputable def patOf (s0 s1 : Nat) (cs : List Nat) : List Nat := (drawn s0 s1 cs).2
noncomputable def nmOf (s0 s1 : Nat) : List (List Nat) := (namesN [s0, s1] 3).1
noncomputable def pilesOf (s0 s1 : Nat) (cs : List Nat) : List Str := pileOf (filled (itemsOf s0 s1 cs)) ((nmOf s0 s1).map tx)
noncomputable def takenOf (s0 s1 : Nat) (cs : List Nat) : List Str := ((nmOf s0 s1).map tx).filter (takes (pcsOf (patOf s0 s1 cs)))
structure PlainOk (s0 s1 : Nat) (cs : List Nat) : Prop where
  its : (itemsOf s0 s1 cs).length ≤ 8
  nm : (nmOf s0 s1).length ≤ 100
  nmx : ∀ x ∈ nmOf s0 s1, x.length ≤ 100
  nd : ((nmOf s0 s1).map tx).Nodup
  fl : (filled (itemsOf s0 s1 cs)).length ≤ 256
  f1 : ∀ f ∈ filled (itemsOf s0 s1 cs), f.length ≤ 50
  f2 : ∀ f ∈ filled (itemsOf s0 s1 cs), ∀ c ∈ f, c < 128 ∧ c ≠ 91
  p1 : (patOf s0 s1 cs).length ≤ 50
  p2 : ∀ c ∈ patOf s0 s1 cs, c < 128 ∧ c ≠ 91
  bp : (pilesOf s0 s1 cs).length ≤ 10000
  bt : (takenOf s0 s1 cs).length ≤ 10000
  sub : ∀ t ∈ takenOf s0 s1 cs, t ∈ pilesOf s0 s1 cs
  cnt : ∀ x ∈ nmOf s0 s1, (((pilesOf s0 s1 cs).count (tx x) : Nat) : Int) = waysOf (itemsOf s0 s1 cs) x
  dif : difs (pilesOf s0 s1 cs) (takenOf s0 s1 cs) = (firstN (pilesOf s0 s1 cs) (pilesOf s0 s1 cs).length).filterMap (dupOf (pilesOf s0 s1 cs))
  uld : uldGo (pilesOf s0 s1 cs).reverse (takenOf s0 s1 cs) [] = (surN (pilesOf s0 s1 cs) (pilesOf s0 s1 cs).length, [])
theorem firstN_mem (pile : List Str) : ∀ i, ∀ x ∈ firstN pile i, x ∈ pile
  | 0, x, h => by simp [firstN] at h
  | i + 1, x, h => by
    unfold firstN at h
    split at h
    · rename_i y hy
      split at h
      · exact firstN_mem pile i x h
      · rcases List.mem_append.mp h with h | h
        · exact firstN_mem pile i x h
        · rw [List.mem_singleton.mp h]; exact List.mem_of_getElem? hy
    · exact firstN_mem pile i x h
theorem pile_mem {fl : List (List Nat)} {nm : List Str} {x : Str} (h : x ∈ pileOf fl nm) : x ∈ nm := by
  obtain ⟨f, _, hx⟩ := List.mem_flatMap.mp h
  exact (List.mem_filter.mp hx).1
section
variable {w : World} {A : Around} {h : Heap} {g : Array GenState} {d : Drawn} {k : Nat} {o : OsState} {fa sa : Addr} {ad : Nat → Addr} {mg mb : Str → Option Value}
set_option maxHeartbeats 4000000 in
theorem law_c {R : Result → Shared → Prop} (hh : A.handled = none) (hfr : A.frames = some []) (hd : A.depth + 10 < recursionLimit) (hu : A.units + 100 < cLine) (l : Lib ad mg mb h) (hf : FnObj h 27 fa) (sp : Sp w mg h) (hmm : mg "_Mismatch" = some (.ref 197)) (X : (misK w.params).In h)
    {vs : List Value} {xs : List Int} (hsa : h.IsList sa vs.toArray) (hx : IntsAre vs xs) (hb : xs.length ≤ 1000) (pl : PlainOk (sgnAt (atN (cellsN xs)) 0) (sgnAt (atN (cellsN xs)) 1) (cellsN xs))
    (q : ∀ h' k', Kp h h' → R (.ok (.ret (.bool true))) ⟨h', g, d, k', o⟩) : codeAny (model prg w) A (.call (.ref fa) ⟨[.ref sa], []⟩) R ⟨h, g, d, k, o⟩ := by
  refine law_enter hf l (by lia) (fun L cd h1 k1 o1 o2 o3 o4 F N d1 d2 d3 d4 => ?_)
  have hA : (A.deeper (envL L fa cd)).handled = none := hh
  have hAd : (A.deeper (envL L fa cd)).depth = A.depth + 1 := rfl
  have hAu : (A.deeper (envL L fa cd)).units = A.units + 3 := rfl
  have hAf : (A.deeper (envL L fa cd)).frames = some [envL L fa cd] := by show A.frames.map _ = _; rw [hfr]; rfl
  refine hidePost (fun P hQ => ?_)
  replace q : ∀ h' k', Kp h h' → P (.ret (.bool true)) ⟨h', g, d, k', o⟩ := fun h' k' a => hQ _ _ (q h' k' a)
  clear hQ
  generalize (A.deeper (envL L fa cd)) = B at *
  have e12 : @Ne Addr (L + 1) (L + 2) := nN (by lia)
  have e13 : @Ne Addr (L + 1) (L + 3) := nN (by lia)
  have e14 : @Ne Addr (L + 1) (L + 4) := nN (by lia)
  have e23 : @Ne Addr (L + 2) (L + 3) := nN (by lia)
  have e24 : @Ne Addr (L + 2) (L + 4) := nN (by lia)
  have e34 : @Ne Addr (L + 3) (L + 4) := nN (by lia)
  refine wpAny_execs_cons (law0 hA l hsa hx hb F N (fun D h2 k2 ws2 kk2 F2 N2 hD2 hi2 => ?_))
  refine wpAny_execs_cons (law1 l hi2 F2 N2 hD2 (fun C h3 k3 ws3 kk3 F3 N3 hC3 hi3 => ?_))
  refine wpAny_execs_cons (law2 hA (by lia) (by lia) l (cellsN_le xs) hi3 F3 N3 (fun h4 k4 t4 F4 N4 => ?_))
  have hc6 := cellsN_le xs
  generalize cellsN xs = cs at *
  generalize sgnAt (atN cs) 0 = s0 at *
  generalize sgnAt (atN cs) 1 = s1 at *
  have hC1 : C ≠ L + 1 := (hC3 (L + 1, o1) (by repeat (first | exact .head _ | apply List.Mem.tail))).symm
  replace N4 : News h L h4 ((L + 1, o1) :: (C, lstO ws3.toArray kk3) :: [(L + 4, o4), (L + 3, o3), (L + 2, o2)]) := News.pick [4, 0, 1, 2, 3] N4
  refine wpAny_execs_cons (law3 hA (by lia) (by lia) l hc6 hi3 d1 F4 N4 (allC e14.symm (allC e13.symm (allC e12.symm allN))) hC1 (fun h5 k5 I wsI kI o1' tp F5 N5 d1' hsI hI5 hI1 => ?_))
  have hI2 : L + 2 ≠ I := hI5 (L + 2, o2) (by repeat (first | exact .head _ | apply List.Mem.tail))
  have hI3 : L + 3 ≠ I := hI5 (L + 3, o3) (by repeat (first | exact .head _ | apply List.Mem.tail))
  have hI4 : L + 4 ≠ I := hI5 (L + 4, o4) (by repeat (first | exact .head _ | apply List.Mem.tail))
  replace N5 : News h L h5 ((L + 2, o2) :: [(L + 1, o1'), (I, lstO wsI.toArray kI), (L + 4, o4), (L + 3, o3)]) := News.pick [4, 0, 1, 2, 3] N5
  refine wpAny_execs_cons (law4 hA (by lia) (by lia) l d2 F5 N5 (allC e12 (allC hI2.symm (allC e24.symm (allC e23.symm allN)))) (fun h6 k6 M wsM kM o2' F6 N6 d2' hsM hM6 hM2 => ?_))
  have hM3 : L + 3 ≠ M := hM6 (L + 3, o3) (by repeat (first | exact .head _ | apply List.Mem.tail))
  have hM4 : L + 4 ≠ M := hM6 (L + 4, o4) (by repeat (first | exact .head _ | apply List.Mem.tail))
  replace N6 : News h L h6 ((L + 3, o3) :: [(L + 2, o2'), (M, lstO wsM.toArray kM), (L + 1, o1'), (I, lstO wsI.toArray kI), (L + 4, o4)]) := News.pick [5, 0, 1, 2, 3, 4] N6
  refine wpAny_execs_cons (law5 hA (by lia) (by lia) l d1' d2' d3 (its := itemsOf s0 s1 cs) (nm := nmOf s0 s1) (wsI := wsI) (wsM := wsM) (kI := kI) (kM := kM) hsI hsM (by have := pl.its; lia) pl.nm pl.nmx pl.nd F6 N6 (allC e23 (allC hM3.symm (allC e13 (allC hI3.symm (allC e34.symm allN))))) (by repeat (first | exact .head _ | apply List.Mem.tail)) (by repeat (first | exact .head _ | apply List.Mem.tail)) (by repeat (first | exact .head _ | apply List.Mem.tail)) (by repeat (first | exact .head _ | apply List.Mem.tail)) (fun h7 k7 W obW kvs o3' F7 N7 d3' hW hwv hW7 hW3 => ?_))
  have hW4 : L + 4 ≠ W := hW7 (L + 4, o4) (by repeat (first | exact .head _ | apply List.Mem.tail))
  replace N7 : News h L h7 ((L + 4, o4) :: [(L + 3, o3'), (W, obW), (L + 2, o2'), (M, lstO wsM.toArray kM), (L + 1, o1'), (I, lstO wsI.toArray kI)]) := News.pick [6, 0, 1, 2, 3, 4, 5] N7
  refine wpAny_execs_cons (law6 hA (by lia) (by lia) l sp d1' d2' d4 (its := itemsOf s0 s1 cs) (nm := nmOf s0 s1) (wsI := wsI) (wsM := wsM) (kI := kI) (kM := kM) hsI hsM pl.its pl.nm pl.nmx pl.fl pl.f1 pl.f2 F7 N7 (allC e34 (allC hW4.symm (allC e24 (allC hM4.symm (allC e14 (allC hI4.symm allN)))))) (by repeat (first | exact .head _ | apply List.Mem.tail)) (by repeat (first | exact .head _ | apply List.Mem.tail)) (by repeat (first | exact .head _ | apply List.Mem.tail)) (by repeat (first | exact .head _ | apply List.Mem.tail)) (fun h8 k8 Pl wsP kP o4' F8 N8 d4' hsP hP8 hP4 => ?_))
  replace hsP : StrsAre wsP (pilesOf s0 s1 cs) := hsP
  have hin : ∀ x ∈ pilesOf s0 s1 cs, ∃ t, valueAt kvs x = some (.int ((pilesOf s0 s1 cs).count x : Nat) t) := fun x hx => by
    obtain ⟨y, hy, rfl⟩ := List.mem_map.mp (pile_mem hx)
    obtain ⟨t, ht⟩ := hwv y hy
    exact ⟨t, by rw [ht, pl.cnt y hy]⟩
  refine wpAny_execs_cons (law7 hA (by lia) (its := itemsOf s0 s1 cs) (nm := nmOf s0 s1) (wsM := wsM) (wsP := wsP) (kM := kM) (kP := kP) d2' d3' d4' hsM hsP pl.nm hW hwv pl.cnt F8 N8 (by repeat (first | exact .head _ | apply List.Mem.tail)) (by repeat (first | exact .head _ | apply List.Mem.tail)) (by repeat (first | exact .head _ | apply List.Mem.tail)) (by repeat (first | exact .head _ | apply List.Mem.tail)) (by repeat (first | exact .head _ | apply List.Mem.tail)) (by repeat (first | exact .head _ | apply List.Mem.tail)) (fun h9 k9 F9 N9 => ?_))
  refine wpAny_execs_cons (law8 hA (by lia) (by lia) l sp d2' (nm := nmOf s0 s1) (wsM := wsM) (kM := kM) hsM pl.nm pl.nmx pl.p1 pl.p2 F9 N9 (by repeat (first | exact .head _ | apply List.Mem.tail)) (by repeat (first | exact .head _ | apply List.Mem.tail)) (fun h10 k10 T wsT kT F10 N10 hsT hT10 => ?_))
  replace hsT : StrsAre wsT (takenOf s0 s1 cs) := hsT
  refine wpAny_execs_cons (law9 hA l d4' (wsP := wsP) (kP := kP) hsP pl.bp F10 N10 (by repeat (first | exact .head _ | apply List.Mem.tail)) (by repeat (first | exact .head _ | apply List.Mem.tail)) (fun h11 k11 Fs wsF kF F11 N11 hsF hF11 => ?_))
  refine wpAny_execs_cons (law10 hA (by lia) (by lia) l hmm X d3' d4' (wsP := wsP) (wsT := wsT) (wsF := wsF) (kP := kP) (kT := kT) (kF := kF) hsP hsT hsF pl.bp pl.bt pl.sub hW (fun x hx => hin x (firstN_mem _ _ x hx)) pl.dif F11 N11 (by repeat (first | exact .head _ | apply List.Mem.tail)) (by repeat (first | exact .head _ | apply List.Mem.tail)) (by repeat (first | exact .head _ | apply List.Mem.tail)) (by repeat (first | exact .head _ | apply List.Mem.tail)) (by repeat (first | exact .head _ | apply List.Mem.tail)) (by repeat (first | exact .head _ | apply List.Mem.tail)) (fun h12 k12 F12 N12 => ?_))
  refine wpAny_execs_cons (law11 hA l d4' (wsP := wsP) (kP := kP) hsP pl.bp F12 N12 (by repeat (first | exact .head _ | apply List.Mem.tail)) (by repeat (first | exact .head _ | apply List.Mem.tail)) (fun h13 k13 S wsS kS F13 N13 hsS hS13 => ?_))
  refine wpAny_execs_cons (law12 hA hAf (by lia) (by lia) l d4' (wsP := wsP) (wsT := wsT) (wsS := wsS) (kP := kP) (kT := kT) (kS := kS) hsP hsT hsS pl.bp pl.bt (hS13 (Pl, lstO wsP.toArray kP) (by repeat (first | exact .head _ | apply List.Mem.tail))).symm (hS13 (T, lstO wsT.toArray kT) (by repeat (first | exact .head _ | apply List.Mem.tail))).symm (hT10 (Pl, lstO wsP.toArray kP) (by repeat (first | exact .head _ | apply List.Mem.tail))) pl.uld F13 N13 (by repeat (first | exact .head _ | apply List.Mem.tail)) (by repeat (first | exact .head _ | apply List.Mem.tail)) (by repeat (first | exact .head _ | apply List.Mem.tail)) (by repeat (first | exact .head _ | apply List.Mem.tail)) (fun h14 k14 kp14 => ?_))
  exact q h14 k14 kp14
end
end Mine
namespace Mine
noncomputable def suff : List Nat → List (List Nat)
  | [] => [[]]
  | c :: x => (c :: x) :: suff x
/-- in how many ways the items make the text -/
noncomputable def M : List Nat → List Nat → Nat
  | [], x => if x = [] then 1 else 0
  | c :: r, x => if c = 42 then ((suff x).map (M r)).sum else match x with
    | [] => 0
    | e :: x' => if c = 63 ∨ c = e then M r x' else 0
theorem M_star (r x : List Nat) : M (42 :: r) x = ((suff x).map (M r)).sum := by cases x <;> simp [M]
theorem M_nil {c : Nat} (hc : c ≠ 42) (r : List Nat) : M (c :: r) [] = 0 := by simp [M, hc]
theorem M_cons {c : Nat} (hc : c ≠ 42) (r : List Nat) (e : Nat) (x : List Nat) : M (c :: r) (e :: x) = if c = 63 ∨ c = e then M r x else 0 := by simp [M, hc]
theorem suff_head (x : List Nat) : ∃ t, suff x = x :: t := by cases x <;> exact ⟨_, rfl⟩
theorem rowW_M (it : Nat) (r : List Nat) : ∀ x : List Nat, rowW it x ((suff x).map fun y => ((M r y : Nat) : Int)) = (suff x).map fun y => ((M (it :: r) y : Nat) : Int)
  | [] => by
    by_cases h : it = 42
    · subst h; simp [rowW, suff, M_star]
    · simp [rowW, suff, h, M_nil h]
  | e :: x => by
    have ih := rowW_M it r x
    obtain ⟨t, ht⟩ := suff_head x
    show rowW it (e :: x) (((M r (e :: x) : Nat) : Int) :: (suff x).map fun y => ((M r y : Nat) : Int)) = ((M (it :: r) (e :: x) : Nat) : Int) :: (suff x).map fun y => ((M (it :: r) y : Nat) : Int)
    rw [rowW, List.tail_cons, ih]
    congr 1
    by_cases h : it = 42
    · subst h
      rw [if_pos rfl, ht]
      simp only [List.map_cons, List.headD_cons]
      rw [M_star r (e :: x)]
      show _ = (((M r (e :: x) :: (suff x).map (M r)).sum : Nat) : Int)
      rw [List.sum_cons, M_star r x]
      rfl
    · rw [if_neg h, M_cons h, ht, List.map_cons, List.headD_cons]
      split <;> rfl
theorem waysL_M (x : List Nat) : ∀ its : List Nat, waysL x its = (suff x).map fun y => ((M its y : Nat) : Int)
  | [] => by
    rw [waysL]
    induction x with
    | nil => rfl
    | cons e x ih =>
      rw [List.length_cons, List.replicate_succ, List.cons_append, ih]
      rfl
  | it :: r => by rw [waysL, waysL_M x r, rowW_M]
theorem waysOf_M (its x : List Nat) : waysOf its x = ((M its x : Nat) : Int) := by
  obtain ⟨t, ht⟩ := suff_head x
  rw [waysOf, waysL_M, ht]
  rfl
theorem suff_drop (x : List Nat) : suff x = (List.range (x.length + 1)).map fun a => x.drop a := by
  induction x with
  | nil => rfl
  | cons e x ih =>
    rw [suff, ih, List.length_cons, List.range_succ_eq_map (n := x.length + 1), List.map_cons, List.map_map]
    rfl
theorem sum_ne_zero {l : List Nat} : l.sum ≠ 0 ↔ ∃ n ∈ l, n ≠ 0 := by
  induction l with
  | nil => simp
  | cons a l ih =>
    rw [List.sum_cons]
    simp only [List.mem_cons, exists_eq_or_imp, ← ih]
    lia
theorem M_star_ne {r x : List Nat} : M (42 :: r) x ≠ 0 ↔ ∃ a, a ≤ x.length ∧ M r (x.drop a) ≠ 0 := by
  rw [M_star, sum_ne_zero, suff_drop]
  simp only [List.mem_map, List.mem_range]
  constructor
  · rintro ⟨n, ⟨y, ⟨a, ha, rfl⟩, rfl⟩, h⟩
    exact ⟨a, by lia, h⟩
  · rintro ⟨a, ha, h⟩
    exact ⟨_, ⟨_, ⟨a, by lia, rfl⟩, rfl⟩, h⟩
end Mine
namespace Mine
noncomputable def pc (c : Nat) : Str := if c = 63 then Str.empty else one c
noncomputable def segI : List Nat → List (List Str)
  | [] => [[]]
  | c :: r => if c = 42 then [] :: segI r else consHead [pc c] (segI r)
noncomputable def toP (c : Nat) : Option Str := if c = 42 then none else some (if c = 63 then one 46 else esc c)
theorem sval_esc2 (c : Nat) : sval (esc c) = one c := by
  unfold esc
  by_cases h : special c = true
  · rw [if_pos h]
    unfold sval
    rw [if_neg (by intro e; have := congrArg (fun s : Str => s.cps.size) e; simp at this)]
    rfl
  · rw [if_neg h]
    have h46 : c ≠ 46 := fun e => h (by subst e; decide)
    unfold sval
    rw [if_neg (by intro e; have := congrArg (fun s : Str => s.cps.toList) e; simp at this; exact h46 this)]
    rfl
theorem sval_q : sval (one 46) = Str.empty := by unfold sval; rw [if_pos rfl]
theorem segs_I : ∀ its : List Nat, (segs (its.map toP)).map (·.map sval) = segI its
  | [] => rfl
  | c :: r => by
    have ih := segs_I r
    rw [List.map_cons, segI]
    by_cases h : c = 42
    · rw [if_pos h, toP, if_pos h, segs, List.map_cons, ih]
      rfl
    · rw [if_neg h, toP, if_neg h, segs, ← ih]
      have e : sval (if c = 63 then one 46 else esc c) = pc c := by
        unfold pc
        split
        · exact sval_q
        · exact sval_esc2 c
      cases segs (r.map toP) with
      | nil => simp only [consHead, List.map_cons, List.map_nil, e]
      | cons a b => simp only [consHead, List.map_cons, List.map_append, List.map_nil, e]
theorem segI_cons (its : List Nat) : ∃ p r, segI its = p :: r := by
  induction its with
  | nil => exact ⟨_, _, rfl⟩
  | cons c r ih =>
    obtain ⟨p, q, e⟩ := ih
    rw [segI, e]
    split
    · exact ⟨_, _, rfl⟩
    · exact ⟨_, _, rfl⟩
/-- the later pieces find a place -/
noncomputable def RestP (x : List Nat) : List (List Str) → Nat → Prop
  | [], pl => pl = x.length
  | q :: r, pl => ∃ a, pl ≤ a ∧ fits q (tx x) a = true ∧ RestP x r (a + q.length)
theorem fits_iff {p : List Str} {x : List Nat} {pl : Nat} : fits p (tx x) pl = true ↔ pl + p.length ≤ x.length ∧ fitsAt p (x.drop pl) = true := by
  unfold fits
  rw [Bool.and_eq_true, decide_eq_true_eq]
  simp [Str.length]
theorem one_inj {a b : Nat} (h : one a = one b) : a = b := by
  have := congrArg (fun s : Str => s.cps.toList) h
  simpa using this
theorem pc_ok {c d : Nat} : ((pc c == Str.empty || pc c == one d) = true) ↔ (c = 63 ∨ c = d) := by
  rw [Bool.or_eq_true, beq_iff_eq, beq_iff_eq]
  unfold pc
  by_cases h : c = 63
  · simp [h]
  · rw [if_neg h]
    constructor
    · rintro (e | e)
      · have := congrArg (fun s : Str => s.cps.size) e
        simp [Str.empty] at this
      · exact .inr (one_inj e)
    · rintro (e | e)
      · exact absurd e h
      · exact .inr (by rw [e])
theorem M_segs (x : List Nat) : ∀ (its : List Nat) (pl : Nat), pl ≤ x.length → ∀ p r, segI its = p :: r → (M its (x.drop pl) ≠ 0 ↔ fits p (tx x) pl = true ∧ RestP x r (pl + p.length))
  | [], pl, hpl, p, r, e => by
    cases e
    rw [M, fits_iff]
    simp only [fitsAt, List.length_nil, Nat.add_zero, RestP, and_true]
    split
    · rename_i h
      have : x.length ≤ pl := by simpa using h
      simp; lia
    · rename_i h
      have : ¬ x.length ≤ pl := by simpa using h
      simp; lia
  | c :: s, pl, hpl, p, r, e => by
    obtain ⟨p', r', e'⟩ := segI_cons s
    rw [segI, e'] at e
    by_cases h : c = 42
    · rw [if_pos h] at e
      cases e
      subst h
      rw [M_star_ne, fits_iff]
      simp only [fitsAt, List.length_nil, Nat.add_zero, and_true, hpl, true_and, RestP]
      constructor
      · rintro ⟨a, ha, hm⟩
        rw [List.length_drop] at ha
        rw [List.drop_drop] at hm
        have := (M_segs x s (pl + a) (by lia) p' r' e').mp hm
        exact ⟨pl + a, by lia, this.1, this.2⟩
      · rintro ⟨a, ha, h1, h2⟩
        have h3 := (fits_iff.mp h1).1
        refine ⟨a - pl, by rw [List.length_drop]; lia, ?_⟩
        rw [List.drop_drop, show pl + (a - pl) = a by lia]
        exact (M_segs x s a (by lia) p' r' e').mpr ⟨h1, h2⟩
    · rw [if_neg h] at e
      simp only [consHead, List.cons_append, List.nil_append] at e
      cases e
      by_cases hl : pl < x.length
      · rw [List.drop_eq_getElem_cons hl, M_cons h, fits_iff, List.drop_eq_getElem_cons hl]
        have ih := M_segs x s (pl + 1) (by lia) p' _ e'
        rw [fits_iff] at ih
        simp only [fitsAt, List.length_cons, Bool.and_eq_true]
        rw [pc_ok, show pl + (p'.length + 1) = pl + 1 + p'.length by lia]
        by_cases hc : c = 63 ∨ c = x[pl]
        · rw [if_pos hc]
          simp only [hc, true_and]
          exact ih
        · rw [if_neg hc]
          simp [hc]
      · have hn : x.drop pl = [] := List.drop_eq_nil_of_le (by lia)
        rw [hn, M_nil h, fits_iff]
        simp only [List.length_cons, ne_eq, not_true_eq_false, false_iff]
        rintro ⟨⟨h1, _⟩, _⟩
        lia
theorem RestP_mono {x : List Nat} {q : List Str} {r : List (List Str)} {a b : Nat} (h : a ≤ b) : RestP x (q :: r) b → RestP x (q :: r) a := by
  rintro ⟨c, h1, h2⟩
  exact ⟨c, by lia, h2⟩
theorem seek_ge (q : List Str) (x : Str) : ∀ f pl, pl ≤ seek q x f pl
  | 0, _ => Nat.le_refl _
  | f + 1, pl => by
    rw [seek]
    split
    · have := seek_ge q x f (pl + 1); lia
    · exact Nat.le_refl _
theorem seekAll_ge (x : Str) : ∀ (qs : List (List Str)) (pl : Nat), pl ≤ seekAll x qs pl
  | [], _ => Nat.le_refl _
  | q :: r, pl => by
    rw [seekAll]
    have h1 := seek_ge q x (x.length + 1 - pl) pl
    have h2 := seekAll_ge x r (seek q x (x.length + 1 - pl) pl + q.length)
    lia
/-- the place found is the first one, or past the end -/
theorem seek_spec (q : List Str) (x : List Nat) : ∀ f pl, pl + f = x.length + 1 →
    (fits q (tx x) (seek q (tx x) f pl) = true ∧ ∀ b, pl ≤ b → fits q (tx x) b = true → seek q (tx x) f pl ≤ b) ∨ (seek q (tx x) f pl = x.length + 1 ∧ ∀ b, pl ≤ b → fits q (tx x) b = false)
  | 0, pl, h => by
    refine .inr ⟨by rw [seek]; lia, fun b hb => ?_⟩
    cases e : fits q (tx x) b with
    | false => rfl
    | true => have := (fits_iff.mp e).1; lia
  | f + 1, pl, h => by
    have hxl : (tx x).length = x.length := by simp [Str.length]
    rw [seek]
    cases e : fits q (tx x) pl with
    | true =>
      rw [if_neg (by first | exact Nat.le_of_ble_eq_true rfl | (repeat (first | exact .head _ | apply List.Mem.tail)); done | simp)]
      exact .inl ⟨e, fun b hb _ => hb⟩
    | false =>
      rw [if_pos (by rw [hxl]; simp; lia)]
      rcases seek_spec q x f (pl + 1) (by lia) with ⟨h1, h2⟩ | ⟨h1, h2⟩
      · refine .inl ⟨h1, fun b hb hf => ?_⟩
        rcases Nat.eq_or_lt_of_le hb with rfl | hlt
        · rw [e] at hf; cases hf
        · exact h2 b hlt hf
      · refine .inr ⟨h1, fun b hb => ?_⟩
        rcases Nat.eq_or_lt_of_le hb with rfl | hlt
        · exact e
        · exact h2 b hlt
theorem greedy (x : List Nat) (last : List Str) : ∀ (mids : List (List Str)) (pl : Nat), pl ≤ x.length →
    (RestP x (mids ++ [last]) pl ↔ seekAll (tx x) mids pl + last.length ≤ x.length ∧ fits last (tx x) (x.length - last.length) = true)
  | [], pl, hpl => by
    show RestP x [last] pl ↔ pl + last.length ≤ x.length ∧ _
    constructor
    · rintro ⟨a, h1, h2, h3⟩
      have h3' : a + last.length = x.length := h3
      rw [show x.length - last.length = a by lia]
      exact ⟨by lia, h2⟩
    · rintro ⟨h1, h2⟩
      exact ⟨x.length - last.length, by lia, h2, by show _ = _; lia⟩
  | q :: mids, pl, hpl => by
    have hxl : (tx x).length = x.length := by simp [Str.length]
    rw [seekAll, hxl]
    obtain ⟨m, r, e⟩ : ∃ m r, mids ++ [last] = m :: r := by cases mids <;> exact ⟨_, _, rfl⟩
    rcases seek_spec q x (x.length + 1 - pl) pl (by lia) with ⟨h1, h2⟩ | ⟨h1, h2⟩
    · have hge := seek_ge q (tx x) (x.length + 1 - pl) pl
      have hle := (fits_iff.mp h1).1
      rw [← greedy x last mids _ hle]
      constructor
      · rintro ⟨a, a1, a2, a3⟩
        have := h2 a a1 a2
        replace a3 : RestP x (mids ++ [last]) (a + q.length) := a3
        rw [e] at a3 ⊢
        exact RestP_mono (by lia) a3
      · intro h
        exact ⟨_, hge, h1, h⟩
    · rw [h1]
      constructor
      · rintro ⟨a, a1, a2, _⟩
        rw [h2 a a1] at a2; cases a2
      · rintro ⟨a1, _⟩
        have := seekAll_ge (tx x) mids (x.length + 1 + q.length)
        lia
theorem takes_M (its x : List Nat) : takes (segI its) (tx x) = decide (M its x ≠ 0) := by
  obtain ⟨p, r, e⟩ := segI_cons its
  have hM := M_segs x its 0 (Nat.zero_le _) p r e
  rw [List.drop_zero, Nat.zero_add] at hM
  have hxl : (tx x).length = x.length := by simp [Str.length]
  rw [e, Bool.eq_iff_iff, decide_eq_true_eq, hM]
  unfold takes
  rw [Bool.and_eq_true]
  refine and_congr_right fun hf => ?_
  have hpl := (fits_iff.mp hf).1
  cases r with
  | nil =>
    simp only [RestP, beq_iff_eq, hxl]
  | cons q r' =>
    have hne : (q :: r') ≠ [] := by simp
    have e2 : (q :: r').dropLast ++ [(q :: r').getLastD []] = q :: r' := by
      have := List.dropLast_concat_getLast hne
      rw [List.getLastD_eq_getLast?, List.getLast?_eq_some_getLast hne]
      exact this
    simp only [Bool.and_eq_true, decide_eq_true_eq, hxl]
    rw [← greedy x ((q :: r').getLastD []) (q :: r').dropLast p.length (by lia), e2]
end Mine
namespace Mine
theorem toP_none {c : Nat} : toP c = none ↔ c = 42 := by unfold toP; split <;> simp [*]
theorem padd_toP {acc : List Nat} {c : Nat} (h : ¬ (c = 42 ∧ acc.getLast? = some 42)) : padd (acc.map toP) c = (acc ++ [c]).map toP := by
  rw [List.map_append, List.map_cons, List.map_nil]
  unfold padd
  by_cases hc : c = 42
  · rw [if_pos hc]
    have hl : acc.getLast? ≠ some 42 := fun e => h ⟨hc, e⟩
    rw [if_neg]
    · rw [toP_none.mpr hc]
    · rw [List.getLast?_map]
      intro e
      obtain ⟨y, hy, hy2⟩ := Option.map_eq_some_iff.mp e
      rw [toP_none.mp hy2] at hy
      exact hl hy
  · rw [if_neg hc]
    unfold toP
    rw [if_neg hc]
    split <;> rfl
theorem padd_star {acc : List Nat} (h : acc.getLast? = some 42) : padd (acc.map toP) 42 = acc.map toP := by
  unfold padd
  rw [if_pos rfl, if_pos]
  rw [List.getLast?_map, h]
  rfl
theorem parts_snoc (p : List Nat) (c : Nat) : parts (p ++ [c]) = padd (parts p) c := by unfold parts; rw [List.foldl_append]; rfl
theorem parts_free : ∀ (f acc : List Nat), (∀ c ∈ f, c ≠ 42) → f.foldl padd (acc.map toP) = (acc ++ f).map toP
  | [], acc, _ => by simp
  | c :: r, acc, h => by
    rw [List.foldl_cons, padd_toP (fun e => h c List.mem_cons_self e.1), parts_free r (acc ++ [c]) fun d hd => h d (List.mem_cons_of_mem _ hd), List.append_assoc]
    rfl
theorem pcs_free {f : List Nat} (h : ∀ c ∈ f, c ≠ 42) : pcsOf f = segI f := by
  unfold pcsOf parts
  have := parts_free f [] h
  rw [List.map_nil, List.nil_append] at this
  rw [this, segs_I]
/-- the pattern's pieces are the items' -/
structure DrawOk (s0 s1 : Nat) (st : List Nat × List Nat) : Prop where
  parts : Mine.parts st.2 = st.1.map toP
  al1 : ∀ c ∈ st.1, c = 42 ∨ c = 63 ∨ c = s0 ∨ c = s1
  al2 : ∀ c ∈ st.2, c = 42 ∨ c = 63 ∨ c = s0 ∨ c = s1
  few : st.1.length ≤ 3 + st.1.count 42
  gap : 2 * st.1.count 42 ≤ st.1.length + (if st.1.getLast? = some 42 then 1 else 0)
theorem mark_ok {s0 s1 : Nat} {st : List Nat × List Nat} {mk : Nat} (hm : mk = 42 ∨ mk = 63 ∨ mk = s0 ∨ mk = s1) (x : DrawOk s0 s1 st) : DrawOk s0 s1 (markStep st mk) := by
  obtain ⟨h1, h2, h3, h4, h5⟩ := x
  unfold markStep
  by_cases h : mk = 42
  · subst h
    rw [if_pos rfl]
    by_cases hl : st.1.getLast? = some 42
    · rw [if_pos hl]
      refine ⟨?_, h2, ?_, h4, h5⟩
      · show Mine.parts (st.2 ++ [42]) = _
        rw [parts_snoc, h1, padd_star hl]
      · intro c hc
        rcases List.mem_append.mp hc with hc | hc
        · exact h3 c hc
        · exact .inl (List.mem_singleton.mp hc)
    · rw [if_neg hl]
      rw [if_neg hl] at h5
      refine ⟨?_, ?_, ?_, ?_, ?_⟩
      · show Mine.parts (st.2 ++ [42]) = _
        rw [parts_snoc, h1, padd_toP fun e => hl e.2]
      · intro c hc
        rcases List.mem_append.mp hc with hc | hc
        · exact h2 c hc
        · exact .inl (List.mem_singleton.mp hc)
      · intro c hc
        rcases List.mem_append.mp hc with hc | hc
        · exact h3 c hc
        · exact .inl (List.mem_singleton.mp hc)
      · show (st.1 ++ [42]).length ≤ _
        rw [List.length_append, List.count_append, List.count_singleton_self]; simp; lia
      · show 2 * (st.1 ++ [42]).count 42 ≤ (st.1 ++ [42]).length + _
        rw [List.length_append, List.count_append, List.count_singleton_self, List.getLast?_append]; simp; lia
  · rw [if_neg h]
    by_cases hlt : st.1.length < 3 + st.1.count 42
    · rw [if_pos hlt]
      have hc0 : ([mk] : List Nat).count 42 = 0 := by simp [h]
      refine ⟨?_, ?_, ?_, ?_, ?_⟩
      · show Mine.parts (st.2 ++ [mk]) = _
        rw [parts_snoc, h1, padd_toP fun e => h e.1]
      · intro c hc
        rcases List.mem_append.mp hc with hc | hc
        · exact h2 c hc
        · rw [List.mem_singleton.mp hc]; exact hm
      · intro c hc
        rcases List.mem_append.mp hc with hc | hc
        · exact h3 c hc
        · rw [List.mem_singleton.mp hc]; exact hm
      · show (st.1 ++ [mk]).length ≤ _
        rw [List.length_append, List.count_append, hc0]; simp; lia
      · show 2 * (st.1 ++ [mk]).count 42 ≤ (st.1 ++ [mk]).length + _
        rw [List.length_append, List.count_append, hc0, List.length_singleton]
        have : 2 * st.1.count 42 ≤ st.1.length + 1 := by
          refine Nat.le_trans h5 ?_
          split <;> lia
        lia
    · rw [if_neg hlt]
      exact ⟨h1, h2, h3, h4, h5⟩
theorem marks_ok {s0 s1 : Nat} : ∀ (ms : List Nat) (st : List Nat × List Nat), (∀ m ∈ ms, m = 42 ∨ m = 63 ∨ m = s0 ∨ m = s1) → DrawOk s0 s1 st → DrawOk s0 s1 (ms.foldl markStep st)
  | [], _, _, x => x
  | m :: r, st, h, x => marks_ok r _ (fun k hk => h k (List.mem_cons_of_mem _ hk)) (mark_ok (h m List.mem_cons_self) x)
theorem marksOf_al (s0 s1 c : Nat) : ∀ m ∈ marksOf s0 s1 c, m = 42 ∨ m = 63 ∨ m = s0 ∨ m = s1 := by
  intro m hm
  unfold marksOf at hm
  split at hm <;> simp at hm <;> rcases hm with rfl | rfl <;> simp
theorem drawn_ok (s0 s1 : Nat) : ∀ (cs : List Nat) (st : List Nat × List Nat), DrawOk s0 s1 st → DrawOk s0 s1 (cs.foldl (fun st c => (marksOf s0 s1 c).foldl markStep st) st)
  | [], _, x => x
  | c :: r, st, x => drawn_ok s0 s1 r _ (marks_ok _ _ (marksOf_al s0 s1 c) x)
theorem drawnOk (s0 s1 : Nat) (cs : List Nat) : DrawOk s0 s1 (drawn s0 s1 cs) :=
  drawn_ok s0 s1 cs _ ⟨rfl, by simp, by simp, by simp, by simp⟩
theorem pat_len (s0 s1 : Nat) (cs : List Nat) : (drawn s0 s1 cs).2.length ≤ 2 * cs.length := by
  unfold drawn
  have key : ∀ (cs : List Nat) (st : List Nat × List Nat), (cs.foldl (fun st c => (marksOf s0 s1 c).foldl markStep st) st).2.length ≤ st.2.length + 2 * cs.length := by
    intro cs
    induction cs with
    | nil => intro st; simp
    | cons c r ih =>
      intro st
      rw [List.foldl_cons, List.length_cons]
      have h1 := ih ((marksOf s0 s1 c).foldl markStep st)
      have h2 : ((marksOf s0 s1 c).foldl markStep st).2.length ≤ st.2.length + 2 := by
        have := markFold_le (marksOf s0 s1 c) st
        have := marksOf_le s0 s1 c
        lia
      lia
  have := key cs ([], [])
  simpa using this
theorem pcs_pat (s0 s1 : Nat) (cs : List Nat) : pcsOf (drawn s0 s1 cs).2 = segI (drawn s0 s1 cs).1 := by
  unfold pcsOf
  rw [(drawnOk s0 s1 cs).parts, segs_I]
end Mine
namespace Mine
theorem sum_more {f : Nat → Nat} {m : Nat} : ∀ k, m ≤ k → (∀ a, m ≤ a → f a = 0) → ((List.range k).map f).sum = ((List.range m).map f).sum
  | 0, h, _ => by rw [Nat.le_zero.mp h]
  | k + 1, h, hz => by
    rcases Nat.eq_or_lt_of_le h with rfl | hlt
    · rfl
    · rw [List.range_succ, List.map_append, List.sum_append, sum_more k (by lia) hz]
      simp [hz k (by lia)]
theorem M_rep (r : List Nat) : ∀ (a : Nat) (x : List Nat), M (List.replicate a 63 ++ r) x = if a ≤ x.length then M r (x.drop a) else 0
  | 0, x => by simp
  | a + 1, [] => by
    rw [List.replicate_succ, List.cons_append, M_nil (by decide)]
    simp
  | a + 1, e :: x => by
    rw [List.replicate_succ, List.cons_append, M_cons (by decide), if_pos (.inl rfl), M_rep r a x, List.drop_succ_cons, List.length_cons]
    by_cases h : a ≤ x.length
    · rw [if_pos h, if_pos (by lia)]
    · rw [if_neg h, if_neg (by lia)]
theorem M_fill (r : List Nat) : ∀ (h x : List Nat) (n : Nat), (∀ c ∈ h, c ≠ 42) → x.length ≤ n → M (h ++ 42 :: r) x = ((List.range (n + 1 - h.length)).map fun a => M (h ++ List.replicate a 63 ++ r) x).sum
  | [], x, n, _, hx => by
    rw [List.nil_append, M_star, suff_drop, List.map_map, List.length_nil, Nat.sub_zero, sum_more (m := x.length + 1) (n + 1) (by lia)]
    · congr 1
      apply List.map_congr_left
      intro a ha
      have := List.mem_range.mp ha
      rw [List.nil_append, M_rep, if_pos (by lia)]
      rfl
    · intro a ha
      rw [List.nil_append, M_rep, if_neg (by lia)]
  | c :: h, [], n, hc, _ => by
    have h1 := hc c List.mem_cons_self
    rw [List.cons_append, M_nil h1]
    symm
    rw [← Nat.le_zero, Nat.le_zero]
    have : ∀ l : List Nat, (l.map fun a => M (c :: h ++ List.replicate a 63 ++ r) []).sum = 0 := fun l => by
      induction l with
      | nil => rfl
      | cons a l ih =>
        rw [List.map_cons, List.sum_cons, ih]
        show M (c :: (h ++ List.replicate a 63 ++ r)) [] + 0 = 0
        rw [M_nil h1]
    exact this _
  | c :: h, e :: x, n, hc, hx => by
    have h1 := hc c List.mem_cons_self
    have hc' : ∀ d ∈ h, d ≠ 42 := fun d hd => hc d (List.mem_cons_of_mem _ hd)
    rw [List.length_cons] at hx
    obtain ⟨m, rfl⟩ : ∃ m, n = m + 1 := ⟨n - 1, by lia⟩
    have ih := M_fill r h x m hc' (by lia)
    rw [List.cons_append, M_cons h1, List.length_cons, show m + 1 + 1 - (h.length + 1) = m + 1 - h.length by lia]
    by_cases hq : c = 63 ∨ c = e
    · rw [if_pos hq, ih]
      congr 1
      apply List.map_congr_left
      intro a _
      show _ = M (c :: (h ++ List.replicate a 63 ++ r)) (e :: x)
      rw [M_cons h1, if_pos hq]
    · rw [if_neg hq]
      symm
      have : ∀ l : List Nat, (l.map fun a => M (c :: h ++ List.replicate a 63 ++ r) (e :: x)).sum = 0 := fun l => by
        induction l with
        | nil => rfl
        | cons a l ih =>
          rw [List.map_cons, List.sum_cons, ih]
          show M (c :: (h ++ List.replicate a 63 ++ r)) (e :: x) + 0 = 0
          rw [M_cons h1, if_neg hq]
      exact this _
theorem M_short {it : Nat} (hi : it ≠ 42) (r : List Nat) : ∀ (h x : List Nat), (∀ c ∈ h, c ≠ 42) → x.length ≤ h.length → M (h ++ it :: r) x = 0
  | [], [], _, _ => M_nil hi r
  | [], e :: x, _, hx => by simp at hx
  | c :: h, [], hc, _ => M_nil (hc c List.mem_cons_self) _
  | c :: h, e :: x, hc, hx => by
    rw [List.cons_append, M_cons (hc c List.mem_cons_self), M_short hi r h x (fun d hd => hc d (List.mem_cons_of_mem _ hd)) (by simpa using hx)]
    split <;> rfl
theorem M_le_one : ∀ (f x : List Nat), (∀ c ∈ f, c ≠ 42) → M f x ≤ 1
  | [], x, _ => by rw [M]; split <;> decide
  | c :: r, [], hc => by rw [M_nil (hc c List.mem_cons_self)]; decide
  | c :: r, e :: x, hc => by
    rw [M_cons (hc c List.mem_cons_self)]
    split
    · exact M_le_one r x fun d hd => hc d (List.mem_cons_of_mem _ hd)
    · decide
noncomputable def SM (hs : List (List Nat)) (r x : List Nat) : Nat := (hs.map fun h => M (h ++ r) x).sum
theorem SM_star (x r : List Nat) (hx : x.length ≤ 3) : ∀ hs : List (List Nat), (∀ h ∈ hs, ∀ c ∈ h, c ≠ 42) → SM (starF hs) r x = SM hs (42 :: r) x
  | [], _ => rfl
  | h :: hs, hf => by
    have e : starF (h :: hs) = starF [h] ++ starF hs := starF_append [h] hs
    have ih := SM_star x r hx hs fun k hk => hf k (List.mem_cons_of_mem _ hk)
    unfold SM at *
    rw [e, List.map_append, List.sum_append, ih, starF_one, List.map_cons, List.sum_cons, M_fill r h x 3 (hf h List.mem_cons_self) hx, List.map_map]
    rfl
theorem SM_item {it : Nat} (hi : it ≠ 42) (x r : List Nat) (hx : x.length ≤ 3) : ∀ hs : List (List Nat), (∀ h ∈ hs, ∀ c ∈ h, c ≠ 42) → SM ((hs.filter fun h => decide (h.length < 3)).map fun h => h ++ [it]) r x = SM hs (it :: r) x
  | [], _ => rfl
  | h :: hs, hf => by
    have ih := SM_item hi x r hx hs fun k hk => hf k (List.mem_cons_of_mem _ hk)
    unfold SM at *
    rw [List.filter_cons]
    by_cases h3 : h.length < 3
    · rw [if_pos (by simpa using h3), List.map_cons, List.map_cons, List.sum_cons, List.map_cons, List.sum_cons, ih, List.append_assoc]
      rfl
    · rw [if_neg (by simpa using h3), List.map_cons, List.sum_cons, ih, M_short hi r h x (hf h List.mem_cons_self) (by lia), Nat.zero_add]
theorem fillF_free {hs : List (List Nat)} {it : Nat} (h : ∀ f ∈ hs, ∀ c ∈ f, c ≠ 42) : ∀ f ∈ fillF hs it, ∀ c ∈ f, c ≠ 42 := by
  intro f hf c hc
  unfold fillF at hf
  split at hf
  · simp only [starF, List.mem_flatMap, List.mem_map, List.mem_range] at hf
    obtain ⟨a, ha, n, hn, rfl⟩ := hf
    rcases List.mem_append.mp hc with hc | hc
    · exact h a ha c hc
    · rw [(List.mem_replicate.mp hc).2]; decide
  · rename_i hi
    simp only [List.mem_map, List.mem_filter] at hf
    obtain ⟨a, ⟨ha, _⟩, rfl⟩ := hf
    rcases List.mem_append.mp hc with hc | hc
    · exact h a ha c hc
    · rw [List.mem_singleton.mp hc]; exact hi
theorem fillF_al {p : Nat → Prop} {hs : List (List Nat)} {it : Nat} (h63 : p 63) (hi : p it) (h : ∀ f ∈ hs, ∀ c ∈ f, p c) : ∀ f ∈ fillF hs it, ∀ c ∈ f, p c := by
  intro f hf c hc
  unfold fillF at hf
  split at hf
  · simp only [starF, List.mem_flatMap, List.mem_map, List.mem_range] at hf
    obtain ⟨a, ha, n, hn, rfl⟩ := hf
    rcases List.mem_append.mp hc with hc | hc
    · exact h a ha c hc
    · rw [(List.mem_replicate.mp hc).2]; exact h63
  · simp only [List.mem_map, List.mem_filter] at hf
    obtain ⟨a, ⟨ha, _⟩, rfl⟩ := hf
    rcases List.mem_append.mp hc with hc | hc
    · exact h a ha c hc
    · rw [List.mem_singleton.mp hc]; exact hi
structure FillOk (p : Nat → Prop) (its : List Nat) (hs hs' : List (List Nat)) : Prop where
  free : ∀ f ∈ hs', ∀ c ∈ f, c ≠ 42
  small : ∀ f ∈ hs', f.length ≤ 3
  al : ∀ f ∈ hs', ∀ c ∈ f, p c
  cnt : ∀ x : List Nat, x.length ≤ 3 → SM hs' [] x = SM hs its x
  len : hs'.length ≤ 4 ^ (its.count 42) * hs.length
theorem fill_ok {p : Nat → Prop} (h63 : p 63) : ∀ (its : List Nat) (hs : List (List Nat)), (∀ c ∈ its, p c) → (∀ f ∈ hs, ∀ c ∈ f, c ≠ 42) → (∀ f ∈ hs, f.length ≤ 3) → (∀ f ∈ hs, ∀ c ∈ f, p c) → FillOk p its hs (its.foldl fillF hs)
  | [], hs, _, h1, h2, h3 => ⟨h1, h2, h3, fun _ _ => rfl, by simp⟩
  | it :: r, hs, hp, h1, h2, h3 => by
    have ih := fill_ok h63 r (fillF hs it) (fun c hc => hp c (List.mem_cons_of_mem _ hc)) (fillF_free h1) (fillF_small hs it h2) (fillF_al h63 (hp it List.mem_cons_self) h3)
    refine ⟨ih.free, ih.small, ih.al, fun x hx => ?_, ?_⟩
    · show SM (r.foldl fillF (fillF hs it)) [] x = _
      rw [ih.cnt x hx]
      unfold fillF
      by_cases hi : it = 42
      · rw [if_pos hi, hi, SM_star x r hx hs h1]
      · rw [if_neg hi, SM_item hi x r hx hs h1]
    · refine Nat.le_trans ih.len ?_
      rw [List.count_cons]
      unfold fillF
      by_cases hi : it = 42
      · rw [if_pos hi, hi]
        have := starF_le hs
        simp only [beq_self_eq_true, if_true, Nat.pow_succ]
        calc 4 ^ List.count 42 r * (starF hs).length ≤ 4 ^ List.count 42 r * (4 * hs.length) := Nat.mul_le_mul_left _ this
          _ = 4 ^ List.count 42 r * 4 * hs.length := by rw [Nat.mul_assoc]
      · rw [if_neg hi, if_neg (by simpa using hi), Nat.add_zero]
        refine Nat.mul_le_mul_left _ ?_
        rw [List.length_map]
        exact List.length_filter_le ..
theorem filled_ok {p : Nat → Prop} (h63 : p 63) (its : List Nat) (hp : ∀ c ∈ its, p c) : FillOk p its [[]] (filled its) := fill_ok h63 its [[]] hp (by first | exact Nat.le_of_ble_eq_true rfl | (repeat (first | exact .head _ | apply List.Mem.tail)); done | simp) (by first | exact Nat.le_of_ble_eq_true rfl | (repeat (first | exact .head _ | apply List.Mem.tail)); done | simp) (by first | exact Nat.le_of_ble_eq_true rfl | (repeat (first | exact .head _ | apply List.Mem.tail)); done | simp)
theorem count_pile {nm : List (List Nat)} (hn : (nm.map tx).Nodup) {x : List Nat} (hx : x ∈ nm) : ∀ fl : List (List Nat), (∀ f ∈ fl, ∀ c ∈ f, c ≠ 42) → (pileOf fl (nm.map tx)).count (tx x) = SM fl [] x
  | [], _ => rfl
  | f :: fl, hf => by
    have ih := count_pile hn hx fl fun g hg => hf g (List.mem_cons_of_mem _ hg)
    have h1 := hf f List.mem_cons_self
    have hmem : tx x ∈ nm.map tx := List.mem_map_of_mem hx
    have e : pileOf (f :: fl) (nm.map tx) = (nm.map tx).filter (takes (pcsOf f)) ++ pileOf fl (nm.map tx) := by simp only [pileOf, List.flatMap_cons]
    have ht : takes (pcsOf f) (tx x) = decide (M f x ≠ 0) := by rw [pcs_free h1, takes_M]
    have hle := M_le_one f x h1
    rw [e, List.count_append, ih]
    show _ = ((f :: fl).map fun h => M (h ++ []) x).sum
    rw [List.map_cons, List.sum_cons, List.append_nil]
    congr 1
    by_cases hm : M f x = 0
    · rw [hm, List.count_eq_zero]
      intro q
      have := (List.mem_filter.mp q).2
      rw [ht, hm] at this
      simp at this
    · rw [List.count_filter (by rw [ht]; simpa using hm), hn.count, if_pos hmem]
      lia
end Mine
namespace Mine
/-! lists of texts alone -/
theorem filterMap_eq {α β : Type} {f g : α → Option β} : ∀ {l : List α}, (∀ x ∈ l, f x = g x) → l.filterMap f = l.filterMap g
  | [], _ => rfl
  | a :: l, h => by rw [List.filterMap_cons, List.filterMap_cons, h a List.mem_cons_self, filterMap_eq fun x hx => h x (List.mem_cons_of_mem _ hx)]
theorem uld_spec {pile taken : List Str} (hn : taken.Nodup) (h1 : ∀ t ∈ taken, t ∈ pile) (h2 : ∀ t ∈ pile, t ∈ taken) : uldGo pile.reverse taken [] = (surN pile pile.length, []) := by
  have key : ∀ i, i ≤ pile.length → uldGo pile.reverse taken [] = uldGo (pile.take (pile.length - i)).reverse (taken.filter fun t => decide (t ∉ pile.drop (pile.length - i))) (surN pile i) := by
    intro i
    induction i with
    | zero =>
      intro _
      rw [Nat.sub_zero, List.take_length, List.drop_length, surN, List.filter_eq_self.mpr (by first | exact Nat.le_of_ble_eq_true rfl | (repeat (first | exact .head _ | apply List.Mem.tail)); done | simp)]
    | succ i ih =>
      intro hi
      rw [ih (by lia)]
      have hp : pile.length - 1 - i < pile.length := by lia
      have e1 : pile.length - i = (pile.length - 1 - i) + 1 := by lia
      have e2 : pile.length - (i + 1) = pile.length - 1 - i := by lia
      have e3 : pile.take (pile.length - i) = pile.take (pile.length - 1 - i) ++ [pile[pile.length - 1 - i]] := by rw [e1, List.take_succ_eq_append_getElem hp]
      have e4 : pile.drop (pile.length - 1 - i) = pile[pile.length - 1 - i] :: pile.drop (pile.length - i) := by rw [List.drop_eq_getElem_cons hp, ← e1]
      have hmem := h2 _ (List.getElem_mem hp)
      rw [e2, e3, List.reverse_append, surN, List.getElem?_eq_getElem hp, e4]
      generalize pile[pile.length - 1 - i] = x at *
      generalize pile.drop (pile.length - i) = D at *
      show uldGo (x :: (pile.take (pile.length - 1 - i)).reverse) _ _ = _
      rw [uldGo]
      by_cases hx : x ∈ D
      · rw [if_neg (by intro q; have := (List.mem_filter.mp q).2; simp at this; exact this hx)]
        simp only [hx, if_true]
        congr 1
        apply List.filter_congr
        intro t _
        by_cases ht : t = x
        · subst ht; simp [hx]
        · simp [ht]
      · rw [if_pos (List.mem_filter.mpr ⟨hmem, by simpa using hx⟩)]
        simp only [hx, if_false, List.append_nil]
        congr 1
        rw [List.Nodup.erase_eq_filter (hn.filter _), List.filter_filter]
        apply List.filter_congr
        intro t _
        by_cases ht : t = x
        · subst ht; simp
        · simp [ht]
  have := key pile.length (Nat.le_refl _)
  rw [this, Nat.sub_self, List.take_zero, List.drop_zero, List.reverse_nil, uldGo]
  rw [List.filter_eq_nil_iff.mpr]
  intro t ht
  simp [h1 t ht]
theorem dif_spec {pile taken : List Str} (hn : taken.Nodup) (h2 : ∀ t ∈ pile, t ∈ taken) : difs pile taken = (firstN pile pile.length).filterMap (dupOf pile) := by
  unfold difs
  apply filterMap_eq
  intro x hx
  have hxp := firstN_mem _ _ x hx
  have h1 : taken.count x = 1 := by rw [hn.count, if_pos (h2 x hxp)]
  have hpos : 0 < pile.count x := List.count_pos_iff.mpr hxp
  unfold difOf dupOf
  rw [h1]
  by_cases h : pile.count x = 1
  · rw [if_pos h, if_neg (by lia)]
  · rw [if_neg h, if_pos (by lia)]
theorem nm_eq (s0 s1 : Nat) : nmOf s0 s1 = [[], [s0], [s1], [s0, s0], [s0, s1], [s1, s0], [s1, s1], [s0, s0, s0], [s0, s0, s1], [s0, s1, s0], [s0, s1, s1], [s1, s0, s0], [s1, s0, s1], [s1, s1, s0], [s1, s1, s1]] := rfl
theorem tx_inj3 {a b : List Nat} (h : tx a = tx b) : a = b := by
  have := congrArg (fun s : Str => s.cps.toList) h
  simpa using this
noncomputable def nmB : List (List Bool) := [[], [false], [true], [false, false], [false, true], [true, false], [true, true], [false, false, false], [false, false, true], [false, true, false], [false, true, true], [true, false, false], [true, false, true], [true, true, false], [true, true, true]]
theorem mapB_inj {s0 s1 : Nat} (h : s0 ≠ s1) : ∀ {a b : List Bool}, a.map (fun c => cond c s1 s0) = b.map (fun c => cond c s1 s0) → a = b
  | [], [], _ => rfl
  | [], _ :: _, e => nomatch e
  | _ :: _, [], e => nomatch e
  | x :: a, y :: b, e => by
    rw [List.map_cons, List.map_cons, List.cons.injEq] at e
    have hx : x = y := by
      cases x <;> cases y
      · rfl
      · exact absurd e.1 h
      · exact absurd e.1.symm h
      · rfl
    rw [hx, mapB_inj h e.2]
theorem nm_nodup {s0 s1 : Nat} (h : s0 ≠ s1) : ((nmOf s0 s1).map tx).Nodup := by
  rw [show nmOf s0 s1 = nmB.map (fun l => l.map (fun c => cond c s1 s0)) from rfl, List.map_map]
  exact List.Pairwise.map _ (fun a b hab e => hab (mapB_inj h (tx_inj3 e))) (by decide +kernel : nmB.Nodup)
theorem nm_small {s0 s1 : Nat} : ∀ x ∈ nmOf s0 s1, x.length ≤ 3 := by
  rw [nm_eq]
  simp
/-- the signs of the table -/
noncomputable def SignOk (c : Nat) : Prop := c < 128 ∧ c ≠ 91 ∧ c ≠ 42 ∧ c ≠ 63
theorem tbl_ok : ∀ c ∈ tbl, c < 128 ∧ c ≠ 91 ∧ c ≠ 42 ∧ c ≠ 63 := by decide
theorem sgn_ok (a i : Nat) : SignOk (sgnAt a i) := by
  have hlt : (a + i) % 18 < tbl.length := Nat.mod_lt _ (by decide)
  have : sgnAt a i ∈ tbl := by
    unfold sgnAt
    rw [List.getD_eq_getElem?_getD, List.getElem?_eq_getElem hlt]
    exact List.getElem_mem hlt
  exact tbl_ok _ this
theorem tbl_ne : ∀ r < 18, tbl.getD r 0 ≠ tbl.getD ((r + 1) % 18) 0 := by decide
theorem sgn_ne (a : Nat) : sgnAt a 0 ≠ sgnAt a 1 := by
  unfold sgnAt
  have h := tbl_ne (a % 18) (Nat.mod_lt _ (by decide))
  rwa [Nat.add_zero, show (a + 1) % 18 = (a % 18 + 1) % 18 by lia]
theorem plain_ok {s0 s1 : Nat} (h0 : SignOk s0) (h1 : SignOk s1) (hne : s0 ≠ s1) {cs : List Nat} (hc : cs.length ≤ 6) : PlainOk s0 s1 cs := by
  have D := drawnOk s0 s1 cs
  have al : ∀ c ∈ itemsOf s0 s1 cs, c < 128 ∧ c ≠ 91 := fun c hc => by
    rcases D.al1 c hc with rfl | rfl | rfl | rfl
    · decide
    · decide
    · exact ⟨h0.1, h0.2.1⟩
    · exact ⟨h1.1, h1.2.1⟩
  have al2 : ∀ c ∈ patOf s0 s1 cs, c < 128 ∧ c ≠ 91 := fun c hc => by
    rcases D.al2 c hc with rfl | rfl | rfl | rfl
    · decide
    · decide
    · exact ⟨h0.1, h0.2.1⟩
    · exact ⟨h1.1, h1.2.1⟩
  have Fl := filled_ok (p := fun c => c < 128 ∧ c ≠ 91) (by decide) (itemsOf s0 s1 cs) al
  have hgap : 2 * (itemsOf s0 s1 cs).count 42 ≤ (itemsOf s0 s1 cs).length + 1 := by
    have hg := D.gap
    change 2 * (itemsOf s0 s1 cs).count 42 ≤ (itemsOf s0 s1 cs).length + _ at hg
    split at hg <;> lia
  have hfew : (itemsOf s0 s1 cs).length ≤ 3 + (itemsOf s0 s1 cs).count 42 := D.few
  have h4 : (itemsOf s0 s1 cs).count 42 ≤ 4 := by lia
  have hpow : 4 ^ (itemsOf s0 s1 cs).count 42 ≤ 4 ^ 4 := Nat.pow_le_pow_right (by decide) h4
  have hfl : (filled (itemsOf s0 s1 cs)).length ≤ 256 := by
    have := Fl.len
    simp only [List.length_singleton, Nat.mul_one] at this
    lia
  have hnd := nm_nodup hne
  have hM : ∀ x ∈ nmOf s0 s1, (pilesOf s0 s1 cs).count (tx x) = M (itemsOf s0 s1 cs) x := fun x hx => by
    unfold pilesOf
    rw [count_pile hnd hx _ Fl.free, Fl.cnt x (nm_small x hx)]
    show ([[]].map fun h => M (h ++ itemsOf s0 s1 cs) x).sum = _
    simp
  have htk : ∀ x, takes (pcsOf (patOf s0 s1 cs)) (tx x) = decide (M (itemsOf s0 s1 cs) x ≠ 0) := fun x => by
    rw [show pcsOf (patOf s0 s1 cs) = segI (itemsOf s0 s1 cs) from pcs_pat s0 s1 cs, takes_M]
  have hsub : ∀ t ∈ takenOf s0 s1 cs, t ∈ pilesOf s0 s1 cs := fun t ht => by
    obtain ⟨hm, hp⟩ := List.mem_filter.mp ht
    obtain ⟨x, hx, rfl⟩ := List.mem_map.mp hm
    rw [htk, decide_eq_true_eq] at hp
    rw [← List.count_pos_iff, hM x hx]
    lia
  have hsup : ∀ t ∈ pilesOf s0 s1 cs, t ∈ takenOf s0 s1 cs := fun t ht => by
    have hm := pile_mem ht
    refine List.mem_filter.mpr ⟨hm, ?_⟩
    obtain ⟨x, hx, rfl⟩ := List.mem_map.mp hm
    rw [htk, decide_eq_true_eq, ← hM x hx]
    have := List.count_pos_iff.mpr ht
    lia
  have hnt : (takenOf s0 s1 cs).Nodup := hnd.filter _
  have hnl : (nmOf s0 s1).length = 15 := rfl
  refine ⟨by lia, by rw [hnl]; decide, fun x hx => by have := nm_small x hx; lia, hnd, hfl, fun f hf => by have := Fl.small f hf; lia, Fl.al, ?_, al2, ?_, ?_, hsub, fun x hx => by rw [hM x hx, waysOf_M], dif_spec hnt hsup, uld_spec hnt hsub hsup⟩
  · have := pat_len s0 s1 cs
    unfold patOf
    lia
  · have key : ∀ fl : List (List Nat), (pileOf fl ((nmOf s0 s1).map tx)).length ≤ 15 * fl.length := fun fl => by
      induction fl with
      | nil => simp [pileOf]
      | cons f r ih =>
        have e : pileOf (f :: r) ((nmOf s0 s1).map tx) = ((nmOf s0 s1).map tx).filter (takes (pcsOf f)) ++ pileOf r ((nmOf s0 s1).map tx) := by simp only [pileOf, List.flatMap_cons]
        rw [e, List.length_append, List.length_cons]
        have := List.length_filter_le (takes (pcsOf f)) ((nmOf s0 s1).map tx)
        rw [List.length_map, hnl] at this
        lia
    have := key (filled (itemsOf s0 s1 cs))
    unfold pilesOf
    lia
  · have := List.length_filter_le (takes (pcsOf (patOf s0 s1 cs))) ((nmOf s0 s1).map tx)
    rw [List.length_map, hnl] at this
    unfold takenOf
    lia
theorem plain_all (cs : List Nat) (hc : cs.length ≤ 6) : PlainOk (sgnAt (atN cs) 0) (sgnAt (atN cs) 1) cs := plain_ok (sgn_ok _ _) (sgn_ok _ _) (sgn_ne _) hc
end Mine
namespace Mine
theorem mk_no (P : Params) : ∀ x ∈ bNames, nsIn (misK P) 3 x = some none := by
  intro x hx
  simp only [bNames, List.mem_cons, List.not_mem_nil, or_false] at hx
  rcases hx with rfl | rfl | rfl | rfl | rfl | rfl | rfl | rfl | rfl | rfl | rfl | rfl | rfl | rfl <;> kernel_rfl
noncomputable def dPos (i : Nat) : Pos := match stmtAt i with | .FunctionDef _ _ _ _ _ _ _ _ _ p => p | _ => default
noncomputable def dRec (i : Nat) : DefRec := ⟨dName i, dArgs i, dBody i, dScope i, dPos i⟩
theorem lib_of {q : Program} {loose : List Str} {mean : ExcName → Option Value} {mg mb : Str → Option Value} {h : Heap} {P : Params} (T : Top q loose mean mg mb h) (X : (misK P).In h) (hq : ∀ i ∈ fnIdx, (recsOf q).find? (·.name == dName i) = some (dRec i)) : ∃ ad, Lib ad mg mb h := by
  refine ⟨fun i => match mg (dName i) with | some (.ref a) => a | _ => 0, T.g, T.b, T.nolimit, T.builtins, fun x hx => mg_none_of X T.g (mk_no P x hx), fun i hi => ?_⟩
  obtain ⟨a, o, pm, cd, doc, h1, h2, h3, h4⟩ := T.fn (dRec i) (List.mem_of_find?_eq_some (hq i hi))
  replace h1 : mg (dName i) = some (.ref a) := h1
  rw [h1]
  exact ⟨rfl, o, pm, cd, doc, h2, h3, h4⟩
noncomputable def keyI (e : DictEntry) : Int := match e.key with | .int k _ => k | _ => 0
noncomputable def intsOk (es : List DictEntry) : Bool := es.all fun e => (match e.key with | .int k _ => e.hash == hashInt k | _ => false)
theorem dict_ints {prog : Program} {w : World} {h : Heap} {a : Addr} {es : List DictEntry} {n : Nat} (ha : h.get? a = some { cls := .type "dict", data := .dict es.toArray n }) (hok : intsOk es = true) (hn : (es.map keyI).Nodup) : h.DictOf (intKind prog w) a (es.map fun e => (keyI e, e.val)) := by
  have key : ∀ e ∈ es, ∃ k t, e.key = .int k t ∧ e.hash = hashInt k := fun e he => by
    have := List.all_eq_true.mp hok e he
    cases hk : e.key with
    | int k t => rw [hk] at this; exact ⟨k, t, rfl, beq_iff_eq.mp this⟩
    | _ => rw [hk] at this; cases this
  refine ⟨_, es.toArray, n, ha, ⟨rfl, rfl, rfl⟩, rfl, fun e he => ?_, ?_, ?_⟩
  · obtain ⟨k, t, h1, h2⟩ := key e (by simpa using he)
    exact ⟨k, by rw [h1]; simp [intKind, PySem.Value.isInt], h2⟩
  · show Pairs (intKind prog w) es _
    clear ha hok hn
    induction es with
    | nil => exact .nil
    | cons e r ih =>
      obtain ⟨k, t, h1, _⟩ := key e List.mem_cons_self
      rw [List.map_cons]
      exact .cons (by simp [keyI, h1, intKind, PySem.Value.isInt]) rfl (ih fun e he => key e (List.mem_cons_of_mem _ he))
  · rw [List.map_map]
    exact hn
noncomputable def spEs (P : Params) : List DictEntry := match (misK P).lookup 52 with | some ⟨_, _, .dict es _, _⟩ => es.toList | _ => []
noncomputable def spN (P : Params) : Nat := match (misK P).lookup 52 with | some ⟨_, _, .dict _ n, _⟩ => n | _ => 0
theorem sp_obj (P : Params) : ∃ n, (misK P).lookup 52 = some { cls := .type "dict", data := .dict (spEs P).toArray n } := ⟨spN P, by kernel_rfl⟩
noncomputable def spOk (es : List DictEntry) : Bool := intsOk es && decide ((es.map keyI).Nodup) && (List.range 128).all fun c => match valueAt (es.map fun e => (keyI e, e.val)) (c : Int) with
  | some (.str x _) => special c && x == ⟨#[92, c]⟩
  | none => !special c
  | _ => false
theorem sp_ok (P : Params) : spOk (spEs P) = true := by kernel_rfl
theorem sp_of {w : World} {mg : Str → Option Value} {h : Heap} (X : (misK w.params).In h) (G : h.Ns mainGlobals mg) : Sp w mg h := by
  obtain ⟨n, ho⟩ := sp_obj w.params
  have hk := sp_ok w.params
  unfold spOk at hk
  rw [Bool.and_eq_true, Bool.and_eq_true, decide_eq_true_eq] at hk
  obtain ⟨⟨h1, h2⟩, h3⟩ := hk
  have hd := dict_ints (prog := prg) (w := w) (X _ _ ho) h1 h2
  refine ⟨52, _, mg_of X G (mk_sp w.params), by decide +kernel, hd.mapOf, fun c hc => ?_⟩
  have := List.all_eq_true.mp h3 c (List.mem_range.mpr hc)
  generalize valueAt ((spEs w.params).map fun e => (keyI e, e.val)) (c : Int) = r at *
  split at this
  · rename_i x t
    rw [Bool.and_eq_true, beq_iff_eq] at this
    exact ⟨fun _ => ⟨t, by rw [this.2]⟩, fun e => by rw [e] at this; cases this.1⟩
  · refine ⟨fun e => ?_, fun _ => rfl⟩
    rw [e] at this; cases this
  · cases this
end Mine
set_option maxHeartbeats 8000000
namespace Mine
noncomputable def hook : Hook := kmHook misK [2, 3, 52, 143, 144, 196, 197, 198] misK_addrs []
theorem walk_all {q : Program} {loose : List Str} {XP : (Str → Option Value) → Heap → Prop} {d : DefRec} {kwd : List (Str × Expr)} (hdn : d.name = dName 27) (hq : ∀ i ∈ 27 :: fnIdx, (recsOf q).find? (·.name == dName i) = some (dRec i)) :
    WalkO q loose XP hook.says (PySem.Challenge.rw_ij0108_01.row).toRowW d kwd (fun f vs => PySem.call f vs) := by
  intro w s₀ s₁ mg mb G Y fa o pm cd doc dV kV ho hd hcd hD hmg hg args vals as hpre hlay hrd hwl hlo
  have X : (misK w.params).In s₁.heap := km_in_of Y
  have T := G.T
  obtain ⟨ad, l⟩ := lib_of T X (fun i hi => hq i (List.mem_cons_of_mem _ hi))
  have hf : FnObj s₁.heap 27 fa := by
    obtain ⟨a', o', pm', cd', doc', h1, h2, h3, h4⟩ := T.fn (dRec 27) (List.mem_of_find?_eq_some (hq 27 List.mem_cons_self))
    rw [show mg (dRec 27).name = some (.ref fa) from (by rw [← hmg, hdn]; rfl)] at h1
    cases h1
    exact ⟨o', pm', cd', doc', h2, h3, h4⟩
  have sp : Sp w mg s₁.heap := sp_of X T.g
  have hmm : mg "_Mismatch" = some (.ref 197) := mg_of X T.g (mk_mm w.params)
  clear ho hd hcd hD hmg T G Y
  wrow_args hpre hlay hrd hwl hlo
  refine enter_call ?_
  rename_i xs _ _ _ _ _ _ _ sa vs _ hL _ _ _ hI _ hlen _
  obtain ⟨h0, gg, dd, kk, oo⟩ := s₁
  have hg' : gg = #[] := hg
  subst hg'
  have fin : ∀ h' k', (∀ b o, h0.get? b = some o → h'.get? b = some o) → GoodWG Challenge.rw_ij0108_01.row.claim (classAt s₀.heap) (ExcName.means s₀.heap) [ofPy (PyData.list (List.map PyData.int xs))] ⟨h0, #[], dd, kk, oo⟩ (.ok (.ret (.bool true))) ⟨h', #[], dd, k', oo⟩ := fun h' k' kp =>
    GoodW.toG ⟨.inl ⟨_, .bool true, [], rfl, raisesW_false (by wrow_none_raised), .bool true, (by wrow_post), unshared_nil⟩, kp, rfl, rfl⟩
  exact law_c rfl rfl (by decide) (by decide) l hf sp hmm X hL hI (by lia) (plain_all _ (cellsN_le xs)) fin
end Mine
/-! names under which the head's tactic would lay a copy of each constant: taken, so that it lays none (the compiled file stays small) -/
theorem Mine.head.tw8298303948137352768 : True := trivial
theorem Mine.head.tw11062844159666043395 : True := trivial
theorem Mine.head.tw12824857690660426397 : True := trivial
theorem Mine.head.tw10668533816033670360 : True := trivial
theorem Mine.head.tw17525636777796739105 : True := trivial
theorem Mine.head.tw6737735255597943219 : True := trivial
theorem Mine.head.tw3083302935323014018 : True := trivial
theorem Mine.head.tw14417885227837004991 : True := trivial
theorem Mine.head.tw16111715859725283846 : True := trivial
theorem Mine.head.tw13086575352542018947 : True := trivial
theorem Mine.head.tw11426403942048686318 : True := trivial
theorem Mine.head.tw1276956409769668328 : True := trivial
theorem Mine.head.tw15782939476341012554 : True := trivial
theorem Mine.head.tw4009957668330374740 : True := trivial
theorem Mine.head.tw15037083628117588352 : True := trivial
theorem Mine.head.tw17789423225533864492 : True := trivial
theorem Mine.head.tw16128420640991077102 : True := trivial
theorem Mine.head.tw17332727794074296334 : True := trivial
theorem Mine.head.tw11005904730967762025 : True := trivial
theorem Mine.head.tw5986637957666399235 : True := trivial
theorem Mine.head.tw2879759524354350568 : True := trivial
theorem Mine.head.tw14205479233844494046 : True := trivial
theorem Mine.head.tw9515422150858430662 : True := trivial
theorem Mine.head.tw17142359554024780413 : True := trivial
theorem Mine.head.tw8159583801465064534 : True := trivial
theorem Mine.head.tw7512725033676591148 : True := trivial
theorem Mine.head.tw3986194592780655508 : True := trivial
theorem Mine.head.tw3501597964444990463 : True := trivial
theorem Mine.head.tw15064752311394979489 : True := trivial
theorem Mine.head.tw11105056867450500199 : True := trivial
theorem Mine.head.tw4964814941381164201 : True := trivial
theorem Mine.head.tw7658410731251134818 : True := trivial
theorem Mine.head.tw16031315777459398524 : True := trivial
theorem Mine.head.tw7758381527925395934 : True := trivial
theorem Mine.head.tw5506250874072839755 : True := trivial
theorem Mine.head.tw7712916153251135833 : True := trivial
theorem Mine.head.tw7876399200375917224 : True := trivial
theorem Mine.head.tw18051680202136193954 : True := trivial
theorem Mine.head.tw18332285231265401824 : True := trivial
theorem Mine.head.tw13199516396595161752 : True := trivial
theorem Mine.head.tw8715499118904818895 : True := trivial
theorem Mine.head.tw12775505166333009402 : True := trivial
theorem Mine.head.tw18123143868385100064 : True := trivial
theorem Mine.head.tw10786079294511566085 : True := trivial
theorem Mine.head.tw12773685731770592110 : True := trivial
theorem Mine.head.tw8382746154173761051 : True := trivial
theorem Mine.head.tw6507506987150044280 : True := trivial
theorem Mine.head.tw7090939061502383884 : True := trivial
theorem Mine.head.tw8476099583838051002 : True := trivial
theorem Mine.head.tw15112835437128306455 : True := trivial
theorem Mine.head.tw1832916270232011604 : True := trivial
theorem Mine.head.tw3746228215898030841 : True := trivial
theorem Mine.head.tw12352672977532951062 : True := trivial
theorem Mine.head.tw9101448428047585222 : True := trivial
theorem Mine.head.tw16847831306532103052 : True := trivial
theorem Mine.head.tw8866670633112419022 : True := trivial
theorem Mine.head.tw17854896373637125580 : True := trivial
theorem Mine.head.tw8812732774380208333 : True := trivial
theorem Mine.head.tw14643560169476415855 : True := trivial
theorem Mine.head.tw17725469503822016867 : True := trivial
theorem Mine.head.tw1463646239528298992 : True := trivial
theorem Mine.head.tw11290360913936777911 : True := trivial
theorem Mine.head.tw16714887947964762639 : True := trivial
theorem Mine.head.tw5438144065070405397 : True := trivial
theorem Mine.head.tw8773370040425892893 : True := trivial
theorem Mine.head.tw12207028300977255130 : True := trivial
theorem Mine.head.tw14842460003800876886 : True := trivial
theorem Mine.head.tw10366927770000222440 : True := trivial
theorem Mine.head.tw2581250870941146908 : True := trivial
theorem Mine.head.tw7994106446794305319 : True := trivial
theorem Mine.head.tw17508272824862286709 : True := trivial
theorem Mine.head.tw3715584954343283195 : True := trivial
theorem Mine.head.tw4709128311485490483 : True := trivial
theorem Mine.head.tw9658139154387788515 : True := trivial
theorem Mine.head.tw17243387458012846398 : True := trivial
theorem Mine.head.tw9716329373054682134 : True := trivial
theorem Mine.head.tw4693820183103290663 : True := trivial
theorem Mine.head.tw497287684792784471 : True := trivial
theorem Mine.head.tw1499353310998574721 : True := trivial
theorem Mine.head.tw7494366503370351645 : True := trivial
theorem Mine.head.tw6857060684267632606 : True := trivial
theorem Mine.head.tw1212124681294104184 : True := trivial
theorem Mine.head.tw14877080517539528568 : True := trivial
theorem Mine.head.tw3688799982635324794 : True := trivial
theorem Mine.head.tw7661765248129044261 : True := trivial
theorem Mine.head.tw17782148633632673465 : True := trivial
theorem Mine.head.tw10987702880554017565 : True := trivial
theorem Mine.head.tw13988103294471073821 : True := trivial
theorem Mine.head.tw3088210815446039105 : True := trivial
theorem Mine.head.tw13942192884097748152 : True := trivial
theorem Mine.head.tw11194998557105285118 : True := trivial
theorem Mine.head.tw10018764681926925449 : True := trivial
theorem Mine.head.tw6587087628758450585 : True := trivial
theorem Mine.head.tw9702098958229961203 : True := trivial
theorem Mine.head.tw17411354535832351560 : True := trivial
theorem Mine.head.tw10015159338476511836 : True := trivial
theorem Mine.head.tw3089916443595474862 : True := trivial
theorem Mine.head.tw2260579728952749127 : True := trivial
theorem Mine.head.tw11714945338242495837 : True := trivial
theorem Mine.head.tw4196546014268931301 : True := trivial
theorem Mine.head.tw13906610036690215845 : True := trivial
theorem Mine.head.tw15296082917334920728 : True := trivial
theorem Mine.head.tw12987040726578829979 : True := trivial
theorem Mine.head.tw18416563613846182222 : True := trivial
theorem Mine.head.tw15539854500240908086 : True := trivial
theorem Mine.head.tw3160712208675142370 : True := trivial
theorem Mine.head.tw2400818531096893172 : True := trivial
theorem Mine.head.tw16997897962222511 : True := trivial
theorem Mine.head.tw8997269238129315039 : True := trivial
theorem Mine.head.tw3547240966391284428 : True := trivial
theorem Mine.head.tw467416434755642258 : True := trivial
theorem Mine.head.tw4975070653579243887 : True := trivial
theorem Mine.head.tw12865059321931465230 : True := trivial
theorem Mine.head.tw10875119458065257276 : True := trivial
theorem Mine.head.tw2994366008111725845 : True := trivial
theorem Mine.head.tw15841401105113185080 : True := trivial
theorem Mine.head.tw17348764703882912863 : True := trivial
theorem Mine.head.tw15468718075485040107 : True := trivial
theorem Mine.head.tw5487235932777146282 : True := trivial
theorem Mine.head.tw13955511503576765797 : True := trivial
theorem Mine.head.tw1852205218256702202 : True := trivial
theorem Mine.head.tw11427066125472700054 : True := trivial
theorem Mine.head.tw3973953319845086491 : True := trivial
theorem Mine.head.tw15520248196984853422 : True := trivial
theorem Mine.head.tw262713603470380999 : True := trivial
theorem Mine.head.tw4311042196063409733 : True := trivial
theorem Mine.head.tw13585267454733459922 : True := trivial
theorem Mine.head.tw15895551434495452948 : True := trivial
theorem Mine.head.tw15506723302920939300 : True := trivial
theorem Mine.head.tw10504981510240967646 : True := trivial
theorem Mine.head.tw3749026756887285471 : True := trivial
theorem Mine.head.tw2491421050496283774 : True := trivial
theorem Mine.head.tw17014734716931888790 : True := trivial
theorem Mine.head.tw4857777746444614323 : True := trivial
theorem Mine.head.tw14999265807660949796 : True := trivial
theorem Mine.head.tw13295774097974887486 : True := trivial
theorem Mine.head.tw8451290768687142514 : True := trivial
theorem Mine.head.tw315434073420411817 : True := trivial
theorem Mine.head.tw930087139818521243 : True := trivial
theorem Mine.head.tw14843749296085226474 : True := trivial
theorem Mine.head.tw14982685227137828758 : True := trivial
theorem Mine.head.tw15035418422258542911 : True := trivial
theorem Mine.head.tw2096541523181747872 : True := trivial
theorem Mine.head.tw13689084217373910675 : True := trivial
theorem Mine.head.tw9978949632667528635 : True := trivial
theorem Mine.head.tw9820158181544301314 : True := trivial
theorem Mine.head.tw3496171461512900480 : True := trivial
theorem Mine.head.tw820421773197932041 : True := trivial
theorem Mine.head.tw13353151263460963528 : True := trivial
theorem Mine.head.tw15253846138512369154 : True := trivial
theorem Mine.head.tw16984083398119652359 : True := trivial
theorem Mine.head.tw2694075680205673411 : True := trivial
theorem Mine.head.tw1319983325249436295 : True := trivial
theorem Mine.head.tw11544532188706048022 : True := trivial
theorem Mine.head.tw17015032458148788900 : True := trivial
theorem Mine.head.tw10812213935944405949 : True := trivial
theorem Mine.head.tw11296743742662292762 : True := trivial
theorem Mine.head.tw8627200689577751383 : True := trivial
theorem Mine.head.tw16782820856776367440 : True := trivial
theorem Mine.head.tw6846866878297920324 : True := trivial
theorem Mine.head.tw15735840784391694233 : True := trivial
theorem Mine.head.tw9162278640276766204 : True := trivial
theorem Mine.head.tw4160124254940468481 : True := trivial
theorem Mine.head.tw17093656651364094606 : True := trivial
theorem Mine.head.tw3368030927266983236 : True := trivial
theorem Mine.head.tw16172288393029767808 : True := trivial
theorem Mine.head.tw1495726902847802894 : True := trivial
theorem Mine.head.tw16172356507618199906 : True := trivial
theorem Mine.head.tw12201952087667049370 : True := trivial
theorem Mine.head.tw9407594320385231609 : True := trivial
theorem Mine.head.tw1315816938146588887 : True := trivial
theorem Mine.head.tw9196398404247428943 : True := trivial
theorem Mine.head.tw3794523003379204399 : True := trivial
theorem Mine.head.tw7253898381062576733 : True := trivial
theorem Mine.head.tw8758324158161630591 : True := trivial
theorem Mine.head.tw48543519692965452 : True := trivial
theorem Mine.head.tw17826015225549371706 : True := trivial
theorem Mine.head.tw12398312691204496596 : True := trivial
theorem Mine.head.tw9145527808636388435 : True := trivial
theorem Mine.head.tw5870146547769353613 : True := trivial
theorem Mine.head.tw4965378191221513410 : True := trivial
theorem Mine.head.tw7417405269818204032 : True := trivial
theorem Mine.head.tw13605870324054321959 : True := trivial
theorem Mine.head.tw6110071263904590700 : True := trivial
theorem Mine.head.tw12359489953124434286 : True := trivial
theorem Mine.head.tw15204471325056678010 : True := trivial
theorem Mine.head.tw15894371620910866019 : True := trivial
theorem Mine.head.tw532055438628499158 : True := trivial
theorem Mine.head.tw8895791426145780158 : True := trivial
theorem Mine.head.tw5104563664521345299 : True := trivial
theorem Mine.head.tw2154566216772986472 : True := trivial
theorem Mine.head.tw17698105195316432488 : True := trivial
theorem Mine.head.tw3453547403478019728 : True := trivial
theorem Mine.head.tw11434997419882176723 : True := trivial
theorem Mine.head.tw10510622979536455646 : True := trivial
theorem Mine.head.tw13510609219080548989 : True := trivial
theorem Mine.head.tw12998212659555988865 : True := trivial
theorem Mine.head.tw3980653432952411973 : True := trivial
theorem Mine.head.tw1620002657737552111 : True := trivial
theorem Mine.head.tw17577399041416155939 : True := trivial
theorem Mine.head.tw4277651752456152607 : True := trivial
theorem Mine.head.tw5346772772824661884 : True := trivial
theorem Mine.head.tw44622916816846810 : True := trivial
theorem Mine.head.tw16894197260953374720 : True := trivial
theorem Mine.head.tw13743032657059413451 : True := trivial
theorem Mine.head.tw1909714482019496454 : True := trivial
theorem Mine.head.tw7013799640231393816 : True := trivial
theorem Mine.head.tw7833285031277912329 : True := trivial
theorem Mine.head.tw4976181008148175253 : True := trivial
theorem Mine.head.tw1211024037004892549 : True := trivial
theorem Mine.head.tw14943480678444902952 : True := trivial
theorem Mine.head.tw5906749814970224870 : True := trivial
theorem Mine.head.tw9114333099845857663 : True := trivial
theorem Mine.head.tw7119846925741900413 : True := trivial
theorem Mine.head.tw8187629637223713605 : True := trivial
theorem Mine.head.tw12949380547846470161 : True := trivial
theorem Mine.head.tw300626226527484142 : True := trivial
theorem Mine.head.tw5140934472235413692 : True := trivial
theorem Mine.head.tw13180129090757240718 : True := trivial
theorem Mine.head.tw9388430590476628193 : True := trivial
theorem Mine.head.tw14676189674455941282 : True := trivial
theorem Mine.head.tw1618804561499322139 : True := trivial
theorem Mine.head.tw10431609616501453582 : True := trivial
theorem Mine.head.tw2525317073905713282 : True := trivial
theorem Mine.head.tw16800043278716471037 : True := trivial
theorem Mine.head.tw6772502638888315869 : True := trivial
theorem Mine.head.tw14667470093908496907 : True := trivial
theorem Mine.head.tw12820901002040952943 : True := trivial
theorem Mine.head.tw6640010369347007910 : True := trivial
theorem Mine.head.tw12851702773856589430 : True := trivial
theorem Mine.head.tw3690969761935527329 : True := trivial
theorem Mine.head.tw466721876749952763 : True := trivial
theorem Mine.head.tw9103479521544129834 : True := trivial
theorem Mine.head.tw14744981736328886265 : True := trivial
theorem Mine.head.tw3512634313551410195 : True := trivial
theorem Mine.head.tw2554682012703037696 : True := trivial
theorem Mine.head.tw13412022041919118725 : True := trivial
theorem Mine.head.tw17002534310236347988 : True := trivial
theorem Mine.head.tw17646911460466567920 : True := trivial
theorem Mine.head.tw11988142204041823098 : True := trivial
theorem Mine.head.tw8414573866900348196 : True := trivial
theorem Mine.head.tw5015311536963163689 : True := trivial
theorem Mine.head.tw17113217626458354986 : True := trivial
theorem Mine.head.tw16966009324859112401 : True := trivial
theorem Mine.head.tw7523532297153676066 : True := trivial
theorem Mine.head.tw14112051064653734678 : True := trivial
theorem Mine.head.tw11692735721529064706 : True := trivial
theorem Mine.head.tw6088685845774392931 : True := trivial
theorem Mine.head.tw8408249889716310983 : True := trivial
theorem Mine.head.tw851385035628625539 : True := trivial
theorem Mine.head.tw6684978435548883818 : True := trivial
theorem Mine.head.tw1134157569726261602 : True := trivial
theorem Mine.head.tw6085824867444503733 : True := trivial
theorem Mine.head.tw533756555076263647 : True := trivial
theorem Mine.head.tw9495540839478616804 : True := trivial
theorem Mine.head.tw4307260679431091991 : True := trivial
theorem Mine.head.tw13246386896891170512 : True := trivial
theorem Mine.head.tw7704315382344345624 : True := trivial
theorem Mine.head.tw9464831228461672588 : True := trivial
theorem Mine.head.tw7287109101882759415 : True := trivial
theorem Mine.head.tw17265401458761052179 : True := trivial
theorem Mine.head.tw16072502192527678464 : True := trivial
theorem Mine.head.tw14882813523228863612 : True := trivial
theorem Mine.head.tw12024539317367501503 : True := trivial
theorem Mine.head.tw4433315090154635215 : True := trivial
theorem Mine.head.tw10021064610941686981 : True := trivial
theorem Mine.head.tw17188972718952451159 : True := trivial
theorem Mine.head.tw2326617092838664518 : True := trivial
theorem Mine.head.tw5737951250597237232 : True := trivial
theorem Mine.head.tw1919001801439425371 : True := trivial
theorem Mine.head.tw5141578139466067413 : True := trivial
theorem Mine.head.tw17297054508065495485 : True := trivial
theorem Mine.head.tw2203363585012173787 : True := trivial
theorem Mine.head.tw9592777112578238593 : True := trivial
theorem Mine.head.tw6871339299614917876 : True := trivial
theorem Mine.head.tw6588589085864783938 : True := trivial
theorem Mine.head.tw15785421084128741142 : True := trivial
theorem Mine.head.tw9353324838224930552 : True := trivial
theorem Mine.head.tw10730805705081004914 : True := trivial
theorem Mine.head.tw4528443807372415038 : True := trivial
theorem Mine.head.tw2728595385866086531 : True := trivial
theorem Mine.head.tw14492117785962260688 : True := trivial
theorem Mine.head.tw1626232751844553403 : True := trivial
theorem Mine.head.tw12264792733140247891 : True := trivial
theorem Mine.head.tw16659920880120507502 : True := trivial
theorem Mine.head.tw17988201657351507238 : True := trivial
theorem Mine.head.tw9950410520057996621 : True := trivial
theorem Mine.head.tw5889021280877657681 : True := trivial
theorem Mine.head.tw5187041380464763778 : True := trivial
theorem Mine.head.tw3790771472595898956 : True := trivial
theorem Mine.head.tw8216834362191484069 : True := trivial
theorem Mine.head.tw16441004959143088680 : True := trivial
theorem Mine.head.tw5927865893512547691 : True := trivial
theorem Mine.head.tw4945251732147069371 : True := trivial
theorem Mine.head.tw15149402430504572791 : True := trivial
theorem Mine.head.tw6237802210402583469 : True := trivial
theorem Mine.head.tw14061139507663348314 : True := trivial
theorem Mine.head.tw6053349399257934933 : True := trivial
theorem Mine.head.tw3869590956505411354 : True := trivial
theorem Mine.head.tw4381510469713062047 : True := trivial
theorem Mine.head.tw16106133796442146334 : True := trivial
theorem Mine.head.tw12344544660321961925 : True := trivial
theorem Mine.head.tw7404141018258913797 : True := trivial
theorem Mine.head.tw17958272820484234708 : True := trivial
theorem Mine.head.tw12074249297620881909 : True := trivial
theorem Mine.head.tw9987851973559822609 : True := trivial
theorem Mine.head.tw7277520189549225825 : True := trivial
theorem Mine.head.tw8097174177036852075 : True := trivial
theorem Mine.head.tw12287978374625458572 : True := trivial
theorem Mine.head.tw5593727005144783397 : True := trivial
theorem Mine.head.tw807142644699662319 : True := trivial
theorem Mine.head.tw604627371996746742 : True := trivial
theorem Mine.head.tw9133290819911140118 : True := trivial
theorem Mine.head.tw16278871845796110771 : True := trivial
theorem Mine.head.tw3696042808614700290 : True := trivial
theorem Mine.head.tw12704426703380559182 : True := trivial
theorem Mine.head.tw12460202669355646752 : True := trivial
theorem Mine.head.tw18260194641540637818 : True := trivial
theorem Mine.head.tw11484797826999851062 : True := trivial
theorem Mine.head.tw16014373381606645092 : True := trivial
theorem Mine.head.tw2249667046024356820 : True := trivial
theorem Mine.head.tw14028522991509751376 : True := trivial
theorem Mine.head.tw1917425121527220963 : True := trivial
theorem Mine.head.tw10005452208157733855 : True := trivial
theorem Mine.head.tw5353729903917744248 : True := trivial
theorem Mine.head.tw17836260108008149386 : True := trivial
theorem Mine.head.tw11063524718261073790 : True := trivial
theorem Mine.head.tw5599997604879368025 : True := trivial
theorem Mine.head.tw2437478716016495240 : True := trivial
theorem Mine.head.tw17850378814381688901 : True := trivial
theorem Mine.head.tw6212921109956642855 : True := trivial
theorem Mine.head.tw8874674299285249911 : True := trivial
theorem Mine.head.tw16474958459275807246 : True := trivial
theorem Mine.head.tw6489421142724028100 : True := trivial
theorem Mine.head.tw12601080634535202701 : True := trivial
theorem Mine.head.tw14234965402570480558 : True := trivial
theorem Mine.head.tw15796087645652482245 : True := trivial
theorem Mine.head.tw16817119741492734445 : True := trivial
theorem Mine.head.tw18433677622606106133 : True := trivial
theorem Mine.head.tw1748456618969930982 : True := trivial
theorem Mine.head.tw18007968972792079559 : True := trivial
theorem Mine.head.tw4746297304354101679 : True := trivial
theorem Mine.head.tw14512941343882779238 : True := trivial
theorem Mine.head.tw10079960370226730655 : True := trivial
theorem Mine.head.tw11124748197601291601 : True := trivial
theorem Mine.head.tw8101760021730824546 : True := trivial
theorem Mine.head.tw15798066900824788120 : True := trivial
theorem Mine.head.tw3615648651819825313 : True := trivial
theorem Mine.head.tw3547030090768783262 : True := trivial
theorem Mine.head.tw12310735299239354703 : True := trivial
theorem Mine.head.tw10533634037010066435 : True := trivial
theorem Mine.head.tw5638995163158488052 : True := trivial
theorem Mine.head.tw15436542981012472205 : True := trivial
theorem Mine.head.tw5797013207949663412 : True := trivial
theorem Mine.head.tw11770459041652445329 : True := trivial
theorem Mine.head.tw8912104118211102971 : True := trivial
theorem Mine.head.tw10261356005730403935 : True := trivial
theorem Mine.head.tw8185714761375850791 : True := trivial
theorem Mine.head.tw9746458257258439470 : True := trivial
theorem Mine.head.tw9074772780463953568 : True := trivial
theorem Mine.head.tw4972248218790579157 : True := trivial
theorem Mine.head.tw6211381574409162282 : True := trivial
theorem Mine.head.tw6100774026682323163 : True := trivial
theorem Mine.head.tw15510365090734361527 : True := trivial
theorem Mine.head.tw5651425540991249520 : True := trivial
theorem Mine.head.tw14393718171448925343 : True := trivial
theorem Mine.head.tw13896987355042952010 : True := trivial
theorem Mine.head.tw16212550141715871497 : True := trivial
theorem Mine.head.tw18370829525066284710 : True := trivial
theorem Mine.head.tw18377665482554831586 : True := trivial
theorem Mine.head.tw16706938322248681445 : True := trivial
theorem Mine.head.tw14106759275552575636 : True := trivial
theorem Mine.head.tw11975876845563090790 : True := trivial
theorem Mine.head.tw587121490752477604 : True := trivial
theorem Mine.head.tw4962877761993032021 : True := trivial
theorem Mine.head.tw6217066452294943225 : True := trivial
theorem Mine.head.tw15532160837916378065 : True := trivial
theorem Mine.head.tw16747758414039768549 : True := trivial
theorem Mine.head.tw15671972229068485812 : True := trivial
theorem Mine.head.tw14865920709389126754 : True := trivial
theorem Mine.head.tw11107352082982046152 : True := trivial
theorem Mine.head.tw16643138836878064090 : True := trivial
theorem Mine.head.tw10918805792032235851 : True := trivial
theorem Mine.head.tw16924187370751998334 : True := trivial
theorem Mine.head.tw8746372584333653083 : True := trivial
theorem Mine.head.tw6958054317093949245 : True := trivial
theorem Mine.head.tw14387253260952625049 : True := trivial
theorem Mine.head.tw4936744152926930579 : True := trivial
theorem Mine.head.tw18312588684407217961 : True := trivial
theorem Mine.head.tw12583225685706671406 : True := trivial
theorem Mine.head.tw18397145594500292201 : True := trivial
theorem Mine.head.tw2483590981736569835 : True := trivial
theorem Mine.head.tw16432199283948623821 : True := trivial
theorem Mine.head.tw10648415540836062769 : True := trivial
theorem Mine.head.tw5569992402112668024 : True := trivial
theorem Mine.head.tw13256568369750436767 : True := trivial
theorem Mine.head.tw1547790952514024813 : True := trivial
theorem Mine.head.tw9486020189913756051 : True := trivial
theorem Mine.head.tw9929037282122898367 : True := trivial
theorem Mine.head.tw8216097648270762014 : True := trivial
theorem Mine.head.tw12169159797338600327 : True := trivial
theorem Mine.head.tw2904568299773088208 : True := trivial
theorem Mine.head.tw2014290360899714077 : True := trivial
theorem Mine.head.tw2218057530078777247 : True := trivial
theorem Mine.head.tw9923701361305647377 : True := trivial
theorem Mine.head.tw3737903218282963058 : True := trivial
theorem Mine.head.tw7457552020886230888 : True := trivial
theorem Mine.head.tw12127202465691054869 : True := trivial
theorem Mine.head.tw8600888132176998335 : True := trivial
theorem Mine.head.tw3306014811536218513 : True := trivial
theorem Mine.head.tw6973584914630602586 : True := trivial
theorem Mine.head.tw6410385484051396443 : True := trivial
set_option Elab.async true
theorem Mine.head : PySem.Challenge.rw_ij0108_01.Holds := by
  w_on; o_law; o_head (Mine.hook); (case hw => w_witness2)
  refine Mine.walk_all (by kernel_rfl) ?_
  intro i hi
  simp only [Mine.fnIdx, List.mem_cons, List.not_mem_nil, or_false] at hi
  rcases hi with rfl | rfl | rfl | rfl | rfl | rfl | rfl | rfl | rfl | rfl | rfl | rfl | rfl | rfl | rfl | rfl <;> kernel_rfl
theorem PySem.Challenge.cw_ij0108_01_holds : PySem.Challenge.rw_ij0108_01.Holds := by
  exact Mine.head

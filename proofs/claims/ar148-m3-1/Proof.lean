import JvmDerived
import JvmDerived.Pilot.@@N@@Statement
import JvmDerived.Pilot.@@N@@Code
set_option linter.unusedVariables false
set_option linter.unusedSimpArgs false
@@BLOCK:TracedD.lean.txt@@
namespace Jvm.RoadKit
open Sem ClassFile Op Lib Jvm.Stand Jvm.Free Jvm.LawKit Bundle Jvm.Free.Exc
open LibCode.Throwable
/-- the words that the filling of a stack trace asks here, of an object of class rc -/
def thW (rc : String) : List Jvm.Cond := [
  .initialized tN, .superclass tN "java/lang/Object", .instanceMethod tFill, .codeSync tFill Fill.code 1 (some (.object tN)), .instanceMethod tFill0, .native tFill0,
  .instanceMethod oInit, .code oInit ⟨#[0xb1]⟩ 1 none, .methodLink tN 1 oInit, .methodLink tN 27 tFill, .methodLink tN 202 tFill0,
  .fieldLink tN 7 tN "cause" thD, .fieldLink tN 17 tN "stackTrace" steD, .fieldLink tN 24 tN "suppressedExceptions" listD, .fieldLink tN 198 tN "backtrace" obD,
  .fieldLink tN 13 tN "UNASSIGNED_STACK" steD, .laysStatic tN "UNASSIGNED_STACK" steD, .fieldLink tN 20 tN "SUPPRESSED_SENTINEL" listD, .laysStatic tN "SUPPRESSED_SENTINEL" listD,
  .lays rc tN "cause" thD, .lays rc tN "stackTrace" steD, .lays rc tN "suppressedExceptions" listD, .lays rc tN "detailMessage" msgD, .lays rc tN "backtrace" obD, .lays rc tN "depth" "I",
  .arrayOver (.object "java/lang/Object"), .soleField tN "backtrace", .soleField tN "depth", .selects rc tFill0 tFill0, .selects rc tFill tFill, .declares tFill]
section Fill
variable {p : Program} {l : Launch} {e : Env} {R : Room} {s : State} {m : MethodId} {args : Array Value} {below : List Frame} {meth : Method} {c : Code} {T : State} {locs : List Loc} {cells slots : Nat} {Z : State} {a0 : Array Value} {h h' : Heap}
/-- what the walk needs of Throwable's tables, out of those words -/
theorem thLinks {rc : String} {pl : Platform} (ho : pl.frameOwnsMonitors = true) (hfz : pl.finalization = false) (hpl : pl.magicAccessors = ({} : Platform).magicAccessors) (w : ∀ d ∈ thW rc, d.before a0 s = true) :
    ∃ (C : ThrowableC) (B : BackC), C.Links pl s ∧ B.Links C pl s ∧ s.vm.findClass tN = some C.cT ∧ s.methodNamed? tFill = some C.fill ∧ s.methodNamed? tFill0 = some C.fill0 ∧ (∃ i, s.fieldFound? tN "stackTrace" steD = some (C.cT, C.kT, i, C.fStack)) ∧ (∃ i, s.fieldFound? tN "UNASSIGNED_STACK" steD = some (C.cT, C.kT, i, C.fUnassigned)) ∧ (∃ i, s.fieldFound? tN "backtrace" obD = some (C.cT, C.kT, i, B.fBack)) ∧ C.kT.fields.find? (fun f => f.name == "backtrace" && !f.isStatic) = some B.fBack ∧ (∃ fd i, s.fieldFound? tN "depth" "I" = some (C.cT, C.kT, i, fd) ∧ C.kT.fields.find? (fun f => f.name == "depth" && !f.isStatic) = some fd) := by
  have g : ∀ (i : Nat) {d : Jvm.Cond}, (thW rc)[i]? = some d → d.holds a0 s none s [] = true := fun i d q => w d (List.mem_of_getElem? q)
  obtain ⟨⟨cT, j0⟩, me0, n0, m0, nat0, code0, lock0, sig0⟩ := Cond.native_spec (g 5 rfl)
  have fT : s.vm.findClass tN = some cT := findClass_of_methodNamed n0
  obtain ⟨kT, hkT, nameT⟩ := Vm.findClass_spec fT
  obtain ⟨_, k2, _, _, hk2, _, _, _, _, notI⟩ := Cond.superclass_spec fT (g 1 rfl)
  cases hkT.symm.trans hk2
  obtain ⟨jF, meF, nF, mF, atF, stF, abF, -, -⟩ := Cond.ownMethod (x := tFill) fT hkT (g 2 rfl)
  obtain ⟨meF', coF, mF', cF, byF, loF, reF, lkF, -, sigF⟩ := Cond.codeSync_spec nF (g 3 rfl)
  cases mF.symm.trans mF'
  obtain ⟨j0', me0', n0', m0', at0, st0, ab0, nm0, ds0⟩ := Cond.ownMethod (x := tFill0) fT hkT (g 4 rfl)
  cases n0.symm.trans n0'
  cases m0.symm.trans m0'
  obtain ⟨mo, meO, nO, mO, stO, abO⟩ := Cond.instanceMethod_spec (g 6 rfl)
  obtain ⟨meO', coO, mO', cO, byO, loO, -, lkO, -, sigO⟩ := Cond.code_spec nO (g 7 rfl)
  cases mO.symm.trans mO'
  obtain ⟨kO, hkO, nameO⟩ := Vm.findClass_spec (findClass_of_methodNamed nO)
  obtain ⟨nmO, dsO⟩ := name_of_methodNamed nO mO
  obtain ⟨x1, y1, cf, l1, r1, hcf, p1⟩ := Cond.linkedMethod fT hkT nO (g 8 rfl) pl hpl
  obtain ⟨x27, y27, cf2, l27, r27, hcf2, p27⟩ := Cond.linkedMethod fT hkT nF (g 9 rfl) pl hpl
  cases hcf.symm.trans hcf2
  obtain ⟨x202, y202, cf3, l202, r202, hcf3, p202⟩ := Cond.linkedMethod fT hkT n0 (g 10 rfl) pl hpl
  cases hcf.symm.trans hcf3
  obtain ⟨x7, i7, f7, lk7, rg7, at7, st7, fi7, -, -, -⟩ := Cond.ownField (t := .object tN) fT hkT (by decide +kernel) (g 11 rfl) (g 19 rfl) pl hpl
  obtain ⟨x17, i17, f17, lk17, rg17, at17, st17, fi17, nm17, -, ff17⟩ := Cond.ownField (t := .array (.object "java/lang/StackTraceElement")) fT hkT (by decide +kernel) (g 12 rfl) (g 20 rfl) pl hpl
  obtain ⟨x24, i24, f24, lk24, rg24, at24, st24, fi24, nm24, -, ff24⟩ := Cond.ownField (t := .object "java/util/List") fT hkT (by decide +kernel) (g 13 rfl) (g 21 rfl) pl hpl
  obtain ⟨x198, i198, f198, lk198, rg198, at198, st198, -, nm198, -, ff198⟩ := Cond.ownField (t := .object "java/lang/Object") fT hkT (by decide +kernel) (g 14 rfl) (g 23 rfl) pl hpl
  obtain ⟨x13, i13, f13, aS, cellS, lk13, rg13, at13, st13, -, -, hsta, -, -, -, -, ff13⟩ := Cond.ownStatic (t := .array (.object "java/lang/StackTraceElement")) fT hkT (by decide +kernel) (g 15 rfl) (g 16 rfl) pl hpl
  obtain ⟨x20, i20, f20, _, _, lk20, rg20, at20, st20, -, -, -, -, -, -, -, -⟩ := Cond.ownStatic (t := .object "java/util/List") fT hkT (by decide +kernel) (g 17 rfl) (g 18 rfl) pl hpl
  obtain ⟨_, _, _, _, _, fM, _, _, _, stM, fiM, -⟩ := Cond.lays_spec (g 22 rfl)
  obtain ⟨fd, id_, ffd, fdf⟩ : ∃ fd i, s.fieldFound? tN "depth" "I" = some (cT, kT, i, fd) ∧ kT.fields.find? (fun f => f.name == "depth" && !f.isStatic) = some fd := by
    obtain ⟨_, _, cD, kD, iD, fD, _, _, ffD, stD, -⟩ := Cond.lays_spec (g 24 rfl)
    cases fT.symm.trans (Cond.lays_declared (g 24 rfl) ffD)
    obtain ⟨hkD, atD⟩ := State.fieldFound?_spec ffD
    cases hkT.symm.trans hkD
    exact ⟨fD, iD, ffD, Cond.soleField_find fT hkT (g 27 rfl) atD (State.fieldFound?_type ffD (t := .int) (by decide +kernel)).1 stD⟩
  have apart : f17.slot ≠ f24.slot := by
    have q := slot_ne (Z := s) (a0 := a0) (C := rc) (O := tN) (O' := tN) (Or.inl (w _ (List.mem_of_getElem? (i := 20) rfl))) (Or.inl (w _ (List.mem_of_getElem? (i := 21) rfl))) (by decide) (t := .array (.object "java/lang/StackTraceElement")) (t' := .object "java/util/List") (by decide) (by decide)
    simpa [slotOf, ff17, ff24] using q
  have pF : meF.sig.parameters = [] := by
    have q : (parseMethodDescriptor tFill.desc).map (·.parameters) = some [] := by decide +kernel
    rw [sigF] at q; simpa using q
  have p0 : me0.sig.parameters = [.int] := by
    have q : (parseMethodDescriptor tFill0.desc).map (·.parameters) = some [.int] := by decide +kernel
    rw [sig0] at q; simpa using q
  have pO : meO.sig.parameters.length = 0 := by
    have q : (parseMethodDescriptor oInit.desc).map (·.parameters.length) = some 0 := by decide +kernel
    rw [sigO] at q; simpa using q
  refine ⟨{ cT := cT, kT := kT, cO := cT, aS := aS, fillIdx := jF, fill0Idx := j0, initSIdx := jF, obj := mo, kObj := kO, methFill := meF, methFill0 := me0, methInitS := meF, methObj := meO, codeFill := coF, codeInitS := coF, codeObj := coO, fBack := f198, fDepth := f198, fStack := f17, fCause := f7, fSupp := f24, fMsg := fM, fUnassigned := f13, fSentinel := f20, cfT := cf, ci1 := x1, n1 := y1, ci27 := x27, n27 := y27, ci202 := x202, n202 := y202, ci7 := x7, i7 := i7, ci13 := x13, i13 := i13, ci17 := x17, i17 := i17, ci20 := x20, i20 := i20, ci24 := x24, i24 := i24 }, { ci198 := x198, i198 := i198, fBack := f198 }, ?_, ⟨lk198, rg198, at198, st198⟩, fT, nF, n0, ⟨i17, ff17⟩, ⟨i13, ff13⟩, ⟨i198, ff198⟩, Cond.soleField_find fT hkT (g 26 rfl) at198 nm198 st198, fd, id_, ffd, fdf⟩
  constructor
  case owns => exact ho
  case noFinalization => exact hfz
  case cls => exact hkT
  case name => exact nameT
  case boot => exact Vm.findClass_boot fT hkT
  case notInterface => exact notI
  case initialized => exact Cond.initialized_spec fT hkT (g 0 rfl)
  case objFound => show lookupSpecial _ _ "<init>" meO.desc = _; rw [dsO]; exact lookupSpecial_of_named nO mO stO
  all_goals assumption
theorem slotOf_at {C n d : String} {c i : Nat} {k : Class} {f : Field} (hZ : Z.Warmed39 s.vm) (hf : s.fieldFound? C n d = some (c, k, i, f)) : slotOf Z C n d = f.slot := by
  obtain ⟨c5, k5, i5, q⟩ := Jvm.Free.BdW.found_ride (U := s) (U' := Z) hZ.alike.symm ⟨c, k, i, hf⟩
  simp [slotOf, q]
set_option maxHeartbeats 4000000 in
/-- fillInStackTrace() on an object that the walk has made: Throwable's own six slots of it alone may differ, one cell is made -/
theorem fillL (X : Stand p l e R s m args below meth c T locs cells slots) (hx : p.tables.exec = Jvm.exec) (hl : l.stackTraces = true) (hZ : Z.Warmed39 s.vm) (hown : s.vm.findClass tN = some m.cls) {rc : String} {n : Nat} (w : ∀ d ∈ thW rc, d.before a0 Z = true) (wn : (Cond.instantiable rc n).before a0 Z = true)
    (hTK : s.vm.MethodsKnown) (hBelow : s.vm.FramesKnown below) (hT0 : ThS Z s.heap) (eT : T.heap = h) {a ua : Addr} (E : Exa Z h a rc) (N : Unt h a) (F : Fld Z h a tN "stackTrace" steD (.ref ua)) (B : Fld Z h a tN "backtrace" obD .null) (S : Sta Z h tN "UNASSIGNED_STACK" steD (.ref ua))
    {g : JFrame} (hg : g.method = m) (hsize : g.locals.size = c.maxLocals) {rest : List Value} (hs : g.stack = .ref a :: rest) (hd : decode c.code g.pc = .ok (.invokevirtual 27, 3)) {W : Nat} (hW : 2 * g.monitorRoom + (rest.map fun v => v.category).sum ≤ W) (hf : 3 ≤ R.frames) (hlo : W + 42 ≤ R.locals) (hc : cells + 1 ≤ R.cells) (hsl : slots + 2752 ≤ R.slots) :
    ∃ (T' : State) (h' : Heap), Stand p l e R s m args below meth c T' (locs ++ sixLocs Z a) (cells + 1) (slots + 2752) ∧ T'.heap = h' ∧ Kp Z h h' a ∧
      ∀ target, Steps p.tables e below (T'.setTop { g with pc := g.pc + 3, stack := .ref a :: rest }) target → Steps p.tables e below (T.setTop g) target := by
  have ok : (thW rc).all xOk = true := rfl
  have ws : ∀ d ∈ thW rc, d.before args s = true := fun d hd => mvX hT0 hZ (List.all_eq_true.mp ok d hd) (w d hd)
  have g' : ∀ (i : Nat) {d : Jvm.Cond}, (thW rc)[i]? = some d → d.before args s = true := fun i d q => ws d (List.mem_of_getElem? q)
  have htr : e.platform.stackTraces = true := by rw [X.admits.platform]; exact hl
  obtain ⟨C, Bk, L, LB, fT, nF, n0, ⟨i17, f17⟩, ⟨i13, f13⟩, ⟨i198, f198⟩, hfb, fd, idd, ffd, hfd⟩ := thLinks (rc := rc) (a0 := args) (s := s) (pl := e.platform) (by rw [X.admits.platform]) (by rw [X.admits.platform]) (by rw [X.admits.platform]) ws
  obtain ⟨cell, u1, u2, u3⟩ := N
  obtain ⟨cell1, k, x1, x2, x3, -, x5⟩ := E
  cases u1.symm.trans x1
  obtain ⟨c2, k2, y1, y2, y3, -⟩ := Cond.instantiable_spec wn
  cases x2.symm.trans y1
  cases x3.symm.trans y2
  obtain ⟨kS, hkS, eS⟩ := hZ.alike.2.2 _ _ x3
  have hfound : s.vm.findClass rc = some cell.cls := by rw [hZ.alike.findClass]; exact x2
  have hord : kS.kind = .ordinary := by rw [eS]; exact y3
  have hsz : cell.slots.size = kS.instanceTypes.size := by rw [eS]; exact x5 y3
  have tk : ∀ {f : Field} {v : Value}, Jvm.Takes s (freshCell cell.cls kS) f v → Jvm.Takes s cell f v := fun {f v} q => ⟨by have q1 := q.1; simp only [freshCell, Array.size_map] at q1; rw [hsz]; exact q1, by have q2 := q.2; simp only [freshCell] at q2; rw [u2]; exact q2⟩
  obtain ⟨cell2, _, _, _, fF, z1, z2, -, -, -, -, z7⟩ := F
  cases u1.symm.trans z1
  obtain ⟨_, z3, -⟩ := State.fieldFound?_setVm (s := Z) hZ.alike z2
  cases f17.symm.trans z3
  obtain ⟨cell3, _, _, _, fB, v1, v2, -, -, -, -, v7⟩ := B
  cases u1.symm.trans v1
  obtain ⟨_, v3, -⟩ := State.fieldFound?_setVm (s := Z) hZ.alike v2
  cases f198.symm.trans v3
  obtain ⟨_, _, kU, fU, st, cellS, r1, -, -, r4, r5, r6, r7⟩ := S
  obtain ⟨kU', r3, rk⟩ := State.fieldFound?_setVm (s := Z) hZ.alike r1
  cases f13.symm.trans r3
  have haS : C.aS = st := by
    have q := L.statics
    rw [rk] at q
    exact (Option.some.inj (q.symm.trans r4))
  have hneS : C.aS ≠ a := fun q => by
    rw [haS] at q; subst q; cases u1.symm.trans r5; rw [u2] at r6; cases r6
  obtain ⟨comp, cO, kO, -, -, hkO, hkind, hfO⟩ := Cond.arrayOver_spec (g' 25 rfl)
  have lay : ∀ {nm d : String} {f : Field} {c' i : Nat} {k' : Class}, s.fieldFound? tN nm d = some (c', k', i, f) → (Cond.lays rc tN nm d).before args s = true → ∀ {v : Value}, fits f.type v = true → Jvm.Takes s cell f v := fun hf' hl' v hv => tk (Takes.of_laid hkS hord (Cond.laysAt hfound hkS hf' hl').1 hv)
  have tyB := (State.fieldFound?_type f198 (t := .object "java/lang/Object") (by decide +kernel)).2
  have tyS := (State.fieldFound?_type f17 (t := .array (.object "java/lang/StackTraceElement")) (by decide +kernel)).2
  have tyD := (State.fieldFound?_type ffd (t := .int) (by decide +kernel)).2
  have hsel0 : selectMethod e.platform s.vm cell.cls C.fill0 = .method C.fill0 := by
    obtain ⟨c3, r0, m2, q1, q2, q3, q4, -⟩ := Cond.selects_spec (g' 28 rfl)
    cases q1.symm.trans hfound
    cases q2.symm.trans (State.methodFound?_of_named n0 (by decide))
    cases q3.symm.trans n0
    rw [Launch.admits_selectMethod X.admits]; exact q4
  have hSE := g' 29 rfl
  obtain ⟨v6, vm6, ⟨T6, L6, c6, n6⟩, hW6, X6, ⟨hv6, vm7, lines, hlines, hW7, hU6, hL6, hc6, hn6⟩, come⟩ := X.virtualBack hx (own := tN) (C := rc) (index := 27) (y := tFill) (z := tFill) hown (g' 9 rfl) (g' 30 rfl) (notFace_of_selects hSE) hSE (g' 2 rfl) (by decide)
    (Jvm.Free.Str.fillPays (l := l) (W := W) hx htr C L nF (u0 := ⟨.ref ua, rfl⟩) (by simp) (self := a) (cell := cell) (cellS := cellS) (fun q => by rw [u2]; simp) (by rw [u2]; simp) (by rw [u3]) (by rw [u3]) z7 hsel0 hneS (fun q => by rw [q] at r6; cases r6) r7
      (lay f17 (g' 20 rfl) (by rw [tyS]; rfl)) ⟨Bk, LB, v7⟩ hTK hBelow fT hfO hkO hkind hfb hfd (fun x => lay f198 (g' 23 rfl) (by rw [tyB]; rfl)) (fun x => lay ffd (g' 24 rfl) (by rw [tyD]; rfl)) hf hlo)
    hfound (b := a) ⟨cell, by rw [eT]; exact u1, rfl, by rw [u2]; rfl⟩ (g := g) hg hsize (Steps.refl _) (argsL := []) (rest := rest)
    (fun sig q => by rw [show parseMethodDescriptor tFill.desc = some ⟨[], some (.object tN)⟩ from by decide +kernel] at q; rw [← Option.some.inj q]; rfl) hs hW hd
    (fun vmx hWx => ⟨rfl, hc, hsl, by show T.heap[a]? = _; rw [eT]; exact u1, by show T.heap[C.aS]? = _; rw [eT, haS]; exact r5⟩)
  dsimp only [Pt.U, Pt.locs, Pt.cells, Pt.slots] at X6 hU6 hL6 hc6 hn6 come
  subst hv6 hL6 hc6 hn6
  have eh : T6.heap = (h.push (traceHolder cO lines)).setIfInBounds a (Jvm.Free.Str.filledOn C.toThrowableT Bk.fBack fd cell ⟨.ref ua, rfl⟩ T.heap.size lines.length.toInt32) := by
    rw [hU6, ← eT]; rfl
  have s1 := slotOf_at hZ f198
  have s2 := slotOf_at hZ ffd
  have s3 := slotOf_at hZ f17
  have K : Kp Z h T6.heap a := by
    refine ⟨by rw [eh]; simp, fun y cy hy => ?_⟩
    have hlt := (Array.getElem?_eq_some_iff.mp hy).1
    have hp : (h.push (traceHolder cO lines))[y]? = some cy := by rw [Array.getElem?_push_lt hlt]; exact (Array.getElem?_eq_getElem _).symm.trans hy
    by_cases q : y = a
    · subst q
      cases u1.symm.trans hy
      refine ⟨Jvm.Free.Str.filledOn C.toThrowableT Bk.fBack fd cell ⟨.ref ua, rfl⟩ T.heap.size lines.length.toInt32, by rw [eh]; simp [Nat.lt_succ_of_lt hlt], rfl, by simp [Jvm.Free.Str.filledOn, Cell.setSlot], fun z => absurd rfl z, fun i hi => ?_⟩
      have a1 := hi ("backtrace", obD) (by simp [sixNames])
      have a2 := hi ("depth", "I") (by simp [sixNames])
      have a3 := hi ("stackTrace", steD) (by simp [sixNames])
      rw [s1] at a1
      rw [s2] at a2
      rw [s3] at a3
      simp [Jvm.Free.Str.filledOn, Cell.setSlot, Array.getElem?_setIfInBounds, a1, a2, a3]
    · refine ⟨cy, by rw [eh, Array.getElem?_setIfInBounds_ne (Ne.symm q)]; exact hp, rfl, rfl, fun _ => rfl, fun _ _ => rfl⟩
  have hx6 : ∀ x ∈ ([⟨a, Bk.fBack.slot⟩, ⟨a, fd.slot⟩, ⟨a, C.fStack.slot⟩] : List Loc), x ∈ sixLocs Z a := fun x q => by
    simp only [List.mem_cons, List.not_mem_nil, or_false] at q
    rcases q with rfl | rfl | rfl
    · exact List.mem_map.mpr ⟨("backtrace", obD), by simp [sixNames], by rw [s1]⟩
    · exact List.mem_map.mpr ⟨("depth", "I"), by simp [sixNames], by rw [s2]⟩
    · exact List.mem_map.mpr ⟨("stackTrace", steD), by simp [sixNames], by rw [s3]⟩
  refine ⟨T6, _, ({ X6 with same := X6.same.sift fun x q => Or.inl ((List.mem_append.mp q).elim (List.mem_append_left _) fun q => List.mem_append_right _ (hx6 x q)) } : Stand p l e R s m args below meth c T6 (locs ++ sixLocs Z a) (cells + 1) (slots + (traceHolder cO lines).slots.size)).more (Nat.le_refl _) (Nat.add_le_add_left (traceHolder_size_le cO hlines) _), rfl, K, fun target q => come.trans q⟩
/-- a field of the class's own lies apart from Throwable's six -/
theorem six_apart {rc O n d : String} {ty : FieldType} (w : ∀ x ∈ thW rc, x.before a0 Z = true) (Lf : Laid Z a0 rc O n d) (ht : parseFieldDescriptor d = some ty) (hn : ∀ nd ∈ sixNames, nd.1 ≠ n) : ∀ nd ∈ sixNames, slotOf Z tN nd.1 nd.2 ≠ slotOf Z O n d := fun nd hm => by
  have q := hn nd hm
  simp only [sixNames, List.mem_cons, List.not_mem_nil, or_false] at hm
  rcases hm with rfl | rfl | rfl | rfl | rfl | rfl
  · exact slot_ne (Or.inl (w _ (List.mem_of_getElem? (i := 19) rfl))) Lf q (t := .object tN) (by decide) ht
  · exact slot_ne (Or.inl (w _ (List.mem_of_getElem? (i := 20) rfl))) Lf q (t := .array (.object "java/lang/StackTraceElement")) (by decide) ht
  · exact slot_ne (Or.inl (w _ (List.mem_of_getElem? (i := 21) rfl))) Lf q (t := .object "java/util/List") (by decide) ht
  · exact slot_ne (Or.inl (w _ (List.mem_of_getElem? (i := 23) rfl))) Lf q (t := .object "java/lang/Object") (by decide) ht
  · exact slot_ne (Or.inl (w _ (List.mem_of_getElem? (i := 24) rfl))) Lf q (t := .int) (by decide) ht
  · exact slot_ne (Or.inl (w _ (List.mem_of_getElem? (i := 22) rfl))) Lf q (t := .object "java/lang/String") (by decide) ht
end Fill
end Jvm.RoadKit
namespace Jvm.RoadKit
open Sem ClassFile Op Lib Jvm.Stand Jvm.Free Jvm.LawKit
section New
variable {p : Program} {l : Launch} {e : Env} {R : Room} {s : State} {m : MethodId} {args : Array Value} {below : List Frame} {meth : Method} {c : Code} {T : State} {locs : List Loc} {cells slots : Nat}
theorem retI (X : Stand p l e R s m args below meth c T locs cells slots) (hx : p.tables.exec = Jvm.exec) {pc : Nat} {Ls : Array Slot} {z : Int32} {rest : List Value} (hret : meth.sig.returnType = some .int) (hd : decode c.code pc = .ok (.ireturn, 1)) {fs : List Frame}
    (hl : ∀ (f : JFrame) (acts : List Action), f.method = m → f.locked = none → f.entered = [] → (doReturn e (T.setTop f) acts (some (.int z))).1 = T.setFrames fs) : Steps p.tables e below (T.setTop (mkF m pc Ls (.int z :: rest))) (T.setFrames fs) := by
  have hm' : T.vm.method? m = some meth := X.method'
  have hn : narrow .int (.int z) = .int z := rfl
  show Steps p.tables e below (T.setTop { method := m, pc := pc, locals := Ls, stack := _ :: rest, locked := none }) _
  jvm_step X.here [X.here.top, hx, hd, hm', hret, hn]
  first | (intro acts; rw [hl _ acts rfl rfl rfl]) | rw [hl _ _ rfl rfl rfl]
  exact Steps.refl _
end New
end Jvm.RoadKit
namespace Jvm.Pilot.@@N@@
open Jvm Jvm.ClassFile Sem Op Lib Jvm.Free Jvm.Stand Jvm.LawKit Jvm.RoadKit Bundle Jvm.Pilot.@@N@@.Jvm.D
abbrev SS (p : Program) (e : Env) (below : List Frame) (T : State) (f : JFrame) (t : State) : Prop := Steps p.tables e below (T.setTop f) t
theorem wi {Z : State} {a0 : Array Value} (hw : ∀ d ∈ tables_1, d.before a0 Z = true) (i : Nat) {d : Jvm.Cond} (h : tables_1[i]? = some d) : d.before a0 Z = true := hw _ (List.mem_of_getElem? h)
theorem own_b8 (x : Int32) : (x.toInt8.toInt32).toInt8.toInt32 = x.toInt8.toInt32 := by simp
theorem d_jdk_52_method_21_0 : decode jdk_52_method_21_code 0 = .ok (.iconst 0, 1) := by decide +kernel
theorem d_jdk_52_method_21_1 : decode jdk_52_method_21_code 1 = .ok (.istore 5, 2) := by decide +kernel
theorem d_jdk_52_method_21_3 : decode jdk_52_method_21_code 3 = .ok (.iload 5, 2) := by decide +kernel
theorem d_jdk_52_method_21_5 : decode jdk_52_method_21_code 5 = .ok (.iload 4, 2) := by decide +kernel
theorem d_jdk_52_method_21_7 : decode jdk_52_method_21_code 7 = .ok (.if_icmp .ge 37, 3) := by decide +kernel
theorem d_jdk_52_method_21_10 : decode jdk_52_method_21_code 10 = .ok (.aload_n 0, 1) := by decide +kernel
theorem d_jdk_52_method_21_11 : decode jdk_52_method_21_code 11 = .ok (.iload_n 1, 1) := by decide +kernel
theorem d_jdk_52_method_21_12 : decode jdk_52_method_21_code 12 = .ok (.caload, 1) := by decide +kernel
theorem d_jdk_52_method_21_13 : decode jdk_52_method_21_code 13 = .ok (.istore 6, 2) := by decide +kernel
theorem d_jdk_52_method_21_15 : decode jdk_52_method_21_code 15 = .ok (.iload 6, 2) := by decide +kernel
theorem d_jdk_52_method_21_17 : decode jdk_52_method_21_code 17 = .ok (.sipush 255, 3) := by decide +kernel
theorem d_jdk_52_method_21_20 : decode jdk_52_method_21_code 20 = .ok (.if_icmp .le 6, 3) := by decide +kernel
theorem d_jdk_52_method_21_26 : decode jdk_52_method_21_code 26 = .ok (.aload_n 2, 1) := by decide +kernel
theorem d_jdk_52_method_21_27 : decode jdk_52_method_21_code 27 = .ok (.iload_n 3, 1) := by decide +kernel
theorem d_jdk_52_method_21_28 : decode jdk_52_method_21_code 28 = .ok (.iload 6, 2) := by decide +kernel
theorem d_jdk_52_method_21_30 : decode jdk_52_method_21_code 30 = .ok (.i2b, 1) := by decide +kernel
theorem d_jdk_52_method_21_31 : decode jdk_52_method_21_code 31 = .ok (.bastore, 1) := by decide +kernel
theorem d_jdk_52_method_21_32 : decode jdk_52_method_21_code 32 = .ok (.iinc 1 1, 3) := by decide +kernel
theorem d_jdk_52_method_21_35 : decode jdk_52_method_21_code 35 = .ok (.iinc 3 1, 3) := by decide +kernel
theorem d_jdk_52_method_21_38 : decode jdk_52_method_21_code 38 = .ok (.iinc 5 1, 3) := by decide +kernel
theorem d_jdk_52_method_21_41 : decode jdk_52_method_21_code 41 = .ok (.goto (-38), 3) := by decide +kernel
theorem d_jdk_52_method_21_44 : decode jdk_52_method_21_code 44 = .ok (.iload 4, 2) := by decide +kernel
theorem d_jdk_52_method_21_46 : decode jdk_52_method_21_code 46 = .ok (.ireturn, 1) := by decide +kernel
theorem pn_java_lang_StringUTF16 : plainName "java/lang/StringUTF16" = true := by first | (simp [plainName, overriddenIn]; done) | decide +kernel
def Q_comp0_s2 (Z : State) (a1 : Addr) (a2 : Addr) (k1 : ClassId) (k2 : ClassId) (c0 : Int32) (c1 : Int32) (h0 : Heap) (n0 : Nat) (xv : Option Value) (xh : Heap) (xL : List Loc) : Prop := xv = some (.int (2 : Int32)) ∧ Fr n0 xL ∧ Keep h0 xh [a2] ∧ Arv Z xh a2 k2 .byte (2 : Int32) [(.int c0.toInt8.toInt32), (.int c1.toInt8.toInt32)] (.int (0 : Int32))
abbrev Lc_comp0_s2_0 (a1 : Addr) (a2 : Addr) : Array Slot := #[.val (.ref a1), .val (.int (0 : Int32)), .val (.ref a2), .val (.int (0 : Int32)), .val (.int (2 : Int32)), .unset, .unset]
abbrev Lc_comp0_s2_1 (a1 : Addr) (a2 : Addr) : Array Slot := #[.val (.ref a1), .val (.int (0 : Int32)), .val (.ref a2), .val (.int (0 : Int32)), .val (.int (2 : Int32)), .val (.int (0 : Int32)), .unset]
abbrev Lc_comp0_s2_2 (a1 : Addr) (a2 : Addr) (c0 : Int32) : Array Slot := #[.val (.ref a1), .val (.int (0 : Int32)), .val (.ref a2), .val (.int (0 : Int32)), .val (.int (2 : Int32)), .val (.int (0 : Int32)), .val (.int c0)]
abbrev Lc_comp0_s2_3 (a1 : Addr) (a2 : Addr) (c0 : Int32) : Array Slot := #[.val (.ref a1), .val (.int (1 : Int32)), .val (.ref a2), .val (.int (0 : Int32)), .val (.int (2 : Int32)), .val (.int (0 : Int32)), .val (.int c0)]
abbrev Lc_comp0_s2_4 (a1 : Addr) (a2 : Addr) (c0 : Int32) : Array Slot := #[.val (.ref a1), .val (.int (1 : Int32)), .val (.ref a2), .val (.int (1 : Int32)), .val (.int (2 : Int32)), .val (.int (0 : Int32)), .val (.int c0)]
abbrev Lc_comp0_s2_5 (a1 : Addr) (a2 : Addr) (c0 : Int32) : Array Slot := #[.val (.ref a1), .val (.int (1 : Int32)), .val (.ref a2), .val (.int (1 : Int32)), .val (.int (2 : Int32)), .val (.int (1 : Int32)), .val (.int c0)]
abbrev Lc_comp0_s2_6 (a1 : Addr) (a2 : Addr) (c1 : Int32) : Array Slot := #[.val (.ref a1), .val (.int (1 : Int32)), .val (.ref a2), .val (.int (1 : Int32)), .val (.int (2 : Int32)), .val (.int (1 : Int32)), .val (.int c1)]
abbrev Lc_comp0_s2_7 (a1 : Addr) (a2 : Addr) (c1 : Int32) : Array Slot := #[.val (.ref a1), .val (.int (2 : Int32)), .val (.ref a2), .val (.int (1 : Int32)), .val (.int (2 : Int32)), .val (.int (1 : Int32)), .val (.int c1)]
abbrev Lc_comp0_s2_8 (a1 : Addr) (a2 : Addr) (c1 : Int32) : Array Slot := #[.val (.ref a1), .val (.int (2 : Int32)), .val (.ref a2), .val (.int (2 : Int32)), .val (.int (2 : Int32)), .val (.int (1 : Int32)), .val (.int c1)]
abbrev Lc_comp0_s2_9 (a1 : Addr) (a2 : Addr) (c1 : Int32) : Array Slot := #[.val (.ref a1), .val (.int (2 : Int32)), .val (.ref a2), .val (.int (2 : Int32)), .val (.int (2 : Int32)), .val (.int (2 : Int32)), .val (.int c1)]
theorem ef_comp0_s2 (mM : MethodId) (a1 : Addr) (a2 : Addr) (k1 : ClassId) (k2 : ClassId) (c0 : Int32) (c1 : Int32) : entryFrame mM #[(.ref a1), (.int (0 : Int32)), (.ref a2), (.int (0 : Int32)), (.int (2 : Int32))] 7 = mkF mM 0 #[.val (.ref a1), .val (.int (0 : Int32)), .val (.ref a2), .val (.int (0 : Int32)), .val (.int (2 : Int32)), .unset, .unset] [] := by first | (simp [entryFrame, mkF, argsToLocals, Value.category]; done) | rfl
set_option maxRecDepth 65536 in
set_option maxHeartbeats 40000000 in
theorem rm_comp0_s2 (l : Launch) (Z : State) (a0 : Array Value) (hw : ∀ d ∈ tables_1, d.before a0 Z = true) (ws : List Jvm.Cond) (a1 : Addr) (a2 : Addr) (k1 : ClassId) (k2 : ClassId) (c0 : Int32) (c1 : Int32) (h0 : Heap) (n0 : Nat) (Z0 : n0 ≤ h0.size) (V_a1 : Arv Z h0 a1 k1 .char (2 : Int32) [(.int c0), (.int c1)] (.int (0 : Int32))) (V_a2 : Arv Z h0 a2 k2 .byte (2 : Int32) [(.int (0 : Int32)), (.int (0 : Int32))] (.int (0 : Int32))) (ne_a1_a2 : a1 ≠ a2) (g_a2 : @LE.le Nat _ n0 a2) (q0 : ¬ ((255 : Int32) < c0)) (q1 : ¬ ((255 : Int32) < c1)) :
    MetFree l (⟨"java/lang/StringUTF16", "compress", "([CI[BII)I"⟩ : MethodName) (head1 (Jvm.Cond.code (⟨"java/lang/StringUTF16", "compress", "([CI[BII)I"⟩ : MethodName) jdk_52_method_21_code 7 (some .int) :: ws) ({ frames := 0, cells := 0, slots := 0, locals := 0 } : Room)) (fun xa xU => xa = #[(.ref a1), (.int (0 : Int32)), (.ref a2), (.int (0 : Int32)), (.int (2 : Int32))] ∧ Z.Warmed39 xU.vm ∧ xU.heap = h0) (fun _ _ _ _ _ => True) (fun _ xU xo xU' => ∃ xv xL, xo = .returned xv ∧ Q_comp0_s2 Z a1 a2 k1 k2 c0 c1 h0 n0 xv xU'.heap xL ∧ FrameEnd xU xo xU' xL ({ frames := 0, cells := 0, slots := 0, locals := 0 } : Room).cells ({ frames := 0, cells := 0, slots := 0, locals := 0 } : Room).slots) := by
  refine MetFree.of_bodySF (plainFor_of_name pn_java_lang_StringUTF16) hisR ?_
  intro pP eE sS mM argS belowS methS cC s₁ Bd hml0 hP hK
  obtain ⟨rfl, hZ, hh⟩ := hP
  have hx := Bd.exec
  have hby := Bd.bytes
  have hml : cC.maxLocals = 7 := hml0
  have hown : sS.vm.findClass "java/lang/StringUTF16" = some mM.cls := findClass_of_methodNamed Bd.named
  have hnm := (name_of_methodNamed Bd.named Bd.method).1
  have X0 : Stand pP l eE ({ frames := 0, cells := 0, slots := 0, locals := 0 } : Room) sS mM #[(.ref a1), (.int (0 : Int32)), (.ref a2), (.int (0 : Int32)), (.int (2 : Int32))] belowS methS cC s₁ [] 0 0 := Stand.of_body Bd
  have e0 : s₁.heap = h0 := by rw [← hh, Bd.state]; rfl
  have N0 := Fr.nil n0
  have pre0 : ∀ t', Steps pP.tables eE belowS (s₁.setTop (mkF mM 0 #[.val (.ref a1), .val (.int (0 : Int32)), .val (.ref a2), .val (.int (0 : Int32)), .val (.int (2 : Int32)), .unset, .unset] [])) t' → Steps pP.tables eE belowS (s₁.setTop (entryFrame mM #[(.ref a1), (.int (0 : Int32)), (.ref a2), (.int (0 : Int32)), (.int (2 : Int32))] 7)) t' := fun t' kk' => castTop (ef_comp0_s2 mM a1 a2 k1 k2 c0 c1) kk'
  obtain ⟨cl101, Ar101, q101, S101, Ng101, Ha101, Ga101⟩ := id V_a1
  have hin101 : ¬ ((0 : Int32) < 0 ∨ cl101.slots.size ≤ ((0 : Int32)).toNatClampNeg) := inb_of S101 ⟨by decide, by decide⟩
  have hat101 : cl101.slots[((0 : Int32)).toNatClampNeg]? = some (.int c0) := Ha101.at hin101 (rfl)
  obtain ⟨cl102, Ar102, q102, S102, Ng102, Ha102, Ga102⟩ := id V_a2
  have hin102 : ¬ ((0 : Int32) < 0 ∨ cl102.slots.size ≤ ((0 : Int32)).toNatClampNeg) := inb_of S102 ⟨by decide, by decide⟩
  obtain ⟨T103, h103, X103, e103, W103, st103⟩ := stB X0 hx hZ e0 Ar102 (j := (0 : Int32)) hin102 (g := (mkF mM 31 (Lc_comp0_s2_2 a1 a2 c0) [(.int (c0.toInt8.toInt32)), (.int (0 : Int32)), (.ref a2)])) rfl rfl (hb hby d_jdk_52_method_21_31)
  have Sz1 : h0.size ≤ h103.size := Nat.le_of_eq (Wr.size W103).symm
  have Vs103 := Arv.set Ar102 q102 S102 Ng102 Ha102 Ga102 (fits_nar_byte _) W103 0 rfl (Nat.le_of_ble_eq_true rfl)
  have Vt103 : Arv Z h103 a2 k2 .byte (2 : Int32) [(.int c0.toInt8.toInt32), (.int (0 : Int32))] (.int (0 : Int32)) := by
    have q : Arv Z h103 a2 k2 .byte (2 : Int32) [(.int (c0.toInt8.toInt32).toInt8.toInt32), (.int (0 : Int32))] (.int (0 : Int32)) := Vs103
    rw [show ((.int (c0.toInt8.toInt32).toInt8.toInt32) : Value) = (.int c0.toInt8.toInt32) from congrArg Value.int (own_b8 c0)] at q
    exact q
  have N103 := Fr.snoc X103 N0 g_a2
  have c104_V_a1 : Arv Z h103 a1 k1 .char (2 : Int32) [(.int c0), (.int c1)] (.int (0 : Int32)) := V_a1.other W103 ne_a1_a2
  obtain ⟨cl105, Ar105, q105, S105, Ng105, Ha105, Ga105⟩ := id c104_V_a1
  have hin105 : ¬ ((1 : Int32) < 0 ∨ cl105.slots.size ≤ ((1 : Int32)).toNatClampNeg) := inb_of S105 ⟨by decide, by decide⟩
  have hat105 : cl105.slots[((1 : Int32)).toNatClampNeg]? = some (.int c1) := Ha105.at hin105 (rfl)
  obtain ⟨cl106, Ar106, q106, S106, Ng106, Ha106, Ga106⟩ := id Vt103
  have hin106 : ¬ ((1 : Int32) < 0 ∨ cl106.slots.size ≤ ((1 : Int32)).toNatClampNeg) := inb_of S106 ⟨by decide, by decide⟩
  obtain ⟨T107, h107, X107, e107, W107, st107⟩ := stB X103 hx hZ e103 Ar106 (j := (1 : Int32)) hin106 (g := (mkF mM 31 (Lc_comp0_s2_6 a1 a2 c1) [(.int (c1.toInt8.toInt32)), (.int (1 : Int32)), (.ref a2)])) rfl rfl (hb hby d_jdk_52_method_21_31)
  have Sz2 : h103.size ≤ h107.size := Nat.le_of_eq (Wr.size W107).symm
  have Vs107 := Arv.set Ar106 q106 S106 Ng106 Ha106 Ga106 (fits_nar_byte _) W107 1 rfl (Nat.le_of_ble_eq_true rfl)
  have Vt107 : Arv Z h107 a2 k2 .byte (2 : Int32) [(.int c0.toInt8.toInt32), (.int c1.toInt8.toInt32)] (.int (0 : Int32)) := by
    have q : Arv Z h107 a2 k2 .byte (2 : Int32) [(.int c0.toInt8.toInt32), (.int (c1.toInt8.toInt32).toInt8.toInt32)] (.int (0 : Int32)) := Vs107
    rw [show ((.int (c1.toInt8.toInt32).toInt8.toInt32) : Value) = (.int c1.toInt8.toInt32) from congrArg Value.int (own_b8 c1)] at q
    exact q
  have N107 := Fr.snoc X107 N103 g_a2
  have K108 : Keep h0 h103 [a2] := (Keep.refl h0 [a2]).wr W103 (Or.inl (List.mem_of_getElem? (i := 0) rfl))
  have K109 : Keep h0 h107 [a2] := K108.wr W107 (Or.inl (List.mem_of_getElem? (i := 0) rfl))
  obtain ⟨fs, hr, hrun, hended, hW, hsame⟩ := X107.leave (v := some (.int (2 : Int32))) (fun h => by rw [Bd.returns] at h; cases h)
  refine ⟨_, _, pre0 _ ?_, hrun, hended, _, _, rfl, ?_, ⟨_, rfl⟩, hW, hsame.mono (by decide) (by decide)⟩
  · show SS pP eE belowS s₁ (mkF mM 0 (Lc_comp0_s2_0 a1 a2) []) _
    refine XS.iconst X0.here hx rfl (hb hby d_jdk_52_method_21_0) ?_
    show SS pP eE belowS s₁ (mkF mM 1 (Lc_comp0_s2_0 a1 a2) [(.int (0 : Int32))]) _
    refine XS.istore X0.here hx rfl (hb hby d_jdk_52_method_21_1) rfl (l' := (Lc_comp0_s2_1 a1 a2)) rfl ?_
    show SS pP eE belowS s₁ (mkF mM 3 (Lc_comp0_s2_1 a1 a2) []) _
    refine XS.iload X0.here hx rfl (hb hby d_jdk_52_method_21_3) rfl ?_
    show SS pP eE belowS s₁ (mkF mM 5 (Lc_comp0_s2_1 a1 a2) [(.int (0 : Int32))]) _
    refine XS.iload X0.here hx rfl (hb hby d_jdk_52_method_21_5) rfl ?_
    show SS pP eE belowS s₁ (mkF mM 7 (Lc_comp0_s2_1 a1 a2) [(.int (2 : Int32)), (.int (0 : Int32))]) _
    refine XS.icmpNo X0.here hx rfl (hb hby d_jdk_52_method_21_7) rfl (tlt (by decide : (0 : Int32) < (2 : Int32))).2.1 ?_
    show SS pP eE belowS s₁ (mkF mM 10 (Lc_comp0_s2_1 a1 a2) []) _
    refine XS.aloadN X0.here hx rfl (hb hby d_jdk_52_method_21_10) rfl rfl ?_
    show SS pP eE belowS s₁ (mkF mM 11 (Lc_comp0_s2_1 a1 a2) [(.ref a1)]) _
    refine XS.iloadN X0.here hx rfl (hb hby d_jdk_52_method_21_11) rfl ?_
    show SS pP eE belowS s₁ (mkF mM 12 (Lc_comp0_s2_1 a1 a2) [(.int (0 : Int32)), (.ref a1)]) _
    refine X0.caload hx (j := (0 : Int32)) (v := (.int c0)) (by rw [e0]; exact Ar101.1) (State.isArrayOf_alike hZ.alike Ar101.2.1) Ar101.2.2 hin101 hat101 (g := (mkF mM 12 (Lc_comp0_s2_1 a1 a2) [(.int (0 : Int32)), (.ref a1)])) rfl rfl (hb hby d_jdk_52_method_21_12) _ ?_
    show SS pP eE belowS s₁ (mkF mM 13 (Lc_comp0_s2_1 a1 a2) [(.int c0)]) _
    refine XS.istore X0.here hx rfl (hb hby d_jdk_52_method_21_13) rfl (l' := (Lc_comp0_s2_2 a1 a2 c0)) rfl ?_
    show SS pP eE belowS s₁ (mkF mM 15 (Lc_comp0_s2_2 a1 a2 c0) []) _
    refine XS.iload X0.here hx rfl (hb hby d_jdk_52_method_21_15) rfl ?_
    show SS pP eE belowS s₁ (mkF mM 17 (Lc_comp0_s2_2 a1 a2 c0) [(.int c0)]) _
    refine XS.sipush X0.here hx rfl (hb hby d_jdk_52_method_21_17) ?_
    show SS pP eE belowS s₁ (mkF mM 20 (Lc_comp0_s2_2 a1 a2 c0) [(.int (255 : Int32)), (.int c0)]) _
    refine XS.icmpYes X0.here hx rfl (pc0 := 20) (pc' := 26) rfl (hb hby d_jdk_52_method_21_20) rfl (flt q0).2.2.2 (by decide) (by decide) ?_
    show SS pP eE belowS s₁ (mkF mM 26 (Lc_comp0_s2_2 a1 a2 c0) []) _
    refine XS.aloadN X0.here hx rfl (hb hby d_jdk_52_method_21_26) rfl rfl ?_
    show SS pP eE belowS s₁ (mkF mM 27 (Lc_comp0_s2_2 a1 a2 c0) [(.ref a2)]) _
    refine XS.iloadN X0.here hx rfl (hb hby d_jdk_52_method_21_27) rfl ?_
    show SS pP eE belowS s₁ (mkF mM 28 (Lc_comp0_s2_2 a1 a2 c0) [(.int (0 : Int32)), (.ref a2)]) _
    refine XS.iload X0.here hx rfl (hb hby d_jdk_52_method_21_28) rfl ?_
    show SS pP eE belowS s₁ (mkF mM 30 (Lc_comp0_s2_2 a1 a2 c0) [(.int c0), (.int (0 : Int32)), (.ref a2)]) _
    refine XS.i2b X0.here hx rfl (hb hby d_jdk_52_method_21_30) rfl ?_
    show SS pP eE belowS s₁ (mkF mM 31 (Lc_comp0_s2_2 a1 a2 c0) [(.int (c0.toInt8.toInt32)), (.int (0 : Int32)), (.ref a2)]) _
    refine st103 _ ?_
    show SS pP eE belowS T103 (mkF mM 32 (Lc_comp0_s2_2 a1 a2 c0) []) _
    refine XS.iinc X103.here hx rfl (hb hby d_jdk_52_method_21_32) rfl (l' := (Lc_comp0_s2_3 a1 a2 c0)) rfl ?_
    show SS pP eE belowS T103 (mkF mM 35 (Lc_comp0_s2_3 a1 a2 c0) []) _
    refine XS.iinc X103.here hx rfl (hb hby d_jdk_52_method_21_35) rfl (l' := (Lc_comp0_s2_4 a1 a2 c0)) rfl ?_
    show SS pP eE belowS T103 (mkF mM 38 (Lc_comp0_s2_4 a1 a2 c0) []) _
    refine XS.iinc X103.here hx rfl (hb hby d_jdk_52_method_21_38) rfl (l' := (Lc_comp0_s2_5 a1 a2 c0)) rfl ?_
    show SS pP eE belowS T103 (mkF mM 41 (Lc_comp0_s2_5 a1 a2 c0) []) _
    refine XS.goto X103.here hx rfl (pc0 := 41) (pc' := 3) rfl (hb hby d_jdk_52_method_21_41) (by decide) (by decide) ?_
    show SS pP eE belowS T103 (mkF mM 3 (Lc_comp0_s2_5 a1 a2 c0) []) _
    refine XS.iload X103.here hx rfl (hb hby d_jdk_52_method_21_3) rfl ?_
    show SS pP eE belowS T103 (mkF mM 5 (Lc_comp0_s2_5 a1 a2 c0) [(.int (1 : Int32))]) _
    refine XS.iload X103.here hx rfl (hb hby d_jdk_52_method_21_5) rfl ?_
    show SS pP eE belowS T103 (mkF mM 7 (Lc_comp0_s2_5 a1 a2 c0) [(.int (2 : Int32)), (.int (1 : Int32))]) _
    refine XS.icmpNo X103.here hx rfl (hb hby d_jdk_52_method_21_7) rfl (tlt (by decide : (1 : Int32) < (2 : Int32))).2.1 ?_
    show SS pP eE belowS T103 (mkF mM 10 (Lc_comp0_s2_5 a1 a2 c0) []) _
    refine XS.aloadN X103.here hx rfl (hb hby d_jdk_52_method_21_10) rfl rfl ?_
    show SS pP eE belowS T103 (mkF mM 11 (Lc_comp0_s2_5 a1 a2 c0) [(.ref a1)]) _
    refine XS.iloadN X103.here hx rfl (hb hby d_jdk_52_method_21_11) rfl ?_
    show SS pP eE belowS T103 (mkF mM 12 (Lc_comp0_s2_5 a1 a2 c0) [(.int (1 : Int32)), (.ref a1)]) _
    refine X103.caload hx (j := (1 : Int32)) (v := (.int c1)) (by rw [e103]; exact Ar105.1) (State.isArrayOf_alike hZ.alike Ar105.2.1) Ar105.2.2 hin105 hat105 (g := (mkF mM 12 (Lc_comp0_s2_5 a1 a2 c0) [(.int (1 : Int32)), (.ref a1)])) rfl rfl (hb hby d_jdk_52_method_21_12) _ ?_
    show SS pP eE belowS T103 (mkF mM 13 (Lc_comp0_s2_5 a1 a2 c0) [(.int c1)]) _
    refine XS.istore X103.here hx rfl (hb hby d_jdk_52_method_21_13) rfl (l' := (Lc_comp0_s2_6 a1 a2 c1)) rfl ?_
    show SS pP eE belowS T103 (mkF mM 15 (Lc_comp0_s2_6 a1 a2 c1) []) _
    refine XS.iload X103.here hx rfl (hb hby d_jdk_52_method_21_15) rfl ?_
    show SS pP eE belowS T103 (mkF mM 17 (Lc_comp0_s2_6 a1 a2 c1) [(.int c1)]) _
    refine XS.sipush X103.here hx rfl (hb hby d_jdk_52_method_21_17) ?_
    show SS pP eE belowS T103 (mkF mM 20 (Lc_comp0_s2_6 a1 a2 c1) [(.int (255 : Int32)), (.int c1)]) _
    refine XS.icmpYes X103.here hx rfl (pc0 := 20) (pc' := 26) rfl (hb hby d_jdk_52_method_21_20) rfl (flt q1).2.2.2 (by decide) (by decide) ?_
    show SS pP eE belowS T103 (mkF mM 26 (Lc_comp0_s2_6 a1 a2 c1) []) _
    refine XS.aloadN X103.here hx rfl (hb hby d_jdk_52_method_21_26) rfl rfl ?_
    show SS pP eE belowS T103 (mkF mM 27 (Lc_comp0_s2_6 a1 a2 c1) [(.ref a2)]) _
    refine XS.iloadN X103.here hx rfl (hb hby d_jdk_52_method_21_27) rfl ?_
    show SS pP eE belowS T103 (mkF mM 28 (Lc_comp0_s2_6 a1 a2 c1) [(.int (1 : Int32)), (.ref a2)]) _
    refine XS.iload X103.here hx rfl (hb hby d_jdk_52_method_21_28) rfl ?_
    show SS pP eE belowS T103 (mkF mM 30 (Lc_comp0_s2_6 a1 a2 c1) [(.int c1), (.int (1 : Int32)), (.ref a2)]) _
    refine XS.i2b X103.here hx rfl (hb hby d_jdk_52_method_21_30) rfl ?_
    show SS pP eE belowS T103 (mkF mM 31 (Lc_comp0_s2_6 a1 a2 c1) [(.int (c1.toInt8.toInt32)), (.int (1 : Int32)), (.ref a2)]) _
    refine st107 _ ?_
    show SS pP eE belowS T107 (mkF mM 32 (Lc_comp0_s2_6 a1 a2 c1) []) _
    refine XS.iinc X107.here hx rfl (hb hby d_jdk_52_method_21_32) rfl (l' := (Lc_comp0_s2_7 a1 a2 c1)) rfl ?_
    show SS pP eE belowS T107 (mkF mM 35 (Lc_comp0_s2_7 a1 a2 c1) []) _
    refine XS.iinc X107.here hx rfl (hb hby d_jdk_52_method_21_35) rfl (l' := (Lc_comp0_s2_8 a1 a2 c1)) rfl ?_
    show SS pP eE belowS T107 (mkF mM 38 (Lc_comp0_s2_8 a1 a2 c1) []) _
    refine XS.iinc X107.here hx rfl (hb hby d_jdk_52_method_21_38) rfl (l' := (Lc_comp0_s2_9 a1 a2 c1)) rfl ?_
    show SS pP eE belowS T107 (mkF mM 41 (Lc_comp0_s2_9 a1 a2 c1) []) _
    refine XS.goto X107.here hx rfl (pc0 := 41) (pc' := 3) rfl (hb hby d_jdk_52_method_21_41) (by decide) (by decide) ?_
    show SS pP eE belowS T107 (mkF mM 3 (Lc_comp0_s2_9 a1 a2 c1) []) _
    refine XS.iload X107.here hx rfl (hb hby d_jdk_52_method_21_3) rfl ?_
    show SS pP eE belowS T107 (mkF mM 5 (Lc_comp0_s2_9 a1 a2 c1) [(.int (2 : Int32))]) _
    refine XS.iload X107.here hx rfl (hb hby d_jdk_52_method_21_5) rfl ?_
    show SS pP eE belowS T107 (mkF mM 7 (Lc_comp0_s2_9 a1 a2 c1) [(.int (2 : Int32)), (.int (2 : Int32))]) _
    refine XS.icmpYes X107.here hx rfl (pc0 := 7) (pc' := 44) rfl (hb hby d_jdk_52_method_21_7) rfl (flt (by decide : ¬ ((2 : Int32) < (2 : Int32)))).2.1 (by decide) (by decide) ?_
    show SS pP eE belowS T107 (mkF mM 44 (Lc_comp0_s2_9 a1 a2 c1) []) _
    refine XS.iload X107.here hx rfl (hb hby d_jdk_52_method_21_44) rfl ?_
    show SS pP eE belowS T107 (mkF mM 46 (Lc_comp0_s2_9 a1 a2 c1) [(.int (2 : Int32))]) _
    exact retI X107 hx Bd.returns (hb hby d_jdk_52_method_21_46) hr
  · show Q_comp0_s2 Z a1 a2 k1 k2 c0 c1 h0 n0 _ T107.heap _
    rw [e107]
    exact ⟨rfl, N107, K109, Vt107⟩
theorem d_jdk_52_method_16_0 : decode jdk_52_method_16_code 0 = .ok (.iload_n 2, 1) := by decide +kernel
theorem d_jdk_52_method_16_1 : decode jdk_52_method_16_code 1 = .ok (.newarray .byte, 2) := by decide +kernel
theorem d_jdk_52_method_16_3 : decode jdk_52_method_16_code 3 = .ok (.astore_n 3, 1) := by decide +kernel
theorem d_jdk_52_method_16_4 : decode jdk_52_method_16_code 4 = .ok (.aload_n 0, 1) := by decide +kernel
theorem d_jdk_52_method_16_5 : decode jdk_52_method_16_code 5 = .ok (.iload_n 1, 1) := by decide +kernel
theorem d_jdk_52_method_16_6 : decode jdk_52_method_16_code 6 = .ok (.aload_n 3, 1) := by decide +kernel
theorem d_jdk_52_method_16_7 : decode jdk_52_method_16_code 7 = .ok (.iconst 0, 1) := by decide +kernel
theorem d_jdk_52_method_16_8 : decode jdk_52_method_16_code 8 = .ok (.iload_n 2, 1) := by decide +kernel
theorem d_jdk_52_method_16_9 : decode jdk_52_method_16_code 9 = .ok (.invokestatic 115, 3) := by decide +kernel
theorem pd_4 : parseMethodDescriptor "([CI[BII)I" = some ⟨[(.array .char), .int, (.array .byte), .int, .int], some .int⟩ := by decide +kernel
theorem d_jdk_52_method_16_12 : decode jdk_52_method_16_code 12 = .ok (.istore 4, 2) := by decide +kernel
theorem d_jdk_52_method_16_14 : decode jdk_52_method_16_code 14 = .ok (.iload 4, 2) := by decide +kernel
theorem d_jdk_52_method_16_16 : decode jdk_52_method_16_code 16 = .ok (.iload_n 2, 1) := by decide +kernel
theorem d_jdk_52_method_16_17 : decode jdk_52_method_16_code 17 = .ok (.if_icmp .eq 40, 3) := by decide +kernel
theorem d_jdk_52_method_16_57 : decode jdk_52_method_16_code 57 = .ok (.aload_n 3, 1) := by decide +kernel
theorem d_jdk_52_method_16_58 : decode jdk_52_method_16_code 58 = .ok (.areturn, 1) := by decide +kernel
def Q_comp1_s2 (Z : State) (a1 : Addr) (k1 : ClassId) (c0 : Int32) (c1 : Int32) (h0 : Heap) (n0 : Nat) (xv : Option Value) (xh : Heap) (xL : List Loc) : Prop := ∃ b : Addr, ∃ k2 : ClassId, xv = some (.ref b) ∧ Fr n0 xL ∧ Keep h0 xh [] ∧ Arv Z xh b k2 .byte (2 : Int32) [(.int c0.toInt8.toInt32), (.int c1.toInt8.toInt32)] (.int (0 : Int32)) ∧ @LE.le Nat _ h0.size b
abbrev Lc_comp1_s2_0 (a1 : Addr) : Array Slot := #[.val (.ref a1), .val (.int (0 : Int32)), .val (.int (2 : Int32)), .unset, .unset, .unset]
abbrev Lc_comp1_s2_1 (a1 : Addr) (b101 : Addr) : Array Slot := #[.val (.ref a1), .val (.int (0 : Int32)), .val (.int (2 : Int32)), .val (.ref b101), .unset, .unset]
abbrev Lc_comp1_s2_2 (a1 : Addr) (b101 : Addr) : Array Slot := #[.val (.ref a1), .val (.int (0 : Int32)), .val (.int (2 : Int32)), .val (.ref b101), .val (.int (2 : Int32)), .unset]
theorem ef_comp1_s2 (mM : MethodId) (a1 : Addr) (k1 : ClassId) (c0 : Int32) (c1 : Int32) : entryFrame mM #[(.ref a1), (.int (0 : Int32)), (.int (2 : Int32))] 6 = mkF mM 0 #[.val (.ref a1), .val (.int (0 : Int32)), .val (.int (2 : Int32)), .unset, .unset, .unset] [] := by first | (simp [entryFrame, mkF, argsToLocals, Value.category]; done) | rfl
set_option maxRecDepth 65536 in
set_option maxHeartbeats 40000000 in
theorem rm_comp1_s2 (l : Launch) (Z : State) (a0 : Array Value) (hw : ∀ d ∈ tables_1, d.before a0 Z = true) (ws : List Jvm.Cond) (a1 : Addr) (k1 : ClassId) (c0 : Int32) (c1 : Int32) (h0 : Heap) (n0 : Nat) (Z0 : n0 ≤ h0.size) (V_a1 : Arv Z h0 a1 k1 .char (2 : Int32) [(.int c0), (.int c1)] (.int (0 : Int32))) (q0 : ¬ ((255 : Int32) < c0)) (q1 : ¬ ((255 : Int32) < c1)) :
    MetFree l (⟨"java/lang/StringUTF16", "compress", "([CII)[B"⟩ : MethodName) (head1 (Jvm.Cond.code (⟨"java/lang/StringUTF16", "compress", "([CII)[B"⟩ : MethodName) jdk_52_method_16_code 6 (some (.array .byte)) :: ws) ({ frames := 1, cells := 1, slots := 2, locals := 18 } : Room)) (fun xa xU => xa = #[(.ref a1), (.int (0 : Int32)), (.int (2 : Int32))] ∧ Z.Warmed39 xU.vm ∧ xU.heap = h0) (fun _ _ _ _ _ => True) (fun _ xU xo xU' => ∃ xv xL, xo = .returned xv ∧ Q_comp1_s2 Z a1 k1 c0 c1 h0 n0 xv xU'.heap xL ∧ FrameEnd xU xo xU' xL ({ frames := 1, cells := 1, slots := 2, locals := 18 } : Room).cells ({ frames := 1, cells := 1, slots := 2, locals := 18 } : Room).slots) := by
  refine MetFree.of_bodySF (plainFor_of_name pn_java_lang_StringUTF16) hisR ?_
  intro pP eE sS mM argS belowS methS cC s₁ Bd hml0 hP hK
  obtain ⟨rfl, hZ, hh⟩ := hP
  have hx := Bd.exec
  have hby := Bd.bytes
  have hml : cC.maxLocals = 6 := hml0
  have hown : sS.vm.findClass "java/lang/StringUTF16" = some mM.cls := findClass_of_methodNamed Bd.named
  have hnm := (name_of_methodNamed Bd.named Bd.method).1
  have X0 : Stand pP l eE ({ frames := 1, cells := 1, slots := 2, locals := 18 } : Room) sS mM #[(.ref a1), (.int (0 : Int32)), (.int (2 : Int32))] belowS methS cC s₁ [] 0 0 := Stand.of_body Bd
  have e0 : s₁.heap = h0 := by rw [← hh, Bd.state]; rfl
  have N0 := Fr.nil n0
  have pre0 : ∀ t', Steps pP.tables eE belowS (s₁.setTop (mkF mM 0 #[.val (.ref a1), .val (.int (0 : Int32)), .val (.int (2 : Int32)), .unset, .unset, .unset] [])) t' → Steps pP.tables eE belowS (s₁.setTop (entryFrame mM #[(.ref a1), (.int (0 : Int32)), (.int (2 : Int32))] 6)) t' := fun t' kk' => castTop (ef_comp1_s2 mM a1 k1 c0 c1) kk'
  obtain ⟨T101, h101, k101, X101, e101, E101, A101, st101⟩ := newP X0 hx hZ (wi hw 19 rfl) e0 (g := (mkF mM 1 (Lc_comp1_s2_0 a1) [(.int (2 : Int32))])) rfl (hb hby d_jdk_52_method_16_1) rfl (by decide) (cap := 2) (by decide) (by decide) (by decide) (by decide)
  obtain ⟨b101, g101⟩ : ∃ z : Nat, z = h0.size := ⟨_, rfl⟩
  rw [← g101] at A101 st101
  have Sz1 : h0.size ≤ h101.size := E101.1
  have V_b101 : Arv Z h101 b101 k101 .byte (2 : Int32) [(.int (0 : Int32)), (.int (0 : Int32))] (.int (0 : Int32)) := (Arv.new A101 (by decide)).pad (pad_rep [] (.int (0 : Int32)) 2)
  have c103_V_a1 : Arv Z h101 a1 k1 .char (2 : Int32) [(.int c0), (.int c1)] (.int (0 : Int32)) := V_a1.ext E101
  have lt_a1 : @LT.lt Nat _ a1 h0.size := V_a1.lt
  have lt_b101 : @LT.lt Nat _ b101 h101.size := V_b101.lt
  have ne_a1_b101_104 : a1 ≠ b101 := (by omega : @Ne Nat a1 b101)
  have ge105_b101 : @LE.le Nat _ n0 b101 := by omega
  obtain ⟨_, _, ⟨T102, L102, k102, n102⟩, -, X102, ⟨Lc102, hQ102, l102, y102, z102⟩, st102⟩ := Jvm.LawKit.callS X101 hx (y := (⟨"java/lang/StringUTF16", "compress", "([CI[BII)I"⟩ : MethodName)) hown (mvT hZ (wi hw 20 rfl)) (mvT hZ (wi hw 21 rfl)) (mvT hZ (wi hw 17 rfl)) (mvT hZ (wi hw 22 rfl)) (by decide) (backOf (W := 0) (rm_comp0_s2 l Z a0 hw [] a1 b101 k1 k101 c0 c1 h101 n0 (by omega) c103_V_a1 V_b101 ne_a1_b101_104 ge105_b101 q0 q1) hZ (wi hw 22 rfl) (wi hw 17 rfl) (by decide) (by decide)) (g := (mkF mM 9 (Lc_comp1_s2_1 a1 b101) [(.int (2 : Int32)), (.int (0 : Int32)), (.ref b101), (.int (0 : Int32)), (.ref a1)])) rfl (by rw [hml]; rfl) (argsL := [(.ref a1), (.int (0 : Int32)), (.ref b101), (.int (0 : Int32)), (.int (2 : Int32))]) (rest := []) (lenOf pd_4 rfl) rfl (by show 2 * 0 + _ ≤ _; exact Nat.le_of_eq rfl) (hb hby d_jdk_52_method_16_9) (fun _ _ => ⟨rfl, e101, Nat.le_of_ble_eq_true rfl, Nat.le_of_ble_eq_true rfl⟩)
  dsimp only [Pt.U, Pt.locs, Pt.cells, Pt.slots] at X102 l102 y102 z102 st102 hQ102
  subst l102 y102 z102
  obtain ⟨h102, e102⟩ : ∃ z, T102.heap = z := ⟨_, rfl⟩
  rw [e102] at hQ102
  obtain ⟨rfl, N102q, Kp102, p102_V_a2⟩ := hQ102
  have Sz2 : h101.size ≤ h102.size := Kp102.1
  have N102 := Fr.app N0 N102q
  have K106 : Keep h0 h101 [] := (Keep.refl h0 []).ext E101
  have K107 : Keep h0 h102 [] := K106.trans Kp102 (allS (Or.inr (by omega : @LE.le Nat _ h0.size b101)) all0)
  obtain ⟨fs, hr, hrun, hended, hW, hsame⟩ := X102.leave (v := some (.ref b101)) (fun h => by rw [Bd.returns] at h; cases h)
  refine ⟨_, _, pre0 _ ?_, hrun, hended, _, _, rfl, ?_, ⟨_, rfl⟩, hW, hsame.mono (by decide) (by decide)⟩
  · show SS pP eE belowS s₁ (mkF mM 0 (Lc_comp1_s2_0 a1) []) _
    refine XS.iloadN X0.here hx rfl (hb hby d_jdk_52_method_16_0) rfl ?_
    show SS pP eE belowS s₁ (mkF mM 1 (Lc_comp1_s2_0 a1) [(.int (2 : Int32))]) _
    refine st101 _ ?_
    show SS pP eE belowS T101 (mkF mM 3 (Lc_comp1_s2_0 a1) [(.ref b101)]) _
    refine XS.astoreN X101.here hx rfl (hb hby d_jdk_52_method_16_3) rfl rfl (l' := (Lc_comp1_s2_1 a1 b101)) rfl ?_
    show SS pP eE belowS T101 (mkF mM 4 (Lc_comp1_s2_1 a1 b101) []) _
    refine XS.aloadN X101.here hx rfl (hb hby d_jdk_52_method_16_4) rfl rfl ?_
    show SS pP eE belowS T101 (mkF mM 5 (Lc_comp1_s2_1 a1 b101) [(.ref a1)]) _
    refine XS.iloadN X101.here hx rfl (hb hby d_jdk_52_method_16_5) rfl ?_
    show SS pP eE belowS T101 (mkF mM 6 (Lc_comp1_s2_1 a1 b101) [(.int (0 : Int32)), (.ref a1)]) _
    refine XS.aloadN X101.here hx rfl (hb hby d_jdk_52_method_16_6) rfl rfl ?_
    show SS pP eE belowS T101 (mkF mM 7 (Lc_comp1_s2_1 a1 b101) [(.ref b101), (.int (0 : Int32)), (.ref a1)]) _
    refine XS.iconst X101.here hx rfl (hb hby d_jdk_52_method_16_7) ?_
    show SS pP eE belowS T101 (mkF mM 8 (Lc_comp1_s2_1 a1 b101) [(.int (0 : Int32)), (.ref b101), (.int (0 : Int32)), (.ref a1)]) _
    refine XS.iloadN X101.here hx rfl (hb hby d_jdk_52_method_16_8) rfl ?_
    show SS pP eE belowS T101 (mkF mM 9 (Lc_comp1_s2_1 a1 b101) [(.int (2 : Int32)), (.int (0 : Int32)), (.ref b101), (.int (0 : Int32)), (.ref a1)]) _
    refine st102 _ ?_
    show SS pP eE belowS T102 (mkF mM 12 (Lc_comp1_s2_1 a1 b101) [(.int (2 : Int32))]) _
    refine XS.istore X102.here hx rfl (hb hby d_jdk_52_method_16_12) rfl (l' := (Lc_comp1_s2_2 a1 b101)) rfl ?_
    show SS pP eE belowS T102 (mkF mM 14 (Lc_comp1_s2_2 a1 b101) []) _
    refine XS.iload X102.here hx rfl (hb hby d_jdk_52_method_16_14) rfl ?_
    show SS pP eE belowS T102 (mkF mM 16 (Lc_comp1_s2_2 a1 b101) [(.int (2 : Int32))]) _
    refine XS.iloadN X102.here hx rfl (hb hby d_jdk_52_method_16_16) rfl ?_
    show SS pP eE belowS T102 (mkF mM 17 (Lc_comp1_s2_2 a1 b101) [(.int (2 : Int32)), (.int (2 : Int32))]) _
    refine XS.icmpYes X102.here hx rfl (pc0 := 17) (pc' := 57) rfl (hb hby d_jdk_52_method_16_17) rfl (teq (by decide : (2 : Int32) = (2 : Int32))).1 (by decide) (by decide) ?_
    show SS pP eE belowS T102 (mkF mM 57 (Lc_comp1_s2_2 a1 b101) []) _
    refine XS.aloadN X102.here hx rfl (hb hby d_jdk_52_method_16_57) rfl rfl ?_
    show SS pP eE belowS T102 (mkF mM 58 (Lc_comp1_s2_2 a1 b101) [(.ref b101)]) _
    jvm_step X102.here [X102.here.top, hx, (hb hby d_jdk_52_method_16_58), X102.method', Bd.returns, Value.isRef, FieldType.isReference]
    first | (intro acts; rw [hr _ acts rfl rfl rfl]) | rw [hr _ _ rfl rfl rfl]
    exact Steps.refl _
  · show Q_comp1_s2 Z a1 k1 c0 c1 h0 n0 _ T102.heap _
    rw [e102]
    exact ⟨b101, k101, rfl, N102, K107, p102_V_a2, (by omega)⟩
theorem d_jdk_52_method_15_0 : decode jdk_52_method_15_code 0 = .ok (.iload_n 1, 1) := by decide +kernel
theorem d_jdk_52_method_15_1 : decode jdk_52_method_15_code 1 = .ok (.aload_n 0, 1) := by decide +kernel
theorem d_jdk_52_method_15_2 : decode jdk_52_method_15_code 2 = .ok (.arraylength, 1) := by decide +kernel
theorem d_jdk_52_method_15_3 : decode jdk_52_method_15_code 3 = .ok (.isub, 1) := by decide +kernel
theorem d_jdk_52_method_15_4 : decode jdk_52_method_15_code 4 = .ok (.bipush 31, 2) := by decide +kernel
theorem d_jdk_52_method_15_6 : decode jdk_52_method_15_code 6 = .ok (.iushr, 1) := by decide +kernel
theorem d_jdk_52_method_15_7 : decode jdk_52_method_15_code 7 = .ok (.i2b, 1) := by decide +kernel
theorem d_jdk_52_method_15_8 : decode jdk_52_method_15_code 8 = .ok (.ireturn, 1) := by decide +kernel
def Q_coder_s2 (Z : State) (a1 : Addr) (k1 : ClassId) (vs : List Value) (h0 : Heap) (n0 : Nat) (xv : Option Value) (xh : Heap) (xL : List Loc) : Prop := xv = some (.int (0 : Int32)) ∧ Fr n0 xL ∧ xh = h0
theorem ef_coder_s2 (mM : MethodId) (a1 : Addr) (k1 : ClassId) (vs : List Value) : entryFrame mM #[(.ref a1), (.int (2 : Int32))] 2 = mkF mM 0 #[.val (.ref a1), .val (.int (2 : Int32))] [] := by first | (simp [entryFrame, mkF, argsToLocals, Value.category]; done) | rfl
set_option maxRecDepth 65536 in
set_option maxHeartbeats 40000000 in
theorem rm_coder_s2 (l : Launch) (Z : State) (a0 : Array Value) (hw : ∀ d ∈ tables_1, d.before a0 Z = true) (ws : List Jvm.Cond) (a1 : Addr) (k1 : ClassId) (vs : List Value) (h0 : Heap) (n0 : Nat) (Z0 : n0 ≤ h0.size) (V_a1 : Arv Z h0 a1 k1 .byte (2 : Int32) vs (.int (0 : Int32))) :
    MetFree l (⟨"java/lang/StringUTF16", "coderFromArrayLen", "([BI)B"⟩ : MethodName) (head1 (Jvm.Cond.code (⟨"java/lang/StringUTF16", "coderFromArrayLen", "([BI)B"⟩ : MethodName) jdk_52_method_15_code 2 (some .byte) :: ws) ({ frames := 0, cells := 0, slots := 0, locals := 0 } : Room)) (fun xa xU => xa = #[(.ref a1), (.int (2 : Int32))] ∧ Z.Warmed39 xU.vm ∧ xU.heap = h0) (fun _ _ _ _ _ => True) (fun _ xU xo xU' => ∃ xv xL, xo = .returned xv ∧ Q_coder_s2 Z a1 k1 vs h0 n0 xv xU'.heap xL ∧ FrameEnd xU xo xU' xL ({ frames := 0, cells := 0, slots := 0, locals := 0 } : Room).cells ({ frames := 0, cells := 0, slots := 0, locals := 0 } : Room).slots) := by
  refine MetFree.of_bodySF (plainFor_of_name pn_java_lang_StringUTF16) hisR ?_
  intro pP eE sS mM argS belowS methS cC s₁ Bd hml0 hP hK
  obtain ⟨rfl, hZ, hh⟩ := hP
  have hx := Bd.exec
  have hby := Bd.bytes
  have hml : cC.maxLocals = 2 := hml0
  have hown : sS.vm.findClass "java/lang/StringUTF16" = some mM.cls := findClass_of_methodNamed Bd.named
  have hnm := (name_of_methodNamed Bd.named Bd.method).1
  have X0 : Stand pP l eE ({ frames := 0, cells := 0, slots := 0, locals := 0 } : Room) sS mM #[(.ref a1), (.int (2 : Int32))] belowS methS cC s₁ [] 0 0 := Stand.of_body Bd
  have e0 : s₁.heap = h0 := by rw [← hh, Bd.state]; rfl
  have N0 := Fr.nil n0
  have pre0 : ∀ t', Steps pP.tables eE belowS (s₁.setTop (mkF mM 0 #[.val (.ref a1), .val (.int (2 : Int32))] [])) t' → Steps pP.tables eE belowS (s₁.setTop (entryFrame mM #[(.ref a1), (.int (2 : Int32))] 2)) t' := fun t' kk' => castTop (ef_coder_s2 mM a1 k1 vs) kk'
  obtain ⟨cl101, Ar101, q101, S101, Ng101, Ha101, Ga101⟩ := id V_a1
  obtain ⟨fs, hr, hrun, hended, hW, hsame⟩ := X0.leave (v := some (.int (0 : Int32))) (fun h => by rw [Bd.returns] at h; cases h)
  refine ⟨_, _, pre0 _ ?_, hrun, hended, _, _, rfl, ?_, ⟨_, rfl⟩, hW, hsame.mono (by decide) (by decide)⟩
  · show SS pP eE belowS s₁ (mkF mM 0 #[.val (.ref a1), .val (.int (2 : Int32))] []) _
    refine XS.iloadN X0.here hx rfl (hb hby d_jdk_52_method_15_0) rfl ?_
    show SS pP eE belowS s₁ (mkF mM 1 #[.val (.ref a1), .val (.int (2 : Int32))] [(.int (2 : Int32))]) _
    refine XS.aloadN X0.here hx rfl (hb hby d_jdk_52_method_15_1) rfl rfl ?_
    show SS pP eE belowS s₁ (mkF mM 2 #[.val (.ref a1), .val (.int (2 : Int32))] [(.ref a1), (.int (2 : Int32))]) _
    refine X0.arraylength hx (by rw [e0]; exact Ar101.1) (State.isArrayOf_alike hZ.alike Ar101.2.1) (g := (mkF mM 2 #[.val (.ref a1), .val (.int (2 : Int32))] [(.ref a1), (.int (2 : Int32))])) rfl rfl (hb hby d_jdk_52_method_15_2) _ ?_
    rw [len_of S101 Ng101]
    show SS pP eE belowS s₁ (mkF mM 3 #[.val (.ref a1), .val (.int (2 : Int32))] [(.int (2 : Int32)), (.int (2 : Int32))]) _
    refine XS.isub X0.here hx rfl (hb hby d_jdk_52_method_15_3) rfl ?_
    show SS pP eE belowS s₁ (mkF mM 4 #[.val (.ref a1), .val (.int (2 : Int32))] [(.int (0 : Int32))]) _
    refine XS.bipush X0.here hx rfl (hb hby d_jdk_52_method_15_4) ?_
    show SS pP eE belowS s₁ (mkF mM 6 #[.val (.ref a1), .val (.int (2 : Int32))] [(.int (31 : Int32)), (.int (0 : Int32))]) _
    refine XS.iushr X0.here hx rfl (hb hby d_jdk_52_method_15_6) rfl ?_
    show SS pP eE belowS s₁ (mkF mM 7 #[.val (.ref a1), .val (.int (2 : Int32))] [(.int (0 : Int32))]) _
    refine XS.i2b X0.here hx rfl (hb hby d_jdk_52_method_15_7) rfl ?_
    show SS pP eE belowS s₁ (mkF mM 8 #[.val (.ref a1), .val (.int (2 : Int32))] [(.int (0 : Int32))]) _
    exact retN X0 hx (t := .byte) Bd.returns (by simp) (hb hby d_jdk_52_method_15_8) hr
  · show Q_coder_s2 Z a1 k1 vs h0 n0 _ s₁.heap _
    rw [e0]
    exact ⟨rfl, N0, rfl⟩
theorem d_jdk_42_method_149_0 : decode jdk_42_method_149_code 0 = .ok (.aload_n 0, 1) := by decide +kernel
theorem d_jdk_42_method_149_1 : decode jdk_42_method_149_code 1 = .ok (.invokespecial 1, 3) := by decide +kernel
theorem d_jdk_42_method_149_4 : decode jdk_42_method_149_code 4 = .ok (.iload_n 3, 1) := by decide +kernel
theorem d_jdk_42_method_149_5 : decode jdk_42_method_149_code 5 = .ok (.ifCond .ne 22, 3) := by decide +kernel
theorem d_jdk_42_method_149_27 : decode jdk_42_method_149_code 27 = .ok (.getstatic 38, 3) := by decide +kernel
theorem d_jdk_42_method_149_30 : decode jdk_42_method_149_code 30 = .ok (.ifCond .eq 28, 3) := by decide +kernel
theorem d_jdk_42_method_149_33 : decode jdk_42_method_149_code 33 = .ok (.aload_n 1, 1) := by decide +kernel
theorem d_jdk_42_method_149_34 : decode jdk_42_method_149_code 34 = .ok (.iload_n 2, 1) := by decide +kernel
theorem d_jdk_42_method_149_35 : decode jdk_42_method_149_code 35 = .ok (.iload_n 3, 1) := by decide +kernel
theorem d_jdk_42_method_149_36 : decode jdk_42_method_149_code 36 = .ok (.invokestatic 177, 3) := by decide +kernel
theorem pd_3 : parseMethodDescriptor "([CII)[B" = some ⟨[(.array .char), .int, .int], some (.array .byte)⟩ := by decide +kernel
theorem d_jdk_42_method_149_39 : decode jdk_42_method_149_code 39 = .ok (.astore 5, 2) := by decide +kernel
theorem d_jdk_42_method_149_41 : decode jdk_42_method_149_code 41 = .ok (.aload_n 0, 1) := by decide +kernel
theorem d_jdk_42_method_149_42 : decode jdk_42_method_149_code 42 = .ok (.aload 5, 2) := by decide +kernel
theorem d_jdk_42_method_149_44 : decode jdk_42_method_149_code 44 = .ok (.iload_n 3, 1) := by decide +kernel
theorem d_jdk_42_method_149_45 : decode jdk_42_method_149_code 45 = .ok (.invokestatic 47, 3) := by decide +kernel
theorem pd_5 : parseMethodDescriptor "([BI)B" = some ⟨[(.array .byte), .int], some .byte⟩ := by decide +kernel
theorem d_jdk_42_method_149_48 : decode jdk_42_method_149_code 48 = .ok (.putfield 15, 3) := by decide +kernel
theorem d_jdk_42_method_149_51 : decode jdk_42_method_149_code 51 = .ok (.aload_n 0, 1) := by decide +kernel
theorem d_jdk_42_method_149_52 : decode jdk_42_method_149_code 52 = .ok (.aload 5, 2) := by decide +kernel
theorem d_jdk_42_method_149_54 : decode jdk_42_method_149_code 54 = .ok (.putfield 9, 3) := by decide +kernel
theorem d_jdk_42_method_149_57 : decode jdk_42_method_149_code 57 = .ok (.return_, 1) := by decide +kernel
theorem pn_java_lang_String : plainName "java/lang/String" = true := by first | (simp [plainName, overriddenIn]; done) | decide +kernel
def Q_init4_s2 (Z : State) (o : Addr) (a1 : Addr) (k1 : ClassId) (u1 : Value) (u2 : Value) (cs : Int32) (c0 : Int32) (c1 : Int32) (h0 : Heap) (n0 : Nat) (xv : Option Value) (xh : Heap) (xL : List Loc) : Prop := ∃ b : Addr, ∃ k2 : ClassId, xv = none ∧ Fr n0 xL ∧ Keep h0 xh [o] ∧ Exa Z xh o "java/lang/String" ∧ Fld Z xh o "java/lang/String" "value" "[B" (.ref b) ∧ Fld Z xh o "java/lang/String" "coder" "B" (.int (0 : Int32)) ∧ Arv Z xh b k2 .byte (2 : Int32) [(.int c0.toInt8.toInt32), (.int c1.toInt8.toInt32)] (.int (0 : Int32)) ∧ @LE.le Nat _ h0.size b
abbrev Lc_init4_s2_0 (o : Addr) (a1 : Addr) : Array Slot := #[.val (.ref o), .val (.ref a1), .val (.int (0 : Int32)), .val (.int (2 : Int32)), .val .null, .unset]
abbrev Lc_init4_s2_1 (o : Addr) (a1 : Addr) (b_104 : Addr) : Array Slot := #[.val (.ref o), .val (.ref a1), .val (.int (0 : Int32)), .val (.int (2 : Int32)), .val .null, .val (.ref b_104)]
theorem ef_init4_s2 (mM : MethodId) (o : Addr) (a1 : Addr) (k1 : ClassId) (u1 : Value) (u2 : Value) (cs : Int32) (c0 : Int32) (c1 : Int32) : entryFrame mM #[(.ref o), (.ref a1), (.int (0 : Int32)), (.int (2 : Int32)), .null] 6 = mkF mM 0 #[.val (.ref o), .val (.ref a1), .val (.int (0 : Int32)), .val (.int (2 : Int32)), .val .null, .unset] [] := by first | (simp [entryFrame, mkF, argsToLocals, Value.category]; done) | rfl
set_option maxRecDepth 65536 in
set_option maxHeartbeats 40000000 in
theorem rm_init4_s2 (l : Launch) (Z : State) (a0 : Array Value) (hw : ∀ d ∈ tables_1, d.before a0 Z = true) (ws : List Jvm.Cond) (o : Addr) (a1 : Addr) (k1 : ClassId) (u1 : Value) (u2 : Value) (cs : Int32) (c0 : Int32) (c1 : Int32) (h0 : Heap) (n0 : Nat) (Z0 : n0 ≤ h0.size) (E_o : Exa Z h0 o "java/lang/String") (F_value_o : Fld Z h0 o "java/lang/String" "value" "[B" u1) (F_coder_o : Fld Z h0 o "java/lang/String" "coder" "B" u2) (V_a1 : Arv Z h0 a1 k1 .char (2 : Int32) [(.int c0), (.int c1)] (.int (0 : Int32))) (g_o : @LE.le Nat _ n0 o) (OL : Old Z n0 h0) (S_COMPACT_STRINGS : Sta Z Z.heap "java/lang/String" "COMPACT_STRINGS" "Z" (.int cs)) (hcs : ¬ (cs = (0 : Int32))) (q0 : ¬ ((255 : Int32) < c0)) (q1 : ¬ ((255 : Int32) < c1)) :
    MetFree l (⟨"java/lang/String", "<init>", "([CIILjava/lang/Void;)V"⟩ : MethodName) (head1 (Jvm.Cond.code (⟨"java/lang/String", "<init>", "([CIILjava/lang/Void;)V"⟩ : MethodName) jdk_42_method_149_code 6 none :: ws) ({ frames := 2, cells := 1, slots := 2, locals := 35 } : Room)) (fun xa xU => xa = #[(.ref o), (.ref a1), (.int (0 : Int32)), (.int (2 : Int32)), .null] ∧ Z.Warmed39 xU.vm ∧ xU.heap = h0) (fun _ _ _ _ _ => True) (fun _ xU xo xU' => ∃ xv xL, xo = .returned xv ∧ Q_init4_s2 Z o a1 k1 u1 u2 cs c0 c1 h0 n0 xv xU'.heap xL ∧ FrameEnd xU xo xU' xL ({ frames := 2, cells := 1, slots := 2, locals := 35 } : Room).cells ({ frames := 2, cells := 1, slots := 2, locals := 35 } : Room).slots) := by
  refine MetFree.of_bodySF (plainFor_of_name pn_java_lang_String) hisR ?_
  intro pP eE sS mM argS belowS methS cC s₁ Bd hml0 hP hK
  obtain ⟨rfl, hZ, hh⟩ := hP
  have hx := Bd.exec
  have hby := Bd.bytes
  have hml : cC.maxLocals = 6 := hml0
  have hown : sS.vm.findClass "java/lang/String" = some mM.cls := findClass_of_methodNamed Bd.named
  have hnm := (name_of_methodNamed Bd.named Bd.method).1
  have X0 : Stand pP l eE ({ frames := 2, cells := 1, slots := 2, locals := 35 } : Room) sS mM #[(.ref o), (.ref a1), (.int (0 : Int32)), (.int (2 : Int32)), .null] belowS methS cC s₁ [] 0 0 := Stand.of_body Bd
  have e0 : s₁.heap = h0 := by rw [← hh, Bd.state]; rfl
  have N0 := Fr.nil n0
  have pre0 : ∀ t', Steps pP.tables eE belowS (s₁.setTop (mkF mM 0 #[.val (.ref o), .val (.ref a1), .val (.int (0 : Int32)), .val (.int (2 : Int32)), .val .null, .unset] [])) t' → Steps pP.tables eE belowS (s₁.setTop (entryFrame mM #[(.ref o), (.ref a1), (.int (0 : Int32)), (.int (2 : Int32)), .null] 6)) t' := fun t' kk' => castTop (ef_init4_s2 mM o a1 k1 u1 u2 cs c0 c1) kk'
  obtain ⟨T101, X101, e101, st101⟩ := initO X0 hx hZ hown (wi hw 11 rfl) (wi hw 12 rfl) (wi hw 13 rfl) e0 (g := (mkF mM 1 (Lc_init4_s2_0 o a1) [(.ref o)])) rfl (by rw [hml]; rfl) rfl (hb hby d_jdk_42_method_149_1) (by decide) (W := 0) (by show 2 * 0 + _ ≤ _; exact Nat.le_of_eq rfl) (by decide)
  have c102_S_COMPACT_STRINGS : Sta Z h0 "java/lang/String" "COMPACT_STRINGS" "Z" (.int cs) := Sta.ext OL.2 S_COMPACT_STRINGS
  obtain ⟨T103, X103, e103, st103⟩ := getS2 X101 hx hZ hown (host := "") (Or.inl (wi hw 14 rfl)) Via.refl e101 c102_S_COMPACT_STRINGS (g := (mkF mM 27 (Lc_init4_s2_0 o a1) [])) rfl (hb hby d_jdk_42_method_149_27)
  obtain ⟨_, _, ⟨T104, L104, k104, n104⟩, -, X104, ⟨Lc104, hQ104, l104, y104, z104⟩, st104⟩ := Jvm.LawKit.callS X103 hx (y := (⟨"java/lang/StringUTF16", "compress", "([CII)[B"⟩ : MethodName)) hown (mvT hZ (wi hw 15 rfl)) (mvT hZ (wi hw 16 rfl)) (mvT hZ (wi hw 17 rfl)) (mvT hZ (wi hw 18 rfl)) (by decide) (backOf (W := 0) (rm_comp1_s2 l Z a0 hw [] a1 k1 c0 c1 h0 n0 (by omega) V_a1 q0 q1) hZ (wi hw 18 rfl) (wi hw 17 rfl) (by decide) (by decide)) (g := (mkF mM 36 (Lc_init4_s2_0 o a1) [(.int (2 : Int32)), (.int (0 : Int32)), (.ref a1)])) rfl (by rw [hml]; rfl) (argsL := [(.ref a1), (.int (0 : Int32)), (.int (2 : Int32))]) (rest := []) (lenOf pd_3 rfl) rfl (by show 2 * 0 + _ ≤ _; exact Nat.le_of_eq rfl) (hb hby d_jdk_42_method_149_36) (fun _ _ => ⟨rfl, e103, Nat.le_of_ble_eq_true rfl, Nat.le_of_ble_eq_true rfl⟩)
  dsimp only [Pt.U, Pt.locs, Pt.cells, Pt.slots] at X104 l104 y104 z104 st104 hQ104
  subst l104 y104 z104
  obtain ⟨h104, e104⟩ : ∃ z, T104.heap = z := ⟨_, rfl⟩
  rw [e104] at hQ104
  obtain ⟨b_104, k2_104, rfl, N104q, Kp104, p104_V_b, p104_gh_b⟩ := hQ104
  have Sz1 : h0.size ≤ h104.size := Kp104.1
  have N104 := Fr.app N0 N104q
  obtain ⟨_, _, ⟨T105, L105, k105, n105⟩, -, X105, ⟨Lc105, hQ105, l105, y105, z105⟩, st105⟩ := Jvm.LawKit.callS X104 hx (y := (⟨"java/lang/StringUTF16", "coderFromArrayLen", "([BI)B"⟩ : MethodName)) hown (mvT hZ (wi hw 23 rfl)) (mvT hZ (wi hw 24 rfl)) (mvT hZ (wi hw 17 rfl)) (mvT hZ (wi hw 25 rfl)) (by decide) (backOf (W := 1) (rm_coder_s2 l Z a0 hw [] b_104 k2_104 [(.int c0.toInt8.toInt32), (.int c1.toInt8.toInt32)] h104 n0 (by omega) p104_V_b) hZ (wi hw 25 rfl) (wi hw 17 rfl) (by decide) (by decide)) (g := (mkF mM 45 (Lc_init4_s2_1 o a1 b_104) [(.int (2 : Int32)), (.ref b_104), (.ref o)])) rfl (by rw [hml]; rfl) (argsL := [(.ref b_104), (.int (2 : Int32))]) (rest := [(.ref o)]) (lenOf pd_5 rfl) rfl (by show 2 * 0 + _ ≤ _; exact Nat.le_of_eq rfl) (hb hby d_jdk_42_method_149_45) (fun _ _ => ⟨rfl, e104, Nat.le_of_ble_eq_true rfl, Nat.le_of_ble_eq_true rfl⟩)
  dsimp only [Pt.U, Pt.locs, Pt.cells, Pt.slots] at X105 l105 y105 z105 st105 hQ105
  subst l105 y105 z105
  obtain ⟨h105, e105⟩ : ∃ z, T105.heap = z := ⟨_, rfl⟩
  rw [e105] at hQ105
  obtain ⟨rfl, N105q, eq105⟩ := hQ105
  rw [eq105] at e105
  have N105 := Fr.app N104 N105q
  have c106_F_coder_o : Fld Z h104 o "java/lang/String" "coder" "B" u2 := F_coder_o.keep Kp104 nin0
  have c107_E_o : Exa Z h104 o "java/lang/String" := E_o.keep Kp104
  obtain ⟨T108, h108, X108, e108, W108, st108⟩ := putFN X105 hx hZ hown (wi hw 26 rfl) Via.refl e105 c106_F_coder_o c107_E_o (Or.inr ⟨(wi hw 27 rfl), rfl, hnm⟩) (wi hw 2 rfl) (ty := .byte) (v' := (.int (0 : Int32))) (by decide) rfl (rfl) (g := (mkF mM 48 (Lc_init4_s2_1 o a1 b_104) [(.int (0 : Int32)), (.ref o)])) rfl rfl (hb hby d_jdk_42_method_149_48)
  have Sz2 : h104.size ≤ h108.size := Nat.le_of_eq (Wr.size W108).symm
  have Fw108 : Fld Z h108 o "java/lang/String" "coder" "B" (.int (0 : Int32)) := Fld.same W108 c106_F_coder_o
  have N108 := Fr.snoc X108 N105 g_o
  have c109_F_value_o : Fld Z h104 o "java/lang/String" "value" "[B" u1 := F_value_o.keep Kp104 nin0
  have c110_F_value_o : Fld Z h108 o "java/lang/String" "value" "[B" u1 := Fld.other W108 c109_F_value_o (Or.inr (slot_ne (Or.inr (wi hw 29 rfl)) (Or.inr (wi hw 27 rfl)) (by decide) (t := (.array .byte)) (t' := .byte) (by decide) (by decide)))
  have c111_E_o : Exa Z h108 o "java/lang/String" := Exa.wr W108 c107_E_o
  obtain ⟨T112, h112, X112, e112, W112, st112⟩ := putF X108 hx hZ hown (host := "") (Or.inl (wi hw 28 rfl)) Via.refl e108 c110_F_value_o c111_E_o (Or.inr ⟨(wi hw 29 rfl), rfl, hnm⟩) (wi hw 2 rfl) (ty := (.array .byte)) (by decide) rfl rfl (g := (mkF mM 54 (Lc_init4_s2_1 o a1 b_104) [(.ref b_104), (.ref o)])) rfl rfl (hb hby d_jdk_42_method_149_54)
  have Sz3 : h108.size ≤ h112.size := Nat.le_of_eq (Wr.size W112).symm
  have Fw112 : Fld Z h112 o "java/lang/String" "value" "[B" (.ref b_104) := Fld.same W112 c110_F_value_o
  have N112 := Fr.snoc X112 N108 g_o
  have lt_b_104 : @LT.lt Nat _ b_104 h104.size := p104_V_b.lt
  have lt_o : @LT.lt Nat _ o h0.size := E_o.lt
  have ne_b_104_o_113 : b_104 ≠ o := (by omega : @Ne Nat b_104 o)
  have c114_V_b_104 : Arv Z h108 b_104 k2_104 .byte (2 : Int32) [(.int c0.toInt8.toInt32), (.int c1.toInt8.toInt32)] (.int (0 : Int32)) := p104_V_b.other W108 ne_b_104_o_113
  have c115_V_b_104 : Arv Z h112 b_104 k2_104 .byte (2 : Int32) [(.int c0.toInt8.toInt32), (.int c1.toInt8.toInt32)] (.int (0 : Int32)) := c114_V_b_104.other W112 ne_b_104_o_113
  have c116_E_o : Exa Z h112 o "java/lang/String" := Exa.wr W112 c111_E_o
  have c117_F_coder_o : Fld Z h112 o "java/lang/String" "coder" "B" (.int (0 : Int32)) := Fld.other W112 Fw108 (Or.inr (slot_ne (Or.inr (wi hw 27 rfl)) (Or.inr (wi hw 29 rfl)) (by decide) (t := .byte) (t' := (.array .byte)) (by decide) (by decide)))
  have K118 : Keep h0 h104 [o] := (Keep.refl h0 [o]).trans Kp104 all0
  have K119 : Keep h0 h108 [o] := K118.wr W108 (Or.inl (List.mem_of_getElem? (i := 0) rfl))
  have K120 : Keep h0 h112 [o] := K119.wr W112 (Or.inl (List.mem_of_getElem? (i := 0) rfl))
  obtain ⟨fs, hr, hrun, hended, hW, hsame⟩ := X112.leave (v := none) (fun _ => rfl)
  refine ⟨_, _, pre0 _ ?_, hrun, hended, _, _, rfl, ?_, ⟨_, rfl⟩, hW, hsame.mono (by decide) (by decide)⟩
  · show SS pP eE belowS s₁ (mkF mM 0 (Lc_init4_s2_0 o a1) []) _
    refine XS.aloadN X0.here hx rfl (hb hby d_jdk_42_method_149_0) rfl rfl ?_
    show SS pP eE belowS s₁ (mkF mM 1 (Lc_init4_s2_0 o a1) [(.ref o)]) _
    refine st101 _ ?_
    show SS pP eE belowS T101 (mkF mM 4 (Lc_init4_s2_0 o a1) []) _
    refine XS.iloadN X101.here hx rfl (hb hby d_jdk_42_method_149_4) rfl ?_
    show SS pP eE belowS T101 (mkF mM 5 (Lc_init4_s2_0 o a1) [(.int (2 : Int32))]) _
    refine XS.ifYes X101.here hx rfl (pc0 := 5) (pc' := 27) rfl (hb hby d_jdk_42_method_149_5) rfl ((if0 _ _).trans (feq (by decide : ¬ ((2 : Int32) = (0 : Int32)))).2) (by decide) (by decide) ?_
    show SS pP eE belowS T101 (mkF mM 27 (Lc_init4_s2_0 o a1) []) _
    refine st103 _ ?_
    show SS pP eE belowS T103 (mkF mM 30 (Lc_init4_s2_0 o a1) [(.int cs)]) _
    refine XS.ifNo X103.here hx rfl (hb hby d_jdk_42_method_149_30) rfl ((if0 _ _).trans (feq hcs).1) ?_
    show SS pP eE belowS T103 (mkF mM 33 (Lc_init4_s2_0 o a1) []) _
    refine XS.aloadN X103.here hx rfl (hb hby d_jdk_42_method_149_33) rfl rfl ?_
    show SS pP eE belowS T103 (mkF mM 34 (Lc_init4_s2_0 o a1) [(.ref a1)]) _
    refine XS.iloadN X103.here hx rfl (hb hby d_jdk_42_method_149_34) rfl ?_
    show SS pP eE belowS T103 (mkF mM 35 (Lc_init4_s2_0 o a1) [(.int (0 : Int32)), (.ref a1)]) _
    refine XS.iloadN X103.here hx rfl (hb hby d_jdk_42_method_149_35) rfl ?_
    show SS pP eE belowS T103 (mkF mM 36 (Lc_init4_s2_0 o a1) [(.int (2 : Int32)), (.int (0 : Int32)), (.ref a1)]) _
    refine st104 _ ?_
    show SS pP eE belowS T104 (mkF mM 39 (Lc_init4_s2_0 o a1) [(.ref b_104)]) _
    refine XS.astore X104.here hx rfl (hb hby d_jdk_42_method_149_39) rfl rfl (l' := (Lc_init4_s2_1 o a1 b_104)) rfl ?_
    show SS pP eE belowS T104 (mkF mM 41 (Lc_init4_s2_1 o a1 b_104) []) _
    refine XS.aloadN X104.here hx rfl (hb hby d_jdk_42_method_149_41) rfl rfl ?_
    show SS pP eE belowS T104 (mkF mM 42 (Lc_init4_s2_1 o a1 b_104) [(.ref o)]) _
    refine XS.aload X104.here hx rfl (hb hby d_jdk_42_method_149_42) rfl rfl ?_
    show SS pP eE belowS T104 (mkF mM 44 (Lc_init4_s2_1 o a1 b_104) [(.ref b_104), (.ref o)]) _
    refine XS.iloadN X104.here hx rfl (hb hby d_jdk_42_method_149_44) rfl ?_
    show SS pP eE belowS T104 (mkF mM 45 (Lc_init4_s2_1 o a1 b_104) [(.int (2 : Int32)), (.ref b_104), (.ref o)]) _
    refine st105 _ ?_
    show SS pP eE belowS T105 (mkF mM 48 (Lc_init4_s2_1 o a1 b_104) [(.int (0 : Int32)), (.ref o)]) _
    refine st108 _ ?_
    show SS pP eE belowS T108 (mkF mM 51 (Lc_init4_s2_1 o a1 b_104) []) _
    refine XS.aloadN X108.here hx rfl (hb hby d_jdk_42_method_149_51) rfl rfl ?_
    show SS pP eE belowS T108 (mkF mM 52 (Lc_init4_s2_1 o a1 b_104) [(.ref o)]) _
    refine XS.aload X108.here hx rfl (hb hby d_jdk_42_method_149_52) rfl rfl ?_
    show SS pP eE belowS T108 (mkF mM 54 (Lc_init4_s2_1 o a1 b_104) [(.ref b_104), (.ref o)]) _
    refine st112 _ ?_
    show SS pP eE belowS T112 (mkF mM 57 (Lc_init4_s2_1 o a1 b_104) []) _
    exact X112.returnOut hx Bd.returns (hb hby d_jdk_42_method_149_57) hr
  · show Q_init4_s2 Z o a1 k1 u1 u2 cs c0 c1 h0 n0 _ T112.heap _
    rw [e112]
    exact ⟨b_104, k2_104, rfl, N112, K120, c116_E_o, Fw112, c117_F_coder_o, c115_V_b_104, (by omega)⟩
theorem d_jdk_42_method_3_0 : decode jdk_42_method_3_code 0 = .ok (.aload_n 0, 1) := by decide +kernel
theorem d_jdk_42_method_3_1 : decode jdk_42_method_3_code 1 = .ok (.aload_n 1, 1) := by decide +kernel
theorem d_jdk_42_method_3_2 : decode jdk_42_method_3_code 2 = .ok (.iconst 0, 1) := by decide +kernel
theorem d_jdk_42_method_3_3 : decode jdk_42_method_3_code 3 = .ok (.aload_n 1, 1) := by decide +kernel
theorem d_jdk_42_method_3_4 : decode jdk_42_method_3_code 4 = .ok (.arraylength, 1) := by decide +kernel
theorem d_jdk_42_method_3_5 : decode jdk_42_method_3_code 5 = .ok (.aconst_null, 1) := by decide +kernel
theorem d_jdk_42_method_3_6 : decode jdk_42_method_3_code 6 = .ok (.invokespecial 27, 3) := by decide +kernel
theorem pd_1 : parseMethodDescriptor "([CIILjava/lang/Void;)V" = some ⟨[(.array .char), .int, .int, (.object "java/lang/Void")], none⟩ := by decide +kernel
theorem d_jdk_42_method_3_9 : decode jdk_42_method_3_code 9 = .ok (.return_, 1) := by decide +kernel
def Q_init1_s2 (Z : State) (o : Addr) (a1 : Addr) (k1 : ClassId) (u1 : Value) (u2 : Value) (cs : Int32) (c0 : Int32) (c1 : Int32) (h0 : Heap) (n0 : Nat) (xv : Option Value) (xh : Heap) (xL : List Loc) : Prop := ∃ b : Addr, ∃ k2 : ClassId, xv = none ∧ Fr n0 xL ∧ Keep h0 xh [o] ∧ Exa Z xh o "java/lang/String" ∧ Fld Z xh o "java/lang/String" "value" "[B" (.ref b) ∧ Fld Z xh o "java/lang/String" "coder" "B" (.int (0 : Int32)) ∧ Arv Z xh b k2 .byte (2 : Int32) [(.int c0.toInt8.toInt32), (.int c1.toInt8.toInt32)] (.int (0 : Int32)) ∧ @LE.le Nat _ h0.size b
theorem ef_init1_s2 (mM : MethodId) (o : Addr) (a1 : Addr) (k1 : ClassId) (u1 : Value) (u2 : Value) (cs : Int32) (c0 : Int32) (c1 : Int32) : entryFrame mM #[(.ref o), (.ref a1)] 2 = mkF mM 0 #[.val (.ref o), .val (.ref a1)] [] := by first | (simp [entryFrame, mkF, argsToLocals, Value.category]; done) | rfl
set_option maxRecDepth 65536 in
set_option maxHeartbeats 40000000 in
theorem rm_init1_s2 (l : Launch) (Z : State) (a0 : Array Value) (hw : ∀ d ∈ tables_1, d.before a0 Z = true) (ws : List Jvm.Cond) (o : Addr) (a1 : Addr) (k1 : ClassId) (u1 : Value) (u2 : Value) (cs : Int32) (c0 : Int32) (c1 : Int32) (h0 : Heap) (n0 : Nat) (Z0 : n0 ≤ h0.size) (E_o : Exa Z h0 o "java/lang/String") (F_value_o : Fld Z h0 o "java/lang/String" "value" "[B" u1) (F_coder_o : Fld Z h0 o "java/lang/String" "coder" "B" u2) (V_a1 : Arv Z h0 a1 k1 .char (2 : Int32) [(.int c0), (.int c1)] (.int (0 : Int32))) (g_o : @LE.le Nat _ n0 o) (OL : Old Z n0 h0) (S_COMPACT_STRINGS : Sta Z Z.heap "java/lang/String" "COMPACT_STRINGS" "Z" (.int cs)) (hcs : ¬ (cs = (0 : Int32))) (q0 : ¬ ((255 : Int32) < c0)) (q1 : ¬ ((255 : Int32) < c1)) :
    MetFree l (⟨"java/lang/String", "<init>", "([C)V"⟩ : MethodName) (head1 (Jvm.Cond.code (⟨"java/lang/String", "<init>", "([C)V"⟩ : MethodName) jdk_42_method_3_code 2 none :: ws) ({ frames := 3, cells := 1, slots := 2, locals := 52 } : Room)) (fun xa xU => xa = #[(.ref o), (.ref a1)] ∧ Z.Warmed39 xU.vm ∧ xU.heap = h0) (fun _ _ _ _ _ => True) (fun _ xU xo xU' => ∃ xv xL, xo = .returned xv ∧ Q_init1_s2 Z o a1 k1 u1 u2 cs c0 c1 h0 n0 xv xU'.heap xL ∧ FrameEnd xU xo xU' xL ({ frames := 3, cells := 1, slots := 2, locals := 52 } : Room).cells ({ frames := 3, cells := 1, slots := 2, locals := 52 } : Room).slots) := by
  refine MetFree.of_bodySF (plainFor_of_name pn_java_lang_String) hisR ?_
  intro pP eE sS mM argS belowS methS cC s₁ Bd hml0 hP hK
  obtain ⟨rfl, hZ, hh⟩ := hP
  have hx := Bd.exec
  have hby := Bd.bytes
  have hml : cC.maxLocals = 2 := hml0
  have hown : sS.vm.findClass "java/lang/String" = some mM.cls := findClass_of_methodNamed Bd.named
  have hnm := (name_of_methodNamed Bd.named Bd.method).1
  have X0 : Stand pP l eE ({ frames := 3, cells := 1, slots := 2, locals := 52 } : Room) sS mM #[(.ref o), (.ref a1)] belowS methS cC s₁ [] 0 0 := Stand.of_body Bd
  have e0 : s₁.heap = h0 := by rw [← hh, Bd.state]; rfl
  have N0 := Fr.nil n0
  have pre0 : ∀ t', Steps pP.tables eE belowS (s₁.setTop (mkF mM 0 #[.val (.ref o), .val (.ref a1)] [])) t' → Steps pP.tables eE belowS (s₁.setTop (entryFrame mM #[(.ref o), (.ref a1)] 2)) t' := fun t' kk' => castTop (ef_init1_s2 mM o a1 k1 u1 u2 cs c0 c1) kk'
  obtain ⟨cl101, Ar101, q101, S101, Ng101, Ha101, Ga101⟩ := id V_a1
  obtain ⟨_, _, ⟨T102, L102, k102, n102⟩, -, X102, ⟨Lc102, hQ102, l102, y102, z102⟩, st102⟩ := X0.specialBack hx (y := (⟨"java/lang/String", "<init>", "([CIILjava/lang/Void;)V"⟩ : MethodName)) rfl hown (mvT hZ (wi hw 7 rfl)) (mvT hZ (wi hw 8 rfl)) (mvT hZ (wi hw 10 rfl)) (by decide) (backOf (W := 0) (rm_init4_s2 l Z a0 hw [] o a1 k1 u1 u2 cs c0 c1 h0 n0 (by omega) E_o F_value_o F_coder_o V_a1 g_o OL S_COMPACT_STRINGS hcs q0 q1) hZ (wi hw 10 rfl) (wi hw 3 rfl) (by decide) (by decide)) (g := (mkF mM 6 #[.val (.ref o), .val (.ref a1)] [.null, (.int (2 : Int32)), (.int (0 : Int32)), (.ref a1), (.ref o)])) rfl (by rw [hml]; rfl) (Steps.refl _) (a := o) (argsL := [(.ref a1), (.int (0 : Int32)), (.int (2 : Int32)), .null]) (rest := []) (lenOf pd_1 rfl) rfl (by show 2 * 0 + _ ≤ _; exact Nat.le_of_eq rfl) (hb hby d_jdk_42_method_3_6) (fun _ _ => ⟨rfl, e0, Nat.le_of_ble_eq_true rfl, Nat.le_of_ble_eq_true rfl⟩)
  dsimp only [Pt.U, Pt.locs, Pt.cells, Pt.slots] at X102 l102 y102 z102 st102 hQ102
  subst l102 y102 z102
  obtain ⟨h102, e102⟩ : ∃ z, T102.heap = z := ⟨_, rfl⟩
  rw [e102] at hQ102
  obtain ⟨b_102, k2_102, rfl, N102q, Kp102, p102_E_o, p102_F_value_o, p102_F_coder_o, p102_V_b, p102_gh_b⟩ := hQ102
  have Sz1 : h0.size ≤ h102.size := Kp102.1
  have N102 := Fr.app N0 N102q
  have K103 : Keep h0 h102 [o] := (Keep.refl h0 [o]).trans Kp102 (allS (Or.inl (List.mem_of_getElem? (i := 0) rfl)) all0)
  obtain ⟨fs, hr, hrun, hended, hW, hsame⟩ := X102.leave (v := none) (fun _ => rfl)
  refine ⟨_, _, pre0 _ ?_, hrun, hended, _, _, rfl, ?_, ⟨_, rfl⟩, hW, hsame.mono (by decide) (by decide)⟩
  · show SS pP eE belowS s₁ (mkF mM 0 #[.val (.ref o), .val (.ref a1)] []) _
    refine XS.aloadN X0.here hx rfl (hb hby d_jdk_42_method_3_0) rfl rfl ?_
    show SS pP eE belowS s₁ (mkF mM 1 #[.val (.ref o), .val (.ref a1)] [(.ref o)]) _
    refine XS.aloadN X0.here hx rfl (hb hby d_jdk_42_method_3_1) rfl rfl ?_
    show SS pP eE belowS s₁ (mkF mM 2 #[.val (.ref o), .val (.ref a1)] [(.ref a1), (.ref o)]) _
    refine XS.iconst X0.here hx rfl (hb hby d_jdk_42_method_3_2) ?_
    show SS pP eE belowS s₁ (mkF mM 3 #[.val (.ref o), .val (.ref a1)] [(.int (0 : Int32)), (.ref a1), (.ref o)]) _
    refine XS.aloadN X0.here hx rfl (hb hby d_jdk_42_method_3_3) rfl rfl ?_
    show SS pP eE belowS s₁ (mkF mM 4 #[.val (.ref o), .val (.ref a1)] [(.ref a1), (.int (0 : Int32)), (.ref a1), (.ref o)]) _
    refine X0.arraylength hx (by rw [e0]; exact Ar101.1) (State.isArrayOf_alike hZ.alike Ar101.2.1) (g := (mkF mM 4 #[.val (.ref o), .val (.ref a1)] [(.ref a1), (.int (0 : Int32)), (.ref a1), (.ref o)])) rfl rfl (hb hby d_jdk_42_method_3_4) _ ?_
    rw [len_of S101 Ng101]
    show SS pP eE belowS s₁ (mkF mM 5 #[.val (.ref o), .val (.ref a1)] [(.int (2 : Int32)), (.int (0 : Int32)), (.ref a1), (.ref o)]) _
    refine XS.aconstNull X0.here hx rfl (hb hby d_jdk_42_method_3_5) ?_
    show SS pP eE belowS s₁ (mkF mM 6 #[.val (.ref o), .val (.ref a1)] [.null, (.int (2 : Int32)), (.int (0 : Int32)), (.ref a1), (.ref o)]) _
    refine st102.trans ?_
    show SS pP eE belowS T102 (mkF mM 9 #[.val (.ref o), .val (.ref a1)] []) _
    exact X102.returnOut hx Bd.returns (hb hby d_jdk_42_method_3_9) hr
  · show Q_init1_s2 Z o a1 k1 u1 u2 cs c0 c1 h0 n0 _ T102.heap _
    rw [e102]
    exact ⟨b_102, k2_102, rfl, N102, K103, p102_E_o, p102_F_value_o, p102_F_coder_o, p102_V_b, (by omega)⟩
theorem own_thW {Z : State} {a0 : Array Value} (hw : ∀ d ∈ tables_1, d.before a0 Z = true) : ∀ d ∈ thW "com/example/custode/custode/store/StoreException", d.before a0 Z = true := by
  intro d hd
  simp only [thW, List.mem_cons, List.mem_append, List.not_mem_nil, or_false, false_or, or_assoc] at hd
  rcases hd with rfl | rfl | rfl | rfl | rfl | rfl | rfl | rfl | rfl | rfl | rfl | rfl | rfl | rfl | rfl | rfl | rfl | rfl | rfl | rfl | rfl | rfl | rfl | rfl | rfl | rfl | rfl | rfl | rfl | rfl | rfl
  · exact wi hw 51 rfl
  · exact wi hw 69 rfl
  · exact wi hw 64 rfl
  · exact wi hw 70 rfl
  · exact wi hw 71 rfl
  · exact wi hw 72 rfl
  · exact wi hw 12 rfl
  · exact wi hw 13 rfl
  · exact wi hw 53 rfl
  · exact wi hw 62 rfl
  · exact wi hw 75 rfl
  · exact wi hw 54 rfl
  · exact wi hw 57 rfl
  · exact wi hw 60 rfl
  · exact wi hw 80 rfl
  · exact wi hw 56 rfl
  · exact wi hw 82 rfl
  · exact wi hw 59 rfl
  · exact wi hw 83 rfl
  · exact wi hw 55 rfl
  · exact wi hw 58 rfl
  · exact wi hw 61 rfl
  · exact wi hw 85 rfl
  · exact wi hw 86 rfl
  · exact wi hw 87 rfl
  · exact wi hw 66 rfl
  · exact wi hw 67 rfl
  · exact wi hw 68 rfl
  · exact wi hw 84 rfl
  · exact wi hw 65 rfl
  · exact wi hw 63 rfl
theorem d_jdk_78_method_2_0 : decode jdk_78_method_2_code 0 = .ok (.aload_n 0, 1) := by decide +kernel
theorem d_jdk_78_method_2_1 : decode jdk_78_method_2_code 1 = .ok (.invokespecial 1, 3) := by decide +kernel
theorem d_jdk_78_method_2_4 : decode jdk_78_method_2_code 4 = .ok (.aload_n 0, 1) := by decide +kernel
theorem d_jdk_78_method_2_5 : decode jdk_78_method_2_code 5 = .ok (.aload_n 0, 1) := by decide +kernel
theorem d_jdk_78_method_2_6 : decode jdk_78_method_2_code 6 = .ok (.putfield 7, 3) := by decide +kernel
theorem d_jdk_78_method_2_9 : decode jdk_78_method_2_code 9 = .ok (.aload_n 0, 1) := by decide +kernel
theorem d_jdk_78_method_2_10 : decode jdk_78_method_2_code 10 = .ok (.getstatic 13, 3) := by decide +kernel
theorem d_jdk_78_method_2_13 : decode jdk_78_method_2_code 13 = .ok (.putfield 17, 3) := by decide +kernel
theorem d_jdk_78_method_2_16 : decode jdk_78_method_2_code 16 = .ok (.aload_n 0, 1) := by decide +kernel
theorem d_jdk_78_method_2_17 : decode jdk_78_method_2_code 17 = .ok (.getstatic 20, 3) := by decide +kernel
theorem d_jdk_78_method_2_20 : decode jdk_78_method_2_code 20 = .ok (.putfield 24, 3) := by decide +kernel
theorem d_jdk_78_method_2_23 : decode jdk_78_method_2_code 23 = .ok (.aload_n 0, 1) := by decide +kernel
theorem d_jdk_78_method_2_24 : decode jdk_78_method_2_code 24 = .ok (.invokevirtual 27, 3) := by decide +kernel
theorem d_jdk_78_method_2_27 : decode jdk_78_method_2_code 27 = .ok (.pop, 1) := by decide +kernel
theorem d_jdk_78_method_2_28 : decode jdk_78_method_2_code 28 = .ok (.aload_n 0, 1) := by decide +kernel
theorem d_jdk_78_method_2_29 : decode jdk_78_method_2_code 29 = .ok (.aload_n 1, 1) := by decide +kernel
theorem d_jdk_78_method_2_30 : decode jdk_78_method_2_code 30 = .ok (.putfield 31, 3) := by decide +kernel
theorem d_jdk_78_method_2_33 : decode jdk_78_method_2_code 33 = .ok (.return_, 1) := by decide +kernel
theorem pn_java_lang_Throwable : plainName "java/lang/Throwable" = true := by first | (simp [plainName, overriddenIn]; done) | decide +kernel
def Q_ctor_Throwable (Z : State) (o : Addr) (b : Addr) (ua : Addr) (sa : Addr) (w1 : Value) (w2 : Value) (w3 : Value) (w4 : Value) (k0 : Value) (h0 : Heap) (n0 : Nat) (xv : Option Value) (xh : Heap) (xL : List Loc) : Prop := xv = none ∧ Fr n0 xL ∧ Keep h0 xh [o] ∧ Exa Z xh o "com/example/custode/custode/store/StoreException" ∧ Unt xh o ∧ Fld Z xh o "java/lang/Throwable" "detailMessage" "Ljava/lang/String;" (.ref b) ∧ Fld Z xh o "com/example/custode/custode/store/StoreException" "code" "I" k0
theorem ef_ctor_Throwable (mM : MethodId) (o : Addr) (b : Addr) (ua : Addr) (sa : Addr) (w1 : Value) (w2 : Value) (w3 : Value) (w4 : Value) (k0 : Value) : entryFrame mM #[(.ref o), (.ref b)] 2 = mkF mM 0 #[.val (.ref o), .val (.ref b)] [] := by first | (simp [entryFrame, mkF, argsToLocals, Value.category]; done) | rfl
set_option maxRecDepth 65536 in
set_option maxHeartbeats 40000000 in
theorem rm_ctor_Throwable (l : Launch) (Z : State) (a0 : Array Value) (hw : ∀ d ∈ tables_1, d.before a0 Z = true) (ws : List Jvm.Cond) (o : Addr) (b : Addr) (ua : Addr) (sa : Addr) (w1 : Value) (w2 : Value) (w3 : Value) (w4 : Value) (k0 : Value) (h0 : Heap) (n0 : Nat) (Z0 : n0 ≤ h0.size) (E_o : Exa Z h0 o "com/example/custode/custode/store/StoreException") (U_o : Unt h0 o) (F_cause_o : Fld Z h0 o "java/lang/Throwable" "cause" "Ljava/lang/Throwable;" w1) (F_stackTrace_o : Fld Z h0 o "java/lang/Throwable" "stackTrace" "[Ljava/lang/StackTraceElement;" w2) (F_suppressedExceptions_o : Fld Z h0 o "java/lang/Throwable" "suppressedExceptions" "Ljava/util/List;" w3) (F_detailMessage_o : Fld Z h0 o "java/lang/Throwable" "detailMessage" "Ljava/lang/String;" w4) (F_backtrace_o : Fld Z h0 o "java/lang/Throwable" "backtrace" "Ljava/lang/Object;" .null) (F_code_o : Fld Z h0 o "com/example/custode/custode/store/StoreException" "code" "I" k0) (g_o : @LE.le Nat _ n0 o) (OL : Old Z n0 h0) (TH : ThS Z h0) (S_UNASSIGNED_STACK : Sta Z Z.heap "java/lang/Throwable" "UNASSIGNED_STACK" "[Ljava/lang/StackTraceElement;" (.ref ua)) (S_SUPPRESSED_SENTINEL : Sta Z Z.heap "java/lang/Throwable" "SUPPRESSED_SENTINEL" "Ljava/util/List;" (.ref sa)) (hl : l.stackTraces = true) :
    MetFree l (⟨"java/lang/Throwable", "<init>", "(Ljava/lang/String;)V"⟩ : MethodName) (head1 (Jvm.Cond.code (⟨"java/lang/Throwable", "<init>", "(Ljava/lang/String;)V"⟩ : MethodName) jdk_78_method_2_code 2 none :: ws) ({ frames := 3, cells := 1, slots := 2752, locals := 42 } : Room)) (fun xa xU => xa = #[(.ref o), (.ref b)] ∧ Z.Warmed39 xU.vm ∧ xU.heap = h0) (fun _ _ bl s _ => s.vm.MethodsKnown ∧ s.vm.FramesKnown bl) (fun _ xU xo xU' => ∃ xv xL, xo = .returned xv ∧ Q_ctor_Throwable Z o b ua sa w1 w2 w3 w4 k0 h0 n0 xv xU'.heap xL ∧ FrameEnd xU xo xU' xL ({ frames := 3, cells := 1, slots := 2752, locals := 42 } : Room).cells ({ frames := 3, cells := 1, slots := 2752, locals := 42 } : Room).slots) := by
  refine MetFree.of_bodySF (plainFor_of_name pn_java_lang_Throwable) hisR ?_
  intro pP eE sS mM argS belowS methS cC s₁ Bd hml0 hP hK
  obtain ⟨rfl, hZ, hh⟩ := hP
  have hx := Bd.exec
  have hby := Bd.bytes
  have hml : cC.maxLocals = 2 := hml0
  have hown : sS.vm.findClass "java/lang/Throwable" = some mM.cls := findClass_of_methodNamed Bd.named
  have hnm := (name_of_methodNamed Bd.named Bd.method).1
  have X0 : Stand pP l eE ({ frames := 3, cells := 1, slots := 2752, locals := 42 } : Room) sS mM #[(.ref o), (.ref b)] belowS methS cC s₁ [] 0 0 := Stand.of_body Bd
  have e0 : s₁.heap = h0 := by rw [← hh, Bd.state]; rfl
  have N0 := Fr.nil n0
  have pre0 : ∀ t', Steps pP.tables eE belowS (s₁.setTop (mkF mM 0 #[.val (.ref o), .val (.ref b)] [])) t' → Steps pP.tables eE belowS (s₁.setTop (entryFrame mM #[(.ref o), (.ref b)] 2)) t' := fun t' kk' => castTop (ef_ctor_Throwable mM o b ua sa w1 w2 w3 w4 k0) kk'
  obtain ⟨hTK, hBelow⟩ := hK
  obtain ⟨T101, X101, e101, st101⟩ := initO X0 hx hZ hown (wi hw 53 rfl) (wi hw 12 rfl) (wi hw 13 rfl) e0 (g := (mkF mM 1 #[.val (.ref o), .val (.ref b)] [(.ref o)])) rfl (by rw [hml]; rfl) rfl (hb hby d_jdk_78_method_2_1) (by decide) (W := 0) (by show 2 * 0 + _ ≤ _; exact Nat.le_of_eq rfl) (by decide)
  obtain ⟨T102, h102, X102, e102, W102, st102⟩ := putF X101 hx hZ hown (host := "") (Or.inl (wi hw 54 rfl)) Via.refl e101 F_cause_o E_o (Or.inl (wi hw 55 rfl)) (wi hw 31 rfl) (ty := (.object "java/lang/Throwable")) (by decide) rfl rfl (g := (mkF mM 6 #[.val (.ref o), .val (.ref b)] [(.ref o), (.ref o)])) rfl rfl (hb hby d_jdk_78_method_2_6)
  have Sz1 : h0.size ≤ h102.size := Nat.le_of_eq (Wr.size W102).symm
  have Fw102 : Fld Z h102 o "java/lang/Throwable" "cause" "Ljava/lang/Throwable;" (.ref o) := Fld.same W102 F_cause_o
  have N102 := Fr.snoc X102 N0 g_o
  have c103_OL : Old Z n0 h102 := OL.wr W102 g_o
  have c104_S_UNASSIGNED_STACK : Sta Z h102 "java/lang/Throwable" "UNASSIGNED_STACK" "[Ljava/lang/StackTraceElement;" (.ref ua) := Sta.ext c103_OL.2 S_UNASSIGNED_STACK
  obtain ⟨T105, X105, e105, st105⟩ := getS2 X102 hx hZ hown (host := "") (Or.inl (wi hw 56 rfl)) Via.refl e102 c104_S_UNASSIGNED_STACK (g := (mkF mM 10 #[.val (.ref o), .val (.ref b)] [(.ref o)])) rfl (hb hby d_jdk_78_method_2_10)
  have c106_F_stackTrace_o : Fld Z h102 o "java/lang/Throwable" "stackTrace" "[Ljava/lang/StackTraceElement;" w2 := Fld.other W102 F_stackTrace_o (Or.inr (slot_ne (Or.inl (wi hw 58 rfl)) (Or.inl (wi hw 55 rfl)) (by decide) (t := (.array (.object "java/lang/StackTraceElement"))) (t' := (.object "java/lang/Throwable")) (by decide) (by decide)))
  have c107_E_o : Exa Z h102 o "com/example/custode/custode/store/StoreException" := Exa.wr W102 E_o
  obtain ⟨T108, h108, X108, e108, W108, st108⟩ := putF X105 hx hZ hown (host := "") (Or.inl (wi hw 57 rfl)) Via.refl e105 c106_F_stackTrace_o c107_E_o (Or.inl (wi hw 58 rfl)) (wi hw 31 rfl) (ty := (.array (.object "java/lang/StackTraceElement"))) (by decide) rfl rfl (g := (mkF mM 13 #[.val (.ref o), .val (.ref b)] [(.ref ua), (.ref o)])) rfl rfl (hb hby d_jdk_78_method_2_13)
  have Sz2 : h102.size ≤ h108.size := Nat.le_of_eq (Wr.size W108).symm
  have Fw108 : Fld Z h108 o "java/lang/Throwable" "stackTrace" "[Ljava/lang/StackTraceElement;" (.ref ua) := Fld.same W108 c106_F_stackTrace_o
  have N108 := Fr.snoc X108 N102 g_o
  have c109_OL : Old Z n0 h108 := c103_OL.wr W108 g_o
  have c110_S_SUPPRESSED_SENTINEL : Sta Z h108 "java/lang/Throwable" "SUPPRESSED_SENTINEL" "Ljava/util/List;" (.ref sa) := Sta.ext c109_OL.2 S_SUPPRESSED_SENTINEL
  obtain ⟨T111, X111, e111, st111⟩ := getS2 X108 hx hZ hown (host := "") (Or.inl (wi hw 59 rfl)) Via.refl e108 c110_S_SUPPRESSED_SENTINEL (g := (mkF mM 17 #[.val (.ref o), .val (.ref b)] [(.ref o)])) rfl (hb hby d_jdk_78_method_2_17)
  have c112_F_suppressedExceptions_o : Fld Z h102 o "java/lang/Throwable" "suppressedExceptions" "Ljava/util/List;" w3 := Fld.other W102 F_suppressedExceptions_o (Or.inr (slot_ne (Or.inl (wi hw 61 rfl)) (Or.inl (wi hw 55 rfl)) (by decide) (t := (.object "java/util/List")) (t' := (.object "java/lang/Throwable")) (by decide) (by decide)))
  have c113_F_suppressedExceptions_o : Fld Z h108 o "java/lang/Throwable" "suppressedExceptions" "Ljava/util/List;" w3 := Fld.other W108 c112_F_suppressedExceptions_o (Or.inr (slot_ne (Or.inl (wi hw 61 rfl)) (Or.inl (wi hw 58 rfl)) (by decide) (t := (.object "java/util/List")) (t' := (.array (.object "java/lang/StackTraceElement"))) (by decide) (by decide)))
  have c114_E_o : Exa Z h108 o "com/example/custode/custode/store/StoreException" := Exa.wr W108 c107_E_o
  obtain ⟨T115, h115, X115, e115, W115, st115⟩ := putF X111 hx hZ hown (host := "") (Or.inl (wi hw 60 rfl)) Via.refl e111 c113_F_suppressedExceptions_o c114_E_o (Or.inl (wi hw 61 rfl)) (wi hw 31 rfl) (ty := (.object "java/util/List")) (by decide) rfl rfl (g := (mkF mM 20 #[.val (.ref o), .val (.ref b)] [(.ref sa), (.ref o)])) rfl rfl (hb hby d_jdk_78_method_2_20)
  have Sz3 : h108.size ≤ h115.size := Nat.le_of_eq (Wr.size W115).symm
  have Fw115 : Fld Z h115 o "java/lang/Throwable" "suppressedExceptions" "Ljava/util/List;" (.ref sa) := Fld.same W115 c113_F_suppressedExceptions_o
  have N115 := Fr.snoc X115 N108 g_o
  have c117_E_o : Exa Z h115 o "com/example/custode/custode/store/StoreException" := Exa.wr W115 c114_E_o
  have c118_U_o : Unt h102 o := Unt.wr W102 U_o
  have c119_U_o : Unt h108 o := Unt.wr W108 c118_U_o
  have c120_U_o : Unt h115 o := Unt.wr W115 c119_U_o
  have c121_F_stackTrace_o : Fld Z h115 o "java/lang/Throwable" "stackTrace" "[Ljava/lang/StackTraceElement;" (.ref ua) := Fld.other W115 Fw108 (Or.inr (slot_ne (Or.inl (wi hw 58 rfl)) (Or.inl (wi hw 61 rfl)) (by decide) (t := (.array (.object "java/lang/StackTraceElement"))) (t' := (.object "java/util/List")) (by decide) (by decide)))
  have c122_F_backtrace_o : Fld Z h102 o "java/lang/Throwable" "backtrace" "Ljava/lang/Object;" .null := Fld.other W102 F_backtrace_o (Or.inr (slot_ne (Or.inl (wi hw 86 rfl)) (Or.inl (wi hw 55 rfl)) (by decide) (t := (.object "java/lang/Object")) (t' := (.object "java/lang/Throwable")) (by decide) (by decide)))
  have c123_F_backtrace_o : Fld Z h108 o "java/lang/Throwable" "backtrace" "Ljava/lang/Object;" .null := Fld.other W108 c122_F_backtrace_o (Or.inr (slot_ne (Or.inl (wi hw 86 rfl)) (Or.inl (wi hw 58 rfl)) (by decide) (t := (.object "java/lang/Object")) (t' := (.array (.object "java/lang/StackTraceElement"))) (by decide) (by decide)))
  have c124_F_backtrace_o : Fld Z h115 o "java/lang/Throwable" "backtrace" "Ljava/lang/Object;" .null := Fld.other W115 c123_F_backtrace_o (Or.inr (slot_ne (Or.inl (wi hw 86 rfl)) (Or.inl (wi hw 61 rfl)) (by decide) (t := (.object "java/lang/Object")) (t' := (.object "java/util/List")) (by decide) (by decide)))
  have c125_OL : Old Z n0 h115 := c109_OL.wr W115 g_o
  have c126_S_UNASSIGNED_STACK : Sta Z h115 "java/lang/Throwable" "UNASSIGNED_STACK" "[Ljava/lang/StackTraceElement;" (.ref ua) := Sta.ext c125_OL.2 S_UNASSIGNED_STACK
  have c127_F_code_o : Fld Z h102 o "com/example/custode/custode/store/StoreException" "code" "I" k0 := Fld.other W102 F_code_o (Or.inr (slot_ne (Or.inr (wi hw 91 rfl)) (Or.inl (wi hw 55 rfl)) (by decide) (t := .int) (t' := (.object "java/lang/Throwable")) (by decide) (by decide)))
  have c128_F_code_o : Fld Z h108 o "com/example/custode/custode/store/StoreException" "code" "I" k0 := Fld.other W108 c127_F_code_o (Or.inr (slot_ne (Or.inr (wi hw 91 rfl)) (Or.inl (wi hw 58 rfl)) (by decide) (t := .int) (t' := (.array (.object "java/lang/StackTraceElement"))) (by decide) (by decide)))
  have c129_F_code_o : Fld Z h115 o "com/example/custode/custode/store/StoreException" "code" "I" k0 := Fld.other W115 c128_F_code_o (Or.inr (slot_ne (Or.inr (wi hw 91 rfl)) (Or.inl (wi hw 61 rfl)) (by decide) (t := .int) (t' := (.object "java/util/List")) (by decide) (by decide)))
  obtain ⟨T116, h116, X116, e116, Kq116, st116⟩ := fillL X115 hx hl hZ hown (own_thW hw) (wi hw 31 rfl) hTK hBelow (by rw [hh]; exact TH) e115 c117_E_o c120_U_o c121_F_stackTrace_o c124_F_backtrace_o c126_S_UNASSIGNED_STACK (g := (mkF mM 24 #[.val (.ref o), .val (.ref b)] [(.ref o)])) rfl (by rw [hml]; rfl) rfl (hb hby d_jdk_78_method_2_24) (W := 0) (by show 2 * 0 + _ ≤ _; exact Nat.le_of_eq rfl) (by decide) (by decide) (by decide) (by decide)
  have Kx116 := keep_of_kp Kq116
  have Sz4 : h115.size ≤ h116.size := Kx116.1
  have N116 := Fr.six (Z := Z) N115 g_o
  have A116 : Exa Z h116 o "com/example/custode/custode/store/StoreException" := Exa.kp Kq116 c117_E_o
  have B116 : Unt h116 o := Unt.kp Kq116 c120_U_o
  obtain ⟨um116, M116⟩ := fld_laid (O := "java/lang/Throwable") (n := "detailMessage") (d := "Ljava/lang/String;") A116 B116.known (wi hw 31 rfl) (Or.inl (wi hw 85 rfl))
  have Fk116_code : Fld Z h116 o "com/example/custode/custode/store/StoreException" "code" "I" k0 := Fld.kp Kq116 c129_F_code_o (Or.inr (six_apart (own_thW hw) (Or.inr (wi hw 91 rfl)) (ty := .int) (by decide) (by decide)))
  obtain ⟨T130, h130, X130, e130, W130, st130⟩ := putF X116 hx hZ hown (host := "") (Or.inl (wi hw 89 rfl)) Via.refl e116 M116 A116 (Or.inl (wi hw 85 rfl)) (wi hw 31 rfl) (ty := (.object "java/lang/String")) (by decide) rfl rfl (g := (mkF mM 30 #[.val (.ref o), .val (.ref b)] [(.ref b), (.ref o)])) rfl rfl (hb hby d_jdk_78_method_2_30)
  have Sz5 : h116.size ≤ h130.size := Nat.le_of_eq (Wr.size W130).symm
  have Fw130 : Fld Z h130 o "java/lang/Throwable" "detailMessage" "Ljava/lang/String;" (.ref b) := Fld.same W130 M116
  have N130 := Fr.snoc X130 N116 g_o
  have c131_E_o : Exa Z h130 o "com/example/custode/custode/store/StoreException" := Exa.wr W130 A116
  have c132_U_o : Unt h130 o := Unt.wr W130 B116
  have c133_F_code_o : Fld Z h130 o "com/example/custode/custode/store/StoreException" "code" "I" k0 := Fld.other W130 Fk116_code (Or.inr (slot_ne (Or.inr (wi hw 91 rfl)) (Or.inl (wi hw 85 rfl)) (by decide) (t := .int) (t' := (.object "java/lang/String")) (by decide) (by decide)))
  have K134 : Keep h0 h102 [o] := (Keep.refl h0 [o]).wr W102 (Or.inl (List.mem_of_getElem? (i := 0) rfl))
  have K135 : Keep h0 h108 [o] := K134.wr W108 (Or.inl (List.mem_of_getElem? (i := 0) rfl))
  have K136 : Keep h0 h115 [o] := K135.wr W115 (Or.inl (List.mem_of_getElem? (i := 0) rfl))
  have K137 : Keep h0 h116 [o] := K136.trans Kx116 (allS (Or.inl (List.mem_of_getElem? (i := 0) rfl)) all0)
  have K138 : Keep h0 h130 [o] := K137.wr W130 (Or.inl (List.mem_of_getElem? (i := 0) rfl))
  obtain ⟨fs, hr, hrun, hended, hW, hsame⟩ := X130.leave (v := none) (fun _ => rfl)
  refine ⟨_, _, pre0 _ ?_, hrun, hended, _, _, rfl, ?_, ⟨_, rfl⟩, hW, hsame.mono (by decide) (by decide)⟩
  · show SS pP eE belowS s₁ (mkF mM 0 #[.val (.ref o), .val (.ref b)] []) _
    refine XS.aloadN X0.here hx rfl (hb hby d_jdk_78_method_2_0) rfl rfl ?_
    show SS pP eE belowS s₁ (mkF mM 1 #[.val (.ref o), .val (.ref b)] [(.ref o)]) _
    refine st101 _ ?_
    show SS pP eE belowS T101 (mkF mM 4 #[.val (.ref o), .val (.ref b)] []) _
    refine XS.aloadN X101.here hx rfl (hb hby d_jdk_78_method_2_4) rfl rfl ?_
    show SS pP eE belowS T101 (mkF mM 5 #[.val (.ref o), .val (.ref b)] [(.ref o)]) _
    refine XS.aloadN X101.here hx rfl (hb hby d_jdk_78_method_2_5) rfl rfl ?_
    show SS pP eE belowS T101 (mkF mM 6 #[.val (.ref o), .val (.ref b)] [(.ref o), (.ref o)]) _
    refine st102 _ ?_
    show SS pP eE belowS T102 (mkF mM 9 #[.val (.ref o), .val (.ref b)] []) _
    refine XS.aloadN X102.here hx rfl (hb hby d_jdk_78_method_2_9) rfl rfl ?_
    show SS pP eE belowS T102 (mkF mM 10 #[.val (.ref o), .val (.ref b)] [(.ref o)]) _
    refine st105 _ ?_
    show SS pP eE belowS T105 (mkF mM 13 #[.val (.ref o), .val (.ref b)] [(.ref ua), (.ref o)]) _
    refine st108 _ ?_
    show SS pP eE belowS T108 (mkF mM 16 #[.val (.ref o), .val (.ref b)] []) _
    refine XS.aloadN X108.here hx rfl (hb hby d_jdk_78_method_2_16) rfl rfl ?_
    show SS pP eE belowS T108 (mkF mM 17 #[.val (.ref o), .val (.ref b)] [(.ref o)]) _
    refine st111 _ ?_
    show SS pP eE belowS T111 (mkF mM 20 #[.val (.ref o), .val (.ref b)] [(.ref sa), (.ref o)]) _
    refine st115 _ ?_
    show SS pP eE belowS T115 (mkF mM 23 #[.val (.ref o), .val (.ref b)] []) _
    refine XS.aloadN X115.here hx rfl (hb hby d_jdk_78_method_2_23) rfl rfl ?_
    show SS pP eE belowS T115 (mkF mM 24 #[.val (.ref o), .val (.ref b)] [(.ref o)]) _
    refine st116 _ ?_
    show SS pP eE belowS T116 (mkF mM 27 #[.val (.ref o), .val (.ref b)] [(.ref o)]) _
    refine XS.pop X116.here hx rfl (hb hby d_jdk_78_method_2_27) rfl rfl ?_
    show SS pP eE belowS T116 (mkF mM 28 #[.val (.ref o), .val (.ref b)] []) _
    refine XS.aloadN X116.here hx rfl (hb hby d_jdk_78_method_2_28) rfl rfl ?_
    show SS pP eE belowS T116 (mkF mM 29 #[.val (.ref o), .val (.ref b)] [(.ref o)]) _
    refine XS.aloadN X116.here hx rfl (hb hby d_jdk_78_method_2_29) rfl rfl ?_
    show SS pP eE belowS T116 (mkF mM 30 #[.val (.ref o), .val (.ref b)] [(.ref b), (.ref o)]) _
    refine st130 _ ?_
    show SS pP eE belowS T130 (mkF mM 33 #[.val (.ref o), .val (.ref b)] []) _
    exact X130.returnOut hx Bd.returns (hb hby d_jdk_78_method_2_33) hr
  · show Q_ctor_Throwable Z o b ua sa w1 w2 w3 w4 k0 h0 n0 _ T130.heap _
    rw [e130]
    exact ⟨rfl, N130, K138, c131_E_o, c132_U_o, Fw130, c133_F_code_o⟩
theorem d_jdk_59_method_2_0 : decode jdk_59_method_2_code 0 = .ok (.aload_n 0, 1) := by decide +kernel
theorem d_jdk_59_method_2_1 : decode jdk_59_method_2_code 1 = .ok (.aload_n 1, 1) := by decide +kernel
theorem d_jdk_59_method_2_2 : decode jdk_59_method_2_code 2 = .ok (.invokespecial 7, 3) := by decide +kernel
theorem pd_7 : parseMethodDescriptor "(Ljava/lang/String;)V" = some ⟨[(.object "java/lang/String")], none⟩ := by decide +kernel
theorem d_jdk_59_method_2_5 : decode jdk_59_method_2_code 5 = .ok (.return_, 1) := by decide +kernel
theorem pn_java_lang_Exception : plainName "java/lang/Exception" = true := by first | (simp [plainName, overriddenIn]; done) | decide +kernel
def Q_ctor_Exception (Z : State) (o : Addr) (b : Addr) (ua : Addr) (sa : Addr) (w1 : Value) (w2 : Value) (w3 : Value) (w4 : Value) (k0 : Value) (h0 : Heap) (n0 : Nat) (xv : Option Value) (xh : Heap) (xL : List Loc) : Prop := xv = none ∧ Fr n0 xL ∧ Keep h0 xh [o] ∧ Exa Z xh o "com/example/custode/custode/store/StoreException" ∧ Unt xh o ∧ Fld Z xh o "java/lang/Throwable" "detailMessage" "Ljava/lang/String;" (.ref b) ∧ Fld Z xh o "com/example/custode/custode/store/StoreException" "code" "I" k0
theorem ef_ctor_Exception (mM : MethodId) (o : Addr) (b : Addr) (ua : Addr) (sa : Addr) (w1 : Value) (w2 : Value) (w3 : Value) (w4 : Value) (k0 : Value) : entryFrame mM #[(.ref o), (.ref b)] 2 = mkF mM 0 #[.val (.ref o), .val (.ref b)] [] := by first | (simp [entryFrame, mkF, argsToLocals, Value.category]; done) | rfl
set_option maxRecDepth 65536 in
set_option maxHeartbeats 40000000 in
theorem rm_ctor_Exception (l : Launch) (Z : State) (a0 : Array Value) (hw : ∀ d ∈ tables_1, d.before a0 Z = true) (ws : List Jvm.Cond) (o : Addr) (b : Addr) (ua : Addr) (sa : Addr) (w1 : Value) (w2 : Value) (w3 : Value) (w4 : Value) (k0 : Value) (h0 : Heap) (n0 : Nat) (Z0 : n0 ≤ h0.size) (E_o : Exa Z h0 o "com/example/custode/custode/store/StoreException") (U_o : Unt h0 o) (F_cause_o : Fld Z h0 o "java/lang/Throwable" "cause" "Ljava/lang/Throwable;" w1) (F_stackTrace_o : Fld Z h0 o "java/lang/Throwable" "stackTrace" "[Ljava/lang/StackTraceElement;" w2) (F_suppressedExceptions_o : Fld Z h0 o "java/lang/Throwable" "suppressedExceptions" "Ljava/util/List;" w3) (F_detailMessage_o : Fld Z h0 o "java/lang/Throwable" "detailMessage" "Ljava/lang/String;" w4) (F_backtrace_o : Fld Z h0 o "java/lang/Throwable" "backtrace" "Ljava/lang/Object;" .null) (F_code_o : Fld Z h0 o "com/example/custode/custode/store/StoreException" "code" "I" k0) (g_o : @LE.le Nat _ n0 o) (OL : Old Z n0 h0) (TH : ThS Z h0) (S_UNASSIGNED_STACK : Sta Z Z.heap "java/lang/Throwable" "UNASSIGNED_STACK" "[Ljava/lang/StackTraceElement;" (.ref ua)) (S_SUPPRESSED_SENTINEL : Sta Z Z.heap "java/lang/Throwable" "SUPPRESSED_SENTINEL" "Ljava/util/List;" (.ref sa)) (hl : l.stackTraces = true) :
    MetFree l (⟨"java/lang/Exception", "<init>", "(Ljava/lang/String;)V"⟩ : MethodName) (head1 (Jvm.Cond.code (⟨"java/lang/Exception", "<init>", "(Ljava/lang/String;)V"⟩ : MethodName) jdk_59_method_2_code 2 none :: ws) ({ frames := 4, cells := 1, slots := 2752, locals := 55 } : Room)) (fun xa xU => xa = #[(.ref o), (.ref b)] ∧ Z.Warmed39 xU.vm ∧ xU.heap = h0) (fun _ _ bl s _ => s.vm.MethodsKnown ∧ s.vm.FramesKnown bl) (fun _ xU xo xU' => ∃ xv xL, xo = .returned xv ∧ Q_ctor_Exception Z o b ua sa w1 w2 w3 w4 k0 h0 n0 xv xU'.heap xL ∧ FrameEnd xU xo xU' xL ({ frames := 4, cells := 1, slots := 2752, locals := 55 } : Room).cells ({ frames := 4, cells := 1, slots := 2752, locals := 55 } : Room).slots) := by
  refine MetFree.of_bodySF (plainFor_of_name pn_java_lang_Exception) hisR ?_
  intro pP eE sS mM argS belowS methS cC s₁ Bd hml0 hP hK
  obtain ⟨rfl, hZ, hh⟩ := hP
  have hx := Bd.exec
  have hby := Bd.bytes
  have hml : cC.maxLocals = 2 := hml0
  have hown : sS.vm.findClass "java/lang/Exception" = some mM.cls := findClass_of_methodNamed Bd.named
  have hnm := (name_of_methodNamed Bd.named Bd.method).1
  have X0 : Stand pP l eE ({ frames := 4, cells := 1, slots := 2752, locals := 55 } : Room) sS mM #[(.ref o), (.ref b)] belowS methS cC s₁ [] 0 0 := Stand.of_body Bd
  have e0 : s₁.heap = h0 := by rw [← hh, Bd.state]; rfl
  have N0 := Fr.nil n0
  have pre0 : ∀ t', Steps pP.tables eE belowS (s₁.setTop (mkF mM 0 #[.val (.ref o), .val (.ref b)] [])) t' → Steps pP.tables eE belowS (s₁.setTop (entryFrame mM #[(.ref o), (.ref b)] 2)) t' := fun t' kk' => castTop (ef_ctor_Exception mM o b ua sa w1 w2 w3 w4 k0) kk'
  obtain ⟨hTK, hBelow⟩ := hK
  obtain ⟨_, _, ⟨T101, L101, k101, n101⟩, -, X101, ⟨Lc101, hQ101, l101, y101, z101⟩, st101⟩ := X0.specialBack hx (y := (⟨"java/lang/Throwable", "<init>", "(Ljava/lang/String;)V"⟩ : MethodName)) rfl hown (mvT hZ (wi hw 47 rfl)) (mvT hZ (wi hw 48 rfl)) (mvT hZ (wi hw 52 rfl)) (by decide) (backOfKL (W := 0) (rm_ctor_Throwable l Z a0 hw [] o b ua sa w1 w2 w3 w4 k0 h0 n0 (by omega) E_o U_o F_cause_o F_stackTrace_o F_suppressedExceptions_o F_detailMessage_o F_backtrace_o F_code_o g_o OL TH S_UNASSIGNED_STACK S_SUPPRESSED_SENTINEL hl) hZ (wi hw 52 rfl) (wi hw 51 rfl) (by decide) (by decide) hTK hBelow) (g := (mkF mM 2 #[.val (.ref o), .val (.ref b)] [(.ref b), (.ref o)])) rfl (by rw [hml]; rfl) (Steps.refl _) (a := o) (argsL := [(.ref b)]) (rest := []) (lenOf pd_7 rfl) rfl (by show 2 * 0 + _ ≤ _; exact Nat.le_of_eq rfl) (hb hby d_jdk_59_method_2_2) (fun _ _ => ⟨rfl, e0, Nat.le_of_ble_eq_true rfl, Nat.le_of_ble_eq_true rfl⟩)
  dsimp only [Pt.U, Pt.locs, Pt.cells, Pt.slots] at X101 l101 y101 z101 st101 hQ101
  subst l101 y101 z101
  obtain ⟨h101, e101⟩ : ∃ z, T101.heap = z := ⟨_, rfl⟩
  rw [e101] at hQ101
  obtain ⟨rfl, N101q, Kp101, p101_E_o, p101_U_o, p101_F_detailMessage_o, p101_F_code_o⟩ := hQ101
  have Sz1 : h0.size ≤ h101.size := Kp101.1
  have N101 := Fr.app N0 N101q
  have K102 : Keep h0 h101 [o] := (Keep.refl h0 [o]).trans Kp101 (allS (Or.inl (List.mem_of_getElem? (i := 0) rfl)) all0)
  obtain ⟨fs, hr, hrun, hended, hW, hsame⟩ := X101.leave (v := none) (fun _ => rfl)
  refine ⟨_, _, pre0 _ ?_, hrun, hended, _, _, rfl, ?_, ⟨_, rfl⟩, hW, hsame.mono (by decide) (by decide)⟩
  · show SS pP eE belowS s₁ (mkF mM 0 #[.val (.ref o), .val (.ref b)] []) _
    refine XS.aloadN X0.here hx rfl (hb hby d_jdk_59_method_2_0) rfl rfl ?_
    show SS pP eE belowS s₁ (mkF mM 1 #[.val (.ref o), .val (.ref b)] [(.ref o)]) _
    refine XS.aloadN X0.here hx rfl (hb hby d_jdk_59_method_2_1) rfl rfl ?_
    show SS pP eE belowS s₁ (mkF mM 2 #[.val (.ref o), .val (.ref b)] [(.ref b), (.ref o)]) _
    refine st101.trans ?_
    show SS pP eE belowS T101 (mkF mM 5 #[.val (.ref o), .val (.ref b)] []) _
    exact X101.returnOut hx Bd.returns (hb hby d_jdk_59_method_2_5) hr
  · show Q_ctor_Exception Z o b ua sa w1 w2 w3 w4 k0 h0 n0 _ T101.heap _
    rw [e101]
    exact ⟨rfl, N101, K102, p101_E_o, p101_U_o, p101_F_detailMessage_o, p101_F_code_o⟩
theorem d_jdk_58_method_2_0 : decode jdk_58_method_2_code 0 = .ok (.aload_n 0, 1) := by decide +kernel
theorem d_jdk_58_method_2_1 : decode jdk_58_method_2_code 1 = .ok (.aload_n 1, 1) := by decide +kernel
theorem d_jdk_58_method_2_2 : decode jdk_58_method_2_code 2 = .ok (.invokespecial 7, 3) := by decide +kernel
theorem d_jdk_58_method_2_5 : decode jdk_58_method_2_code 5 = .ok (.return_, 1) := by decide +kernel
theorem pn_java_lang_RuntimeException : plainName "java/lang/RuntimeException" = true := by first | (simp [plainName, overriddenIn]; done) | decide +kernel
def Q_ctor_RuntimeException (Z : State) (o : Addr) (b : Addr) (ua : Addr) (sa : Addr) (w1 : Value) (w2 : Value) (w3 : Value) (w4 : Value) (k0 : Value) (h0 : Heap) (n0 : Nat) (xv : Option Value) (xh : Heap) (xL : List Loc) : Prop := xv = none ∧ Fr n0 xL ∧ Keep h0 xh [o] ∧ Exa Z xh o "com/example/custode/custode/store/StoreException" ∧ Unt xh o ∧ Fld Z xh o "java/lang/Throwable" "detailMessage" "Ljava/lang/String;" (.ref b) ∧ Fld Z xh o "com/example/custode/custode/store/StoreException" "code" "I" k0
theorem ef_ctor_RuntimeException (mM : MethodId) (o : Addr) (b : Addr) (ua : Addr) (sa : Addr) (w1 : Value) (w2 : Value) (w3 : Value) (w4 : Value) (k0 : Value) : entryFrame mM #[(.ref o), (.ref b)] 2 = mkF mM 0 #[.val (.ref o), .val (.ref b)] [] := by first | (simp [entryFrame, mkF, argsToLocals, Value.category]; done) | rfl
set_option maxRecDepth 65536 in
set_option maxHeartbeats 40000000 in
theorem rm_ctor_RuntimeException (l : Launch) (Z : State) (a0 : Array Value) (hw : ∀ d ∈ tables_1, d.before a0 Z = true) (ws : List Jvm.Cond) (o : Addr) (b : Addr) (ua : Addr) (sa : Addr) (w1 : Value) (w2 : Value) (w3 : Value) (w4 : Value) (k0 : Value) (h0 : Heap) (n0 : Nat) (Z0 : n0 ≤ h0.size) (E_o : Exa Z h0 o "com/example/custode/custode/store/StoreException") (U_o : Unt h0 o) (F_cause_o : Fld Z h0 o "java/lang/Throwable" "cause" "Ljava/lang/Throwable;" w1) (F_stackTrace_o : Fld Z h0 o "java/lang/Throwable" "stackTrace" "[Ljava/lang/StackTraceElement;" w2) (F_suppressedExceptions_o : Fld Z h0 o "java/lang/Throwable" "suppressedExceptions" "Ljava/util/List;" w3) (F_detailMessage_o : Fld Z h0 o "java/lang/Throwable" "detailMessage" "Ljava/lang/String;" w4) (F_backtrace_o : Fld Z h0 o "java/lang/Throwable" "backtrace" "Ljava/lang/Object;" .null) (F_code_o : Fld Z h0 o "com/example/custode/custode/store/StoreException" "code" "I" k0) (g_o : @LE.le Nat _ n0 o) (OL : Old Z n0 h0) (TH : ThS Z h0) (S_UNASSIGNED_STACK : Sta Z Z.heap "java/lang/Throwable" "UNASSIGNED_STACK" "[Ljava/lang/StackTraceElement;" (.ref ua)) (S_SUPPRESSED_SENTINEL : Sta Z Z.heap "java/lang/Throwable" "SUPPRESSED_SENTINEL" "Ljava/util/List;" (.ref sa)) (hl : l.stackTraces = true) :
    MetFree l (⟨"java/lang/RuntimeException", "<init>", "(Ljava/lang/String;)V"⟩ : MethodName) (head1 (Jvm.Cond.code (⟨"java/lang/RuntimeException", "<init>", "(Ljava/lang/String;)V"⟩ : MethodName) jdk_58_method_2_code 2 none :: ws) ({ frames := 5, cells := 1, slots := 2752, locals := 68 } : Room)) (fun xa xU => xa = #[(.ref o), (.ref b)] ∧ Z.Warmed39 xU.vm ∧ xU.heap = h0) (fun _ _ bl s _ => s.vm.MethodsKnown ∧ s.vm.FramesKnown bl) (fun _ xU xo xU' => ∃ xv xL, xo = .returned xv ∧ Q_ctor_RuntimeException Z o b ua sa w1 w2 w3 w4 k0 h0 n0 xv xU'.heap xL ∧ FrameEnd xU xo xU' xL ({ frames := 5, cells := 1, slots := 2752, locals := 68 } : Room).cells ({ frames := 5, cells := 1, slots := 2752, locals := 68 } : Room).slots) := by
  refine MetFree.of_bodySF (plainFor_of_name pn_java_lang_RuntimeException) hisR ?_
  intro pP eE sS mM argS belowS methS cC s₁ Bd hml0 hP hK
  obtain ⟨rfl, hZ, hh⟩ := hP
  have hx := Bd.exec
  have hby := Bd.bytes
  have hml : cC.maxLocals = 2 := hml0
  have hown : sS.vm.findClass "java/lang/RuntimeException" = some mM.cls := findClass_of_methodNamed Bd.named
  have hnm := (name_of_methodNamed Bd.named Bd.method).1
  have X0 : Stand pP l eE ({ frames := 5, cells := 1, slots := 2752, locals := 68 } : Room) sS mM #[(.ref o), (.ref b)] belowS methS cC s₁ [] 0 0 := Stand.of_body Bd
  have e0 : s₁.heap = h0 := by rw [← hh, Bd.state]; rfl
  have N0 := Fr.nil n0
  have pre0 : ∀ t', Steps pP.tables eE belowS (s₁.setTop (mkF mM 0 #[.val (.ref o), .val (.ref b)] [])) t' → Steps pP.tables eE belowS (s₁.setTop (entryFrame mM #[(.ref o), (.ref b)] 2)) t' := fun t' kk' => castTop (ef_ctor_RuntimeException mM o b ua sa w1 w2 w3 w4 k0) kk'
  obtain ⟨hTK, hBelow⟩ := hK
  obtain ⟨_, _, ⟨T101, L101, k101, n101⟩, -, X101, ⟨Lc101, hQ101, l101, y101, z101⟩, st101⟩ := X0.specialBack hx (y := (⟨"java/lang/Exception", "<init>", "(Ljava/lang/String;)V"⟩ : MethodName)) rfl hown (mvT hZ (wi hw 41 rfl)) (mvT hZ (wi hw 42 rfl)) (mvT hZ (wi hw 46 rfl)) (by decide) (backOfKL (W := 0) (rm_ctor_Exception l Z a0 hw [] o b ua sa w1 w2 w3 w4 k0 h0 n0 (by omega) E_o U_o F_cause_o F_stackTrace_o F_suppressedExceptions_o F_detailMessage_o F_backtrace_o F_code_o g_o OL TH S_UNASSIGNED_STACK S_SUPPRESSED_SENTINEL hl) hZ (wi hw 46 rfl) (wi hw 45 rfl) (by decide) (by decide) hTK hBelow) (g := (mkF mM 2 #[.val (.ref o), .val (.ref b)] [(.ref b), (.ref o)])) rfl (by rw [hml]; rfl) (Steps.refl _) (a := o) (argsL := [(.ref b)]) (rest := []) (lenOf pd_7 rfl) rfl (by show 2 * 0 + _ ≤ _; exact Nat.le_of_eq rfl) (hb hby d_jdk_58_method_2_2) (fun _ _ => ⟨rfl, e0, Nat.le_of_ble_eq_true rfl, Nat.le_of_ble_eq_true rfl⟩)
  dsimp only [Pt.U, Pt.locs, Pt.cells, Pt.slots] at X101 l101 y101 z101 st101 hQ101
  subst l101 y101 z101
  obtain ⟨h101, e101⟩ : ∃ z, T101.heap = z := ⟨_, rfl⟩
  rw [e101] at hQ101
  obtain ⟨rfl, N101q, Kp101, p101_E_o, p101_U_o, p101_F_detailMessage_o, p101_F_code_o⟩ := hQ101
  have Sz1 : h0.size ≤ h101.size := Kp101.1
  have N101 := Fr.app N0 N101q
  have K102 : Keep h0 h101 [o] := (Keep.refl h0 [o]).trans Kp101 (allS (Or.inl (List.mem_of_getElem? (i := 0) rfl)) all0)
  obtain ⟨fs, hr, hrun, hended, hW, hsame⟩ := X101.leave (v := none) (fun _ => rfl)
  refine ⟨_, _, pre0 _ ?_, hrun, hended, _, _, rfl, ?_, ⟨_, rfl⟩, hW, hsame.mono (by decide) (by decide)⟩
  · show SS pP eE belowS s₁ (mkF mM 0 #[.val (.ref o), .val (.ref b)] []) _
    refine XS.aloadN X0.here hx rfl (hb hby d_jdk_58_method_2_0) rfl rfl ?_
    show SS pP eE belowS s₁ (mkF mM 1 #[.val (.ref o), .val (.ref b)] [(.ref o)]) _
    refine XS.aloadN X0.here hx rfl (hb hby d_jdk_58_method_2_1) rfl rfl ?_
    show SS pP eE belowS s₁ (mkF mM 2 #[.val (.ref o), .val (.ref b)] [(.ref b), (.ref o)]) _
    refine st101.trans ?_
    show SS pP eE belowS T101 (mkF mM 5 #[.val (.ref o), .val (.ref b)] []) _
    exact X101.returnOut hx Bd.returns (hb hby d_jdk_58_method_2_5) hr
  · show Q_ctor_RuntimeException Z o b ua sa w1 w2 w3 w4 k0 h0 n0 _ T101.heap _
    rw [e101]
    exact ⟨rfl, N101, K102, p101_E_o, p101_U_o, p101_F_detailMessage_o, p101_F_code_o⟩
theorem d_prog_57_method_3_0 : decode prog_57_method_3_code 0 = .ok (.aload_n 0, 1) := by decide +kernel
theorem d_prog_57_method_3_1 : decode prog_57_method_3_code 1 = .ok (.aload_n 1, 1) := by decide +kernel
theorem d_prog_57_method_3_2 : decode prog_57_method_3_code 2 = .ok (.invokespecial 16, 3) := by decide +kernel
theorem d_prog_57_method_3_5 : decode prog_57_method_3_code 5 = .ok (.aload_n 0, 1) := by decide +kernel
theorem d_prog_57_method_3_6 : decode prog_57_method_3_code 6 = .ok (.iload_n 2, 1) := by decide +kernel
theorem d_prog_57_method_3_7 : decode prog_57_method_3_code 7 = .ok (.putfield 7, 3) := by decide +kernel
theorem d_prog_57_method_3_10 : decode prog_57_method_3_code 10 = .ok (.return_, 1) := by decide +kernel
theorem pn_com_example_custode_custode_store_StoreException : plainName "com/example/custode/custode/store/StoreException" = true := by first | (simp [plainName, overriddenIn]; done) | decide +kernel
def Q_se2 (Z : State) (o : Addr) (b : Addr) (p : Int32) (u : Value) (ua : Addr) (sa : Addr) (w1 : Value) (w2 : Value) (w3 : Value) (w4 : Value) (h0 : Heap) (n0 : Nat) (xv : Option Value) (xh : Heap) (xL : List Loc) : Prop := xv = none ∧ Fr n0 xL ∧ Keep h0 xh [o] ∧ Exa Z xh o "com/example/custode/custode/store/StoreException" ∧ Fld Z xh o "com/example/custode/custode/store/StoreException" "code" "I" (.int p)
theorem ef_se2 (mM : MethodId) (o : Addr) (b : Addr) (p : Int32) (u : Value) (ua : Addr) (sa : Addr) (w1 : Value) (w2 : Value) (w3 : Value) (w4 : Value) : entryFrame mM #[(.ref o), (.ref b), (.int p)] 3 = mkF mM 0 #[.val (.ref o), .val (.ref b), .val (.int p)] [] := by first | (simp [entryFrame, mkF, argsToLocals, Value.category]; done) | rfl
set_option maxRecDepth 65536 in
set_option maxHeartbeats 40000000 in
theorem rm_se2 (l : Launch) (Z : State) (a0 : Array Value) (hw : ∀ d ∈ tables_1, d.before a0 Z = true) (ws : List Jvm.Cond) (o : Addr) (b : Addr) (p : Int32) (u : Value) (ua : Addr) (sa : Addr) (w1 : Value) (w2 : Value) (w3 : Value) (w4 : Value) (h0 : Heap) (n0 : Nat) (Z0 : n0 ≤ h0.size) (E_o : Exa Z h0 o "com/example/custode/custode/store/StoreException") (F_code_o : Fld Z h0 o "com/example/custode/custode/store/StoreException" "code" "I" u) (U_o : Unt h0 o) (F_cause_o : Fld Z h0 o "java/lang/Throwable" "cause" "Ljava/lang/Throwable;" w1) (F_stackTrace_o : Fld Z h0 o "java/lang/Throwable" "stackTrace" "[Ljava/lang/StackTraceElement;" w2) (F_suppressedExceptions_o : Fld Z h0 o "java/lang/Throwable" "suppressedExceptions" "Ljava/util/List;" w3) (F_detailMessage_o : Fld Z h0 o "java/lang/Throwable" "detailMessage" "Ljava/lang/String;" w4) (F_backtrace_o : Fld Z h0 o "java/lang/Throwable" "backtrace" "Ljava/lang/Object;" .null) (g_o : @LE.le Nat _ n0 o) (OL : Old Z n0 h0) (TH : ThS Z h0) (S_UNASSIGNED_STACK : Sta Z Z.heap "java/lang/Throwable" "UNASSIGNED_STACK" "[Ljava/lang/StackTraceElement;" (.ref ua)) (S_SUPPRESSED_SENTINEL : Sta Z Z.heap "java/lang/Throwable" "SUPPRESSED_SENTINEL" "Ljava/util/List;" (.ref sa)) (hl : l.stackTraces = true) :
    MetFree l (⟨"com/example/custode/custode/store/StoreException", "<init>", "(Ljava/lang/String;I)V"⟩ : MethodName) (head1 (Jvm.Cond.code (⟨"com/example/custode/custode/store/StoreException", "<init>", "(Ljava/lang/String;I)V"⟩ : MethodName) prog_57_method_3_code 3 none :: ws) ({ frames := 6, cells := 1, slots := 2752, locals := 81 } : Room)) (fun xa xU => xa = #[(.ref o), (.ref b), (.int p)] ∧ Z.Warmed39 xU.vm ∧ xU.heap = h0) (fun _ _ bl s _ => s.vm.MethodsKnown ∧ s.vm.FramesKnown bl) (fun _ xU xo xU' => ∃ xv xL, xo = .returned xv ∧ Q_se2 Z o b p u ua sa w1 w2 w3 w4 h0 n0 xv xU'.heap xL ∧ FrameEnd xU xo xU' xL ({ frames := 6, cells := 1, slots := 2752, locals := 81 } : Room).cells ({ frames := 6, cells := 1, slots := 2752, locals := 81 } : Room).slots) := by
  refine MetFree.of_bodySF (plainFor_of_name pn_com_example_custode_custode_store_StoreException) hisR ?_
  intro pP eE sS mM argS belowS methS cC s₁ Bd hml0 hP hK
  obtain ⟨rfl, hZ, hh⟩ := hP
  have hx := Bd.exec
  have hby := Bd.bytes
  have hml : cC.maxLocals = 3 := hml0
  have hown : sS.vm.findClass "com/example/custode/custode/store/StoreException" = some mM.cls := findClass_of_methodNamed Bd.named
  have hnm := (name_of_methodNamed Bd.named Bd.method).1
  have X0 : Stand pP l eE ({ frames := 6, cells := 1, slots := 2752, locals := 81 } : Room) sS mM #[(.ref o), (.ref b), (.int p)] belowS methS cC s₁ [] 0 0 := Stand.of_body Bd
  have e0 : s₁.heap = h0 := by rw [← hh, Bd.state]; rfl
  have N0 := Fr.nil n0
  have pre0 : ∀ t', Steps pP.tables eE belowS (s₁.setTop (mkF mM 0 #[.val (.ref o), .val (.ref b), .val (.int p)] [])) t' → Steps pP.tables eE belowS (s₁.setTop (entryFrame mM #[(.ref o), (.ref b), (.int p)] 3)) t' := fun t' kk' => castTop (ef_se2 mM o b p u ua sa w1 w2 w3 w4) kk'
  obtain ⟨hTK, hBelow⟩ := hK
  obtain ⟨_, _, ⟨T101, L101, k101, n101⟩, -, X101, ⟨Lc101, hQ101, l101, y101, z101⟩, st101⟩ := X0.specialBack hx (y := (⟨"java/lang/RuntimeException", "<init>", "(Ljava/lang/String;)V"⟩ : MethodName)) rfl hown (mvT hZ (wi hw 36 rfl)) (mvT hZ (wi hw 37 rfl)) (mvT hZ (wi hw 40 rfl)) (by decide) (backOfKL (W := 0) (rm_ctor_RuntimeException l Z a0 hw [] o b ua sa w1 w2 w3 w4 u h0 n0 (by omega) E_o U_o F_cause_o F_stackTrace_o F_suppressedExceptions_o F_detailMessage_o F_backtrace_o F_code_o g_o OL TH S_UNASSIGNED_STACK S_SUPPRESSED_SENTINEL hl) hZ (wi hw 40 rfl) (wi hw 39 rfl) (by decide) (by decide) hTK hBelow) (g := (mkF mM 2 #[.val (.ref o), .val (.ref b), .val (.int p)] [(.ref b), (.ref o)])) rfl (by rw [hml]; rfl) (Steps.refl _) (a := o) (argsL := [(.ref b)]) (rest := []) (lenOf pd_7 rfl) rfl (by show 2 * 0 + _ ≤ _; exact Nat.le_of_eq rfl) (hb hby d_prog_57_method_3_2) (fun _ _ => ⟨rfl, e0, Nat.le_of_ble_eq_true rfl, Nat.le_of_ble_eq_true rfl⟩)
  dsimp only [Pt.U, Pt.locs, Pt.cells, Pt.slots] at X101 l101 y101 z101 st101 hQ101
  subst l101 y101 z101
  obtain ⟨h101, e101⟩ : ∃ z, T101.heap = z := ⟨_, rfl⟩
  rw [e101] at hQ101
  obtain ⟨rfl, N101q, Kp101, p101_E_o, p101_U_o, p101_F_detailMessage_o, p101_F_code_o⟩ := hQ101
  have Sz1 : h0.size ≤ h101.size := Kp101.1
  have N101 := Fr.app N0 N101q
  obtain ⟨T102, h102, X102, e102, W102, st102⟩ := putF X101 hx hZ hown (host := "") (Or.inl (wi hw 90 rfl)) Via.refl e101 p101_F_code_o p101_E_o (Or.inr ⟨(wi hw 91 rfl), rfl, hnm⟩) (wi hw 31 rfl) (ty := .int) (by decide) rfl rfl (g := (mkF mM 7 #[.val (.ref o), .val (.ref b), .val (.int p)] [(.int p), (.ref o)])) rfl rfl (hb hby d_prog_57_method_3_7)
  have Sz2 : h101.size ≤ h102.size := Nat.le_of_eq (Wr.size W102).symm
  have Fw102 : Fld Z h102 o "com/example/custode/custode/store/StoreException" "code" "I" (.int p) := Fld.same W102 p101_F_code_o
  have N102 := Fr.snoc X102 N101 g_o
  have c103_E_o : Exa Z h102 o "com/example/custode/custode/store/StoreException" := Exa.wr W102 p101_E_o
  have K104 : Keep h0 h101 [o] := (Keep.refl h0 [o]).trans Kp101 (allS (Or.inl (List.mem_of_getElem? (i := 0) rfl)) all0)
  have K105 : Keep h0 h102 [o] := K104.wr W102 (Or.inl (List.mem_of_getElem? (i := 0) rfl))
  obtain ⟨fs, hr, hrun, hended, hW, hsame⟩ := X102.leave (v := none) (fun _ => rfl)
  refine ⟨_, _, pre0 _ ?_, hrun, hended, _, _, rfl, ?_, ⟨_, rfl⟩, hW, hsame.mono (by decide) (by decide)⟩
  · show SS pP eE belowS s₁ (mkF mM 0 #[.val (.ref o), .val (.ref b), .val (.int p)] []) _
    refine XS.aloadN X0.here hx rfl (hb hby d_prog_57_method_3_0) rfl rfl ?_
    show SS pP eE belowS s₁ (mkF mM 1 #[.val (.ref o), .val (.ref b), .val (.int p)] [(.ref o)]) _
    refine XS.aloadN X0.here hx rfl (hb hby d_prog_57_method_3_1) rfl rfl ?_
    show SS pP eE belowS s₁ (mkF mM 2 #[.val (.ref o), .val (.ref b), .val (.int p)] [(.ref b), (.ref o)]) _
    refine st101.trans ?_
    show SS pP eE belowS T101 (mkF mM 5 #[.val (.ref o), .val (.ref b), .val (.int p)] []) _
    refine XS.aloadN X101.here hx rfl (hb hby d_prog_57_method_3_5) rfl rfl ?_
    show SS pP eE belowS T101 (mkF mM 6 #[.val (.ref o), .val (.ref b), .val (.int p)] [(.ref o)]) _
    refine XS.iloadN X101.here hx rfl (hb hby d_prog_57_method_3_6) rfl ?_
    show SS pP eE belowS T101 (mkF mM 7 #[.val (.ref o), .val (.ref b), .val (.int p)] [(.int p), (.ref o)]) _
    refine st102 _ ?_
    show SS pP eE belowS T102 (mkF mM 10 #[.val (.ref o), .val (.ref b), .val (.int p)] []) _
    exact X102.returnOut hx Bd.returns (hb hby d_prog_57_method_3_10) hr
  · show Q_se2 Z o b p u ua sa w1 w2 w3 w4 h0 n0 _ T102.heap _
    rw [e102]
    exact ⟨rfl, N102, K105, c103_E_o, Fw102⟩
theorem d_prog_57_method_2_0 : decode prog_57_method_2_code 0 = .ok (.aload_n 0, 1) := by decide +kernel
theorem d_prog_57_method_2_1 : decode prog_57_method_2_code 1 = .ok (.aload_n 1, 1) := by decide +kernel
theorem d_prog_57_method_2_2 : decode prog_57_method_2_code 2 = .ok (.iconst 0, 1) := by decide +kernel
theorem d_prog_57_method_2_3 : decode prog_57_method_2_code 3 = .ok (.invokespecial 13, 3) := by decide +kernel
theorem pd_6 : parseMethodDescriptor "(Ljava/lang/String;I)V" = some ⟨[(.object "java/lang/String"), .int], none⟩ := by decide +kernel
theorem d_prog_57_method_2_6 : decode prog_57_method_2_code 6 = .ok (.return_, 1) := by decide +kernel
def Q_se1 (Z : State) (o : Addr) (b : Addr) (u : Value) (ua : Addr) (sa : Addr) (w1 : Value) (w2 : Value) (w3 : Value) (w4 : Value) (h0 : Heap) (n0 : Nat) (xv : Option Value) (xh : Heap) (xL : List Loc) : Prop := xv = none ∧ Fr n0 xL ∧ Keep h0 xh [o] ∧ Exa Z xh o "com/example/custode/custode/store/StoreException" ∧ Fld Z xh o "com/example/custode/custode/store/StoreException" "code" "I" (.int (0 : Int32))
theorem ef_se1 (mM : MethodId) (o : Addr) (b : Addr) (u : Value) (ua : Addr) (sa : Addr) (w1 : Value) (w2 : Value) (w3 : Value) (w4 : Value) : entryFrame mM #[(.ref o), (.ref b)] 2 = mkF mM 0 #[.val (.ref o), .val (.ref b)] [] := by first | (simp [entryFrame, mkF, argsToLocals, Value.category]; done) | rfl
set_option maxRecDepth 65536 in
set_option maxHeartbeats 40000000 in
theorem rm_se1 (l : Launch) (Z : State) (a0 : Array Value) (hw : ∀ d ∈ tables_1, d.before a0 Z = true) (ws : List Jvm.Cond) (o : Addr) (b : Addr) (u : Value) (ua : Addr) (sa : Addr) (w1 : Value) (w2 : Value) (w3 : Value) (w4 : Value) (h0 : Heap) (n0 : Nat) (Z0 : n0 ≤ h0.size) (E_o : Exa Z h0 o "com/example/custode/custode/store/StoreException") (F_code_o : Fld Z h0 o "com/example/custode/custode/store/StoreException" "code" "I" u) (U_o : Unt h0 o) (F_cause_o : Fld Z h0 o "java/lang/Throwable" "cause" "Ljava/lang/Throwable;" w1) (F_stackTrace_o : Fld Z h0 o "java/lang/Throwable" "stackTrace" "[Ljava/lang/StackTraceElement;" w2) (F_suppressedExceptions_o : Fld Z h0 o "java/lang/Throwable" "suppressedExceptions" "Ljava/util/List;" w3) (F_detailMessage_o : Fld Z h0 o "java/lang/Throwable" "detailMessage" "Ljava/lang/String;" w4) (F_backtrace_o : Fld Z h0 o "java/lang/Throwable" "backtrace" "Ljava/lang/Object;" .null) (g_o : @LE.le Nat _ n0 o) (OL : Old Z n0 h0) (TH : ThS Z h0) (S_UNASSIGNED_STACK : Sta Z Z.heap "java/lang/Throwable" "UNASSIGNED_STACK" "[Ljava/lang/StackTraceElement;" (.ref ua)) (S_SUPPRESSED_SENTINEL : Sta Z Z.heap "java/lang/Throwable" "SUPPRESSED_SENTINEL" "Ljava/util/List;" (.ref sa)) (hl : l.stackTraces = true) :
    MetFree l (⟨"com/example/custode/custode/store/StoreException", "<init>", "(Ljava/lang/String;)V"⟩ : MethodName) (head1 (Jvm.Cond.code (⟨"com/example/custode/custode/store/StoreException", "<init>", "(Ljava/lang/String;)V"⟩ : MethodName) prog_57_method_2_code 2 none :: ws) ({ frames := 7, cells := 1, slots := 2752, locals := 95 } : Room)) (fun xa xU => xa = #[(.ref o), (.ref b)] ∧ Z.Warmed39 xU.vm ∧ xU.heap = h0) (fun _ _ bl s _ => s.vm.MethodsKnown ∧ s.vm.FramesKnown bl) (fun _ xU xo xU' => ∃ xv xL, xo = .returned xv ∧ Q_se1 Z o b u ua sa w1 w2 w3 w4 h0 n0 xv xU'.heap xL ∧ FrameEnd xU xo xU' xL ({ frames := 7, cells := 1, slots := 2752, locals := 95 } : Room).cells ({ frames := 7, cells := 1, slots := 2752, locals := 95 } : Room).slots) := by
  refine MetFree.of_bodySF (plainFor_of_name pn_com_example_custode_custode_store_StoreException) hisR ?_
  intro pP eE sS mM argS belowS methS cC s₁ Bd hml0 hP hK
  obtain ⟨rfl, hZ, hh⟩ := hP
  have hx := Bd.exec
  have hby := Bd.bytes
  have hml : cC.maxLocals = 2 := hml0
  have hown : sS.vm.findClass "com/example/custode/custode/store/StoreException" = some mM.cls := findClass_of_methodNamed Bd.named
  have hnm := (name_of_methodNamed Bd.named Bd.method).1
  have X0 : Stand pP l eE ({ frames := 7, cells := 1, slots := 2752, locals := 95 } : Room) sS mM #[(.ref o), (.ref b)] belowS methS cC s₁ [] 0 0 := Stand.of_body Bd
  have e0 : s₁.heap = h0 := by rw [← hh, Bd.state]; rfl
  have N0 := Fr.nil n0
  have pre0 : ∀ t', Steps pP.tables eE belowS (s₁.setTop (mkF mM 0 #[.val (.ref o), .val (.ref b)] [])) t' → Steps pP.tables eE belowS (s₁.setTop (entryFrame mM #[(.ref o), (.ref b)] 2)) t' := fun t' kk' => castTop (ef_se1 mM o b u ua sa w1 w2 w3 w4) kk'
  obtain ⟨hTK, hBelow⟩ := hK
  obtain ⟨_, _, ⟨T101, L101, k101, n101⟩, -, X101, ⟨Lc101, hQ101, l101, y101, z101⟩, st101⟩ := X0.specialBack hx (y := (⟨"com/example/custode/custode/store/StoreException", "<init>", "(Ljava/lang/String;I)V"⟩ : MethodName)) rfl hown (mvT hZ (wi hw 100 rfl)) (mvT hZ (wi hw 34 rfl)) (mvT hZ (wi hw 35 rfl)) (by decide) (backOfKL (W := 0) (rm_se2 l Z a0 hw [] o b (0 : Int32) u ua sa w1 w2 w3 w4 h0 n0 (by omega) E_o F_code_o U_o F_cause_o F_stackTrace_o F_suppressedExceptions_o F_detailMessage_o F_backtrace_o g_o OL TH S_UNASSIGNED_STACK S_SUPPRESSED_SENTINEL hl) hZ (wi hw 35 rfl) (wi hw 32 rfl) (by decide) (by decide) hTK hBelow) (g := (mkF mM 3 #[.val (.ref o), .val (.ref b)] [(.int (0 : Int32)), (.ref b), (.ref o)])) rfl (by rw [hml]; rfl) (Steps.refl _) (a := o) (argsL := [(.ref b), (.int (0 : Int32))]) (rest := []) (lenOf pd_6 rfl) rfl (by show 2 * 0 + _ ≤ _; exact Nat.le_of_eq rfl) (hb hby d_prog_57_method_2_3) (fun _ _ => ⟨rfl, e0, Nat.le_of_ble_eq_true rfl, Nat.le_of_ble_eq_true rfl⟩)
  dsimp only [Pt.U, Pt.locs, Pt.cells, Pt.slots] at X101 l101 y101 z101 st101 hQ101
  subst l101 y101 z101
  obtain ⟨h101, e101⟩ : ∃ z, T101.heap = z := ⟨_, rfl⟩
  rw [e101] at hQ101
  obtain ⟨rfl, N101q, Kp101, p101_E_o, p101_F_code_o⟩ := hQ101
  have Sz1 : h0.size ≤ h101.size := Kp101.1
  have N101 := Fr.app N0 N101q
  have K102 : Keep h0 h101 [o] := (Keep.refl h0 [o]).trans Kp101 (allS (Or.inl (List.mem_of_getElem? (i := 0) rfl)) all0)
  obtain ⟨fs, hr, hrun, hended, hW, hsame⟩ := X101.leave (v := none) (fun _ => rfl)
  refine ⟨_, _, pre0 _ ?_, hrun, hended, _, _, rfl, ?_, ⟨_, rfl⟩, hW, hsame.mono (by decide) (by decide)⟩
  · show SS pP eE belowS s₁ (mkF mM 0 #[.val (.ref o), .val (.ref b)] []) _
    refine XS.aloadN X0.here hx rfl (hb hby d_prog_57_method_2_0) rfl rfl ?_
    show SS pP eE belowS s₁ (mkF mM 1 #[.val (.ref o), .val (.ref b)] [(.ref o)]) _
    refine XS.aloadN X0.here hx rfl (hb hby d_prog_57_method_2_1) rfl rfl ?_
    show SS pP eE belowS s₁ (mkF mM 2 #[.val (.ref o), .val (.ref b)] [(.ref b), (.ref o)]) _
    refine XS.iconst X0.here hx rfl (hb hby d_prog_57_method_2_2) ?_
    show SS pP eE belowS s₁ (mkF mM 3 #[.val (.ref o), .val (.ref b)] [(.int (0 : Int32)), (.ref b), (.ref o)]) _
    refine st101.trans ?_
    show SS pP eE belowS T101 (mkF mM 6 #[.val (.ref o), .val (.ref b)] []) _
    exact X101.returnOut hx Bd.returns (hb hby d_prog_57_method_2_6) hr
  · show Q_se1 Z o b u ua sa w1 w2 w3 w4 h0 n0 _ T101.heap _
    rw [e101]
    exact ⟨rfl, N101, K102, p101_E_o, p101_F_code_o⟩
theorem d_prog_57_method_4_0 : decode prog_57_method_4_code 0 = .ok (.aload_n 0, 1) := by decide +kernel
theorem d_prog_57_method_4_1 : decode prog_57_method_4_code 1 = .ok (.getfield 7, 3) := by decide +kernel
theorem d_prog_57_method_4_4 : decode prog_57_method_4_code 4 = .ok (.iconst 5, 1) := by decide +kernel
theorem d_prog_57_method_4_5 : decode prog_57_method_4_code 5 = .ok (.if_icmp .ne 7, 3) := by decide +kernel
theorem d_prog_57_method_4_8 : decode prog_57_method_4_code 8 = .ok (.iconst 1, 1) := by decide +kernel
theorem d_prog_57_method_4_9 : decode prog_57_method_4_code 9 = .ok (.goto 4, 3) := by decide +kernel
theorem d_prog_57_method_4_13 : decode prog_57_method_4_code 13 = .ok (.ireturn, 1) := by decide +kernel
def Q_nfy (Z : State) (o : Addr) (h0 : Heap) (n0 : Nat) (xv : Option Value) (xh : Heap) (xL : List Loc) : Prop := xv = some (.int (1 : Int32)) ∧ Fr n0 xL ∧ xh = h0
theorem ef_nfy (mM : MethodId) (o : Addr) : entryFrame mM #[(.ref o)] 1 = mkF mM 0 #[.val (.ref o)] [] := by first | (simp [entryFrame, mkF, argsToLocals, Value.category]; done) | rfl
set_option maxRecDepth 65536 in
set_option maxHeartbeats 40000000 in
theorem rm_nfy (l : Launch) (Z : State) (a0 : Array Value) (hw : ∀ d ∈ tables_1, d.before a0 Z = true) (ws : List Jvm.Cond) (o : Addr) (h0 : Heap) (n0 : Nat) (Z0 : n0 ≤ h0.size) (F_code_o : Fld Z h0 o "com/example/custode/custode/store/StoreException" "code" "I" (.int (5 : Int32))) :
    MetFree l (⟨"com/example/custode/custode/store/StoreException", "isNotFound", "()Z"⟩ : MethodName) (head1 (Jvm.Cond.code (⟨"com/example/custode/custode/store/StoreException", "isNotFound", "()Z"⟩ : MethodName) prog_57_method_4_code 1 (some .boolean) :: ws) ({ frames := 0, cells := 0, slots := 0, locals := 0 } : Room)) (fun xa xU => xa = #[(.ref o)] ∧ Z.Warmed39 xU.vm ∧ xU.heap = h0) (fun _ _ _ _ _ => True) (fun _ xU xo xU' => ∃ xv xL, xo = .returned xv ∧ Q_nfy Z o h0 n0 xv xU'.heap xL ∧ FrameEnd xU xo xU' xL ({ frames := 0, cells := 0, slots := 0, locals := 0 } : Room).cells ({ frames := 0, cells := 0, slots := 0, locals := 0 } : Room).slots) := by
  refine MetFree.of_bodySF (plainFor_of_name pn_com_example_custode_custode_store_StoreException) hisR ?_
  intro pP eE sS mM argS belowS methS cC s₁ Bd hml0 hP hK
  obtain ⟨rfl, hZ, hh⟩ := hP
  have hx := Bd.exec
  have hby := Bd.bytes
  have hml : cC.maxLocals = 1 := hml0
  have hown : sS.vm.findClass "com/example/custode/custode/store/StoreException" = some mM.cls := findClass_of_methodNamed Bd.named
  have hnm := (name_of_methodNamed Bd.named Bd.method).1
  have X0 : Stand pP l eE ({ frames := 0, cells := 0, slots := 0, locals := 0 } : Room) sS mM #[(.ref o)] belowS methS cC s₁ [] 0 0 := Stand.of_body Bd
  have e0 : s₁.heap = h0 := by rw [← hh, Bd.state]; rfl
  have N0 := Fr.nil n0
  have pre0 : ∀ t', Steps pP.tables eE belowS (s₁.setTop (mkF mM 0 #[.val (.ref o)] [])) t' → Steps pP.tables eE belowS (s₁.setTop (entryFrame mM #[(.ref o)] 1)) t' := fun t' kk' => castTop (ef_nfy mM o) kk'
  obtain ⟨T101, X101, e101, st101⟩ := getF X0 hx hZ hown (host := "") (Or.inl (wi hw 90 rfl)) Via.refl e0 F_code_o (g := (mkF mM 1 #[.val (.ref o)] [(.ref o)])) rfl rfl (hb hby d_prog_57_method_4_1)
  obtain ⟨fs, hr, hrun, hended, hW, hsame⟩ := X101.leave (v := some (.int (1 : Int32))) (fun h => by rw [Bd.returns] at h; cases h)
  refine ⟨_, _, pre0 _ ?_, hrun, hended, _, _, rfl, ?_, ⟨_, rfl⟩, hW, hsame.mono (by decide) (by decide)⟩
  · show SS pP eE belowS s₁ (mkF mM 0 #[.val (.ref o)] []) _
    refine XS.aloadN X0.here hx rfl (hb hby d_prog_57_method_4_0) rfl rfl ?_
    show SS pP eE belowS s₁ (mkF mM 1 #[.val (.ref o)] [(.ref o)]) _
    refine st101 _ ?_
    show SS pP eE belowS T101 (mkF mM 4 #[.val (.ref o)] [(.int (5 : Int32))]) _
    refine XS.iconst X101.here hx rfl (hb hby d_prog_57_method_4_4) ?_
    show SS pP eE belowS T101 (mkF mM 5 #[.val (.ref o)] [(.int (5 : Int32)), (.int (5 : Int32))]) _
    refine XS.icmpNo X101.here hx rfl (hb hby d_prog_57_method_4_5) rfl (teq (by decide : (5 : Int32) = (5 : Int32))).2 ?_
    show SS pP eE belowS T101 (mkF mM 8 #[.val (.ref o)] []) _
    refine XS.iconst X101.here hx rfl (hb hby d_prog_57_method_4_8) ?_
    show SS pP eE belowS T101 (mkF mM 9 #[.val (.ref o)] [(.int (1 : Int32))]) _
    refine XS.goto X101.here hx rfl (pc0 := 9) (pc' := 13) rfl (hb hby d_prog_57_method_4_9) (by decide) (by decide) ?_
    show SS pP eE belowS T101 (mkF mM 13 #[.val (.ref o)] [(.int (1 : Int32))]) _
    exact retN X101 hx (t := .boolean) Bd.returns (by simp) (hb hby d_prog_57_method_4_13) hr
  · show Q_nfy Z o h0 n0 _ T101.heap _
    rw [e101]
    exact ⟨rfl, N0, rfl⟩
theorem d_prog_57_method_4_12 : decode prog_57_method_4_code 12 = .ok (.iconst 0, 1) := by decide +kernel
def Q_nfn (Z : State) (o : Addr) (p : Int32) (h0 : Heap) (n0 : Nat) (xv : Option Value) (xh : Heap) (xL : List Loc) : Prop := xv = some (.int (0 : Int32)) ∧ Fr n0 xL ∧ xh = h0
theorem ef_nfn (mM : MethodId) (o : Addr) (p : Int32) : entryFrame mM #[(.ref o)] 1 = mkF mM 0 #[.val (.ref o)] [] := by first | (simp [entryFrame, mkF, argsToLocals, Value.category]; done) | rfl
set_option maxRecDepth 65536 in
set_option maxHeartbeats 40000000 in
theorem rm_nfn (l : Launch) (Z : State) (a0 : Array Value) (hw : ∀ d ∈ tables_1, d.before a0 Z = true) (ws : List Jvm.Cond) (o : Addr) (p : Int32) (h0 : Heap) (n0 : Nat) (Z0 : n0 ≤ h0.size) (F_code_o : Fld Z h0 o "com/example/custode/custode/store/StoreException" "code" "I" (.int p)) (hc5 : ¬ (p = (5 : Int32))) :
    MetFree l (⟨"com/example/custode/custode/store/StoreException", "isNotFound", "()Z"⟩ : MethodName) (head1 (Jvm.Cond.code (⟨"com/example/custode/custode/store/StoreException", "isNotFound", "()Z"⟩ : MethodName) prog_57_method_4_code 1 (some .boolean) :: ws) ({ frames := 0, cells := 0, slots := 0, locals := 0 } : Room)) (fun xa xU => xa = #[(.ref o)] ∧ Z.Warmed39 xU.vm ∧ xU.heap = h0) (fun _ _ _ _ _ => True) (fun _ xU xo xU' => ∃ xv xL, xo = .returned xv ∧ Q_nfn Z o p h0 n0 xv xU'.heap xL ∧ FrameEnd xU xo xU' xL ({ frames := 0, cells := 0, slots := 0, locals := 0 } : Room).cells ({ frames := 0, cells := 0, slots := 0, locals := 0 } : Room).slots) := by
  refine MetFree.of_bodySF (plainFor_of_name pn_com_example_custode_custode_store_StoreException) hisR ?_
  intro pP eE sS mM argS belowS methS cC s₁ Bd hml0 hP hK
  obtain ⟨rfl, hZ, hh⟩ := hP
  have hx := Bd.exec
  have hby := Bd.bytes
  have hml : cC.maxLocals = 1 := hml0
  have hown : sS.vm.findClass "com/example/custode/custode/store/StoreException" = some mM.cls := findClass_of_methodNamed Bd.named
  have hnm := (name_of_methodNamed Bd.named Bd.method).1
  have X0 : Stand pP l eE ({ frames := 0, cells := 0, slots := 0, locals := 0 } : Room) sS mM #[(.ref o)] belowS methS cC s₁ [] 0 0 := Stand.of_body Bd
  have e0 : s₁.heap = h0 := by rw [← hh, Bd.state]; rfl
  have N0 := Fr.nil n0
  have pre0 : ∀ t', Steps pP.tables eE belowS (s₁.setTop (mkF mM 0 #[.val (.ref o)] [])) t' → Steps pP.tables eE belowS (s₁.setTop (entryFrame mM #[(.ref o)] 1)) t' := fun t' kk' => castTop (ef_nfn mM o p) kk'
  obtain ⟨T101, X101, e101, st101⟩ := getF X0 hx hZ hown (host := "") (Or.inl (wi hw 90 rfl)) Via.refl e0 F_code_o (g := (mkF mM 1 #[.val (.ref o)] [(.ref o)])) rfl rfl (hb hby d_prog_57_method_4_1)
  obtain ⟨fs, hr, hrun, hended, hW, hsame⟩ := X101.leave (v := some (.int (0 : Int32))) (fun h => by rw [Bd.returns] at h; cases h)
  refine ⟨_, _, pre0 _ ?_, hrun, hended, _, _, rfl, ?_, ⟨_, rfl⟩, hW, hsame.mono (by decide) (by decide)⟩
  · show SS pP eE belowS s₁ (mkF mM 0 #[.val (.ref o)] []) _
    refine XS.aloadN X0.here hx rfl (hb hby d_prog_57_method_4_0) rfl rfl ?_
    show SS pP eE belowS s₁ (mkF mM 1 #[.val (.ref o)] [(.ref o)]) _
    refine st101 _ ?_
    show SS pP eE belowS T101 (mkF mM 4 #[.val (.ref o)] [(.int p)]) _
    refine XS.iconst X101.here hx rfl (hb hby d_prog_57_method_4_4) ?_
    show SS pP eE belowS T101 (mkF mM 5 #[.val (.ref o)] [(.int (5 : Int32)), (.int p)]) _
    refine XS.icmpYes X101.here hx rfl (pc0 := 5) (pc' := 12) rfl (hb hby d_prog_57_method_4_5) rfl (feq hc5).2 (by decide) (by decide) ?_
    show SS pP eE belowS T101 (mkF mM 12 #[.val (.ref o)] []) _
    refine XS.iconst X101.here hx rfl (hb hby d_prog_57_method_4_12) ?_
    show SS pP eE belowS T101 (mkF mM 13 #[.val (.ref o)] [(.int (0 : Int32))]) _
    exact retN X101 hx (t := .boolean) Bd.returns (by simp) (hb hby d_prog_57_method_4_13) hr
  · show Q_nfn Z o p h0 n0 _ T101.heap _
    rw [e101]
    exact ⟨rfl, N0, rfl⟩
theorem own_lim (x : Int32) : ¬ ((255 : Int32) < x &&& (255 : Int32)) := by
  have q := c_and x 255 (by decide)
  rw [Int32.lt_iff_toInt_lt]
  have e : (255 : Int32).toInt = 255 := by decide
  omega
def Q_law (n0 : Nat) (v : Option Value) (L : List Loc) : Prop := v = some (.int 1) ∧ Fr n0 L
theorem pd_0 : parseMethodDescriptor "([C)V" = some ⟨[(.array .char)], none⟩ := by decide +kernel
theorem pd_10 : parseMethodDescriptor "()Z" = some ⟨[], some .boolean⟩ := by decide +kernel
theorem pn_com_example_custode_custode_store_StoreExceptionIsNotFoundPinLaw : plainName "com/example/custode/custode/store/StoreExceptionIsNotFoundPinLaw" = true := by first | (simp [plainName, overriddenIn]; done) | decide +kernel
abbrev Lc_law_yes_0 (p1 : Int32) (p2 : Int32) : Array Slot := #[.val (.int (5 : Int32)), .val (.int p1), .val (.int p2), .unset, .unset, .unset, .unset, .unset, .unset, .unset]
abbrev Lc_law_yes_1 (p1 : Int32) (p2 : Int32) (b101 : Addr) : Array Slot := #[.val (.int (5 : Int32)), .val (.int p1), .val (.int p2), .val (.ref b101), .unset, .unset, .unset, .unset, .unset, .unset]
abbrev Lc_law_yes_2 (p1 : Int32) (p2 : Int32) (b101 : Addr) (b107 : Addr) : Array Slot := #[.val (.int (5 : Int32)), .val (.int p1), .val (.int p2), .val (.ref b101), .val (.ref b107), .unset, .unset, .unset, .unset, .unset]
abbrev Lc_law_yes_3 (p1 : Int32) (p2 : Int32) (b101 : Addr) (b107 : Addr) (b115 : Addr) : Array Slot := #[.val (.int (5 : Int32)), .val (.int p1), .val (.int p2), .val (.ref b101), .val (.ref b107), .val (.ref b115), .unset, .unset, .unset, .unset]
abbrev Lc_law_yes_4 (p1 : Int32) (p2 : Int32) (b101 : Addr) (b107 : Addr) (b115 : Addr) : Array Slot := #[.val (.int (5 : Int32)), .val (.int p1), .val (.int p2), .val (.ref b101), .val (.ref b107), .val (.ref b115), .val (.int (1 : Int32)), .unset, .unset, .unset]
abbrev Lc_law_yes_5 (p1 : Int32) (p2 : Int32) (b101 : Addr) (b107 : Addr) (b115 : Addr) : Array Slot := #[.val (.int (5 : Int32)), .val (.int p1), .val (.int p2), .val (.ref b101), .val (.ref b107), .val (.ref b115), .val (.int (1 : Int32)), .val (.int (1 : Int32)), .unset, .unset]
abbrev Lc_law_yes_6 (p1 : Int32) (p2 : Int32) (b101 : Addr) (b107 : Addr) (b115 : Addr) (b127 : Addr) : Array Slot := #[.val (.int (5 : Int32)), .val (.int p1), .val (.int p2), .val (.ref b101), .val (.ref b107), .val (.ref b115), .val (.int (1 : Int32)), .val (.int (1 : Int32)), .val (.ref b127), .unset]
abbrev Lc_law_yes_7 (p1 : Int32) (p2 : Int32) (b101 : Addr) (b107 : Addr) (b115 : Addr) (b127 : Addr) : Array Slot := #[.val (.int (5 : Int32)), .val (.int p1), .val (.int p2), .val (.ref b101), .val (.ref b107), .val (.ref b115), .val (.int (1 : Int32)), .val (.int (1 : Int32)), .val (.ref b127), .val (.int (1 : Int32))]
theorem ef_law_yes (mM : MethodId) (p1 : Int32) (p2 : Int32) (cs : Int32) (ua : Addr) (sa : Addr) : entryFrame mM #[(.int (5 : Int32)), (.int p1), (.int p2)] maxLocals = mkF mM 0 #[.val (.int (5 : Int32)), .val (.int p1), .val (.int p2), .unset, .unset, .unset, .unset, .unset, .unset, .unset] [] := by first | (simp [entryFrame, mkF, argsToLocals, Value.category, maxLocals]; done) | rfl
set_option maxRecDepth 65536 in
set_option maxHeartbeats 40000000 in
theorem rm_law_yes (l : Launch) (Z : State) (a0 : Array Value) (hw : ∀ d ∈ tables_1, d.before a0 Z = true) (ws : List Jvm.Cond) (p1 : Int32) (p2 : Int32) (cs : Int32) (ua : Addr) (sa : Addr) (h0 : Heap) (n0 : Nat) (Z0 : n0 ≤ h0.size) (OL : Old Z n0 h0) (S_COMPACT_STRINGS : Sta Z Z.heap "java/lang/String" "COMPACT_STRINGS" "Z" (.int cs)) (hcs : ¬ (cs = (0 : Int32))) (TH : ThS Z h0) (S_UNASSIGNED_STACK : Sta Z Z.heap "java/lang/Throwable" "UNASSIGNED_STACK" "[Ljava/lang/StackTraceElement;" (.ref ua)) (S_SUPPRESSED_SENTINEL : Sta Z Z.heap "java/lang/Throwable" "SUPPRESSED_SENTINEL" "Ljava/util/List;" (.ref sa)) (hl : l.stackTraces = true) :
    MetFree l x (head1 (Jvm.Cond.code x code maxLocals ret :: ws) room_1) (fun xa xU => xa = #[(.int (5 : Int32)), (.int p1), (.int p2)] ∧ Z.Warmed39 xU.vm ∧ xU.heap = h0) (fun _ _ bl s _ => s.vm.MethodsKnown ∧ s.vm.FramesKnown bl) (fun _ xU xo xU' => ∃ xv xL, xo = .returned xv ∧ Q_law n0 xv xL ∧ FrameEnd xU xo xU' xL room_1.cells room_1.slots) := by
  refine MetFree.of_bodySF (plainFor_of_name pn_com_example_custode_custode_store_StoreExceptionIsNotFoundPinLaw) hisR ?_
  intro pP eE sS mM argS belowS methS cC s₁ Bd hml0 hP hK
  obtain ⟨rfl, hZ, hh⟩ := hP
  have hx := Bd.exec
  have hby := Bd.bytes
  have hml : cC.maxLocals = 10 := hml0
  have hown : sS.vm.findClass "com/example/custode/custode/store/StoreExceptionIsNotFoundPinLaw" = some mM.cls := findClass_of_methodNamed Bd.named
  have hnm := (name_of_methodNamed Bd.named Bd.method).1
  have X0 : Stand pP l eE room_1 sS mM #[(.int (5 : Int32)), (.int p1), (.int p2)] belowS methS cC s₁ [] 0 0 := Stand.of_body Bd
  have e0 : s₁.heap = h0 := by rw [← hh, Bd.state]; rfl
  have N0 := Fr.nil n0
  have pre0 : ∀ t', Steps pP.tables eE belowS (s₁.setTop (mkF mM 0 #[.val (.int (5 : Int32)), .val (.int p1), .val (.int p2), .unset, .unset, .unset, .unset, .unset, .unset, .unset] [])) t' → Steps pP.tables eE belowS (s₁.setTop (entryFrame mM #[(.int (5 : Int32)), (.int p1), (.int p2)] maxLocals)) t' := fun t' kk' => castTop (ef_law_yes mM p1 p2 cs ua sa) kk'
  obtain ⟨hTK, hBelow⟩ := hK
  obtain ⟨T101, h101, k101, X101, e101, E101, A101, st101⟩ := newP X0 hx hZ (wi hw 0 rfl) e0 (g := (mkF mM 1 (Lc_law_yes_0 p1 p2) [(.int (2 : Int32))])) rfl (hb hby at_1) rfl (by decide) (cap := 2) (by decide) (by decide) (by decide) (by decide)
  obtain ⟨b101, g101⟩ : ∃ z : Nat, z = h0.size := ⟨_, rfl⟩
  rw [← g101] at A101 st101
  have Sz1 : h0.size ≤ h101.size := E101.1
  have V_b101 : Arv Z h101 b101 k101 .char (2 : Int32) [(.int (0 : Int32)), (.int (0 : Int32))] (.int (0 : Int32)) := (Arv.new A101 (by decide)).pad (pad_rep [] (.int (0 : Int32)) 2)
  obtain ⟨cl102, Ar102, q102, S102, Ng102, Ha102, Ga102⟩ := id V_b101
  have hin102 : ¬ ((0 : Int32) < 0 ∨ cl102.slots.size ≤ ((0 : Int32)).toNatClampNeg) := inb_of S102 ⟨by decide, by decide⟩
  obtain ⟨T103, h103, X103, e103, W103, st103⟩ := stC X101 hx hZ e101 Ar102 (j := (0 : Int32)) hin102 (g := (mkF mM 12 (Lc_law_yes_1 p1 p2 b101) [(.int (p1 &&& (255 : Int32))), (.int (0 : Int32)), (.ref b101)])) rfl rfl (hb hby at_12)
  have ge104_b101 : @LE.le Nat _ n0 b101 := by omega
  have Sz2 : h101.size ≤ h103.size := Nat.le_of_eq (Wr.size W103).symm
  have Vs103 := Arv.set Ar102 q102 S102 Ng102 Ha102 Ga102 (fits_nar_char _) W103 0 rfl (Nat.le_of_ble_eq_true rfl)
  have Vt103 : Arv Z h103 b101 k101 .char (2 : Int32) [(.int (p1 &&& (255 : Int32))), (.int (0 : Int32))] (.int (0 : Int32)) := by
    have q : Arv Z h103 b101 k101 .char (2 : Int32) [(.int (p1 &&& (255 : Int32)).toUInt32.toUInt16.toUInt32.toInt32), (.int (0 : Int32))] (.int (0 : Int32)) := Vs103
    rw [show ((.int (p1 &&& (255 : Int32)).toUInt32.toUInt16.toUInt32.toInt32) : Value) = (.int (p1 &&& (255 : Int32))) from congrArg Value.int (i2c_mask p1)] at q
    exact q
  have N103 := Fr.snoc X103 N0 ge104_b101
  obtain ⟨cl105, Ar105, q105, S105, Ng105, Ha105, Ga105⟩ := id Vt103
  have hin105 : ¬ ((1 : Int32) < 0 ∨ cl105.slots.size ≤ ((1 : Int32)).toNatClampNeg) := inb_of S105 ⟨by decide, by decide⟩
  obtain ⟨T106, h106, X106, e106, W106, st106⟩ := stC X103 hx hZ e103 Ar105 (j := (1 : Int32)) hin105 (g := (mkF mM 21 (Lc_law_yes_1 p1 p2 b101) [(.int (p2 &&& (255 : Int32))), (.int (1 : Int32)), (.ref b101)])) rfl rfl (hb hby at_21)
  have Sz3 : h103.size ≤ h106.size := Nat.le_of_eq (Wr.size W106).symm
  have Vs106 := Arv.set Ar105 q105 S105 Ng105 Ha105 Ga105 (fits_nar_char _) W106 1 rfl (Nat.le_of_ble_eq_true rfl)
  have Vt106 : Arv Z h106 b101 k101 .char (2 : Int32) [(.int (p1 &&& (255 : Int32))), (.int (p2 &&& (255 : Int32)))] (.int (0 : Int32)) := by
    have q : Arv Z h106 b101 k101 .char (2 : Int32) [(.int (p1 &&& (255 : Int32))), (.int (p2 &&& (255 : Int32)).toUInt32.toUInt16.toUInt32.toInt32)] (.int (0 : Int32)) := Vs106
    rw [show ((.int (p2 &&& (255 : Int32)).toUInt32.toUInt16.toUInt32.toInt32) : Value) = (.int (p2 &&& (255 : Int32))) from congrArg Value.int (i2c_mask p2)] at q
    exact q
  have N106 := Fr.snoc X106 N103 ge104_b101
  obtain ⟨T107, h107, X107, e107, E107, A107, D107, B107, st107⟩ := newO X106 hx hZ hown (wi hw 1 rfl) (wi hw 2 rfl) (wi hw 3 rfl) e106 (g := (mkF mM 22 (Lc_law_yes_1 p1 p2 b101) [])) rfl (hb hby at_22) (by decide) (by decide)
  obtain ⟨b107, g107⟩ : ∃ z : Nat, z = h106.size := ⟨_, rfl⟩
  rw [← g107] at A107 D107 B107 st107
  have Sz4 : h106.size ≤ h107.size := E107.1
  have F107_coder : Fld Z h107 b107 "java/lang/String" "coder" "B" (.int (0 : Int32)) := D107 (Or.inr (wi hw 27 rfl)) (ty := .byte) (by decide)
  have F107_value : Fld Z h107 b107 "java/lang/String" "value" "[B" .null := D107 (Or.inr (wi hw 29 rfl)) (ty := (.array .byte)) (by decide)
  have c109_V_b101 : Arv Z h107 b101 k101 .char (2 : Int32) [(.int (p1 &&& (255 : Int32))), (.int (p2 &&& (255 : Int32)))] (.int (0 : Int32)) := Vt106.ext E107
  have c110_OL : Old Z n0 h101 := OL.ext E101
  have c111_OL : Old Z n0 h103 := c110_OL.wr W103 ge104_b101
  have c112_OL : Old Z n0 h106 := c111_OL.wr W106 ge104_b101
  have c113_OL : Old Z n0 h107 := c112_OL.ext E107
  have ge114_b107 : @LE.le Nat _ n0 b107 := by omega
  obtain ⟨_, _, ⟨T108, L108, k108, n108⟩, -, X108, ⟨Lc108, hQ108, l108, y108, z108⟩, st108⟩ := X107.specialBack hx (y := (⟨"java/lang/String", "<init>", "([C)V"⟩ : MethodName)) rfl hown (mvT hZ (wi hw 4 rfl)) (mvT hZ (wi hw 5 rfl)) (mvT hZ (wi hw 6 rfl)) (by decide) (backOf (W := 1) (rm_init1_s2 l Z a0 hw [] b107 b101 k101 .null (.int (0 : Int32)) cs (p1 &&& (255 : Int32)) (p2 &&& (255 : Int32)) h107 n0 (by omega) A107 F107_value F107_coder c109_V_b101 ge114_b107 c113_OL S_COMPACT_STRINGS hcs (own_lim _) (own_lim _)) hZ (wi hw 6 rfl) (wi hw 3 rfl) (by decide) (by decide)) (g := (mkF mM 27 (Lc_law_yes_1 p1 p2 b101) [(.ref b101), (.ref b107), (.ref b107)])) rfl (by rw [hml]; rfl) (Steps.refl _) (a := b107) (argsL := [(.ref b101)]) (rest := [(.ref b107)]) (lenOf pd_0 rfl) rfl (by show 2 * 0 + _ ≤ _; exact Nat.le_of_eq rfl) (hb hby at_27) (fun _ _ => ⟨rfl, e107, Nat.le_of_ble_eq_true rfl, Nat.le_of_ble_eq_true rfl⟩)
  dsimp only [Pt.U, Pt.locs, Pt.cells, Pt.slots] at X108 l108 y108 z108 st108 hQ108
  subst l108 y108 z108
  obtain ⟨h108, e108⟩ : ∃ z, T108.heap = z := ⟨_, rfl⟩
  rw [e108] at hQ108
  obtain ⟨b_108, k2_108, rfl, N108q, Kp108, p108_E_o, p108_F_value_o, p108_F_coder_o, p108_V_b, p108_gh_b⟩ := hQ108
  have Sz5 : h107.size ≤ h108.size := Kp108.1
  have N108 := Fr.app N106 N108q
  obtain ⟨T115, h115, X115, e115, E115, A115, D115, B115, st115⟩ := newO X108 hx hZ hown (wi hw 30 rfl) (wi hw 31 rfl) (wi hw 32 rfl) e108 (g := (mkF mM 32 (Lc_law_yes_2 p1 p2 b101 b107) [])) rfl (hb hby at_32) (by decide) (by decide)
  obtain ⟨b115, g115⟩ : ∃ z : Nat, z = h108.size := ⟨_, rfl⟩
  rw [← g115] at A115 D115 B115 st115
  have Sz6 : h108.size ≤ h115.size := E115.1
  have F115_cause : Fld Z h115 b115 "java/lang/Throwable" "cause" "Ljava/lang/Throwable;" .null := D115 (Or.inl (wi hw 55 rfl)) (ty := (.object "java/lang/Throwable")) (by decide)
  have F115_stackTrace : Fld Z h115 b115 "java/lang/Throwable" "stackTrace" "[Ljava/lang/StackTraceElement;" .null := D115 (Or.inl (wi hw 58 rfl)) (ty := (.array (.object "java/lang/StackTraceElement"))) (by decide)
  have F115_suppressedExceptions : Fld Z h115 b115 "java/lang/Throwable" "suppressedExceptions" "Ljava/util/List;" .null := D115 (Or.inl (wi hw 61 rfl)) (ty := (.object "java/util/List")) (by decide)
  have F115_detailMessage : Fld Z h115 b115 "java/lang/Throwable" "detailMessage" "Ljava/lang/String;" .null := D115 (Or.inl (wi hw 85 rfl)) (ty := (.object "java/lang/String")) (by decide)
  have F115_backtrace : Fld Z h115 b115 "java/lang/Throwable" "backtrace" "Ljava/lang/Object;" .null := D115 (Or.inl (wi hw 86 rfl)) (ty := (.object "java/lang/Object")) (by decide)
  have F115_depth : Fld Z h115 b115 "java/lang/Throwable" "depth" "I" (.int (0 : Int32)) := D115 (Or.inl (wi hw 87 rfl)) (ty := .int) (by decide)
  have F115_code : Fld Z h115 b115 "com/example/custode/custode/store/StoreException" "code" "I" (.int (0 : Int32)) := D115 (Or.inr (wi hw 91 rfl)) (ty := .int) (by decide)
  have c117_OL : Old Z n0 h108 := c113_OL.keep Kp108 (allS ge114_b107 all0)
  have c118_OL : Old Z n0 h115 := c117_OL.ext E115
  have c119_TH : ThS Z h101 := ThS.ext E101 TH
  have c120_TH : ThS Z h103 := ThS.wr W103 c119_TH
  have c121_TH : ThS Z h106 := ThS.wr W106 c120_TH
  have c122_TH : ThS Z h107 := ThS.ext E107 c121_TH
  have c123_TH : ThS Z h108 := ThS.keep Kp108 (nsS (Exa.nostat A107) ns0) c122_TH
  have c124_TH : ThS Z h115 := ThS.ext E115 c123_TH
  have ge125_b115 : @LE.le Nat _ n0 b115 := by omega
  obtain ⟨_, _, ⟨T116, L116, k116, n116⟩, -, X116, ⟨Lc116, hQ116, l116, y116, z116⟩, st116⟩ := X115.specialBack hx (y := (⟨"com/example/custode/custode/store/StoreException", "<init>", "(Ljava/lang/String;I)V"⟩ : MethodName)) rfl hown (mvT hZ (wi hw 33 rfl)) (mvT hZ (wi hw 34 rfl)) (mvT hZ (wi hw 35 rfl)) (by decide) (backOfKL (W := 1) (rm_se2 l Z a0 hw [] b115 b107 (5 : Int32) (.int (0 : Int32)) ua sa .null .null .null .null h115 n0 (by omega) A115 F115_code B115 F115_cause F115_stackTrace F115_suppressedExceptions F115_detailMessage F115_backtrace ge125_b115 c118_OL c124_TH S_UNASSIGNED_STACK S_SUPPRESSED_SENTINEL hl) hZ (wi hw 35 rfl) (wi hw 32 rfl) (by decide) (by decide) hTK hBelow) (g := (mkF mM 39 (Lc_law_yes_2 p1 p2 b101 b107) [(.int (5 : Int32)), (.ref b107), (.ref b115), (.ref b115)])) rfl (by rw [hml]; rfl) (Steps.refl _) (a := b115) (argsL := [(.ref b107), (.int (5 : Int32))]) (rest := [(.ref b115)]) (lenOf pd_6 rfl) rfl (by show 2 * 0 + _ ≤ _; exact Nat.le_of_eq rfl) (hb hby at_39) (fun _ _ => ⟨rfl, e115, Nat.le_of_ble_eq_true rfl, Nat.le_of_ble_eq_true rfl⟩)
  dsimp only [Pt.U, Pt.locs, Pt.cells, Pt.slots] at X116 l116 y116 z116 st116 hQ116
  subst l116 y116 z116
  obtain ⟨h116, e116⟩ : ∃ z, T116.heap = z := ⟨_, rfl⟩
  rw [e116] at hQ116
  obtain ⟨rfl, N116q, Kp116, p116_E_o, p116_F_code_o⟩ := hQ116
  have Sz7 : h115.size ≤ h116.size := Kp116.1
  have N116 := Fr.app N108 N116q
  obtain ⟨cq126, kq126, q126a, q126b, q126c⟩ := isOf hZ e116 p116_E_o
  obtain ⟨_, _, ⟨T126, L126, k126, n126⟩, -, X126, ⟨Lc126, hQ126, l126, y126, z126⟩, st126⟩ := X116.virtualBack hx (y := (⟨"com/example/custode/custode/store/StoreException", "isNotFound", "()Z"⟩ : MethodName)) (z := (⟨"com/example/custode/custode/store/StoreException", "isNotFound", "()Z"⟩ : MethodName)) hown (mvT hZ (wi hw 92 rfl)) (mvT hZ (wi hw 93 rfl)) (notFace_of_selects (args := #[]) (mvT hZ (wi hw 95 rfl))) (mvT hZ (wi hw 95 rfl)) (mvT hZ (wi hw 94 rfl)) (by decide) (backOf (W := 0) (rm_nfy l Z a0 hw [] b115 h116 n0 (by omega) p116_F_code_o) hZ (wi hw 96 rfl) (wi hw 32 rfl) (by decide) (by decide)) q126a q126c (g := (mkF mM 58 (Lc_law_yes_4 p1 p2 b101 b107 b115) [(.ref b115)])) rfl (by rw [hml]; rfl) (Steps.refl _) (argsL := []) (rest := []) (lenOf pd_10 rfl) rfl (by show 2 * 0 + _ ≤ _; exact Nat.le_of_eq rfl) (hb hby at_58) (fun _ _ => ⟨rfl, e116, Nat.le_of_ble_eq_true rfl, Nat.le_of_ble_eq_true rfl⟩)
  dsimp only [Pt.U, Pt.locs, Pt.cells, Pt.slots] at X126 l126 y126 z126 st126 hQ126
  subst l126 y126 z126
  obtain ⟨h126, e126⟩ : ∃ z, T126.heap = z := ⟨_, rfl⟩
  rw [e126] at hQ126
  obtain ⟨rfl, N126q, eq126⟩ := hQ126
  rw [eq126] at e126
  have N126 := Fr.app N116 N126q
  obtain ⟨T127, h127, X127, e127, E127, A127, D127, B127, st127⟩ := newO X126 hx hZ hown (wi hw 30 rfl) (wi hw 31 rfl) (wi hw 32 rfl) e126 (g := (mkF mM 73 (Lc_law_yes_5 p1 p2 b101 b107 b115) [])) rfl (hb hby at_73) (by decide) (by decide)
  obtain ⟨b127, g127⟩ : ∃ z : Nat, z = h116.size := ⟨_, rfl⟩
  rw [← g127] at A127 D127 B127 st127
  have Sz8 : h116.size ≤ h127.size := E127.1
  have F127_cause : Fld Z h127 b127 "java/lang/Throwable" "cause" "Ljava/lang/Throwable;" .null := D127 (Or.inl (wi hw 55 rfl)) (ty := (.object "java/lang/Throwable")) (by decide)
  have F127_stackTrace : Fld Z h127 b127 "java/lang/Throwable" "stackTrace" "[Ljava/lang/StackTraceElement;" .null := D127 (Or.inl (wi hw 58 rfl)) (ty := (.array (.object "java/lang/StackTraceElement"))) (by decide)
  have F127_suppressedExceptions : Fld Z h127 b127 "java/lang/Throwable" "suppressedExceptions" "Ljava/util/List;" .null := D127 (Or.inl (wi hw 61 rfl)) (ty := (.object "java/util/List")) (by decide)
  have F127_detailMessage : Fld Z h127 b127 "java/lang/Throwable" "detailMessage" "Ljava/lang/String;" .null := D127 (Or.inl (wi hw 85 rfl)) (ty := (.object "java/lang/String")) (by decide)
  have F127_backtrace : Fld Z h127 b127 "java/lang/Throwable" "backtrace" "Ljava/lang/Object;" .null := D127 (Or.inl (wi hw 86 rfl)) (ty := (.object "java/lang/Object")) (by decide)
  have F127_depth : Fld Z h127 b127 "java/lang/Throwable" "depth" "I" (.int (0 : Int32)) := D127 (Or.inl (wi hw 87 rfl)) (ty := .int) (by decide)
  have F127_code : Fld Z h127 b127 "com/example/custode/custode/store/StoreException" "code" "I" (.int (0 : Int32)) := D127 (Or.inr (wi hw 91 rfl)) (ty := .int) (by decide)
  have c129_OL : Old Z n0 h116 := c118_OL.keep Kp116 (allS ge125_b115 all0)
  have c130_OL : Old Z n0 h127 := c129_OL.ext E127
  have c131_TH : ThS Z h116 := ThS.keep Kp116 (nsS (Exa.nostat A115) ns0) c124_TH
  have c132_TH : ThS Z h127 := ThS.ext E127 c131_TH
  have ge133_b127 : @LE.le Nat _ n0 b127 := by omega
  obtain ⟨_, _, ⟨T128, L128, k128, n128⟩, -, X128, ⟨Lc128, hQ128, l128, y128, z128⟩, st128⟩ := X127.specialBack hx (y := (⟨"com/example/custode/custode/store/StoreException", "<init>", "(Ljava/lang/String;)V"⟩ : MethodName)) rfl hown (mvT hZ (wi hw 97 rfl)) (mvT hZ (wi hw 98 rfl)) (mvT hZ (wi hw 99 rfl)) (by decide) (backOfKL (W := 1) (rm_se1 l Z a0 hw [] b127 b107 (.int (0 : Int32)) ua sa .null .null .null .null h127 n0 (by omega) A127 F127_code B127 F127_cause F127_stackTrace F127_suppressedExceptions F127_detailMessage F127_backtrace ge133_b127 c130_OL c132_TH S_UNASSIGNED_STACK S_SUPPRESSED_SENTINEL hl) hZ (wi hw 99 rfl) (wi hw 32 rfl) (by decide) (by decide) hTK hBelow) (g := (mkF mM 79 (Lc_law_yes_5 p1 p2 b101 b107 b115) [(.ref b107), (.ref b127), (.ref b127)])) rfl (by rw [hml]; rfl) (Steps.refl _) (a := b127) (argsL := [(.ref b107)]) (rest := [(.ref b127)]) (lenOf pd_7 rfl) rfl (by show 2 * 0 + _ ≤ _; exact Nat.le_of_eq rfl) (hb hby at_79) (fun _ _ => ⟨rfl, e127, Nat.le_of_ble_eq_true rfl, Nat.le_of_ble_eq_true rfl⟩)
  dsimp only [Pt.U, Pt.locs, Pt.cells, Pt.slots] at X128 l128 y128 z128 st128 hQ128
  subst l128 y128 z128
  obtain ⟨h128, e128⟩ : ∃ z, T128.heap = z := ⟨_, rfl⟩
  rw [e128] at hQ128
  obtain ⟨rfl, N128q, Kp128, p128_E_o, p128_F_code_o⟩ := hQ128
  have Sz9 : h127.size ≤ h128.size := Kp128.1
  have N128 := Fr.app N126 N128q
  obtain ⟨cq134, kq134, q134a, q134b, q134c⟩ := isOf hZ e128 p128_E_o
  obtain ⟨_, _, ⟨T134, L134, k134, n134⟩, -, X134, ⟨Lc134, hQ134, l134, y134, z134⟩, st134⟩ := X128.virtualBack hx (y := (⟨"com/example/custode/custode/store/StoreException", "isNotFound", "()Z"⟩ : MethodName)) (z := (⟨"com/example/custode/custode/store/StoreException", "isNotFound", "()Z"⟩ : MethodName)) hown (mvT hZ (wi hw 92 rfl)) (mvT hZ (wi hw 93 rfl)) (notFace_of_selects (args := #[]) (mvT hZ (wi hw 95 rfl))) (mvT hZ (wi hw 95 rfl)) (mvT hZ (wi hw 94 rfl)) (by decide) (backOf (W := 0) (rm_nfn l Z a0 hw [] b127 (0 : Int32) h128 n0 (by omega) p128_F_code_o (by decide)) hZ (wi hw 96 rfl) (wi hw 32 rfl) (by decide) (by decide)) q134a q134c (g := (mkF mM 86 (Lc_law_yes_6 p1 p2 b101 b107 b115 b127) [(.ref b127)])) rfl (by rw [hml]; rfl) (Steps.refl _) (argsL := []) (rest := []) (lenOf pd_10 rfl) rfl (by show 2 * 0 + _ ≤ _; exact Nat.le_of_eq rfl) (hb hby at_86) (fun _ _ => ⟨rfl, e128, Nat.le_of_ble_eq_true rfl, Nat.le_of_ble_eq_true rfl⟩)
  dsimp only [Pt.U, Pt.locs, Pt.cells, Pt.slots] at X134 l134 y134 z134 st134 hQ134
  subst l134 y134 z134
  obtain ⟨h134, e134⟩ : ∃ z, T134.heap = z := ⟨_, rfl⟩
  rw [e134] at hQ134
  obtain ⟨rfl, N134q, eq134⟩ := hQ134
  rw [eq134] at e134
  have N134 := Fr.app N128 N134q
  obtain ⟨fs, hr, hrun, hended, hW, hsame⟩ := X134.leave (v := some (.int (1 : Int32))) (fun h => by rw [Bd.returns] at h; cases h)
  refine ⟨_, _, pre0 _ ?_, hrun, hended, _, _, rfl, ?_, ⟨_, rfl⟩, hW, hsame.mono (by decide) (by decide)⟩
  · show SS pP eE belowS s₁ (mkF mM 0 (Lc_law_yes_0 p1 p2) []) _
    refine XS.iconst X0.here hx rfl (hb hby at_0) ?_
    show SS pP eE belowS s₁ (mkF mM 1 (Lc_law_yes_0 p1 p2) [(.int (2 : Int32))]) _
    refine st101 _ ?_
    show SS pP eE belowS T101 (mkF mM 3 (Lc_law_yes_0 p1 p2) [(.ref b101)]) _
    refine XS.astoreN X101.here hx rfl (hb hby at_3) rfl rfl (l' := (Lc_law_yes_1 p1 p2 b101)) rfl ?_
    show SS pP eE belowS T101 (mkF mM 4 (Lc_law_yes_1 p1 p2 b101) []) _
    refine XS.aloadN X101.here hx rfl (hb hby at_4) rfl rfl ?_
    show SS pP eE belowS T101 (mkF mM 5 (Lc_law_yes_1 p1 p2 b101) [(.ref b101)]) _
    refine XS.iconst X101.here hx rfl (hb hby at_5) ?_
    show SS pP eE belowS T101 (mkF mM 6 (Lc_law_yes_1 p1 p2 b101) [(.int (0 : Int32)), (.ref b101)]) _
    refine XS.iloadN X101.here hx rfl (hb hby at_6) rfl ?_
    show SS pP eE belowS T101 (mkF mM 7 (Lc_law_yes_1 p1 p2 b101) [(.int p1), (.int (0 : Int32)), (.ref b101)]) _
    refine XS.sipush X101.here hx rfl (hb hby at_7) ?_
    show SS pP eE belowS T101 (mkF mM 10 (Lc_law_yes_1 p1 p2 b101) [(.int (255 : Int32)), (.int p1), (.int (0 : Int32)), (.ref b101)]) _
    refine XS.iand X101.here hx rfl (hb hby at_10) rfl ?_
    show SS pP eE belowS T101 (mkF mM 11 (Lc_law_yes_1 p1 p2 b101) [(.int (p1 &&& (255 : Int32))), (.int (0 : Int32)), (.ref b101)]) _
    refine XS.i2c X101.here hx rfl (hb hby at_11) rfl ?_
    show SS pP eE belowS T101 (mkF mM 12 (Lc_law_yes_1 p1 p2 b101) [(.int ((p1 &&& (255 : Int32)).toUInt32.toUInt16.toUInt32.toInt32)), (.int (0 : Int32)), (.ref b101)]) _
    rw [show ((p1 &&& (255 : Int32)).toUInt32.toUInt16.toUInt32.toInt32) = (p1 &&& (255 : Int32)) from i2c_mask p1]
    show SS pP eE belowS T101 (mkF mM 12 (Lc_law_yes_1 p1 p2 b101) [(.int (p1 &&& (255 : Int32))), (.int (0 : Int32)), (.ref b101)]) _
    refine st103 _ ?_
    show SS pP eE belowS T103 (mkF mM 13 (Lc_law_yes_1 p1 p2 b101) []) _
    refine XS.aloadN X103.here hx rfl (hb hby at_13) rfl rfl ?_
    show SS pP eE belowS T103 (mkF mM 14 (Lc_law_yes_1 p1 p2 b101) [(.ref b101)]) _
    refine XS.iconst X103.here hx rfl (hb hby at_14) ?_
    show SS pP eE belowS T103 (mkF mM 15 (Lc_law_yes_1 p1 p2 b101) [(.int (1 : Int32)), (.ref b101)]) _
    refine XS.iloadN X103.here hx rfl (hb hby at_15) rfl ?_
    show SS pP eE belowS T103 (mkF mM 16 (Lc_law_yes_1 p1 p2 b101) [(.int p2), (.int (1 : Int32)), (.ref b101)]) _
    refine XS.sipush X103.here hx rfl (hb hby at_16) ?_
    show SS pP eE belowS T103 (mkF mM 19 (Lc_law_yes_1 p1 p2 b101) [(.int (255 : Int32)), (.int p2), (.int (1 : Int32)), (.ref b101)]) _
    refine XS.iand X103.here hx rfl (hb hby at_19) rfl ?_
    show SS pP eE belowS T103 (mkF mM 20 (Lc_law_yes_1 p1 p2 b101) [(.int (p2 &&& (255 : Int32))), (.int (1 : Int32)), (.ref b101)]) _
    refine XS.i2c X103.here hx rfl (hb hby at_20) rfl ?_
    show SS pP eE belowS T103 (mkF mM 21 (Lc_law_yes_1 p1 p2 b101) [(.int ((p2 &&& (255 : Int32)).toUInt32.toUInt16.toUInt32.toInt32)), (.int (1 : Int32)), (.ref b101)]) _
    rw [show ((p2 &&& (255 : Int32)).toUInt32.toUInt16.toUInt32.toInt32) = (p2 &&& (255 : Int32)) from i2c_mask p2]
    show SS pP eE belowS T103 (mkF mM 21 (Lc_law_yes_1 p1 p2 b101) [(.int (p2 &&& (255 : Int32))), (.int (1 : Int32)), (.ref b101)]) _
    refine st106 _ ?_
    show SS pP eE belowS T106 (mkF mM 22 (Lc_law_yes_1 p1 p2 b101) []) _
    refine st107 _ ?_
    show SS pP eE belowS T107 (mkF mM 25 (Lc_law_yes_1 p1 p2 b101) [(.ref b107)]) _
    refine XS.dup X107.here hx rfl (hb hby at_25) rfl rfl ?_
    show SS pP eE belowS T107 (mkF mM 26 (Lc_law_yes_1 p1 p2 b101) [(.ref b107), (.ref b107)]) _
    refine XS.aloadN X107.here hx rfl (hb hby at_26) rfl rfl ?_
    show SS pP eE belowS T107 (mkF mM 27 (Lc_law_yes_1 p1 p2 b101) [(.ref b101), (.ref b107), (.ref b107)]) _
    refine st108.trans ?_
    show SS pP eE belowS T108 (mkF mM 30 (Lc_law_yes_1 p1 p2 b101) [(.ref b107)]) _
    refine XS.astore X108.here hx rfl (hb hby at_30) rfl rfl (l' := (Lc_law_yes_2 p1 p2 b101 b107)) rfl ?_
    show SS pP eE belowS T108 (mkF mM 32 (Lc_law_yes_2 p1 p2 b101 b107) []) _
    refine st115 _ ?_
    show SS pP eE belowS T115 (mkF mM 35 (Lc_law_yes_2 p1 p2 b101 b107) [(.ref b115)]) _
    refine XS.dup X115.here hx rfl (hb hby at_35) rfl rfl ?_
    show SS pP eE belowS T115 (mkF mM 36 (Lc_law_yes_2 p1 p2 b101 b107) [(.ref b115), (.ref b115)]) _
    refine XS.aload X115.here hx rfl (hb hby at_36) rfl rfl ?_
    show SS pP eE belowS T115 (mkF mM 38 (Lc_law_yes_2 p1 p2 b101 b107) [(.ref b107), (.ref b115), (.ref b115)]) _
    refine XS.iloadN X115.here hx rfl (hb hby at_38) rfl ?_
    show SS pP eE belowS T115 (mkF mM 39 (Lc_law_yes_2 p1 p2 b101 b107) [(.int (5 : Int32)), (.ref b107), (.ref b115), (.ref b115)]) _
    refine st116.trans ?_
    show SS pP eE belowS T116 (mkF mM 42 (Lc_law_yes_2 p1 p2 b101 b107) [(.ref b115)]) _
    refine XS.astore X116.here hx rfl (hb hby at_42) rfl rfl (l' := (Lc_law_yes_3 p1 p2 b101 b107 b115)) rfl ?_
    show SS pP eE belowS T116 (mkF mM 44 (Lc_law_yes_3 p1 p2 b101 b107 b115) []) _
    refine XS.iloadN X116.here hx rfl (hb hby at_44) rfl ?_
    show SS pP eE belowS T116 (mkF mM 45 (Lc_law_yes_3 p1 p2 b101 b107 b115) [(.int (5 : Int32))]) _
    refine XS.iconst X116.here hx rfl (hb hby at_45) ?_
    show SS pP eE belowS T116 (mkF mM 46 (Lc_law_yes_3 p1 p2 b101 b107 b115) [(.int (5 : Int32)), (.int (5 : Int32))]) _
    refine XS.icmpNo X116.here hx rfl (hb hby at_46) rfl (teq (by decide : (5 : Int32) = (5 : Int32))).2 ?_
    show SS pP eE belowS T116 (mkF mM 49 (Lc_law_yes_3 p1 p2 b101 b107 b115) []) _
    refine XS.iconst X116.here hx rfl (hb hby at_49) ?_
    show SS pP eE belowS T116 (mkF mM 50 (Lc_law_yes_3 p1 p2 b101 b107 b115) [(.int (1 : Int32))]) _
    refine XS.goto X116.here hx rfl (pc0 := 50) (pc' := 54) rfl (hb hby at_50) (by decide) (by decide) ?_
    show SS pP eE belowS T116 (mkF mM 54 (Lc_law_yes_3 p1 p2 b101 b107 b115) [(.int (1 : Int32))]) _
    refine XS.istore X116.here hx rfl (hb hby at_54) rfl (l' := (Lc_law_yes_4 p1 p2 b101 b107 b115)) rfl ?_
    show SS pP eE belowS T116 (mkF mM 56 (Lc_law_yes_4 p1 p2 b101 b107 b115) []) _
    refine XS.aload X116.here hx rfl (hb hby at_56) rfl rfl ?_
    show SS pP eE belowS T116 (mkF mM 58 (Lc_law_yes_4 p1 p2 b101 b107 b115) [(.ref b115)]) _
    refine st126.trans ?_
    show SS pP eE belowS T126 (mkF mM 61 (Lc_law_yes_4 p1 p2 b101 b107 b115) [(.int (1 : Int32))]) _
    refine XS.iload X126.here hx rfl (hb hby at_61) rfl ?_
    show SS pP eE belowS T126 (mkF mM 63 (Lc_law_yes_4 p1 p2 b101 b107 b115) [(.int (1 : Int32)), (.int (1 : Int32))]) _
    refine XS.icmpNo X126.here hx rfl (hb hby at_63) rfl (teq (by decide : (1 : Int32) = (1 : Int32))).2 ?_
    show SS pP eE belowS T126 (mkF mM 66 (Lc_law_yes_4 p1 p2 b101 b107 b115) []) _
    refine XS.iconst X126.here hx rfl (hb hby at_66) ?_
    show SS pP eE belowS T126 (mkF mM 67 (Lc_law_yes_4 p1 p2 b101 b107 b115) [(.int (1 : Int32))]) _
    refine XS.goto X126.here hx rfl (pc0 := 67) (pc' := 71) rfl (hb hby at_67) (by decide) (by decide) ?_
    show SS pP eE belowS T126 (mkF mM 71 (Lc_law_yes_4 p1 p2 b101 b107 b115) [(.int (1 : Int32))]) _
    refine XS.istore X126.here hx rfl (hb hby at_71) rfl (l' := (Lc_law_yes_5 p1 p2 b101 b107 b115)) rfl ?_
    show SS pP eE belowS T126 (mkF mM 73 (Lc_law_yes_5 p1 p2 b101 b107 b115) []) _
    refine st127 _ ?_
    show SS pP eE belowS T127 (mkF mM 76 (Lc_law_yes_5 p1 p2 b101 b107 b115) [(.ref b127)]) _
    refine XS.dup X127.here hx rfl (hb hby at_76) rfl rfl ?_
    show SS pP eE belowS T127 (mkF mM 77 (Lc_law_yes_5 p1 p2 b101 b107 b115) [(.ref b127), (.ref b127)]) _
    refine XS.aload X127.here hx rfl (hb hby at_77) rfl rfl ?_
    show SS pP eE belowS T127 (mkF mM 79 (Lc_law_yes_5 p1 p2 b101 b107 b115) [(.ref b107), (.ref b127), (.ref b127)]) _
    refine st128.trans ?_
    show SS pP eE belowS T128 (mkF mM 82 (Lc_law_yes_5 p1 p2 b101 b107 b115) [(.ref b127)]) _
    refine XS.astore X128.here hx rfl (hb hby at_82) rfl rfl (l' := (Lc_law_yes_6 p1 p2 b101 b107 b115 b127)) rfl ?_
    show SS pP eE belowS T128 (mkF mM 84 (Lc_law_yes_6 p1 p2 b101 b107 b115 b127) []) _
    refine XS.aload X128.here hx rfl (hb hby at_84) rfl rfl ?_
    show SS pP eE belowS T128 (mkF mM 86 (Lc_law_yes_6 p1 p2 b101 b107 b115 b127) [(.ref b127)]) _
    refine st134.trans ?_
    show SS pP eE belowS T134 (mkF mM 89 (Lc_law_yes_6 p1 p2 b101 b107 b115 b127) [(.int (0 : Int32))]) _
    refine XS.ifNo X134.here hx rfl (hb hby at_89) rfl ((if0 _ _).trans (teq (by decide : (0 : Int32) = (0 : Int32))).2) ?_
    show SS pP eE belowS T134 (mkF mM 92 (Lc_law_yes_6 p1 p2 b101 b107 b115 b127) []) _
    refine XS.iconst X134.here hx rfl (hb hby at_92) ?_
    show SS pP eE belowS T134 (mkF mM 93 (Lc_law_yes_6 p1 p2 b101 b107 b115 b127) [(.int (1 : Int32))]) _
    refine XS.goto X134.here hx rfl (pc0 := 93) (pc' := 97) rfl (hb hby at_93) (by decide) (by decide) ?_
    show SS pP eE belowS T134 (mkF mM 97 (Lc_law_yes_6 p1 p2 b101 b107 b115 b127) [(.int (1 : Int32))]) _
    refine XS.istore X134.here hx rfl (hb hby at_97) rfl (l' := (Lc_law_yes_7 p1 p2 b101 b107 b115 b127)) rfl ?_
    show SS pP eE belowS T134 (mkF mM 99 (Lc_law_yes_7 p1 p2 b101 b107 b115 b127) []) _
    refine XS.iload X134.here hx rfl (hb hby at_99) rfl ?_
    show SS pP eE belowS T134 (mkF mM 101 (Lc_law_yes_7 p1 p2 b101 b107 b115 b127) [(.int (1 : Int32))]) _
    refine XS.ifNo X134.here hx rfl (hb hby at_101) rfl ((if0 _ _).trans (feq (by decide : ¬ ((1 : Int32) = (0 : Int32)))).1) ?_
    show SS pP eE belowS T134 (mkF mM 104 (Lc_law_yes_7 p1 p2 b101 b107 b115 b127) []) _
    refine XS.iload X134.here hx rfl (hb hby at_104) rfl ?_
    show SS pP eE belowS T134 (mkF mM 106 (Lc_law_yes_7 p1 p2 b101 b107 b115 b127) [(.int (1 : Int32))]) _
    refine XS.ifNo X134.here hx rfl (hb hby at_106) rfl ((if0 _ _).trans (feq (by decide : ¬ ((1 : Int32) = (0 : Int32)))).1) ?_
    show SS pP eE belowS T134 (mkF mM 109 (Lc_law_yes_7 p1 p2 b101 b107 b115 b127) []) _
    refine XS.iconst X134.here hx rfl (hb hby at_109) ?_
    show SS pP eE belowS T134 (mkF mM 110 (Lc_law_yes_7 p1 p2 b101 b107 b115 b127) [(.int (1 : Int32))]) _
    refine XS.goto X134.here hx rfl (pc0 := 110) (pc' := 114) rfl (hb hby at_110) (by decide) (by decide) ?_
    show SS pP eE belowS T134 (mkF mM 114 (Lc_law_yes_7 p1 p2 b101 b107 b115 b127) [(.int (1 : Int32))]) _
    exact retN X134 hx (t := .boolean) Bd.returns (by simp) (hb hby at_114) hr
  · exact ⟨rfl, N134⟩

abbrev Lc_law_no_0 (p0 : Int32) (p1 : Int32) (p2 : Int32) : Array Slot := #[.val (.int p0), .val (.int p1), .val (.int p2), .unset, .unset, .unset, .unset, .unset, .unset, .unset]
abbrev Lc_law_no_1 (p0 : Int32) (p1 : Int32) (p2 : Int32) (b101 : Addr) : Array Slot := #[.val (.int p0), .val (.int p1), .val (.int p2), .val (.ref b101), .unset, .unset, .unset, .unset, .unset, .unset]
abbrev Lc_law_no_2 (p0 : Int32) (p1 : Int32) (p2 : Int32) (b101 : Addr) (b107 : Addr) : Array Slot := #[.val (.int p0), .val (.int p1), .val (.int p2), .val (.ref b101), .val (.ref b107), .unset, .unset, .unset, .unset, .unset]
abbrev Lc_law_no_3 (p0 : Int32) (p1 : Int32) (p2 : Int32) (b101 : Addr) (b107 : Addr) (b115 : Addr) : Array Slot := #[.val (.int p0), .val (.int p1), .val (.int p2), .val (.ref b101), .val (.ref b107), .val (.ref b115), .unset, .unset, .unset, .unset]
abbrev Lc_law_no_4 (p0 : Int32) (p1 : Int32) (p2 : Int32) (b101 : Addr) (b107 : Addr) (b115 : Addr) : Array Slot := #[.val (.int p0), .val (.int p1), .val (.int p2), .val (.ref b101), .val (.ref b107), .val (.ref b115), .val (.int (0 : Int32)), .unset, .unset, .unset]
abbrev Lc_law_no_5 (p0 : Int32) (p1 : Int32) (p2 : Int32) (b101 : Addr) (b107 : Addr) (b115 : Addr) : Array Slot := #[.val (.int p0), .val (.int p1), .val (.int p2), .val (.ref b101), .val (.ref b107), .val (.ref b115), .val (.int (0 : Int32)), .val (.int (1 : Int32)), .unset, .unset]
abbrev Lc_law_no_6 (p0 : Int32) (p1 : Int32) (p2 : Int32) (b101 : Addr) (b107 : Addr) (b115 : Addr) (b127 : Addr) : Array Slot := #[.val (.int p0), .val (.int p1), .val (.int p2), .val (.ref b101), .val (.ref b107), .val (.ref b115), .val (.int (0 : Int32)), .val (.int (1 : Int32)), .val (.ref b127), .unset]
abbrev Lc_law_no_7 (p0 : Int32) (p1 : Int32) (p2 : Int32) (b101 : Addr) (b107 : Addr) (b115 : Addr) (b127 : Addr) : Array Slot := #[.val (.int p0), .val (.int p1), .val (.int p2), .val (.ref b101), .val (.ref b107), .val (.ref b115), .val (.int (0 : Int32)), .val (.int (1 : Int32)), .val (.ref b127), .val (.int (1 : Int32))]
theorem ef_law_no (mM : MethodId) (p0 : Int32) (p1 : Int32) (p2 : Int32) (cs : Int32) (ua : Addr) (sa : Addr) : entryFrame mM #[(.int p0), (.int p1), (.int p2)] maxLocals = mkF mM 0 #[.val (.int p0), .val (.int p1), .val (.int p2), .unset, .unset, .unset, .unset, .unset, .unset, .unset] [] := by first | (simp [entryFrame, mkF, argsToLocals, Value.category, maxLocals]; done) | rfl
set_option maxRecDepth 65536 in
set_option maxHeartbeats 40000000 in
theorem rm_law_no (l : Launch) (Z : State) (a0 : Array Value) (hw : ∀ d ∈ tables_1, d.before a0 Z = true) (ws : List Jvm.Cond) (p0 : Int32) (p1 : Int32) (p2 : Int32) (cs : Int32) (ua : Addr) (sa : Addr) (h0 : Heap) (n0 : Nat) (Z0 : n0 ≤ h0.size) (OL : Old Z n0 h0) (S_COMPACT_STRINGS : Sta Z Z.heap "java/lang/String" "COMPACT_STRINGS" "Z" (.int cs)) (hcs : ¬ (cs = (0 : Int32))) (TH : ThS Z h0) (S_UNASSIGNED_STACK : Sta Z Z.heap "java/lang/Throwable" "UNASSIGNED_STACK" "[Ljava/lang/StackTraceElement;" (.ref ua)) (S_SUPPRESSED_SENTINEL : Sta Z Z.heap "java/lang/Throwable" "SUPPRESSED_SENTINEL" "Ljava/util/List;" (.ref sa)) (hl : l.stackTraces = true) (hc46 : ¬ (p0 = (5 : Int32))) :
    MetFree l x (head1 (Jvm.Cond.code x code maxLocals ret :: ws) room_1) (fun xa xU => xa = #[(.int p0), (.int p1), (.int p2)] ∧ Z.Warmed39 xU.vm ∧ xU.heap = h0) (fun _ _ bl s _ => s.vm.MethodsKnown ∧ s.vm.FramesKnown bl) (fun _ xU xo xU' => ∃ xv xL, xo = .returned xv ∧ Q_law n0 xv xL ∧ FrameEnd xU xo xU' xL room_1.cells room_1.slots) := by
  refine MetFree.of_bodySF (plainFor_of_name pn_com_example_custode_custode_store_StoreExceptionIsNotFoundPinLaw) hisR ?_
  intro pP eE sS mM argS belowS methS cC s₁ Bd hml0 hP hK
  obtain ⟨rfl, hZ, hh⟩ := hP
  have hx := Bd.exec
  have hby := Bd.bytes
  have hml : cC.maxLocals = 10 := hml0
  have hown : sS.vm.findClass "com/example/custode/custode/store/StoreExceptionIsNotFoundPinLaw" = some mM.cls := findClass_of_methodNamed Bd.named
  have hnm := (name_of_methodNamed Bd.named Bd.method).1
  have X0 : Stand pP l eE room_1 sS mM #[(.int p0), (.int p1), (.int p2)] belowS methS cC s₁ [] 0 0 := Stand.of_body Bd
  have e0 : s₁.heap = h0 := by rw [← hh, Bd.state]; rfl
  have N0 := Fr.nil n0
  have pre0 : ∀ t', Steps pP.tables eE belowS (s₁.setTop (mkF mM 0 #[.val (.int p0), .val (.int p1), .val (.int p2), .unset, .unset, .unset, .unset, .unset, .unset, .unset] [])) t' → Steps pP.tables eE belowS (s₁.setTop (entryFrame mM #[(.int p0), (.int p1), (.int p2)] maxLocals)) t' := fun t' kk' => castTop (ef_law_no mM p0 p1 p2 cs ua sa) kk'
  obtain ⟨hTK, hBelow⟩ := hK
  obtain ⟨T101, h101, k101, X101, e101, E101, A101, st101⟩ := newP X0 hx hZ (wi hw 0 rfl) e0 (g := (mkF mM 1 (Lc_law_no_0 p0 p1 p2) [(.int (2 : Int32))])) rfl (hb hby at_1) rfl (by decide) (cap := 2) (by decide) (by decide) (by decide) (by decide)
  obtain ⟨b101, g101⟩ : ∃ z : Nat, z = h0.size := ⟨_, rfl⟩
  rw [← g101] at A101 st101
  have Sz1 : h0.size ≤ h101.size := E101.1
  have V_b101 : Arv Z h101 b101 k101 .char (2 : Int32) [(.int (0 : Int32)), (.int (0 : Int32))] (.int (0 : Int32)) := (Arv.new A101 (by decide)).pad (pad_rep [] (.int (0 : Int32)) 2)
  obtain ⟨cl102, Ar102, q102, S102, Ng102, Ha102, Ga102⟩ := id V_b101
  have hin102 : ¬ ((0 : Int32) < 0 ∨ cl102.slots.size ≤ ((0 : Int32)).toNatClampNeg) := inb_of S102 ⟨by decide, by decide⟩
  obtain ⟨T103, h103, X103, e103, W103, st103⟩ := stC X101 hx hZ e101 Ar102 (j := (0 : Int32)) hin102 (g := (mkF mM 12 (Lc_law_no_1 p0 p1 p2 b101) [(.int (p1 &&& (255 : Int32))), (.int (0 : Int32)), (.ref b101)])) rfl rfl (hb hby at_12)
  have ge104_b101 : @LE.le Nat _ n0 b101 := by omega
  have Sz2 : h101.size ≤ h103.size := Nat.le_of_eq (Wr.size W103).symm
  have Vs103 := Arv.set Ar102 q102 S102 Ng102 Ha102 Ga102 (fits_nar_char _) W103 0 rfl (Nat.le_of_ble_eq_true rfl)
  have Vt103 : Arv Z h103 b101 k101 .char (2 : Int32) [(.int (p1 &&& (255 : Int32))), (.int (0 : Int32))] (.int (0 : Int32)) := by
    have q : Arv Z h103 b101 k101 .char (2 : Int32) [(.int (p1 &&& (255 : Int32)).toUInt32.toUInt16.toUInt32.toInt32), (.int (0 : Int32))] (.int (0 : Int32)) := Vs103
    rw [show ((.int (p1 &&& (255 : Int32)).toUInt32.toUInt16.toUInt32.toInt32) : Value) = (.int (p1 &&& (255 : Int32))) from congrArg Value.int (i2c_mask p1)] at q
    exact q
  have N103 := Fr.snoc X103 N0 ge104_b101
  obtain ⟨cl105, Ar105, q105, S105, Ng105, Ha105, Ga105⟩ := id Vt103
  have hin105 : ¬ ((1 : Int32) < 0 ∨ cl105.slots.size ≤ ((1 : Int32)).toNatClampNeg) := inb_of S105 ⟨by decide, by decide⟩
  obtain ⟨T106, h106, X106, e106, W106, st106⟩ := stC X103 hx hZ e103 Ar105 (j := (1 : Int32)) hin105 (g := (mkF mM 21 (Lc_law_no_1 p0 p1 p2 b101) [(.int (p2 &&& (255 : Int32))), (.int (1 : Int32)), (.ref b101)])) rfl rfl (hb hby at_21)
  have Sz3 : h103.size ≤ h106.size := Nat.le_of_eq (Wr.size W106).symm
  have Vs106 := Arv.set Ar105 q105 S105 Ng105 Ha105 Ga105 (fits_nar_char _) W106 1 rfl (Nat.le_of_ble_eq_true rfl)
  have Vt106 : Arv Z h106 b101 k101 .char (2 : Int32) [(.int (p1 &&& (255 : Int32))), (.int (p2 &&& (255 : Int32)))] (.int (0 : Int32)) := by
    have q : Arv Z h106 b101 k101 .char (2 : Int32) [(.int (p1 &&& (255 : Int32))), (.int (p2 &&& (255 : Int32)).toUInt32.toUInt16.toUInt32.toInt32)] (.int (0 : Int32)) := Vs106
    rw [show ((.int (p2 &&& (255 : Int32)).toUInt32.toUInt16.toUInt32.toInt32) : Value) = (.int (p2 &&& (255 : Int32))) from congrArg Value.int (i2c_mask p2)] at q
    exact q
  have N106 := Fr.snoc X106 N103 ge104_b101
  obtain ⟨T107, h107, X107, e107, E107, A107, D107, B107, st107⟩ := newO X106 hx hZ hown (wi hw 1 rfl) (wi hw 2 rfl) (wi hw 3 rfl) e106 (g := (mkF mM 22 (Lc_law_no_1 p0 p1 p2 b101) [])) rfl (hb hby at_22) (by decide) (by decide)
  obtain ⟨b107, g107⟩ : ∃ z : Nat, z = h106.size := ⟨_, rfl⟩
  rw [← g107] at A107 D107 B107 st107
  have Sz4 : h106.size ≤ h107.size := E107.1
  have F107_coder : Fld Z h107 b107 "java/lang/String" "coder" "B" (.int (0 : Int32)) := D107 (Or.inr (wi hw 27 rfl)) (ty := .byte) (by decide)
  have F107_value : Fld Z h107 b107 "java/lang/String" "value" "[B" .null := D107 (Or.inr (wi hw 29 rfl)) (ty := (.array .byte)) (by decide)
  have c109_V_b101 : Arv Z h107 b101 k101 .char (2 : Int32) [(.int (p1 &&& (255 : Int32))), (.int (p2 &&& (255 : Int32)))] (.int (0 : Int32)) := Vt106.ext E107
  have c110_OL : Old Z n0 h101 := OL.ext E101
  have c111_OL : Old Z n0 h103 := c110_OL.wr W103 ge104_b101
  have c112_OL : Old Z n0 h106 := c111_OL.wr W106 ge104_b101
  have c113_OL : Old Z n0 h107 := c112_OL.ext E107
  have ge114_b107 : @LE.le Nat _ n0 b107 := by omega
  obtain ⟨_, _, ⟨T108, L108, k108, n108⟩, -, X108, ⟨Lc108, hQ108, l108, y108, z108⟩, st108⟩ := X107.specialBack hx (y := (⟨"java/lang/String", "<init>", "([C)V"⟩ : MethodName)) rfl hown (mvT hZ (wi hw 4 rfl)) (mvT hZ (wi hw 5 rfl)) (mvT hZ (wi hw 6 rfl)) (by decide) (backOf (W := 1) (rm_init1_s2 l Z a0 hw [] b107 b101 k101 .null (.int (0 : Int32)) cs (p1 &&& (255 : Int32)) (p2 &&& (255 : Int32)) h107 n0 (by omega) A107 F107_value F107_coder c109_V_b101 ge114_b107 c113_OL S_COMPACT_STRINGS hcs (own_lim _) (own_lim _)) hZ (wi hw 6 rfl) (wi hw 3 rfl) (by decide) (by decide)) (g := (mkF mM 27 (Lc_law_no_1 p0 p1 p2 b101) [(.ref b101), (.ref b107), (.ref b107)])) rfl (by rw [hml]; rfl) (Steps.refl _) (a := b107) (argsL := [(.ref b101)]) (rest := [(.ref b107)]) (lenOf pd_0 rfl) rfl (by show 2 * 0 + _ ≤ _; exact Nat.le_of_eq rfl) (hb hby at_27) (fun _ _ => ⟨rfl, e107, Nat.le_of_ble_eq_true rfl, Nat.le_of_ble_eq_true rfl⟩)
  dsimp only [Pt.U, Pt.locs, Pt.cells, Pt.slots] at X108 l108 y108 z108 st108 hQ108
  subst l108 y108 z108
  obtain ⟨h108, e108⟩ : ∃ z, T108.heap = z := ⟨_, rfl⟩
  rw [e108] at hQ108
  obtain ⟨b_108, k2_108, rfl, N108q, Kp108, p108_E_o, p108_F_value_o, p108_F_coder_o, p108_V_b, p108_gh_b⟩ := hQ108
  have Sz5 : h107.size ≤ h108.size := Kp108.1
  have N108 := Fr.app N106 N108q
  obtain ⟨T115, h115, X115, e115, E115, A115, D115, B115, st115⟩ := newO X108 hx hZ hown (wi hw 30 rfl) (wi hw 31 rfl) (wi hw 32 rfl) e108 (g := (mkF mM 32 (Lc_law_no_2 p0 p1 p2 b101 b107) [])) rfl (hb hby at_32) (by decide) (by decide)
  obtain ⟨b115, g115⟩ : ∃ z : Nat, z = h108.size := ⟨_, rfl⟩
  rw [← g115] at A115 D115 B115 st115
  have Sz6 : h108.size ≤ h115.size := E115.1
  have F115_cause : Fld Z h115 b115 "java/lang/Throwable" "cause" "Ljava/lang/Throwable;" .null := D115 (Or.inl (wi hw 55 rfl)) (ty := (.object "java/lang/Throwable")) (by decide)
  have F115_stackTrace : Fld Z h115 b115 "java/lang/Throwable" "stackTrace" "[Ljava/lang/StackTraceElement;" .null := D115 (Or.inl (wi hw 58 rfl)) (ty := (.array (.object "java/lang/StackTraceElement"))) (by decide)
  have F115_suppressedExceptions : Fld Z h115 b115 "java/lang/Throwable" "suppressedExceptions" "Ljava/util/List;" .null := D115 (Or.inl (wi hw 61 rfl)) (ty := (.object "java/util/List")) (by decide)
  have F115_detailMessage : Fld Z h115 b115 "java/lang/Throwable" "detailMessage" "Ljava/lang/String;" .null := D115 (Or.inl (wi hw 85 rfl)) (ty := (.object "java/lang/String")) (by decide)
  have F115_backtrace : Fld Z h115 b115 "java/lang/Throwable" "backtrace" "Ljava/lang/Object;" .null := D115 (Or.inl (wi hw 86 rfl)) (ty := (.object "java/lang/Object")) (by decide)
  have F115_depth : Fld Z h115 b115 "java/lang/Throwable" "depth" "I" (.int (0 : Int32)) := D115 (Or.inl (wi hw 87 rfl)) (ty := .int) (by decide)
  have F115_code : Fld Z h115 b115 "com/example/custode/custode/store/StoreException" "code" "I" (.int (0 : Int32)) := D115 (Or.inr (wi hw 91 rfl)) (ty := .int) (by decide)
  have c117_OL : Old Z n0 h108 := c113_OL.keep Kp108 (allS ge114_b107 all0)
  have c118_OL : Old Z n0 h115 := c117_OL.ext E115
  have c119_TH : ThS Z h101 := ThS.ext E101 TH
  have c120_TH : ThS Z h103 := ThS.wr W103 c119_TH
  have c121_TH : ThS Z h106 := ThS.wr W106 c120_TH
  have c122_TH : ThS Z h107 := ThS.ext E107 c121_TH
  have c123_TH : ThS Z h108 := ThS.keep Kp108 (nsS (Exa.nostat A107) ns0) c122_TH
  have c124_TH : ThS Z h115 := ThS.ext E115 c123_TH
  have ge125_b115 : @LE.le Nat _ n0 b115 := by omega
  obtain ⟨_, _, ⟨T116, L116, k116, n116⟩, -, X116, ⟨Lc116, hQ116, l116, y116, z116⟩, st116⟩ := X115.specialBack hx (y := (⟨"com/example/custode/custode/store/StoreException", "<init>", "(Ljava/lang/String;I)V"⟩ : MethodName)) rfl hown (mvT hZ (wi hw 33 rfl)) (mvT hZ (wi hw 34 rfl)) (mvT hZ (wi hw 35 rfl)) (by decide) (backOfKL (W := 1) (rm_se2 l Z a0 hw [] b115 b107 p0 (.int (0 : Int32)) ua sa .null .null .null .null h115 n0 (by omega) A115 F115_code B115 F115_cause F115_stackTrace F115_suppressedExceptions F115_detailMessage F115_backtrace ge125_b115 c118_OL c124_TH S_UNASSIGNED_STACK S_SUPPRESSED_SENTINEL hl) hZ (wi hw 35 rfl) (wi hw 32 rfl) (by decide) (by decide) hTK hBelow) (g := (mkF mM 39 (Lc_law_no_2 p0 p1 p2 b101 b107) [(.int p0), (.ref b107), (.ref b115), (.ref b115)])) rfl (by rw [hml]; rfl) (Steps.refl _) (a := b115) (argsL := [(.ref b107), (.int p0)]) (rest := [(.ref b115)]) (lenOf pd_6 rfl) rfl (by show 2 * 0 + _ ≤ _; exact Nat.le_of_eq rfl) (hb hby at_39) (fun _ _ => ⟨rfl, e115, Nat.le_of_ble_eq_true rfl, Nat.le_of_ble_eq_true rfl⟩)
  dsimp only [Pt.U, Pt.locs, Pt.cells, Pt.slots] at X116 l116 y116 z116 st116 hQ116
  subst l116 y116 z116
  obtain ⟨h116, e116⟩ : ∃ z, T116.heap = z := ⟨_, rfl⟩
  rw [e116] at hQ116
  obtain ⟨rfl, N116q, Kp116, p116_E_o, p116_F_code_o⟩ := hQ116
  have Sz7 : h115.size ≤ h116.size := Kp116.1
  have N116 := Fr.app N108 N116q
  obtain ⟨cq126, kq126, q126a, q126b, q126c⟩ := isOf hZ e116 p116_E_o
  obtain ⟨_, _, ⟨T126, L126, k126, n126⟩, -, X126, ⟨Lc126, hQ126, l126, y126, z126⟩, st126⟩ := X116.virtualBack hx (y := (⟨"com/example/custode/custode/store/StoreException", "isNotFound", "()Z"⟩ : MethodName)) (z := (⟨"com/example/custode/custode/store/StoreException", "isNotFound", "()Z"⟩ : MethodName)) hown (mvT hZ (wi hw 92 rfl)) (mvT hZ (wi hw 93 rfl)) (notFace_of_selects (args := #[]) (mvT hZ (wi hw 95 rfl))) (mvT hZ (wi hw 95 rfl)) (mvT hZ (wi hw 94 rfl)) (by decide) (backOf (W := 0) (rm_nfn l Z a0 hw [] b115 p0 h116 n0 (by omega) p116_F_code_o hc46) hZ (wi hw 96 rfl) (wi hw 32 rfl) (by decide) (by decide)) q126a q126c (g := (mkF mM 58 (Lc_law_no_4 p0 p1 p2 b101 b107 b115) [(.ref b115)])) rfl (by rw [hml]; rfl) (Steps.refl _) (argsL := []) (rest := []) (lenOf pd_10 rfl) rfl (by show 2 * 0 + _ ≤ _; exact Nat.le_of_eq rfl) (hb hby at_58) (fun _ _ => ⟨rfl, e116, Nat.le_of_ble_eq_true rfl, Nat.le_of_ble_eq_true rfl⟩)
  dsimp only [Pt.U, Pt.locs, Pt.cells, Pt.slots] at X126 l126 y126 z126 st126 hQ126
  subst l126 y126 z126
  obtain ⟨h126, e126⟩ : ∃ z, T126.heap = z := ⟨_, rfl⟩
  rw [e126] at hQ126
  obtain ⟨rfl, N126q, eq126⟩ := hQ126
  rw [eq126] at e126
  have N126 := Fr.app N116 N126q
  obtain ⟨T127, h127, X127, e127, E127, A127, D127, B127, st127⟩ := newO X126 hx hZ hown (wi hw 30 rfl) (wi hw 31 rfl) (wi hw 32 rfl) e126 (g := (mkF mM 73 (Lc_law_no_5 p0 p1 p2 b101 b107 b115) [])) rfl (hb hby at_73) (by decide) (by decide)
  obtain ⟨b127, g127⟩ : ∃ z : Nat, z = h116.size := ⟨_, rfl⟩
  rw [← g127] at A127 D127 B127 st127
  have Sz8 : h116.size ≤ h127.size := E127.1
  have F127_cause : Fld Z h127 b127 "java/lang/Throwable" "cause" "Ljava/lang/Throwable;" .null := D127 (Or.inl (wi hw 55 rfl)) (ty := (.object "java/lang/Throwable")) (by decide)
  have F127_stackTrace : Fld Z h127 b127 "java/lang/Throwable" "stackTrace" "[Ljava/lang/StackTraceElement;" .null := D127 (Or.inl (wi hw 58 rfl)) (ty := (.array (.object "java/lang/StackTraceElement"))) (by decide)
  have F127_suppressedExceptions : Fld Z h127 b127 "java/lang/Throwable" "suppressedExceptions" "Ljava/util/List;" .null := D127 (Or.inl (wi hw 61 rfl)) (ty := (.object "java/util/List")) (by decide)
  have F127_detailMessage : Fld Z h127 b127 "java/lang/Throwable" "detailMessage" "Ljava/lang/String;" .null := D127 (Or.inl (wi hw 85 rfl)) (ty := (.object "java/lang/String")) (by decide)
  have F127_backtrace : Fld Z h127 b127 "java/lang/Throwable" "backtrace" "Ljava/lang/Object;" .null := D127 (Or.inl (wi hw 86 rfl)) (ty := (.object "java/lang/Object")) (by decide)
  have F127_depth : Fld Z h127 b127 "java/lang/Throwable" "depth" "I" (.int (0 : Int32)) := D127 (Or.inl (wi hw 87 rfl)) (ty := .int) (by decide)
  have F127_code : Fld Z h127 b127 "com/example/custode/custode/store/StoreException" "code" "I" (.int (0 : Int32)) := D127 (Or.inr (wi hw 91 rfl)) (ty := .int) (by decide)
  have c129_OL : Old Z n0 h116 := c118_OL.keep Kp116 (allS ge125_b115 all0)
  have c130_OL : Old Z n0 h127 := c129_OL.ext E127
  have c131_TH : ThS Z h116 := ThS.keep Kp116 (nsS (Exa.nostat A115) ns0) c124_TH
  have c132_TH : ThS Z h127 := ThS.ext E127 c131_TH
  have ge133_b127 : @LE.le Nat _ n0 b127 := by omega
  obtain ⟨_, _, ⟨T128, L128, k128, n128⟩, -, X128, ⟨Lc128, hQ128, l128, y128, z128⟩, st128⟩ := X127.specialBack hx (y := (⟨"com/example/custode/custode/store/StoreException", "<init>", "(Ljava/lang/String;)V"⟩ : MethodName)) rfl hown (mvT hZ (wi hw 97 rfl)) (mvT hZ (wi hw 98 rfl)) (mvT hZ (wi hw 99 rfl)) (by decide) (backOfKL (W := 1) (rm_se1 l Z a0 hw [] b127 b107 (.int (0 : Int32)) ua sa .null .null .null .null h127 n0 (by omega) A127 F127_code B127 F127_cause F127_stackTrace F127_suppressedExceptions F127_detailMessage F127_backtrace ge133_b127 c130_OL c132_TH S_UNASSIGNED_STACK S_SUPPRESSED_SENTINEL hl) hZ (wi hw 99 rfl) (wi hw 32 rfl) (by decide) (by decide) hTK hBelow) (g := (mkF mM 79 (Lc_law_no_5 p0 p1 p2 b101 b107 b115) [(.ref b107), (.ref b127), (.ref b127)])) rfl (by rw [hml]; rfl) (Steps.refl _) (a := b127) (argsL := [(.ref b107)]) (rest := [(.ref b127)]) (lenOf pd_7 rfl) rfl (by show 2 * 0 + _ ≤ _; exact Nat.le_of_eq rfl) (hb hby at_79) (fun _ _ => ⟨rfl, e127, Nat.le_of_ble_eq_true rfl, Nat.le_of_ble_eq_true rfl⟩)
  dsimp only [Pt.U, Pt.locs, Pt.cells, Pt.slots] at X128 l128 y128 z128 st128 hQ128
  subst l128 y128 z128
  obtain ⟨h128, e128⟩ : ∃ z, T128.heap = z := ⟨_, rfl⟩
  rw [e128] at hQ128
  obtain ⟨rfl, N128q, Kp128, p128_E_o, p128_F_code_o⟩ := hQ128
  have Sz9 : h127.size ≤ h128.size := Kp128.1
  have N128 := Fr.app N126 N128q
  obtain ⟨cq134, kq134, q134a, q134b, q134c⟩ := isOf hZ e128 p128_E_o
  obtain ⟨_, _, ⟨T134, L134, k134, n134⟩, -, X134, ⟨Lc134, hQ134, l134, y134, z134⟩, st134⟩ := X128.virtualBack hx (y := (⟨"com/example/custode/custode/store/StoreException", "isNotFound", "()Z"⟩ : MethodName)) (z := (⟨"com/example/custode/custode/store/StoreException", "isNotFound", "()Z"⟩ : MethodName)) hown (mvT hZ (wi hw 92 rfl)) (mvT hZ (wi hw 93 rfl)) (notFace_of_selects (args := #[]) (mvT hZ (wi hw 95 rfl))) (mvT hZ (wi hw 95 rfl)) (mvT hZ (wi hw 94 rfl)) (by decide) (backOf (W := 0) (rm_nfn l Z a0 hw [] b127 (0 : Int32) h128 n0 (by omega) p128_F_code_o (by decide)) hZ (wi hw 96 rfl) (wi hw 32 rfl) (by decide) (by decide)) q134a q134c (g := (mkF mM 86 (Lc_law_no_6 p0 p1 p2 b101 b107 b115 b127) [(.ref b127)])) rfl (by rw [hml]; rfl) (Steps.refl _) (argsL := []) (rest := []) (lenOf pd_10 rfl) rfl (by show 2 * 0 + _ ≤ _; exact Nat.le_of_eq rfl) (hb hby at_86) (fun _ _ => ⟨rfl, e128, Nat.le_of_ble_eq_true rfl, Nat.le_of_ble_eq_true rfl⟩)
  dsimp only [Pt.U, Pt.locs, Pt.cells, Pt.slots] at X134 l134 y134 z134 st134 hQ134
  subst l134 y134 z134
  obtain ⟨h134, e134⟩ : ∃ z, T134.heap = z := ⟨_, rfl⟩
  rw [e134] at hQ134
  obtain ⟨rfl, N134q, eq134⟩ := hQ134
  rw [eq134] at e134
  have N134 := Fr.app N128 N134q
  obtain ⟨fs, hr, hrun, hended, hW, hsame⟩ := X134.leave (v := some (.int (1 : Int32))) (fun h => by rw [Bd.returns] at h; cases h)
  refine ⟨_, _, pre0 _ ?_, hrun, hended, _, _, rfl, ?_, ⟨_, rfl⟩, hW, hsame.mono (by decide) (by decide)⟩
  · show SS pP eE belowS s₁ (mkF mM 0 (Lc_law_no_0 p0 p1 p2) []) _
    refine XS.iconst X0.here hx rfl (hb hby at_0) ?_
    show SS pP eE belowS s₁ (mkF mM 1 (Lc_law_no_0 p0 p1 p2) [(.int (2 : Int32))]) _
    refine st101 _ ?_
    show SS pP eE belowS T101 (mkF mM 3 (Lc_law_no_0 p0 p1 p2) [(.ref b101)]) _
    refine XS.astoreN X101.here hx rfl (hb hby at_3) rfl rfl (l' := (Lc_law_no_1 p0 p1 p2 b101)) rfl ?_
    show SS pP eE belowS T101 (mkF mM 4 (Lc_law_no_1 p0 p1 p2 b101) []) _
    refine XS.aloadN X101.here hx rfl (hb hby at_4) rfl rfl ?_
    show SS pP eE belowS T101 (mkF mM 5 (Lc_law_no_1 p0 p1 p2 b101) [(.ref b101)]) _
    refine XS.iconst X101.here hx rfl (hb hby at_5) ?_
    show SS pP eE belowS T101 (mkF mM 6 (Lc_law_no_1 p0 p1 p2 b101) [(.int (0 : Int32)), (.ref b101)]) _
    refine XS.iloadN X101.here hx rfl (hb hby at_6) rfl ?_
    show SS pP eE belowS T101 (mkF mM 7 (Lc_law_no_1 p0 p1 p2 b101) [(.int p1), (.int (0 : Int32)), (.ref b101)]) _
    refine XS.sipush X101.here hx rfl (hb hby at_7) ?_
    show SS pP eE belowS T101 (mkF mM 10 (Lc_law_no_1 p0 p1 p2 b101) [(.int (255 : Int32)), (.int p1), (.int (0 : Int32)), (.ref b101)]) _
    refine XS.iand X101.here hx rfl (hb hby at_10) rfl ?_
    show SS pP eE belowS T101 (mkF mM 11 (Lc_law_no_1 p0 p1 p2 b101) [(.int (p1 &&& (255 : Int32))), (.int (0 : Int32)), (.ref b101)]) _
    refine XS.i2c X101.here hx rfl (hb hby at_11) rfl ?_
    show SS pP eE belowS T101 (mkF mM 12 (Lc_law_no_1 p0 p1 p2 b101) [(.int ((p1 &&& (255 : Int32)).toUInt32.toUInt16.toUInt32.toInt32)), (.int (0 : Int32)), (.ref b101)]) _
    rw [show ((p1 &&& (255 : Int32)).toUInt32.toUInt16.toUInt32.toInt32) = (p1 &&& (255 : Int32)) from i2c_mask p1]
    show SS pP eE belowS T101 (mkF mM 12 (Lc_law_no_1 p0 p1 p2 b101) [(.int (p1 &&& (255 : Int32))), (.int (0 : Int32)), (.ref b101)]) _
    refine st103 _ ?_
    show SS pP eE belowS T103 (mkF mM 13 (Lc_law_no_1 p0 p1 p2 b101) []) _
    refine XS.aloadN X103.here hx rfl (hb hby at_13) rfl rfl ?_
    show SS pP eE belowS T103 (mkF mM 14 (Lc_law_no_1 p0 p1 p2 b101) [(.ref b101)]) _
    refine XS.iconst X103.here hx rfl (hb hby at_14) ?_
    show SS pP eE belowS T103 (mkF mM 15 (Lc_law_no_1 p0 p1 p2 b101) [(.int (1 : Int32)), (.ref b101)]) _
    refine XS.iloadN X103.here hx rfl (hb hby at_15) rfl ?_
    show SS pP eE belowS T103 (mkF mM 16 (Lc_law_no_1 p0 p1 p2 b101) [(.int p2), (.int (1 : Int32)), (.ref b101)]) _
    refine XS.sipush X103.here hx rfl (hb hby at_16) ?_
    show SS pP eE belowS T103 (mkF mM 19 (Lc_law_no_1 p0 p1 p2 b101) [(.int (255 : Int32)), (.int p2), (.int (1 : Int32)), (.ref b101)]) _
    refine XS.iand X103.here hx rfl (hb hby at_19) rfl ?_
    show SS pP eE belowS T103 (mkF mM 20 (Lc_law_no_1 p0 p1 p2 b101) [(.int (p2 &&& (255 : Int32))), (.int (1 : Int32)), (.ref b101)]) _
    refine XS.i2c X103.here hx rfl (hb hby at_20) rfl ?_
    show SS pP eE belowS T103 (mkF mM 21 (Lc_law_no_1 p0 p1 p2 b101) [(.int ((p2 &&& (255 : Int32)).toUInt32.toUInt16.toUInt32.toInt32)), (.int (1 : Int32)), (.ref b101)]) _
    rw [show ((p2 &&& (255 : Int32)).toUInt32.toUInt16.toUInt32.toInt32) = (p2 &&& (255 : Int32)) from i2c_mask p2]
    show SS pP eE belowS T103 (mkF mM 21 (Lc_law_no_1 p0 p1 p2 b101) [(.int (p2 &&& (255 : Int32))), (.int (1 : Int32)), (.ref b101)]) _
    refine st106 _ ?_
    show SS pP eE belowS T106 (mkF mM 22 (Lc_law_no_1 p0 p1 p2 b101) []) _
    refine st107 _ ?_
    show SS pP eE belowS T107 (mkF mM 25 (Lc_law_no_1 p0 p1 p2 b101) [(.ref b107)]) _
    refine XS.dup X107.here hx rfl (hb hby at_25) rfl rfl ?_
    show SS pP eE belowS T107 (mkF mM 26 (Lc_law_no_1 p0 p1 p2 b101) [(.ref b107), (.ref b107)]) _
    refine XS.aloadN X107.here hx rfl (hb hby at_26) rfl rfl ?_
    show SS pP eE belowS T107 (mkF mM 27 (Lc_law_no_1 p0 p1 p2 b101) [(.ref b101), (.ref b107), (.ref b107)]) _
    refine st108.trans ?_
    show SS pP eE belowS T108 (mkF mM 30 (Lc_law_no_1 p0 p1 p2 b101) [(.ref b107)]) _
    refine XS.astore X108.here hx rfl (hb hby at_30) rfl rfl (l' := (Lc_law_no_2 p0 p1 p2 b101 b107)) rfl ?_
    show SS pP eE belowS T108 (mkF mM 32 (Lc_law_no_2 p0 p1 p2 b101 b107) []) _
    refine st115 _ ?_
    show SS pP eE belowS T115 (mkF mM 35 (Lc_law_no_2 p0 p1 p2 b101 b107) [(.ref b115)]) _
    refine XS.dup X115.here hx rfl (hb hby at_35) rfl rfl ?_
    show SS pP eE belowS T115 (mkF mM 36 (Lc_law_no_2 p0 p1 p2 b101 b107) [(.ref b115), (.ref b115)]) _
    refine XS.aload X115.here hx rfl (hb hby at_36) rfl rfl ?_
    show SS pP eE belowS T115 (mkF mM 38 (Lc_law_no_2 p0 p1 p2 b101 b107) [(.ref b107), (.ref b115), (.ref b115)]) _
    refine XS.iloadN X115.here hx rfl (hb hby at_38) rfl ?_
    show SS pP eE belowS T115 (mkF mM 39 (Lc_law_no_2 p0 p1 p2 b101 b107) [(.int p0), (.ref b107), (.ref b115), (.ref b115)]) _
    refine st116.trans ?_
    show SS pP eE belowS T116 (mkF mM 42 (Lc_law_no_2 p0 p1 p2 b101 b107) [(.ref b115)]) _
    refine XS.astore X116.here hx rfl (hb hby at_42) rfl rfl (l' := (Lc_law_no_3 p0 p1 p2 b101 b107 b115)) rfl ?_
    show SS pP eE belowS T116 (mkF mM 44 (Lc_law_no_3 p0 p1 p2 b101 b107 b115) []) _
    refine XS.iloadN X116.here hx rfl (hb hby at_44) rfl ?_
    show SS pP eE belowS T116 (mkF mM 45 (Lc_law_no_3 p0 p1 p2 b101 b107 b115) [(.int p0)]) _
    refine XS.iconst X116.here hx rfl (hb hby at_45) ?_
    show SS pP eE belowS T116 (mkF mM 46 (Lc_law_no_3 p0 p1 p2 b101 b107 b115) [(.int (5 : Int32)), (.int p0)]) _
    refine XS.icmpYes X116.here hx rfl (pc0 := 46) (pc' := 53) rfl (hb hby at_46) rfl (feq hc46).2 (by decide) (by decide) ?_
    show SS pP eE belowS T116 (mkF mM 53 (Lc_law_no_3 p0 p1 p2 b101 b107 b115) []) _
    refine XS.iconst X116.here hx rfl (hb hby at_53) ?_
    show SS pP eE belowS T116 (mkF mM 54 (Lc_law_no_3 p0 p1 p2 b101 b107 b115) [(.int (0 : Int32))]) _
    refine XS.istore X116.here hx rfl (hb hby at_54) rfl (l' := (Lc_law_no_4 p0 p1 p2 b101 b107 b115)) rfl ?_
    show SS pP eE belowS T116 (mkF mM 56 (Lc_law_no_4 p0 p1 p2 b101 b107 b115) []) _
    refine XS.aload X116.here hx rfl (hb hby at_56) rfl rfl ?_
    show SS pP eE belowS T116 (mkF mM 58 (Lc_law_no_4 p0 p1 p2 b101 b107 b115) [(.ref b115)]) _
    refine st126.trans ?_
    show SS pP eE belowS T126 (mkF mM 61 (Lc_law_no_4 p0 p1 p2 b101 b107 b115) [(.int (0 : Int32))]) _
    refine XS.iload X126.here hx rfl (hb hby at_61) rfl ?_
    show SS pP eE belowS T126 (mkF mM 63 (Lc_law_no_4 p0 p1 p2 b101 b107 b115) [(.int (0 : Int32)), (.int (0 : Int32))]) _
    refine XS.icmpNo X126.here hx rfl (hb hby at_63) rfl (teq (by decide : (0 : Int32) = (0 : Int32))).2 ?_
    show SS pP eE belowS T126 (mkF mM 66 (Lc_law_no_4 p0 p1 p2 b101 b107 b115) []) _
    refine XS.iconst X126.here hx rfl (hb hby at_66) ?_
    show SS pP eE belowS T126 (mkF mM 67 (Lc_law_no_4 p0 p1 p2 b101 b107 b115) [(.int (1 : Int32))]) _
    refine XS.goto X126.here hx rfl (pc0 := 67) (pc' := 71) rfl (hb hby at_67) (by decide) (by decide) ?_
    show SS pP eE belowS T126 (mkF mM 71 (Lc_law_no_4 p0 p1 p2 b101 b107 b115) [(.int (1 : Int32))]) _
    refine XS.istore X126.here hx rfl (hb hby at_71) rfl (l' := (Lc_law_no_5 p0 p1 p2 b101 b107 b115)) rfl ?_
    show SS pP eE belowS T126 (mkF mM 73 (Lc_law_no_5 p0 p1 p2 b101 b107 b115) []) _
    refine st127 _ ?_
    show SS pP eE belowS T127 (mkF mM 76 (Lc_law_no_5 p0 p1 p2 b101 b107 b115) [(.ref b127)]) _
    refine XS.dup X127.here hx rfl (hb hby at_76) rfl rfl ?_
    show SS pP eE belowS T127 (mkF mM 77 (Lc_law_no_5 p0 p1 p2 b101 b107 b115) [(.ref b127), (.ref b127)]) _
    refine XS.aload X127.here hx rfl (hb hby at_77) rfl rfl ?_
    show SS pP eE belowS T127 (mkF mM 79 (Lc_law_no_5 p0 p1 p2 b101 b107 b115) [(.ref b107), (.ref b127), (.ref b127)]) _
    refine st128.trans ?_
    show SS pP eE belowS T128 (mkF mM 82 (Lc_law_no_5 p0 p1 p2 b101 b107 b115) [(.ref b127)]) _
    refine XS.astore X128.here hx rfl (hb hby at_82) rfl rfl (l' := (Lc_law_no_6 p0 p1 p2 b101 b107 b115 b127)) rfl ?_
    show SS pP eE belowS T128 (mkF mM 84 (Lc_law_no_6 p0 p1 p2 b101 b107 b115 b127) []) _
    refine XS.aload X128.here hx rfl (hb hby at_84) rfl rfl ?_
    show SS pP eE belowS T128 (mkF mM 86 (Lc_law_no_6 p0 p1 p2 b101 b107 b115 b127) [(.ref b127)]) _
    refine st134.trans ?_
    show SS pP eE belowS T134 (mkF mM 89 (Lc_law_no_6 p0 p1 p2 b101 b107 b115 b127) [(.int (0 : Int32))]) _
    refine XS.ifNo X134.here hx rfl (hb hby at_89) rfl ((if0 _ _).trans (teq (by decide : (0 : Int32) = (0 : Int32))).2) ?_
    show SS pP eE belowS T134 (mkF mM 92 (Lc_law_no_6 p0 p1 p2 b101 b107 b115 b127) []) _
    refine XS.iconst X134.here hx rfl (hb hby at_92) ?_
    show SS pP eE belowS T134 (mkF mM 93 (Lc_law_no_6 p0 p1 p2 b101 b107 b115 b127) [(.int (1 : Int32))]) _
    refine XS.goto X134.here hx rfl (pc0 := 93) (pc' := 97) rfl (hb hby at_93) (by decide) (by decide) ?_
    show SS pP eE belowS T134 (mkF mM 97 (Lc_law_no_6 p0 p1 p2 b101 b107 b115 b127) [(.int (1 : Int32))]) _
    refine XS.istore X134.here hx rfl (hb hby at_97) rfl (l' := (Lc_law_no_7 p0 p1 p2 b101 b107 b115 b127)) rfl ?_
    show SS pP eE belowS T134 (mkF mM 99 (Lc_law_no_7 p0 p1 p2 b101 b107 b115 b127) []) _
    refine XS.iload X134.here hx rfl (hb hby at_99) rfl ?_
    show SS pP eE belowS T134 (mkF mM 101 (Lc_law_no_7 p0 p1 p2 b101 b107 b115 b127) [(.int (1 : Int32))]) _
    refine XS.ifNo X134.here hx rfl (hb hby at_101) rfl ((if0 _ _).trans (feq (by decide : ¬ ((1 : Int32) = (0 : Int32)))).1) ?_
    show SS pP eE belowS T134 (mkF mM 104 (Lc_law_no_7 p0 p1 p2 b101 b107 b115 b127) []) _
    refine XS.iload X134.here hx rfl (hb hby at_104) rfl ?_
    show SS pP eE belowS T134 (mkF mM 106 (Lc_law_no_7 p0 p1 p2 b101 b107 b115 b127) [(.int (1 : Int32))]) _
    refine XS.ifNo X134.here hx rfl (hb hby at_106) rfl ((if0 _ _).trans (feq (by decide : ¬ ((1 : Int32) = (0 : Int32)))).1) ?_
    show SS pP eE belowS T134 (mkF mM 109 (Lc_law_no_7 p0 p1 p2 b101 b107 b115 b127) []) _
    refine XS.iconst X134.here hx rfl (hb hby at_109) ?_
    show SS pP eE belowS T134 (mkF mM 110 (Lc_law_no_7 p0 p1 p2 b101 b107 b115 b127) [(.int (1 : Int32))]) _
    refine XS.goto X134.here hx rfl (pc0 := 110) (pc' := 114) rfl (hb hby at_110) (by decide) (by decide) ?_
    show SS pP eE belowS T134 (mkF mM 114 (Lc_law_no_7 p0 p1 p2 b101 b107 b115 b127) [(.int (1 : Int32))]) _
    exact retN X134 hx (t := .boolean) Bd.returns (by simp) (hb hby at_114) hr
  · exact ⟨rfl, N134⟩
set_option maxRecDepth 65536 in
set_option maxHeartbeats 40000000 in
theorem comes_1 {Post : Tables → Env → Array Value → State → Outcome → State → Prop} (hpost : ∀ tb e args s v u, (limb_1_1.after args s (.returned v) u = true ∧ limb_1_2.after args s (.returned v) u = true ∧ True) → FrameEnd s (.returned v) u (Jvm.fieldLocs frame_1_writes args s ++ Jvm.arrayLocs frame_1_arrays args s ++ Jvm.staticLocs frame_1_statics s) 24 11136 → Post tb e args s (.returned v) u) :
    ArmFor flags0 classFile x code maxLocals ret World_1 tables_1 room_1 Calls_1 rest_1 Pre_1 Post := by
  intro l hfl _ _ p e ha hc hk s m args below hf hA hF happ hP
  obtain ⟨hcalls, hrest, hpre⟩ := hP
  obtain ⟨-, -, -, hnamed, -, -, -, hat⟩ := (Spec.applies_iff hf).mp happ
  obtain ⟨hg, hn⟩ := and_e (Cond.before_iff.mp (show (Jvm.Cond.and given_1 narrow_1).before args s = true from hpre))
  obtain ⟨g1, g2⟩ := and_e hg
  obtain ⟨g3, g4⟩ := and_e g2
  obtain ⟨g5, g6⟩ := and_e g4
  obtain ⟨w0, w1, w2, rfl⟩ : ∃ w0 w1 w2 : Value, args = #[w0, w1, w2] := by
    have hs : args.size = 3 := by simpa [Cond.value, given_1] using g1
    obtain ⟨L⟩ := args
    match L, hs with
    | [w0, w1, w2], _ => exact ⟨w0, w1, w2, rfl⟩
  have hw := fun d (hd : d ∈ tables_1) => atoms_spec (ws := Jvm.Cond.code x code maxLocals ret :: tables_1) hat d (List.mem_cons_of_mem _ hd)
  have hfit : Fit s := fun {y c} hc i hi => by
    obtain ⟨ha, rfl⟩ := Array.getElem?_eq_some_iff.mp hc
    have q := List.all_eq_true.mp ((Array.all_eq_true_iff_forall_mem.mp hF) _ (Array.getElem_mem ha)) i (List.mem_range.mpr hi)
    simpa [Array.getElem?_eq_getElem hi] using q
  obtain ⟨hsets, hown0⟩ := atoms_of _ (rest_1_c_eq ▸ (show rest_1_c.before _ s = true from hrest))
  obtain ⟨i0, ei0⟩ := is_v g3
  obtain rfl : w0 = (.int i0) := Option.some.inj ei0
  obtain ⟨i1, ei1⟩ := is_v g5
  obtain rfl : w1 = (.int i1) := Option.some.inj ei1
  obtain ⟨i2, ei2⟩ := is_v g6
  obtain rfl : w2 = (.int i2) := Option.some.inj ei2
  have hM : MetFree l x (head1 (Jvm.Cond.code x code maxLocals ret :: tables_1) room_1) (fun a U => a = #[(.int i0), (.int i1), (.int i2)] ∧ s.Warmed39 U.vm ∧ U.heap = s.heap) (fun _ _ bl s _ => s.vm.MethodsKnown ∧ s.vm.FramesKnown bl) (fun _ U o U' => ∃ v L, o = .returned v ∧ Q_law s.heap.size v L ∧ FrameEnd U o U' L room_1.cells room_1.slots) := by
    obtain ⟨cs, ecs⟩ := is_v (Cond.before_iff.mp (hsets _ (List.mem_of_getElem? (i := 1) rfl)))
    have hS := Sta.start ecs (Or.inl (hsets _ (List.mem_of_getElem? (i := 0) rfl)))
    have hcs : ¬ (cs = (0 : Int32)) := fun q => by
      have w := not_v (Cond.before_iff.mp (hsets _ (List.mem_of_getElem? (i := 2) rfl)))
      rw [eq_i ecs (Term.int_eval 0) (by rw [q])] at w; cases w
    have hl : l.stackTraces = true := by unfold Launch.stackTraces; rw [hfl]; decide
    obtain ⟨ua, eu⟩ := arr_v (Cond.before_iff.mp (hsets _ (List.mem_of_getElem? (i := 17) rfl)))
    have hU := Sta.start eu (Or.inl (hsets _ (List.mem_of_getElem? (i := 15) rfl)))
    obtain ⟨sa, es⟩ := exa_v (Cond.before_iff.mp (hsets _ (List.mem_of_getElem? (i := 22) rfl)))
    have hV := Sta.start es (Or.inl (hsets _ (List.mem_of_getElem? (i := 20) rfl)))
    by_cases q : i0 = 5
    · subst q; exact rm_law_yes l s _ hw tables_1 i1 i2 cs ua sa s.heap s.heap.size (Nat.le_refl _) (Old.start s) hS hcs ThS.start hU hV hl
    · exact rm_law_no l s _ hw tables_1 i0 i1 i2 cs ua sa s.heap s.heap.size (Nat.le_refl _) (Old.start s) hS hcs ThS.start hU hV hl q
  obtain ⟨n, o, h1, h2, h3, _, L, rfl, ⟨rfl, N⟩, hq⟩ := hM p e ha hc hk s m _ below hf ((Spec.applies_iff_loose hf).mp happ).1 ⟨rfl, State.Warmed39.refl s, rfl⟩ ⟨MethodsKnown_of_tablesKnown hcalls.2.1, FramesKnown_of_framesKnown hcalls.1 hf⟩
  refine ⟨n, _, h1, h2, h3, hpost _ _ _ _ _ _ ⟨Cond.after_iff.mpr rfl, Cond.after_iff.mpr (eq_i res_at (Term.int_eval (1)) rfl), trivial⟩ ⟨hq.1, hq.2.1, (hq.2.2.sift fun y hy => Or.inr (N y hy)).mono (by decide) (by decide)⟩⟩
theorem main_1_1 : Claimed_1_1 := comes_1 fun _ _ _ _ _ _ h hF => ⟨h.1, hF⟩
theorem main_1_2 : Claimed_1_2 := comes_1 fun _ _ _ _ _ _ h hF => ⟨h.2.1, hF⟩
end Jvm.Pilot.@@N@@
namespace Jvm.Pilot.@@N@@
open Jvm Jvm.ClassFile Sem Op Lib Jvm.Free Jvm.Stand Jvm.Pilot.@@N@@.Jvm.D
/-! MADE BY PROGRAM (witnessworld.py) out of the Statement's table words and the real class files: 36 classes; the members and pool entries that the words name. The judged class is class 1, her method 1. -/
namespace start1
open Jvm.ClassFile
def u (s : String) : CpInfo := .utf8 (stringToUtf16 s)
/-- a pool by its gaps: so many unusable entries, then the entry; so many at the end -/
def gap : Nat → List CpInfo → List CpInfo
  | 0, r => r
  | n + 1, r => .unusable :: gap n r
def poolList (es : List (Nat × CpInfo)) (last : Nat) : List CpInfo := es.foldr (fun e r => gap e.1 (e.2 :: r)) (gap last [])
def pool (es : List (Nat × CpInfo)) (last : Nat) : Array CpInfo := ⟨poolList es last⟩
def fileOf (pool : Array CpInfo) (this : Nat) (attrs : Array Attribute := #[]) (ms : Array MethodInfo := #[]) (fl : Nat := 33) (sup : Nat := 0) (ifs : Array Nat := #[]) (fds : Array FieldInfo := #[]) : ClassFile where
  minorVersion := 0
  majorVersion := 65
  constantPool := pool
  accessFlags := fl
  thisClass := this
  superClass := sup
  interfaces := ifs
  fields := fds
  methods := ms
  attributes := attrs
def plain (name : String) (sup : Option ClassId) : Class where
  name := name
  kind := .ordinary
  loader := none
  accessFlags := 33
  super := sup
  interfaces := #[]
  cf := none
  fields := #[]
  methods := #[]
  instanceTypes := #[]
  staticTypes := #[]
  resolved := #[]
  callSites := []
  init := .initialized
  statics := none
  mirror := none

def pool0 : Array CpInfo := pool [(5, u "<init>"), (0, u "()V"), (1, .class_ 10), (1, u "java/lang/Object")] 113

def k0c0 : Code := { maxStack := 0, maxLocals := 1, code := object_method_1_code, exceptionTable := #[], attributes := #[] }
def k0m0 : Method := { name := "<init>", desc := "()V", sig := { parameters := [], returnType := none }, accessFlags := 1, code := some k0c0 }
/-- java/lang/Object -/
def k0 : Class := { plain "java/lang/Object" none with
  accessFlags := 33
  interfaces := #[]
  cf := some (fileOf pool0 8 #[] #[{ accessFlags := 1, nameIndex := 5, descriptorIndex := 6, attributes := #[] }] 33 0 #[] #[])
  fields := #[]
  methods := #[k0m0]
  instanceTypes := #[]
  staticTypes := #[]
  resolved := Array.replicate 124 none
  statics := none }

def pool1 : Array CpInfo := pool [(2, .class_ 4), (1, u "java/lang/Object"), (0, u "<init>"), (0, u "()V"), (0, .class_ 8), (0, u "java/lang/String"), (0, .methodref 7 10), (0, .nameAndType 5 11), (0, u "([C)V"), (0, .class_ 13), (0, u "com/example/custode/custode/store/StoreException"), (0, .methodref 12 15), (0, .nameAndType 5 16), (0, u "(Ljava/lang/String;I)V"), (0, .methodref 12 18), (0, .nameAndType 19 20), (0, u "isNotFound"), (0, u "()Z"), (0, .methodref 12 22), (0, .nameAndType 5 23), (0, u "(Ljava/lang/String;)V"), (0, .class_ 25), (0, u "com/example/custode/custode/store/StoreExceptionIsNotFoundPinLaw"), (2, u "law"), (0, u "(III)Z")] 5

def k1m0 : Method := { name := "<init>", desc := "()V", sig := { parameters := [], returnType := none }, accessFlags := 1, code := none }
def k1c1 : Code := { maxStack := 4, maxLocals := 10, code := code, exceptionTable := #[], attributes := #[] }
def k1m1 : Method := { name := "law", desc := "(III)Z", sig := { parameters := [.int, .int, .int], returnType := some .boolean }, accessFlags := 9, code := some k1c1 }
/-- com/example/custode/custode/store/StoreExceptionIsNotFoundPinLaw -/
def k1 : Class := { plain "com/example/custode/custode/store/StoreExceptionIsNotFoundPinLaw" (some 0) with
  accessFlags := 49
  interfaces := #[]
  cf := some (fileOf pool1 24 #[] #[{ accessFlags := 1, nameIndex := 5, descriptorIndex := 6, attributes := #[] }, { accessFlags := 9, nameIndex := 28, descriptorIndex := 29, attributes := #[] }] 49 2 #[] #[])
  fields := #[]
  methods := #[k1m0, k1m1]
  instanceTypes := #[]
  staticTypes := #[]
  resolved := Array.replicate 35 none
  statics := none }

def pool2 : Array CpInfo := pool [(1, .class_ 2), (0, u "java/io/Serializable"), (0, .class_ 4), (0, u "java/lang/Object")] 2

/-- java/io/Serializable -/
def k2 : Class := { plain "java/io/Serializable" (some 0) with
  accessFlags := 1537
  interfaces := #[]
  cf := some (fileOf pool2 1 #[] #[] 1537 3 #[] #[])
  fields := #[]
  methods := #[]
  instanceTypes := #[]
  staticTypes := #[]
  resolved := Array.replicate 7 none
  statics := none }

def pool3 : Array CpInfo := pool [(1, .class_ 2), (0, u "java/lang/Comparable"), (0, .class_ 4), (0, u "java/lang/Object")] 7

/-- java/lang/Comparable -/
def k3 : Class := { plain "java/lang/Comparable" (some 0) with
  accessFlags := 1537
  interfaces := #[]
  cf := some (fileOf pool3 1 #[] #[] 1537 3 #[] #[])
  fields := #[]
  methods := #[]
  instanceTypes := #[]
  staticTypes := #[]
  resolved := Array.replicate 12 none
  statics := none }

def pool4 : Array CpInfo := pool [(2, .class_ 4), (1, u "java/lang/CharSequence"), (42, .class_ 48), (0, u "java/lang/CharSequence$1CodePointIterator"), (10, .class_ 60), (0, u "java/lang/CharSequence$1CharIterator"), (5, .class_ 67), (0, u "java/lang/Object")] 63

/-- java/lang/CharSequence -/
def k4 : Class := { plain "java/lang/CharSequence" (some 0) with
  accessFlags := 1537
  interfaces := #[]
  cf := some (fileOf pool4 2 #[.nestMembers #[47, 59]] #[] 1537 66 #[] #[])
  fields := #[]
  methods := #[]
  instanceTypes := #[]
  staticTypes := #[]
  resolved := Array.replicate 131 none
  statics := none }

def pool5 : Array CpInfo := pool [(1, .class_ 2), (0, u "java/lang/constant/Constable"), (0, .class_ 4), (0, u "java/lang/Object")] 6

/-- java/lang/constant/Constable -/
def k5 : Class := { plain "java/lang/constant/Constable" (some 0) with
  accessFlags := 1537
  interfaces := #[]
  cf := some (fileOf pool5 1 #[] #[] 1537 3 #[] #[])
  fields := #[]
  methods := #[]
  instanceTypes := #[]
  staticTypes := #[]
  resolved := Array.replicate 11 none
  statics := none }

def pool6 : Array CpInfo := pool [(1, .class_ 2), (0, u "java/lang/constant/ConstantDesc"), (0, .class_ 4), (0, u "java/lang/Object")] 32

/-- java/lang/constant/ConstantDesc -/
def k6 : Class := { plain "java/lang/constant/ConstantDesc" (some 0) with
  accessFlags := 1537
  interfaces := #[]
  cf := some (fileOf pool6 1 #[] #[] 1537 3 #[] #[])
  fields := #[]
  methods := #[]
  instanceTypes := #[]
  staticTypes := #[]
  resolved := Array.replicate 37 none
  statics := none }

def pool7 : Array CpInfo := pool [(1, .methodref 2 3), (0, .class_ 4), (0, .nameAndType 5 6), (0, u "java/lang/Object"), (0, u "<init>"), (0, u "()V"), (2, .fieldref 10 11), (0, .class_ 12), (0, .nameAndType 13 14), (0, u "java/lang/String"), (0, u "value"), (0, u "[B"), (0, .fieldref 10 16), (0, .nameAndType 17 18), (0, u "coder"), (0, u "B"), (2, u "hash"), (0, u "I"), (2, u "hashIsZero"), (0, u "Z"), (0, .methodref 10 28), (0, .nameAndType 5 29), (0, u "([CIILjava/lang/Void;)V"), (8, .fieldref 10 39), (0, .nameAndType 40 26), (0, u "COMPACT_STRINGS"), (1, .class_ 44), (1, u "java/lang/StringUTF16"), (0, u "compress"), (1, .methodref 42 48), (0, .nameAndType 49 50), (0, u "coderFromArrayLen"), (0, u "([BI)B"), (126, .methodref 42 178), (0, .nameAndType 45 179), (0, u "([CII)[B"), (395, .class_ 576), (0, u "java/lang/CharSequence"), (22, u "CASE_INSENSITIVE_ORDER"), (0, u "Ljava/util/Comparator;"), (409, u "([C)V"), (90, u "serialPersistentFields"), (0, u "[Ljava/io/ObjectStreamField;"), (0, .class_ 1104), (0, u "java/lang/String$CaseInsensitiveComparator"), (1, .class_ 1107), (0, u "java/io/Serializable"), (0, .class_ 1109), (0, u "java/lang/Comparable"), (0, .class_ 1111), (0, u "java/lang/constant/Constable"), (0, .class_ 1113), (0, u "java/lang/constant/ConstantDesc"), (2, u "serialVersionUID"), (0, u "J"), (3, u "REPL"), (0, u "C"), (2, u "LATIN1"), (1, u "UTF16")] 323

def k7m0 : Method := { name := "<init>", desc := "()V", sig := { parameters := [], returnType := none }, accessFlags := 1, code := none }
def k7c1 : Code := { maxStack := 5, maxLocals := 2, code := jdk_42_method_3_code, exceptionTable := #[], attributes := #[] }
def k7m1 : Method := { name := "<init>", desc := "([C)V", sig := { parameters := [(.array .char)], returnType := none }, accessFlags := 1, code := some k7c1 }
def k7c2 : Code := { maxStack := 4, maxLocals := 6, code := jdk_42_method_149_code, exceptionTable := #[], attributes := #[] }
def k7m2 : Method := { name := "<init>", desc := "([CIILjava/lang/Void;)V", sig := { parameters := [(.array .char), .int, .int, (.object "java/lang/Void")], returnType := none }, accessFlags := 2, code := some k7c2 }
/-- java/lang/String -/
def k7 : Class := { plain "java/lang/String" (some 0) with
  accessFlags := 49
  interfaces := #[2, 3, 4, 5, 6]
  cf := some (fileOf pool7 10 #[.nestMembers #[1103]] #[{ accessFlags := 1, nameIndex := 5, descriptorIndex := 6, attributes := #[] }, { accessFlags := 1, nameIndex := 5, descriptorIndex := 1010, attributes := #[] }, { accessFlags := 2, nameIndex := 5, descriptorIndex := 29, attributes := #[] }] 49 2 #[1106, 1108, 575, 1110, 1112] #[{ accessFlags := 18, nameIndex := 13, descriptorIndex := 14, attributes := #[] }, { accessFlags := 18, nameIndex := 17, descriptorIndex := 18, attributes := #[] }, { accessFlags := 2, nameIndex := 21, descriptorIndex := 22, attributes := #[] }, { accessFlags := 2, nameIndex := 25, descriptorIndex := 26, attributes := #[] }, { accessFlags := 26, nameIndex := 1116, descriptorIndex := 1117, attributes := #[] }, { accessFlags := 24, nameIndex := 40, descriptorIndex := 26, attributes := #[] }, { accessFlags := 26, nameIndex := 1101, descriptorIndex := 1102, attributes := #[] }, { accessFlags := 26, nameIndex := 1121, descriptorIndex := 1122, attributes := #[] }, { accessFlags := 25, nameIndex := 599, descriptorIndex := 600, attributes := #[] }, { accessFlags := 24, nameIndex := 1125, descriptorIndex := 18, attributes := #[] }, { accessFlags := 24, nameIndex := 1127, descriptorIndex := 18, attributes := #[] }])
  fields := #[{ name := "value", type := (.array .byte), accessFlags := 18, slot := 0, constantValue := 0 }, { name := "coder", type := .byte, accessFlags := 18, slot := 1, constantValue := 0 }, { name := "hash", type := .int, accessFlags := 2, slot := 2, constantValue := 0 }, { name := "hashIsZero", type := .boolean, accessFlags := 2, slot := 3, constantValue := 0 }, { name := "serialVersionUID", type := .long, accessFlags := 26, slot := 0, constantValue := 0 }, { name := "COMPACT_STRINGS", type := .boolean, accessFlags := 24, slot := 1, constantValue := 0 }, { name := "serialPersistentFields", type := (.array (.object "java/io/ObjectStreamField")), accessFlags := 26, slot := 2, constantValue := 0 }, { name := "REPL", type := .char, accessFlags := 26, slot := 3, constantValue := 0 }, { name := "CASE_INSENSITIVE_ORDER", type := (.object "java/util/Comparator"), accessFlags := 25, slot := 4, constantValue := 0 }, { name := "LATIN1", type := .byte, accessFlags := 24, slot := 5, constantValue := 0 }, { name := "UTF16", type := .byte, accessFlags := 24, slot := 6, constantValue := 0 }]
  methods := #[k7m0, k7m1, k7m2]
  instanceTypes := #[(.array .byte), .byte, .int, .boolean]
  staticTypes := #[.long, .boolean, (.array (.object "java/io/ObjectStreamField")), .char, (.object "java/util/Comparator"), .byte, .byte]
  resolved := Array.replicate 1451 none
  statics := some 0 }

def pool8 : Array CpInfo := pool [(6, .class_ 8), (1, u "java/lang/Object"), (0, u "<init>"), (0, u "()V"), (1, .class_ 14), (1, u "java/lang/StringUTF16"), (31, u "$assertionsDisabled"), (0, u "Z"), (13, u "HI_BYTE_SHIFT"), (0, u "I"), (2, u "LO_BYTE_SHIFT"), (49, .methodref 12 116), (0, .nameAndType 117 118), (0, u "compress"), (0, u "([CI[BII)I"), (3, u "([CII)[B"), (138, u "coderFromArrayLen"), (0, u "([BI)B"), (106, .class_ 371), (1, u "java/lang/StringUTF16$LinesSpliterator"), (58, u "MAX_LENGTH"), (196, .class_ 628), (0, u "java/lang/StringUTF16$CodePointsSpliterator"), (0, .class_ 630), (0, u "java/lang/StringUTF16$CharsSpliterator")] 4

def k8m0 : Method := { name := "<init>", desc := "()V", sig := { parameters := [], returnType := none }, accessFlags := 0, code := none }
def k8c1 : Code := { maxStack := 2, maxLocals := 2, code := jdk_52_method_15_code, exceptionTable := #[], attributes := #[] }
def k8m1 : Method := { name := "coderFromArrayLen", desc := "([BI)B", sig := { parameters := [(.array .byte), .int], returnType := some .byte }, accessFlags := 8, code := some k8c1 }
def k8c2 : Code := { maxStack := 5, maxLocals := 6, code := jdk_52_method_16_code, exceptionTable := #[], attributes := #[] }
def k8m2 : Method := { name := "compress", desc := "([CII)[B", sig := { parameters := [(.array .char), .int, .int], returnType := some (.array .byte) }, accessFlags := 9, code := some k8c2 }
def k8c3 : Code := { maxStack := 3, maxLocals := 7, code := jdk_52_method_21_code, exceptionTable := #[], attributes := #[] }
def k8m3 : Method := { name := "compress", desc := "([CI[BII)I", sig := { parameters := [(.array .char), .int, (.array .byte), .int, .int], returnType := some .int }, accessFlags := 9, code := some k8c3 }
/-- java/lang/StringUTF16 -/
def k8 : Class := { plain "java/lang/StringUTF16" (some 0) with
  accessFlags := 48
  interfaces := #[]
  cf := some (fileOf pool8 12 #[.nestMembers #[627, 629, 369]] #[{ accessFlags := 0, nameIndex := 9, descriptorIndex := 10, attributes := #[] }, { accessFlags := 8, nameIndex := 261, descriptorIndex := 262, attributes := #[] }, { accessFlags := 9, nameIndex := 117, descriptorIndex := 122, attributes := #[] }, { accessFlags := 9, nameIndex := 117, descriptorIndex := 118, attributes := #[] }] 48 6 #[] #[{ accessFlags := 26, nameIndex := 61, descriptorIndex := 62, attributes := #[] }, { accessFlags := 26, nameIndex := 65, descriptorIndex := 62, attributes := #[] }, { accessFlags := 24, nameIndex := 430, descriptorIndex := 62, attributes := #[] }, { accessFlags := 4120, nameIndex := 46, descriptorIndex := 47, attributes := #[] }])
  fields := #[{ name := "HI_BYTE_SHIFT", type := .int, accessFlags := 26, slot := 0, constantValue := 0 }, { name := "LO_BYTE_SHIFT", type := .int, accessFlags := 26, slot := 1, constantValue := 0 }, { name := "MAX_LENGTH", type := .int, accessFlags := 24, slot := 2, constantValue := 0 }, { name := "$assertionsDisabled", type := .boolean, accessFlags := 4120, slot := 3, constantValue := 0 }]
  methods := #[k8m0, k8m1, k8m2, k8m3]
  instanceTypes := #[]
  staticTypes := #[.int, .int, .int, .boolean]
  resolved := Array.replicate 635 none
  statics := none }

def pool9 : Array CpInfo := pool [(1, .methodref 2 3), (0, .class_ 4), (0, .nameAndType 5 6), (0, u "java/lang/Object"), (0, u "<init>"), (0, u "()V"), (0, .fieldref 8 9), (0, .class_ 10), (0, .nameAndType 11 12), (0, u "java/lang/Throwable"), (0, u "cause"), (0, u "Ljava/lang/Throwable;"), (0, .fieldref 8 14), (0, .nameAndType 15 16), (0, u "UNASSIGNED_STACK"), (0, u "[Ljava/lang/StackTraceElement;"), (0, .fieldref 8 18), (0, .nameAndType 19 16), (0, u "stackTrace"), (0, .fieldref 8 21), (0, .nameAndType 22 23), (0, u "SUPPRESSED_SENTINEL"), (0, u "Ljava/util/List;"), (0, .fieldref 8 25), (0, .nameAndType 26 23), (0, u "suppressedExceptions"), (0, .methodref 8 28), (0, .nameAndType 29 30), (0, u "fillInStackTrace"), (0, u "()Ljava/lang/Throwable;"), (0, .fieldref 8 32), (0, .nameAndType 33 34), (0, u "detailMessage"), (0, u "Ljava/lang/String;"), (58, .class_ 94), (0, u "java/lang/Throwable$WrappedPrintStream"), (6, .class_ 103), (1, u "java/lang/Throwable$PrintStreamOrWriter"), (61, u "$assertionsDisabled"), (0, u "Z"), (26, .class_ 194), (0, u "java/lang/Throwable$WrappedPrintWriter"), (3, .fieldref 8 199), (0, .nameAndType 200 201), (0, u "backtrace"), (0, u "Ljava/lang/Object;"), (0, .methodref 8 203), (0, .nameAndType 29 204), (0, u "(I)Ljava/lang/Throwable;"), (6, u "depth"), (0, u "I"), (10, u "(Ljava/lang/String;)V"), (45, .class_ 271), (1, u "java/lang/Throwable$SentinelHolder"), (32, u "EMPTY_THROWABLE_ARRAY"), (0, u "[Ljava/lang/Throwable;"), (12, .class_ 319), (0, u "java/io/Serializable"), (0, u "serialVersionUID"), (0, u "J"), (5, u "NULL_CAUSE_MESSAGE"), (0, u "SELF_SUPPRESSION_MESSAGE"), (0, u "CAUSE_CAPTION"), (0, u "SUPPRESSED_CAPTION")] 73

def k9c0 : Code := { maxStack := 2, maxLocals := 1, code := jdk_78_method_1_code, exceptionTable := #[], attributes := #[] }
def k9m0 : Method := { name := "<init>", desc := "()V", sig := { parameters := [], returnType := none }, accessFlags := 1, code := some k9c0 }
def k9c1 : Code := { maxStack := 2, maxLocals := 2, code := jdk_78_method_2_code, exceptionTable := #[], attributes := #[] }
def k9m1 : Method := { name := "<init>", desc := "(Ljava/lang/String;)V", sig := { parameters := [(.object "java/lang/String")], returnType := none }, accessFlags := 1, code := some k9c1 }
def k9c2 : Code := { maxStack := 2, maxLocals := 1, code := ⟨#[0x2a, 0xb4, 0x00, 0x11, 0xc7, 0x00, 0x0a, 0x2a, 0xb4, 0x00, 0xc6, 0xc6, 0x00, 0x10, 0x2a, 0x03, 0xb6, 0x00, 0xca, 0x57, 0x2a, 0xb2, 0x00, 0x0d, 0xb5, 0x00, 0x11, 0x2a, 0xb0]⟩, exceptionTable := #[], attributes := #[] }
def k9m2 : Method := { name := "fillInStackTrace", desc := "()Ljava/lang/Throwable;", sig := { parameters := [], returnType := some (.object "java/lang/Throwable") }, accessFlags := 33, code := some k9c2 }
def k9m3 : Method := { name := "fillInStackTrace", desc := "(I)Ljava/lang/Throwable;", sig := { parameters := [.int], returnType := some (.object "java/lang/Throwable") }, accessFlags := 258, code := none }
/-- java/lang/Throwable -/
def k9 : Class := { plain "java/lang/Throwable" (some 0) with
  accessFlags := 33
  interfaces := #[2]
  cf := some (fileOf pool9 8 #[.nestMembers #[193, 93, 101, 269]] #[{ accessFlags := 1, nameIndex := 5, descriptorIndex := 6, attributes := #[] }, { accessFlags := 1, nameIndex := 5, descriptorIndex := 223, attributes := #[] }, { accessFlags := 33, nameIndex := 29, descriptorIndex := 30, attributes := #[] }, { accessFlags := 258, nameIndex := 29, descriptorIndex := 204, attributes := #[] }] 33 2 #[318] #[{ accessFlags := 26, nameIndex := 320, descriptorIndex := 321, attributes := #[] }, { accessFlags := 130, nameIndex := 200, descriptorIndex := 201, attributes := #[] }, { accessFlags := 2, nameIndex := 33, descriptorIndex := 34, attributes := #[] }, { accessFlags := 26, nameIndex := 15, descriptorIndex := 16, attributes := #[] }, { accessFlags := 2, nameIndex := 11, descriptorIndex := 12, attributes := #[] }, { accessFlags := 2, nameIndex := 19, descriptorIndex := 16, attributes := #[] }, { accessFlags := 130, nameIndex := 211, descriptorIndex := 212, attributes := #[] }, { accessFlags := 26, nameIndex := 22, descriptorIndex := 23, attributes := #[] }, { accessFlags := 2, nameIndex := 26, descriptorIndex := 23, attributes := #[] }, { accessFlags := 26, nameIndex := 327, descriptorIndex := 34, attributes := #[] }, { accessFlags := 26, nameIndex := 328, descriptorIndex := 34, attributes := #[] }, { accessFlags := 26, nameIndex := 329, descriptorIndex := 34, attributes := #[] }, { accessFlags := 26, nameIndex := 330, descriptorIndex := 34, attributes := #[] }, { accessFlags := 26, nameIndex := 304, descriptorIndex := 305, attributes := #[] }, { accessFlags := 4120, nameIndex := 165, descriptorIndex := 166, attributes := #[] }])
  fields := #[{ name := "serialVersionUID", type := .long, accessFlags := 26, slot := 0, constantValue := 0 }, { name := "backtrace", type := (.object "java/lang/Object"), accessFlags := 130, slot := 0, constantValue := 0 }, { name := "detailMessage", type := (.object "java/lang/String"), accessFlags := 2, slot := 1, constantValue := 0 }, { name := "UNASSIGNED_STACK", type := (.array (.object "java/lang/StackTraceElement")), accessFlags := 26, slot := 1, constantValue := 0 }, { name := "cause", type := (.object "java/lang/Throwable"), accessFlags := 2, slot := 2, constantValue := 0 }, { name := "stackTrace", type := (.array (.object "java/lang/StackTraceElement")), accessFlags := 2, slot := 3, constantValue := 0 }, { name := "depth", type := .int, accessFlags := 130, slot := 4, constantValue := 0 }, { name := "SUPPRESSED_SENTINEL", type := (.object "java/util/List"), accessFlags := 26, slot := 2, constantValue := 0 }, { name := "suppressedExceptions", type := (.object "java/util/List"), accessFlags := 2, slot := 5, constantValue := 0 }, { name := "NULL_CAUSE_MESSAGE", type := (.object "java/lang/String"), accessFlags := 26, slot := 3, constantValue := 0 }, { name := "SELF_SUPPRESSION_MESSAGE", type := (.object "java/lang/String"), accessFlags := 26, slot := 4, constantValue := 0 }, { name := "CAUSE_CAPTION", type := (.object "java/lang/String"), accessFlags := 26, slot := 5, constantValue := 0 }, { name := "SUPPRESSED_CAPTION", type := (.object "java/lang/String"), accessFlags := 26, slot := 6, constantValue := 0 }, { name := "EMPTY_THROWABLE_ARRAY", type := (.array (.object "java/lang/Throwable")), accessFlags := 26, slot := 7, constantValue := 0 }, { name := "$assertionsDisabled", type := .boolean, accessFlags := 4120, slot := 8, constantValue := 0 }]
  methods := #[k9m0, k9m1, k9m2, k9m3]
  instanceTypes := #[(.object "java/lang/Object"), (.object "java/lang/String"), (.object "java/lang/Throwable"), (.array (.object "java/lang/StackTraceElement")), .int, (.object "java/util/List")]
  staticTypes := #[.long, (.array (.object "java/lang/StackTraceElement")), (.object "java/util/List"), (.object "java/lang/String"), (.object "java/lang/String"), (.object "java/lang/String"), (.object "java/lang/String"), (.array (.object "java/lang/Throwable")), .boolean]
  resolved := Array.replicate 404 none
  statics := some 1 }

def pool10 : Array CpInfo := pool [(2, .class_ 4), (1, u "java/lang/Throwable"), (0, u "<init>"), (0, u "()V"), (0, .methodref 2 8), (0, .nameAndType 5 9), (0, u "(Ljava/lang/String;)V"), (9, .class_ 20), (0, u "java/lang/Exception"), (0, u "serialVersionUID"), (0, u "J")] 17

def k10m0 : Method := { name := "<init>", desc := "()V", sig := { parameters := [], returnType := none }, accessFlags := 1, code := none }
def k10c1 : Code := { maxStack := 2, maxLocals := 2, code := jdk_59_method_2_code, exceptionTable := #[], attributes := #[] }
def k10m1 : Method := { name := "<init>", desc := "(Ljava/lang/String;)V", sig := { parameters := [(.object "java/lang/String")], returnType := none }, accessFlags := 1, code := some k10c1 }
/-- java/lang/Exception -/
def k10 : Class := { plain "java/lang/Exception" (some 9) with
  accessFlags := 33
  interfaces := #[]
  cf := some (fileOf pool10 19 #[] #[{ accessFlags := 1, nameIndex := 5, descriptorIndex := 6, attributes := #[] }, { accessFlags := 1, nameIndex := 5, descriptorIndex := 9, attributes := #[] }] 33 2 #[] #[{ accessFlags := 24, nameIndex := 21, descriptorIndex := 22, attributes := #[] }])
  fields := #[{ name := "serialVersionUID", type := .long, accessFlags := 24, slot := 0, constantValue := 0 }]
  methods := #[k10m0, k10m1]
  instanceTypes := #[(.object "java/lang/Object"), (.object "java/lang/String"), (.object "java/lang/Throwable"), (.array (.object "java/lang/StackTraceElement")), .int, (.object "java/util/List")]
  staticTypes := #[.long]
  resolved := Array.replicate 40 none
  statics := none }

def pool11 : Array CpInfo := pool [(2, .class_ 4), (1, u "java/lang/Exception"), (0, u "<init>"), (0, u "()V"), (0, .methodref 2 8), (0, .nameAndType 5 9), (0, u "(Ljava/lang/String;)V"), (9, .class_ 20), (0, u "java/lang/RuntimeException"), (0, u "serialVersionUID"), (0, u "J")] 17

def k11m0 : Method := { name := "<init>", desc := "()V", sig := { parameters := [], returnType := none }, accessFlags := 1, code := none }
def k11c1 : Code := { maxStack := 2, maxLocals := 2, code := jdk_58_method_2_code, exceptionTable := #[], attributes := #[] }
def k11m1 : Method := { name := "<init>", desc := "(Ljava/lang/String;)V", sig := { parameters := [(.object "java/lang/String")], returnType := none }, accessFlags := 1, code := some k11c1 }
/-- java/lang/RuntimeException -/
def k11 : Class := { plain "java/lang/RuntimeException" (some 10) with
  accessFlags := 33
  interfaces := #[]
  cf := some (fileOf pool11 19 #[] #[{ accessFlags := 1, nameIndex := 5, descriptorIndex := 6, attributes := #[] }, { accessFlags := 1, nameIndex := 5, descriptorIndex := 9, attributes := #[] }] 33 2 #[] #[{ accessFlags := 24, nameIndex := 21, descriptorIndex := 22, attributes := #[] }])
  fields := #[{ name := "serialVersionUID", type := .long, accessFlags := 24, slot := 0, constantValue := 0 }]
  methods := #[k11m0, k11m1]
  instanceTypes := #[(.object "java/lang/Object"), (.object "java/lang/String"), (.object "java/lang/Throwable"), (.array (.object "java/lang/StackTraceElement")), .int, (.object "java/util/List")]
  staticTypes := #[.long]
  resolved := Array.replicate 40 none
  statics := none }

def pool12 : Array CpInfo := pool [(2, .class_ 4), (1, u "java/lang/RuntimeException"), (0, u "<init>"), (1, .fieldref 8 9), (0, .class_ 10), (0, .nameAndType 11 12), (0, u "com/example/custode/custode/store/StoreException"), (0, u "code"), (0, u "I"), (0, .methodref 8 14), (0, .nameAndType 5 15), (0, u "(Ljava/lang/String;I)V"), (0, .methodref 2 17), (0, .nameAndType 5 18), (0, u "(Ljava/lang/String;)V"), (0, u "serialVersionUID"), (0, u "J"), (3, u "NOT_FOUND"), (3, u "isNotFound"), (0, u "()Z")] 3

def k12c0 : Code := { maxStack := 3, maxLocals := 2, code := prog_57_method_2_code, exceptionTable := #[], attributes := #[] }
def k12m0 : Method := { name := "<init>", desc := "(Ljava/lang/String;)V", sig := { parameters := [(.object "java/lang/String")], returnType := none }, accessFlags := 0, code := some k12c0 }
def k12c1 : Code := { maxStack := 2, maxLocals := 3, code := prog_57_method_3_code, exceptionTable := #[], attributes := #[] }
def k12m1 : Method := { name := "<init>", desc := "(Ljava/lang/String;I)V", sig := { parameters := [(.object "java/lang/String"), .int], returnType := none }, accessFlags := 0, code := some k12c1 }
def k12c2 : Code := { maxStack := 2, maxLocals := 1, code := prog_57_method_4_code, exceptionTable := #[], attributes := #[] }
def k12m2 : Method := { name := "isNotFound", desc := "()Z", sig := { parameters := [], returnType := some .boolean }, accessFlags := 1, code := some k12c2 }
/-- com/example/custode/custode/store/StoreException -/
def k12 : Class := { plain "com/example/custode/custode/store/StoreException" (some 11) with
  accessFlags := 49
  interfaces := #[]
  cf := some (fileOf pool12 8 #[] #[{ accessFlags := 0, nameIndex := 5, descriptorIndex := 18, attributes := #[] }, { accessFlags := 0, nameIndex := 5, descriptorIndex := 15, attributes := #[] }, { accessFlags := 1, nameIndex := 28, descriptorIndex := 29, attributes := #[] }] 49 2 #[] #[{ accessFlags := 26, nameIndex := 19, descriptorIndex := 20, attributes := #[] }, { accessFlags := 26, nameIndex := 24, descriptorIndex := 12, attributes := #[] }, { accessFlags := 18, nameIndex := 11, descriptorIndex := 12, attributes := #[] }])
  fields := #[{ name := "serialVersionUID", type := .long, accessFlags := 26, slot := 0, constantValue := 0 }, { name := "NOT_FOUND", type := .int, accessFlags := 26, slot := 1, constantValue := 0 }, { name := "code", type := .int, accessFlags := 18, slot := 6, constantValue := 0 }]
  methods := #[k12m0, k12m1, k12m2]
  instanceTypes := #[(.object "java/lang/Object"), (.object "java/lang/String"), (.object "java/lang/Throwable"), (.array (.object "java/lang/StackTraceElement")), .int, (.object "java/util/List"), .int]
  staticTypes := #[.long, .int]
  resolved := Array.replicate 33 none
  statics := none }

def pool13 : Array CpInfo := pool [(4, .class_ 6), (1, u "java/lang/Object"), (0, u "<init>"), (0, u "()V"), (5, .class_ 16), (1, u "java/lang/StringLatin1"), (104, u "$assertionsDisabled"), (0, u "Z"), (98, .class_ 223), (1, u "java/lang/StringLatin1$LinesSpliterator"), (166, .class_ 391), (0, u "java/lang/StringLatin1$CharsSpliterator")] 3

def k13m0 : Method := { name := "<init>", desc := "()V", sig := { parameters := [], returnType := none }, accessFlags := 0, code := none }
/-- java/lang/StringLatin1 -/
def k13 : Class := { plain "java/lang/StringLatin1" (some 0) with
  accessFlags := 48
  interfaces := #[]
  cf := some (fileOf pool13 14 #[.nestMembers #[390, 221]] #[{ accessFlags := 0, nameIndex := 7, descriptorIndex := 8, attributes := #[] }] 48 4 #[] #[{ accessFlags := 4120, nameIndex := 121, descriptorIndex := 122, attributes := #[] }])
  fields := #[{ name := "$assertionsDisabled", type := .boolean, accessFlags := 4120, slot := 0, constantValue := 0 }]
  methods := #[k13m0]
  instanceTypes := #[]
  staticTypes := #[.boolean]
  resolved := Array.replicate 395 none
  statics := none }

def pool14 : Array CpInfo := pool [(2, .class_ 4), (1, u "java/lang/Object"), (0, u "<init>"), (0, u "()V"), (17, .class_ 26), (1, u "jdk/internal/util/Preconditions"), (28, .class_ 56), (0, u "jdk/internal/util/Preconditions$4"), (57, .class_ 115), (0, u "jdk/internal/util/Preconditions$1"), (7, u "SIOOBE_FORMATTER"), (0, u "Ljava/util/function/BiFunction;"), (0, .class_ 126), (0, u "jdk/internal/util/Preconditions$2"), (3, u "AIOOBE_FORMATTER"), (0, .class_ 132), (0, u "jdk/internal/util/Preconditions$3"), (3, u "IOOBE_FORMATTER")] 57

def k14m0 : Method := { name := "<init>", desc := "()V", sig := { parameters := [], returnType := none }, accessFlags := 1, code := none }
/-- jdk/internal/util/Preconditions -/
def k14 : Class := { plain "jdk/internal/util/Preconditions" (some 0) with
  accessFlags := 33
  interfaces := #[]
  cf := some (fileOf pool14 24 #[.nestMembers #[55, 131, 125, 114]] #[{ accessFlags := 1, nameIndex := 5, descriptorIndex := 6, attributes := #[] }] 33 2 #[] #[{ accessFlags := 25, nameIndex := 123, descriptorIndex := 124, attributes := #[] }, { accessFlags := 25, nameIndex := 130, descriptorIndex := 124, attributes := #[] }, { accessFlags := 25, nameIndex := 136, descriptorIndex := 124, attributes := #[] }])
  fields := #[{ name := "SIOOBE_FORMATTER", type := (.object "java/util/function/BiFunction"), accessFlags := 25, slot := 0, constantValue := 0 }, { name := "AIOOBE_FORMATTER", type := (.object "java/util/function/BiFunction"), accessFlags := 25, slot := 1, constantValue := 0 }, { name := "IOOBE_FORMATTER", type := (.object "java/util/function/BiFunction"), accessFlags := 25, slot := 2, constantValue := 0 }]
  methods := #[k14m0]
  instanceTypes := #[]
  staticTypes := #[(.object "java/util/function/BiFunction"), (.object "java/util/function/BiFunction"), (.object "java/util/function/BiFunction")]
  resolved := Array.replicate 194 none
  statics := some 2 }

def pool15 : Array CpInfo := pool [(9, u "<init>"), (6, .class_ 18), (1, u "java/lang/Object"), (0, u "()V"), (1, .class_ 23), (1, u "jdk/internal/util/ArraysSupport"), (0, u "LOG2_ARRAY_LONG_INDEX_SCALE"), (0, u "I"), (2, u "U"), (0, u "Ljdk/internal/misc/Unsafe;"), (8, u "BIG_ENDIAN"), (0, u "Z"), (8, u "LOG2_BYTE_BIT_SIZE"), (4, u "LOG2_ARRAY_INT_INDEX_SCALE"), (54, u "JLA"), (0, u "Ljdk/internal/access/JavaLangAccess;"), (11, u "LOG2_ARRAY_BOOLEAN_INDEX_SCALE"), (9, u "LOG2_ARRAY_BYTE_INDEX_SCALE"), (5, u "LOG2_ARRAY_CHAR_INDEX_SCALE"), (5, u "LOG2_ARRAY_SHORT_INDEX_SCALE"), (18, u "LOG2_ARRAY_FLOAT_INDEX_SCALE"), (24, u "LOG2_ARRAY_DOUBLE_INDEX_SCALE"), (89, u "T_BOOLEAN"), (2, u "T_CHAR"), (1, u "T_FLOAT"), (1, u "T_DOUBLE"), (1, u "T_BYTE"), (1, u "T_SHORT"), (1, u "T_INT"), (1, u "T_LONG"), (1, u "SOFT_MAX_ARRAY_LENGTH")] 83

def k15m0 : Method := { name := "<init>", desc := "()V", sig := { parameters := [], returnType := none }, accessFlags := 2, code := none }
/-- jdk/internal/util/ArraysSupport -/
def k15 : Class := { plain "jdk/internal/util/ArraysSupport" (some 0) with
  accessFlags := 33
  interfaces := #[]
  cf := some (fileOf pool15 21 #[] #[{ accessFlags := 2, nameIndex := 9, descriptorIndex := 19, attributes := #[] }] 33 16 #[] #[{ accessFlags := 24, nameIndex := 28, descriptorIndex := 29, attributes := #[] }, { accessFlags := 26, nameIndex := 38, descriptorIndex := 39, attributes := #[] }, { accessFlags := 25, nameIndex := 121, descriptorIndex := 25, attributes := #[] }, { accessFlags := 25, nameIndex := 131, descriptorIndex := 25, attributes := #[] }, { accessFlags := 25, nameIndex := 137, descriptorIndex := 25, attributes := #[] }, { accessFlags := 25, nameIndex := 143, descriptorIndex := 25, attributes := #[] }, { accessFlags := 25, nameIndex := 53, descriptorIndex := 25, attributes := #[] }, { accessFlags := 25, nameIndex := 24, descriptorIndex := 25, attributes := #[] }, { accessFlags := 25, nameIndex := 162, descriptorIndex := 25, attributes := #[] }, { accessFlags := 25, nameIndex := 187, descriptorIndex := 25, attributes := #[] }, { accessFlags := 26, nameIndex := 48, descriptorIndex := 25, attributes := #[] }, { accessFlags := 25, nameIndex := 277, descriptorIndex := 25, attributes := #[] }, { accessFlags := 25, nameIndex := 280, descriptorIndex := 25, attributes := #[] }, { accessFlags := 25, nameIndex := 282, descriptorIndex := 25, attributes := #[] }, { accessFlags := 25, nameIndex := 284, descriptorIndex := 25, attributes := #[] }, { accessFlags := 25, nameIndex := 286, descriptorIndex := 25, attributes := #[] }, { accessFlags := 25, nameIndex := 288, descriptorIndex := 25, attributes := #[] }, { accessFlags := 25, nameIndex := 290, descriptorIndex := 25, attributes := #[] }, { accessFlags := 25, nameIndex := 292, descriptorIndex := 25, attributes := #[] }, { accessFlags := 26, nameIndex := 108, descriptorIndex := 109, attributes := #[] }, { accessFlags := 25, nameIndex := 294, descriptorIndex := 25, attributes := #[] }])
  fields := #[{ name := "U", type := (.object "jdk/internal/misc/Unsafe"), accessFlags := 24, slot := 0, constantValue := 0 }, { name := "BIG_ENDIAN", type := .boolean, accessFlags := 26, slot := 1, constantValue := 0 }, { name := "LOG2_ARRAY_BOOLEAN_INDEX_SCALE", type := .int, accessFlags := 25, slot := 2, constantValue := 0 }, { name := "LOG2_ARRAY_BYTE_INDEX_SCALE", type := .int, accessFlags := 25, slot := 3, constantValue := 0 }, { name := "LOG2_ARRAY_CHAR_INDEX_SCALE", type := .int, accessFlags := 25, slot := 4, constantValue := 0 }, { name := "LOG2_ARRAY_SHORT_INDEX_SCALE", type := .int, accessFlags := 25, slot := 5, constantValue := 0 }, { name := "LOG2_ARRAY_INT_INDEX_SCALE", type := .int, accessFlags := 25, slot := 6, constantValue := 0 }, { name := "LOG2_ARRAY_LONG_INDEX_SCALE", type := .int, accessFlags := 25, slot := 7, constantValue := 0 }, { name := "LOG2_ARRAY_FLOAT_INDEX_SCALE", type := .int, accessFlags := 25, slot := 8, constantValue := 0 }, { name := "LOG2_ARRAY_DOUBLE_INDEX_SCALE", type := .int, accessFlags := 25, slot := 9, constantValue := 0 }, { name := "LOG2_BYTE_BIT_SIZE", type := .int, accessFlags := 26, slot := 10, constantValue := 0 }, { name := "T_BOOLEAN", type := .int, accessFlags := 25, slot := 11, constantValue := 0 }, { name := "T_CHAR", type := .int, accessFlags := 25, slot := 12, constantValue := 0 }, { name := "T_FLOAT", type := .int, accessFlags := 25, slot := 13, constantValue := 0 }, { name := "T_DOUBLE", type := .int, accessFlags := 25, slot := 14, constantValue := 0 }, { name := "T_BYTE", type := .int, accessFlags := 25, slot := 15, constantValue := 0 }, { name := "T_SHORT", type := .int, accessFlags := 25, slot := 16, constantValue := 0 }, { name := "T_INT", type := .int, accessFlags := 25, slot := 17, constantValue := 0 }, { name := "T_LONG", type := .int, accessFlags := 25, slot := 18, constantValue := 0 }, { name := "JLA", type := (.object "jdk/internal/access/JavaLangAccess"), accessFlags := 26, slot := 19, constantValue := 0 }, { name := "SOFT_MAX_ARRAY_LENGTH", type := .int, accessFlags := 25, slot := 20, constantValue := 0 }]
  methods := #[k15m0]
  instanceTypes := #[]
  staticTypes := #[(.object "jdk/internal/misc/Unsafe"), .boolean, .int, .int, .int, .int, .int, .int, .int, .int, .int, .int, .int, .int, .int, .int, .int, .int, .int, (.object "jdk/internal/access/JavaLangAccess"), .int]
  resolved := Array.replicate 378 none
  statics := none }

def pool16 : Array CpInfo := pool [(2, .class_ 4), (1, u "java/lang/Object"), (0, u "<init>"), (0, u "()V"), (12, .class_ 20), (0, u "java/util/Collections"), (63, u "r"), (0, u "Ljava/util/Random;"), (80, .class_ 167), (0, u "java/util/Collections$UnmodifiableCollection"), (6, .class_ 175), (0, u "java/util/Collections$UnmodifiableSequencedCollection"), (6, .class_ 183), (0, u "java/util/Collections$UnmodifiableSet"), (6, .class_ 191), (0, u "java/util/Collections$UnmodifiableSequencedSet"), (6, .class_ 199), (0, u "java/util/Collections$UnmodifiableSortedSet"), (6, .class_ 207), (0, u "java/util/Collections$UnmodifiableNavigableSet"), (4, .class_ 213), (0, u "java/util/Collections$UnmodifiableList"), (1, .class_ 216), (0, u "java/util/Collections$UnmodifiableRandomAccessList"), (6, .class_ 224), (0, u "java/util/Collections$UnmodifiableMap"), (6, .class_ 232), (0, u "java/util/Collections$UnmodifiableSequencedMap"), (4, .class_ 238), (0, u "java/util/Collections$UnmodifiableSortedMap"), (6, .class_ 246), (0, u "java/util/Collections$UnmodifiableNavigableMap"), (3, .class_ 251), (0, u "java/util/Collections$SynchronizedCollection"), (4, .class_ 257), (0, u "java/util/Collections$SynchronizedSet"), (4, .class_ 263), (0, u "java/util/Collections$SynchronizedSortedSet"), (1, .class_ 266), (0, u "java/util/Collections$SynchronizedNavigableSet"), (1, .class_ 269), (0, u "java/util/Collections$SynchronizedRandomAccessList"), (1, .class_ 272), (0, u "java/util/Collections$SynchronizedList"), (5, .class_ 279), (0, u "java/util/Collections$SynchronizedMap"), (1, .class_ 282), (0, u "java/util/Collections$SynchronizedSortedMap"), (1, .class_ 285), (0, u "java/util/Collections$SynchronizedNavigableMap"), (1, .class_ 288), (0, u "java/util/Collections$CheckedCollection"), (11, .class_ 301), (0, u "java/util/Collections$CheckedQueue"), (3, .class_ 306), (0, u "java/util/Collections$CheckedSet"), (3, .class_ 311), (0, u "java/util/Collections$CheckedSortedSet"), (3, .class_ 316), (0, u "java/util/Collections$CheckedNavigableSet"), (3, .class_ 321), (0, u "java/util/Collections$CheckedRandomAccessList"), (3, .class_ 326), (0, u "java/util/Collections$CheckedList"), (1, .class_ 329), (0, u "java/util/Collections$CheckedMap"), (3, .class_ 334), (0, u "java/util/Collections$CheckedSortedMap"), (3, .class_ 339), (0, u "java/util/Collections$CheckedNavigableMap"), (4, .class_ 346), (1, u "java/util/Collections$EmptyIterator"), (3, .class_ 352), (1, u "java/util/Collections$EmptyListIterator"), (2, .class_ 357), (1, u "java/util/Collections$EmptyEnumeration"), (4, u "EMPTY_SET"), (0, u "Ljava/util/Set;"), (6, u "EMPTY_LIST"), (0, u "Ljava/util/List;"), (2, u "EMPTY_MAP"), (0, u "Ljava/util/Map;"), (4, .class_ 381), (0, u "java/util/Collections$SingletonSet"), (2, .class_ 385), (0, u "java/util/Collections$1"), (1, .class_ 388), (0, u "java/util/Collections$2"), (1, .class_ 391), (0, u "java/util/Collections$SingletonList"), (1, .class_ 394), (0, u "java/util/Collections$SingletonMap"), (22, .class_ 418), (0, u "java/util/Collections$CopiesList"), (4, .class_ 425), (1, u "java/util/Collections$ReverseComparator"), (8, .class_ 435), (0, u "java/util/Collections$ReverseComparator2"), (6, .class_ 443), (0, u "java/util/Collections$3"), (25, .class_ 470), (0, u "java/util/Collections$SetFromMap"), (2, .class_ 474), (0, u "java/util/Collections$SequencedSetFromMap"), (3, .class_ 479), (0, u "java/util/Collections$AsLIFOQueue"), (11, .class_ 492), (0, u "java/util/Collections$EmptySet"), (1, .class_ 495), (0, u "java/util/Collections$EmptyList"), (1, .class_ 498), (0, u "java/util/Collections$EmptyMap"), (1, u "BINARYSEARCH_THRESHOLD"), (0, u "I"), (2, u "REVERSE_THRESHOLD"), (1, u "SHUFFLE_THRESHOLD"), (1, u "FILL_THRESHOLD"), (1, u "ROTATE_THRESHOLD"), (1, u "COPY_THRESHOLD"), (1, u "REPLACEALL_THRESHOLD"), (1, u "INDEXOFSUBLIST_THRESHOLD"), (333, .class_ 851), (0, u "java/util/Collections$CheckedMap$CheckedEntrySet"), (0, .class_ 853), (0, u "java/util/Collections$CheckedMap$CheckedEntrySet$CheckedEntry"), (0, .class_ 855), (0, u "java/util/Collections$CheckedMap$CheckedEntrySet$1"), (0, .class_ 857), (0, u "java/util/Collections$CheckedList$1"), (0, .class_ 859), (0, u "java/util/Collections$CheckedCollection$1"), (0, .class_ 861), (0, u "java/util/Collections$UnmodifiableNavigableMap$EmptyNavigableMap"), (0, .class_ 863), (0, u "java/util/Collections$UnmodifiableMap$UnmodifiableEntrySet"), (0, .class_ 865), (0, u "java/util/Collections$UnmodifiableMap$UnmodifiableEntrySet$UnmodifiableEntry"), (0, .class_ 867), (0, u "java/util/Collections$UnmodifiableMap$UnmodifiableEntrySet$UnmodifiableEntrySetSpliterator"), (0, .class_ 869), (0, u "java/util/Collections$UnmodifiableMap$UnmodifiableEntrySet$1"), (0, .class_ 871), (0, u "java/util/Collections$UnmodifiableList$1"), (0, .class_ 873), (0, u "java/util/Collections$UnmodifiableNavigableSet$EmptyNavigableSet"), (0, .class_ 875), (0, u "java/util/Collections$UnmodifiableCollection$1")] 57

def k16m0 : Method := { name := "<init>", desc := "()V", sig := { parameters := [], returnType := none }, accessFlags := 2, code := none }
/-- java/util/Collections -/
def k16 : Class := { plain "java/util/Collections" (some 0) with
  accessFlags := 33
  interfaces := #[]
  cf := some (fileOf pool16 19 #[.nestMembers #[478, 473, 469, 434, 423, 417, 393, 390, 380, 497, 494, 491, 355, 350, 344, 338, 333, 328, 850, 852, 854, 320, 325, 856, 315, 310, 305, 300, 287, 858, 284, 281, 278, 268, 271, 265, 262, 256, 250, 245, 860, 237, 231, 223, 862, 864, 866, 868, 215, 212, 870, 206, 872, 198, 190, 182, 174, 166, 874, 442, 387, 384]] #[{ accessFlags := 2, nameIndex := 5, descriptorIndex := 6, attributes := #[] }] 33 2 #[] #[{ accessFlags := 26, nameIndex := 500, descriptorIndex := 501, attributes := #[] }, { accessFlags := 26, nameIndex := 504, descriptorIndex := 501, attributes := #[] }, { accessFlags := 26, nameIndex := 506, descriptorIndex := 501, attributes := #[] }, { accessFlags := 26, nameIndex := 508, descriptorIndex := 501, attributes := #[] }, { accessFlags := 26, nameIndex := 510, descriptorIndex := 501, attributes := #[] }, { accessFlags := 26, nameIndex := 512, descriptorIndex := 501, attributes := #[] }, { accessFlags := 26, nameIndex := 514, descriptorIndex := 501, attributes := #[] }, { accessFlags := 26, nameIndex := 516, descriptorIndex := 501, attributes := #[] }, { accessFlags := 10, nameIndex := 84, descriptorIndex := 85, attributes := #[] }, { accessFlags := 25, nameIndex := 362, descriptorIndex := 363, attributes := #[] }, { accessFlags := 25, nameIndex := 370, descriptorIndex := 371, attributes := #[] }, { accessFlags := 25, nameIndex := 374, descriptorIndex := 375, attributes := #[] }])
  fields := #[{ name := "BINARYSEARCH_THRESHOLD", type := .int, accessFlags := 26, slot := 0, constantValue := 0 }, { name := "REVERSE_THRESHOLD", type := .int, accessFlags := 26, slot := 1, constantValue := 0 }, { name := "SHUFFLE_THRESHOLD", type := .int, accessFlags := 26, slot := 2, constantValue := 0 }, { name := "FILL_THRESHOLD", type := .int, accessFlags := 26, slot := 3, constantValue := 0 }, { name := "ROTATE_THRESHOLD", type := .int, accessFlags := 26, slot := 4, constantValue := 0 }, { name := "COPY_THRESHOLD", type := .int, accessFlags := 26, slot := 5, constantValue := 0 }, { name := "REPLACEALL_THRESHOLD", type := .int, accessFlags := 26, slot := 6, constantValue := 0 }, { name := "INDEXOFSUBLIST_THRESHOLD", type := .int, accessFlags := 26, slot := 7, constantValue := 0 }, { name := "r", type := (.object "java/util/Random"), accessFlags := 10, slot := 8, constantValue := 0 }, { name := "EMPTY_SET", type := (.object "java/util/Set"), accessFlags := 25, slot := 9, constantValue := 0 }, { name := "EMPTY_LIST", type := (.object "java/util/List"), accessFlags := 25, slot := 10, constantValue := 0 }, { name := "EMPTY_MAP", type := (.object "java/util/Map"), accessFlags := 25, slot := 11, constantValue := 0 }]
  methods := #[k16m0]
  instanceTypes := #[]
  staticTypes := #[.int, .int, .int, .int, .int, .int, .int, .int, (.object "java/util/Random"), (.object "java/util/Set"), (.object "java/util/List"), (.object "java/util/Map")]
  resolved := Array.replicate 933 none
  statics := some 3 }

def pool17 : Array CpInfo := pool [(8, .class_ 10), (1, u "java/lang/Iterable"), (24, .class_ 36), (0, u "java/lang/Object")] 25

/-- java/lang/Iterable -/
def k17 : Class := { plain "java/lang/Iterable" (some 0) with
  accessFlags := 1537
  interfaces := #[]
  cf := some (fileOf pool17 8 #[] #[] 1537 35 #[] #[])
  fields := #[]
  methods := #[]
  instanceTypes := #[]
  staticTypes := #[]
  resolved := Array.replicate 62 none
  statics := none }

def pool18 : Array CpInfo := pool [(10, .class_ 12), (1, u "java/util/Collection"), (47, .class_ 61), (0, u "java/lang/Object"), (0, .class_ 63), (0, u "java/lang/Iterable")] 51

/-- java/util/Collection -/
def k18 : Class := { plain "java/util/Collection" (some 0) with
  accessFlags := 1537
  interfaces := #[17]
  cf := some (fileOf pool18 10 #[] #[] 1537 60 #[62] #[])
  fields := #[]
  methods := #[]
  instanceTypes := #[]
  staticTypes := #[]
  resolved := Array.replicate 115 none
  statics := none }

def pool19 : Array CpInfo := pool [(2, .class_ 4), (1, u "java/lang/Object"), (0, u "<init>"), (0, u "()V"), (1, .class_ 10), (1, u "java/util/AbstractCollection"), (66, .class_ 78), (0, u "java/util/Collection")] 81

def k19m0 : Method := { name := "<init>", desc := "()V", sig := { parameters := [], returnType := none }, accessFlags := 4, code := none }
/-- java/util/AbstractCollection -/
def k19 : Class := { plain "java/util/AbstractCollection" (some 0) with
  accessFlags := 1057
  interfaces := #[18]
  cf := some (fileOf pool19 8 #[] #[{ accessFlags := 4, nameIndex := 5, descriptorIndex := 6, attributes := #[] }] 1057 2 #[77] #[])
  fields := #[]
  methods := #[k19m0]
  instanceTypes := #[]
  staticTypes := #[]
  resolved := Array.replicate 160 none
  statics := none }

def pool20 : Array CpInfo := pool [(8, .class_ 10), (1, u "java/util/SequencedCollection"), (15, .class_ 27), (0, u "java/lang/Object"), (0, .class_ 29), (0, u "java/util/Collection")] 27

/-- java/util/SequencedCollection -/
def k20 : Class := { plain "java/util/SequencedCollection" (some 0) with
  accessFlags := 1537
  interfaces := #[18]
  cf := some (fileOf pool20 8 #[] #[] 1537 26 #[28] #[])
  fields := #[]
  methods := #[]
  instanceTypes := #[]
  staticTypes := #[]
  resolved := Array.replicate 57 none
  statics := none }

def pool21 : Array CpInfo := pool [(8, .class_ 10), (1, u "java/util/List"), (92, .class_ 104), (0, u "java/lang/Object"), (15, .class_ 121), (0, u "java/util/SequencedCollection")] 129

/-- java/util/List -/
def k21 : Class := { plain "java/util/List" (some 0) with
  accessFlags := 1537
  interfaces := #[20]
  cf := some (fileOf pool21 8 #[] #[] 1537 103 #[120] #[])
  fields := #[]
  methods := #[]
  instanceTypes := #[]
  staticTypes := #[]
  resolved := Array.replicate 251 none
  statics := none }

def pool22 : Array CpInfo := pool [(2, .class_ 4), (1, u "java/util/AbstractCollection"), (0, u "<init>"), (0, u "()V"), (1, .class_ 10), (1, u "java/util/AbstractList"), (0, u "modCount"), (0, u "I"), (64, .class_ 78), (0, u "java/util/AbstractList$Itr"), (3, .class_ 83), (0, u "java/util/AbstractList$ListItr"), (9, .class_ 94), (0, u "java/util/AbstractList$RandomAccessSubList"), (3, .class_ 99), (0, u "java/util/AbstractList$SubList"), (33, .class_ 134), (0, u "java/util/List"), (73, .class_ 209), (0, u "java/util/AbstractList$SubList$1"), (0, .class_ 211), (0, u "java/util/AbstractList$RandomAccessSpliterator")] 6

def k22m0 : Method := { name := "<init>", desc := "()V", sig := { parameters := [], returnType := none }, accessFlags := 4, code := none }
/-- java/util/AbstractList -/
def k22 : Class := { plain "java/util/AbstractList" (some 19) with
  accessFlags := 1057
  interfaces := #[21]
  cf := some (fileOf pool22 8 #[.nestMembers #[93, 98, 208, 210, 82, 77]] #[{ accessFlags := 4, nameIndex := 5, descriptorIndex := 6, attributes := #[] }] 1057 2 #[133] #[{ accessFlags := 132, nameIndex := 11, descriptorIndex := 12, attributes := #[] }])
  fields := #[{ name := "modCount", type := .int, accessFlags := 132, slot := 0, constantValue := 0 }]
  methods := #[k22m0]
  instanceTypes := #[.int]
  staticTypes := #[]
  resolved := Array.replicate 218 none
  statics := none }

def pool23 : Array CpInfo := pool [(1, .class_ 2), (0, u "java/util/RandomAccess"), (0, .class_ 4), (0, u "java/lang/Object")] 2

/-- java/util/RandomAccess -/
def k23 : Class := { plain "java/util/RandomAccess" (some 0) with
  accessFlags := 1537
  interfaces := #[]
  cf := some (fileOf pool23 1 #[] #[] 1537 3 #[] #[])
  fields := #[]
  methods := #[]
  instanceTypes := #[]
  staticTypes := #[]
  resolved := Array.replicate 7 none
  statics := none }

def pool24 : Array CpInfo := pool [(2, .class_ 4), (1, u "java/util/AbstractList"), (0, u "<init>"), (0, u "()V"), (1, .class_ 10), (1, u "java/util/Collections"), (54, .class_ 66), (0, u "java/util/Collections$EmptyList"), (0, .class_ 68), (0, u "java/util/RandomAccess"), (0, .class_ 70), (0, u "java/io/Serializable"), (0, u "serialVersionUID"), (0, u "J")] 77

def k24m0 : Method := { name := "<init>", desc := "()V", sig := { parameters := [], returnType := none }, accessFlags := 2, code := none }
/-- java/util/Collections$EmptyList -/
def k24 : Class := { plain "java/util/Collections$EmptyList" (some 22) with
  accessFlags := 32
  interfaces := #[23, 2]
  cf := some (fileOf pool24 65 #[.nestHost 8] #[{ accessFlags := 2, nameIndex := 5, descriptorIndex := 6, attributes := #[] }] 32 2 #[67, 69] #[{ accessFlags := 26, nameIndex := 71, descriptorIndex := 72, attributes := #[] }])
  fields := #[{ name := "serialVersionUID", type := .long, accessFlags := 26, slot := 0, constantValue := 0 }]
  methods := #[k24m0]
  instanceTypes := #[.int]
  staticTypes := #[.long]
  resolved := Array.replicate 150 none
  statics := none }

def pool25 : Array CpInfo := pool [(2, .class_ 4), (1, u "java/lang/StackTraceElement"), (0, u "<init>"), (2, .class_ 10), (1, u "java/lang/Object"), (0, u "()V"), (2, u "format"), (0, u "B"), (2, u "classLoaderName"), (0, u "Ljava/lang/String;"), (2, u "moduleName"), (2, u "moduleVersion"), (12, u "declaringClass"), (4, u "methodName"), (2, u "fileName"), (2, u "lineNumber"), (0, u "I"), (65, u "declaringClassObject"), (0, u "Ljava/lang/Class;"), (33, .class_ 153), (1, u "java/lang/StackTraceElement$HashedModules"), (17, .class_ 172), (0, u "java/io/Serializable"), (0, u "NATIVE_METHOD"), (1, u "UNKNOWN_SOURCE"), (2, u "BUILTIN_CLASS_LOADER"), (1, u "JDK_NON_UPGRADEABLE_MODULE"), (1, u "serialVersionUID"), (0, u "J")] 51

def k25m0 : Method := { name := "<init>", desc := "()V", sig := { parameters := [], returnType := none }, accessFlags := 2, code := none }
/-- java/lang/StackTraceElement -/
def k25 : Class := { plain "java/lang/StackTraceElement" (some 0) with
  accessFlags := 49
  interfaces := #[2]
  cf := some (fileOf pool25 2 #[.nestMembers #[151]] #[{ accessFlags := 2, nameIndex := 5, descriptorIndex := 11, attributes := #[] }] 49 8 #[171] #[{ accessFlags := 26, nameIndex := 173, descriptorIndex := 19, attributes := #[] }, { accessFlags := 26, nameIndex := 175, descriptorIndex := 19, attributes := #[] }, { accessFlags := 130, nameIndex := 116, descriptorIndex := 117, attributes := #[] }, { accessFlags := 2, nameIndex := 18, descriptorIndex := 19, attributes := #[] }, { accessFlags := 2, nameIndex := 22, descriptorIndex := 19, attributes := #[] }, { accessFlags := 2, nameIndex := 25, descriptorIndex := 19, attributes := #[] }, { accessFlags := 2, nameIndex := 38, descriptorIndex := 19, attributes := #[] }, { accessFlags := 2, nameIndex := 43, descriptorIndex := 19, attributes := #[] }, { accessFlags := 2, nameIndex := 46, descriptorIndex := 19, attributes := #[] }, { accessFlags := 2, nameIndex := 49, descriptorIndex := 50, attributes := #[] }, { accessFlags := 2, nameIndex := 14, descriptorIndex := 15, attributes := #[] }, { accessFlags := 26, nameIndex := 178, descriptorIndex := 15, attributes := #[] }, { accessFlags := 26, nameIndex := 180, descriptorIndex := 15, attributes := #[] }, { accessFlags := 26, nameIndex := 182, descriptorIndex := 183, attributes := #[] }])
  fields := #[{ name := "NATIVE_METHOD", type := (.object "java/lang/String"), accessFlags := 26, slot := 0, constantValue := 0 }, { name := "UNKNOWN_SOURCE", type := (.object "java/lang/String"), accessFlags := 26, slot := 1, constantValue := 0 }, { name := "declaringClassObject", type := (.object "java/lang/Class"), accessFlags := 130, slot := 0, constantValue := 0 }, { name := "classLoaderName", type := (.object "java/lang/String"), accessFlags := 2, slot := 1, constantValue := 0 }, { name := "moduleName", type := (.object "java/lang/String"), accessFlags := 2, slot := 2, constantValue := 0 }, { name := "moduleVersion", type := (.object "java/lang/String"), accessFlags := 2, slot := 3, constantValue := 0 }, { name := "declaringClass", type := (.object "java/lang/String"), accessFlags := 2, slot := 4, constantValue := 0 }, { name := "methodName", type := (.object "java/lang/String"), accessFlags := 2, slot := 5, constantValue := 0 }, { name := "fileName", type := (.object "java/lang/String"), accessFlags := 2, slot := 6, constantValue := 0 }, { name := "lineNumber", type := .int, accessFlags := 2, slot := 7, constantValue := 0 }, { name := "format", type := .byte, accessFlags := 2, slot := 8, constantValue := 0 }, { name := "BUILTIN_CLASS_LOADER", type := .byte, accessFlags := 26, slot := 2, constantValue := 0 }, { name := "JDK_NON_UPGRADEABLE_MODULE", type := .byte, accessFlags := 26, slot := 3, constantValue := 0 }, { name := "serialVersionUID", type := .long, accessFlags := 26, slot := 4, constantValue := 0 }]
  methods := #[k25m0]
  instanceTypes := #[(.object "java/lang/Class"), (.object "java/lang/String"), (.object "java/lang/String"), (.object "java/lang/String"), (.object "java/lang/String"), (.object "java/lang/String"), (.object "java/lang/String"), .int, .byte]
  staticTypes := #[(.object "java/lang/String"), (.object "java/lang/String"), .byte, .byte, .long]
  resolved := Array.replicate 235 none
  statics := none }

def pool26 : Array CpInfo := pool [(1, u "java/lang/Cloneable"), (0, .class_ 1), (0, u "java/lang/Object"), (0, .class_ 3)] 3

/-- java/lang/Cloneable -/
def k26 : Class := { plain "java/lang/Cloneable" (some 0) with
  accessFlags := 1537
  interfaces := #[]
  cf := some (fileOf pool26 2 #[] #[] 1537 4 #[] #[])
  fields := #[]
  methods := #[]
  instanceTypes := #[]
  staticTypes := #[]
  resolved := Array.replicate 8 none
  statics := none }

/-- the primitive byte -/
def k27 : Class := { plain "byte" none with kind := .primitive 'B', accessFlags := 0x411 }
/-- [B -/
def k28 : Class := { plain "[B" (some 0) with kind := .array 27 .byte, interfaces := #[26, 2], accessFlags := 1041 }

/-- the primitive char -/
def k29 : Class := { plain "char" none with kind := .primitive 'C', accessFlags := 0x411 }
/-- [C -/
def k30 : Class := { plain "[C" (some 0) with kind := .array 29 .char, interfaces := #[26, 2], accessFlags := 1041 }

/-- the primitive int -/
def k31 : Class := { plain "int" none with kind := .primitive 'I', accessFlags := 0x411 }
/-- [I -/
def k32 : Class := { plain "[I" (some 0) with kind := .array 31 .int, interfaces := #[26, 2], accessFlags := 1041 }

/-- [Ljava/lang/Object; -/
def k33 : Class := { plain "[Ljava/lang/Object;" (some 0) with kind := .array 0 (.object "java/lang/Object"), interfaces := #[26, 2], accessFlags := 1041 }

/-- [Ljava/lang/StackTraceElement; -/
def k34 : Class := { plain "[Ljava/lang/StackTraceElement;" (some 0) with kind := .array 25 (.object "java/lang/StackTraceElement"), interfaces := #[26, 2], accessFlags := 1041 }

/-- [Ljava/lang/Throwable; -/
def k35 : Class := { plain "[Ljava/lang/Throwable;" (some 0) with kind := .array 9 (.object "java/lang/Throwable"), interfaces := #[26, 2], accessFlags := 1041 }

def heap : Heap := #[{ cls := 7, slots := #[.long 0, .int 1, .null, .int 0, .null, .int 0, .int 0], vm := .statics 7 },
  { cls := 9, slots := #[.long 0, .ref 4, .ref 5, .null, .null, .null, .null, .ref 6, .int 1], vm := .statics 9 },
  { cls := 14, slots := #[.null, .null, .null], vm := .statics 14 },
  { cls := 16, slots := #[.int 0, .int 0, .int 0, .int 0, .int 0, .int 0, .int 0, .int 0, .null, .null, .ref 5, .null], vm := .statics 16 },
  { cls := 34, slots := #[], vm := .none },
  { cls := 24, slots := #[.int 0], vm := .none },
  { cls := 35, slots := #[], vm := .none }]
def classes : Array Class := #[k0, k1, k2, k3, k4, k5, k6, k7, k8, k9, k10, k11, k12, k13, k14, k15, k16, k17, k18, k19, k20, k21, k22, k23, k24, k25, k26, k27, k28, k29, k30, k31, k32, k33, k34, k35]
def interned : List (Array UInt16 × Addr) := []
def slotsUsed : Nat := 32
def theMethod : MethodId := ⟨1, 1⟩
def args0 : Array Value := #[.int 5, .int 65, .int 66]
def aboutOver (below : List Frame) : State where
  vm := { classes := classes, interned := interned.toArray }
  heap := heap
  slotsUsed := slotsUsed
  threads := #[{ frames := .invoking theMethod args0 :: below }]
def below0 : List Frame := [.native { method := ⟨0, 0⟩, args := #[] }]
def about1 : State := aboutOver below0
def p0 : Program := .bare "" "" ""
def e0 : Env := launch0.env 0 0 0
theorem w_frames : about1.frames = Frame.invoking theMethod args0 :: below0 := rfl
set_option maxRecDepth 65536 in
theorem w_args : argsFit about1.vm theMethod args0 = true := by decide +kernel
set_option maxRecDepth 65536 in
theorem w_heap : heapFits about1 = true := by decide +kernel
set_option maxRecDepth 65536 in
theorem w_runnable : about1.curStatus? = some .runnable := by decide +kernel
set_option maxRecDepth 65536 in
theorem w_alone : about1.alone = true := by decide +kernel
set_option maxRecDepth 65536 in
theorem w_named : about1.methodNamed? x = some theMethod := by decide +kernel
set_option maxRecDepth 65536 in
theorem w_hears : about1.hears theMethod below0 = true := by decide +kernel
set_option maxRecDepth 65536 in
theorem w_ripe : about1.ripe theMethod args0 below0 = true := by decide +kernel
theorem w_running : about1.status = .running := rfl
set_option maxRecDepth 65536 in
theorem w_room : about1.hasRoom e0.platform room_1 = true :=
  launch0.hasRoom_least _ room_1 (by decide +kernel) (by decide +kernel) (by decide +kernel) (by decide +kernel) (by decide +kernel) (by decide +kernel)
theorem allAtoms_all (ts : List Jvm.Cond) (a : Array Jvm.Value) (st : Jvm.State) : (allAtoms ts).before a st = ts.all (fun c => c.before a st) := by
  induction ts with
  | nil => rfl
  | cons c t ih =>
    show (Jvm.Cond.and c (allAtoms t)).before a st = _
    rw [Jvm.Cond.before_and, ih, List.all_cons]
def words1 : List Jvm.Cond := Jvm.Cond.code x code maxLocals ret :: tables_1
/-- a 'code' word, met by the world's own term for the bytes: nothing is compared byte by byte -/
theorem code_word {y : MethodName} {bytes : ByteArray} {mx : Nat} {rt : Option FieldType} {a : Array Value} {s : State} {m : MethodId} {meth : Method} {c : Code} (h1 : s.methodNamed? y = some m) (h2 : s.vm.method? m = some meth) (h3 : meth.code = some c) (h4 : c.code = bytes)
    (h5 : (c.maxLocals == mx && c.exceptionTable.isEmpty && decide (c.maxStack ≤ mostOperands) && decide (meth.sig.returnType = rt) && !meth.locks && decide (parseMethodDescriptor y.desc = some meth.sig)) = true) : (Jvm.Cond.code y bytes mx rt).before a s = true := by
  simp only [Bool.and_eq_true, beq_iff_eq, Bool.not_eq_true', decide_eq_true_eq] at h5
  obtain ⟨⟨⟨⟨⟨g1, g2⟩, g3⟩, g4⟩, g5⟩, g6⟩ := h5
  simp [Cond.before, Cond.holds, Cond.value, h1, h2, h3, h4, g1, g2, g3, g4, g5, g6]
def isCode : Jvm.Cond → Bool
  | .code _ _ _ _ => true
  | _ => false
theorem all_split {L : List Jvm.Cond} {P : Jvm.Cond → Bool} (h1 : L.all (fun c => isCode c || P c) = true) (h2 : ∀ c ∈ L.filter isCode, P c = true) : L.all P = true := by
  refine List.all_eq_true.mpr fun c hc => ?_
  have h := List.all_eq_true.mp h1 c hc
  rcases Bool.eq_false_or_eq_true (isCode c) with hi | hi
  · exact h2 c (List.mem_filter.mpr ⟨hc, hi⟩)
  · simpa [hi] using h
set_option maxRecDepth 65536 in
theorem w_c0 : (Jvm.Cond.code x code maxLocals ret).before args0 about1 = true := code_word (m := ⟨1, 1⟩) (meth := k1m1) (c := k1c1) (by decide +kernel) rfl rfl rfl (by decide +kernel)
set_option maxRecDepth 65536 in
theorem w_c1 : (Jvm.Cond.code ({ cls := "java/lang/String", name := "<init>", desc := "([C)V" } : Jvm.MethodName) jdk_42_method_3_code (2 : Nat) (Option.none : Option Jvm.ClassFile.FieldType)).before args0 about1 = true := code_word (m := ⟨7, 1⟩) (meth := k7m1) (c := k7c1) (by decide +kernel) rfl rfl rfl (by decide +kernel)
set_option maxRecDepth 65536 in
theorem w_c2 : (Jvm.Cond.code ({ cls := "java/lang/String", name := "<init>", desc := "([CIILjava/lang/Void;)V" } : Jvm.MethodName) jdk_42_method_149_code (6 : Nat) (Option.none : Option Jvm.ClassFile.FieldType)).before args0 about1 = true := code_word (m := ⟨7, 2⟩) (meth := k7m2) (c := k7c2) (by decide +kernel) rfl rfl rfl (by decide +kernel)
set_option maxRecDepth 65536 in
theorem w_c3 : (Jvm.Cond.code ({ cls := "java/lang/Object", name := "<init>", desc := "()V" } : Jvm.MethodName) object_method_1_code (1 : Nat) (Option.none : Option Jvm.ClassFile.FieldType)).before args0 about1 = true := code_word (m := ⟨0, 0⟩) (meth := k0m0) (c := k0c0) (by decide +kernel) rfl rfl rfl (by decide +kernel)
set_option maxRecDepth 65536 in
theorem w_c4 : (Jvm.Cond.code ({ cls := "java/lang/StringUTF16", name := "compress", desc := "([CII)[B" } : Jvm.MethodName) jdk_52_method_16_code (6 : Nat) (Option.some (Jvm.ClassFile.FieldType.array Jvm.ClassFile.FieldType.byte))).before args0 about1 = true := code_word (m := ⟨8, 2⟩) (meth := k8m2) (c := k8c2) (by decide +kernel) rfl rfl rfl (by decide +kernel)
set_option maxRecDepth 65536 in
theorem w_c5 : (Jvm.Cond.code ({ cls := "java/lang/StringUTF16", name := "compress", desc := "([CI[BII)I" } : Jvm.MethodName) jdk_52_method_21_code (7 : Nat) (Option.some Jvm.ClassFile.FieldType.int)).before args0 about1 = true := code_word (m := ⟨8, 3⟩) (meth := k8m3) (c := k8c3) (by decide +kernel) rfl rfl rfl (by decide +kernel)
set_option maxRecDepth 65536 in
theorem w_c6 : (Jvm.Cond.code ({ cls := "java/lang/StringUTF16", name := "coderFromArrayLen", desc := "([BI)B" } : Jvm.MethodName) jdk_52_method_15_code (2 : Nat) (Option.some Jvm.ClassFile.FieldType.byte)).before args0 about1 = true := code_word (m := ⟨8, 1⟩) (meth := k8m1) (c := k8c1) (by decide +kernel) rfl rfl rfl (by decide +kernel)
set_option maxRecDepth 65536 in
theorem w_c7 : (Jvm.Cond.code ({ cls := "com/example/custode/custode/store/StoreException", name := "<init>", desc := "(Ljava/lang/String;I)V" } : Jvm.MethodName) prog_57_method_3_code (3 : Nat) (Option.none : Option Jvm.ClassFile.FieldType)).before args0 about1 = true := code_word (m := ⟨12, 1⟩) (meth := k12m1) (c := k12c1) (by decide +kernel) rfl rfl rfl (by decide +kernel)
set_option maxRecDepth 65536 in
theorem w_c8 : (Jvm.Cond.code ({ cls := "java/lang/RuntimeException", name := "<init>", desc := "(Ljava/lang/String;)V" } : Jvm.MethodName) jdk_58_method_2_code (2 : Nat) (Option.none : Option Jvm.ClassFile.FieldType)).before args0 about1 = true := code_word (m := ⟨11, 1⟩) (meth := k11m1) (c := k11c1) (by decide +kernel) rfl rfl rfl (by decide +kernel)
set_option maxRecDepth 65536 in
theorem w_c9 : (Jvm.Cond.code ({ cls := "java/lang/Exception", name := "<init>", desc := "(Ljava/lang/String;)V" } : Jvm.MethodName) jdk_59_method_2_code (2 : Nat) (Option.none : Option Jvm.ClassFile.FieldType)).before args0 about1 = true := code_word (m := ⟨10, 1⟩) (meth := k10m1) (c := k10c1) (by decide +kernel) rfl rfl rfl (by decide +kernel)
set_option maxRecDepth 65536 in
theorem w_c10 : (Jvm.Cond.code ({ cls := "java/lang/Throwable", name := "<init>", desc := "(Ljava/lang/String;)V" } : Jvm.MethodName) jdk_78_method_2_code (2 : Nat) (Option.none : Option Jvm.ClassFile.FieldType)).before args0 about1 = true := code_word (m := ⟨9, 1⟩) (meth := k9m1) (c := k9c1) (by decide +kernel) rfl rfl rfl (by decide +kernel)
set_option maxRecDepth 65536 in
theorem w_c11 : (Jvm.Cond.code ({ cls := "java/lang/Throwable", name := "<init>", desc := "()V" } : Jvm.MethodName) jdk_78_method_1_code (1 : Nat) (Option.none : Option Jvm.ClassFile.FieldType)).before args0 about1 = true := code_word (m := ⟨9, 0⟩) (meth := k9m0) (c := k9c0) (by decide +kernel) rfl rfl rfl (by decide +kernel)
set_option maxRecDepth 65536 in
theorem w_c12 : (Jvm.Cond.code ({ cls := "com/example/custode/custode/store/StoreException", name := "isNotFound", desc := "()Z" } : Jvm.MethodName) prog_57_method_4_code (1 : Nat) (Option.some Jvm.ClassFile.FieldType.boolean)).before args0 about1 = true := code_word (m := ⟨12, 2⟩) (meth := k12m2) (c := k12c2) (by decide +kernel) rfl rfl rfl (by decide +kernel)
set_option maxRecDepth 65536 in
theorem w_c13 : (Jvm.Cond.code ({ cls := "com/example/custode/custode/store/StoreException", name := "<init>", desc := "(Ljava/lang/String;)V" } : Jvm.MethodName) prog_57_method_2_code (2 : Nat) (Option.none : Option Jvm.ClassFile.FieldType)).before args0 about1 = true := code_word (m := ⟨12, 0⟩) (meth := k12m0) (c := k12c0) (by decide +kernel) rfl rfl rfl (by decide +kernel)
def codes1 : List Jvm.Cond := [Jvm.Cond.code x code maxLocals ret, Jvm.Cond.code ({ cls := "java/lang/String", name := "<init>", desc := "([C)V" } : Jvm.MethodName) jdk_42_method_3_code (2 : Nat) (Option.none : Option Jvm.ClassFile.FieldType), Jvm.Cond.code ({ cls := "java/lang/String", name := "<init>", desc := "([CIILjava/lang/Void;)V" } : Jvm.MethodName) jdk_42_method_149_code (6 : Nat) (Option.none : Option Jvm.ClassFile.FieldType), Jvm.Cond.code ({ cls := "java/lang/Object", name := "<init>", desc := "()V" } : Jvm.MethodName) object_method_1_code (1 : Nat) (Option.none : Option Jvm.ClassFile.FieldType), Jvm.Cond.code ({ cls := "java/lang/StringUTF16", name := "compress", desc := "([CII)[B" } : Jvm.MethodName) jdk_52_method_16_code (6 : Nat) (Option.some (Jvm.ClassFile.FieldType.array Jvm.ClassFile.FieldType.byte)), Jvm.Cond.code ({ cls := "java/lang/StringUTF16", name := "compress", desc := "([CI[BII)I" } : Jvm.MethodName) jdk_52_method_21_code (7 : Nat) (Option.some Jvm.ClassFile.FieldType.int), Jvm.Cond.code ({ cls := "java/lang/StringUTF16", name := "coderFromArrayLen", desc := "([BI)B" } : Jvm.MethodName) jdk_52_method_15_code (2 : Nat) (Option.some Jvm.ClassFile.FieldType.byte), Jvm.Cond.code ({ cls := "com/example/custode/custode/store/StoreException", name := "<init>", desc := "(Ljava/lang/String;I)V" } : Jvm.MethodName) prog_57_method_3_code (3 : Nat) (Option.none : Option Jvm.ClassFile.FieldType), Jvm.Cond.code ({ cls := "java/lang/RuntimeException", name := "<init>", desc := "(Ljava/lang/String;)V" } : Jvm.MethodName) jdk_58_method_2_code (2 : Nat) (Option.none : Option Jvm.ClassFile.FieldType), Jvm.Cond.code ({ cls := "java/lang/Exception", name := "<init>", desc := "(Ljava/lang/String;)V" } : Jvm.MethodName) jdk_59_method_2_code (2 : Nat) (Option.none : Option Jvm.ClassFile.FieldType), Jvm.Cond.code ({ cls := "java/lang/Throwable", name := "<init>", desc := "(Ljava/lang/String;)V" } : Jvm.MethodName) jdk_78_method_2_code (2 : Nat) (Option.none : Option Jvm.ClassFile.FieldType), Jvm.Cond.code ({ cls := "java/lang/Throwable", name := "<init>", desc := "()V" } : Jvm.MethodName) jdk_78_method_1_code (1 : Nat) (Option.none : Option Jvm.ClassFile.FieldType), Jvm.Cond.code ({ cls := "com/example/custode/custode/store/StoreException", name := "isNotFound", desc := "()Z" } : Jvm.MethodName) prog_57_method_4_code (1 : Nat) (Option.some Jvm.ClassFile.FieldType.boolean), Jvm.Cond.code ({ cls := "com/example/custode/custode/store/StoreException", name := "<init>", desc := "(Ljava/lang/String;)V" } : Jvm.MethodName) prog_57_method_2_code (2 : Nat) (Option.none : Option Jvm.ClassFile.FieldType)]
set_option maxRecDepth 65536 in
theorem codes_eq : words1.filter isCode = codes1 := rfl
theorem w_codes : ∀ c ∈ words1.filter isCode, c.before args0 about1 = true := by
  rw [codes_eq]
  intro c hc
  simp only [codes1, List.mem_cons, List.not_mem_nil, or_false] at hc
  rcases hc with rfl | rfl | rfl | rfl | rfl | rfl | rfl | rfl | rfl | rfl | rfl | rfl | rfl | rfl
  · exact w_c0
  · exact w_c1
  · exact w_c2
  · exact w_c3
  · exact w_c4
  · exact w_c5
  · exact w_c6
  · exact w_c7
  · exact w_c8
  · exact w_c9
  · exact w_c10
  · exact w_c11
  · exact w_c12
  · exact w_c13
set_option maxRecDepth 65536 in
theorem w_t1 : (words1.take 24).all (fun c => isCode c || c.before args0 about1) = true := by decide +kernel
set_option maxRecDepth 65536 in
theorem w_t2 : ((words1.drop 24).take 24).all (fun c => isCode c || c.before args0 about1) = true := by decide +kernel
set_option maxRecDepth 65536 in
theorem w_t3 : (((words1.drop 24).drop 24).take 24).all (fun c => isCode c || c.before args0 about1) = true := by decide +kernel
set_option maxRecDepth 65536 in
theorem w_t4 : ((((words1.drop 24).drop 24).drop 24).take 24).all (fun c => isCode c || c.before args0 about1) = true := by decide +kernel
set_option maxRecDepth 65536 in
theorem w_t5 : ((((words1.drop 24).drop 24).drop 24).drop 24).all (fun c => isCode c || c.before args0 about1) = true := by decide +kernel
theorem w_tables : (allAtoms (Jvm.Cond.code x code maxLocals ret :: tables_1)).before args0 about1 = true := by
  rw [allAtoms_all]
  show words1.all (fun c => c.before args0 about1) = true
  refine all_split ?_ w_codes
  rw [← List.take_append_drop 24 words1, List.all_append, w_t1, ← List.take_append_drop 24 (words1.drop 24), List.all_append, w_t2, ← List.take_append_drop 24 ((words1.drop 24).drop 24), List.all_append, w_t3, ← List.take_append_drop 24 (((words1.drop 24).drop 24).drop 24), List.all_append, w_t4, w_t5]
  rfl
set_option maxRecDepth 65536 in
theorem w_rest : rest_1_c.before args0 about1 = true := by decide +kernel
set_option maxRecDepth 65536 in
theorem w_case : (Jvm.Cond.and given_1 narrow_1).before args0 about1 = true := by decide +kernel
theorem w_applies : (headSpec (Jvm.Cond.code x code maxLocals ret :: tables_1) room_1).applies x e0.platform about1 = true :=
  (Spec.applies_iff w_frames).mpr ⟨w_running, w_runnable, w_alone, w_named, w_hears, w_ripe, w_room, w_tables⟩
theorem atStart : AtStart classFile x code maxLocals ret World_1 tables_1 room_1 Calls_1 rest_1 Pre_1 launch0 p0 e0 about1 theMethod args0 below0 :=
  ⟨lists_1, trivial, launch0.admits_env _ _ _, launch0.least_env, fairChoices_fair.cas, fairChoices_fair.clock, w_frames, w_args, w_heap, w_applies, ⟨(by decide +kernel : framesKnown about1 = true), ⟨(by decide +kernel : tablesKnown about1 = true), trivial⟩⟩, w_rest, w_case⟩
end start1
theorem witness_1 : WitnessClaimed_1 := ⟨start1.p0, start1.e0, start1.about1, start1.theMethod, start1.args0, start1.below0, start1.atStart⟩
end Jvm.Pilot.@@N@@

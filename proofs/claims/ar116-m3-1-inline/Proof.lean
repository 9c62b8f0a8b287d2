import JvmDerived
import JvmDerived.Pilot.@@N@@Statement
import JvmDerived.Pilot.@@N@@Code
set_option linter.unusedVariables false
set_option linter.unusedSimpArgs false
@@BLOCK:TracedD.lean.txt@@
namespace Jvm.RoadKit
open Sem ClassFile Op Lib Jvm.Stand Jvm.Free Jvm.LawKit
section Own
variable {p : Program} {l : Launch} {e : Env} {R : Room} {s : State} {m : MethodId} {args : Array Value} {below : List Frame} {meth : Method} {c : Code} {T : State} {locs : List Loc} {cells slots : Nat} {Z : State} {h : Heap} {a b : Addr}
/-- a length as an int -/
abbrev iN (n : Nat) : Int32 := Int32.ofNat n
theorem iN_toInt {n : Nat} (h : n < 1000000) : (iN n).toInt = n := Int32.toInt_ofNat_of_lt (by omega)
theorem iN_nat {n : Nat} (h : n < 1000000) : (iN n).toNatClampNeg = n := by simp only [Int32.toNatClampNeg, iN_toInt h]; omega
theorem iN_nn {n : Nat} (h : n < 1000000) : ¬ iN n < 0 := by
  rw [Int32.lt_iff_toInt_lt, iN_toInt h]; have : (0 : Int32).toInt = 0 := rfl; omega
theorem iN_lt {a b : Nat} (ha : a < 1000000) (hb : b < 1000000) : iN a < iN b ↔ a < b := by rw [Int32.lt_iff_toInt_lt, iN_toInt ha, iN_toInt hb]; omega
theorem iN_eq {a b : Nat} (ha : a < 1000000) (hb : b < 1000000) : iN a = iN b ↔ a = b := by rw [← Int32.toInt_inj, iN_toInt ha, iN_toInt hb]; omega
theorem iN_add (a b : Nat) : iN a + iN b = iN (a + b) := (Int32.ofNat_add a b).symm
theorem iN_app (xs ys : List Value) : iN xs.length + iN ys.length = iN (xs ++ ys).length := by rw [iN_add, List.length_append]
theorem iN_sub {a b : Nat} (h : b ≤ a) (ha : a < 1000000) : iN a - iN b = iN (a - b) := by
  have q : iN a = iN (a - b) + iN b := by rw [iN_add, Nat.sub_add_cancel h]
  rw [q, Int32.add_sub_cancel]
theorem shr0 (x : Int32) : x >>> ((0 : Int32) &&& 31) = x := by
  rw [← Int32.toInt_inj, c_ishr x 0 0 (by decide)]; simp
theorem shl0 (x : Int32) : x <<< ((0 : Int32) &&& 31) = x := by
  have : (0 : Int32) &&& 31 = 0 := by decide
  rw [this]; exact Int32.shiftLeft_zero
theorem getD_rng (xs : List Value) (d : Value) (n i : Nat) : ((List.range n).map fun j => xs.getD (0 + j) d).getD i d = if i < n then xs.getD i d else d := by
  simp only [List.getD_eq_getElem?_getD, List.getElem?_map, Nat.zero_add]
  by_cases q : i < n
  · simp [List.getElem?_range q, q]
  · have q2 : (List.range n)[i]? = none := List.getElem?_eq_none (by simpa using q)
    simp [q2, q]
theorem rng_self (xs : List Value) (d : Value) : (List.range xs.length).map (fun j => xs.getD (0 + j) d) = xs := by
  apply List.ext_getElem
  · simp
  · intro i h1 h2; simp [List.getD_eq_getElem?_getD, List.getElem?_eq_getElem h2]
/-- arraycopy of a whole source behind what the other holds -/
theorem cpApp (X : Stand p l e R s m args below meth c T locs cells slots) (hx : p.tables.exec = Jvm.exec) (hZ : Z.Warmed39 s.vm) {a0 : Array Value} {own : String} {index : Nat} (hown : s.vm.findClass own = some m.cls)
    (w1 : (Cond.methodLink own index Jvm.Stand.acN).before a0 Z = true) (w2 : (Cond.native Jvm.Stand.acN).before a0 Z = true) (w3 : (Cond.static Jvm.Stand.acN).before a0 Z = true) (w4 : (Cond.initialized "java/lang/System").before a0 Z = true) (eT : T.heap = h)
    {k k' : ClassId} {ty : FieldType} {z z' : Int32} {ys xs : List Value} {dv dd : Value} (A : Arv Z h a k ty z ys dv) (B : Arv Z h b k' ty z' xs dd) (hty : refKind ty = false) {nx ny : Nat} (hnx : xs.length = nx) (hny : ys.length = ny)
    (hz : ny ≤ z.toNatClampNeg) (hz' : nx + ny ≤ z'.toNatClampNeg) (hb : nx + ny < 1000000) {n0 : Nat} (N : Fr n0 locs) (ge : n0 ≤ b)
    {g : JFrame} (hg : g.method = m) (hsize : g.locals.size = c.maxLocals) {rest : List Value} (hs : g.stack = .int (iN ny) :: .int (iN nx) :: .ref b :: .int 0 :: .ref a :: rest) (hd : decode c.code g.pc = .ok (.invokestatic index, 3))
    (hf : 1 ≤ R.frames) {W : Nat} (hW : 2 * g.monitorRoom + (rest.map fun v => v.category).sum ≤ W) (hlo : W + (nativeFrameWords "java/lang/System" "arraycopy" 5 + 11) ≤ R.locals) :
    ∃ T' h' L, Stand p l e R s m args below meth c T' L cells slots ∧ T'.heap = h' ∧ Fr n0 L ∧ Keep h h' [b] ∧ Arv Z h' b k' ty z' (xs ++ ys) dd ∧
      ∀ target, Steps p.tables e below (T'.setTop { g with pc := g.pc + 3, stack := rest }) target → Steps p.tables e below (T.setTop g) target := by
  subst hnx hny
  have n1 : (iN ys.length).toNatClampNeg = ys.length := iN_nat (by omega)
  have n2 : (iN xs.length).toNatClampNeg = xs.length := iN_nat (by omega)
  have n3 : (0 : Int32).toNatClampNeg = 0 := rfl
  obtain ⟨T', h', L, X', e', N', K, V, st⟩ := cpA X hx hZ hown w1 w2 w3 w4 eT A (B.pad (pad_rep xs dd ys.length)) (Or.inl ⟨rfl, hty⟩) (sp := 0) (dp := iN xs.length) (nn := iN ys.length) (us := ys) (by decide) (iN_nn (by omega)) (iN_nn (by omega)) (by rw [n1, n3]; omega) (by rw [n1, n2]; omega) (by rw [n1, n3]; exact (rng_self ys dv).symm) (by rw [n1, n2]; simp) N ge hg hsize hs hd hf hW hlo
  refine ⟨T', h', L, X', e', N', K, ?_, st⟩
  rw [n1, n2] at V
  have q : (xs ++ List.replicate ys.length dd).take xs.length ++ ys ++ (xs ++ List.replicate ys.length dd).drop (xs.length + ys.length) = xs ++ ys := by
    rw [List.take_left, List.drop_of_length_le (by simp)]; simp
  rw [q] at V; exact V
/-- arraycopy of the first nn places, which hold all that is known of the source, to the front of an array as it was made -/
theorem cpAll (X : Stand p l e R s m args below meth c T locs cells slots) (hx : p.tables.exec = Jvm.exec) (hZ : Z.Warmed39 s.vm) {a0 : Array Value} {own : String} {index : Nat} (hown : s.vm.findClass own = some m.cls)
    (w1 : (Cond.methodLink own index Jvm.Stand.acN).before a0 Z = true) (w2 : (Cond.native Jvm.Stand.acN).before a0 Z = true) (w3 : (Cond.static Jvm.Stand.acN).before a0 Z = true) (w4 : (Cond.initialized "java/lang/System").before a0 Z = true) (eT : T.heap = h)
    {k k' : ClassId} {ty : FieldType} {z z' : Int32} {xs : List Value} {dd : Value} {nn : Nat} (A : Arv Z h a k ty z xs dd) (B : Arv Z h b k' ty z' [] dd) (hty : refKind ty = false)
    (hx1 : xs.length ≤ nn) (hz : nn ≤ z.toNatClampNeg) (hz' : nn ≤ z'.toNatClampNeg) (hb : nn < 1000000) {n0 : Nat} (N : Fr n0 locs) (ge : n0 ≤ b)
    {g : JFrame} (hg : g.method = m) (hsize : g.locals.size = c.maxLocals) {rest : List Value} (hs : g.stack = .int (iN nn) :: .int 0 :: .ref b :: .int 0 :: .ref a :: rest) (hd : decode c.code g.pc = .ok (.invokestatic index, 3))
    (hf : 1 ≤ R.frames) {W : Nat} (hW : 2 * g.monitorRoom + (rest.map fun v => v.category).sum ≤ W) (hlo : W + (nativeFrameWords "java/lang/System" "arraycopy" 5 + 11) ≤ R.locals) :
    ∃ T' h' L, Stand p l e R s m args below meth c T' L cells slots ∧ T'.heap = h' ∧ Fr n0 L ∧ Keep h h' [b] ∧ Arv Z h' b k' ty z' xs dd ∧
      ∀ target, Steps p.tables e below (T'.setTop { g with pc := g.pc + 3, stack := rest }) target → Steps p.tables e below (T.setTop g) target := by
  have n1 : (iN nn).toNatClampNeg = nn := iN_nat hb
  have n3 : (0 : Int32).toNatClampNeg = 0 := rfl
  obtain ⟨T', h', L, X', e', N', K, V, st⟩ := cpA X hx hZ hown w1 w2 w3 w4 eT A (B.pad (pad_rep [] dd nn)) (Or.inl ⟨rfl, hty⟩) (sp := 0) (dp := 0) (nn := iN nn) (us := (List.range nn).map fun j => xs.getD (0 + j) dd) (by decide) (by decide) (iN_nn hb) (by rw [n1, n3]; omega) (by rw [n1, n3]; omega) (by rw [n1, n3]) (by rw [n1, n3]; simp) N ge hg hsize hs hd hf hW hlo
  refine ⟨T', h', L, X', e', N', K, ?_, st⟩
  rw [n1, n3] at V
  refine V.pad fun i => ?_
  have q : ([] ++ List.replicate nn dd).take 0 ++ ((List.range nn).map fun j => xs.getD (0 + j) dd) ++ ([] ++ List.replicate nn dd).drop (0 + nn) = (List.range nn).map fun j => xs.getD (0 + j) dd := by simp
  rw [q, getD_rng]
  split
  · rfl
  · rename_i q2; simp [List.getD_eq_getElem?_getD, List.getElem?_eq_none (show xs.length ≤ i by omega)]
def mx (x y : Nat) : Nat := if x < y then y else x
theorem mx_r {x y : Nat} (h : x < y) : mx x y = y := if_pos h
theorem mx_l {x y : Nat} (h : ¬ x < y) : mx x y = x := if_neg h
theorem mx_ge (x y : Nat) : x ≤ mx x y ∧ y ≤ mx x y := by unfold mx; split <;> omega
/-- the capacity of a builder once so much is to lie in it -/
def ncap (cap tot : Nat) : Nat := if tot ≤ cap then cap else cap + mx (tot - cap) (cap + 2)
theorem ncap_ge (cap tot : Nat) : cap ≤ ncap cap tot ∧ tot ≤ ncap cap tot := by
  have q := mx_ge (tot - cap) (cap + 2)
  unfold ncap; split <;> omega
theorem ncap_fit {cap tot : Nat} (h : tot ≤ cap) : ncap cap tot = cap := if_pos h
theorem ncap_grow {cap tot : Nat} (h : ¬ tot ≤ cap) : ncap cap tot = cap + mx (tot - cap) (cap + 2) := if_neg h
end Own
end Jvm.RoadKit
namespace Jvm.RoadKit
open Sem ClassFile Op Lib Bundle Jvm.Stand Jvm.Free Jvm.LawKit Jvm.Free.SB Jvm.Free.SBG
section OwnCH
variable {p : Program} {l : Launch} {e : Env} {R : Room} {s : State} {args : Array Value} {below : List Frame} {Z : State} {a0 : Array Value} {EL : List (String × Nat)} {h : Heap} {vm0 : Vm}
theorem cs0 : ∀ x ∈ ([] : List Addr), @LT.lt Nat _ x h.size ∧ Safe Z EL vm0 h x := fun _ q => nomatch q
theorem csS {x : Addr} {ss : List Addr} (n : @LT.lt Nat _ x h.size) (m : Safe Z EL vm0 h x) (r : ∀ y ∈ ss, @LT.lt Nat _ y h.size ∧ Safe Z EL vm0 h y) : ∀ y ∈ x :: ss, @LT.lt Nat _ y h.size ∧ Safe Z EL vm0 h y := fun y q => by
  rcases List.mem_cons.mp q with rfl | q
  · exact ⟨n, m⟩
  · exact r y q
/-- a callee that keeps the held constants, and is told that the addresses ss bear none of them; K: what its frames must know -/
theorem backCH {K : Program → Env → List Frame → State → Array Value → Prop} {y : MethodName} {bytes : ByteArray} {maxL : Nat} {ret : Option FieldType} {rm : Room} {len W : Nat} {as' : Array Value} {Q : Option Value → Heap → List Loc → Prop} {ss : List Addr}
    (hM : MetFree l y (head1 [Cond.code y bytes maxL ret] rm) (fun a U => a = as' ∧ Z.Warmed39 U.vm ∧ U.heap = h ∧ CHv Z EL U.vm h ∧ ∀ x ∈ ss, Safe Z EL U.vm h x) K (fun _ U o U' => ∃ v L, o = .returned v ∧ Q v U'.heap L ∧ CHr Z EL U.vm U.heap U'.vm U'.heap ∧ ReturnedEndW U o U' L rm.cells rm.slots))
    (hZ : Z.Warmed39 vm0) (wc : (Cond.code y bytes maxL ret).before a0 Z = true) (wz : (Cond.initialized y.cls).before a0 Z = true) (hf : rm.frames + 1 ≤ R.frames) (hl : W + (maxL + 11) + rm.locals ≤ R.locals) (hEL : EW Z a0 EL) (H : CHv Z EL vm0 h)
    (hs : ∀ x ∈ ss, @LT.lt Nat _ x h.size ∧ Safe Z EL vm0 h x)
    (hK : ∀ m meth c (A : Pt) a (g : JFrame) mk, Stand p l e R (s.setVm vm0) m args below meth c A.U A.locs A.cells A.slots → g.method = m → K p e (A.U.setTop g).frames (A.U.calling g mk a) a) :
    BackS l R p e below (s.setVm vm0) args y len W (fun A a => a = as' ∧ A.U.heap = h ∧ A.cells + rm.cells ≤ R.cells ∧ A.slots + rm.slots ≤ R.slots)
      (fun A _ v B => ∃ L, Q v B.U.heap L ∧ B.locs = A.locs ++ L ∧ B.cells = A.cells + rm.cells ∧ B.slots = A.slots + rm.slots ∧ CHr Z EL vm0 h B.U.vm B.U.heap) := by
  refine BackS.of_freeWG (bytes := bytes) (maxL := maxL) (ret := ret) (E := fun _ first o t L k n => k = rm.cells ∧ n = rm.slots ∧ (∃ v, o = .returned v ∧ Q v t.heap L) ∧ CHr Z EL first.vm first.heap t.vm t.heap) hM hf hl ?_ ?_ ?_ ?_ ?_
  · intro m meth c A a Y hp
    have hU : Z.Warmed39 A.U.vm := wtrans (s := s.setVm vm0) hZ Y.warmed
    exact ⟨by show (Cond.and _ .tt).before a A.U = true; rw [Cond.before_and, mv hU wc]; rfl, mv hU wc, mv hU wz, hp.2.2.1, hp.2.2.2⟩
  · intro m meth c A a g mk Y hp
    have q := CHv.at Y hZ hEL H
    exact ⟨hp.1, wtrans (s := s.setVm vm0) hZ Y.warmed, hp.2.1, q.1, fun x hx => q.safe (hs x hx).1 (hs x hx).2⟩
  · intro m meth c A a g mk Y _ hg; exact hK m meth c A a g mk Y hg
  · rintro _ _ _ _ ⟨v, L, h1, h2, h3, h4⟩; exact ⟨L, _, _, h4, rfl, rfl, ⟨v, h1, h2⟩, h3⟩
  · rintro m meth c A a g mk v t L k n Y hp _ _ ⟨e1, e2, ⟨v', e3, e4⟩, e5⟩
    cases e3; subst e1 e2
    refine ⟨L, e4, rfl, rfl, rfl, (CHv.at Y hZ hEL H).trans ?_⟩
    rw [← hp.2.1]; exact e5
end OwnCH
end Jvm.RoadKit
namespace Jvm.RoadKit
open Sem ClassFile Op Lib Jvm.Stand Jvm.Free Jvm.LawKit Bundle Jvm.Free.Exc
open LibCode.Throwable
/-- the words that the filling of a stack trace asks here, of an object of class rc -/
def thW (rc : String) : List Jvm.Cond := [
  .initialized tN, .superclass tN "java/lang/Object", .instanceMethod tFill, .codeSync tFill Fill.code 1 (some (.object tN)), .instanceMethod tFill0, .native tFill0,
  .instanceMethod oInit, .code oInit ⟨#[0xb1]⟩ 1 none, .methodLink tN 1 oInit, .methodLink tN 27 tFill, .methodLink tN 202 tFill0,
  .fieldLink tN 7 tN "cause" thD, .fieldLink tN 17 tN "stackTrace" steD, .fieldLink tN 24 tN "suppressedExceptions" listD, .fieldLink tN 198 tN "backtrace" obD,
  .fieldLink tN 13 tN "UNASSIGNED_STACK" steD, .laysStatic tN "UNASSIGNED_STACK" steD, .fieldLink tN 20 tN "SUPPRESSED_SENTINEL" listD, .laysStatic tN "SUPPRESSED_SENTINEL" listD,
  .lays rc tN "cause" thD, .lays rc tN "stackTrace" steD, .lays rc tN "suppressedExceptions" listD, .lays rc tN "detailMessage" msgD, .lays rc tN "backtrace" obD, .lays rc tN "depth" "I",
  .arrayOver (.object "java/lang/Object"), .soleField tN "backtrace", .soleField tN "depth", .selects rc tFill0 tFill0, .selects rc tFill tFill, .declares tFill]
section Fill
variable {p : Program} {l : Launch} {e : Env} {R : Room} {s : State} {m : MethodId} {args : Array Value} {below : List Frame} {meth : Method} {c : Code} {T : State} {locs : List Loc} {cells slots : Nat} {Z : State} {a0 : Array Value} {h h' : Heap}
/-- what the walk needs of Throwable's tables, out of those words -/
theorem thLinks {rc : String} {pl : Platform} (ho : pl.frameOwnsMonitors = true) (hfz : pl.finalization = false) (hpl : pl.magicAccessors = ({} : Platform).magicAccessors) (w : ∀ d ∈ thW rc, d.before a0 s = true) :
    ∃ (C : ThrowableC) (B : BackC), C.Links pl s ∧ B.Links C pl s ∧ s.vm.findClass tN = some C.cT ∧ s.methodNamed? tFill = some C.fill ∧ s.methodNamed? tFill0 = some C.fill0 ∧ (∃ i, s.fieldFound? tN "stackTrace" steD = some (C.cT, C.kT, i, C.fStack)) ∧ (∃ i, s.fieldFound? tN "UNASSIGNED_STACK" steD = some (C.cT, C.kT, i, C.fUnassigned)) ∧ (∃ i, s.fieldFound? tN "backtrace" obD = some (C.cT, C.kT, i, B.fBack)) ∧ C.kT.fields.find? (fun f => f.name == "backtrace" && !f.isStatic) = some B.fBack ∧ (∃ fd i, s.fieldFound? tN "depth" "I" = some (C.cT, C.kT, i, fd) ∧ C.kT.fields.find? (fun f => f.name == "depth" && !f.isStatic) = some fd) := by
  have g : ∀ (i : Nat) {d : Jvm.Cond}, (thW rc)[i]? = some d → d.holds a0 s none s [] = true := fun i d q => w d (List.mem_of_getElem? q)
  obtain ⟨⟨cT, j0⟩, me0, n0, m0, nat0, code0, lock0, sig0⟩ := Cond.native_spec (g 5 rfl)
  have fT : s.vm.findClass tN = some cT := findClass_of_methodNamed n0
  obtain ⟨kT, hkT, nameT⟩ := Vm.findClass_spec fT
  obtain ⟨_, k2, _, _, hk2, _, _, _, _, notI⟩ := Cond.superclass_spec fT (g 1 rfl)
  cases hkT.symm.trans hk2
  obtain ⟨jF, meF, nF, mF, atF, stF, abF, -, -⟩ := Cond.ownMethod (x := tFill) fT hkT (g 2 rfl)
  obtain ⟨meF', coF, mF', cF, byF, loF, reF, lkF, -, sigF⟩ := Cond.codeSync_spec nF (g 3 rfl)
  cases mF.symm.trans mF'
  obtain ⟨j0', me0', n0', m0', at0, st0, ab0, nm0, ds0⟩ := Cond.ownMethod (x := tFill0) fT hkT (g 4 rfl)
  cases n0.symm.trans n0'
  cases m0.symm.trans m0'
  obtain ⟨mo, meO, nO, mO, stO, abO⟩ := Cond.instanceMethod_spec (g 6 rfl)
  obtain ⟨meO', coO, mO', cO, byO, loO, -, lkO, -, sigO⟩ := Cond.code_spec nO (g 7 rfl)
  cases mO.symm.trans mO'
  obtain ⟨kO, hkO, nameO⟩ := Vm.findClass_spec (findClass_of_methodNamed nO)
  obtain ⟨nmO, dsO⟩ := name_of_methodNamed nO mO
  obtain ⟨x1, y1, cf, l1, r1, hcf, p1⟩ := Cond.linkedMethod fT hkT nO (g 8 rfl) pl hpl
  obtain ⟨x27, y27, cf2, l27, r27, hcf2, p27⟩ := Cond.linkedMethod fT hkT nF (g 9 rfl) pl hpl
  cases hcf.symm.trans hcf2
  obtain ⟨x202, y202, cf3, l202, r202, hcf3, p202⟩ := Cond.linkedMethod fT hkT n0 (g 10 rfl) pl hpl
  cases hcf.symm.trans hcf3
  obtain ⟨x7, i7, f7, lk7, rg7, at7, st7, fi7, -, -, -⟩ := Cond.ownField (t := .object tN) fT hkT (by decide +kernel) (g 11 rfl) (g 19 rfl) pl hpl
  obtain ⟨x17, i17, f17, lk17, rg17, at17, st17, fi17, nm17, -, ff17⟩ := Cond.ownField (t := .array (.object "java/lang/StackTraceElement")) fT hkT (by decide +kernel) (g 12 rfl) (g 20 rfl) pl hpl
  obtain ⟨x24, i24, f24, lk24, rg24, at24, st24, fi24, nm24, -, ff24⟩ := Cond.ownField (t := .object "java/util/List") fT hkT (by decide +kernel) (g 13 rfl) (g 21 rfl) pl hpl
  obtain ⟨x198, i198, f198, lk198, rg198, at198, st198, -, nm198, -, ff198⟩ := Cond.ownField (t := .object "java/lang/Object") fT hkT (by decide +kernel) (g 14 rfl) (g 23 rfl) pl hpl
  obtain ⟨x13, i13, f13, aS, cellS, lk13, rg13, at13, st13, -, -, hsta, -, -, -, -, ff13⟩ := Cond.ownStatic (t := .array (.object "java/lang/StackTraceElement")) fT hkT (by decide +kernel) (g 15 rfl) (g 16 rfl) pl hpl
  obtain ⟨x20, i20, f20, _, _, lk20, rg20, at20, st20, -, -, -, -, -, -, -, -⟩ := Cond.ownStatic (t := .object "java/util/List") fT hkT (by decide +kernel) (g 17 rfl) (g 18 rfl) pl hpl
  obtain ⟨_, _, _, _, _, fM, _, _, _, stM, fiM, -⟩ := Cond.lays_spec (g 22 rfl)
  obtain ⟨fd, id_, ffd, fdf⟩ : ∃ fd i, s.fieldFound? tN "depth" "I" = some (cT, kT, i, fd) ∧ kT.fields.find? (fun f => f.name == "depth" && !f.isStatic) = some fd := by
    obtain ⟨_, _, cD, kD, iD, fD, _, _, ffD, stD, -⟩ := Cond.lays_spec (g 24 rfl)
    cases fT.symm.trans (Cond.lays_declared (g 24 rfl) ffD)
    obtain ⟨hkD, atD⟩ := State.fieldFound?_spec ffD
    cases hkT.symm.trans hkD
    exact ⟨fD, iD, ffD, Cond.soleField_find fT hkT (g 27 rfl) atD (State.fieldFound?_type ffD (t := .int) (by decide +kernel)).1 stD⟩
  have apart : f17.slot ≠ f24.slot := by
    have q := slot_ne (Z := s) (a0 := a0) (C := rc) (O := tN) (O' := tN) (Or.inl (w _ (List.mem_of_getElem? (i := 20) rfl))) (Or.inl (w _ (List.mem_of_getElem? (i := 21) rfl))) (by decide) (t := .array (.object "java/lang/StackTraceElement")) (t' := .object "java/util/List") (by decide) (by decide)
    simpa [slotOf, ff17, ff24] using q
  have pF : meF.sig.parameters = [] := by
    have q : (parseMethodDescriptor tFill.desc).map (·.parameters) = some [] := by decide +kernel
    rw [sigF] at q; simpa using q
  have p0 : me0.sig.parameters = [.int] := by
    have q : (parseMethodDescriptor tFill0.desc).map (·.parameters) = some [.int] := by decide +kernel
    rw [sig0] at q; simpa using q
  have pO : meO.sig.parameters.length = 0 := by
    have q : (parseMethodDescriptor oInit.desc).map (·.parameters.length) = some 0 := by decide +kernel
    rw [sigO] at q; simpa using q
  refine ⟨{ cT := cT, kT := kT, cO := cT, aS := aS, fillIdx := jF, fill0Idx := j0, initSIdx := jF, obj := mo, kObj := kO, methFill := meF, methFill0 := me0, methInitS := meF, methObj := meO, codeFill := coF, codeInitS := coF, codeObj := coO, fBack := f198, fDepth := f198, fStack := f17, fCause := f7, fSupp := f24, fMsg := fM, fUnassigned := f13, fSentinel := f20, cfT := cf, ci1 := x1, n1 := y1, ci27 := x27, n27 := y27, ci202 := x202, n202 := y202, ci7 := x7, i7 := i7, ci13 := x13, i13 := i13, ci17 := x17, i17 := i17, ci20 := x20, i20 := i20, ci24 := x24, i24 := i24 }, { ci198 := x198, i198 := i198, fBack := f198 }, ?_, ⟨lk198, rg198, at198, st198⟩, fT, nF, n0, ⟨i17, ff17⟩, ⟨i13, ff13⟩, ⟨i198, ff198⟩, Cond.soleField_find fT hkT (g 26 rfl) at198 nm198 st198, fd, id_, ffd, fdf⟩
  constructor
  case owns => exact ho
  case noFinalization => exact hfz
  case cls => exact hkT
  case name => exact nameT
  case boot => exact Vm.findClass_boot fT hkT
  case notInterface => exact notI
  case initialized => exact Cond.initialized_spec fT hkT (g 0 rfl)
  case objFound => show lookupSpecial _ _ "<init>" meO.desc = _; rw [dsO]; exact lookupSpecial_of_named nO mO stO
  all_goals assumption
theorem slotOf_at {C n d : String} {c i : Nat} {k : Class} {f : Field} (hZ : Z.Warmed39 s.vm) (hf : s.fieldFound? C n d = some (c, k, i, f)) : slotOf Z C n d = f.slot := by
  obtain ⟨c5, k5, i5, q⟩ := Jvm.Free.BdW.found_ride (U := s) (U' := Z) hZ.alike.symm ⟨c, k, i, hf⟩
  simp [slotOf, q]
set_option maxHeartbeats 4000000 in
/-- fillInStackTrace() on an object that the walk has made: Throwable's own six slots of it alone may differ, one cell is made -/
theorem fillL (X : Stand p l e R s m args below meth c T locs cells slots) (hx : p.tables.exec = Jvm.exec) (hl : l.stackTraces = true) (hZ : Z.Warmed39 s.vm) (hown : s.vm.findClass tN = some m.cls) {rc : String} {n : Nat} (w : ∀ d ∈ thW rc, d.before a0 Z = true) (wn : (Cond.instantiable rc n).before a0 Z = true)
    (hTK : s.vm.MethodsKnown) (hBelow : s.vm.FramesKnown below) (hT0 : ThS Z s.heap) (eT : T.heap = h) {a ua : Addr} (E : Exa Z h a rc) (N : Unt h a) (F : Fld Z h a tN "stackTrace" steD (.ref ua)) (B : Fld Z h a tN "backtrace" obD .null) (S : Sta Z h tN "UNASSIGNED_STACK" steD (.ref ua))
    {g : JFrame} (hg : g.method = m) (hsize : g.locals.size = c.maxLocals) {rest : List Value} (hs : g.stack = .ref a :: rest) (hd : decode c.code g.pc = .ok (.invokevirtual 27, 3)) {W : Nat} (hW : 2 * g.monitorRoom + (rest.map fun v => v.category).sum ≤ W) (hf : 3 ≤ R.frames) (hlo : W + 42 ≤ R.locals) (hc : cells + 1 ≤ R.cells) (hsl : slots + 2752 ≤ R.slots) :
    ∃ (T' : State) (h' : Heap), Stand p l e R s m args below meth c T' (locs ++ sixLocs Z a) (cells + 1) (slots + 2752) ∧ T'.heap = h' ∧ Kp Z h h' a ∧
      ∀ target, Steps p.tables e below (T'.setTop { g with pc := g.pc + 3, stack := .ref a :: rest }) target → Steps p.tables e below (T.setTop g) target := by
  have ok : (thW rc).all xOk = true := rfl
  have ws : ∀ d ∈ thW rc, d.before args s = true := fun d hd => mvX hT0 hZ (List.all_eq_true.mp ok d hd) (w d hd)
  have g' : ∀ (i : Nat) {d : Jvm.Cond}, (thW rc)[i]? = some d → d.before args s = true := fun i d q => ws d (List.mem_of_getElem? q)
  have htr : e.platform.stackTraces = true := by rw [X.admits.platform]; exact hl
  obtain ⟨C, Bk, L, LB, fT, nF, n0, ⟨i17, f17⟩, ⟨i13, f13⟩, ⟨i198, f198⟩, hfb, fd, idd, ffd, hfd⟩ := thLinks (rc := rc) (a0 := args) (s := s) (pl := e.platform) (by rw [X.admits.platform]) (by rw [X.admits.platform]) (by rw [X.admits.platform]) ws
  obtain ⟨cell, u1, u2, u3⟩ := N
  obtain ⟨cell1, k, x1, x2, x3, -, x5⟩ := E
  cases u1.symm.trans x1
  obtain ⟨c2, k2, y1, y2, y3, -⟩ := Cond.instantiable_spec wn
  cases x2.symm.trans y1
  cases x3.symm.trans y2
  obtain ⟨kS, hkS, eS⟩ := hZ.alike.2.2 _ _ x3
  have hfound : s.vm.findClass rc = some cell.cls := by rw [hZ.alike.findClass]; exact x2
  have hord : kS.kind = .ordinary := by rw [eS]; exact y3
  have hsz : cell.slots.size = kS.instanceTypes.size := by rw [eS]; exact x5 y3
  have tk : ∀ {f : Field} {v : Value}, Jvm.Takes s (freshCell cell.cls kS) f v → Jvm.Takes s cell f v := fun {f v} q => ⟨by have q1 := q.1; simp only [freshCell, Array.size_map] at q1; rw [hsz]; exact q1, by have q2 := q.2; simp only [freshCell] at q2; rw [u2]; exact q2⟩
  obtain ⟨cell2, _, _, _, fF, z1, z2, -, -, -, -, z7⟩ := F
  cases u1.symm.trans z1
  obtain ⟨_, z3, -⟩ := State.fieldFound?_setVm (s := Z) hZ.alike z2
  cases f17.symm.trans z3
  obtain ⟨cell3, _, _, _, fB, v1, v2, -, -, -, -, v7⟩ := B
  cases u1.symm.trans v1
  obtain ⟨_, v3, -⟩ := State.fieldFound?_setVm (s := Z) hZ.alike v2
  cases f198.symm.trans v3
  obtain ⟨_, _, kU, fU, st, cellS, r1, -, -, r4, r5, r6, r7⟩ := S
  obtain ⟨kU', r3, rk⟩ := State.fieldFound?_setVm (s := Z) hZ.alike r1
  cases f13.symm.trans r3
  have haS : C.aS = st := by
    have q := L.statics
    rw [rk] at q
    exact (Option.some.inj (q.symm.trans r4))
  have hneS : C.aS ≠ a := fun q => by
    rw [haS] at q; subst q; cases u1.symm.trans r5; rw [u2] at r6; cases r6
  obtain ⟨comp, cO, kO, -, -, hkO, hkind, hfO⟩ := Cond.arrayOver_spec (g' 25 rfl)
  have lay : ∀ {nm d : String} {f : Field} {c' i : Nat} {k' : Class}, s.fieldFound? tN nm d = some (c', k', i, f) → (Cond.lays rc tN nm d).before args s = true → ∀ {v : Value}, fits f.type v = true → Jvm.Takes s cell f v := fun hf' hl' v hv => tk (Takes.of_laid hkS hord (Cond.laysAt hfound hkS hf' hl').1 hv)
  have tyB := (State.fieldFound?_type f198 (t := .object "java/lang/Object") (by decide +kernel)).2
  have tyS := (State.fieldFound?_type f17 (t := .array (.object "java/lang/StackTraceElement")) (by decide +kernel)).2
  have tyD := (State.fieldFound?_type ffd (t := .int) (by decide +kernel)).2
  have hsel0 : selectMethod e.platform s.vm cell.cls C.fill0 = .method C.fill0 := by
    obtain ⟨c3, r0, m2, q1, q2, q3, q4, -⟩ := Cond.selects_spec (g' 28 rfl)
    cases q1.symm.trans hfound
    cases q2.symm.trans (State.methodFound?_of_named n0 (by decide))
    cases q3.symm.trans n0
    rw [Launch.admits_selectMethod X.admits]; exact q4
  have hSE := g' 29 rfl
  obtain ⟨v6, vm6, ⟨T6, L6, c6, n6⟩, hW6, X6, ⟨hv6, vm7, lines, hlines, hW7, hU6, hL6, hc6, hn6⟩, come⟩ := X.virtualBack hx (own := tN) (C := rc) (index := 27) (y := tFill) (z := tFill) hown (g' 9 rfl) (g' 30 rfl) (notFace_of_selects hSE) hSE (g' 2 rfl) (by decide)
    (Jvm.Free.Str.fillPays (l := l) (W := W) hx htr C L nF (u0 := ⟨.ref ua, rfl⟩) (by simp) (self := a) (cell := cell) (cellS := cellS) (fun q => by rw [u2]; simp) (by rw [u2]; simp) (by rw [u3]) (by rw [u3]) z7 hsel0 hneS (fun q => by rw [q] at r6; cases r6) r7
      (lay f17 (g' 20 rfl) (by rw [tyS]; rfl)) ⟨Bk, LB, v7⟩ hTK hBelow fT hfO hkO hkind hfb hfd (fun x => lay f198 (g' 23 rfl) (by rw [tyB]; rfl)) (fun x => lay ffd (g' 24 rfl) (by rw [tyD]; rfl)) hf hlo)
    hfound (b := a) ⟨cell, by rw [eT]; exact u1, rfl, by rw [u2]; rfl⟩ (g := g) hg hsize (Steps.refl _) (argsL := []) (rest := rest)
    (fun sig q => by rw [show parseMethodDescriptor tFill.desc = some ⟨[], some (.object tN)⟩ from by decide +kernel] at q; rw [← Option.some.inj q]; rfl) hs hW hd
    (fun vmx hWx => ⟨rfl, hc, hsl, by show T.heap[a]? = _; rw [eT]; exact u1, by show T.heap[C.aS]? = _; rw [eT, haS]; exact r5⟩)
  dsimp only [Pt.U, Pt.locs, Pt.cells, Pt.slots] at X6 hU6 hL6 hc6 hn6 come
  subst hv6 hL6 hc6 hn6
  have eh : T6.heap = (h.push (traceHolder cO lines)).setIfInBounds a (Jvm.Free.Str.filledOn C.toThrowableT Bk.fBack fd cell ⟨.ref ua, rfl⟩ T.heap.size lines.length.toInt32) := by
    rw [hU6, ← eT]; rfl
  have s1 := slotOf_at hZ f198
  have s2 := slotOf_at hZ ffd
  have s3 := slotOf_at hZ f17
  have K : Kp Z h T6.heap a := by
    refine ⟨by rw [eh]; simp, fun y cy hy => ?_⟩
    have hlt := (Array.getElem?_eq_some_iff.mp hy).1
    have hp : (h.push (traceHolder cO lines))[y]? = some cy := by rw [Array.getElem?_push_lt hlt]; exact (Array.getElem?_eq_getElem _).symm.trans hy
    by_cases q : y = a
    · subst q
      cases u1.symm.trans hy
      refine ⟨Jvm.Free.Str.filledOn C.toThrowableT Bk.fBack fd cell ⟨.ref ua, rfl⟩ T.heap.size lines.length.toInt32, by rw [eh]; simp [Nat.lt_succ_of_lt hlt], rfl, by simp [Jvm.Free.Str.filledOn, Cell.setSlot], fun z => absurd rfl z, fun i hi => ?_⟩
      have a1 := hi ("backtrace", obD) (by simp [sixNames])
      have a2 := hi ("depth", "I") (by simp [sixNames])
      have a3 := hi ("stackTrace", steD) (by simp [sixNames])
      rw [s1] at a1
      rw [s2] at a2
      rw [s3] at a3
      simp [Jvm.Free.Str.filledOn, Cell.setSlot, Array.getElem?_setIfInBounds, a1, a2, a3]
    · refine ⟨cy, by rw [eh, Array.getElem?_setIfInBounds_ne (Ne.symm q)]; exact hp, rfl, rfl, fun _ => rfl, fun _ _ => rfl⟩
  have hx6 : ∀ x ∈ ([⟨a, Bk.fBack.slot⟩, ⟨a, fd.slot⟩, ⟨a, C.fStack.slot⟩] : List Loc), x ∈ sixLocs Z a := fun x q => by
    simp only [List.mem_cons, List.not_mem_nil, or_false] at q
    rcases q with rfl | rfl | rfl
    · exact List.mem_map.mpr ⟨("backtrace", obD), by simp [sixNames], by rw [s1]⟩
    · exact List.mem_map.mpr ⟨("depth", "I"), by simp [sixNames], by rw [s2]⟩
    · exact List.mem_map.mpr ⟨("stackTrace", steD), by simp [sixNames], by rw [s3]⟩
  refine ⟨T6, _, ({ X6 with same := X6.same.sift fun x q => Or.inl ((List.mem_append.mp q).elim (List.mem_append_left _) fun q => List.mem_append_right _ (hx6 x q)) } : Stand p l e R s m args below meth c T6 (locs ++ sixLocs Z a) (cells + 1) (slots + (traceHolder cO lines).slots.size)).more (Nat.le_refl _) (Nat.add_le_add_left (traceHolder_size_le cO hlines) _), rfl, K, fun target q => come.trans q⟩
/-- a field of the class's own lies apart from Throwable's six -/
theorem six_apart {rc O n d : String} {ty : FieldType} (w : ∀ x ∈ thW rc, x.before a0 Z = true) (Lf : Laid Z a0 rc O n d) (ht : parseFieldDescriptor d = some ty) (hn : ∀ nd ∈ sixNames, nd.1 ≠ n) : ∀ nd ∈ sixNames, slotOf Z tN nd.1 nd.2 ≠ slotOf Z O n d := fun nd hm => by
  have q := hn nd hm
  simp only [sixNames, List.mem_cons, List.not_mem_nil, or_false] at hm
  rcases hm with rfl | rfl | rfl | rfl | rfl | rfl
  · exact slot_ne (Or.inl (w _ (List.mem_of_getElem? (i := 19) rfl))) Lf q (t := .object tN) (by decide) ht
  · exact slot_ne (Or.inl (w _ (List.mem_of_getElem? (i := 20) rfl))) Lf q (t := .array (.object "java/lang/StackTraceElement")) (by decide) ht
  · exact slot_ne (Or.inl (w _ (List.mem_of_getElem? (i := 21) rfl))) Lf q (t := .object "java/util/List") (by decide) ht
  · exact slot_ne (Or.inl (w _ (List.mem_of_getElem? (i := 23) rfl))) Lf q (t := .object "java/lang/Object") (by decide) ht
  · exact slot_ne (Or.inl (w _ (List.mem_of_getElem? (i := 24) rfl))) Lf q (t := .int) (by decide) ht
  · exact slot_ne (Or.inl (w _ (List.mem_of_getElem? (i := 22) rfl))) Lf q (t := .object "java/lang/String") (by decide) ht
end Fill
end Jvm.RoadKit
namespace Jvm.RoadKit
open Sem ClassFile Op Lib Jvm.Stand Jvm.Free Jvm.LawKit
section New
variable {p : Program} {l : Launch} {e : Env} {R : Room} {s : State} {m : MethodId} {args : Array Value} {below : List Frame} {meth : Method} {c : Code} {T : State} {locs : List Loc} {cells slots : Nat}
theorem retI (X : Stand p l e R s m args below meth c T locs cells slots) (hx : p.tables.exec = Jvm.exec) {pc : Nat} {Ls : Array Slot} {z : Int32} {rest : List Value} (hret : meth.sig.returnType = some .int) (hd : decode c.code pc = .ok (.ireturn, 1)) {fs : List Frame}
    (hl : ∀ (f : JFrame) (acts : List Action), f.method = m → f.locked = none → f.entered = [] → (doReturn e (T.setTop f) acts (some (.int z))).1 = T.setFrames fs) : Steps p.tables e below (T.setTop (mkF m pc Ls (.int z :: rest))) (T.setFrames fs) := by
  have hm' : T.vm.method? m = some meth := X.method'
  have hn : narrow .int (.int z) = .int z := rfl
  show Steps p.tables e below (T.setTop { method := m, pc := pc, locals := Ls, stack := _ :: rest, locked := none }) _
  jvm_step X.here [X.here.top, hx, hd, hm', hret, hn]
  first | (intro acts; rw [hl _ acts rfl rfl rfl]) | rw [hl _ _ rfl rfl rfl]
  exact Steps.refl _
end New
end Jvm.RoadKit
namespace Jvm.Pilot.@@N@@
open Jvm Jvm.ClassFile Sem Op Lib Jvm.Free Jvm.Stand Jvm.LawKit Jvm.RoadKit Bundle Jvm.Pilot.@@N@@.Jvm.D
abbrev SS (p : Program) (e : Env) (below : List Frame) (T : State) (f : JFrame) (t : State) : Prop := Steps p.tables e below (T.setTop f) t
variable {pP : Program} {eE : Env} {sS : State} {mM : MethodId} {argS : Array Value} {bS : List Frame} {methS : Method} {cC : Code} {s₁ : State} {lc0 : List Loc} {cl0 sl0 : Nat}
set_option maxRecDepth 65536
set_option maxHeartbeats 40000000
theorem segle {c k a d R : Nat} (h : c + d ≤ R) (q : k + a ≤ d) : c + k + a ≤ R := by omega
theorem ble {a b : Nat} (h : Nat.ble a b = true) : a ≤ b := Nat.le_of_ble_eq_true h
abbrev HW (a0 : Array Value) (Z : State) : Prop := ∀ d ∈ tables_1, d.before a0 Z = true
theorem wi {Z : State} {a0 : Array Value} (hw : HW a0 Z) (i : Nat) {d : Jvm.Cond} (h : tables_1[i]? = some d) : d.before a0 Z = true := hw _ (List.mem_of_getElem? h)
theorem own_sle {a b : Nat} (h : a ≤ b) (hb : b < 1000000) : ¬ ((0 : Int32) < (iN a) - (iN b)) := by
  rw [Int32.lt_iff_toInt_lt, Int32.toInt_sub, iN_toInt (by omega), iN_toInt hb]
  have e : (0 : Int32).toInt = 0 := rfl
  have q := bm32 ((a : Int) - b)
  have r := rng32 ((iN a) - (iN b))
  rw [Int32.toInt_sub, iN_toInt (by omega), iN_toInt hb] at r
  omega
theorem own_sgt {a b : Nat} (h : b < a) (ha : a < 1000000) : (0 : Int32) < (iN a) - (iN b) := by
  rw [iN_sub (by omega) ha, Int32.lt_iff_toInt_lt, iN_toInt (by omega)]
  have e : (0 : Int32).toInt = 0 := rfl
  omega
theorem own_pos {a : Nat} (h : 0 < a) (ha : a < 1000000) : (0 : Int32) < (iN a) := by
  rw [Int32.lt_iff_toInt_lt, iN_toInt ha]; have e : (0 : Int32).toInt = 0 := rfl; omega
theorem own_big {a : Nat} (ha : a < 1000000) : ¬ ((2147483639 : Int32) < (iN a)) := by
  rw [Int32.lt_iff_toInt_lt, iN_toInt ha]; have e : (2147483639 : Int32).toInt = 2147483639 := rfl; omega
theorem own_max {a : Nat} (ha : a < 1000000) : ¬ ((iN a) = (2147483647 : Int32)) := by
  rw [← Int32.toInt_inj, iN_toInt ha]; have e : (2147483647 : Int32).toInt = 2147483647 := rfl; omega
theorem own_unpad {Z : State} {h : Heap} {a : Addr} {k : ClassId} {ty : FieldType} {z : Int32} {d : Value} (n : Nat) (V : Arv Z h a k ty z (List.replicate n d) d) : Arv Z h a k ty z [] d := V.pad fun i => by
  simp only [List.getD_eq_getElem?_getD, List.getElem?_replicate]
  by_cases q : i < n <;> simp [q]
theorem own_push {xs : List Value} {d v : Value} {n : Nat} (h : xs.length = n) : (xs ++ List.replicate 1 d).set n v = xs ++ [v] := by subst h; simp
theorem own_rt (x : Int32) : ((x &&& (255 : Int32)).toInt8.toInt32 &&& (255 : Int32)) = x &&& (255 : Int32) := by
  have h1 := c_and x 255 (by decide)
  have e : (255 : Int32).toInt = 255 := by decide
  rw [← Int32.toInt_inj, c_mask _ 255 8 (by decide) (by decide)]
  have h2 := c_i2b (x &&& 255)
  have h3 : ((2 ^ 8 : Nat) : Int) = 256 := by decide
  rw [h3]
  omega
theorem own_retc (v : Int32) : (some (Value.int (nar .char (v &&& (255 : Int32)))) : Option Value) = some (.int (v &&& (255 : Int32))) := by
  show some (Value.int ((v &&& 255).toUInt32.toUInt16.toUInt32.toInt32)) = _
  rw [i2c_mask]
theorem own_and3 (x : Int32) : (x &&& (3 : Int32)) = 0 ∨ (x &&& (3 : Int32)) = 1 ∨ (x &&& (3 : Int32)) = 2 ∨ (x &&& (3 : Int32)) = 3 := by
  have h1 := c_and x 3 (by decide)
  have e : (3 : Int32).toInt = 3 := by decide
  rw [e] at h1
  have h0 : (x &&& 3).toInt = 0 ∨ (x &&& 3).toInt = 1 ∨ (x &&& 3).toInt = 2 ∨ (x &&& 3).toInt = 3 := by omega
  rcases h0 with q | q | q | q
  · exact Or.inl (Int32.toInt_inj.mp (by rw [q]; rfl))
  · exact Or.inr (Or.inl (Int32.toInt_inj.mp (by rw [q]; rfl)))
  · exact Or.inr (Or.inr (Or.inl (Int32.toInt_inj.mp (by rw [q]; rfl))))
  · exact Or.inr (Or.inr (Or.inr (Int32.toInt_inj.mp (by rw [q]; rfl))))
theorem own_decl {Z : State} {a0 : Array Value} {y : MethodName} {bytes : ByteArray} {ml : Nat} {rt : Option FieldType} (w1 : (Jvm.Cond.instanceMethod y).before a0 Z = true) (w2 : (Jvm.Cond.code y bytes ml rt).before a0 Z = true) : (Jvm.Cond.declares y).before a0 Z = true := by
  obtain ⟨m, meth, hn, hm, hst, -⟩ := Cond.instanceMethod_spec w1
  obtain ⟨meth', c, q1, -, -, -, -, -, -, hsig⟩ := Cond.code_spec hn w2
  cases hm.symm.trans q1
  simp [Cond.before, Cond.holds, Cond.value, hn, hm, hst, hsig]
theorem own_nf {s : State} {y z : MethodName} (h : NotFace s y) (hy : ∃ r, s.methodNamed? y = some r) (e : y.cls = z.cls) : NotFace s z := fun r0 h0 => by
  obtain ⟨r, hr⟩ := hy
  have e1 := findClass_of_methodNamed hr
  have e2 := findClass_of_methodNamed h0
  rw [e] at e1
  obtain ⟨k, q1, q2⟩ := h r hr
  exact ⟨k, by rw [← Option.some.inj (e1.symm.trans e2)]; exact q1, q2⟩
theorem own_same {Z : State} {a0 : Array Value} {y : MethodName} (hy : y.cls ≠ "java/lang/invoke/MethodHandle" ∧ y.cls ≠ "java/lang/invoke/VarHandle") (w1 : (Jvm.Cond.instanceMethod y).before a0 Z = true) (nf : NotFace Z y) : (Jvm.Cond.sameMethod y.cls y.cls y.name y.desc).before a0 Z = true := by
  obtain ⟨m, meth, hn, hm, hst, -⟩ := Cond.instanceMethod_spec w1
  have hf := State.methodFound?_of_named hn hy
  have hc := findClass_of_methodNamed hn
  obtain ⟨k, q1, q2⟩ := nf m hn
  simp [Cond.before, Cond.holds, Cond.value, hc, hf, hn, q1, q2]
abbrev c42_152 := jdk_42_method_152_code
theorem d42_152_0 : decode c42_152 0 = .ok (.getstatic 38, 3) := by decide +kernel
theorem d42_152_3 : decode c42_152 3 = .ok (.ifCond .eq 10, 3) := by decide +kernel
theorem d42_152_6 : decode c42_152 6 = .ok (.aload_n 0, 1) := by decide +kernel
theorem d42_152_7 : decode c42_152 7 = .ok (.getfield 15, 3) := by decide +kernel
theorem d42_152_10 : decode c42_152 10 = .ok (.goto 4, 3) := by decide +kernel
theorem d42_152_14 : decode c42_152 14 = .ok (.ireturn, 1) := by decide +kernel
abbrev r0_0_0_0 : Room := { frames := 0, cells := 0, slots := 0, locals := 0 }
abbrev y0_ : MethodName := ⟨"java/lang/String", "coder", "()B"⟩
theorem pn_java_lang_String : plainName "java/lang/String" = true := by first | (simp [plainName, overriddenIn]; done) | decide +kernel
def Q_coder (Z : State) (t : Addr) (cs : Int32) (h0 : Heap) (n0 : Nat) (xv : Option Value) (xh : Heap) (xL : List Loc) : Prop := xv = some (.int (0 : Int32)) ∧ Fr n0 xL ∧ xh = h0
theorem ef_coder (mM : MethodId) (t : Addr) (cs : Int32) : entryFrame mM #[(.ref t)] 1 = mkF mM 0 #[.val (.ref t)] [] := by
  first | (simp [entryFrame, mkF, argsToLocals, Value.category]; done) | rfl
theorem rm_coder (l : Launch) (Z : State) (a0 : Array Value) (hw : HW a0 Z) (ws : List Jvm.Cond) (t : Addr) (cs : Int32) (h0 : Heap) (n0 : Nat) (Z0 : n0 ≤ h0.size) (F_coder_t : Fld Z h0 t "java/lang/String" "coder" "B" (.int (0 : Int32))) (OL : Old Z n0 h0) (S_COMPACT_STRINGS : Sta Z Z.heap "java/lang/String" "COMPACT_STRINGS" "Z" (.int cs)) (hcs : ¬ (cs = (0 : Int32))) :
    MetFree l y0_ (head1 (Jvm.Cond.code y0_ jdk_42_method_152_code 1 (some .byte) :: ws) r0_0_0_0) (fun xa xU => xa = #[(.ref t)] ∧ Z.Warmed39 xU.vm ∧ xU.heap = h0) (fun _ _ _ _ _ => True) (fun _ xU xo xU' => ∃ xv xL, xo = .returned xv ∧ Q_coder Z t cs h0 n0 xv xU'.heap xL ∧ FrameEnd xU xo xU' xL r0_0_0_0.cells r0_0_0_0.slots) := by
  refine MetFree.of_bodySF (plainFor_of_name pn_java_lang_String) hisR ?_
  intro pP eE sS mM argS bS methS cC s₁ Bd hml0 hP hK
  obtain ⟨rfl, hZ, hh⟩ := hP
  have hx := Bd.exec
  have hby := Bd.bytes
  have hml : cC.maxLocals = 1 := hml0
  have hown : sS.vm.findClass "java/lang/String" = some mM.cls := findClass_of_methodNamed Bd.named
  have hnm := (name_of_methodNamed Bd.named Bd.method).1
  have X0 : Stand pP l eE r0_0_0_0 sS mM #[(.ref t)] bS methS cC s₁ [] 0 0 := Stand.of_body Bd
  have e0 : s₁.heap = h0 := by rw [← hh, Bd.state]; rfl
  have N0 := Fr.nil n0
  have c101_S_COMPACT_STRINGS : Sta Z h0 "java/lang/String" "COMPACT_STRINGS" "Z" (.int cs) := Sta.ext OL.2 S_COMPACT_STRINGS
  obtain ⟨T102, X102, e102, st102⟩ := getS2 X0 hx hZ hown (host := "") (Or.inl (wi hw 67 rfl)) Via.refl e0 c101_S_COMPACT_STRINGS (g := (mkF mM 0 #[.val (.ref t)] [])) rfl (hb hby d42_152_0)
  obtain ⟨T103, X103, e103, st103⟩ := getF X102 hx hZ hown (host := "") (Or.inl (wi hw 21 rfl)) Via.refl e102 F_coder_t (g := (mkF mM 7 #[.val (.ref t)] [(.ref t)])) rfl rfl (hb hby d42_152_7)
  obtain ⟨fs, hr, hrun, hended, hW, hsame⟩ := X103.leave (v := some (.int (0 : Int32))) (fun h => by rw [Bd.returns] at h; cases h)
  refine ⟨_, _, castTop (ef_coder mM t cs) ?_, hrun, hended, _, _, rfl, ?_, ⟨_, rfl⟩, hW, hsame.mono (by decide) (by decide)⟩
  · show SS pP eE bS s₁ (mkF mM 0 #[.val (.ref t)] []) _
    refine st102 _ ?_
    show SS pP eE bS T102 (mkF mM 3 #[.val (.ref t)] [(.int cs)]) _
    refine XS.ifNo X102.here hx rfl (hb hby d42_152_3) rfl ((if0 _ _).trans (feq hcs).1) ?_
    refine XS.aloadN X102.here hx rfl (hb hby d42_152_6) rfl rfl ?_
    show SS pP eE bS T102 (mkF mM 7 #[.val (.ref t)] [(.ref t)]) _
    refine st103 _ ?_
    show SS pP eE bS T103 (mkF mM 10 #[.val (.ref t)] [(.int (0 : Int32))]) _
    refine XS.goto X103.here hx rfl (pc0 := 10) (pc' := 14) rfl (hb hby d42_152_10) (by decide) (by decide) ?_
    show SS pP eE bS T103 (mkF mM 14 #[.val (.ref t)] [(.int (0 : Int32))]) _
    exact retN X103 hx (t := .byte) Bd.returns (by simp) (hb hby d42_152_14) hr
  · show Q_coder Z t cs h0 n0 _ T103.heap _
    rw [e103]
    exact ⟨rfl, N0, rfl⟩
abbrev c42_54 := jdk_42_method_54_code
theorem d42_54_0 : decode c42_54 0 = .ok (.aload_n 0, 1) := by decide +kernel
theorem d42_54_1 : decode c42_54 1 = .ok (.getfield 9, 3) := by decide +kernel
theorem d42_54_4 : decode c42_54 4 = .ok (.arraylength, 1) := by decide +kernel
theorem d42_54_5 : decode c42_54 5 = .ok (.aload_n 0, 1) := by decide +kernel
theorem d42_54_6 : decode c42_54 6 = .ok (.invokevirtual 335, 3) := by decide +kernel
theorem pd_8 : parseMethodDescriptor "()B" = some ⟨[], some .byte⟩ := by decide +kernel
theorem d42_54_9 : decode c42_54 9 = .ok (.ishr, 1) := by decide +kernel
theorem d42_54_10 : decode c42_54 10 = .ok (.ireturn, 1) := by decide +kernel
abbrev r1_0_0_13 : Room := { frames := 1, cells := 0, slots := 0, locals := 13 }
abbrev y1_ : MethodName := ⟨"java/lang/String", "length", "()I"⟩
def Q_length (Z : State) (t : Addr) (tb : Addr) (tk : ClassId) (z : Nat) (ys : List Value) (cs : Int32) (h0 : Heap) (n0 : Nat) (xv : Option Value) (xh : Heap) (xL : List Loc) : Prop := xv = some (.int (iN z)) ∧ Fr n0 xL ∧ xh = h0
theorem ef_length (mM : MethodId) (t : Addr) (tb : Addr) (tk : ClassId) (z : Nat) (ys : List Value) (cs : Int32) : entryFrame mM #[(.ref t)] 1 = mkF mM 0 #[.val (.ref t)] [] := by
  first | (simp [entryFrame, mkF, argsToLocals, Value.category]; done) | rfl
theorem rm_length (l : Launch) (Z : State) (a0 : Array Value) (hw : HW a0 Z) (ws : List Jvm.Cond) (t : Addr) (tb : Addr) (tk : ClassId) (z : Nat) (ys : List Value) (cs : Int32) (h0 : Heap) (n0 : Nat) (Z0 : n0 ≤ h0.size) (E_t : Exa Z h0 t "java/lang/String") (F_value_t : Fld Z h0 t "java/lang/String" "value" "[B" (.ref tb)) (F_coder_t : Fld Z h0 t "java/lang/String" "coder" "B" (.int (0 : Int32))) (V_tb : Arv Z h0 tb tk .byte (iN z) ys (.int (0 : Int32))) (OL : Old Z n0 h0) (S_COMPACT_STRINGS : Sta Z Z.heap "java/lang/String" "COMPACT_STRINGS" "Z" (.int cs)) (hcs : ¬ (cs = (0 : Int32))) :
    MetFree l y1_ (head1 (Jvm.Cond.code y1_ jdk_42_method_54_code 1 (some .int) :: ws) r1_0_0_13) (fun xa xU => xa = #[(.ref t)] ∧ Z.Warmed39 xU.vm ∧ xU.heap = h0) (fun _ _ _ _ _ => True) (fun _ xU xo xU' => ∃ xv xL, xo = .returned xv ∧ Q_length Z t tb tk z ys cs h0 n0 xv xU'.heap xL ∧ FrameEnd xU xo xU' xL r1_0_0_13.cells r1_0_0_13.slots) := by
  refine MetFree.of_bodySF (plainFor_of_name pn_java_lang_String) hisR ?_
  intro pP eE sS mM argS bS methS cC s₁ Bd hml0 hP hK
  obtain ⟨rfl, hZ, hh⟩ := hP
  have hx := Bd.exec
  have hby := Bd.bytes
  have hml : cC.maxLocals = 1 := hml0
  have hown : sS.vm.findClass "java/lang/String" = some mM.cls := findClass_of_methodNamed Bd.named
  have hnm := (name_of_methodNamed Bd.named Bd.method).1
  have X0 : Stand pP l eE r1_0_0_13 sS mM #[(.ref t)] bS methS cC s₁ [] 0 0 := Stand.of_body Bd
  have e0 : s₁.heap = h0 := by rw [← hh, Bd.state]; rfl
  have N0 := Fr.nil n0
  obtain ⟨T101, X101, e101, st101⟩ := getF X0 hx hZ hown (host := "") (Or.inl (wi hw 20 rfl)) Via.refl e0 F_value_t (g := (mkF mM 1 #[.val (.ref t)] [(.ref t)])) rfl rfl (hb hby d42_54_1)
  obtain ⟨cl102, Ar102, q102, S102, Ng102, Ha102, Ga102⟩ := id V_tb
  obtain ⟨cq103, kq103, q103a, q103b, q103c⟩ := isOf hZ e101 E_t
  obtain ⟨_, _, ⟨T103, L103, k103, n103⟩, -, X103, ⟨Lc103, hQ103, l103, y103, z103⟩, st103⟩ := X101.virtualBack hx (y := y0_) (z := y0_) hown (mvT hZ (wi hw 62 rfl)) (mvT hZ (wi hw 63 rfl)) (notFace_of_selects (args := #[]) (mvT hZ (wi hw 65 rfl))) (mvT hZ (wi hw 65 rfl)) (mvT hZ (wi hw 64 rfl)) (by decide) (backOf (W := 1) (rm_coder l Z a0 hw [] t cs h0 n0 (by omega) F_coder_t OL S_COMPACT_STRINGS hcs) hZ (wi hw 66 rfl) (wi hw 2 rfl) (by decide) (by decide)) q103a q103c (g := (mkF mM 6 #[.val (.ref t)] [(.ref t), (.int (iN z))])) rfl (by rw [hml]; rfl) (Steps.refl _) (argsL := []) (rest := [(.int (iN z))]) (lenOf pd_8 rfl) rfl (by show 2 * 0 + _ ≤ _; exact Nat.le_of_eq rfl) (hb hby d42_54_6) (fun _ _ => ⟨rfl, e101, ble rfl, ble rfl⟩)
  dsimp only [Pt.U, Pt.locs, Pt.cells, Pt.slots] at X103 l103 y103 z103 st103 hQ103
  subst y103 z103
  obtain ⟨h103, e103⟩ : ∃ z, T103.heap = z := ⟨_, rfl⟩
  rw [e103] at hQ103
  obtain ⟨rfl, N103q, eq103⟩ := hQ103
  rw [eq103] at e103
  have N103 : Fr n0 L103 := by rw [l103]; exact Fr.app N0 N103q
  obtain ⟨fs, hr, hrun, hended, hW, hsame⟩ := X103.leave (v := some (.int (iN z))) (fun h => by rw [Bd.returns] at h; cases h)
  refine ⟨_, _, castTop (ef_length mM t tb tk z ys cs) ?_, hrun, hended, _, _, rfl, ?_, ⟨_, rfl⟩, hW, hsame.mono (by decide) (by decide)⟩
  · show SS pP eE bS s₁ (mkF mM 0 #[.val (.ref t)] []) _
    refine XS.aloadN X0.here hx rfl (hb hby d42_54_0) rfl rfl ?_
    show SS pP eE bS s₁ (mkF mM 1 #[.val (.ref t)] [(.ref t)]) _
    refine st101 _ ?_
    show SS pP eE bS T101 (mkF mM 4 #[.val (.ref t)] [(.ref tb)]) _
    refine X101.arraylength hx (by rw [e101]; exact Ar102.1) (State.isArrayOf_alike hZ.alike Ar102.2.1) (g := (mkF mM 4 #[.val (.ref t)] [(.ref tb)])) rfl rfl (hb hby d42_54_4) _ ?_
    rw [len_of S102 Ng102]
    show SS pP eE bS T101 (mkF mM 5 #[.val (.ref t)] [(.int (iN z))]) _
    refine XS.aloadN X101.here hx rfl (hb hby d42_54_5) rfl rfl ?_
    show SS pP eE bS T101 (mkF mM 6 #[.val (.ref t)] [(.ref t), (.int (iN z))]) _
    refine st103.trans ?_
    show SS pP eE bS T103 (mkF mM 9 #[.val (.ref t)] [(.int (0 : Int32)), (.int (iN z))]) _
    refine XS.ishr X103.here hx rfl (hb hby d42_54_9) rfl ?_
    show SS pP eE bS T103 (mkF mM 10 #[.val (.ref t)] [(.int ((iN z) >>> ((0 : Int32) &&& 31)))]) _
    rw [show ((iN z) >>> ((0 : Int32) &&& 31)) = (iN z) from shr0 _]
    show SS pP eE bS T103 (mkF mM 10 #[.val (.ref t)] [(.int (iN z))]) _
    exact retI X103 hx Bd.returns (hb hby d42_54_10) hr
  · show Q_length Z t tb tk z ys cs h0 n0 _ T103.heap _
    rw [e103]
    exact ⟨rfl, N103, rfl⟩
abbrev c68_2 := jdk_68_method_2_code
theorem d68_2_0 : decode c68_2 0 = .ok (.aload_n 0, 1) := by decide +kernel
theorem d68_2_1 : decode c68_2 1 = .ok (.invokespecial 3, 3) := by decide +kernel
theorem d68_2_4 : decode c68_2 4 = .ok (.getstatic 18, 3) := by decide +kernel
theorem d68_2_7 : decode c68_2 7 = .ok (.ifCond .eq 18, 3) := by decide +kernel
theorem d68_2_10 : decode c68_2 10 = .ok (.aload_n 0, 1) := by decide +kernel
theorem d68_2_11 : decode c68_2 11 = .ok (.iload_n 1, 1) := by decide +kernel
theorem d68_2_12 : decode c68_2 12 = .ok (.newarray .byte, 2) := by decide +kernel
theorem d68_2_14 : decode c68_2 14 = .ok (.putfield 15, 3) := by decide +kernel
theorem d68_2_17 : decode c68_2 17 = .ok (.aload_n 0, 1) := by decide +kernel
theorem d68_2_18 : decode c68_2 18 = .ok (.iconst 0, 1) := by decide +kernel
theorem d68_2_19 : decode c68_2 19 = .ok (.putfield 22, 3) := by decide +kernel
theorem d68_2_22 : decode c68_2 22 = .ok (.goto 16, 3) := by decide +kernel
theorem d68_2_38 : decode c68_2 38 = .ok (.return_, 1) := by decide +kernel
abbrev r1_1_16_12 : Room := { frames := 1, cells := 1, slots := 16, locals := 12 }
abbrev y2_ : MethodName := ⟨"java/lang/AbstractStringBuilder", "<init>", "(I)V"⟩
theorem pn_java_lang_AbstractStringBuilder : plainName "java/lang/AbstractStringBuilder" = true := by first | (simp [plainName, overriddenIn]; done) | decide +kernel
def Q_asb_init (Z : State) (o : Addr) (u1 : Value) (u2 : Value) (u3 : Value) (cs : Int32) (h0 : Heap) (n0 : Nat) (xv : Option Value) (xh : Heap) (xL : List Loc) : Prop := ∃ b : Addr, ∃ k : ClassId, xv = none ∧ Fr n0 xL ∧ Keep h0 xh [o] ∧ Exa Z xh o "java/lang/StringBuilder" ∧ Fld Z xh o "java/lang/AbstractStringBuilder" "value" "[B" (.ref b) ∧ Fld Z xh o "java/lang/AbstractStringBuilder" "coder" "B" (.int (0 : Int32)) ∧ Fld Z xh o "java/lang/AbstractStringBuilder" "count" "I" u3 ∧ Arv Z xh b k .byte (iN 16) [] (.int (0 : Int32)) ∧ @LE.le Nat _ h0.size b
theorem ef_asb_init (mM : MethodId) (o : Addr) (u1 : Value) (u2 : Value) (u3 : Value) (cs : Int32) : entryFrame mM #[(.ref o), (.int (16 : Int32))] 2 = mkF mM 0 #[.val (.ref o), .val (.int (16 : Int32))] [] := by
  first | (simp [entryFrame, mkF, argsToLocals, Value.category]; done) | rfl
theorem rm_asb_init (l : Launch) (Z : State) (a0 : Array Value) (hw : HW a0 Z) (ws : List Jvm.Cond) (o : Addr) (u1 : Value) (u2 : Value) (u3 : Value) (cs : Int32) (h0 : Heap) (n0 : Nat) (Z0 : n0 ≤ h0.size) (E_o : Exa Z h0 o "java/lang/StringBuilder") (F_value_o : Fld Z h0 o "java/lang/AbstractStringBuilder" "value" "[B" u1) (F_coder_o : Fld Z h0 o "java/lang/AbstractStringBuilder" "coder" "B" u2) (F_count_o : Fld Z h0 o "java/lang/AbstractStringBuilder" "count" "I" u3) (g_o : @LE.le Nat _ n0 o) (OL : Old Z n0 h0) (S_COMPACT_STRINGS : Sta Z Z.heap "java/lang/String" "COMPACT_STRINGS" "Z" (.int cs)) (hcs : ¬ (cs = (0 : Int32))) :
    MetFree l y2_ (head1 (Jvm.Cond.code y2_ jdk_68_method_2_code 2 none :: ws) r1_1_16_12) (fun xa xU => xa = #[(.ref o), (.int (16 : Int32))] ∧ Z.Warmed39 xU.vm ∧ xU.heap = h0) (fun _ _ _ _ _ => True) (fun _ xU xo xU' => ∃ xv xL, xo = .returned xv ∧ Q_asb_init Z o u1 u2 u3 cs h0 n0 xv xU'.heap xL ∧ FrameEnd xU xo xU' xL r1_1_16_12.cells r1_1_16_12.slots) := by
  refine MetFree.of_bodySF (plainFor_of_name pn_java_lang_AbstractStringBuilder) hisR ?_
  intro pP eE sS mM argS bS methS cC s₁ Bd hml0 hP hK
  obtain ⟨rfl, hZ, hh⟩ := hP
  have hx := Bd.exec
  have hby := Bd.bytes
  have hml : cC.maxLocals = 2 := hml0
  have hown : sS.vm.findClass "java/lang/AbstractStringBuilder" = some mM.cls := findClass_of_methodNamed Bd.named
  have hnm := (name_of_methodNamed Bd.named Bd.method).1
  have X0 : Stand pP l eE r1_1_16_12 sS mM #[(.ref o), (.int (16 : Int32))] bS methS cC s₁ [] 0 0 := Stand.of_body Bd
  have e0 : s₁.heap = h0 := by rw [← hh, Bd.state]; rfl
  have N0 := Fr.nil n0
  obtain ⟨T101, X101, e101, st101⟩ := initO X0 hx hZ hown (wi hw 40 rfl) (wi hw 12 rfl) (wi hw 13 rfl) e0 (g := (mkF mM 1 #[.val (.ref o), .val (.int (16 : Int32))] [(.ref o)])) rfl (by rw [hml]; rfl) rfl (hb hby d68_2_1) (by decide) (W := 0) (by show 2 * 0 + _ ≤ _; exact Nat.le_of_eq rfl) (by decide)
  have c102_S_COMPACT_STRINGS : Sta Z h0 "java/lang/String" "COMPACT_STRINGS" "Z" (.int cs) := Sta.ext OL.2 S_COMPACT_STRINGS
  obtain ⟨T103, X103, e103, st103⟩ := getS2 X101 hx hZ hown (host := "") (Or.inl (wi hw 41 rfl)) Via.refl e101 c102_S_COMPACT_STRINGS (g := (mkF mM 4 #[.val (.ref o), .val (.int (16 : Int32))] [])) rfl (hb hby d68_2_4)
  obtain ⟨T104, h104, k104, X104, e104, E104, A104, st104⟩ := newP X103 hx hZ (wi hw 15 rfl) e103 (g := (mkF mM 12 #[.val (.ref o), .val (.int (16 : Int32))] [(.int (16 : Int32)), (.ref o)])) rfl (hb hby d68_2_12) rfl (by decide) (cap := 16) (by decide) (by decide) (by decide) (by decide)
  obtain ⟨b104, g104⟩ : ∃ z : Nat, z = h0.size := ⟨_, rfl⟩
  rw [← g104] at A104 st104
  have Sz1 : h0.size ≤ h104.size := E104.1
  have V_b104 : Arv Z h104 b104 k104 .byte (16 : Int32) [(.int (0 : Int32)), (.int (0 : Int32)), (.int (0 : Int32)), (.int (0 : Int32)), (.int (0 : Int32)), (.int (0 : Int32)), (.int (0 : Int32)), (.int (0 : Int32)), (.int (0 : Int32)), (.int (0 : Int32)), (.int (0 : Int32)), (.int (0 : Int32)), (.int (0 : Int32)), (.int (0 : Int32)), (.int (0 : Int32)), (.int (0 : Int32))] (.int (0 : Int32)) := (Arv.new A104 (by decide)).pad (pad_rep [] (.int (0 : Int32)) 16)
  have c105_F_value_o : Fld Z h104 o "java/lang/AbstractStringBuilder" "value" "[B" u1 := Fld.ext E104 F_value_o
  have c106_E_o : Exa Z h104 o "java/lang/StringBuilder" := Exa.ext E104 E_o
  obtain ⟨T107, h107, X107, e107, W107, st107⟩ := putF X104 hx hZ hown (host := "") (Or.inl (wi hw 42 rfl)) Via.refl e104 c105_F_value_o c106_E_o (Or.inl (wi hw 43 rfl)) (wi hw 29 rfl) (ty := (.array .byte)) (by decide) rfl rfl (g := (mkF mM 14 #[.val (.ref o), .val (.int (16 : Int32))] [(.ref b104), (.ref o)])) rfl rfl (hb hby d68_2_14)
  have Sz2 : h104.size ≤ h107.size := Nat.le_of_eq (Wr.size W107).symm
  have Fw107 : Fld Z h107 o "java/lang/AbstractStringBuilder" "value" "[B" (.ref b104) := Fld.same W107 c105_F_value_o
  have N107 := Fr.snoc X107 N0 g_o
  have c108_F_coder_o : Fld Z h104 o "java/lang/AbstractStringBuilder" "coder" "B" u2 := Fld.ext E104 F_coder_o
  have c109_F_coder_o : Fld Z h107 o "java/lang/AbstractStringBuilder" "coder" "B" u2 := Fld.other W107 c108_F_coder_o (Or.inr (slot_ne (Or.inl (wi hw 45 rfl)) (Or.inl (wi hw 43 rfl)) (by decide) (t := .byte) (t' := (.array .byte)) (by decide) (by decide)))
  have c110_E_o : Exa Z h107 o "java/lang/StringBuilder" := Exa.wr W107 c106_E_o
  obtain ⟨T111, h111, X111, e111, W111, st111⟩ := putFN X107 hx hZ hown (wi hw 44 rfl) Via.refl e107 c109_F_coder_o c110_E_o (Or.inl (wi hw 45 rfl)) (wi hw 29 rfl) (ty := .byte) (v' := (.int (0 : Int32))) (by decide) (rfl) (rfl) (g := (mkF mM 19 #[.val (.ref o), .val (.int (16 : Int32))] [(.int (0 : Int32)), (.ref o)])) rfl rfl (hb hby d68_2_19)
  have Sz3 : h107.size ≤ h111.size := Nat.le_of_eq (Wr.size W111).symm
  have Fw111 : Fld Z h111 o "java/lang/AbstractStringBuilder" "coder" "B" (.int (0 : Int32)) := Fld.same W111 c109_F_coder_o
  have N111 := Fr.snoc X111 N107 g_o
  have c112_F_value_o : Fld Z h111 o "java/lang/AbstractStringBuilder" "value" "[B" (.ref b104) := Fld.other W111 Fw107 (Or.inr (slot_ne (Or.inl (wi hw 43 rfl)) (Or.inl (wi hw 45 rfl)) (by decide) (t := (.array .byte)) (t' := .byte) (by decide) (by decide)))
  have lt_b104 : @LT.lt Nat _ b104 h104.size := V_b104.lt
  have lt_o : @LT.lt Nat _ o h0.size := E_o.lt
  have ne_b104_o_113 : b104 ≠ o := (by omega : @Ne Nat b104 o)
  have c114_V_b104 : Arv Z h107 b104 k104 .byte (16 : Int32) [(.int (0 : Int32)), (.int (0 : Int32)), (.int (0 : Int32)), (.int (0 : Int32)), (.int (0 : Int32)), (.int (0 : Int32)), (.int (0 : Int32)), (.int (0 : Int32)), (.int (0 : Int32)), (.int (0 : Int32)), (.int (0 : Int32)), (.int (0 : Int32)), (.int (0 : Int32)), (.int (0 : Int32)), (.int (0 : Int32)), (.int (0 : Int32))] (.int (0 : Int32)) := V_b104.other W107 ne_b104_o_113
  have c115_V_b104 : Arv Z h111 b104 k104 .byte (16 : Int32) [(.int (0 : Int32)), (.int (0 : Int32)), (.int (0 : Int32)), (.int (0 : Int32)), (.int (0 : Int32)), (.int (0 : Int32)), (.int (0 : Int32)), (.int (0 : Int32)), (.int (0 : Int32)), (.int (0 : Int32)), (.int (0 : Int32)), (.int (0 : Int32)), (.int (0 : Int32)), (.int (0 : Int32)), (.int (0 : Int32)), (.int (0 : Int32))] (.int (0 : Int32)) := c114_V_b104.other W111 ne_b104_o_113
  have Vz : Arv Z h111 b104 k104 .byte (iN 16) [] (.int (0 : Int32)) := own_unpad 16 c115_V_b104
  have c116_E_o : Exa Z h111 o "java/lang/StringBuilder" := Exa.wr W111 c110_E_o
  have c117_F_count_o : Fld Z h104 o "java/lang/AbstractStringBuilder" "count" "I" u3 := Fld.ext E104 F_count_o
  have c118_F_count_o : Fld Z h107 o "java/lang/AbstractStringBuilder" "count" "I" u3 := Fld.other W107 c117_F_count_o (Or.inr (slot_ne (Or.inl (wi hw 69 rfl)) (Or.inl (wi hw 43 rfl)) (by decide) (t := .int) (t' := (.array .byte)) (by decide) (by decide)))
  have c119_F_count_o : Fld Z h111 o "java/lang/AbstractStringBuilder" "count" "I" u3 := Fld.other W111 c118_F_count_o (Or.inr (slot_ne (Or.inl (wi hw 69 rfl)) (Or.inl (wi hw 45 rfl)) (by decide) (t := .int) (t' := .byte) (by decide) (by decide)))
  have K120 : Keep h0 h104 [o] := (Keep.refl h0 [o]).ext E104
  have K121 : Keep h0 h107 [o] := K120.wr W107 (Or.inl (List.mem_of_getElem? (i := 0) rfl))
  have K122 : Keep h0 h111 [o] := K121.wr W111 (Or.inl (List.mem_of_getElem? (i := 0) rfl))
  obtain ⟨fs, hr, hrun, hended, hW, hsame⟩ := X111.leave (v := none) (fun _ => rfl)
  refine ⟨_, _, castTop (ef_asb_init mM o u1 u2 u3 cs) ?_, hrun, hended, _, _, rfl, ?_, ⟨_, rfl⟩, hW, hsame.mono (by decide) (by decide)⟩
  · show SS pP eE bS s₁ (mkF mM 0 #[.val (.ref o), .val (.int (16 : Int32))] []) _
    refine XS.aloadN X0.here hx rfl (hb hby d68_2_0) rfl rfl ?_
    show SS pP eE bS s₁ (mkF mM 1 #[.val (.ref o), .val (.int (16 : Int32))] [(.ref o)]) _
    refine st101 _ ?_
    show SS pP eE bS T101 (mkF mM 4 #[.val (.ref o), .val (.int (16 : Int32))] []) _
    refine st103 _ ?_
    show SS pP eE bS T103 (mkF mM 7 #[.val (.ref o), .val (.int (16 : Int32))] [(.int cs)]) _
    refine XS.ifNo X103.here hx rfl (hb hby d68_2_7) rfl ((if0 _ _).trans (feq hcs).1) ?_
    refine XS.aloadN X103.here hx rfl (hb hby d68_2_10) rfl rfl ?_
    refine XS.iloadN X103.here hx rfl (hb hby d68_2_11) rfl ?_
    show SS pP eE bS T103 (mkF mM 12 #[.val (.ref o), .val (.int (16 : Int32))] [(.int (16 : Int32)), (.ref o)]) _
    refine st104 _ ?_
    show SS pP eE bS T104 (mkF mM 14 #[.val (.ref o), .val (.int (16 : Int32))] [(.ref b104), (.ref o)]) _
    refine st107 _ ?_
    show SS pP eE bS T107 (mkF mM 17 #[.val (.ref o), .val (.int (16 : Int32))] []) _
    refine XS.aloadN X107.here hx rfl (hb hby d68_2_17) rfl rfl ?_
    refine XS.iconst X107.here hx rfl (hb hby d68_2_18) ?_
    show SS pP eE bS T107 (mkF mM 19 #[.val (.ref o), .val (.int (16 : Int32))] [(.int (0 : Int32)), (.ref o)]) _
    refine st111 _ ?_
    show SS pP eE bS T111 (mkF mM 22 #[.val (.ref o), .val (.int (16 : Int32))] []) _
    refine XS.goto X111.here hx rfl (pc0 := 22) (pc' := 38) rfl (hb hby d68_2_22) (by decide) (by decide) ?_
    show SS pP eE bS T111 (mkF mM 38 #[.val (.ref o), .val (.int (16 : Int32))] []) _
    exact X111.returnOut hx Bd.returns (hb hby d68_2_38) hr
  · show Q_asb_init Z o u1 u2 u3 cs h0 n0 _ T111.heap _
    rw [e111]
    exact ⟨b104, k104, rfl, N111, K122, c116_E_o, c112_F_value_o, Fw111, c119_F_count_o, Vz, (by omega)⟩
abbrev c67_1 := jdk_67_method_1_code
theorem d67_1_0 : decode c67_1 0 = .ok (.aload_n 0, 1) := by decide +kernel
theorem d67_1_1 : decode c67_1 1 = .ok (.bipush 16, 2) := by decide +kernel
theorem d67_1_3 : decode c67_1 3 = .ok (.invokespecial 1, 3) := by decide +kernel
theorem pd_4 : parseMethodDescriptor "(I)V" = some ⟨[.int], none⟩ := by decide +kernel
theorem d67_1_6 : decode c67_1 6 = .ok (.return_, 1) := by decide +kernel
abbrev r2_1_16_25 : Room := { frames := 2, cells := 1, slots := 16, locals := 25 }
abbrev y3_ : MethodName := ⟨"java/lang/StringBuilder", "<init>", "()V"⟩
theorem pn_java_lang_StringBuilder : plainName "java/lang/StringBuilder" = true := by first | (simp [plainName, overriddenIn]; done) | decide +kernel
def Q_sb_init (Z : State) (o : Addr) (u1 : Value) (u2 : Value) (u3 : Value) (cs : Int32) (h0 : Heap) (n0 : Nat) (xv : Option Value) (xh : Heap) (xL : List Loc) : Prop := ∃ b : Addr, ∃ k : ClassId, xv = none ∧ Fr n0 xL ∧ Keep h0 xh [o] ∧ Exa Z xh o "java/lang/StringBuilder" ∧ Fld Z xh o "java/lang/AbstractStringBuilder" "value" "[B" (.ref b) ∧ Fld Z xh o "java/lang/AbstractStringBuilder" "coder" "B" (.int (0 : Int32)) ∧ Fld Z xh o "java/lang/AbstractStringBuilder" "count" "I" u3 ∧ Arv Z xh b k .byte (iN 16) [] (.int (0 : Int32)) ∧ @LE.le Nat _ h0.size b
theorem ef_sb_init (mM : MethodId) (o : Addr) (u1 : Value) (u2 : Value) (u3 : Value) (cs : Int32) : entryFrame mM #[(.ref o)] 1 = mkF mM 0 #[.val (.ref o)] [] := by
  first | (simp [entryFrame, mkF, argsToLocals, Value.category]; done) | rfl
theorem rm_sb_init (l : Launch) (Z : State) (a0 : Array Value) (hw : HW a0 Z) (ws : List Jvm.Cond) (o : Addr) (u1 : Value) (u2 : Value) (u3 : Value) (cs : Int32) (h0 : Heap) (n0 : Nat) (Z0 : n0 ≤ h0.size) (E_o : Exa Z h0 o "java/lang/StringBuilder") (F_value_o : Fld Z h0 o "java/lang/AbstractStringBuilder" "value" "[B" u1) (F_coder_o : Fld Z h0 o "java/lang/AbstractStringBuilder" "coder" "B" u2) (F_count_o : Fld Z h0 o "java/lang/AbstractStringBuilder" "count" "I" u3) (g_o : @LE.le Nat _ n0 o) (OL : Old Z n0 h0) (S_COMPACT_STRINGS : Sta Z Z.heap "java/lang/String" "COMPACT_STRINGS" "Z" (.int cs)) (hcs : ¬ (cs = (0 : Int32))) :
    MetFree l y3_ (head1 (Jvm.Cond.code y3_ jdk_67_method_1_code 1 none :: ws) r2_1_16_25) (fun xa xU => xa = #[(.ref o)] ∧ Z.Warmed39 xU.vm ∧ xU.heap = h0) (fun _ _ _ _ _ => True) (fun _ xU xo xU' => ∃ xv xL, xo = .returned xv ∧ Q_sb_init Z o u1 u2 u3 cs h0 n0 xv xU'.heap xL ∧ FrameEnd xU xo xU' xL r2_1_16_25.cells r2_1_16_25.slots) := by
  refine MetFree.of_bodySF (plainFor_of_name pn_java_lang_StringBuilder) hisR ?_
  intro pP eE sS mM argS bS methS cC s₁ Bd hml0 hP hK
  obtain ⟨rfl, hZ, hh⟩ := hP
  have hx := Bd.exec
  have hby := Bd.bytes
  have hml : cC.maxLocals = 1 := hml0
  have hown : sS.vm.findClass "java/lang/StringBuilder" = some mM.cls := findClass_of_methodNamed Bd.named
  have hnm := (name_of_methodNamed Bd.named Bd.method).1
  have X0 : Stand pP l eE r2_1_16_25 sS mM #[(.ref o)] bS methS cC s₁ [] 0 0 := Stand.of_body Bd
  have e0 : s₁.heap = h0 := by rw [← hh, Bd.state]; rfl
  have N0 := Fr.nil n0
  obtain ⟨_, _, ⟨T101, L101, k101, n101⟩, -, X101, ⟨Lc101, hQ101, l101, y101, z101⟩, st101⟩ := X0.specialBack hx (y := y2_) rfl hown (mvT hZ (wi hw 34 rfl)) (mvT hZ (wi hw 35 rfl)) (mvT hZ (wi hw 39 rfl)) (by decide) (backOf (W := 0) (rm_asb_init l Z a0 hw [] o u1 u2 u3 cs h0 n0 (by omega) E_o F_value_o F_coder_o F_count_o g_o OL S_COMPACT_STRINGS hcs) hZ (wi hw 39 rfl) (wi hw 38 rfl) (by decide) (by decide)) (g := (mkF mM 3 #[.val (.ref o)] [(.int (16 : Int32)), (.ref o)])) rfl (by rw [hml]; rfl) (Steps.refl _) (a := o) (argsL := [(.int (16 : Int32))]) (rest := []) (lenOf pd_4 rfl) rfl (by show 2 * 0 + _ ≤ _; exact Nat.le_of_eq rfl) (hb hby d67_1_3) (fun _ _ => ⟨rfl, e0, ble rfl, ble rfl⟩)
  dsimp only [Pt.U, Pt.locs, Pt.cells, Pt.slots] at X101 l101 y101 z101 st101 hQ101
  subst y101 z101
  obtain ⟨h101, e101⟩ : ∃ z, T101.heap = z := ⟨_, rfl⟩
  rw [e101] at hQ101
  obtain ⟨b_101, k_101, rfl, N101q, Kp101, p101_E_o, p101_F_value_o, p101_F_coder_o, p101_F_count_o, p101_V_b, p101_gh_b⟩ := hQ101
  have Sz1 : h0.size ≤ h101.size := Kp101.1
  have N101 : Fr n0 L101 := by rw [l101]; exact Fr.app N0 N101q
  have K102 : Keep h0 h101 [o] := (Keep.refl h0 [o]).trans Kp101 (allS (Or.inl (List.mem_of_getElem? (i := 0) rfl)) all0)
  obtain ⟨fs, hr, hrun, hended, hW, hsame⟩ := X101.leave (v := none) (fun _ => rfl)
  refine ⟨_, _, castTop (ef_sb_init mM o u1 u2 u3 cs) ?_, hrun, hended, _, _, rfl, ?_, ⟨_, rfl⟩, hW, hsame.mono (by decide) (by decide)⟩
  · show SS pP eE bS s₁ (mkF mM 0 #[.val (.ref o)] []) _
    refine XS.aloadN X0.here hx rfl (hb hby d67_1_0) rfl rfl ?_
    refine XS.bipush X0.here hx rfl (hb hby d67_1_1) ?_
    show SS pP eE bS s₁ (mkF mM 3 #[.val (.ref o)] [(.int (16 : Int32)), (.ref o)]) _
    refine st101.trans ?_
    show SS pP eE bS T101 (mkF mM 6 #[.val (.ref o)] []) _
    exact X101.returnOut hx Bd.returns (hb hby d67_1_6) hr
  · show Q_sb_init Z o u1 u2 u3 cs h0 n0 _ T101.heap _
    rw [e101]
    exact ⟨b_101, k_101, rfl, N101, K102, p101_E_o, p101_F_value_o, p101_F_coder_o, p101_F_count_o, p101_V_b, (by omega)⟩
abbrev c42_147 := jdk_42_method_147_code
theorem d42_147_0 : decode c42_147 0 = .ok (.aload_n 0, 1) := by decide +kernel
theorem d42_147_1 : decode c42_147 1 = .ok (.invokevirtual 335, 3) := by decide +kernel
theorem d42_147_4 : decode c42_147 4 = .ok (.iload_n 3, 1) := by decide +kernel
theorem d42_147_5 : decode c42_147 5 = .ok (.if_icmp .ne 23, 3) := by decide +kernel
theorem d42_147_8 : decode c42_147 8 = .ok (.aload_n 0, 1) := by decide +kernel
theorem d42_147_9 : decode c42_147 9 = .ok (.getfield 9, 3) := by decide +kernel
theorem d42_147_12 : decode c42_147 12 = .ok (.iconst 0, 1) := by decide +kernel
theorem d42_147_13 : decode c42_147 13 = .ok (.aload_n 1, 1) := by decide +kernel
theorem d42_147_14 : decode c42_147 14 = .ok (.iload_n 2, 1) := by decide +kernel
theorem d42_147_15 : decode c42_147 15 = .ok (.iload_n 3, 1) := by decide +kernel
theorem d42_147_16 : decode c42_147 16 = .ok (.ishl, 1) := by decide +kernel
theorem d42_147_17 : decode c42_147 17 = .ok (.aload_n 0, 1) := by decide +kernel
theorem d42_147_18 : decode c42_147 18 = .ok (.getfield 9, 3) := by decide +kernel
theorem d42_147_21 : decode c42_147 21 = .ok (.arraylength, 1) := by decide +kernel
theorem d42_147_22 : decode c42_147 22 = .ok (.invokestatic 212, 3) := by decide +kernel
theorem d42_147_25 : decode c42_147 25 = .ok (.goto 18, 3) := by decide +kernel
theorem d42_147_43 : decode c42_147 43 = .ok (.return_, 1) := by decide +kernel
abbrev r1_0_0_18 : Room := { frames := 1, cells := 0, slots := 0, locals := 18 }
abbrev y4_ : MethodName := ⟨"java/lang/String", "getBytes", "([BIB)V"⟩
def Q_getBytes (Z : State) (t : Addr) (tb : Addr) (tk : ClassId) (z : Nat) (ys : List Value) (b : Addr) (k : ClassId) (cap : Nat) (n : Nat) (xs : List Value) (cs : Int32) (h0 : Heap) (n0 : Nat) (xv : Option Value) (xh : Heap) (xL : List Loc) : Prop := xv = none ∧ Fr n0 xL ∧ Keep h0 xh [b] ∧ Arv Z xh b k .byte (iN cap) (xs ++ ys) (.int (0 : Int32))
abbrev Lc_getBytes_0 (t : Addr) (b : Addr) (n : Nat) : Array Slot := #[.val (.ref t), .val (.ref b), .val (.int (iN n)), .val (.int (0 : Int32))]
theorem ef_getBytes (mM : MethodId) (t : Addr) (tb : Addr) (tk : ClassId) (z : Nat) (ys : List Value) (b : Addr) (k : ClassId) (cap : Nat) (n : Nat) (xs : List Value) (cs : Int32) : entryFrame mM #[(.ref t), (.ref b), (.int (iN n)), (.int (0 : Int32))] 4 = mkF mM 0 #[.val (.ref t), .val (.ref b), .val (.int (iN n)), .val (.int (0 : Int32))] [] := by
  first | (simp [entryFrame, mkF, argsToLocals, Value.category]; done) | rfl
theorem rm_getBytes (l : Launch) (Z : State) (a0 : Array Value) (hw : HW a0 Z) (ws : List Jvm.Cond) (t : Addr) (tb : Addr) (tk : ClassId) (z : Nat) (ys : List Value) (b : Addr) (k : ClassId) (cap : Nat) (n : Nat) (xs : List Value) (cs : Int32) (h0 : Heap) (n0 : Nat) (Z0 : n0 ≤ h0.size) (E_t : Exa Z h0 t "java/lang/String") (F_value_t : Fld Z h0 t "java/lang/String" "value" "[B" (.ref tb)) (F_coder_t : Fld Z h0 t "java/lang/String" "coder" "B" (.int (0 : Int32))) (V_tb : Arv Z h0 tb tk .byte (iN z) ys (.int (0 : Int32))) (V_b : Arv Z h0 b k .byte (iN cap) xs (.int (0 : Int32))) (ne_t_b : @Ne Nat t b) (ne_tb_b : @Ne Nat tb b) (g_b : @LE.le Nat _ n0 b) (hn : xs.length = n) (hz : ys.length = z) (hB : n + z ≤ cap ∧ cap ≤ 128) (OL : Old Z n0 h0) (S_COMPACT_STRINGS : Sta Z Z.heap "java/lang/String" "COMPACT_STRINGS" "Z" (.int cs)) (hcs : ¬ (cs = (0 : Int32))) :
    MetFree l y4_ (head1 (Jvm.Cond.code y4_ jdk_42_method_147_code 4 none :: ws) r1_0_0_18) (fun xa xU => xa = #[(.ref t), (.ref b), (.int (iN n)), (.int (0 : Int32))] ∧ Z.Warmed39 xU.vm ∧ xU.heap = h0) (fun _ _ _ _ _ => True) (fun _ xU xo xU' => ∃ xv xL, xo = .returned xv ∧ Q_getBytes Z t tb tk z ys b k cap n xs cs h0 n0 xv xU'.heap xL ∧ FrameEnd xU xo xU' xL r1_0_0_18.cells r1_0_0_18.slots) := by
  refine MetFree.of_bodySF (plainFor_of_name pn_java_lang_String) hisR ?_
  intro pP eE sS mM argS bS methS cC s₁ Bd hml0 hP hK
  obtain ⟨rfl, hZ, hh⟩ := hP
  have hx := Bd.exec
  have hby := Bd.bytes
  have hml : cC.maxLocals = 4 := hml0
  have hown : sS.vm.findClass "java/lang/String" = some mM.cls := findClass_of_methodNamed Bd.named
  have hnm := (name_of_methodNamed Bd.named Bd.method).1
  have X0 : Stand pP l eE r1_0_0_18 sS mM #[(.ref t), (.ref b), (.int (iN n)), (.int (0 : Int32))] bS methS cC s₁ [] 0 0 := Stand.of_body Bd
  have e0 : s₁.heap = h0 := by rw [← hh, Bd.state]; rfl
  have N0 := Fr.nil n0
  obtain ⟨cq101, kq101, q101a, q101b, q101c⟩ := isOf hZ e0 E_t
  obtain ⟨_, _, ⟨T101, L101, k101, n101⟩, -, X101, ⟨Lc101, hQ101, l101, y101, z101⟩, st101⟩ := X0.virtualBack hx (y := y0_) (z := y0_) hown (mvT hZ (wi hw 62 rfl)) (mvT hZ (wi hw 63 rfl)) (notFace_of_selects (args := #[]) (mvT hZ (wi hw 65 rfl))) (mvT hZ (wi hw 65 rfl)) (mvT hZ (wi hw 64 rfl)) (by decide) (backOf (W := 0) (rm_coder l Z a0 hw [] t cs h0 n0 (by omega) F_coder_t OL S_COMPACT_STRINGS hcs) hZ (wi hw 66 rfl) (wi hw 2 rfl) (by decide) (by decide)) q101a q101c (g := (mkF mM 1 (Lc_getBytes_0 t b n) [(.ref t)])) rfl (by rw [hml]; rfl) (Steps.refl _) (argsL := []) (rest := []) (lenOf pd_8 rfl) rfl (by show 2 * 0 + _ ≤ _; exact Nat.le_of_eq rfl) (hb hby d42_147_1) (fun _ _ => ⟨rfl, e0, ble rfl, ble rfl⟩)
  dsimp only [Pt.U, Pt.locs, Pt.cells, Pt.slots] at X101 l101 y101 z101 st101 hQ101
  subst y101 z101
  obtain ⟨h101, e101⟩ : ∃ z, T101.heap = z := ⟨_, rfl⟩
  rw [e101] at hQ101
  obtain ⟨rfl, N101q, eq101⟩ := hQ101
  rw [eq101] at e101
  have N101 : Fr n0 L101 := by rw [l101]; exact Fr.app N0 N101q
  obtain ⟨T102, X102, e102, st102⟩ := getF X101 hx hZ hown (host := "") (Or.inl (wi hw 20 rfl)) Via.refl e101 F_value_t (g := (mkF mM 9 (Lc_getBytes_0 t b n) [(.ref t)])) rfl rfl (hb hby d42_147_9)
  obtain ⟨T103, X103, e103, st103⟩ := getF X102 hx hZ hown (host := "") (Or.inl (wi hw 20 rfl)) Via.refl e102 F_value_t (g := (mkF mM 18 (Lc_getBytes_0 t b n) [(.ref t), (.int (iN n)), (.ref b), (.int (0 : Int32)), (.ref tb)])) rfl rfl (hb hby d42_147_18)
  obtain ⟨cl104, Ar104, q104, S104, Ng104, Ha104, Ga104⟩ := id V_tb
  obtain ⟨T105, h105, L105, X105, e105, N105, Kc105, Vc105, st105⟩ := cpApp X103 hx hZ hown (wi hw 91 rfl) (wi hw 94 rfl) (wi hw 92 rfl) (wi hw 93 rfl) e103 V_tb V_b rfl hn hz (by rw [iN_nat (by omega)]; omega) (by rw [iN_nat (by omega)]; omega) (by omega) N101 g_b (g := (mkF mM 22 (Lc_getBytes_0 t b n) [(.int (iN z)), (.int (iN n)), (.ref b), (.int (0 : Int32)), (.ref tb)])) rfl (by rw [hml]; rfl) rfl (hb hby d42_147_22) (by decide) (W := 0) (by show 2 * 0 + _ ≤ _; exact Nat.le_of_eq rfl) (by decide)
  have Sz1 : h0.size ≤ h105.size := Kc105.1
  have K106 : Keep h0 h105 [b] := (Keep.refl h0 [b]).trans Kc105 (allS (Or.inl (List.mem_of_getElem? (i := 0) rfl)) all0)
  obtain ⟨fs, hr, hrun, hended, hW, hsame⟩ := X105.leave (v := none) (fun _ => rfl)
  refine ⟨_, _, castTop (ef_getBytes mM t tb tk z ys b k cap n xs cs) ?_, hrun, hended, _, _, rfl, ?_, ⟨_, rfl⟩, hW, hsame.mono (by decide) (by decide)⟩
  · show SS pP eE bS s₁ (mkF mM 0 (Lc_getBytes_0 t b n) []) _
    refine XS.aloadN X0.here hx rfl (hb hby d42_147_0) rfl rfl ?_
    show SS pP eE bS s₁ (mkF mM 1 (Lc_getBytes_0 t b n) [(.ref t)]) _
    refine st101.trans ?_
    show SS pP eE bS T101 (mkF mM 4 (Lc_getBytes_0 t b n) [(.int (0 : Int32))]) _
    refine XS.iloadN X101.here hx rfl (hb hby d42_147_4) rfl ?_
    refine XS.icmpNo X101.here hx rfl (hb hby d42_147_5) rfl (teq (by decide : (0 : Int32) = (0 : Int32))).2 ?_
    refine XS.aloadN X101.here hx rfl (hb hby d42_147_8) rfl rfl ?_
    show SS pP eE bS T101 (mkF mM 9 (Lc_getBytes_0 t b n) [(.ref t)]) _
    refine st102 _ ?_
    show SS pP eE bS T102 (mkF mM 12 (Lc_getBytes_0 t b n) [(.ref tb)]) _
    refine XS.iconst X102.here hx rfl (hb hby d42_147_12) ?_
    refine XS.aloadN X102.here hx rfl (hb hby d42_147_13) rfl rfl ?_
    refine XS.iloadN X102.here hx rfl (hb hby d42_147_14) rfl ?_
    refine XS.iloadN X102.here hx rfl (hb hby d42_147_15) rfl ?_
    show SS pP eE bS T102 (mkF mM 16 (Lc_getBytes_0 t b n) [(.int (0 : Int32)), (.int (iN n)), (.ref b), (.int (0 : Int32)), (.ref tb)]) _
    refine XS.ishl X102.here hx rfl (hb hby d42_147_16) rfl ?_
    show SS pP eE bS T102 (mkF mM 17 (Lc_getBytes_0 t b n) [(.int ((iN n) <<< ((0 : Int32) &&& 31))), (.ref b), (.int (0 : Int32)), (.ref tb)]) _
    rw [show ((iN n) <<< ((0 : Int32) &&& 31)) = (iN n) from shl0 _]
    refine XS.aloadN X102.here hx rfl (hb hby d42_147_17) rfl rfl ?_
    show SS pP eE bS T102 (mkF mM 18 (Lc_getBytes_0 t b n) [(.ref t), (.int (iN n)), (.ref b), (.int (0 : Int32)), (.ref tb)]) _
    refine st103 _ ?_
    show SS pP eE bS T103 (mkF mM 21 (Lc_getBytes_0 t b n) [(.ref tb), (.int (iN n)), (.ref b), (.int (0 : Int32)), (.ref tb)]) _
    refine X103.arraylength hx (by rw [e103]; exact Ar104.1) (State.isArrayOf_alike hZ.alike Ar104.2.1) (g := (mkF mM 21 (Lc_getBytes_0 t b n) [(.ref tb), (.int (iN n)), (.ref b), (.int (0 : Int32)), (.ref tb)])) rfl rfl (hb hby d42_147_21) _ ?_
    rw [len_of S104 Ng104]
    show SS pP eE bS T103 (mkF mM 22 (Lc_getBytes_0 t b n) [(.int (iN z)), (.int (iN n)), (.ref b), (.int (0 : Int32)), (.ref tb)]) _
    refine st105 _ ?_
    show SS pP eE bS T105 (mkF mM 25 (Lc_getBytes_0 t b n) []) _
    refine XS.goto X105.here hx rfl (pc0 := 25) (pc' := 43) rfl (hb hby d42_147_25) (by decide) (by decide) ?_
    show SS pP eE bS T105 (mkF mM 43 (Lc_getBytes_0 t b n) []) _
    exact X105.returnOut hx Bd.returns (hb hby d42_147_43) hr
  · show Q_getBytes Z t tb tk z ys b k cap n xs cs h0 n0 _ T105.heap _
    rw [e105]
    exact ⟨rfl, N105, K106, Vc105⟩
abbrev c68_71 := jdk_68_method_71_code
theorem d68_71_0 : decode c68_71 0 = .ok (.getstatic 18, 3) := by decide +kernel
theorem d68_71_3 : decode c68_71 3 = .ok (.ifCond .eq 18, 3) := by decide +kernel
theorem d68_71_6 : decode c68_71 6 = .ok (.aload_n 0, 1) := by decide +kernel
theorem d68_71_7 : decode c68_71 7 = .ok (.getfield 22, 3) := by decide +kernel
theorem d68_71_10 : decode c68_71 10 = .ok (.aload_n 1, 1) := by decide +kernel
theorem d68_71_11 : decode c68_71 11 = .ok (.invokevirtual 40, 3) := by decide +kernel
theorem d68_71_14 : decode c68_71 14 = .ok (.if_icmp .eq 7, 3) := by decide +kernel
theorem d68_71_21 : decode c68_71 21 = .ok (.return_, 1) := by decide +kernel
abbrev y5_ : MethodName := ⟨"java/lang/AbstractStringBuilder", "inflateIfNeededFor", "(Ljava/lang/String;)V"⟩
def Q_inflate (Z : State) (o : Addr) (t : Addr) (cs : Int32) (h0 : Heap) (n0 : Nat) (xv : Option Value) (xh : Heap) (xL : List Loc) : Prop := xv = none ∧ Fr n0 xL ∧ xh = h0
theorem ef_inflate (mM : MethodId) (o : Addr) (t : Addr) (cs : Int32) : entryFrame mM #[(.ref o), (.ref t)] 2 = mkF mM 0 #[.val (.ref o), .val (.ref t)] [] := by
  first | (simp [entryFrame, mkF, argsToLocals, Value.category]; done) | rfl
theorem rm_inflate (l : Launch) (Z : State) (a0 : Array Value) (hw : HW a0 Z) (ws : List Jvm.Cond) (o : Addr) (t : Addr) (cs : Int32) (h0 : Heap) (n0 : Nat) (Z0 : n0 ≤ h0.size) (F_coder_o : Fld Z h0 o "java/lang/AbstractStringBuilder" "coder" "B" (.int (0 : Int32))) (E_t : Exa Z h0 t "java/lang/String") (F_coder_t : Fld Z h0 t "java/lang/String" "coder" "B" (.int (0 : Int32))) (OL : Old Z n0 h0) (S_COMPACT_STRINGS : Sta Z Z.heap "java/lang/String" "COMPACT_STRINGS" "Z" (.int cs)) (hcs : ¬ (cs = (0 : Int32))) :
    MetFree l y5_ (head1 (Jvm.Cond.code y5_ jdk_68_method_71_code 2 none :: ws) r1_0_0_13) (fun xa xU => xa = #[(.ref o), (.ref t)] ∧ Z.Warmed39 xU.vm ∧ xU.heap = h0) (fun _ _ _ _ _ => True) (fun _ xU xo xU' => ∃ xv xL, xo = .returned xv ∧ Q_inflate Z o t cs h0 n0 xv xU'.heap xL ∧ FrameEnd xU xo xU' xL r1_0_0_13.cells r1_0_0_13.slots) := by
  refine MetFree.of_bodySF (plainFor_of_name pn_java_lang_AbstractStringBuilder) hisR ?_
  intro pP eE sS mM argS bS methS cC s₁ Bd hml0 hP hK
  obtain ⟨rfl, hZ, hh⟩ := hP
  have hx := Bd.exec
  have hby := Bd.bytes
  have hml : cC.maxLocals = 2 := hml0
  have hown : sS.vm.findClass "java/lang/AbstractStringBuilder" = some mM.cls := findClass_of_methodNamed Bd.named
  have hnm := (name_of_methodNamed Bd.named Bd.method).1
  have X0 : Stand pP l eE r1_0_0_13 sS mM #[(.ref o), (.ref t)] bS methS cC s₁ [] 0 0 := Stand.of_body Bd
  have e0 : s₁.heap = h0 := by rw [← hh, Bd.state]; rfl
  have N0 := Fr.nil n0
  have c101_S_COMPACT_STRINGS : Sta Z h0 "java/lang/String" "COMPACT_STRINGS" "Z" (.int cs) := Sta.ext OL.2 S_COMPACT_STRINGS
  obtain ⟨T102, X102, e102, st102⟩ := getS2 X0 hx hZ hown (host := "") (Or.inl (wi hw 41 rfl)) Via.refl e0 c101_S_COMPACT_STRINGS (g := (mkF mM 0 #[.val (.ref o), .val (.ref t)] [])) rfl (hb hby d68_71_0)
  obtain ⟨T103, X103, e103, st103⟩ := getF X102 hx hZ hown (host := "") (Or.inl (wi hw 44 rfl)) Via.refl e102 F_coder_o (g := (mkF mM 7 #[.val (.ref o), .val (.ref t)] [(.ref o)])) rfl rfl (hb hby d68_71_7)
  obtain ⟨cq104, kq104, q104a, q104b, q104c⟩ := isOf hZ e103 E_t
  obtain ⟨_, _, ⟨T104, L104, k104, n104⟩, -, X104, ⟨Lc104, hQ104, l104, y104, z104⟩, st104⟩ := X103.virtualBack hx (y := y0_) (z := y0_) hown (mvT hZ (wi hw 85 rfl)) (mvT hZ (wi hw 63 rfl)) (notFace_of_selects (args := #[]) (mvT hZ (wi hw 65 rfl))) (mvT hZ (wi hw 65 rfl)) (mvT hZ (wi hw 64 rfl)) (by decide) (backOf (W := 1) (rm_coder l Z a0 hw [] t cs h0 n0 (by omega) F_coder_t OL S_COMPACT_STRINGS hcs) hZ (wi hw 66 rfl) (wi hw 2 rfl) (by decide) (by decide)) q104a q104c (g := (mkF mM 11 #[.val (.ref o), .val (.ref t)] [(.ref t), (.int (0 : Int32))])) rfl (by rw [hml]; rfl) (Steps.refl _) (argsL := []) (rest := [(.int (0 : Int32))]) (lenOf pd_8 rfl) rfl (by show 2 * 0 + _ ≤ _; exact Nat.le_of_eq rfl) (hb hby d68_71_11) (fun _ _ => ⟨rfl, e103, ble rfl, ble rfl⟩)
  dsimp only [Pt.U, Pt.locs, Pt.cells, Pt.slots] at X104 l104 y104 z104 st104 hQ104
  subst y104 z104
  obtain ⟨h104, e104⟩ : ∃ z, T104.heap = z := ⟨_, rfl⟩
  rw [e104] at hQ104
  obtain ⟨rfl, N104q, eq104⟩ := hQ104
  rw [eq104] at e104
  have N104 : Fr n0 L104 := by rw [l104]; exact Fr.app N0 N104q
  obtain ⟨fs, hr, hrun, hended, hW, hsame⟩ := X104.leave (v := none) (fun _ => rfl)
  refine ⟨_, _, castTop (ef_inflate mM o t cs) ?_, hrun, hended, _, _, rfl, ?_, ⟨_, rfl⟩, hW, hsame.mono (by decide) (by decide)⟩
  · show SS pP eE bS s₁ (mkF mM 0 #[.val (.ref o), .val (.ref t)] []) _
    refine st102 _ ?_
    show SS pP eE bS T102 (mkF mM 3 #[.val (.ref o), .val (.ref t)] [(.int cs)]) _
    refine XS.ifNo X102.here hx rfl (hb hby d68_71_3) rfl ((if0 _ _).trans (feq hcs).1) ?_
    refine XS.aloadN X102.here hx rfl (hb hby d68_71_6) rfl rfl ?_
    show SS pP eE bS T102 (mkF mM 7 #[.val (.ref o), .val (.ref t)] [(.ref o)]) _
    refine st103 _ ?_
    show SS pP eE bS T103 (mkF mM 10 #[.val (.ref o), .val (.ref t)] [(.int (0 : Int32))]) _
    refine XS.aloadN X103.here hx rfl (hb hby d68_71_10) rfl rfl ?_
    show SS pP eE bS T103 (mkF mM 11 #[.val (.ref o), .val (.ref t)] [(.ref t), (.int (0 : Int32))]) _
    refine st104.trans ?_
    show SS pP eE bS T104 (mkF mM 14 #[.val (.ref o), .val (.ref t)] [(.int (0 : Int32)), (.int (0 : Int32))]) _
    refine XS.icmpYes X104.here hx rfl (pc0 := 14) (pc' := 21) rfl (hb hby d68_71_14) rfl (teq (by decide : (0 : Int32) = (0 : Int32))).1 (by decide) (by decide) ?_
    show SS pP eE bS T104 (mkF mM 21 #[.val (.ref o), .val (.ref t)] []) _
    exact X104.returnOut hx Bd.returns (hb hby d68_71_21) hr
  · show Q_inflate Z o t cs h0 n0 _ T104.heap _
    rw [e104]
    exact ⟨rfl, N104, rfl⟩
abbrev c68_73 := jdk_68_method_73_code
theorem d68_73_0 : decode c68_73 0 = .ok (.aload_n 0, 1) := by decide +kernel
theorem d68_73_1 : decode c68_73 1 = .ok (.aload_n 2, 1) := by decide +kernel
theorem d68_73_2 : decode c68_73 2 = .ok (.invokevirtual 397, 3) := by decide +kernel
theorem pd_10 : parseMethodDescriptor "(Ljava/lang/String;)V" = some ⟨[(.object "java/lang/String")], none⟩ := by decide +kernel
theorem d68_73_5 : decode c68_73 5 = .ok (.aload_n 2, 1) := by decide +kernel
theorem d68_73_6 : decode c68_73 6 = .ok (.aload_n 0, 1) := by decide +kernel
theorem d68_73_7 : decode c68_73 7 = .ok (.getfield 15, 3) := by decide +kernel
theorem d68_73_10 : decode c68_73 10 = .ok (.iload_n 1, 1) := by decide +kernel
theorem d68_73_11 : decode c68_73 11 = .ok (.aload_n 0, 1) := by decide +kernel
theorem d68_73_12 : decode c68_73 12 = .ok (.getfield 22, 3) := by decide +kernel
theorem d68_73_15 : decode c68_73 15 = .ok (.invokevirtual 399, 3) := by decide +kernel
theorem pd_11 : parseMethodDescriptor "([BIB)V" = some ⟨[(.array .byte), .int, .byte], none⟩ := by decide +kernel
theorem d68_73_18 : decode c68_73 18 = .ok (.return_, 1) := by decide +kernel
abbrev r2_0_0_33 : Room := { frames := 2, cells := 0, slots := 0, locals := 33 }
abbrev y6_ : MethodName := ⟨"java/lang/AbstractStringBuilder", "putStringAt", "(ILjava/lang/String;)V"⟩
def Q_putStringAt (Z : State) (o : Addr) (t : Addr) (tb : Addr) (tk : ClassId) (z : Nat) (ys : List Value) (b : Addr) (k : ClassId) (cap : Nat) (n : Nat) (xs : List Value) (cs : Int32) (h0 : Heap) (n0 : Nat) (xv : Option Value) (xh : Heap) (xL : List Loc) : Prop := xv = none ∧ Fr n0 xL ∧ Keep h0 xh [b] ∧ Arv Z xh b k .byte (iN cap) (xs ++ ys) (.int (0 : Int32))
theorem ef_putStringAt (mM : MethodId) (o : Addr) (t : Addr) (tb : Addr) (tk : ClassId) (z : Nat) (ys : List Value) (b : Addr) (k : ClassId) (cap : Nat) (n : Nat) (xs : List Value) (cs : Int32) : entryFrame mM #[(.ref o), (.int (iN n)), (.ref t)] 3 = mkF mM 0 #[.val (.ref o), .val (.int (iN n)), .val (.ref t)] [] := by
  first | (simp [entryFrame, mkF, argsToLocals, Value.category]; done) | rfl
theorem rm_putStringAt (l : Launch) (Z : State) (a0 : Array Value) (hw : HW a0 Z) (ws : List Jvm.Cond) (o : Addr) (t : Addr) (tb : Addr) (tk : ClassId) (z : Nat) (ys : List Value) (b : Addr) (k : ClassId) (cap : Nat) (n : Nat) (xs : List Value) (cs : Int32) (h0 : Heap) (n0 : Nat) (Z0 : n0 ≤ h0.size) (E_o : Exa Z h0 o "java/lang/StringBuilder") (F_value_o : Fld Z h0 o "java/lang/AbstractStringBuilder" "value" "[B" (.ref b)) (F_coder_o : Fld Z h0 o "java/lang/AbstractStringBuilder" "coder" "B" (.int (0 : Int32))) (E_t : Exa Z h0 t "java/lang/String") (F_value_t : Fld Z h0 t "java/lang/String" "value" "[B" (.ref tb)) (F_coder_t : Fld Z h0 t "java/lang/String" "coder" "B" (.int (0 : Int32))) (V_tb : Arv Z h0 tb tk .byte (iN z) ys (.int (0 : Int32))) (V_b : Arv Z h0 b k .byte (iN cap) xs (.int (0 : Int32))) (ne_o_b : @Ne Nat o b) (ne_t_b : @Ne Nat t b) (ne_tb_b : @Ne Nat tb b) (g_b : @LE.le Nat _ n0 b) (hn : xs.length = n) (hz : ys.length = z) (hB : n + z ≤ cap ∧ cap ≤ 128) (OL : Old Z n0 h0) (S_COMPACT_STRINGS : Sta Z Z.heap "java/lang/String" "COMPACT_STRINGS" "Z" (.int cs)) (hcs : ¬ (cs = (0 : Int32))) :
    MetFree l y6_ (head1 (Jvm.Cond.code y6_ jdk_68_method_73_code 3 none :: ws) r2_0_0_33) (fun xa xU => xa = #[(.ref o), (.int (iN n)), (.ref t)] ∧ Z.Warmed39 xU.vm ∧ xU.heap = h0) (fun _ _ _ _ _ => True) (fun _ xU xo xU' => ∃ xv xL, xo = .returned xv ∧ Q_putStringAt Z o t tb tk z ys b k cap n xs cs h0 n0 xv xU'.heap xL ∧ FrameEnd xU xo xU' xL r2_0_0_33.cells r2_0_0_33.slots) := by
  refine MetFree.of_bodySF (plainFor_of_name pn_java_lang_AbstractStringBuilder) hisR ?_
  intro pP eE sS mM argS bS methS cC s₁ Bd hml0 hP hK
  obtain ⟨rfl, hZ, hh⟩ := hP
  have hx := Bd.exec
  have hby := Bd.bytes
  have hml : cC.maxLocals = 3 := hml0
  have hown : sS.vm.findClass "java/lang/AbstractStringBuilder" = some mM.cls := findClass_of_methodNamed Bd.named
  have hnm := (name_of_methodNamed Bd.named Bd.method).1
  have X0 : Stand pP l eE r2_0_0_33 sS mM #[(.ref o), (.int (iN n)), (.ref t)] bS methS cC s₁ [] 0 0 := Stand.of_body Bd
  have e0 : s₁.heap = h0 := by rw [← hh, Bd.state]; rfl
  have N0 := Fr.nil n0
  obtain ⟨cq101, kq101, q101a, q101b, q101c⟩ := isOf hZ e0 E_o
  obtain ⟨_, _, ⟨T101, L101, k101, n101⟩, -, X101, ⟨Lc101, hQ101, l101, y101, z101⟩, st101⟩ := X0.virtualBack hx (y := y5_) (z := y5_) hown (mvT hZ (wi hw 80 rfl)) (mvT hZ (own_decl (wi hw 81 rfl) (wi hw 84 rfl))) (notFace_of_selects (args := #[]) (mvT hZ (wi hw 83 rfl))) (mvT hZ (wi hw 83 rfl)) (mvT hZ (wi hw 81 rfl)) (by decide) (backOf (W := 0) (rm_inflate l Z a0 hw [] o t cs h0 n0 (by omega) F_coder_o E_t F_coder_t OL S_COMPACT_STRINGS hcs) hZ (wi hw 84 rfl) (wi hw 38 rfl) (by decide) (by decide)) q101a q101c (g := (mkF mM 2 #[.val (.ref o), .val (.int (iN n)), .val (.ref t)] [(.ref t), (.ref o)])) rfl (by rw [hml]; rfl) (Steps.refl _) (argsL := [(.ref t)]) (rest := []) (lenOf pd_10 rfl) rfl (by show 2 * 0 + _ ≤ _; exact Nat.le_of_eq rfl) (hb hby d68_73_2) (fun _ _ => ⟨rfl, e0, ble rfl, ble rfl⟩)
  dsimp only [Pt.U, Pt.locs, Pt.cells, Pt.slots] at X101 l101 y101 z101 st101 hQ101
  subst y101 z101
  obtain ⟨h101, e101⟩ : ∃ z, T101.heap = z := ⟨_, rfl⟩
  rw [e101] at hQ101
  obtain ⟨rfl, N101q, eq101⟩ := hQ101
  rw [eq101] at e101
  have N101 : Fr n0 L101 := by rw [l101]; exact Fr.app N0 N101q
  obtain ⟨T102, X102, e102, st102⟩ := getF X101 hx hZ hown (host := "") (Or.inl (wi hw 42 rfl)) Via.refl e101 F_value_o (g := (mkF mM 7 #[.val (.ref o), .val (.int (iN n)), .val (.ref t)] [(.ref o), (.ref t)])) rfl rfl (hb hby d68_73_7)
  obtain ⟨T103, X103, e103, st103⟩ := getF X102 hx hZ hown (host := "") (Or.inl (wi hw 44 rfl)) Via.refl e102 F_coder_o (g := (mkF mM 12 #[.val (.ref o), .val (.int (iN n)), .val (.ref t)] [(.ref o), (.int (iN n)), (.ref b), (.ref t)])) rfl rfl (hb hby d68_73_12)
  obtain ⟨cq104, kq104, q104a, q104b, q104c⟩ := isOf hZ e103 E_t
  obtain ⟨_, _, ⟨T104, L104, k104, n104⟩, -, X104, ⟨Lc104, hQ104, l104, y104, z104⟩, st104⟩ := X103.virtualBack hx (y := y4_) (z := y4_) hown (mvT hZ (wi hw 86 rfl)) (mvT hZ (wi hw 87 rfl)) (notFace_of_selects (args := #[]) (mvT hZ (wi hw 89 rfl))) (mvT hZ (wi hw 89 rfl)) (mvT hZ (wi hw 88 rfl)) (by decide) (backOf (W := 0) (rm_getBytes l Z a0 hw [] t tb tk z ys b k cap n xs cs h0 n0 (by omega) E_t F_value_t F_coder_t V_tb V_b ne_t_b ne_tb_b g_b hn hz hB OL S_COMPACT_STRINGS hcs) hZ (wi hw 90 rfl) (wi hw 2 rfl) (by decide) (by decide)) q104a q104c (g := (mkF mM 15 #[.val (.ref o), .val (.int (iN n)), .val (.ref t)] [(.int (0 : Int32)), (.int (iN n)), (.ref b), (.ref t)])) rfl (by rw [hml]; rfl) (Steps.refl _) (argsL := [(.ref b), (.int (iN n)), (.int (0 : Int32))]) (rest := []) (lenOf pd_11 rfl) rfl (by show 2 * 0 + _ ≤ _; exact Nat.le_of_eq rfl) (hb hby d68_73_15) (fun _ _ => ⟨rfl, e103, ble rfl, ble rfl⟩)
  dsimp only [Pt.U, Pt.locs, Pt.cells, Pt.slots] at X104 l104 y104 z104 st104 hQ104
  subst y104 z104
  obtain ⟨h104, e104⟩ : ∃ z, T104.heap = z := ⟨_, rfl⟩
  rw [e104] at hQ104
  obtain ⟨rfl, N104q, Kp104, p104_V_b⟩ := hQ104
  have Sz1 : h0.size ≤ h104.size := Kp104.1
  have N104 : Fr n0 L104 := by rw [l104]; exact Fr.app N101 N104q
  have K105 : Keep h0 h104 [b] := (Keep.refl h0 [b]).trans Kp104 (allS (Or.inl (List.mem_of_getElem? (i := 0) rfl)) all0)
  obtain ⟨fs, hr, hrun, hended, hW, hsame⟩ := X104.leave (v := none) (fun _ => rfl)
  refine ⟨_, _, castTop (ef_putStringAt mM o t tb tk z ys b k cap n xs cs) ?_, hrun, hended, _, _, rfl, ?_, ⟨_, rfl⟩, hW, hsame.mono (by decide) (by decide)⟩
  · show SS pP eE bS s₁ (mkF mM 0 #[.val (.ref o), .val (.int (iN n)), .val (.ref t)] []) _
    refine XS.aloadN X0.here hx rfl (hb hby d68_73_0) rfl rfl ?_
    refine XS.aloadN X0.here hx rfl (hb hby d68_73_1) rfl rfl ?_
    show SS pP eE bS s₁ (mkF mM 2 #[.val (.ref o), .val (.int (iN n)), .val (.ref t)] [(.ref t), (.ref o)]) _
    refine st101.trans ?_
    show SS pP eE bS T101 (mkF mM 5 #[.val (.ref o), .val (.int (iN n)), .val (.ref t)] []) _
    refine XS.aloadN X101.here hx rfl (hb hby d68_73_5) rfl rfl ?_
    refine XS.aloadN X101.here hx rfl (hb hby d68_73_6) rfl rfl ?_
    show SS pP eE bS T101 (mkF mM 7 #[.val (.ref o), .val (.int (iN n)), .val (.ref t)] [(.ref o), (.ref t)]) _
    refine st102 _ ?_
    show SS pP eE bS T102 (mkF mM 10 #[.val (.ref o), .val (.int (iN n)), .val (.ref t)] [(.ref b), (.ref t)]) _
    refine XS.iloadN X102.here hx rfl (hb hby d68_73_10) rfl ?_
    refine XS.aloadN X102.here hx rfl (hb hby d68_73_11) rfl rfl ?_
    show SS pP eE bS T102 (mkF mM 12 #[.val (.ref o), .val (.int (iN n)), .val (.ref t)] [(.ref o), (.int (iN n)), (.ref b), (.ref t)]) _
    refine st103 _ ?_
    show SS pP eE bS T103 (mkF mM 15 #[.val (.ref o), .val (.int (iN n)), .val (.ref t)] [(.int (0 : Int32)), (.int (iN n)), (.ref b), (.ref t)]) _
    refine st104.trans ?_
    show SS pP eE bS T104 (mkF mM 18 #[.val (.ref o), .val (.int (iN n)), .val (.ref t)] []) _
    exact X104.returnOut hx Bd.returns (hb hby d68_73_18) hr
  · show Q_putStringAt Z o t tb tk z ys b k cap n xs cs h0 n0 _ T104.heap _
    rw [e104]
    exact ⟨rfl, N104, K105, p104_V_b⟩
abbrev c68_9 := jdk_68_method_9_code
theorem d68_9_0 : decode c68_9 0 = .ok (.aload_n 0, 1) := by decide +kernel
theorem d68_9_1 : decode c68_9 1 = .ok (.getfield 15, 3) := by decide +kernel
theorem d68_9_4 : decode c68_9 4 = .ok (.arraylength, 1) := by decide +kernel
theorem d68_9_5 : decode c68_9 5 = .ok (.aload_n 0, 1) := by decide +kernel
theorem d68_9_6 : decode c68_9 6 = .ok (.getfield 22, 3) := by decide +kernel
theorem d68_9_9 : decode c68_9 9 = .ok (.ishr, 1) := by decide +kernel
theorem d68_9_10 : decode c68_9 10 = .ok (.istore_n 2, 1) := by decide +kernel
theorem d68_9_11 : decode c68_9 11 = .ok (.iload_n 1, 1) := by decide +kernel
theorem d68_9_12 : decode c68_9 12 = .ok (.iload_n 2, 1) := by decide +kernel
theorem d68_9_13 : decode c68_9 13 = .ok (.isub, 1) := by decide +kernel
theorem d68_9_14 : decode c68_9 14 = .ok (.ifCond .le 24, 3) := by decide +kernel
theorem d68_9_38 : decode c68_9 38 = .ok (.return_, 1) := by decide +kernel
def Q_max (Z : State) (x : Nat) (y : Nat) (h0 : Heap) (n0 : Nat) (xv : Option Value) (xh : Heap) (xL : List Loc) : Prop := xv = some (.int (iN (mx x y))) ∧ Fr n0 xL ∧ xh = h0
abbrev c29_65 := jdk_29_method_65_code
theorem d29_65_0 : decode c29_65 0 = .ok (.iload_n 0, 1) := by decide +kernel
theorem d29_65_1 : decode c29_65 1 = .ok (.iload_n 1, 1) := by decide +kernel
theorem d29_65_2 : decode c29_65 2 = .ok (.if_icmp .lt 7, 3) := by decide +kernel
theorem d29_65_9 : decode c29_65 9 = .ok (.iload_n 1, 1) := by decide +kernel
theorem d29_65_10 : decode c29_65 10 = .ok (.ireturn, 1) := by decide +kernel
theorem d29_65_5 : decode c29_65 5 = .ok (.iload_n 0, 1) := by decide +kernel
theorem d29_65_6 : decode c29_65 6 = .ok (.goto 4, 3) := by decide +kernel
abbrev y7_ : MethodName := ⟨"java/lang/Math", "max", "(II)I"⟩
theorem ef_max_r (mM : MethodId) (x : Nat) (y : Nat) : entryFrame mM #[(.int (iN x)), (.int (iN y))] 2 = mkF mM 0 #[.val (.int (iN x)), .val (.int (iN y))] [] := by
  first | (simp [entryFrame, mkF, argsToLocals, Value.category]; done) | rfl
theorem rm_max_r (l : Launch) (Z : State) (a0 : Array Value) (hw : HW a0 Z) (ws : List Jvm.Cond) (x : Nat) (y : Nat) (h0 : Heap) (n0 : Nat) (Z0 : n0 ≤ h0.size) (hxy : x < y) (hx1 : x < 1000000) (hy1 : y < 1000000) :
    MetFree l y7_ (head1 (Jvm.Cond.code y7_ jdk_29_method_65_code 2 (some .int) :: ws) r0_0_0_0) (fun xa xU => xa = #[(.int (iN x)), (.int (iN y))] ∧ Z.Warmed39 xU.vm ∧ xU.heap = h0) (fun _ _ _ _ _ => True) (fun _ xU xo xU' => ∃ xv xL, xo = .returned xv ∧ Q_max Z x y h0 n0 xv xU'.heap xL ∧ FrameEnd xU xo xU' xL r0_0_0_0.cells r0_0_0_0.slots) := by
  refine MetFree.of_bodySF (Jvm.Free.JP.mathPlain rfl (by decide +kernel)) hisR ?_
  intro pP eE sS mM argS bS methS cC s₁ Bd hml0 hP hK
  obtain ⟨rfl, hZ, hh⟩ := hP
  have hx := Bd.exec
  have hby := Bd.bytes
  have hml : cC.maxLocals = 2 := hml0
  have hown : sS.vm.findClass "java/lang/Math" = some mM.cls := findClass_of_methodNamed Bd.named
  have hnm := (name_of_methodNamed Bd.named Bd.method).1
  have X0 : Stand pP l eE r0_0_0_0 sS mM #[(.int (iN x)), (.int (iN y))] bS methS cC s₁ [] 0 0 := Stand.of_body Bd
  have e0 : s₁.heap = h0 := by rw [← hh, Bd.state]; rfl
  have N0 := Fr.nil n0
  obtain ⟨fs, hr, hrun, hended, hW, hsame⟩ := X0.leave (v := some (.int (iN y))) (fun h => by rw [Bd.returns] at h; cases h)
  refine ⟨_, _, castTop (ef_max_r mM x y) ?_, hrun, hended, _, _, rfl, ?_, ⟨_, rfl⟩, hW, hsame.mono (by decide) (by decide)⟩
  · show SS pP eE bS s₁ (mkF mM 0 #[.val (.int (iN x)), .val (.int (iN y))] []) _
    refine XS.iloadN X0.here hx rfl (hb hby d29_65_0) rfl ?_
    refine XS.iloadN X0.here hx rfl (hb hby d29_65_1) rfl ?_
    refine XS.icmpYes X0.here hx rfl (pc0 := 2) (pc' := 9) rfl (hb hby d29_65_2) rfl (tlt ((iN_lt hx1 hy1).mpr hxy : (iN x) < (iN y))).1 (by decide) (by decide) ?_
    refine XS.iloadN X0.here hx rfl (hb hby d29_65_9) rfl ?_
    show SS pP eE bS s₁ (mkF mM 10 #[.val (.int (iN x)), .val (.int (iN y))] [(.int (iN y))]) _
    exact retI X0 hx Bd.returns (hb hby d29_65_10) hr
  · show Q_max Z x y h0 n0 _ s₁.heap _
    rw [e0]
    exact ⟨by rw [mx_r hxy], N0, rfl⟩
theorem ef_max_l (mM : MethodId) (x : Nat) (y : Nat) : entryFrame mM #[(.int (iN x)), (.int (iN y))] 2 = mkF mM 0 #[.val (.int (iN x)), .val (.int (iN y))] [] := by
  first | (simp [entryFrame, mkF, argsToLocals, Value.category]; done) | rfl
theorem rm_max_l (l : Launch) (Z : State) (a0 : Array Value) (hw : HW a0 Z) (ws : List Jvm.Cond) (x : Nat) (y : Nat) (h0 : Heap) (n0 : Nat) (Z0 : n0 ≤ h0.size) (hxy : ¬ x < y) (hx1 : x < 1000000) (hy1 : y < 1000000) :
    MetFree l y7_ (head1 (Jvm.Cond.code y7_ jdk_29_method_65_code 2 (some .int) :: ws) r0_0_0_0) (fun xa xU => xa = #[(.int (iN x)), (.int (iN y))] ∧ Z.Warmed39 xU.vm ∧ xU.heap = h0) (fun _ _ _ _ _ => True) (fun _ xU xo xU' => ∃ xv xL, xo = .returned xv ∧ Q_max Z x y h0 n0 xv xU'.heap xL ∧ FrameEnd xU xo xU' xL r0_0_0_0.cells r0_0_0_0.slots) := by
  refine MetFree.of_bodySF (Jvm.Free.JP.mathPlain rfl (by decide +kernel)) hisR ?_
  intro pP eE sS mM argS bS methS cC s₁ Bd hml0 hP hK
  obtain ⟨rfl, hZ, hh⟩ := hP
  have hx := Bd.exec
  have hby := Bd.bytes
  have hml : cC.maxLocals = 2 := hml0
  have hown : sS.vm.findClass "java/lang/Math" = some mM.cls := findClass_of_methodNamed Bd.named
  have hnm := (name_of_methodNamed Bd.named Bd.method).1
  have X0 : Stand pP l eE r0_0_0_0 sS mM #[(.int (iN x)), (.int (iN y))] bS methS cC s₁ [] 0 0 := Stand.of_body Bd
  have e0 : s₁.heap = h0 := by rw [← hh, Bd.state]; rfl
  have N0 := Fr.nil n0
  obtain ⟨fs, hr, hrun, hended, hW, hsame⟩ := X0.leave (v := some (.int (iN x))) (fun h => by rw [Bd.returns] at h; cases h)
  refine ⟨_, _, castTop (ef_max_l mM x y) ?_, hrun, hended, _, _, rfl, ?_, ⟨_, rfl⟩, hW, hsame.mono (by decide) (by decide)⟩
  · show SS pP eE bS s₁ (mkF mM 0 #[.val (.int (iN x)), .val (.int (iN y))] []) _
    refine XS.iloadN X0.here hx rfl (hb hby d29_65_0) rfl ?_
    refine XS.iloadN X0.here hx rfl (hb hby d29_65_1) rfl ?_
    refine XS.icmpNo X0.here hx rfl (hb hby d29_65_2) rfl (flt (fun q => absurd ((iN_lt hx1 hy1).mp q) hxy : ¬ ((iN x) < (iN y)))).1 ?_
    refine XS.iloadN X0.here hx rfl (hb hby d29_65_5) rfl ?_
    show SS pP eE bS s₁ (mkF mM 6 #[.val (.int (iN x)), .val (.int (iN y))] [(.int (iN x))]) _
    refine XS.goto X0.here hx rfl (pc0 := 6) (pc' := 10) rfl (hb hby d29_65_6) (by decide) (by decide) ?_
    show SS pP eE bS s₁ (mkF mM 10 #[.val (.int (iN x)), .val (.int (iN y))] [(.int (iN x))]) _
    exact retI X0 hx Bd.returns (hb hby d29_65_10) hr
  · show Q_max Z x y h0 n0 _ s₁.heap _
    rw [e0]
    exact ⟨by rw [mx_l hxy], N0, rfl⟩
theorem rm_max (l : Launch) (Z : State) (a0 : Array Value) (hw : HW a0 Z) (ws : List Jvm.Cond) (x : Nat) (y : Nat) (h0 : Heap) (n0 : Nat) (Z0 : n0 ≤ h0.size) (hx1 : x < 1000000) (hy1 : y < 1000000) :
    MetFree l y7_ (head1 (Jvm.Cond.code y7_ jdk_29_method_65_code 2 (some .int) :: ws) r0_0_0_0) (fun xa xU => xa = #[(.int (iN x)), (.int (iN y))] ∧ Z.Warmed39 xU.vm ∧ xU.heap = h0) (fun _ _ _ _ _ => True) (fun _ xU xo xU' => ∃ xv xL, xo = .returned xv ∧ Q_max Z x y h0 n0 xv xU'.heap xL ∧ FrameEnd xU xo xU' xL r0_0_0_0.cells r0_0_0_0.slots) := by
  by_cases hxy : x < y
  · exact rm_max_r l Z a0 hw ws x y h0 n0 Z0 hxy hx1 hy1
  · exact rm_max_l l Z a0 hw ws x y h0 n0 Z0 hxy hx1 hy1
abbrev c48_27 := jdk_48_method_27_code
theorem d48_27_0 : decode c48_27 0 = .ok (.iload_n 0, 1) := by decide +kernel
theorem d48_27_1 : decode c48_27 1 = .ok (.iload_n 1, 1) := by decide +kernel
theorem d48_27_2 : decode c48_27 2 = .ok (.iload_n 2, 1) := by decide +kernel
theorem d48_27_3 : decode c48_27 3 = .ok (.invokestatic 194, 3) := by decide +kernel
theorem pd_15 : parseMethodDescriptor "(II)I" = some ⟨[.int, .int], some .int⟩ := by decide +kernel
theorem d48_27_6 : decode c48_27 6 = .ok (.iadd, 1) := by decide +kernel
theorem d48_27_7 : decode c48_27 7 = .ok (.istore_n 3, 1) := by decide +kernel
theorem d48_27_8 : decode c48_27 8 = .ok (.iconst 0, 1) := by decide +kernel
theorem d48_27_9 : decode c48_27 9 = .ok (.iload_n 3, 1) := by decide +kernel
theorem d48_27_10 : decode c48_27 10 = .ok (.if_icmp .ge 11, 3) := by decide +kernel
theorem d48_27_13 : decode c48_27 13 = .ok (.iload_n 3, 1) := by decide +kernel
theorem d48_27_14 : decode c48_27 14 = .ok (.ldc 200, 2) := by decide +kernel
theorem d48_27_16 : decode c48_27 16 = .ok (.if_icmp .gt 5, 3) := by decide +kernel
theorem d48_27_19 : decode c48_27 19 = .ok (.iload_n 3, 1) := by decide +kernel
theorem d48_27_20 : decode c48_27 20 = .ok (.ireturn, 1) := by decide +kernel
abbrev r1_0_0_14 : Room := { frames := 1, cells := 0, slots := 0, locals := 14 }
abbrev y8_ : MethodName := ⟨"jdk/internal/util/ArraysSupport", "newLength", "(III)I"⟩
theorem pn_jdk_internal_util_ArraysSupport : plainName "jdk/internal/util/ArraysSupport" = true := by first | (simp [plainName, overriddenIn]; done) | decide +kernel
def Q_newLen (Z : State) (a : Nat) (x : Nat) (y : Nat) (h0 : Heap) (n0 : Nat) (xv : Option Value) (xh : Heap) (xL : List Loc) : Prop := xv = some (.int (iN (a + mx x y))) ∧ Fr n0 xL ∧ xh = h0
abbrev Lc_newLen_0 (a : Nat) (x : Nat) (y : Nat) : Array Slot := #[.val (.int (iN a)), .val (.int (iN x)), .val (.int (iN y)), .val (.int (iN (a + mx x y)))]
theorem ef_newLen (mM : MethodId) (a : Nat) (x : Nat) (y : Nat) : entryFrame mM #[(.int (iN a)), (.int (iN x)), (.int (iN y))] 4 = mkF mM 0 #[.val (.int (iN a)), .val (.int (iN x)), .val (.int (iN y)), .unset] [] := by
  first | (simp [entryFrame, mkF, argsToLocals, Value.category]; done) | rfl
theorem rm_newLen (l : Launch) (Z : State) (a0 : Array Value) (hw : HW a0 Z) (ws : List Jvm.Cond) (a : Nat) (x : Nat) (y : Nat) (h0 : Heap) (n0 : Nat) (Z0 : n0 ≤ h0.size) (hp : 0 < a + mx x y) (hy : a + mx x y < 1000000) (hx2 : x < 1000000) (hy2 : y < 1000000) :
    MetFree l y8_ (head1 (Jvm.Cond.code y8_ jdk_48_method_27_code 4 (some .int) :: ws) r1_0_0_14) (fun xa xU => xa = #[(.int (iN a)), (.int (iN x)), (.int (iN y))] ∧ Z.Warmed39 xU.vm ∧ xU.heap = h0) (fun _ _ _ _ _ => True) (fun _ xU xo xU' => ∃ xv xL, xo = .returned xv ∧ Q_newLen Z a x y h0 n0 xv xU'.heap xL ∧ FrameEnd xU xo xU' xL r1_0_0_14.cells r1_0_0_14.slots) := by
  refine MetFree.of_bodySF (plainFor_of_name pn_jdk_internal_util_ArraysSupport) hisR ?_
  intro pP eE sS mM argS bS methS cC s₁ Bd hml0 hP hK
  obtain ⟨rfl, hZ, hh⟩ := hP
  have hx := Bd.exec
  have hby := Bd.bytes
  have hml : cC.maxLocals = 4 := hml0
  have hown : sS.vm.findClass "jdk/internal/util/ArraysSupport" = some mM.cls := findClass_of_methodNamed Bd.named
  have hnm := (name_of_methodNamed Bd.named Bd.method).1
  have X0 : Stand pP l eE r1_0_0_14 sS mM #[(.int (iN a)), (.int (iN x)), (.int (iN y))] bS methS cC s₁ [] 0 0 := Stand.of_body Bd
  have e0 : s₁.heap = h0 := by rw [← hh, Bd.state]; rfl
  have N0 := Fr.nil n0
  obtain ⟨_, _, ⟨T101, L101, k101, n101⟩, -, X101, ⟨Lc101, hQ101, l101, y101, z101⟩, st101⟩ := Jvm.LawKit.callS X0 hx (y := y7_) hown (mvT hZ (wi hw 105 rfl)) (mvT hZ (wi hw 106 rfl)) (mvT hZ (wi hw 107 rfl)) (mvT hZ (wi hw 108 rfl)) (by decide) (backOf (W := 1) (rm_max l Z a0 hw [] x y h0 n0 (by omega) (hx2) (hy2)) hZ (wi hw 108 rfl) (wi hw 107 rfl) (by decide) (by decide)) (g := (mkF mM 3 #[.val (.int (iN a)), .val (.int (iN x)), .val (.int (iN y)), .unset] [(.int (iN y)), (.int (iN x)), (.int (iN a))])) rfl (by rw [hml]; rfl) (argsL := [(.int (iN x)), (.int (iN y))]) (rest := [(.int (iN a))]) (lenOf pd_15 rfl) rfl (by show 2 * 0 + _ ≤ _; exact Nat.le_of_eq rfl) (hb hby d48_27_3) (fun _ _ => ⟨rfl, e0, ble rfl, ble rfl⟩)
  dsimp only [Pt.U, Pt.locs, Pt.cells, Pt.slots] at X101 l101 y101 z101 st101 hQ101
  subst y101 z101
  obtain ⟨h101, e101⟩ : ∃ z, T101.heap = z := ⟨_, rfl⟩
  rw [e101] at hQ101
  obtain ⟨rfl, N101q, eq101⟩ := hQ101
  rw [eq101] at e101
  have N101 : Fr n0 L101 := by rw [l101]; exact Fr.app N0 N101q
  obtain ⟨fs, hr, hrun, hended, hW, hsame⟩ := X101.leave (v := some (.int (iN (a + mx x y)))) (fun h => by rw [Bd.returns] at h; cases h)
  refine ⟨_, _, castTop (ef_newLen mM a x y) ?_, hrun, hended, _, _, rfl, ?_, ⟨_, rfl⟩, hW, hsame.mono (by decide) (by decide)⟩
  · show SS pP eE bS s₁ (mkF mM 0 #[.val (.int (iN a)), .val (.int (iN x)), .val (.int (iN y)), .unset] []) _
    refine XS.iloadN X0.here hx rfl (hb hby d48_27_0) rfl ?_
    refine XS.iloadN X0.here hx rfl (hb hby d48_27_1) rfl ?_
    refine XS.iloadN X0.here hx rfl (hb hby d48_27_2) rfl ?_
    show SS pP eE bS s₁ (mkF mM 3 #[.val (.int (iN a)), .val (.int (iN x)), .val (.int (iN y)), .unset] [(.int (iN y)), (.int (iN x)), (.int (iN a))]) _
    refine st101 _ ?_
    show SS pP eE bS T101 (mkF mM 6 #[.val (.int (iN a)), .val (.int (iN x)), .val (.int (iN y)), .unset] [(.int (iN (mx x y))), (.int (iN a))]) _
    refine XS.iadd X101.here hx rfl (hb hby d48_27_6) rfl ?_
    show SS pP eE bS T101 (mkF mM 7 #[.val (.int (iN a)), .val (.int (iN x)), .val (.int (iN y)), .unset] [(.int ((iN a) + (iN (mx x y))))]) _
    rw [show ((iN a) + (iN (mx x y))) = (iN (a + mx x y)) from iN_add a (mx x y)]
    refine XS.istoreN X101.here hx rfl (hb hby d48_27_7) rfl (l' := (Lc_newLen_0 a x y)) rfl ?_
    refine XS.iconst X101.here hx rfl (hb hby d48_27_8) ?_
    refine XS.iloadN X101.here hx rfl (hb hby d48_27_9) rfl ?_
    show SS pP eE bS T101 (mkF mM 10 (Lc_newLen_0 a x y) [(.int (iN (a + mx x y))), (.int (0 : Int32))]) _
    refine XS.icmpNo X101.here hx rfl (hb hby d48_27_10) rfl (tlt (own_pos hp hy : (0 : Int32) < (iN (a + mx x y)))).2.1 ?_
    refine XS.iloadN X101.here hx rfl (hb hby d48_27_13) rfl ?_
    show SS pP eE bS T101 (mkF mM 14 (Lc_newLen_0 a x y) [(.int (iN (a + mx x y)))]) _
    refine X101.ldcInt hx hown (mvT hZ (wi hw 109 rfl)) (g := (mkF mM 14 (Lc_newLen_0 a x y) [(.int (iN (a + mx x y)))])) rfl (hb hby d48_27_14) _ ?_
    show SS pP eE bS T101 (mkF mM 16 (Lc_newLen_0 a x y) [(.int (2147483639 : Int32)), (.int (iN (a + mx x y)))]) _
    refine XS.icmpNo X101.here hx rfl (hb hby d48_27_16) rfl (flt (own_big hy : ¬ ((2147483639 : Int32) < (iN (a + mx x y))))).2.2.1 ?_
    refine XS.iloadN X101.here hx rfl (hb hby d48_27_19) rfl ?_
    show SS pP eE bS T101 (mkF mM 20 (Lc_newLen_0 a x y) [(.int (iN (a + mx x y)))]) _
    exact retI X101 hx Bd.returns (hb hby d48_27_20) hr
  · show Q_newLen Z a x y h0 n0 _ T101.heap _
    rw [e101]
    exact ⟨rfl, N101, rfl⟩
abbrev c68_10 := jdk_68_method_10_code
theorem d68_10_0 : decode c68_10 0 = .ok (.aload_n 0, 1) := by decide +kernel
theorem d68_10_1 : decode c68_10 1 = .ok (.getfield 15, 3) := by decide +kernel
theorem d68_10_4 : decode c68_10 4 = .ok (.arraylength, 1) := by decide +kernel
theorem d68_10_5 : decode c68_10 5 = .ok (.istore_n 2, 1) := by decide +kernel
theorem d68_10_6 : decode c68_10 6 = .ok (.iload_n 1, 1) := by decide +kernel
theorem d68_10_7 : decode c68_10 7 = .ok (.aload_n 0, 1) := by decide +kernel
theorem d68_10_8 : decode c68_10 8 = .ok (.getfield 22, 3) := by decide +kernel
theorem d68_10_11 : decode c68_10 11 = .ok (.ishl, 1) := by decide +kernel
theorem d68_10_12 : decode c68_10 12 = .ok (.istore_n 3, 1) := by decide +kernel
theorem d68_10_13 : decode c68_10 13 = .ok (.iload_n 3, 1) := by decide +kernel
theorem d68_10_14 : decode c68_10 14 = .ok (.iload_n 2, 1) := by decide +kernel
theorem d68_10_15 : decode c68_10 15 = .ok (.isub, 1) := by decide +kernel
theorem d68_10_16 : decode c68_10 16 = .ok (.istore 4, 2) := by decide +kernel
theorem d68_10_18 : decode c68_10 18 = .ok (.iload_n 2, 1) := by decide +kernel
theorem d68_10_19 : decode c68_10 19 = .ok (.iload 4, 2) := by decide +kernel
theorem d68_10_21 : decode c68_10 21 = .ok (.iload_n 2, 1) := by decide +kernel
theorem d68_10_22 : decode c68_10 22 = .ok (.iconst 2, 1) := by decide +kernel
theorem d68_10_23 : decode c68_10 23 = .ok (.aload_n 0, 1) := by decide +kernel
theorem d68_10_24 : decode c68_10 24 = .ok (.getfield 22, 3) := by decide +kernel
theorem d68_10_27 : decode c68_10 27 = .ok (.ishl, 1) := by decide +kernel
theorem d68_10_28 : decode c68_10 28 = .ok (.iadd, 1) := by decide +kernel
theorem d68_10_29 : decode c68_10 29 = .ok (.invokestatic 114, 3) := by decide +kernel
theorem pd_14 : parseMethodDescriptor "(III)I" = some ⟨[.int, .int, .int], some .int⟩ := by decide +kernel
theorem d68_10_32 : decode c68_10 32 = .ok (.istore 5, 2) := by decide +kernel
theorem d68_10_34 : decode c68_10 34 = .ok (.iload 5, 2) := by decide +kernel
theorem d68_10_36 : decode c68_10 36 = .ok (.ldc 39, 2) := by decide +kernel
theorem d68_10_38 : decode c68_10 38 = .ok (.if_icmp .ne 13, 3) := by decide +kernel
theorem d68_10_51 : decode c68_10 51 = .ok (.iload 5, 2) := by decide +kernel
theorem d68_10_53 : decode c68_10 53 = .ok (.aload_n 0, 1) := by decide +kernel
theorem d68_10_54 : decode c68_10 54 = .ok (.getfield 22, 3) := by decide +kernel
theorem d68_10_57 : decode c68_10 57 = .ok (.ishr, 1) := by decide +kernel
theorem d68_10_58 : decode c68_10 58 = .ok (.ireturn, 1) := by decide +kernel
abbrev r2_0_0_29 : Room := { frames := 2, cells := 0, slots := 0, locals := 29 }
abbrev y9_ : MethodName := ⟨"java/lang/AbstractStringBuilder", "newCapacity", "(I)I"⟩
def Q_newCap (Z : State) (o : Addr) (b : Addr) (k : ClassId) (cap : Nat) (xs : List Value) (tot : Nat) (h0 : Heap) (n0 : Nat) (xv : Option Value) (xh : Heap) (xL : List Loc) : Prop := xv = some (.int (iN (cap + mx (tot - cap) (cap + 2)))) ∧ Fr n0 xL ∧ xh = h0
abbrev Lc_newCap_0 (o : Addr) (tot : Nat) : Array Slot := #[.val (.ref o), .val (.int (iN tot)), .unset, .unset, .unset, .unset]
abbrev Lc_newCap_1 (o : Addr) (tot : Nat) (cap : Nat) : Array Slot := #[.val (.ref o), .val (.int (iN tot)), .val (.int (iN cap)), .unset, .unset, .unset]
abbrev Lc_newCap_2 (o : Addr) (tot : Nat) (cap : Nat) : Array Slot := #[.val (.ref o), .val (.int (iN tot)), .val (.int (iN cap)), .val (.int (iN tot)), .unset, .unset]
abbrev Lc_newCap_3 (o : Addr) (tot : Nat) (cap : Nat) : Array Slot := #[.val (.ref o), .val (.int (iN tot)), .val (.int (iN cap)), .val (.int (iN tot)), .val (.int (iN (tot - cap))), .unset]
abbrev Lc_newCap_4 (o : Addr) (tot : Nat) (cap : Nat) : Array Slot := #[.val (.ref o), .val (.int (iN tot)), .val (.int (iN cap)), .val (.int (iN tot)), .val (.int (iN (tot - cap))), .val (.int (iN (cap + mx (tot - cap) (cap + 2))))]
theorem ef_newCap (mM : MethodId) (o : Addr) (b : Addr) (k : ClassId) (cap : Nat) (xs : List Value) (tot : Nat) : entryFrame mM #[(.ref o), (.int (iN tot))] 6 = mkF mM 0 #[.val (.ref o), .val (.int (iN tot)), .unset, .unset, .unset, .unset] [] := by
  first | (simp [entryFrame, mkF, argsToLocals, Value.category]; done) | rfl
theorem rm_newCap (l : Launch) (Z : State) (a0 : Array Value) (hw : HW a0 Z) (ws : List Jvm.Cond) (o : Addr) (b : Addr) (k : ClassId) (cap : Nat) (xs : List Value) (tot : Nat) (h0 : Heap) (n0 : Nat) (Z0 : n0 ≤ h0.size) (F_value_o : Fld Z h0 o "java/lang/AbstractStringBuilder" "value" "[B" (.ref b)) (F_coder_o : Fld Z h0 o "java/lang/AbstractStringBuilder" "coder" "B" (.int (0 : Int32))) (V_b : Arv Z h0 b k .byte (iN cap) xs (.int (0 : Int32))) (hgt : cap < tot) (hC : cap + mx (tot - cap) (cap + 2) ≤ 128) :
    MetFree l y9_ (head1 (Jvm.Cond.code y9_ jdk_68_method_10_code 6 (some .int) :: ws) r2_0_0_29) (fun xa xU => xa = #[(.ref o), (.int (iN tot))] ∧ Z.Warmed39 xU.vm ∧ xU.heap = h0) (fun _ _ _ _ _ => True) (fun _ xU xo xU' => ∃ xv xL, xo = .returned xv ∧ Q_newCap Z o b k cap xs tot h0 n0 xv xU'.heap xL ∧ FrameEnd xU xo xU' xL r2_0_0_29.cells r2_0_0_29.slots) := by
  refine MetFree.of_bodySF (plainFor_of_name pn_java_lang_AbstractStringBuilder) hisR ?_
  intro pP eE sS mM argS bS methS cC s₁ Bd hml0 hP hK
  obtain ⟨rfl, hZ, hh⟩ := hP
  have hx := Bd.exec
  have hby := Bd.bytes
  have hml : cC.maxLocals = 6 := hml0
  have hown : sS.vm.findClass "java/lang/AbstractStringBuilder" = some mM.cls := findClass_of_methodNamed Bd.named
  have hnm := (name_of_methodNamed Bd.named Bd.method).1
  have X0 : Stand pP l eE r2_0_0_29 sS mM #[(.ref o), (.int (iN tot))] bS methS cC s₁ [] 0 0 := Stand.of_body Bd
  have e0 : s₁.heap = h0 := by rw [← hh, Bd.state]; rfl
  have N0 := Fr.nil n0
  have hmx := mx_ge (tot - cap) (cap + 2)
  obtain ⟨T101, X101, e101, st101⟩ := getF X0 hx hZ hown (host := "") (Or.inl (wi hw 42 rfl)) Via.refl e0 F_value_o (g := (mkF mM 1 (Lc_newCap_0 o tot) [(.ref o)])) rfl rfl (hb hby d68_10_1)
  obtain ⟨cl102, Ar102, q102, S102, Ng102, Ha102, Ga102⟩ := id V_b
  obtain ⟨T103, X103, e103, st103⟩ := getF X101 hx hZ hown (host := "") (Or.inl (wi hw 44 rfl)) Via.refl e101 F_coder_o (g := (mkF mM 8 (Lc_newCap_1 o tot cap) [(.ref o), (.int (iN tot))])) rfl rfl (hb hby d68_10_8)
  obtain ⟨T104, X104, e104, st104⟩ := getF X103 hx hZ hown (host := "") (Or.inl (wi hw 44 rfl)) Via.refl e103 F_coder_o (g := (mkF mM 24 (Lc_newCap_3 o tot cap) [(.ref o), (.int (2 : Int32)), (.int (iN cap)), (.int (iN (tot - cap))), (.int (iN cap))])) rfl rfl (hb hby d68_10_24)
  obtain ⟨_, _, ⟨T105, L105, k105, n105⟩, -, X105, ⟨Lc105, hQ105, l105, y105, z105⟩, st105⟩ := Jvm.LawKit.callS X104 hx (y := y8_) hown (mvT hZ (wi hw 101 rfl)) (mvT hZ (wi hw 102 rfl)) (mvT hZ (wi hw 103 rfl)) (mvT hZ (wi hw 104 rfl)) (by decide) (backOf (W := 0) (rm_newLen l Z a0 hw [] cap (tot - cap) (cap + 2) h0 n0 (by omega) (by have := mx_ge (tot - cap) (cap + 2); omega) (by omega) (by have := mx_ge (tot - cap) (cap + 2); omega) (by have := mx_ge (tot - cap) (cap + 2); omega)) hZ (wi hw 104 rfl) (wi hw 103 rfl) (by decide) (by decide)) (g := (mkF mM 29 (Lc_newCap_3 o tot cap) [(.int (iN (cap + 2))), (.int (iN (tot - cap))), (.int (iN cap))])) rfl (by rw [hml]; rfl) (argsL := [(.int (iN cap)), (.int (iN (tot - cap))), (.int (iN (cap + 2)))]) (rest := []) (lenOf pd_14 rfl) rfl (by show 2 * 0 + _ ≤ _; exact Nat.le_of_eq rfl) (hb hby d68_10_29) (fun _ _ => ⟨rfl, e104, ble rfl, ble rfl⟩)
  dsimp only [Pt.U, Pt.locs, Pt.cells, Pt.slots] at X105 l105 y105 z105 st105 hQ105
  subst y105 z105
  obtain ⟨h105, e105⟩ : ∃ z, T105.heap = z := ⟨_, rfl⟩
  rw [e105] at hQ105
  obtain ⟨rfl, N105q, eq105⟩ := hQ105
  rw [eq105] at e105
  have N105 : Fr n0 L105 := by rw [l105]; exact Fr.app N0 N105q
  obtain ⟨T106, X106, e106, st106⟩ := getF X105 hx hZ hown (host := "") (Or.inl (wi hw 44 rfl)) Via.refl e105 F_coder_o (g := (mkF mM 54 (Lc_newCap_4 o tot cap) [(.ref o), (.int (iN (cap + mx (tot - cap) (cap + 2))))])) rfl rfl (hb hby d68_10_54)
  obtain ⟨fs, hr, hrun, hended, hW, hsame⟩ := X106.leave (v := some (.int (iN (cap + mx (tot - cap) (cap + 2))))) (fun h => by rw [Bd.returns] at h; cases h)
  refine ⟨_, _, castTop (ef_newCap mM o b k cap xs tot) ?_, hrun, hended, _, _, rfl, ?_, ⟨_, rfl⟩, hW, hsame.mono (by decide) (by decide)⟩
  · show SS pP eE bS s₁ (mkF mM 0 (Lc_newCap_0 o tot) []) _
    refine XS.aloadN X0.here hx rfl (hb hby d68_10_0) rfl rfl ?_
    show SS pP eE bS s₁ (mkF mM 1 (Lc_newCap_0 o tot) [(.ref o)]) _
    refine st101 _ ?_
    show SS pP eE bS T101 (mkF mM 4 (Lc_newCap_0 o tot) [(.ref b)]) _
    refine X101.arraylength hx (by rw [e101]; exact Ar102.1) (State.isArrayOf_alike hZ.alike Ar102.2.1) (g := (mkF mM 4 (Lc_newCap_0 o tot) [(.ref b)])) rfl rfl (hb hby d68_10_4) _ ?_
    rw [len_of S102 Ng102]
    show SS pP eE bS T101 (mkF mM 5 (Lc_newCap_0 o tot) [(.int (iN cap))]) _
    refine XS.istoreN X101.here hx rfl (hb hby d68_10_5) rfl (l' := (Lc_newCap_1 o tot cap)) rfl ?_
    refine XS.iloadN X101.here hx rfl (hb hby d68_10_6) rfl ?_
    refine XS.aloadN X101.here hx rfl (hb hby d68_10_7) rfl rfl ?_
    show SS pP eE bS T101 (mkF mM 8 (Lc_newCap_1 o tot cap) [(.ref o), (.int (iN tot))]) _
    refine st103 _ ?_
    show SS pP eE bS T103 (mkF mM 11 (Lc_newCap_1 o tot cap) [(.int (0 : Int32)), (.int (iN tot))]) _
    refine XS.ishl X103.here hx rfl (hb hby d68_10_11) rfl ?_
    show SS pP eE bS T103 (mkF mM 12 (Lc_newCap_1 o tot cap) [(.int ((iN tot) <<< ((0 : Int32) &&& 31)))]) _
    rw [show ((iN tot) <<< ((0 : Int32) &&& 31)) = (iN tot) from shl0 _]
    refine XS.istoreN X103.here hx rfl (hb hby d68_10_12) rfl (l' := (Lc_newCap_2 o tot cap)) rfl ?_
    refine XS.iloadN X103.here hx rfl (hb hby d68_10_13) rfl ?_
    refine XS.iloadN X103.here hx rfl (hb hby d68_10_14) rfl ?_
    show SS pP eE bS T103 (mkF mM 15 (Lc_newCap_2 o tot cap) [(.int (iN cap)), (.int (iN tot))]) _
    refine XS.isub X103.here hx rfl (hb hby d68_10_15) rfl ?_
    show SS pP eE bS T103 (mkF mM 16 (Lc_newCap_2 o tot cap) [(.int ((iN tot) - (iN cap)))]) _
    rw [show ((iN tot) - (iN cap)) = (iN (tot - cap)) from iN_sub (by omega) (by omega)]
    refine XS.istore X103.here hx rfl (hb hby d68_10_16) rfl (l' := (Lc_newCap_3 o tot cap)) rfl ?_
    refine XS.iloadN X103.here hx rfl (hb hby d68_10_18) rfl ?_
    refine XS.iload X103.here hx rfl (hb hby d68_10_19) rfl ?_
    show SS pP eE bS T103 (mkF mM 21 (Lc_newCap_3 o tot cap) [(.int (iN (tot - cap))), (.int (iN cap))]) _
    refine XS.iloadN X103.here hx rfl (hb hby d68_10_21) rfl ?_
    refine XS.iconst X103.here hx rfl (hb hby d68_10_22) ?_
    refine XS.aloadN X103.here hx rfl (hb hby d68_10_23) rfl rfl ?_
    show SS pP eE bS T103 (mkF mM 24 (Lc_newCap_3 o tot cap) [(.ref o), (.int (2 : Int32)), (.int (iN cap)), (.int (iN (tot - cap))), (.int (iN cap))]) _
    refine st104 _ ?_
    show SS pP eE bS T104 (mkF mM 27 (Lc_newCap_3 o tot cap) [(.int (0 : Int32)), (.int (2 : Int32)), (.int (iN cap)), (.int (iN (tot - cap))), (.int (iN cap))]) _
    refine XS.ishl X104.here hx rfl (hb hby d68_10_27) rfl ?_
    refine XS.iadd X104.here hx rfl (hb hby d68_10_28) rfl ?_
    show SS pP eE bS T104 (mkF mM 29 (Lc_newCap_3 o tot cap) [(.int ((iN cap) + (2 : Int32))), (.int (iN (tot - cap))), (.int (iN cap))]) _
    rw [show ((iN cap) + (2 : Int32)) = (iN (cap + 2)) from iN_add cap 2]
    show SS pP eE bS T104 (mkF mM 29 (Lc_newCap_3 o tot cap) [(.int (iN (cap + 2))), (.int (iN (tot - cap))), (.int (iN cap))]) _
    refine st105 _ ?_
    show SS pP eE bS T105 (mkF mM 32 (Lc_newCap_3 o tot cap) [(.int (iN (cap + mx (tot - cap) (cap + 2))))]) _
    refine XS.istore X105.here hx rfl (hb hby d68_10_32) rfl (l' := (Lc_newCap_4 o tot cap)) rfl ?_
    refine XS.iload X105.here hx rfl (hb hby d68_10_34) rfl ?_
    show SS pP eE bS T105 (mkF mM 36 (Lc_newCap_4 o tot cap) [(.int (iN (cap + mx (tot - cap) (cap + 2))))]) _
    refine X105.ldcInt hx hown (mvT hZ (wi hw 110 rfl)) (g := (mkF mM 36 (Lc_newCap_4 o tot cap) [(.int (iN (cap + mx (tot - cap) (cap + 2))))])) rfl (hb hby d68_10_36) _ ?_
    show SS pP eE bS T105 (mkF mM 38 (Lc_newCap_4 o tot cap) [(.int (2147483647 : Int32)), (.int (iN (cap + mx (tot - cap) (cap + 2))))]) _
    refine XS.icmpYes X105.here hx rfl (pc0 := 38) (pc' := 51) rfl (hb hby d68_10_38) rfl (feq (own_max (by omega) : ¬ ((iN (cap + mx (tot - cap) (cap + 2))) = (2147483647 : Int32)))).2 (by decide) (by decide) ?_
    refine XS.iload X105.here hx rfl (hb hby d68_10_51) rfl ?_
    refine XS.aloadN X105.here hx rfl (hb hby d68_10_53) rfl rfl ?_
    show SS pP eE bS T105 (mkF mM 54 (Lc_newCap_4 o tot cap) [(.ref o), (.int (iN (cap + mx (tot - cap) (cap + 2))))]) _
    refine st106 _ ?_
    show SS pP eE bS T106 (mkF mM 57 (Lc_newCap_4 o tot cap) [(.int (0 : Int32)), (.int (iN (cap + mx (tot - cap) (cap + 2))))]) _
    refine XS.ishr X106.here hx rfl (hb hby d68_10_57) rfl ?_
    show SS pP eE bS T106 (mkF mM 58 (Lc_newCap_4 o tot cap) [(.int ((iN (cap + mx (tot - cap) (cap + 2))) >>> ((0 : Int32) &&& 31)))]) _
    rw [show ((iN (cap + mx (tot - cap) (cap + 2))) >>> ((0 : Int32) &&& 31)) = (iN (cap + mx (tot - cap) (cap + 2))) from shr0 _]
    show SS pP eE bS T106 (mkF mM 58 (Lc_newCap_4 o tot cap) [(.int (iN (cap + mx (tot - cap) (cap + 2))))]) _
    exact retI X106 hx Bd.returns (hb hby d68_10_58) hr
  · show Q_newCap Z o b k cap xs tot h0 n0 _ T106.heap _
    rw [e106]
    exact ⟨rfl, N105, rfl⟩
abbrev c29_69 := jdk_29_method_69_code
theorem d29_69_0 : decode c29_69 0 = .ok (.iload_n 0, 1) := by decide +kernel
theorem d29_69_1 : decode c29_69 1 = .ok (.iload_n 1, 1) := by decide +kernel
theorem d29_69_2 : decode c29_69 2 = .ok (.if_icmp .gt 7, 3) := by decide +kernel
theorem d29_69_5 : decode c29_69 5 = .ok (.iload_n 0, 1) := by decide +kernel
theorem d29_69_6 : decode c29_69 6 = .ok (.goto 4, 3) := by decide +kernel
theorem d29_69_10 : decode c29_69 10 = .ok (.ireturn, 1) := by decide +kernel
abbrev y10_ : MethodName := ⟨"java/lang/Math", "min", "(II)I"⟩
def Q_min_l (Z : State) (x : Nat) (y : Nat) (h0 : Heap) (n0 : Nat) (xv : Option Value) (xh : Heap) (xL : List Loc) : Prop := xv = some (.int (iN x)) ∧ Fr n0 xL ∧ xh = h0
theorem ef_min_l (mM : MethodId) (x : Nat) (y : Nat) : entryFrame mM #[(.int (iN x)), (.int (iN y))] 2 = mkF mM 0 #[.val (.int (iN x)), .val (.int (iN y))] [] := by
  first | (simp [entryFrame, mkF, argsToLocals, Value.category]; done) | rfl
theorem rm_min_l (l : Launch) (Z : State) (a0 : Array Value) (hw : HW a0 Z) (ws : List Jvm.Cond) (x : Nat) (y : Nat) (h0 : Heap) (n0 : Nat) (Z0 : n0 ≤ h0.size) (hxy : x ≤ y) (hy : y < 1000000) :
    MetFree l y10_ (head1 (Jvm.Cond.code y10_ jdk_29_method_69_code 2 (some .int) :: ws) r0_0_0_0) (fun xa xU => xa = #[(.int (iN x)), (.int (iN y))] ∧ Z.Warmed39 xU.vm ∧ xU.heap = h0) (fun _ _ _ _ _ => True) (fun _ xU xo xU' => ∃ xv xL, xo = .returned xv ∧ Q_min_l Z x y h0 n0 xv xU'.heap xL ∧ FrameEnd xU xo xU' xL r0_0_0_0.cells r0_0_0_0.slots) := by
  refine MetFree.of_bodySF (Jvm.Free.JP.mathPlain rfl (by decide +kernel)) hisR ?_
  intro pP eE sS mM argS bS methS cC s₁ Bd hml0 hP hK
  obtain ⟨rfl, hZ, hh⟩ := hP
  have hx := Bd.exec
  have hby := Bd.bytes
  have hml : cC.maxLocals = 2 := hml0
  have hown : sS.vm.findClass "java/lang/Math" = some mM.cls := findClass_of_methodNamed Bd.named
  have hnm := (name_of_methodNamed Bd.named Bd.method).1
  have X0 : Stand pP l eE r0_0_0_0 sS mM #[(.int (iN x)), (.int (iN y))] bS methS cC s₁ [] 0 0 := Stand.of_body Bd
  have e0 : s₁.heap = h0 := by rw [← hh, Bd.state]; rfl
  have N0 := Fr.nil n0
  obtain ⟨fs, hr, hrun, hended, hW, hsame⟩ := X0.leave (v := some (.int (iN x))) (fun h => by rw [Bd.returns] at h; cases h)
  refine ⟨_, _, castTop (ef_min_l mM x y) ?_, hrun, hended, _, _, rfl, ?_, ⟨_, rfl⟩, hW, hsame.mono (by decide) (by decide)⟩
  · show SS pP eE bS s₁ (mkF mM 0 #[.val (.int (iN x)), .val (.int (iN y))] []) _
    refine XS.iloadN X0.here hx rfl (hb hby d29_69_0) rfl ?_
    refine XS.iloadN X0.here hx rfl (hb hby d29_69_1) rfl ?_
    refine XS.icmpNo X0.here hx rfl (hb hby d29_69_2) rfl (flt (fun q => absurd ((iN_lt (by omega) (by omega)).mp q) (by omega) : ¬ ((iN y) < (iN x)))).2.2.1 ?_
    refine XS.iloadN X0.here hx rfl (hb hby d29_69_5) rfl ?_
    show SS pP eE bS s₁ (mkF mM 6 #[.val (.int (iN x)), .val (.int (iN y))] [(.int (iN x))]) _
    refine XS.goto X0.here hx rfl (pc0 := 6) (pc' := 10) rfl (hb hby d29_69_6) (by decide) (by decide) ?_
    show SS pP eE bS s₁ (mkF mM 10 #[.val (.int (iN x)), .val (.int (iN y))] [(.int (iN x))]) _
    exact retI X0 hx Bd.returns (hb hby d29_69_10) hr
  · show Q_min_l Z x y h0 n0 _ s₁.heap _
    rw [e0]
    exact ⟨rfl, N0, rfl⟩
abbrev c65_121 := jdk_65_method_121_code
theorem d65_121_0 : decode c65_121 0 = .ok (.iload_n 1, 1) := by decide +kernel
theorem d65_121_1 : decode c65_121 1 = .ok (.aload_n 0, 1) := by decide +kernel
theorem d65_121_2 : decode c65_121 2 = .ok (.arraylength, 1) := by decide +kernel
theorem d65_121_3 : decode c65_121 3 = .ok (.if_icmp .ne 11, 3) := by decide +kernel
theorem d65_121_14 : decode c65_121 14 = .ok (.iload_n 1, 1) := by decide +kernel
theorem d65_121_15 : decode c65_121 15 = .ok (.newarray .byte, 2) := by decide +kernel
theorem d65_121_17 : decode c65_121 17 = .ok (.astore_n 2, 1) := by decide +kernel
theorem d65_121_18 : decode c65_121 18 = .ok (.aload_n 0, 1) := by decide +kernel
theorem d65_121_19 : decode c65_121 19 = .ok (.iconst 0, 1) := by decide +kernel
theorem d65_121_20 : decode c65_121 20 = .ok (.aload_n 2, 1) := by decide +kernel
theorem d65_121_21 : decode c65_121 21 = .ok (.iconst 0, 1) := by decide +kernel
theorem d65_121_22 : decode c65_121 22 = .ok (.aload_n 0, 1) := by decide +kernel
theorem d65_121_23 : decode c65_121 23 = .ok (.arraylength, 1) := by decide +kernel
theorem d65_121_24 : decode c65_121 24 = .ok (.iload_n 1, 1) := by decide +kernel
theorem d65_121_25 : decode c65_121 25 = .ok (.invokestatic 304, 3) := by decide +kernel
theorem d65_121_28 : decode c65_121 28 = .ok (.invokestatic 150, 3) := by decide +kernel
theorem d65_121_31 : decode c65_121 31 = .ok (.aload_n 2, 1) := by decide +kernel
theorem d65_121_32 : decode c65_121 32 = .ok (.areturn, 1) := by decide +kernel
abbrev r1_1_128_18 : Room := { frames := 1, cells := 1, slots := 128, locals := 18 }
abbrev y11_ : MethodName := ⟨"java/util/Arrays", "copyOf", "([BI)[B"⟩
theorem pn_java_util_Arrays : plainName "java/util/Arrays" = true := by first | (simp [plainName, overriddenIn]; done) | decide +kernel
def Q_copyOf (Z : State) (b : Addr) (k : ClassId) (cap : Nat) (xs : List Value) (nc : Nat) (h0 : Heap) (n0 : Nat) (xv : Option Value) (xh : Heap) (xL : List Loc) : Prop := ∃ b2 : Addr, ∃ k2 : ClassId, xv = some (.ref b2) ∧ Fr n0 xL ∧ Keep h0 xh [] ∧ Arv Z xh b2 k2 .byte (iN nc) xs (.int (0 : Int32)) ∧ @LE.le Nat _ h0.size b2
theorem ef_copyOf (mM : MethodId) (b : Addr) (k : ClassId) (cap : Nat) (xs : List Value) (nc : Nat) : entryFrame mM #[(.ref b), (.int (iN nc))] 3 = mkF mM 0 #[.val (.ref b), .val (.int (iN nc)), .unset] [] := by
  first | (simp [entryFrame, mkF, argsToLocals, Value.category]; done) | rfl
theorem rm_copyOf (l : Launch) (Z : State) (a0 : Array Value) (hw : HW a0 Z) (ws : List Jvm.Cond) (b : Addr) (k : ClassId) (cap : Nat) (xs : List Value) (nc : Nat) (h0 : Heap) (n0 : Nat) (Z0 : n0 ≤ h0.size) (V_b : Arv Z h0 b k .byte (iN cap) xs (.int (0 : Int32))) (hnc : cap < nc ∧ nc ≤ 128) (hl : xs.length ≤ cap) :
    MetFree l y11_ (head1 (Jvm.Cond.code y11_ jdk_65_method_121_code 3 (some (.array .byte)) :: ws) r1_1_128_18) (fun xa xU => xa = #[(.ref b), (.int (iN nc))] ∧ Z.Warmed39 xU.vm ∧ xU.heap = h0) (fun _ _ _ _ _ => True) (fun _ xU xo xU' => ∃ xv xL, xo = .returned xv ∧ Q_copyOf Z b k cap xs nc h0 n0 xv xU'.heap xL ∧ FrameEnd xU xo xU' xL r1_1_128_18.cells r1_1_128_18.slots) := by
  refine MetFree.of_bodySF (plainFor_of_name pn_java_util_Arrays) hisR ?_
  intro pP eE sS mM argS bS methS cC s₁ Bd hml0 hP hK
  obtain ⟨rfl, hZ, hh⟩ := hP
  have hx := Bd.exec
  have hby := Bd.bytes
  have hml : cC.maxLocals = 3 := hml0
  have hown : sS.vm.findClass "java/util/Arrays" = some mM.cls := findClass_of_methodNamed Bd.named
  have hnm := (name_of_methodNamed Bd.named Bd.method).1
  have X0 : Stand pP l eE r1_1_128_18 sS mM #[(.ref b), (.int (iN nc))] bS methS cC s₁ [] 0 0 := Stand.of_body Bd
  have e0 : s₁.heap = h0 := by rw [← hh, Bd.state]; rfl
  have N0 := Fr.nil n0
  obtain ⟨cl101, Ar101, q101, S101, Ng101, Ha101, Ga101⟩ := id V_b
  obtain ⟨T102, h102, k102, X102, e102, E102, A102, st102⟩ := newP X0 hx hZ (wi hw 15 rfl) e0 (g := (mkF mM 15 #[.val (.ref b), .val (.int (iN nc)), .unset] [(.int (iN nc))])) rfl (hb hby d65_121_15) rfl (iN_nn (by omega)) (cap := 128) (by rw [iN_nat (by omega)]; omega) (by decide) (by decide) (by decide)
  obtain ⟨b102, g102⟩ : ∃ z : Nat, z = h0.size := ⟨_, rfl⟩
  rw [← g102] at A102 st102
  have Sz1 : h0.size ≤ h102.size := E102.1
  have V_b102 : Arv Z h102 b102 k102 .byte (iN nc) [] (.int (0 : Int32)) := Arv.new A102 (iN_nn (by omega))
  have c103_V_b : Arv Z h102 b k .byte (iN cap) xs (.int (0 : Int32)) := V_b.ext E102
  obtain ⟨cl104, Ar104, q104, S104, Ng104, Ha104, Ga104⟩ := id c103_V_b
  obtain ⟨_, _, ⟨T105, L105, k105, n105⟩, -, X105, ⟨Lc105, hQ105, l105, y105, z105⟩, st105⟩ := Jvm.LawKit.callS X102 hx (y := y10_) hown (mvT hZ (wi hw 115 rfl)) (mvT hZ (wi hw 116 rfl)) (mvT hZ (wi hw 107 rfl)) (mvT hZ (wi hw 117 rfl)) (by decide) (backOf (W := 4) (rm_min_l l Z a0 hw [] cap nc h102 n0 (by omega) (by omega) (by omega)) hZ (wi hw 117 rfl) (wi hw 107 rfl) (by decide) (by decide)) (g := (mkF mM 25 #[.val (.ref b), .val (.int (iN nc)), .val (.ref b102)] [(.int (iN nc)), (.int (iN cap)), (.int (0 : Int32)), (.ref b102), (.int (0 : Int32)), (.ref b)])) rfl (by rw [hml]; rfl) (argsL := [(.int (iN cap)), (.int (iN nc))]) (rest := [(.int (0 : Int32)), (.ref b102), (.int (0 : Int32)), (.ref b)]) (lenOf pd_15 rfl) rfl (by show 2 * 0 + _ ≤ _; exact Nat.le_of_eq rfl) (hb hby d65_121_25) (fun _ _ => ⟨rfl, e102, ble rfl, ble rfl⟩)
  dsimp only [Pt.U, Pt.locs, Pt.cells, Pt.slots] at X105 l105 y105 z105 st105 hQ105
  subst y105 z105
  obtain ⟨h105, e105⟩ : ∃ z, T105.heap = z := ⟨_, rfl⟩
  rw [e105] at hQ105
  obtain ⟨rfl, N105q, eq105⟩ := hQ105
  rw [eq105] at e105
  have N105 : Fr n0 L105 := by rw [l105]; exact Fr.app N0 N105q
  have ge106_b102 : @LE.le Nat _ n0 b102 := by omega
  obtain ⟨T107, h107, L107, X107, e107, N107, Kc107, Vc107, st107⟩ := cpAll X105 hx hZ hown (wi hw 118 rfl) (wi hw 94 rfl) (wi hw 92 rfl) (wi hw 93 rfl) e105 c103_V_b V_b102 rfl hl (by rw [iN_nat (by omega)]; omega) (by rw [iN_nat (by omega)]; omega) (by omega) N105 ge106_b102 (g := (mkF mM 28 #[.val (.ref b), .val (.int (iN nc)), .val (.ref b102)] [(.int (iN cap)), (.int (0 : Int32)), (.ref b102), (.int (0 : Int32)), (.ref b)])) rfl (by rw [hml]; rfl) rfl (hb hby d65_121_28) (by decide) (W := 0) (by show 2 * 0 + _ ≤ _; exact Nat.le_of_eq rfl) (by decide)
  have Sz2 : h102.size ≤ h107.size := Kc107.1
  have K108 : Keep h0 h102 [] := (Keep.refl h0 []).ext E102
  have K109 : Keep h0 h107 [] := K108.trans Kc107 (allS (Or.inr (by omega : @LE.le Nat _ h0.size b102)) all0)
  obtain ⟨fs, hr, hrun, hended, hW, hsame⟩ := X107.leave (v := some (.ref b102)) (fun h => by rw [Bd.returns] at h; cases h)
  refine ⟨_, _, castTop (ef_copyOf mM b k cap xs nc) ?_, hrun, hended, _, _, rfl, ?_, ⟨_, rfl⟩, hW, hsame.mono (by decide) (by decide)⟩
  · show SS pP eE bS s₁ (mkF mM 0 #[.val (.ref b), .val (.int (iN nc)), .unset] []) _
    refine XS.iloadN X0.here hx rfl (hb hby d65_121_0) rfl ?_
    refine XS.aloadN X0.here hx rfl (hb hby d65_121_1) rfl rfl ?_
    show SS pP eE bS s₁ (mkF mM 2 #[.val (.ref b), .val (.int (iN nc)), .unset] [(.ref b), (.int (iN nc))]) _
    refine X0.arraylength hx (by rw [e0]; exact Ar101.1) (State.isArrayOf_alike hZ.alike Ar101.2.1) (g := (mkF mM 2 #[.val (.ref b), .val (.int (iN nc)), .unset] [(.ref b), (.int (iN nc))])) rfl rfl (hb hby d65_121_2) _ ?_
    rw [len_of S101 Ng101]
    show SS pP eE bS s₁ (mkF mM 3 #[.val (.ref b), .val (.int (iN nc)), .unset] [(.int (iN cap)), (.int (iN nc))]) _
    refine XS.icmpYes X0.here hx rfl (pc0 := 3) (pc' := 14) rfl (hb hby d65_121_3) rfl (feq (fun q => absurd ((iN_eq (by omega) (by omega)).mp q) (by omega) : ¬ ((iN nc) = (iN cap)))).2 (by decide) (by decide) ?_
    refine XS.iloadN X0.here hx rfl (hb hby d65_121_14) rfl ?_
    show SS pP eE bS s₁ (mkF mM 15 #[.val (.ref b), .val (.int (iN nc)), .unset] [(.int (iN nc))]) _
    refine st102 _ ?_
    show SS pP eE bS T102 (mkF mM 17 #[.val (.ref b), .val (.int (iN nc)), .unset] [(.ref b102)]) _
    refine XS.astoreN X102.here hx rfl (hb hby d65_121_17) rfl rfl (l' := #[.val (.ref b), .val (.int (iN nc)), .val (.ref b102)]) rfl ?_
    refine XS.aloadN X102.here hx rfl (hb hby d65_121_18) rfl rfl ?_
    refine XS.iconst X102.here hx rfl (hb hby d65_121_19) ?_
    refine XS.aloadN X102.here hx rfl (hb hby d65_121_20) rfl rfl ?_
    show SS pP eE bS T102 (mkF mM 21 #[.val (.ref b), .val (.int (iN nc)), .val (.ref b102)] [(.ref b102), (.int (0 : Int32)), (.ref b)]) _
    refine XS.iconst X102.here hx rfl (hb hby d65_121_21) ?_
    refine XS.aloadN X102.here hx rfl (hb hby d65_121_22) rfl rfl ?_
    show SS pP eE bS T102 (mkF mM 23 #[.val (.ref b), .val (.int (iN nc)), .val (.ref b102)] [(.ref b), (.int (0 : Int32)), (.ref b102), (.int (0 : Int32)), (.ref b)]) _
    refine X102.arraylength hx (by rw [e102]; exact Ar104.1) (State.isArrayOf_alike hZ.alike Ar104.2.1) (g := (mkF mM 23 #[.val (.ref b), .val (.int (iN nc)), .val (.ref b102)] [(.ref b), (.int (0 : Int32)), (.ref b102), (.int (0 : Int32)), (.ref b)])) rfl rfl (hb hby d65_121_23) _ ?_
    rw [len_of S104 Ng104]
    show SS pP eE bS T102 (mkF mM 24 #[.val (.ref b), .val (.int (iN nc)), .val (.ref b102)] [(.int (iN cap)), (.int (0 : Int32)), (.ref b102), (.int (0 : Int32)), (.ref b)]) _
    refine XS.iloadN X102.here hx rfl (hb hby d65_121_24) rfl ?_
    show SS pP eE bS T102 (mkF mM 25 #[.val (.ref b), .val (.int (iN nc)), .val (.ref b102)] [(.int (iN nc)), (.int (iN cap)), (.int (0 : Int32)), (.ref b102), (.int (0 : Int32)), (.ref b)]) _
    refine st105 _ ?_
    show SS pP eE bS T105 (mkF mM 28 #[.val (.ref b), .val (.int (iN nc)), .val (.ref b102)] [(.int (iN cap)), (.int (0 : Int32)), (.ref b102), (.int (0 : Int32)), (.ref b)]) _
    refine st107 _ ?_
    show SS pP eE bS T107 (mkF mM 31 #[.val (.ref b), .val (.int (iN nc)), .val (.ref b102)] []) _
    refine XS.aloadN X107.here hx rfl (hb hby d65_121_31) rfl rfl ?_
    show SS pP eE bS T107 (mkF mM 32 #[.val (.ref b), .val (.int (iN nc)), .val (.ref b102)] [(.ref b102)]) _
    jvm_step X107.here [X107.here.top, hx, (hb hby d65_121_32), X107.method', Bd.returns, Value.isRef, FieldType.isReference]
    first | (intro acts; rw [hr _ acts rfl rfl rfl]) | rw [hr _ _ rfl rfl rfl]
    exact Steps.refl _
  · show Q_copyOf Z b k cap xs nc h0 n0 _ T107.heap _
    rw [e107]
    exact ⟨b102, k102, rfl, N107, K109, Vc107, (by omega)⟩
theorem d68_9_17 : decode c68_9 17 = .ok (.aload_n 0, 1) := by decide +kernel
theorem d68_9_18 : decode c68_9 18 = .ok (.aload_n 0, 1) := by decide +kernel
theorem d68_9_19 : decode c68_9 19 = .ok (.getfield 15, 3) := by decide +kernel
theorem d68_9_22 : decode c68_9 22 = .ok (.aload_n 0, 1) := by decide +kernel
theorem d68_9_23 : decode c68_9 23 = .ok (.iload_n 1, 1) := by decide +kernel
theorem d68_9_24 : decode c68_9 24 = .ok (.invokevirtual 104, 3) := by decide +kernel
theorem pd_13 : parseMethodDescriptor "(I)I" = some ⟨[.int], some .int⟩ := by decide +kernel
theorem d68_9_27 : decode c68_9 27 = .ok (.aload_n 0, 1) := by decide +kernel
theorem d68_9_28 : decode c68_9 28 = .ok (.getfield 22, 3) := by decide +kernel
theorem d68_9_31 : decode c68_9 31 = .ok (.ishl, 1) := by decide +kernel
theorem d68_9_32 : decode c68_9 32 = .ok (.invokestatic 108, 3) := by decide +kernel
theorem pd_16 : parseMethodDescriptor "([BI)[B" = some ⟨[(.array .byte), .int], some (.array .byte)⟩ := by decide +kernel
theorem d68_9_35 : decode c68_9 35 = .ok (.putfield 15, 3) := by decide +kernel
def Q_ens (Z : State) (o : Addr) (b : Addr) (k : ClassId) (cap : Nat) (xs : List Value) (tot : Nat) (u : Value) (h0 : Heap) (n0 : Nat) (xv : Option Value) (xh : Heap) (xL : List Loc) : Prop := ∃ b2 : Addr, ∃ k2 : ClassId, xv = none ∧ Fr n0 xL ∧ Keep h0 xh [o] ∧ Exa Z xh o "java/lang/StringBuilder" ∧ Fld Z xh o "java/lang/AbstractStringBuilder" "value" "[B" (.ref b2) ∧ Fld Z xh o "java/lang/AbstractStringBuilder" "coder" "B" (.int (0 : Int32)) ∧ Fld Z xh o "java/lang/AbstractStringBuilder" "count" "I" u ∧ Arv Z xh b2 k2 .byte (iN (ncap cap tot)) xs (.int (0 : Int32)) ∧ (@Eq Nat b2 b ∨ @LE.le Nat _ h0.size b2) ∧ @Ne Nat o b2 ∧ @LE.le Nat _ n0 b2
abbrev r3_1_128_48 : Room := { frames := 3, cells := 1, slots := 128, locals := 48 }
abbrev y12_ : MethodName := ⟨"java/lang/AbstractStringBuilder", "ensureCapacityInternal", "(I)V"⟩
theorem ef_ens0 (mM : MethodId) (o : Addr) (b : Addr) (k : ClassId) (cap : Nat) (xs : List Value) (tot : Nat) (u : Value) : entryFrame mM #[(.ref o), (.int (iN tot))] 3 = mkF mM 0 #[.val (.ref o), .val (.int (iN tot)), .unset] [] := by
  first | (simp [entryFrame, mkF, argsToLocals, Value.category]; done) | rfl
theorem rm_ens0 (l : Launch) (Z : State) (a0 : Array Value) (hw : HW a0 Z) (ws : List Jvm.Cond) (o : Addr) (b : Addr) (k : ClassId) (cap : Nat) (xs : List Value) (tot : Nat) (u : Value) (h0 : Heap) (n0 : Nat) (Z0 : n0 ≤ h0.size) (E_o : Exa Z h0 o "java/lang/StringBuilder") (F_value_o : Fld Z h0 o "java/lang/AbstractStringBuilder" "value" "[B" (.ref b)) (F_coder_o : Fld Z h0 o "java/lang/AbstractStringBuilder" "coder" "B" (.int (0 : Int32))) (F_count_o : Fld Z h0 o "java/lang/AbstractStringBuilder" "count" "I" u) (V_b : Arv Z h0 b k .byte (iN cap) xs (.int (0 : Int32))) (ne_o_b : @Ne Nat o b) (g_o : @LE.le Nat _ n0 o) (g_b : @LE.le Nat _ n0 b) (hle : tot ≤ cap) (hC : cap ≤ 128) :
    MetFree l y12_ (head1 (Jvm.Cond.code y12_ jdk_68_method_9_code 3 none :: ws) r3_1_128_48) (fun xa xU => xa = #[(.ref o), (.int (iN tot))] ∧ Z.Warmed39 xU.vm ∧ xU.heap = h0) (fun _ _ _ _ _ => True) (fun _ xU xo xU' => ∃ xv xL, xo = .returned xv ∧ Q_ens Z o b k cap xs tot u h0 n0 xv xU'.heap xL ∧ FrameEnd xU xo xU' xL r3_1_128_48.cells r3_1_128_48.slots) := by
  refine MetFree.of_bodySF (plainFor_of_name pn_java_lang_AbstractStringBuilder) hisR ?_
  intro pP eE sS mM argS bS methS cC s₁ Bd hml0 hP hK
  obtain ⟨rfl, hZ, hh⟩ := hP
  have hx := Bd.exec
  have hby := Bd.bytes
  have hml : cC.maxLocals = 3 := hml0
  have hown : sS.vm.findClass "java/lang/AbstractStringBuilder" = some mM.cls := findClass_of_methodNamed Bd.named
  have hnm := (name_of_methodNamed Bd.named Bd.method).1
  have X0 : Stand pP l eE r3_1_128_48 sS mM #[(.ref o), (.int (iN tot))] bS methS cC s₁ [] 0 0 := Stand.of_body Bd
  have e0 : s₁.heap = h0 := by rw [← hh, Bd.state]; rfl
  have N0 := Fr.nil n0
  obtain ⟨T101, X101, e101, st101⟩ := getF X0 hx hZ hown (host := "") (Or.inl (wi hw 42 rfl)) Via.refl e0 F_value_o (g := (mkF mM 1 #[.val (.ref o), .val (.int (iN tot)), .unset] [(.ref o)])) rfl rfl (hb hby d68_9_1)
  obtain ⟨cl102, Ar102, q102, S102, Ng102, Ha102, Ga102⟩ := id V_b
  obtain ⟨T103, X103, e103, st103⟩ := getF X101 hx hZ hown (host := "") (Or.inl (wi hw 44 rfl)) Via.refl e101 F_coder_o (g := (mkF mM 6 #[.val (.ref o), .val (.int (iN tot)), .unset] [(.ref o), (.int (iN cap))])) rfl rfl (hb hby d68_9_6)
  have Vn : Arv Z h0 b k .byte (iN (ncap cap tot)) xs (.int (0 : Int32)) := by rw [ncap_fit hle]; exact V_b
  have lt_o : @LT.lt Nat _ o h0.size := E_o.lt
  have lt_b : @LT.lt Nat _ b h0.size := V_b.lt
  obtain ⟨fs, hr, hrun, hended, hW, hsame⟩ := X103.leave (v := none) (fun _ => rfl)
  refine ⟨_, _, castTop (ef_ens0 mM o b k cap xs tot u) ?_, hrun, hended, _, _, rfl, ?_, ⟨_, rfl⟩, hW, hsame.mono (by decide) (by decide)⟩
  · show SS pP eE bS s₁ (mkF mM 0 #[.val (.ref o), .val (.int (iN tot)), .unset] []) _
    refine XS.aloadN X0.here hx rfl (hb hby d68_9_0) rfl rfl ?_
    show SS pP eE bS s₁ (mkF mM 1 #[.val (.ref o), .val (.int (iN tot)), .unset] [(.ref o)]) _
    refine st101 _ ?_
    show SS pP eE bS T101 (mkF mM 4 #[.val (.ref o), .val (.int (iN tot)), .unset] [(.ref b)]) _
    refine X101.arraylength hx (by rw [e101]; exact Ar102.1) (State.isArrayOf_alike hZ.alike Ar102.2.1) (g := (mkF mM 4 #[.val (.ref o), .val (.int (iN tot)), .unset] [(.ref b)])) rfl rfl (hb hby d68_9_4) _ ?_
    rw [len_of S102 Ng102]
    show SS pP eE bS T101 (mkF mM 5 #[.val (.ref o), .val (.int (iN tot)), .unset] [(.int (iN cap))]) _
    refine XS.aloadN X101.here hx rfl (hb hby d68_9_5) rfl rfl ?_
    show SS pP eE bS T101 (mkF mM 6 #[.val (.ref o), .val (.int (iN tot)), .unset] [(.ref o), (.int (iN cap))]) _
    refine st103 _ ?_
    show SS pP eE bS T103 (mkF mM 9 #[.val (.ref o), .val (.int (iN tot)), .unset] [(.int (0 : Int32)), (.int (iN cap))]) _
    refine XS.ishr X103.here hx rfl (hb hby d68_9_9) rfl ?_
    show SS pP eE bS T103 (mkF mM 10 #[.val (.ref o), .val (.int (iN tot)), .unset] [(.int ((iN cap) >>> ((0 : Int32) &&& 31)))]) _
    rw [show ((iN cap) >>> ((0 : Int32) &&& 31)) = (iN cap) from shr0 _]
    refine XS.istoreN X103.here hx rfl (hb hby d68_9_10) rfl (l' := #[.val (.ref o), .val (.int (iN tot)), .val (.int (iN cap))]) rfl ?_
    refine XS.iloadN X103.here hx rfl (hb hby d68_9_11) rfl ?_
    refine XS.iloadN X103.here hx rfl (hb hby d68_9_12) rfl ?_
    show SS pP eE bS T103 (mkF mM 13 #[.val (.ref o), .val (.int (iN tot)), .val (.int (iN cap))] [(.int (iN cap)), (.int (iN tot))]) _
    refine XS.isub X103.here hx rfl (hb hby d68_9_13) rfl ?_
    refine XS.ifYes X103.here hx rfl (pc0 := 14) (pc' := 38) rfl (hb hby d68_9_14) rfl ((if0 _ _).trans (flt (own_sle hle (by omega) : ¬ ((0 : Int32) < ((iN tot) - (iN cap))))).2.2.2) (by decide) (by decide) ?_
    show SS pP eE bS T103 (mkF mM 38 #[.val (.ref o), .val (.int (iN tot)), .val (.int (iN cap))] []) _
    exact X103.returnOut hx Bd.returns (hb hby d68_9_38) hr
  · show Q_ens Z o b k cap xs tot u h0 n0 _ T103.heap _
    rw [e103]
    exact ⟨b, k, rfl, N0, (Keep.refl h0 [o]), E_o, F_value_o, F_coder_o, F_count_o, Vn, (Or.inl rfl), (by omega), (by omega)⟩
theorem ef_ensG (mM : MethodId) (o : Addr) (b : Addr) (k : ClassId) (cap : Nat) (xs : List Value) (tot : Nat) (u : Value) : entryFrame mM #[(.ref o), (.int (iN tot))] 3 = mkF mM 0 #[.val (.ref o), .val (.int (iN tot)), .unset] [] := by
  first | (simp [entryFrame, mkF, argsToLocals, Value.category]; done) | rfl
theorem rm_ensG (l : Launch) (Z : State) (a0 : Array Value) (hw : HW a0 Z) (ws : List Jvm.Cond) (o : Addr) (b : Addr) (k : ClassId) (cap : Nat) (xs : List Value) (tot : Nat) (u : Value) (h0 : Heap) (n0 : Nat) (Z0 : n0 ≤ h0.size) (E_o : Exa Z h0 o "java/lang/StringBuilder") (F_value_o : Fld Z h0 o "java/lang/AbstractStringBuilder" "value" "[B" (.ref b)) (F_coder_o : Fld Z h0 o "java/lang/AbstractStringBuilder" "coder" "B" (.int (0 : Int32))) (F_count_o : Fld Z h0 o "java/lang/AbstractStringBuilder" "count" "I" u) (V_b : Arv Z h0 b k .byte (iN cap) xs (.int (0 : Int32))) (ne_o_b : @Ne Nat o b) (g_o : @LE.le Nat _ n0 o) (g_b : @LE.le Nat _ n0 b) (hG : cap < tot ∧ cap + mx (tot - cap) (cap + 2) ≤ 128 ∧ xs.length ≤ cap) :
    MetFree l y12_ (head1 (Jvm.Cond.code y12_ jdk_68_method_9_code 3 none :: ws) r3_1_128_48) (fun xa xU => xa = #[(.ref o), (.int (iN tot))] ∧ Z.Warmed39 xU.vm ∧ xU.heap = h0) (fun _ _ _ _ _ => True) (fun _ xU xo xU' => ∃ xv xL, xo = .returned xv ∧ Q_ens Z o b k cap xs tot u h0 n0 xv xU'.heap xL ∧ FrameEnd xU xo xU' xL r3_1_128_48.cells r3_1_128_48.slots) := by
  refine MetFree.of_bodySF (plainFor_of_name pn_java_lang_AbstractStringBuilder) hisR ?_
  intro pP eE sS mM argS bS methS cC s₁ Bd hml0 hP hK
  obtain ⟨rfl, hZ, hh⟩ := hP
  have hx := Bd.exec
  have hby := Bd.bytes
  have hml : cC.maxLocals = 3 := hml0
  have hown : sS.vm.findClass "java/lang/AbstractStringBuilder" = some mM.cls := findClass_of_methodNamed Bd.named
  have hnm := (name_of_methodNamed Bd.named Bd.method).1
  have X0 : Stand pP l eE r3_1_128_48 sS mM #[(.ref o), (.int (iN tot))] bS methS cC s₁ [] 0 0 := Stand.of_body Bd
  have e0 : s₁.heap = h0 := by rw [← hh, Bd.state]; rfl
  have N0 := Fr.nil n0
  have hmx := mx_ge (tot - cap) (cap + 2)
  obtain ⟨T101, X101, e101, st101⟩ := getF X0 hx hZ hown (host := "") (Or.inl (wi hw 42 rfl)) Via.refl e0 F_value_o (g := (mkF mM 1 #[.val (.ref o), .val (.int (iN tot)), .unset] [(.ref o)])) rfl rfl (hb hby d68_9_1)
  obtain ⟨cl102, Ar102, q102, S102, Ng102, Ha102, Ga102⟩ := id V_b
  obtain ⟨T103, X103, e103, st103⟩ := getF X101 hx hZ hown (host := "") (Or.inl (wi hw 44 rfl)) Via.refl e101 F_coder_o (g := (mkF mM 6 #[.val (.ref o), .val (.int (iN tot)), .unset] [(.ref o), (.int (iN cap))])) rfl rfl (hb hby d68_9_6)
  obtain ⟨T104, X104, e104, st104⟩ := getF X103 hx hZ hown (host := "") (Or.inl (wi hw 42 rfl)) Via.refl e103 F_value_o (g := (mkF mM 19 #[.val (.ref o), .val (.int (iN tot)), .val (.int (iN cap))] [(.ref o), (.ref o)])) rfl rfl (hb hby d68_9_19)
  obtain ⟨cq105, kq105, q105a, q105b, q105c⟩ := isOf hZ e104 E_o
  obtain ⟨_, _, ⟨T105, L105, k105, n105⟩, -, X105, ⟨Lc105, hQ105, l105, y105, z105⟩, st105⟩ := X104.virtualBack hx (y := y9_) (z := y9_) hown (mvT hZ (wi hw 96 rfl)) (mvT hZ (own_decl (wi hw 97 rfl) (wi hw 100 rfl))) (notFace_of_selects (args := #[]) (mvT hZ (wi hw 99 rfl))) (mvT hZ (wi hw 99 rfl)) (mvT hZ (wi hw 97 rfl)) (by decide) (backOf (W := 2) (rm_newCap l Z a0 hw [] o b k cap xs tot h0 n0 (by omega) F_value_o F_coder_o V_b (hG.1) (hG.2.1)) hZ (wi hw 100 rfl) (wi hw 38 rfl) (by decide) (by decide)) q105a q105c (g := (mkF mM 24 #[.val (.ref o), .val (.int (iN tot)), .val (.int (iN cap))] [(.int (iN tot)), (.ref o), (.ref b), (.ref o)])) rfl (by rw [hml]; rfl) (Steps.refl _) (argsL := [(.int (iN tot))]) (rest := [(.ref b), (.ref o)]) (lenOf pd_13 rfl) rfl (by show 2 * 0 + _ ≤ _; exact Nat.le_of_eq rfl) (hb hby d68_9_24) (fun _ _ => ⟨rfl, e104, ble rfl, ble rfl⟩)
  dsimp only [Pt.U, Pt.locs, Pt.cells, Pt.slots] at X105 l105 y105 z105 st105 hQ105
  subst y105 z105
  obtain ⟨h105, e105⟩ : ∃ z, T105.heap = z := ⟨_, rfl⟩
  rw [e105] at hQ105
  obtain ⟨rfl, N105q, eq105⟩ := hQ105
  rw [eq105] at e105
  have N105 : Fr n0 L105 := by rw [l105]; exact Fr.app N0 N105q
  obtain ⟨T106, X106, e106, st106⟩ := getF X105 hx hZ hown (host := "") (Or.inl (wi hw 44 rfl)) Via.refl e105 F_coder_o (g := (mkF mM 28 #[.val (.ref o), .val (.int (iN tot)), .val (.int (iN cap))] [(.ref o), (.int (iN (cap + mx (tot - cap) (cap + 2)))), (.ref b), (.ref o)])) rfl rfl (hb hby d68_9_28)
  obtain ⟨_, _, ⟨T107, L107, k107, n107⟩, -, X107, ⟨Lc107, hQ107, l107, y107, z107⟩, st107⟩ := Jvm.LawKit.callS X106 hx (y := y11_) hown (mvT hZ (wi hw 111 rfl)) (mvT hZ (wi hw 112 rfl)) (mvT hZ (wi hw 113 rfl)) (mvT hZ (wi hw 114 rfl)) (by decide) (backOf (W := 1) (rm_copyOf l Z a0 hw [] b k cap xs (cap + mx (tot - cap) (cap + 2)) h0 n0 (by omega) V_b (by omega) (hG.2.2)) hZ (wi hw 114 rfl) (wi hw 113 rfl) (by decide) (by decide)) (g := (mkF mM 32 #[.val (.ref o), .val (.int (iN tot)), .val (.int (iN cap))] [(.int (iN (cap + mx (tot - cap) (cap + 2)))), (.ref b), (.ref o)])) rfl (by rw [hml]; rfl) (argsL := [(.ref b), (.int (iN (cap + mx (tot - cap) (cap + 2))))]) (rest := [(.ref o)]) (lenOf pd_16 rfl) rfl (by show 2 * 0 + _ ≤ _; exact Nat.le_of_eq rfl) (hb hby d68_9_32) (fun _ _ => ⟨rfl, e106, ble rfl, ble rfl⟩)
  dsimp only [Pt.U, Pt.locs, Pt.cells, Pt.slots] at X107 l107 y107 z107 st107 hQ107
  subst y107 z107
  obtain ⟨h107, e107⟩ : ∃ z, T107.heap = z := ⟨_, rfl⟩
  rw [e107] at hQ107
  obtain ⟨b2_107, k2_107, rfl, N107q, Kp107, p107_V_b2, p107_gh_b2⟩ := hQ107
  have Sz1 : h0.size ≤ h107.size := Kp107.1
  have N107 : Fr n0 L107 := by rw [l107]; exact Fr.app N105 N107q
  have c108_F_value_o : Fld Z h107 o "java/lang/AbstractStringBuilder" "value" "[B" (.ref b) := F_value_o.keep Kp107 nin0
  have c109_E_o : Exa Z h107 o "java/lang/StringBuilder" := E_o.keep Kp107
  obtain ⟨T110, h110, X110, e110, W110, st110⟩ := putF X107 hx hZ hown (host := "") (Or.inl (wi hw 42 rfl)) Via.refl e107 c108_F_value_o c109_E_o (Or.inl (wi hw 43 rfl)) (wi hw 29 rfl) (ty := (.array .byte)) (by decide) rfl rfl (g := (mkF mM 35 #[.val (.ref o), .val (.int (iN tot)), .val (.int (iN cap))] [(.ref b2_107), (.ref o)])) rfl rfl (hb hby d68_9_35)
  have Sz2 : h107.size ≤ h110.size := Nat.le_of_eq (Wr.size W110).symm
  have Fw110 : Fld Z h110 o "java/lang/AbstractStringBuilder" "value" "[B" (.ref b2_107) := Fld.same W110 c108_F_value_o
  have N110 := Fr.snoc X110 N107 g_o
  have lt_b2_107 : @LT.lt Nat _ b2_107 h107.size := p107_V_b2.lt
  have lt_o : @LT.lt Nat _ o h0.size := E_o.lt
  have ne_b2_107_o_111 : b2_107 ≠ o := (by omega : @Ne Nat b2_107 o)
  have c112_V_b2_107 : Arv Z h110 b2_107 k2_107 .byte (iN (cap + mx (tot - cap) (cap + 2))) xs (.int (0 : Int32)) := p107_V_b2.other W110 ne_b2_107_o_111
  have Vn : Arv Z h110 b2_107 k2_107 .byte (iN (ncap cap tot)) xs (.int (0 : Int32)) := by rw [ncap_grow (by omega)]; exact c112_V_b2_107
  have c113_E_o : Exa Z h110 o "java/lang/StringBuilder" := Exa.wr W110 c109_E_o
  have c114_F_coder_o : Fld Z h107 o "java/lang/AbstractStringBuilder" "coder" "B" (.int (0 : Int32)) := F_coder_o.keep Kp107 nin0
  have c115_F_coder_o : Fld Z h110 o "java/lang/AbstractStringBuilder" "coder" "B" (.int (0 : Int32)) := Fld.other W110 c114_F_coder_o (Or.inr (slot_ne (Or.inl (wi hw 45 rfl)) (Or.inl (wi hw 43 rfl)) (by decide) (t := .byte) (t' := (.array .byte)) (by decide) (by decide)))
  have c116_F_count_o : Fld Z h107 o "java/lang/AbstractStringBuilder" "count" "I" u := F_count_o.keep Kp107 nin0
  have c117_F_count_o : Fld Z h110 o "java/lang/AbstractStringBuilder" "count" "I" u := Fld.other W110 c116_F_count_o (Or.inr (slot_ne (Or.inl (wi hw 69 rfl)) (Or.inl (wi hw 43 rfl)) (by decide) (t := .int) (t' := (.array .byte)) (by decide) (by decide)))
  have K118 : Keep h0 h107 [o] := (Keep.refl h0 [o]).trans Kp107 all0
  have K119 : Keep h0 h110 [o] := K118.wr W110 (Or.inl (List.mem_of_getElem? (i := 0) rfl))
  obtain ⟨fs, hr, hrun, hended, hW, hsame⟩ := X110.leave (v := none) (fun _ => rfl)
  refine ⟨_, _, castTop (ef_ensG mM o b k cap xs tot u) ?_, hrun, hended, _, _, rfl, ?_, ⟨_, rfl⟩, hW, hsame.mono (by decide) (by decide)⟩
  · show SS pP eE bS s₁ (mkF mM 0 #[.val (.ref o), .val (.int (iN tot)), .unset] []) _
    refine XS.aloadN X0.here hx rfl (hb hby d68_9_0) rfl rfl ?_
    show SS pP eE bS s₁ (mkF mM 1 #[.val (.ref o), .val (.int (iN tot)), .unset] [(.ref o)]) _
    refine st101 _ ?_
    show SS pP eE bS T101 (mkF mM 4 #[.val (.ref o), .val (.int (iN tot)), .unset] [(.ref b)]) _
    refine X101.arraylength hx (by rw [e101]; exact Ar102.1) (State.isArrayOf_alike hZ.alike Ar102.2.1) (g := (mkF mM 4 #[.val (.ref o), .val (.int (iN tot)), .unset] [(.ref b)])) rfl rfl (hb hby d68_9_4) _ ?_
    rw [len_of S102 Ng102]
    show SS pP eE bS T101 (mkF mM 5 #[.val (.ref o), .val (.int (iN tot)), .unset] [(.int (iN cap))]) _
    refine XS.aloadN X101.here hx rfl (hb hby d68_9_5) rfl rfl ?_
    show SS pP eE bS T101 (mkF mM 6 #[.val (.ref o), .val (.int (iN tot)), .unset] [(.ref o), (.int (iN cap))]) _
    refine st103 _ ?_
    show SS pP eE bS T103 (mkF mM 9 #[.val (.ref o), .val (.int (iN tot)), .unset] [(.int (0 : Int32)), (.int (iN cap))]) _
    refine XS.ishr X103.here hx rfl (hb hby d68_9_9) rfl ?_
    show SS pP eE bS T103 (mkF mM 10 #[.val (.ref o), .val (.int (iN tot)), .unset] [(.int ((iN cap) >>> ((0 : Int32) &&& 31)))]) _
    rw [show ((iN cap) >>> ((0 : Int32) &&& 31)) = (iN cap) from shr0 _]
    refine XS.istoreN X103.here hx rfl (hb hby d68_9_10) rfl (l' := #[.val (.ref o), .val (.int (iN tot)), .val (.int (iN cap))]) rfl ?_
    refine XS.iloadN X103.here hx rfl (hb hby d68_9_11) rfl ?_
    refine XS.iloadN X103.here hx rfl (hb hby d68_9_12) rfl ?_
    show SS pP eE bS T103 (mkF mM 13 #[.val (.ref o), .val (.int (iN tot)), .val (.int (iN cap))] [(.int (iN cap)), (.int (iN tot))]) _
    refine XS.isub X103.here hx rfl (hb hby d68_9_13) rfl ?_
    refine XS.ifNo X103.here hx rfl (hb hby d68_9_14) rfl ((if0 _ _).trans (tlt (own_sgt hG.1 (by omega) : (0 : Int32) < ((iN tot) - (iN cap)))).2.2.2) ?_
    refine XS.aloadN X103.here hx rfl (hb hby d68_9_17) rfl rfl ?_
    refine XS.aloadN X103.here hx rfl (hb hby d68_9_18) rfl rfl ?_
    show SS pP eE bS T103 (mkF mM 19 #[.val (.ref o), .val (.int (iN tot)), .val (.int (iN cap))] [(.ref o), (.ref o)]) _
    refine st104 _ ?_
    show SS pP eE bS T104 (mkF mM 22 #[.val (.ref o), .val (.int (iN tot)), .val (.int (iN cap))] [(.ref b), (.ref o)]) _
    refine XS.aloadN X104.here hx rfl (hb hby d68_9_22) rfl rfl ?_
    refine XS.iloadN X104.here hx rfl (hb hby d68_9_23) rfl ?_
    show SS pP eE bS T104 (mkF mM 24 #[.val (.ref o), .val (.int (iN tot)), .val (.int (iN cap))] [(.int (iN tot)), (.ref o), (.ref b), (.ref o)]) _
    refine st105.trans ?_
    show SS pP eE bS T105 (mkF mM 27 #[.val (.ref o), .val (.int (iN tot)), .val (.int (iN cap))] [(.int (iN (cap + mx (tot - cap) (cap + 2)))), (.ref b), (.ref o)]) _
    refine XS.aloadN X105.here hx rfl (hb hby d68_9_27) rfl rfl ?_
    show SS pP eE bS T105 (mkF mM 28 #[.val (.ref o), .val (.int (iN tot)), .val (.int (iN cap))] [(.ref o), (.int (iN (cap + mx (tot - cap) (cap + 2)))), (.ref b), (.ref o)]) _
    refine st106 _ ?_
    show SS pP eE bS T106 (mkF mM 31 #[.val (.ref o), .val (.int (iN tot)), .val (.int (iN cap))] [(.int (0 : Int32)), (.int (iN (cap + mx (tot - cap) (cap + 2)))), (.ref b), (.ref o)]) _
    refine XS.ishl X106.here hx rfl (hb hby d68_9_31) rfl ?_
    show SS pP eE bS T106 (mkF mM 32 #[.val (.ref o), .val (.int (iN tot)), .val (.int (iN cap))] [(.int ((iN (cap + mx (tot - cap) (cap + 2))) <<< ((0 : Int32) &&& 31))), (.ref b), (.ref o)]) _
    rw [show ((iN (cap + mx (tot - cap) (cap + 2))) <<< ((0 : Int32) &&& 31)) = (iN (cap + mx (tot - cap) (cap + 2))) from shl0 _]
    show SS pP eE bS T106 (mkF mM 32 #[.val (.ref o), .val (.int (iN tot)), .val (.int (iN cap))] [(.int (iN (cap + mx (tot - cap) (cap + 2)))), (.ref b), (.ref o)]) _
    refine st107 _ ?_
    show SS pP eE bS T107 (mkF mM 35 #[.val (.ref o), .val (.int (iN tot)), .val (.int (iN cap))] [(.ref b2_107), (.ref o)]) _
    refine st110 _ ?_
    show SS pP eE bS T110 (mkF mM 38 #[.val (.ref o), .val (.int (iN tot)), .val (.int (iN cap))] []) _
    exact X110.returnOut hx Bd.returns (hb hby d68_9_38) hr
  · show Q_ens Z o b k cap xs tot u h0 n0 _ T110.heap _
    rw [e110]
    exact ⟨b2_107, k2_107, rfl, N110, K119, c113_E_o, Fw110, c115_F_coder_o, c117_F_count_o, Vn, (Or.inr (by omega)), (by omega), (by omega)⟩
theorem rm_ensJ (l : Launch) (Z : State) (a0 : Array Value) (hw : HW a0 Z) (ws : List Jvm.Cond) (o : Addr) (b : Addr) (k : ClassId) (cap : Nat) (xs : List Value) (tot : Nat) (u : Value) (h0 : Heap) (n0 : Nat) (Z0 : n0 ≤ h0.size) (E_o : Exa Z h0 o "java/lang/StringBuilder") (F_value_o : Fld Z h0 o "java/lang/AbstractStringBuilder" "value" "[B" (.ref b)) (F_coder_o : Fld Z h0 o "java/lang/AbstractStringBuilder" "coder" "B" (.int (0 : Int32))) (F_count_o : Fld Z h0 o "java/lang/AbstractStringBuilder" "count" "I" u) (V_b : Arv Z h0 b k .byte (iN cap) xs (.int (0 : Int32))) (ne_o_b : @Ne Nat o b) (g_o : @LE.le Nat _ n0 o) (g_b : @LE.le Nat _ n0 b) (hE : ncap cap tot ≤ 128 ∧ cap ≤ 128 ∧ xs.length ≤ cap) :
    MetFree l y12_ (head1 (Jvm.Cond.code y12_ jdk_68_method_9_code 3 none :: ws) r3_1_128_48) (fun xa xU => xa = #[(.ref o), (.int (iN tot))] ∧ Z.Warmed39 xU.vm ∧ xU.heap = h0) (fun _ _ _ _ _ => True) (fun _ xU xo xU' => ∃ xv xL, xo = .returned xv ∧ Q_ens Z o b k cap xs tot u h0 n0 xv xU'.heap xL ∧ FrameEnd xU xo xU' xL r3_1_128_48.cells r3_1_128_48.slots) := by
  by_cases hle : tot ≤ cap
  · exact rm_ens0 l Z a0 hw ws o b k cap xs tot u h0 n0 Z0 E_o F_value_o F_coder_o F_count_o V_b ne_o_b g_o g_b hle (hE.2.1)
  · have hq := hE.1
    rw [ncap_grow hle] at hq
    exact rm_ensG l Z a0 hw ws o b k cap xs tot u h0 n0 Z0 E_o F_value_o F_coder_o F_count_o V_b ne_o_b g_o g_b (⟨by omega, hq, hE.2.2⟩)
abbrev c68_22 := jdk_68_method_22_code
theorem d68_22_0 : decode c68_22 0 = .ok (.aload_n 1, 1) := by decide +kernel
theorem d68_22_1 : decode c68_22 1 = .ok (.ifnonnull 8, 3) := by decide +kernel
theorem d68_22_9 : decode c68_22 9 = .ok (.aload_n 1, 1) := by decide +kernel
theorem d68_22_10 : decode c68_22 10 = .ok (.invokevirtual 32, 3) := by decide +kernel
theorem pd_7 : parseMethodDescriptor "()I" = some ⟨[], some .int⟩ := by decide +kernel
theorem d68_22_13 : decode c68_22 13 = .ok (.istore_n 2, 1) := by decide +kernel
theorem d68_22_14 : decode c68_22 14 = .ok (.aload_n 0, 1) := by decide +kernel
theorem d68_22_15 : decode c68_22 15 = .ok (.aload_n 0, 1) := by decide +kernel
theorem d68_22_16 : decode c68_22 16 = .ok (.getfield 79, 3) := by decide +kernel
theorem d68_22_19 : decode c68_22 19 = .ok (.iload_n 2, 1) := by decide +kernel
theorem d68_22_20 : decode c68_22 20 = .ok (.iadd, 1) := by decide +kernel
theorem d68_22_21 : decode c68_22 21 = .ok (.invokevirtual 100, 3) := by decide +kernel
theorem d68_22_24 : decode c68_22 24 = .ok (.aload_n 0, 1) := by decide +kernel
theorem d68_22_25 : decode c68_22 25 = .ok (.aload_n 0, 1) := by decide +kernel
theorem d68_22_26 : decode c68_22 26 = .ok (.getfield 79, 3) := by decide +kernel
theorem d68_22_29 : decode c68_22 29 = .ok (.aload_n 1, 1) := by decide +kernel
theorem d68_22_30 : decode c68_22 30 = .ok (.invokevirtual 208, 3) := by decide +kernel
theorem pd_9 : parseMethodDescriptor "(ILjava/lang/String;)V" = some ⟨[.int, (.object "java/lang/String")], none⟩ := by decide +kernel
theorem d68_22_33 : decode c68_22 33 = .ok (.aload_n 0, 1) := by decide +kernel
theorem d68_22_34 : decode c68_22 34 = .ok (.dup, 1) := by decide +kernel
theorem d68_22_35 : decode c68_22 35 = .ok (.getfield 79, 3) := by decide +kernel
theorem d68_22_38 : decode c68_22 38 = .ok (.iload_n 2, 1) := by decide +kernel
theorem d68_22_39 : decode c68_22 39 = .ok (.iadd, 1) := by decide +kernel
theorem d68_22_40 : decode c68_22 40 = .ok (.putfield 79, 3) := by decide +kernel
theorem d68_22_43 : decode c68_22 43 = .ok (.aload_n 0, 1) := by decide +kernel
theorem d68_22_44 : decode c68_22 44 = .ok (.areturn, 1) := by decide +kernel
abbrev r4_1_128_62 : Room := { frames := 4, cells := 1, slots := 128, locals := 62 }
abbrev y13_ : MethodName := ⟨"java/lang/AbstractStringBuilder", "append", "(Ljava/lang/String;)Ljava/lang/AbstractStringBuilder;"⟩
def Q_app (Z : State) (o : Addr) (t : Addr) (tb : Addr) (tk : ClassId) (z : Nat) (ys : List Value) (b : Addr) (k : ClassId) (cap : Nat) (n : Nat) (xs : List Value) (cs : Int32) (h0 : Heap) (n0 : Nat) (xv : Option Value) (xh : Heap) (xL : List Loc) : Prop := ∃ b2 : Addr, ∃ k2 : ClassId, xv = some (.ref o) ∧ Fr n0 xL ∧ Keep h0 xh [o, b] ∧ Exa Z xh o "java/lang/StringBuilder" ∧ Fld Z xh o "java/lang/AbstractStringBuilder" "value" "[B" (.ref b2) ∧ Fld Z xh o "java/lang/AbstractStringBuilder" "coder" "B" (.int (0 : Int32)) ∧ Fld Z xh o "java/lang/AbstractStringBuilder" "count" "I" (.int (iN (n + z))) ∧ Arv Z xh b2 k2 .byte (iN (ncap cap (n + z))) (xs ++ ys) (.int (0 : Int32)) ∧ (@Eq Nat b2 b ∨ @LE.le Nat _ h0.size b2) ∧ @Ne Nat o b2 ∧ @LE.le Nat _ n0 b2
theorem ef_app (mM : MethodId) (o : Addr) (t : Addr) (tb : Addr) (tk : ClassId) (z : Nat) (ys : List Value) (b : Addr) (k : ClassId) (cap : Nat) (n : Nat) (xs : List Value) (cs : Int32) : entryFrame mM #[(.ref o), (.ref t)] 3 = mkF mM 0 #[.val (.ref o), .val (.ref t), .unset] [] := by
  first | (simp [entryFrame, mkF, argsToLocals, Value.category]; done) | rfl
theorem rm_app (l : Launch) (Z : State) (a0 : Array Value) (hw : HW a0 Z) (ws : List Jvm.Cond) (o : Addr) (t : Addr) (tb : Addr) (tk : ClassId) (z : Nat) (ys : List Value) (b : Addr) (k : ClassId) (cap : Nat) (n : Nat) (xs : List Value) (cs : Int32) (h0 : Heap) (n0 : Nat) (Z0 : n0 ≤ h0.size) (E_o : Exa Z h0 o "java/lang/StringBuilder") (F_value_o : Fld Z h0 o "java/lang/AbstractStringBuilder" "value" "[B" (.ref b)) (F_coder_o : Fld Z h0 o "java/lang/AbstractStringBuilder" "coder" "B" (.int (0 : Int32))) (F_count_o : Fld Z h0 o "java/lang/AbstractStringBuilder" "count" "I" (.int (iN n))) (E_t : Exa Z h0 t "java/lang/String") (F_value_t : Fld Z h0 t "java/lang/String" "value" "[B" (.ref tb)) (F_coder_t : Fld Z h0 t "java/lang/String" "coder" "B" (.int (0 : Int32))) (V_tb : Arv Z h0 tb tk .byte (iN z) ys (.int (0 : Int32))) (V_b : Arv Z h0 b k .byte (iN cap) xs (.int (0 : Int32))) (ne_o_b : @Ne Nat o b) (ne_o_t : @Ne Nat o t) (ne_o_tb : @Ne Nat o tb) (ne_t_b : @Ne Nat t b) (ne_tb_b : @Ne Nat tb b) (g_o : @LE.le Nat _ n0 o) (g_b : @LE.le Nat _ n0 b) (hn : xs.length = n) (hz : ys.length = z) (hE : ncap cap (n + z) ≤ 128 ∧ cap ≤ 128 ∧ n ≤ cap) (OL : Old Z n0 h0) (S_COMPACT_STRINGS : Sta Z Z.heap "java/lang/String" "COMPACT_STRINGS" "Z" (.int cs)) (hcs : ¬ (cs = (0 : Int32))) :
    MetFree l y13_ (head1 (Jvm.Cond.code y13_ jdk_68_method_22_code 3 (some (.object "java/lang/AbstractStringBuilder")) :: ws) r4_1_128_62) (fun xa xU => xa = #[(.ref o), (.ref t)] ∧ Z.Warmed39 xU.vm ∧ xU.heap = h0) (fun _ _ _ _ _ => True) (fun _ xU xo xU' => ∃ xv xL, xo = .returned xv ∧ Q_app Z o t tb tk z ys b k cap n xs cs h0 n0 xv xU'.heap xL ∧ FrameEnd xU xo xU' xL r4_1_128_62.cells r4_1_128_62.slots) := by
  refine MetFree.of_bodySF (plainFor_of_name pn_java_lang_AbstractStringBuilder) hisR ?_
  intro pP eE sS mM argS bS methS cC s₁ Bd hml0 hP hK
  obtain ⟨rfl, hZ, hh⟩ := hP
  have hx := Bd.exec
  have hby := Bd.bytes
  have hml : cC.maxLocals = 3 := hml0
  have hown : sS.vm.findClass "java/lang/AbstractStringBuilder" = some mM.cls := findClass_of_methodNamed Bd.named
  have hnm := (name_of_methodNamed Bd.named Bd.method).1
  have X0 : Stand pP l eE r4_1_128_62 sS mM #[(.ref o), (.ref t)] bS methS cC s₁ [] 0 0 := Stand.of_body Bd
  have e0 : s₁.heap = h0 := by rw [← hh, Bd.state]; rfl
  have N0 := Fr.nil n0
  have lt_o : @LT.lt Nat _ o h0.size := E_o.lt
  have lt_t : @LT.lt Nat _ t h0.size := E_t.lt
  have lt_tb : @LT.lt Nat _ tb h0.size := V_tb.lt
  have lt_b : @LT.lt Nat _ b h0.size := V_b.lt
  obtain ⟨cq101, kq101, q101a, q101b, q101c⟩ := isOf hZ e0 E_t
  obtain ⟨_, _, ⟨T101, L101, k101, n101⟩, -, X101, ⟨Lc101, hQ101, l101, y101, z101⟩, st101⟩ := X0.virtualBack hx (y := y1_) (z := y1_) hown (mvT hZ (wi hw 57 rfl)) (mvT hZ (wi hw 58 rfl)) (notFace_of_selects (args := #[]) (mvT hZ (wi hw 60 rfl))) (mvT hZ (wi hw 60 rfl)) (mvT hZ (wi hw 59 rfl)) (by decide) (backOf (W := 0) (rm_length l Z a0 hw [] t tb tk z ys cs h0 n0 (by omega) E_t F_value_t F_coder_t V_tb OL S_COMPACT_STRINGS hcs) hZ (wi hw 61 rfl) (wi hw 2 rfl) (by decide) (by decide)) q101a q101c (g := (mkF mM 10 #[.val (.ref o), .val (.ref t), .unset] [(.ref t)])) rfl (by rw [hml]; rfl) (Steps.refl _) (argsL := []) (rest := []) (lenOf pd_7 rfl) rfl (by show 2 * 0 + _ ≤ _; exact Nat.le_of_eq rfl) (hb hby d68_22_10) (fun _ _ => ⟨rfl, e0, ble rfl, ble rfl⟩)
  dsimp only [Pt.U, Pt.locs, Pt.cells, Pt.slots] at X101 l101 y101 z101 st101 hQ101
  subst y101 z101
  obtain ⟨h101, e101⟩ : ∃ z, T101.heap = z := ⟨_, rfl⟩
  rw [e101] at hQ101
  obtain ⟨rfl, N101q, eq101⟩ := hQ101
  rw [eq101] at e101
  have N101 : Fr n0 L101 := by rw [l101]; exact Fr.app N0 N101q
  obtain ⟨T102, X102, e102, st102⟩ := getF X101 hx hZ hown (host := "") (Or.inl (wi hw 68 rfl)) Via.refl e101 F_count_o (g := (mkF mM 16 #[.val (.ref o), .val (.ref t), .val (.int (iN z))] [(.ref o), (.ref o)])) rfl rfl (hb hby d68_22_16)
  obtain ⟨cq103, kq103, q103a, q103b, q103c⟩ := isOf hZ e102 E_o
  obtain ⟨_, _, ⟨T103, L103, k103, n103⟩, -, X103, ⟨Lc103, hQ103, l103, y103, z103⟩, st103⟩ := X102.virtualBack hx (y := y12_) (z := y12_) hown (mvT hZ (wi hw 70 rfl)) (mvT hZ (own_decl (wi hw 71 rfl) (wi hw 74 rfl))) (notFace_of_selects (args := #[]) (mvT hZ (wi hw 73 rfl))) (mvT hZ (wi hw 73 rfl)) (mvT hZ (wi hw 71 rfl)) (by decide) (backOf (W := 0) (rm_ensJ l Z a0 hw [] o b k cap xs (n + z) (.int (iN n)) h0 n0 (by omega) E_o F_value_o F_coder_o F_count_o V_b ne_o_b g_o g_b (⟨hE.1, hE.2.1, by omega⟩)) hZ (wi hw 74 rfl) (wi hw 38 rfl) (by decide) (by decide)) q103a q103c (g := (mkF mM 21 #[.val (.ref o), .val (.ref t), .val (.int (iN z))] [(.int (iN (n + z))), (.ref o)])) rfl (by rw [hml]; rfl) (Steps.refl _) (argsL := [(.int (iN (n + z)))]) (rest := []) (lenOf pd_4 rfl) rfl (by show 2 * 0 + _ ≤ _; exact Nat.le_of_eq rfl) (hb hby d68_22_21) (fun _ _ => ⟨rfl, e102, ble rfl, ble rfl⟩)
  dsimp only [Pt.U, Pt.locs, Pt.cells, Pt.slots] at X103 l103 y103 z103 st103 hQ103
  subst y103 z103
  obtain ⟨h103, e103⟩ : ∃ z, T103.heap = z := ⟨_, rfl⟩
  rw [e103] at hQ103
  obtain ⟨b2_103, k2_103, rfl, N103q, Kp103, p103_E_o, p103_F_value_o, p103_F_coder_o, p103_F_count_o, p103_V_b2, p103_hor, p103_hob, p103_hgb⟩ := hQ103
  have Sz1 : h0.size ≤ h103.size := Kp103.1
  have N103 : Fr n0 L103 := by rw [l103]; exact Fr.app N101 N103q
  obtain ⟨T104, X104, e104, st104⟩ := getF X103 hx hZ hown (host := "") (Or.inl (wi hw 68 rfl)) Via.refl e103 p103_F_count_o (g := (mkF mM 26 #[.val (.ref o), .val (.ref t), .val (.int (iN z))] [(.ref o), (.ref o)])) rfl rfl (hb hby d68_22_26)
  have c106_E_t : Exa Z h103 t "java/lang/String" := E_t.keep Kp103
  have c107_F_value_t : Fld Z h103 t "java/lang/String" "value" "[B" (.ref tb) := F_value_t.keep Kp103 (ninS (Ne.symm ne_o_t) nin0)
  have c108_F_coder_t : Fld Z h103 t "java/lang/String" "coder" "B" (.int (0 : Int32)) := F_coder_t.keep Kp103 (ninS (Ne.symm ne_o_t) nin0)
  have c109_V_tb : Arv Z h103 tb tk .byte (iN z) ys (.int (0 : Int32)) := V_tb.keep Kp103 (ninS (Ne.symm ne_o_tb) nin0)
  have c110_OL : Old Z n0 h103 := OL.keep Kp103 (allS g_o all0)
  have lt_b2_103 : @LT.lt Nat _ b2_103 h103.size := p103_V_b2.lt
  have ne_o_b2_103_111 : o ≠ b2_103 := (by omega : @Ne Nat o b2_103)
  have ne_t_b2_103_112 : t ≠ b2_103 := (by omega : @Ne Nat t b2_103)
  have ne_tb_b2_103_113 : tb ≠ b2_103 := (by omega : @Ne Nat tb b2_103)
  have ge114_b2_103 : @LE.le Nat _ n0 b2_103 := by omega
  obtain ⟨cq105, kq105, q105a, q105b, q105c⟩ := isOf hZ e104 p103_E_o
  obtain ⟨_, _, ⟨T105, L105, k105, n105⟩, -, X105, ⟨Lc105, hQ105, l105, y105, z105⟩, st105⟩ := X104.virtualBack hx (y := y6_) (z := y6_) hown (mvT hZ (wi hw 75 rfl)) (mvT hZ (own_decl (wi hw 76 rfl) (wi hw 79 rfl))) (notFace_of_selects (args := #[]) (mvT hZ (wi hw 78 rfl))) (mvT hZ (wi hw 78 rfl)) (mvT hZ (wi hw 76 rfl)) (by decide) (backOf (W := 0) (rm_putStringAt l Z a0 hw [] o t tb tk z ys b2_103 k2_103 (ncap cap (n + z)) n xs cs h103 n0 (by omega) p103_E_o p103_F_value_o p103_F_coder_o c106_E_t c107_F_value_t c108_F_coder_t c109_V_tb p103_V_b2 ne_o_b2_103_111 ne_t_b2_103_112 ne_tb_b2_103_113 ge114_b2_103 hn hz (⟨(ncap_ge cap (n + z)).2, hE.1⟩) c110_OL S_COMPACT_STRINGS hcs) hZ (wi hw 79 rfl) (wi hw 38 rfl) (by decide) (by decide)) q105a q105c (g := (mkF mM 30 #[.val (.ref o), .val (.ref t), .val (.int (iN z))] [(.ref t), (.int (iN n)), (.ref o)])) rfl (by rw [hml]; rfl) (Steps.refl _) (argsL := [(.int (iN n)), (.ref t)]) (rest := []) (lenOf pd_9 rfl) rfl (by show 2 * 0 + _ ≤ _; exact Nat.le_of_eq rfl) (hb hby d68_22_30) (fun _ _ => ⟨rfl, e104, ble rfl, ble rfl⟩)
  dsimp only [Pt.U, Pt.locs, Pt.cells, Pt.slots] at X105 l105 y105 z105 st105 hQ105
  subst y105 z105
  obtain ⟨h105, e105⟩ : ∃ z, T105.heap = z := ⟨_, rfl⟩
  rw [e105] at hQ105
  obtain ⟨rfl, N105q, Kp105, p105_V_b⟩ := hQ105
  have Sz2 : h103.size ≤ h105.size := Kp105.1
  have N105 : Fr n0 L105 := by rw [l105]; exact Fr.app N103 N105q
  have c115_F_count_o : Fld Z h105 o "java/lang/AbstractStringBuilder" "count" "I" (.int (iN n)) := p103_F_count_o.keep Kp105 (ninS ne_o_b2_103_111 nin0)
  obtain ⟨T116, X116, e116, st116⟩ := getF X105 hx hZ hown (host := "") (Or.inl (wi hw 68 rfl)) Via.refl e105 c115_F_count_o (g := (mkF mM 35 #[.val (.ref o), .val (.ref t), .val (.int (iN z))] [(.ref o), (.ref o)])) rfl rfl (hb hby d68_22_35)
  have c117_E_o : Exa Z h105 o "java/lang/StringBuilder" := p103_E_o.keep Kp105
  obtain ⟨T118, h118, X118, e118, W118, st118⟩ := putF X116 hx hZ hown (host := "") (Or.inl (wi hw 68 rfl)) Via.refl e116 c115_F_count_o c117_E_o (Or.inl (wi hw 69 rfl)) (wi hw 29 rfl) (ty := .int) (by decide) rfl rfl (g := (mkF mM 40 #[.val (.ref o), .val (.ref t), .val (.int (iN z))] [(.int (iN (n + z))), (.ref o)])) rfl rfl (hb hby d68_22_40)
  have Sz3 : h105.size ≤ h118.size := Nat.le_of_eq (Wr.size W118).symm
  have Fw118 : Fld Z h118 o "java/lang/AbstractStringBuilder" "count" "I" (.int (iN (n + z))) := Fld.same W118 c115_F_count_o
  have N118 := Fr.snoc X118 N105 g_o
  have c119_F_value_o : Fld Z h105 o "java/lang/AbstractStringBuilder" "value" "[B" (.ref b2_103) := p103_F_value_o.keep Kp105 (ninS ne_o_b2_103_111 nin0)
  have c120_F_value_o : Fld Z h118 o "java/lang/AbstractStringBuilder" "value" "[B" (.ref b2_103) := Fld.other W118 c119_F_value_o (Or.inr (slot_ne (Or.inl (wi hw 43 rfl)) (Or.inl (wi hw 69 rfl)) (by decide) (t := (.array .byte)) (t' := .int) (by decide) (by decide)))
  have ne_b2_103_o_121 : b2_103 ≠ o := (by omega : @Ne Nat b2_103 o)
  have c122_V_b2_103 : Arv Z h118 b2_103 k2_103 .byte (iN (ncap cap (n + z))) (xs ++ ys) (.int (0 : Int32)) := p105_V_b.other W118 ne_b2_103_o_121
  have c123_E_o : Exa Z h118 o "java/lang/StringBuilder" := Exa.wr W118 c117_E_o
  have c124_F_coder_o : Fld Z h105 o "java/lang/AbstractStringBuilder" "coder" "B" (.int (0 : Int32)) := p103_F_coder_o.keep Kp105 (ninS ne_o_b2_103_111 nin0)
  have c125_F_coder_o : Fld Z h118 o "java/lang/AbstractStringBuilder" "coder" "B" (.int (0 : Int32)) := Fld.other W118 c124_F_coder_o (Or.inr (slot_ne (Or.inl (wi hw 45 rfl)) (Or.inl (wi hw 69 rfl)) (by decide) (t := .byte) (t' := .int) (by decide) (by decide)))
  have K126 : Keep h0 h103 [o, b] := (Keep.refl h0 [o, b]).trans Kp103 (allS (Or.inl (List.mem_of_getElem? (i := 0) rfl)) all0)
  have K127 : Keep h0 h105 [o, b] := K126.trans Kp105 (allS (p103_hor.elim (fun q => Or.inl (by rw [q]; exact List.mem_of_getElem? (i := 1) rfl)) (fun q => Or.inr (by omega))) all0)
  have K128 : Keep h0 h118 [o, b] := K127.wr W118 (Or.inl (List.mem_of_getElem? (i := 0) rfl))
  obtain ⟨fs, hr, hrun, hended, hW, hsame⟩ := X118.leave (v := some (.ref o)) (fun h => by rw [Bd.returns] at h; cases h)
  refine ⟨_, _, castTop (ef_app mM o t tb tk z ys b k cap n xs cs) ?_, hrun, hended, _, _, rfl, ?_, ⟨_, rfl⟩, hW, hsame.mono (by decide) (by decide)⟩
  · show SS pP eE bS s₁ (mkF mM 0 #[.val (.ref o), .val (.ref t), .unset] []) _
    refine XS.aloadN X0.here hx rfl (hb hby d68_22_0) rfl rfl ?_
    refine XS.ifnonnullYes X0.here hx rfl (pc0 := 1) (pc' := 9) rfl (hb hby d68_22_1) rfl (by decide) (by decide) ?_
    refine XS.aloadN X0.here hx rfl (hb hby d68_22_9) rfl rfl ?_
    show SS pP eE bS s₁ (mkF mM 10 #[.val (.ref o), .val (.ref t), .unset] [(.ref t)]) _
    refine st101.trans ?_
    show SS pP eE bS T101 (mkF mM 13 #[.val (.ref o), .val (.ref t), .unset] [(.int (iN z))]) _
    refine XS.istoreN X101.here hx rfl (hb hby d68_22_13) rfl (l' := #[.val (.ref o), .val (.ref t), .val (.int (iN z))]) rfl ?_
    refine XS.aloadN X101.here hx rfl (hb hby d68_22_14) rfl rfl ?_
    refine XS.aloadN X101.here hx rfl (hb hby d68_22_15) rfl rfl ?_
    show SS pP eE bS T101 (mkF mM 16 #[.val (.ref o), .val (.ref t), .val (.int (iN z))] [(.ref o), (.ref o)]) _
    refine st102 _ ?_
    show SS pP eE bS T102 (mkF mM 19 #[.val (.ref o), .val (.ref t), .val (.int (iN z))] [(.int (iN n)), (.ref o)]) _
    refine XS.iloadN X102.here hx rfl (hb hby d68_22_19) rfl ?_
    refine XS.iadd X102.here hx rfl (hb hby d68_22_20) rfl ?_
    show SS pP eE bS T102 (mkF mM 21 #[.val (.ref o), .val (.ref t), .val (.int (iN z))] [(.int ((iN n) + (iN z))), (.ref o)]) _
    rw [show ((iN n) + (iN z)) = (iN (n + z)) from iN_add n z]
    show SS pP eE bS T102 (mkF mM 21 #[.val (.ref o), .val (.ref t), .val (.int (iN z))] [(.int (iN (n + z))), (.ref o)]) _
    refine st103.trans ?_
    show SS pP eE bS T103 (mkF mM 24 #[.val (.ref o), .val (.ref t), .val (.int (iN z))] []) _
    refine XS.aloadN X103.here hx rfl (hb hby d68_22_24) rfl rfl ?_
    refine XS.aloadN X103.here hx rfl (hb hby d68_22_25) rfl rfl ?_
    show SS pP eE bS T103 (mkF mM 26 #[.val (.ref o), .val (.ref t), .val (.int (iN z))] [(.ref o), (.ref o)]) _
    refine st104 _ ?_
    show SS pP eE bS T104 (mkF mM 29 #[.val (.ref o), .val (.ref t), .val (.int (iN z))] [(.int (iN n)), (.ref o)]) _
    refine XS.aloadN X104.here hx rfl (hb hby d68_22_29) rfl rfl ?_
    show SS pP eE bS T104 (mkF mM 30 #[.val (.ref o), .val (.ref t), .val (.int (iN z))] [(.ref t), (.int (iN n)), (.ref o)]) _
    refine st105.trans ?_
    show SS pP eE bS T105 (mkF mM 33 #[.val (.ref o), .val (.ref t), .val (.int (iN z))] []) _
    refine XS.aloadN X105.here hx rfl (hb hby d68_22_33) rfl rfl ?_
    refine XS.dup X105.here hx rfl (hb hby d68_22_34) rfl rfl ?_
    show SS pP eE bS T105 (mkF mM 35 #[.val (.ref o), .val (.ref t), .val (.int (iN z))] [(.ref o), (.ref o)]) _
    refine st116 _ ?_
    show SS pP eE bS T116 (mkF mM 38 #[.val (.ref o), .val (.ref t), .val (.int (iN z))] [(.int (iN n)), (.ref o)]) _
    refine XS.iloadN X116.here hx rfl (hb hby d68_22_38) rfl ?_
    refine XS.iadd X116.here hx rfl (hb hby d68_22_39) rfl ?_
    show SS pP eE bS T116 (mkF mM 40 #[.val (.ref o), .val (.ref t), .val (.int (iN z))] [(.int ((iN n) + (iN z))), (.ref o)]) _
    rw [show ((iN n) + (iN z)) = (iN (n + z)) from iN_add n z]
    show SS pP eE bS T116 (mkF mM 40 #[.val (.ref o), .val (.ref t), .val (.int (iN z))] [(.int (iN (n + z))), (.ref o)]) _
    refine st118 _ ?_
    show SS pP eE bS T118 (mkF mM 43 #[.val (.ref o), .val (.ref t), .val (.int (iN z))] []) _
    refine XS.aloadN X118.here hx rfl (hb hby d68_22_43) rfl rfl ?_
    show SS pP eE bS T118 (mkF mM 44 #[.val (.ref o), .val (.ref t), .val (.int (iN z))] [(.ref o)]) _
    jvm_step X118.here [X118.here.top, hx, (hb hby d68_22_44), X118.method', Bd.returns, Value.isRef, FieldType.isReference]
    first | (intro acts; rw [hr _ acts rfl rfl rfl]) | rw [hr _ _ rfl rfl rfl]
    exact Steps.refl _
  · show Q_app Z o t tb tk z ys b k cap n xs cs h0 n0 _ T118.heap _
    rw [e118]
    exact ⟨b2_103, k2_103, rfl, N118, K128, c123_E_o, c120_F_value_o, c125_F_coder_o, Fw118, c122_V_b2_103, (p103_hor), (p103_hob), (p103_hgb)⟩
abbrev c67_7 := jdk_67_method_7_code
theorem d67_7_0 : decode c67_7 0 = .ok (.aload_n 0, 1) := by decide +kernel
theorem d67_7_1 : decode c67_7 1 = .ok (.aload_n 1, 1) := by decide +kernel
theorem d67_7_2 : decode c67_7 2 = .ok (.invokespecial 29, 3) := by decide +kernel
theorem pd_6 : parseMethodDescriptor "(Ljava/lang/String;)Ljava/lang/AbstractStringBuilder;" = some ⟨[(.object "java/lang/String")], some (.object "java/lang/AbstractStringBuilder")⟩ := by decide +kernel
theorem d67_7_5 : decode c67_7 5 = .ok (.pop, 1) := by decide +kernel
theorem d67_7_6 : decode c67_7 6 = .ok (.aload_n 0, 1) := by decide +kernel
theorem d67_7_7 : decode c67_7 7 = .ok (.areturn, 1) := by decide +kernel
abbrev r5_1_128_76 : Room := { frames := 5, cells := 1, slots := 128, locals := 76 }
abbrev y14_ : MethodName := ⟨"java/lang/StringBuilder", "append", "(Ljava/lang/String;)Ljava/lang/StringBuilder;"⟩
def Q_sapp (Z : State) (o : Addr) (t : Addr) (tb : Addr) (tk : ClassId) (z : Nat) (ys : List Value) (b : Addr) (k : ClassId) (cap : Nat) (n : Nat) (xs : List Value) (cs : Int32) (h0 : Heap) (n0 : Nat) (xv : Option Value) (xh : Heap) (xL : List Loc) : Prop := ∃ b2 : Addr, ∃ k2 : ClassId, xv = some (.ref o) ∧ Fr n0 xL ∧ Keep h0 xh [o, b] ∧ Exa Z xh o "java/lang/StringBuilder" ∧ Fld Z xh o "java/lang/AbstractStringBuilder" "value" "[B" (.ref b2) ∧ Fld Z xh o "java/lang/AbstractStringBuilder" "coder" "B" (.int (0 : Int32)) ∧ Fld Z xh o "java/lang/AbstractStringBuilder" "count" "I" (.int (iN (n + z))) ∧ Arv Z xh b2 k2 .byte (iN (ncap cap (n + z))) (xs ++ ys) (.int (0 : Int32)) ∧ (@Eq Nat b2 b ∨ @LE.le Nat _ h0.size b2) ∧ @Ne Nat o b2 ∧ @LE.le Nat _ n0 b2
theorem ef_sapp (mM : MethodId) (o : Addr) (t : Addr) (tb : Addr) (tk : ClassId) (z : Nat) (ys : List Value) (b : Addr) (k : ClassId) (cap : Nat) (n : Nat) (xs : List Value) (cs : Int32) : entryFrame mM #[(.ref o), (.ref t)] 2 = mkF mM 0 #[.val (.ref o), .val (.ref t)] [] := by
  first | (simp [entryFrame, mkF, argsToLocals, Value.category]; done) | rfl
theorem rm_sapp (l : Launch) (Z : State) (a0 : Array Value) (hw : HW a0 Z) (ws : List Jvm.Cond) (o : Addr) (t : Addr) (tb : Addr) (tk : ClassId) (z : Nat) (ys : List Value) (b : Addr) (k : ClassId) (cap : Nat) (n : Nat) (xs : List Value) (cs : Int32) (h0 : Heap) (n0 : Nat) (Z0 : n0 ≤ h0.size) (E_o : Exa Z h0 o "java/lang/StringBuilder") (F_value_o : Fld Z h0 o "java/lang/AbstractStringBuilder" "value" "[B" (.ref b)) (F_coder_o : Fld Z h0 o "java/lang/AbstractStringBuilder" "coder" "B" (.int (0 : Int32))) (F_count_o : Fld Z h0 o "java/lang/AbstractStringBuilder" "count" "I" (.int (iN n))) (E_t : Exa Z h0 t "java/lang/String") (F_value_t : Fld Z h0 t "java/lang/String" "value" "[B" (.ref tb)) (F_coder_t : Fld Z h0 t "java/lang/String" "coder" "B" (.int (0 : Int32))) (V_tb : Arv Z h0 tb tk .byte (iN z) ys (.int (0 : Int32))) (V_b : Arv Z h0 b k .byte (iN cap) xs (.int (0 : Int32))) (ne_o_b : @Ne Nat o b) (ne_o_t : @Ne Nat o t) (ne_o_tb : @Ne Nat o tb) (ne_t_b : @Ne Nat t b) (ne_tb_b : @Ne Nat tb b) (g_o : @LE.le Nat _ n0 o) (g_b : @LE.le Nat _ n0 b) (hn : xs.length = n) (hz : ys.length = z) (hE : ncap cap (n + z) ≤ 128 ∧ cap ≤ 128 ∧ n ≤ cap) (OL : Old Z n0 h0) (S_COMPACT_STRINGS : Sta Z Z.heap "java/lang/String" "COMPACT_STRINGS" "Z" (.int cs)) (hcs : ¬ (cs = (0 : Int32))) :
    MetFree l y14_ (head1 (Jvm.Cond.code y14_ jdk_67_method_7_code 2 (some (.object "java/lang/StringBuilder")) :: ws) r5_1_128_76) (fun xa xU => xa = #[(.ref o), (.ref t)] ∧ Z.Warmed39 xU.vm ∧ xU.heap = h0) (fun _ _ _ _ _ => True) (fun _ xU xo xU' => ∃ xv xL, xo = .returned xv ∧ Q_sapp Z o t tb tk z ys b k cap n xs cs h0 n0 xv xU'.heap xL ∧ FrameEnd xU xo xU' xL r5_1_128_76.cells r5_1_128_76.slots) := by
  refine MetFree.of_bodySF (plainFor_of_name pn_java_lang_StringBuilder) hisR ?_
  intro pP eE sS mM argS bS methS cC s₁ Bd hml0 hP hK
  obtain ⟨rfl, hZ, hh⟩ := hP
  have hx := Bd.exec
  have hby := Bd.bytes
  have hml : cC.maxLocals = 2 := hml0
  have hown : sS.vm.findClass "java/lang/StringBuilder" = some mM.cls := findClass_of_methodNamed Bd.named
  have hnm := (name_of_methodNamed Bd.named Bd.method).1
  have X0 : Stand pP l eE r5_1_128_76 sS mM #[(.ref o), (.ref t)] bS methS cC s₁ [] 0 0 := Stand.of_body Bd
  have e0 : s₁.heap = h0 := by rw [← hh, Bd.state]; rfl
  have N0 := Fr.nil n0
  obtain ⟨_, _, ⟨T101, L101, k101, n101⟩, -, X101, ⟨Lc101, hQ101, l101, y101, z101⟩, st101⟩ := superBack X0 hx hZ (y := y13_) hown (wi hw 52 rfl) (own_same (y := y13_) (by decide) (wi hw 53 rfl) (own_nf (y := (⟨"java/lang/AbstractStringBuilder", "ensureCapacityInternal", "(I)V"⟩ : MethodName)) (z := (⟨"java/lang/AbstractStringBuilder", "append", "(Ljava/lang/String;)Ljava/lang/AbstractStringBuilder;"⟩ : MethodName)) (notFace_of_selects (wi hw 73 rfl)) (Cond.code_named (wi hw 74 rfl)) rfl)) (wi hw 53 rfl) (wi hw 54 rfl) (by decide) (backOf (W := 0) (rm_app l Z a0 hw [] o t tb tk z ys b k cap n xs cs h0 n0 (by omega) E_o F_value_o F_coder_o F_count_o E_t F_value_t F_coder_t V_tb V_b ne_o_b ne_o_t ne_o_tb ne_t_b ne_tb_b g_o g_b hn hz hE OL S_COMPACT_STRINGS hcs) hZ (wi hw 56 rfl) (wi hw 38 rfl) (by decide) (by decide)) e0 (Ins.self E_o) (g := (mkF mM 2 #[.val (.ref o), .val (.ref t)] [(.ref t), (.ref o)])) rfl (by rw [hml]; rfl) (wi hw 56 rfl) (argsL := [(.ref t)]) (rest := []) (lenOf pd_6 rfl) rfl (by show 2 * 0 + _ ≤ _; exact Nat.le_of_eq rfl) (hb hby d67_7_2) (fun _ _ => ⟨rfl, e0, ble rfl, ble rfl⟩)
  dsimp only [Pt.U, Pt.locs, Pt.cells, Pt.slots] at X101 l101 y101 z101 st101 hQ101
  subst y101 z101
  obtain ⟨h101, e101⟩ : ∃ z, T101.heap = z := ⟨_, rfl⟩
  rw [e101] at hQ101
  obtain ⟨b2_101, k2_101, rfl, N101q, Kp101, p101_E_o, p101_F_value_o, p101_F_coder_o, p101_F_count_o, p101_V_b2, p101_hor, p101_hob, p101_hgb⟩ := hQ101
  have Sz1 : h0.size ≤ h101.size := Kp101.1
  have N101 : Fr n0 L101 := by rw [l101]; exact Fr.app N0 N101q
  have K102 : Keep h0 h101 [o, b] := (Keep.refl h0 [o, b]).trans Kp101 (allS (Or.inl (List.mem_of_getElem? (i := 0) rfl)) (allS (Or.inl (List.mem_of_getElem? (i := 1) rfl)) all0))
  obtain ⟨fs, hr, hrun, hended, hW, hsame⟩ := X101.leave (v := some (.ref o)) (fun h => by rw [Bd.returns] at h; cases h)
  refine ⟨_, _, castTop (ef_sapp mM o t tb tk z ys b k cap n xs cs) ?_, hrun, hended, _, _, rfl, ?_, ⟨_, rfl⟩, hW, hsame.mono (by decide) (by decide)⟩
  · show SS pP eE bS s₁ (mkF mM 0 #[.val (.ref o), .val (.ref t)] []) _
    refine XS.aloadN X0.here hx rfl (hb hby d67_7_0) rfl rfl ?_
    refine XS.aloadN X0.here hx rfl (hb hby d67_7_1) rfl rfl ?_
    show SS pP eE bS s₁ (mkF mM 2 #[.val (.ref o), .val (.ref t)] [(.ref t), (.ref o)]) _
    refine st101.trans ?_
    show SS pP eE bS T101 (mkF mM 5 #[.val (.ref o), .val (.ref t)] [(.ref o)]) _
    refine XS.pop X101.here hx rfl (hb hby d67_7_5) rfl rfl ?_
    refine XS.aloadN X101.here hx rfl (hb hby d67_7_6) rfl rfl ?_
    show SS pP eE bS T101 (mkF mM 7 #[.val (.ref o), .val (.ref t)] [(.ref o)]) _
    jvm_step X101.here [X101.here.top, hx, (hb hby d67_7_7), X101.method', Bd.returns, Value.isRef, FieldType.isReference]
    first | (intro acts; rw [hr _ acts rfl rfl rfl]) | rw [hr _ _ rfl rfl rfl]
    exact Steps.refl _
  · show Q_sapp Z o t tb tk z ys b k cap n xs cs h0 n0 _ T101.heap _
    rw [e101]
    exact ⟨b2_101, k2_101, rfl, N101, K102, p101_E_o, p101_F_value_o, p101_F_coder_o, p101_F_count_o, p101_V_b2, (p101_hor), (p101_hob), (p101_hgb)⟩
abbrev c68_68 := jdk_68_method_68_code
theorem d68_68_0 : decode c68_68 0 = .ok (.getstatic 18, 3) := by decide +kernel
theorem d68_68_3 : decode c68_68 3 = .ok (.ifCond .eq 14, 3) := by decide +kernel
theorem d68_68_6 : decode c68_68 6 = .ok (.aload_n 0, 1) := by decide +kernel
theorem d68_68_7 : decode c68_68 7 = .ok (.getfield 22, 3) := by decide +kernel
theorem d68_68_10 : decode c68_68 10 = .ok (.ifCond .ne 7, 3) := by decide +kernel
theorem d68_68_13 : decode c68_68 13 = .ok (.iconst 1, 1) := by decide +kernel
theorem d68_68_14 : decode c68_68 14 = .ok (.goto 4, 3) := by decide +kernel
theorem d68_68_18 : decode c68_68 18 = .ok (.ireturn, 1) := by decide +kernel
abbrev y15_ : MethodName := ⟨"java/lang/AbstractStringBuilder", "isLatin1", "()Z"⟩
def Q_asb_latin (Z : State) (o : Addr) (cs : Int32) (h0 : Heap) (n0 : Nat) (xv : Option Value) (xh : Heap) (xL : List Loc) : Prop := xv = some (.int (1 : Int32)) ∧ Fr n0 xL ∧ xh = h0
theorem ef_asb_latin (mM : MethodId) (o : Addr) (cs : Int32) : entryFrame mM #[(.ref o)] 1 = mkF mM 0 #[.val (.ref o)] [] := by
  first | (simp [entryFrame, mkF, argsToLocals, Value.category]; done) | rfl
theorem rm_asb_latin (l : Launch) (Z : State) (a0 : Array Value) (hw : HW a0 Z) (ws : List Jvm.Cond) (o : Addr) (cs : Int32) (h0 : Heap) (n0 : Nat) (Z0 : n0 ≤ h0.size) (F_coder_o : Fld Z h0 o "java/lang/AbstractStringBuilder" "coder" "B" (.int (0 : Int32))) (OL : Old Z n0 h0) (S_COMPACT_STRINGS : Sta Z Z.heap "java/lang/String" "COMPACT_STRINGS" "Z" (.int cs)) (hcs : ¬ (cs = (0 : Int32))) :
    MetFree l y15_ (head1 (Jvm.Cond.code y15_ jdk_68_method_68_code 1 (some .boolean) :: ws) r0_0_0_0) (fun xa xU => xa = #[(.ref o)] ∧ Z.Warmed39 xU.vm ∧ xU.heap = h0) (fun _ _ _ _ _ => True) (fun _ xU xo xU' => ∃ xv xL, xo = .returned xv ∧ Q_asb_latin Z o cs h0 n0 xv xU'.heap xL ∧ FrameEnd xU xo xU' xL r0_0_0_0.cells r0_0_0_0.slots) := by
  refine MetFree.of_bodySF (plainFor_of_name pn_java_lang_AbstractStringBuilder) hisR ?_
  intro pP eE sS mM argS bS methS cC s₁ Bd hml0 hP hK
  obtain ⟨rfl, hZ, hh⟩ := hP
  have hx := Bd.exec
  have hby := Bd.bytes
  have hml : cC.maxLocals = 1 := hml0
  have hown : sS.vm.findClass "java/lang/AbstractStringBuilder" = some mM.cls := findClass_of_methodNamed Bd.named
  have hnm := (name_of_methodNamed Bd.named Bd.method).1
  have X0 : Stand pP l eE r0_0_0_0 sS mM #[(.ref o)] bS methS cC s₁ [] 0 0 := Stand.of_body Bd
  have e0 : s₁.heap = h0 := by rw [← hh, Bd.state]; rfl
  have N0 := Fr.nil n0
  have c101_S_COMPACT_STRINGS : Sta Z h0 "java/lang/String" "COMPACT_STRINGS" "Z" (.int cs) := Sta.ext OL.2 S_COMPACT_STRINGS
  obtain ⟨T102, X102, e102, st102⟩ := getS2 X0 hx hZ hown (host := "") (Or.inl (wi hw 41 rfl)) Via.refl e0 c101_S_COMPACT_STRINGS (g := (mkF mM 0 #[.val (.ref o)] [])) rfl (hb hby d68_68_0)
  obtain ⟨T103, X103, e103, st103⟩ := getF X102 hx hZ hown (host := "") (Or.inl (wi hw 44 rfl)) Via.refl e102 F_coder_o (g := (mkF mM 7 #[.val (.ref o)] [(.ref o)])) rfl rfl (hb hby d68_68_7)
  obtain ⟨fs, hr, hrun, hended, hW, hsame⟩ := X103.leave (v := some (.int (1 : Int32))) (fun h => by rw [Bd.returns] at h; cases h)
  refine ⟨_, _, castTop (ef_asb_latin mM o cs) ?_, hrun, hended, _, _, rfl, ?_, ⟨_, rfl⟩, hW, hsame.mono (by decide) (by decide)⟩
  · show SS pP eE bS s₁ (mkF mM 0 #[.val (.ref o)] []) _
    refine st102 _ ?_
    show SS pP eE bS T102 (mkF mM 3 #[.val (.ref o)] [(.int cs)]) _
    refine XS.ifNo X102.here hx rfl (hb hby d68_68_3) rfl ((if0 _ _).trans (feq hcs).1) ?_
    refine XS.aloadN X102.here hx rfl (hb hby d68_68_6) rfl rfl ?_
    show SS pP eE bS T102 (mkF mM 7 #[.val (.ref o)] [(.ref o)]) _
    refine st103 _ ?_
    show SS pP eE bS T103 (mkF mM 10 #[.val (.ref o)] [(.int (0 : Int32))]) _
    refine XS.ifNo X103.here hx rfl (hb hby d68_68_10) rfl ((if0 _ _).trans (teq (by decide : (0 : Int32) = (0 : Int32))).2) ?_
    refine XS.iconst X103.here hx rfl (hb hby d68_68_13) ?_
    refine XS.goto X103.here hx rfl (pc0 := 14) (pc' := 18) rfl (hb hby d68_68_14) (by decide) (by decide) ?_
    show SS pP eE bS T103 (mkF mM 18 #[.val (.ref o)] [(.int (1 : Int32))]) _
    exact retN X103 hx (t := .boolean) Bd.returns (by simp) (hb hby d68_68_18) hr
  · show Q_asb_latin Z o cs h0 n0 _ T103.heap _
    rw [e103]
    exact ⟨rfl, N0, rfl⟩
abbrev c68_26 := jdk_68_method_26_code
theorem d68_26_0 : decode c68_26 0 = .ok (.aload_n 0, 1) := by decide +kernel
theorem d68_26_1 : decode c68_26 1 = .ok (.aload_n 0, 1) := by decide +kernel
theorem d68_26_2 : decode c68_26 2 = .ok (.getfield 79, 3) := by decide +kernel
theorem d68_26_5 : decode c68_26 5 = .ok (.iconst 4, 1) := by decide +kernel
theorem d68_26_6 : decode c68_26 6 = .ok (.iadd, 1) := by decide +kernel
theorem d68_26_7 : decode c68_26 7 = .ok (.invokevirtual 100, 3) := by decide +kernel
theorem d68_26_10 : decode c68_26 10 = .ok (.aload_n 0, 1) := by decide +kernel
theorem d68_26_11 : decode c68_26 11 = .ok (.getfield 79, 3) := by decide +kernel
theorem d68_26_14 : decode c68_26 14 = .ok (.istore_n 1, 1) := by decide +kernel
theorem d68_26_15 : decode c68_26 15 = .ok (.aload_n 0, 1) := by decide +kernel
theorem d68_26_16 : decode c68_26 16 = .ok (.getfield 15, 3) := by decide +kernel
theorem d68_26_19 : decode c68_26 19 = .ok (.astore_n 2, 1) := by decide +kernel
theorem d68_26_20 : decode c68_26 20 = .ok (.aload_n 0, 1) := by decide +kernel
theorem d68_26_21 : decode c68_26 21 = .ok (.invokevirtual 83, 3) := by decide +kernel
theorem pd_21 : parseMethodDescriptor "()Z" = some ⟨[], some .boolean⟩ := by decide +kernel
theorem d68_26_24 : decode c68_26 24 = .ok (.ifCond .eq 38, 3) := by decide +kernel
theorem d68_26_27 : decode c68_26 27 = .ok (.aload_n 2, 1) := by decide +kernel
theorem d68_26_28 : decode c68_26 28 = .ok (.iload_n 1, 1) := by decide +kernel
theorem d68_26_29 : decode c68_26 29 = .ok (.iinc 1 1, 3) := by decide +kernel
theorem d68_26_32 : decode c68_26 32 = .ok (.bipush 110, 2) := by decide +kernel
theorem d68_26_34 : decode c68_26 34 = .ok (.bastore, 1) := by decide +kernel
theorem d68_26_35 : decode c68_26 35 = .ok (.aload_n 2, 1) := by decide +kernel
theorem d68_26_36 : decode c68_26 36 = .ok (.iload_n 1, 1) := by decide +kernel
theorem d68_26_37 : decode c68_26 37 = .ok (.iinc 1 1, 3) := by decide +kernel
theorem d68_26_40 : decode c68_26 40 = .ok (.bipush 117, 2) := by decide +kernel
theorem d68_26_42 : decode c68_26 42 = .ok (.bastore, 1) := by decide +kernel
theorem d68_26_43 : decode c68_26 43 = .ok (.aload_n 2, 1) := by decide +kernel
theorem d68_26_44 : decode c68_26 44 = .ok (.iload_n 1, 1) := by decide +kernel
theorem d68_26_45 : decode c68_26 45 = .ok (.iinc 1 1, 3) := by decide +kernel
theorem d68_26_48 : decode c68_26 48 = .ok (.bipush 108, 2) := by decide +kernel
theorem d68_26_50 : decode c68_26 50 = .ok (.bastore, 1) := by decide +kernel
theorem d68_26_51 : decode c68_26 51 = .ok (.aload_n 2, 1) := by decide +kernel
theorem d68_26_52 : decode c68_26 52 = .ok (.iload_n 1, 1) := by decide +kernel
theorem d68_26_53 : decode c68_26 53 = .ok (.iinc 1 1, 3) := by decide +kernel
theorem d68_26_56 : decode c68_26 56 = .ok (.bipush 108, 2) := by decide +kernel
theorem d68_26_58 : decode c68_26 58 = .ok (.bastore, 1) := by decide +kernel
theorem d68_26_59 : decode c68_26 59 = .ok (.goto 17, 3) := by decide +kernel
theorem d68_26_76 : decode c68_26 76 = .ok (.aload_n 0, 1) := by decide +kernel
theorem d68_26_77 : decode c68_26 77 = .ok (.iload_n 1, 1) := by decide +kernel
theorem d68_26_78 : decode c68_26 78 = .ok (.putfield 79, 3) := by decide +kernel
theorem d68_26_81 : decode c68_26 81 = .ok (.aload_n 0, 1) := by decide +kernel
theorem d68_26_82 : decode c68_26 82 = .ok (.areturn, 1) := by decide +kernel
abbrev y16_ : MethodName := ⟨"java/lang/AbstractStringBuilder", "appendNull", "()Ljava/lang/AbstractStringBuilder;"⟩
def Q_appendNull (Z : State) (o : Addr) (b : Addr) (k : ClassId) (cap : Nat) (n : Nat) (xs : List Value) (cs : Int32) (h0 : Heap) (n0 : Nat) (xv : Option Value) (xh : Heap) (xL : List Loc) : Prop := ∃ b2 : Addr, ∃ k2 : ClassId, xv = some (.ref o) ∧ Fr n0 xL ∧ Keep h0 xh [o, b] ∧ Exa Z xh o "java/lang/StringBuilder" ∧ Fld Z xh o "java/lang/AbstractStringBuilder" "value" "[B" (.ref b2) ∧ Fld Z xh o "java/lang/AbstractStringBuilder" "coder" "B" (.int (0 : Int32)) ∧ Fld Z xh o "java/lang/AbstractStringBuilder" "count" "I" (.int (iN (n + 4))) ∧ Arv Z xh b2 k2 .byte (iN (ncap cap (n + 4))) ((((xs ++ [(.int (110 : Int32))]) ++ [(.int (117 : Int32))]) ++ [(.int (108 : Int32))]) ++ [(.int (108 : Int32))]) (.int (0 : Int32)) ∧ (@Eq Nat b2 b ∨ @LE.le Nat _ h0.size b2) ∧ @Ne Nat o b2 ∧ @LE.le Nat _ n0 b2
abbrev Lc_appendNull_0 (o : Addr) (n : Nat) (b2_102 : Addr) : Array Slot := #[.val (.ref o), .val (.int ((iN n) + (1 : Int32))), .val (.ref b2_102)]
abbrev Lc_appendNull_1 (o : Addr) (n : Nat) (b2_102 : Addr) : Array Slot := #[.val (.ref o), .val (.int ((iN (n + 1)) + (1 : Int32))), .val (.ref b2_102)]
abbrev Lc_appendNull_2 (o : Addr) (n : Nat) (b2_102 : Addr) : Array Slot := #[.val (.ref o), .val (.int ((iN (n + 2)) + (1 : Int32))), .val (.ref b2_102)]
abbrev Lc_appendNull_3 (o : Addr) (n : Nat) (b2_102 : Addr) : Array Slot := #[.val (.ref o), .val (.int ((iN (n + 3)) + (1 : Int32))), .val (.ref b2_102)]
theorem ef_appendNull (mM : MethodId) (o : Addr) (b : Addr) (k : ClassId) (cap : Nat) (n : Nat) (xs : List Value) (cs : Int32) : entryFrame mM #[(.ref o)] 3 = mkF mM 0 #[.val (.ref o), .unset, .unset] [] := by
  first | (simp [entryFrame, mkF, argsToLocals, Value.category]; done) | rfl
theorem rm_appendNull (l : Launch) (Z : State) (a0 : Array Value) (hw : HW a0 Z) (ws : List Jvm.Cond) (o : Addr) (b : Addr) (k : ClassId) (cap : Nat) (n : Nat) (xs : List Value) (cs : Int32) (h0 : Heap) (n0 : Nat) (Z0 : n0 ≤ h0.size) (E_o : Exa Z h0 o "java/lang/StringBuilder") (F_value_o : Fld Z h0 o "java/lang/AbstractStringBuilder" "value" "[B" (.ref b)) (F_coder_o : Fld Z h0 o "java/lang/AbstractStringBuilder" "coder" "B" (.int (0 : Int32))) (F_count_o : Fld Z h0 o "java/lang/AbstractStringBuilder" "count" "I" (.int (iN n))) (V_b : Arv Z h0 b k .byte (iN cap) xs (.int (0 : Int32))) (ne_o_b : @Ne Nat o b) (g_o : @LE.le Nat _ n0 o) (g_b : @LE.le Nat _ n0 b) (hn : xs.length = n) (hE : ncap cap (n + 4) ≤ 128 ∧ cap ≤ 128 ∧ n ≤ cap) (hcg : n + 4 ≤ ncap cap (n + 4)) (OL : Old Z n0 h0) (S_COMPACT_STRINGS : Sta Z Z.heap "java/lang/String" "COMPACT_STRINGS" "Z" (.int cs)) (hcs : ¬ (cs = (0 : Int32))) :
    MetFree l y16_ (head1 (Jvm.Cond.code y16_ jdk_68_method_26_code 3 (some (.object "java/lang/AbstractStringBuilder")) :: ws) r4_1_128_62) (fun xa xU => xa = #[(.ref o)] ∧ Z.Warmed39 xU.vm ∧ xU.heap = h0) (fun _ _ _ _ _ => True) (fun _ xU xo xU' => ∃ xv xL, xo = .returned xv ∧ Q_appendNull Z o b k cap n xs cs h0 n0 xv xU'.heap xL ∧ FrameEnd xU xo xU' xL r4_1_128_62.cells r4_1_128_62.slots) := by
  refine MetFree.of_bodySF (plainFor_of_name pn_java_lang_AbstractStringBuilder) hisR ?_
  intro pP eE sS mM argS bS methS cC s₁ Bd hml0 hP hK
  obtain ⟨rfl, hZ, hh⟩ := hP
  have hx := Bd.exec
  have hby := Bd.bytes
  have hml : cC.maxLocals = 3 := hml0
  have hown : sS.vm.findClass "java/lang/AbstractStringBuilder" = some mM.cls := findClass_of_methodNamed Bd.named
  have hnm := (name_of_methodNamed Bd.named Bd.method).1
  have X0 : Stand pP l eE r4_1_128_62 sS mM #[(.ref o)] bS methS cC s₁ [] 0 0 := Stand.of_body Bd
  have e0 : s₁.heap = h0 := by rw [← hh, Bd.state]; rfl
  have N0 := Fr.nil n0
  obtain ⟨T101, X101, e101, st101⟩ := getF X0 hx hZ hown (host := "") (Or.inl (wi hw 68 rfl)) Via.refl e0 F_count_o (g := (mkF mM 2 #[.val (.ref o), .unset, .unset] [(.ref o), (.ref o)])) rfl rfl (hb hby d68_26_2)
  obtain ⟨cq102, kq102, q102a, q102b, q102c⟩ := isOf hZ e101 E_o
  obtain ⟨_, _, ⟨T102, L102, k102, n102⟩, -, X102, ⟨Lc102, hQ102, l102, y102, z102⟩, st102⟩ := X101.virtualBack hx (y := y12_) (z := y12_) hown (mvT hZ (wi hw 70 rfl)) (mvT hZ (own_decl (wi hw 71 rfl) (wi hw 74 rfl))) (notFace_of_selects (args := #[]) (mvT hZ (wi hw 73 rfl))) (mvT hZ (wi hw 73 rfl)) (mvT hZ (wi hw 71 rfl)) (by decide) (backOf (W := 0) (rm_ensJ l Z a0 hw [] o b k cap xs (n + 4) (.int (iN n)) h0 n0 (by omega) E_o F_value_o F_coder_o F_count_o V_b ne_o_b g_o g_b (⟨hE.1, hE.2.1, by omega⟩)) hZ (wi hw 74 rfl) (wi hw 38 rfl) (by decide) (by decide)) q102a q102c (g := (mkF mM 7 #[.val (.ref o), .unset, .unset] [(.int (iN (n + 4))), (.ref o)])) rfl (by rw [hml]; rfl) (Steps.refl _) (argsL := [(.int (iN (n + 4)))]) (rest := []) (lenOf pd_4 rfl) rfl (by show 2 * 0 + _ ≤ _; exact Nat.le_of_eq rfl) (hb hby d68_26_7) (fun _ _ => ⟨rfl, e101, ble rfl, ble rfl⟩)
  dsimp only [Pt.U, Pt.locs, Pt.cells, Pt.slots] at X102 l102 y102 z102 st102 hQ102
  subst y102 z102
  obtain ⟨h102, e102⟩ : ∃ z, T102.heap = z := ⟨_, rfl⟩
  rw [e102] at hQ102
  obtain ⟨b2_102, k2_102, rfl, N102q, Kp102, p102_E_o, p102_F_value_o, p102_F_coder_o, p102_F_count_o, p102_V_b2, p102_hor, p102_hob, p102_hgb⟩ := hQ102
  have Sz1 : h0.size ≤ h102.size := Kp102.1
  have N102 : Fr n0 L102 := by rw [l102]; exact Fr.app N0 N102q
  obtain ⟨T103, X103, e103, st103⟩ := getF X102 hx hZ hown (host := "") (Or.inl (wi hw 68 rfl)) Via.refl e102 p102_F_count_o (g := (mkF mM 11 #[.val (.ref o), .unset, .unset] [(.ref o)])) rfl rfl (hb hby d68_26_11)
  obtain ⟨T104, X104, e104, st104⟩ := getF X103 hx hZ hown (host := "") (Or.inl (wi hw 42 rfl)) Via.refl e103 p102_F_value_o (g := (mkF mM 16 #[.val (.ref o), .val (.int (iN n)), .unset] [(.ref o)])) rfl rfl (hb hby d68_26_16)
  have c106_OL : Old Z n0 h102 := OL.keep Kp102 (allS g_o all0)
  obtain ⟨cq105, kq105, q105a, q105b, q105c⟩ := isOf hZ e104 p102_E_o
  obtain ⟨_, _, ⟨T105, L105, k105, n105⟩, -, X105, ⟨Lc105, hQ105, l105, y105, z105⟩, st105⟩ := X104.virtualBack hx (y := y15_) (z := y15_) hown (mvT hZ (wi hw 253 rfl)) (mvT hZ (wi hw 145 rfl)) (notFace_of_selects (args := #[]) (mvT hZ (wi hw 147 rfl))) (mvT hZ (wi hw 147 rfl)) (mvT hZ (wi hw 146 rfl)) (by decide) (backOf (W := 0) (rm_asb_latin l Z a0 hw [] o cs h102 n0 (by omega) p102_F_coder_o c106_OL S_COMPACT_STRINGS hcs) hZ (wi hw 148 rfl) (wi hw 38 rfl) (by decide) (by decide)) q105a q105c (g := (mkF mM 21 #[.val (.ref o), .val (.int (iN n)), .val (.ref b2_102)] [(.ref o)])) rfl (by rw [hml]; rfl) (Steps.refl _) (argsL := []) (rest := []) (lenOf pd_21 rfl) rfl (by show 2 * 0 + _ ≤ _; exact Nat.le_of_eq rfl) (hb hby d68_26_21) (fun _ _ => ⟨rfl, e104, ble rfl, ble rfl⟩)
  dsimp only [Pt.U, Pt.locs, Pt.cells, Pt.slots] at X105 l105 y105 z105 st105 hQ105
  subst y105 z105
  obtain ⟨h105, e105⟩ : ∃ z, T105.heap = z := ⟨_, rfl⟩
  rw [e105] at hQ105
  obtain ⟨rfl, N105q, eq105⟩ := hQ105
  rw [eq105] at e105
  have N105 : Fr n0 L105 := by rw [l105]; exact Fr.app N102 N105q
  obtain ⟨cl107, Ar107, q107, S107, Ng107, Ha107, Ga107⟩ := id (p102_V_b2.pad (pad_rep xs (.int (0 : Int32)) 1))
  have hin107 : ¬ ((iN n) < 0 ∨ cl107.slots.size ≤ ((iN n)).toNatClampNeg) := inb_of S107 ⟨iN_nn (by omega), (iN_lt (by omega) (by omega)).mpr (by omega)⟩
  obtain ⟨T108, h108, X108, e108, W108, st108⟩ := stB X105 hx hZ e105 Ar107 (j := (iN n)) hin107 (g := (mkF mM 34 #[.val (.ref o), .val (.int (iN (n + 1))), .val (.ref b2_102)] [(.int (110 : Int32)), (.int (iN n)), (.ref b2_102)])) rfl rfl (hb hby d68_26_34)
  have ge109_b2_102 : @LE.le Nat _ n0 b2_102 := by omega
  have Sz2 : h102.size ≤ h108.size := Nat.le_of_eq (Wr.size W108).symm
  have Vt108 : Arv Z h108 b2_102 k2_102 .byte (iN (ncap cap (n + 4))) (xs ++ [(.int (110 : Int32))]) (.int (0 : Int32)) := by
    have q := Arv.set Ar107 q107 S107 Ng107 Ha107 Ga107 (fits_nar_byte _) W108 n (iN_nat (by omega)) (by simp [hn])
    rw [own_push (by simp [hn])] at q
    exact q
  have N108 := Fr.snoc X108 N105 ge109_b2_102
  obtain ⟨cl110, Ar110, q110, S110, Ng110, Ha110, Ga110⟩ := id (Vt108.pad (pad_rep (xs ++ [(.int (110 : Int32))]) (.int (0 : Int32)) 1))
  have hin110 : ¬ ((iN (n + 1)) < 0 ∨ cl110.slots.size ≤ ((iN (n + 1))).toNatClampNeg) := inb_of S110 ⟨iN_nn (by omega), (iN_lt (by omega) (by omega)).mpr (by omega)⟩
  obtain ⟨T111, h111, X111, e111, W111, st111⟩ := stB X108 hx hZ e108 Ar110 (j := (iN (n + 1))) hin110 (g := (mkF mM 42 #[.val (.ref o), .val (.int (iN (n + 2))), .val (.ref b2_102)] [(.int (117 : Int32)), (.int (iN (n + 1))), (.ref b2_102)])) rfl rfl (hb hby d68_26_42)
  have Sz3 : h108.size ≤ h111.size := Nat.le_of_eq (Wr.size W111).symm
  have Vt111 : Arv Z h111 b2_102 k2_102 .byte (iN (ncap cap (n + 4))) ((xs ++ [(.int (110 : Int32))]) ++ [(.int (117 : Int32))]) (.int (0 : Int32)) := by
    have q := Arv.set Ar110 q110 S110 Ng110 Ha110 Ga110 (fits_nar_byte _) W111 (n + 1) (iN_nat (by omega)) (by simp [hn])
    rw [own_push (by simp [hn])] at q
    exact q
  have N111 := Fr.snoc X111 N108 ge109_b2_102
  obtain ⟨cl112, Ar112, q112, S112, Ng112, Ha112, Ga112⟩ := id (Vt111.pad (pad_rep ((xs ++ [(.int (110 : Int32))]) ++ [(.int (117 : Int32))]) (.int (0 : Int32)) 1))
  have hin112 : ¬ ((iN (n + 2)) < 0 ∨ cl112.slots.size ≤ ((iN (n + 2))).toNatClampNeg) := inb_of S112 ⟨iN_nn (by omega), (iN_lt (by omega) (by omega)).mpr (by omega)⟩
  obtain ⟨T113, h113, X113, e113, W113, st113⟩ := stB X111 hx hZ e111 Ar112 (j := (iN (n + 2))) hin112 (g := (mkF mM 50 #[.val (.ref o), .val (.int (iN (n + 3))), .val (.ref b2_102)] [(.int (108 : Int32)), (.int (iN (n + 2))), (.ref b2_102)])) rfl rfl (hb hby d68_26_50)
  have Sz4 : h111.size ≤ h113.size := Nat.le_of_eq (Wr.size W113).symm
  have Vt113 : Arv Z h113 b2_102 k2_102 .byte (iN (ncap cap (n + 4))) (((xs ++ [(.int (110 : Int32))]) ++ [(.int (117 : Int32))]) ++ [(.int (108 : Int32))]) (.int (0 : Int32)) := by
    have q := Arv.set Ar112 q112 S112 Ng112 Ha112 Ga112 (fits_nar_byte _) W113 (n + 2) (iN_nat (by omega)) (by simp [hn])
    rw [own_push (by simp [hn])] at q
    exact q
  have N113 := Fr.snoc X113 N111 ge109_b2_102
  obtain ⟨cl114, Ar114, q114, S114, Ng114, Ha114, Ga114⟩ := id (Vt113.pad (pad_rep (((xs ++ [(.int (110 : Int32))]) ++ [(.int (117 : Int32))]) ++ [(.int (108 : Int32))]) (.int (0 : Int32)) 1))
  have hin114 : ¬ ((iN (n + 3)) < 0 ∨ cl114.slots.size ≤ ((iN (n + 3))).toNatClampNeg) := inb_of S114 ⟨iN_nn (by omega), (iN_lt (by omega) (by omega)).mpr (by omega)⟩
  obtain ⟨T115, h115, X115, e115, W115, st115⟩ := stB X113 hx hZ e113 Ar114 (j := (iN (n + 3))) hin114 (g := (mkF mM 58 #[.val (.ref o), .val (.int (iN (n + 4))), .val (.ref b2_102)] [(.int (108 : Int32)), (.int (iN (n + 3))), (.ref b2_102)])) rfl rfl (hb hby d68_26_58)
  have Sz5 : h113.size ≤ h115.size := Nat.le_of_eq (Wr.size W115).symm
  have Vt115 : Arv Z h115 b2_102 k2_102 .byte (iN (ncap cap (n + 4))) ((((xs ++ [(.int (110 : Int32))]) ++ [(.int (117 : Int32))]) ++ [(.int (108 : Int32))]) ++ [(.int (108 : Int32))]) (.int (0 : Int32)) := by
    have q := Arv.set Ar114 q114 S114 Ng114 Ha114 Ga114 (fits_nar_byte _) W115 (n + 3) (iN_nat (by omega)) (by simp [hn])
    rw [own_push (by simp [hn])] at q
    exact q
  have N115 := Fr.snoc X115 N113 ge109_b2_102
  have lt_o : @LT.lt Nat _ o h0.size := E_o.lt
  have lt_b2_102 : @LT.lt Nat _ b2_102 h102.size := p102_V_b2.lt
  have ne_o_b2_102_116 : o ≠ b2_102 := (by omega : @Ne Nat o b2_102)
  have c117_F_count_o : Fld Z h108 o "java/lang/AbstractStringBuilder" "count" "I" (.int (iN n)) := Fld.other W108 p102_F_count_o (Or.inl ne_o_b2_102_116)
  have c118_F_count_o : Fld Z h111 o "java/lang/AbstractStringBuilder" "count" "I" (.int (iN n)) := Fld.other W111 c117_F_count_o (Or.inl ne_o_b2_102_116)
  have c119_F_count_o : Fld Z h113 o "java/lang/AbstractStringBuilder" "count" "I" (.int (iN n)) := Fld.other W113 c118_F_count_o (Or.inl ne_o_b2_102_116)
  have c120_F_count_o : Fld Z h115 o "java/lang/AbstractStringBuilder" "count" "I" (.int (iN n)) := Fld.other W115 c119_F_count_o (Or.inl ne_o_b2_102_116)
  have c121_E_o : Exa Z h108 o "java/lang/StringBuilder" := Exa.wr W108 p102_E_o
  have c122_E_o : Exa Z h111 o "java/lang/StringBuilder" := Exa.wr W111 c121_E_o
  have c123_E_o : Exa Z h113 o "java/lang/StringBuilder" := Exa.wr W113 c122_E_o
  have c124_E_o : Exa Z h115 o "java/lang/StringBuilder" := Exa.wr W115 c123_E_o
  obtain ⟨T125, h125, X125, e125, W125, st125⟩ := putF X115 hx hZ hown (host := "") (Or.inl (wi hw 68 rfl)) Via.refl e115 c120_F_count_o c124_E_o (Or.inl (wi hw 69 rfl)) (wi hw 29 rfl) (ty := .int) (by decide) rfl rfl (g := (mkF mM 78 #[.val (.ref o), .val (.int (iN (n + 4))), .val (.ref b2_102)] [(.int (iN (n + 4))), (.ref o)])) rfl rfl (hb hby d68_26_78)
  have Sz6 : h115.size ≤ h125.size := Nat.le_of_eq (Wr.size W125).symm
  have Fw125 : Fld Z h125 o "java/lang/AbstractStringBuilder" "count" "I" (.int (iN (n + 4))) := Fld.same W125 c120_F_count_o
  have N125 := Fr.snoc X125 N115 g_o
  have c126_F_value_o : Fld Z h108 o "java/lang/AbstractStringBuilder" "value" "[B" (.ref b2_102) := Fld.other W108 p102_F_value_o (Or.inl ne_o_b2_102_116)
  have c127_F_value_o : Fld Z h111 o "java/lang/AbstractStringBuilder" "value" "[B" (.ref b2_102) := Fld.other W111 c126_F_value_o (Or.inl ne_o_b2_102_116)
  have c128_F_value_o : Fld Z h113 o "java/lang/AbstractStringBuilder" "value" "[B" (.ref b2_102) := Fld.other W113 c127_F_value_o (Or.inl ne_o_b2_102_116)
  have c129_F_value_o : Fld Z h115 o "java/lang/AbstractStringBuilder" "value" "[B" (.ref b2_102) := Fld.other W115 c128_F_value_o (Or.inl ne_o_b2_102_116)
  have c130_F_value_o : Fld Z h125 o "java/lang/AbstractStringBuilder" "value" "[B" (.ref b2_102) := Fld.other W125 c129_F_value_o (Or.inr (slot_ne (Or.inl (wi hw 43 rfl)) (Or.inl (wi hw 69 rfl)) (by decide) (t := (.array .byte)) (t' := .int) (by decide) (by decide)))
  have ne_b2_102_o_131 : b2_102 ≠ o := (by omega : @Ne Nat b2_102 o)
  have c132_V_b2_102 : Arv Z h125 b2_102 k2_102 .byte (iN (ncap cap (n + 4))) ((((xs ++ [(.int (110 : Int32))]) ++ [(.int (117 : Int32))]) ++ [(.int (108 : Int32))]) ++ [(.int (108 : Int32))]) (.int (0 : Int32)) := Vt115.other W125 ne_b2_102_o_131
  have c133_E_o : Exa Z h125 o "java/lang/StringBuilder" := Exa.wr W125 c124_E_o
  have c134_F_coder_o : Fld Z h108 o "java/lang/AbstractStringBuilder" "coder" "B" (.int (0 : Int32)) := Fld.other W108 p102_F_coder_o (Or.inl ne_o_b2_102_116)
  have c135_F_coder_o : Fld Z h111 o "java/lang/AbstractStringBuilder" "coder" "B" (.int (0 : Int32)) := Fld.other W111 c134_F_coder_o (Or.inl ne_o_b2_102_116)
  have c136_F_coder_o : Fld Z h113 o "java/lang/AbstractStringBuilder" "coder" "B" (.int (0 : Int32)) := Fld.other W113 c135_F_coder_o (Or.inl ne_o_b2_102_116)
  have c137_F_coder_o : Fld Z h115 o "java/lang/AbstractStringBuilder" "coder" "B" (.int (0 : Int32)) := Fld.other W115 c136_F_coder_o (Or.inl ne_o_b2_102_116)
  have c138_F_coder_o : Fld Z h125 o "java/lang/AbstractStringBuilder" "coder" "B" (.int (0 : Int32)) := Fld.other W125 c137_F_coder_o (Or.inr (slot_ne (Or.inl (wi hw 45 rfl)) (Or.inl (wi hw 69 rfl)) (by decide) (t := .byte) (t' := .int) (by decide) (by decide)))
  have K139 : Keep h0 h102 [o, b] := (Keep.refl h0 [o, b]).trans Kp102 (allS (Or.inl (List.mem_of_getElem? (i := 0) rfl)) all0)
  have K140 : Keep h0 h108 [o, b] := K139.wr W108 (p102_hor.elim (fun q => Or.inl (by rw [q]; exact List.mem_of_getElem? (i := 1) rfl)) (fun q => Or.inr (by omega)))
  have K141 : Keep h0 h111 [o, b] := K140.wr W111 (p102_hor.elim (fun q => Or.inl (by rw [q]; exact List.mem_of_getElem? (i := 1) rfl)) (fun q => Or.inr (by omega)))
  have K142 : Keep h0 h113 [o, b] := K141.wr W113 (p102_hor.elim (fun q => Or.inl (by rw [q]; exact List.mem_of_getElem? (i := 1) rfl)) (fun q => Or.inr (by omega)))
  have K143 : Keep h0 h115 [o, b] := K142.wr W115 (p102_hor.elim (fun q => Or.inl (by rw [q]; exact List.mem_of_getElem? (i := 1) rfl)) (fun q => Or.inr (by omega)))
  have K144 : Keep h0 h125 [o, b] := K143.wr W125 (Or.inl (List.mem_of_getElem? (i := 0) rfl))
  obtain ⟨fs, hr, hrun, hended, hW, hsame⟩ := X125.leave (v := some (.ref o)) (fun h => by rw [Bd.returns] at h; cases h)
  refine ⟨_, _, castTop (ef_appendNull mM o b k cap n xs cs) ?_, hrun, hended, _, _, rfl, ?_, ⟨_, rfl⟩, hW, hsame.mono (by decide) (by decide)⟩
  · show SS pP eE bS s₁ (mkF mM 0 #[.val (.ref o), .unset, .unset] []) _
    refine XS.aloadN X0.here hx rfl (hb hby d68_26_0) rfl rfl ?_
    refine XS.aloadN X0.here hx rfl (hb hby d68_26_1) rfl rfl ?_
    show SS pP eE bS s₁ (mkF mM 2 #[.val (.ref o), .unset, .unset] [(.ref o), (.ref o)]) _
    refine st101 _ ?_
    show SS pP eE bS T101 (mkF mM 5 #[.val (.ref o), .unset, .unset] [(.int (iN n)), (.ref o)]) _
    refine XS.iconst X101.here hx rfl (hb hby d68_26_5) ?_
    refine XS.iadd X101.here hx rfl (hb hby d68_26_6) rfl ?_
    show SS pP eE bS T101 (mkF mM 7 #[.val (.ref o), .unset, .unset] [(.int ((iN n) + (4 : Int32))), (.ref o)]) _
    rw [show ((iN n) + (4 : Int32)) = (iN (n + 4)) from iN_add n 4]
    show SS pP eE bS T101 (mkF mM 7 #[.val (.ref o), .unset, .unset] [(.int (iN (n + 4))), (.ref o)]) _
    refine st102.trans ?_
    show SS pP eE bS T102 (mkF mM 10 #[.val (.ref o), .unset, .unset] []) _
    refine XS.aloadN X102.here hx rfl (hb hby d68_26_10) rfl rfl ?_
    show SS pP eE bS T102 (mkF mM 11 #[.val (.ref o), .unset, .unset] [(.ref o)]) _
    refine st103 _ ?_
    show SS pP eE bS T103 (mkF mM 14 #[.val (.ref o), .unset, .unset] [(.int (iN n))]) _
    refine XS.istoreN X103.here hx rfl (hb hby d68_26_14) rfl (l' := #[.val (.ref o), .val (.int (iN n)), .unset]) rfl ?_
    refine XS.aloadN X103.here hx rfl (hb hby d68_26_15) rfl rfl ?_
    show SS pP eE bS T103 (mkF mM 16 #[.val (.ref o), .val (.int (iN n)), .unset] [(.ref o)]) _
    refine st104 _ ?_
    show SS pP eE bS T104 (mkF mM 19 #[.val (.ref o), .val (.int (iN n)), .unset] [(.ref b2_102)]) _
    refine XS.astoreN X104.here hx rfl (hb hby d68_26_19) rfl rfl (l' := #[.val (.ref o), .val (.int (iN n)), .val (.ref b2_102)]) rfl ?_
    refine XS.aloadN X104.here hx rfl (hb hby d68_26_20) rfl rfl ?_
    show SS pP eE bS T104 (mkF mM 21 #[.val (.ref o), .val (.int (iN n)), .val (.ref b2_102)] [(.ref o)]) _
    refine st105.trans ?_
    show SS pP eE bS T105 (mkF mM 24 #[.val (.ref o), .val (.int (iN n)), .val (.ref b2_102)] [(.int (1 : Int32))]) _
    refine XS.ifNo X105.here hx rfl (hb hby d68_26_24) rfl ((if0 _ _).trans (feq (by decide : ¬ ((1 : Int32) = (0 : Int32)))).1) ?_
    refine XS.aloadN X105.here hx rfl (hb hby d68_26_27) rfl rfl ?_
    refine XS.iloadN X105.here hx rfl (hb hby d68_26_28) rfl ?_
    refine XS.iinc X105.here hx rfl (hb hby d68_26_29) rfl (l' := (Lc_appendNull_0 o n b2_102)) rfl ?_
    show SS pP eE bS T105 (mkF mM 32 #[.val (.ref o), .val (.int ((iN n) + (1 : Int32))), .val (.ref b2_102)] [(.int (iN n)), (.ref b2_102)]) _
    rw [show ((iN n) + (1 : Int32)) = (iN (n + 1)) from iN_add n 1]
    show SS pP eE bS T105 (mkF mM 32 #[.val (.ref o), .val (.int (iN (n + 1))), .val (.ref b2_102)] [(.int (iN n)), (.ref b2_102)]) _
    refine XS.bipush X105.here hx rfl (hb hby d68_26_32) ?_
    show SS pP eE bS T105 (mkF mM 34 #[.val (.ref o), .val (.int (iN (n + 1))), .val (.ref b2_102)] [(.int (110 : Int32)), (.int (iN n)), (.ref b2_102)]) _
    refine st108 _ ?_
    show SS pP eE bS T108 (mkF mM 35 #[.val (.ref o), .val (.int (iN (n + 1))), .val (.ref b2_102)] []) _
    refine XS.aloadN X108.here hx rfl (hb hby d68_26_35) rfl rfl ?_
    refine XS.iloadN X108.here hx rfl (hb hby d68_26_36) rfl ?_
    refine XS.iinc X108.here hx rfl (hb hby d68_26_37) rfl (l' := (Lc_appendNull_1 o n b2_102)) rfl ?_
    show SS pP eE bS T108 (mkF mM 40 #[.val (.ref o), .val (.int ((iN (n + 1)) + (1 : Int32))), .val (.ref b2_102)] [(.int (iN (n + 1))), (.ref b2_102)]) _
    rw [show ((iN (n + 1)) + (1 : Int32)) = (iN (n + 2)) from iN_add (n + 1) 1]
    refine XS.bipush X108.here hx rfl (hb hby d68_26_40) ?_
    show SS pP eE bS T108 (mkF mM 42 #[.val (.ref o), .val (.int (iN (n + 2))), .val (.ref b2_102)] [(.int (117 : Int32)), (.int (iN (n + 1))), (.ref b2_102)]) _
    refine st111 _ ?_
    show SS pP eE bS T111 (mkF mM 43 #[.val (.ref o), .val (.int (iN (n + 2))), .val (.ref b2_102)] []) _
    refine XS.aloadN X111.here hx rfl (hb hby d68_26_43) rfl rfl ?_
    refine XS.iloadN X111.here hx rfl (hb hby d68_26_44) rfl ?_
    refine XS.iinc X111.here hx rfl (hb hby d68_26_45) rfl (l' := (Lc_appendNull_2 o n b2_102)) rfl ?_
    show SS pP eE bS T111 (mkF mM 48 #[.val (.ref o), .val (.int ((iN (n + 2)) + (1 : Int32))), .val (.ref b2_102)] [(.int (iN (n + 2))), (.ref b2_102)]) _
    rw [show ((iN (n + 2)) + (1 : Int32)) = (iN (n + 3)) from iN_add (n + 2) 1]
    refine XS.bipush X111.here hx rfl (hb hby d68_26_48) ?_
    show SS pP eE bS T111 (mkF mM 50 #[.val (.ref o), .val (.int (iN (n + 3))), .val (.ref b2_102)] [(.int (108 : Int32)), (.int (iN (n + 2))), (.ref b2_102)]) _
    refine st113 _ ?_
    show SS pP eE bS T113 (mkF mM 51 #[.val (.ref o), .val (.int (iN (n + 3))), .val (.ref b2_102)] []) _
    refine XS.aloadN X113.here hx rfl (hb hby d68_26_51) rfl rfl ?_
    refine XS.iloadN X113.here hx rfl (hb hby d68_26_52) rfl ?_
    refine XS.iinc X113.here hx rfl (hb hby d68_26_53) rfl (l' := (Lc_appendNull_3 o n b2_102)) rfl ?_
    show SS pP eE bS T113 (mkF mM 56 #[.val (.ref o), .val (.int ((iN (n + 3)) + (1 : Int32))), .val (.ref b2_102)] [(.int (iN (n + 3))), (.ref b2_102)]) _
    rw [show ((iN (n + 3)) + (1 : Int32)) = (iN (n + 4)) from iN_add (n + 3) 1]
    refine XS.bipush X113.here hx rfl (hb hby d68_26_56) ?_
    show SS pP eE bS T113 (mkF mM 58 #[.val (.ref o), .val (.int (iN (n + 4))), .val (.ref b2_102)] [(.int (108 : Int32)), (.int (iN (n + 3))), (.ref b2_102)]) _
    refine st115 _ ?_
    show SS pP eE bS T115 (mkF mM 59 #[.val (.ref o), .val (.int (iN (n + 4))), .val (.ref b2_102)] []) _
    refine XS.goto X115.here hx rfl (pc0 := 59) (pc' := 76) rfl (hb hby d68_26_59) (by decide) (by decide) ?_
    refine XS.aloadN X115.here hx rfl (hb hby d68_26_76) rfl rfl ?_
    refine XS.iloadN X115.here hx rfl (hb hby d68_26_77) rfl ?_
    show SS pP eE bS T115 (mkF mM 78 #[.val (.ref o), .val (.int (iN (n + 4))), .val (.ref b2_102)] [(.int (iN (n + 4))), (.ref o)]) _
    refine st125 _ ?_
    show SS pP eE bS T125 (mkF mM 81 #[.val (.ref o), .val (.int (iN (n + 4))), .val (.ref b2_102)] []) _
    refine XS.aloadN X125.here hx rfl (hb hby d68_26_81) rfl rfl ?_
    show SS pP eE bS T125 (mkF mM 82 #[.val (.ref o), .val (.int (iN (n + 4))), .val (.ref b2_102)] [(.ref o)]) _
    jvm_step X125.here [X125.here.top, hx, (hb hby d68_26_82), X125.method', Bd.returns, Value.isRef, FieldType.isReference]
    first | (intro acts; rw [hr _ acts rfl rfl rfl]) | rw [hr _ _ rfl rfl rfl]
    exact Steps.refl _
  · show Q_appendNull Z o b k cap n xs cs h0 n0 _ T125.heap _
    rw [e125]
    exact ⟨b2_102, k2_102, rfl, N125, K144, c133_E_o, c130_F_value_o, c138_F_coder_o, Fw125, c132_V_b2_102, (p102_hor), (p102_hob), (p102_hgb)⟩
theorem d68_22_4 : decode c68_22 4 = .ok (.aload_n 0, 1) := by decide +kernel
theorem d68_22_5 : decode c68_22 5 = .ok (.invokevirtual 204, 3) := by decide +kernel
theorem pd_30 : parseMethodDescriptor "()Ljava/lang/AbstractStringBuilder;" = some ⟨[], some (.object "java/lang/AbstractStringBuilder")⟩ := by decide +kernel
theorem d68_22_8 : decode c68_22 8 = .ok (.areturn, 1) := by decide +kernel
def Q_app_null (Z : State) (o : Addr) (b : Addr) (k : ClassId) (cap : Nat) (n : Nat) (xs : List Value) (cs : Int32) (h0 : Heap) (n0 : Nat) (xv : Option Value) (xh : Heap) (xL : List Loc) : Prop := ∃ b2 : Addr, ∃ k2 : ClassId, xv = some (.ref o) ∧ Fr n0 xL ∧ Keep h0 xh [o, b] ∧ Exa Z xh o "java/lang/StringBuilder" ∧ Fld Z xh o "java/lang/AbstractStringBuilder" "value" "[B" (.ref b2) ∧ Fld Z xh o "java/lang/AbstractStringBuilder" "coder" "B" (.int (0 : Int32)) ∧ Fld Z xh o "java/lang/AbstractStringBuilder" "count" "I" (.int (iN (n + 4))) ∧ Arv Z xh b2 k2 .byte (iN (ncap cap (n + 4))) ((((xs ++ [(.int (110 : Int32))]) ++ [(.int (117 : Int32))]) ++ [(.int (108 : Int32))]) ++ [(.int (108 : Int32))]) (.int (0 : Int32)) ∧ (@Eq Nat b2 b ∨ @LE.le Nat _ h0.size b2) ∧ @Ne Nat o b2 ∧ @LE.le Nat _ n0 b2
theorem ef_app_null (mM : MethodId) (o : Addr) (b : Addr) (k : ClassId) (cap : Nat) (n : Nat) (xs : List Value) (cs : Int32) : entryFrame mM #[(.ref o), .null] 3 = mkF mM 0 #[.val (.ref o), .val .null, .unset] [] := by
  first | (simp [entryFrame, mkF, argsToLocals, Value.category]; done) | rfl
theorem rm_app_null (l : Launch) (Z : State) (a0 : Array Value) (hw : HW a0 Z) (ws : List Jvm.Cond) (o : Addr) (b : Addr) (k : ClassId) (cap : Nat) (n : Nat) (xs : List Value) (cs : Int32) (h0 : Heap) (n0 : Nat) (Z0 : n0 ≤ h0.size) (E_o : Exa Z h0 o "java/lang/StringBuilder") (F_value_o : Fld Z h0 o "java/lang/AbstractStringBuilder" "value" "[B" (.ref b)) (F_coder_o : Fld Z h0 o "java/lang/AbstractStringBuilder" "coder" "B" (.int (0 : Int32))) (F_count_o : Fld Z h0 o "java/lang/AbstractStringBuilder" "count" "I" (.int (iN n))) (V_b : Arv Z h0 b k .byte (iN cap) xs (.int (0 : Int32))) (ne_o_b : @Ne Nat o b) (g_o : @LE.le Nat _ n0 o) (g_b : @LE.le Nat _ n0 b) (hn : xs.length = n) (hE : ncap cap (n + 4) ≤ 128 ∧ cap ≤ 128 ∧ n ≤ cap) (hcg : n + 4 ≤ ncap cap (n + 4)) (OL : Old Z n0 h0) (S_COMPACT_STRINGS : Sta Z Z.heap "java/lang/String" "COMPACT_STRINGS" "Z" (.int cs)) (hcs : ¬ (cs = (0 : Int32))) :
    MetFree l y13_ (head1 (Jvm.Cond.code y13_ jdk_68_method_22_code 3 (some (.object "java/lang/AbstractStringBuilder")) :: ws) r5_1_128_76) (fun xa xU => xa = #[(.ref o), .null] ∧ Z.Warmed39 xU.vm ∧ xU.heap = h0) (fun _ _ _ _ _ => True) (fun _ xU xo xU' => ∃ xv xL, xo = .returned xv ∧ Q_app_null Z o b k cap n xs cs h0 n0 xv xU'.heap xL ∧ FrameEnd xU xo xU' xL r5_1_128_76.cells r5_1_128_76.slots) := by
  refine MetFree.of_bodySF (plainFor_of_name pn_java_lang_AbstractStringBuilder) hisR ?_
  intro pP eE sS mM argS bS methS cC s₁ Bd hml0 hP hK
  obtain ⟨rfl, hZ, hh⟩ := hP
  have hx := Bd.exec
  have hby := Bd.bytes
  have hml : cC.maxLocals = 3 := hml0
  have hown : sS.vm.findClass "java/lang/AbstractStringBuilder" = some mM.cls := findClass_of_methodNamed Bd.named
  have hnm := (name_of_methodNamed Bd.named Bd.method).1
  have X0 : Stand pP l eE r5_1_128_76 sS mM #[(.ref o), .null] bS methS cC s₁ [] 0 0 := Stand.of_body Bd
  have e0 : s₁.heap = h0 := by rw [← hh, Bd.state]; rfl
  have N0 := Fr.nil n0
  obtain ⟨cq101, kq101, q101a, q101b, q101c⟩ := isOf hZ e0 E_o
  obtain ⟨_, _, ⟨T101, L101, k101, n101⟩, -, X101, ⟨Lc101, hQ101, l101, y101, z101⟩, st101⟩ := X0.virtualBack hx (y := y16_) (z := y16_) hown (mvT hZ (wi hw 248 rfl)) (mvT hZ (own_decl (wi hw 249 rfl) (wi hw 252 rfl))) (notFace_of_selects (args := #[]) (mvT hZ (wi hw 251 rfl))) (mvT hZ (wi hw 251 rfl)) (mvT hZ (wi hw 249 rfl)) (by decide) (backOf (W := 0) (rm_appendNull l Z a0 hw [] o b k cap n xs cs h0 n0 (by omega) E_o F_value_o F_coder_o F_count_o V_b ne_o_b g_o g_b hn hE hcg OL S_COMPACT_STRINGS hcs) hZ (wi hw 252 rfl) (wi hw 38 rfl) (by decide) (by decide)) q101a q101c (g := (mkF mM 5 #[.val (.ref o), .val .null, .unset] [(.ref o)])) rfl (by rw [hml]; rfl) (Steps.refl _) (argsL := []) (rest := []) (lenOf pd_30 rfl) rfl (by show 2 * 0 + _ ≤ _; exact Nat.le_of_eq rfl) (hb hby d68_22_5) (fun _ _ => ⟨rfl, e0, ble rfl, ble rfl⟩)
  dsimp only [Pt.U, Pt.locs, Pt.cells, Pt.slots] at X101 l101 y101 z101 st101 hQ101
  subst y101 z101
  obtain ⟨h101, e101⟩ : ∃ z, T101.heap = z := ⟨_, rfl⟩
  rw [e101] at hQ101
  obtain ⟨b2_101, k2_101, rfl, N101q, Kp101, p101_E_o, p101_F_value_o, p101_F_coder_o, p101_F_count_o, p101_V_b2, p101_hor, p101_hob, p101_hgb⟩ := hQ101
  have Sz1 : h0.size ≤ h101.size := Kp101.1
  have N101 : Fr n0 L101 := by rw [l101]; exact Fr.app N0 N101q
  have K102 : Keep h0 h101 [o, b] := (Keep.refl h0 [o, b]).trans Kp101 (allS (Or.inl (List.mem_of_getElem? (i := 0) rfl)) (allS (Or.inl (List.mem_of_getElem? (i := 1) rfl)) all0))
  obtain ⟨fs, hr, hrun, hended, hW, hsame⟩ := X101.leave (v := some (.ref o)) (fun h => by rw [Bd.returns] at h; cases h)
  refine ⟨_, _, castTop (ef_app_null mM o b k cap n xs cs) ?_, hrun, hended, _, _, rfl, ?_, ⟨_, rfl⟩, hW, hsame.mono (by decide) (by decide)⟩
  · show SS pP eE bS s₁ (mkF mM 0 #[.val (.ref o), .val .null, .unset] []) _
    refine XS.aloadN X0.here hx rfl (hb hby d68_22_0) rfl rfl ?_
    refine XS.ifnonnullNo X0.here hx rfl (hb hby d68_22_1) rfl ?_
    refine XS.aloadN X0.here hx rfl (hb hby d68_22_4) rfl rfl ?_
    show SS pP eE bS s₁ (mkF mM 5 #[.val (.ref o), .val .null, .unset] [(.ref o)]) _
    refine st101.trans ?_
    show SS pP eE bS T101 (mkF mM 8 #[.val (.ref o), .val .null, .unset] [(.ref o)]) _
    jvm_step X101.here [X101.here.top, hx, (hb hby d68_22_8), X101.method', Bd.returns, Value.isRef, FieldType.isReference]
    first | (intro acts; rw [hr _ acts rfl rfl rfl]) | rw [hr _ _ rfl rfl rfl]
    exact Steps.refl _
  · show Q_app_null Z o b k cap n xs cs h0 n0 _ T101.heap _
    rw [e101]
    exact ⟨b2_101, k2_101, rfl, N101, K102, p101_E_o, p101_F_value_o, p101_F_coder_o, p101_F_count_o, p101_V_b2, (p101_hor), (p101_hob), (p101_hgb)⟩
abbrev r6_1_128_90 : Room := { frames := 6, cells := 1, slots := 128, locals := 90 }
def Q_sapp_null (Z : State) (o : Addr) (b : Addr) (k : ClassId) (cap : Nat) (n : Nat) (xs : List Value) (cs : Int32) (h0 : Heap) (n0 : Nat) (xv : Option Value) (xh : Heap) (xL : List Loc) : Prop := ∃ b2 : Addr, ∃ k2 : ClassId, xv = some (.ref o) ∧ Fr n0 xL ∧ Keep h0 xh [o, b] ∧ Exa Z xh o "java/lang/StringBuilder" ∧ Fld Z xh o "java/lang/AbstractStringBuilder" "value" "[B" (.ref b2) ∧ Fld Z xh o "java/lang/AbstractStringBuilder" "coder" "B" (.int (0 : Int32)) ∧ Fld Z xh o "java/lang/AbstractStringBuilder" "count" "I" (.int (iN (n + 4))) ∧ Arv Z xh b2 k2 .byte (iN (ncap cap (n + 4))) ((((xs ++ [(.int (110 : Int32))]) ++ [(.int (117 : Int32))]) ++ [(.int (108 : Int32))]) ++ [(.int (108 : Int32))]) (.int (0 : Int32)) ∧ (@Eq Nat b2 b ∨ @LE.le Nat _ h0.size b2) ∧ @Ne Nat o b2 ∧ @LE.le Nat _ n0 b2
theorem ef_sapp_null (mM : MethodId) (o : Addr) (b : Addr) (k : ClassId) (cap : Nat) (n : Nat) (xs : List Value) (cs : Int32) : entryFrame mM #[(.ref o), .null] 2 = mkF mM 0 #[.val (.ref o), .val .null] [] := by
  first | (simp [entryFrame, mkF, argsToLocals, Value.category]; done) | rfl
theorem rm_sapp_null (l : Launch) (Z : State) (a0 : Array Value) (hw : HW a0 Z) (ws : List Jvm.Cond) (o : Addr) (b : Addr) (k : ClassId) (cap : Nat) (n : Nat) (xs : List Value) (cs : Int32) (h0 : Heap) (n0 : Nat) (Z0 : n0 ≤ h0.size) (E_o : Exa Z h0 o "java/lang/StringBuilder") (F_value_o : Fld Z h0 o "java/lang/AbstractStringBuilder" "value" "[B" (.ref b)) (F_coder_o : Fld Z h0 o "java/lang/AbstractStringBuilder" "coder" "B" (.int (0 : Int32))) (F_count_o : Fld Z h0 o "java/lang/AbstractStringBuilder" "count" "I" (.int (iN n))) (V_b : Arv Z h0 b k .byte (iN cap) xs (.int (0 : Int32))) (ne_o_b : @Ne Nat o b) (g_o : @LE.le Nat _ n0 o) (g_b : @LE.le Nat _ n0 b) (hn : xs.length = n) (hE : ncap cap (n + 4) ≤ 128 ∧ cap ≤ 128 ∧ n ≤ cap) (hcg : n + 4 ≤ ncap cap (n + 4)) (OL : Old Z n0 h0) (S_COMPACT_STRINGS : Sta Z Z.heap "java/lang/String" "COMPACT_STRINGS" "Z" (.int cs)) (hcs : ¬ (cs = (0 : Int32))) :
    MetFree l y14_ (head1 (Jvm.Cond.code y14_ jdk_67_method_7_code 2 (some (.object "java/lang/StringBuilder")) :: ws) r6_1_128_90) (fun xa xU => xa = #[(.ref o), .null] ∧ Z.Warmed39 xU.vm ∧ xU.heap = h0) (fun _ _ _ _ _ => True) (fun _ xU xo xU' => ∃ xv xL, xo = .returned xv ∧ Q_sapp_null Z o b k cap n xs cs h0 n0 xv xU'.heap xL ∧ FrameEnd xU xo xU' xL r6_1_128_90.cells r6_1_128_90.slots) := by
  refine MetFree.of_bodySF (plainFor_of_name pn_java_lang_StringBuilder) hisR ?_
  intro pP eE sS mM argS bS methS cC s₁ Bd hml0 hP hK
  obtain ⟨rfl, hZ, hh⟩ := hP
  have hx := Bd.exec
  have hby := Bd.bytes
  have hml : cC.maxLocals = 2 := hml0
  have hown : sS.vm.findClass "java/lang/StringBuilder" = some mM.cls := findClass_of_methodNamed Bd.named
  have hnm := (name_of_methodNamed Bd.named Bd.method).1
  have X0 : Stand pP l eE r6_1_128_90 sS mM #[(.ref o), .null] bS methS cC s₁ [] 0 0 := Stand.of_body Bd
  have e0 : s₁.heap = h0 := by rw [← hh, Bd.state]; rfl
  have N0 := Fr.nil n0
  obtain ⟨_, _, ⟨T101, L101, k101, n101⟩, -, X101, ⟨Lc101, hQ101, l101, y101, z101⟩, st101⟩ := superBack X0 hx hZ (y := y13_) hown (wi hw 52 rfl) (own_same (y := y13_) (by decide) (wi hw 53 rfl) (own_nf (y := (⟨"java/lang/AbstractStringBuilder", "ensureCapacityInternal", "(I)V"⟩ : MethodName)) (z := (⟨"java/lang/AbstractStringBuilder", "append", "(Ljava/lang/String;)Ljava/lang/AbstractStringBuilder;"⟩ : MethodName)) (notFace_of_selects (wi hw 73 rfl)) (Cond.code_named (wi hw 74 rfl)) rfl)) (wi hw 53 rfl) (wi hw 54 rfl) (by decide) (backOf (W := 0) (rm_app_null l Z a0 hw [] o b k cap n xs cs h0 n0 (by omega) E_o F_value_o F_coder_o F_count_o V_b ne_o_b g_o g_b hn hE hcg OL S_COMPACT_STRINGS hcs) hZ (wi hw 56 rfl) (wi hw 38 rfl) (by decide) (by decide)) e0 (Ins.self E_o) (g := (mkF mM 2 #[.val (.ref o), .val .null] [.null, (.ref o)])) rfl (by rw [hml]; rfl) (wi hw 56 rfl) (argsL := [.null]) (rest := []) (lenOf pd_6 rfl) rfl (by show 2 * 0 + _ ≤ _; exact Nat.le_of_eq rfl) (hb hby d67_7_2) (fun _ _ => ⟨rfl, e0, ble rfl, ble rfl⟩)
  dsimp only [Pt.U, Pt.locs, Pt.cells, Pt.slots] at X101 l101 y101 z101 st101 hQ101
  subst y101 z101
  obtain ⟨h101, e101⟩ : ∃ z, T101.heap = z := ⟨_, rfl⟩
  rw [e101] at hQ101
  obtain ⟨b2_101, k2_101, rfl, N101q, Kp101, p101_E_o, p101_F_value_o, p101_F_coder_o, p101_F_count_o, p101_V_b2, p101_hor, p101_hob, p101_hgb⟩ := hQ101
  have Sz1 : h0.size ≤ h101.size := Kp101.1
  have N101 : Fr n0 L101 := by rw [l101]; exact Fr.app N0 N101q
  have K102 : Keep h0 h101 [o, b] := (Keep.refl h0 [o, b]).trans Kp101 (allS (Or.inl (List.mem_of_getElem? (i := 0) rfl)) (allS (Or.inl (List.mem_of_getElem? (i := 1) rfl)) all0))
  obtain ⟨fs, hr, hrun, hended, hW, hsame⟩ := X101.leave (v := some (.ref o)) (fun h => by rw [Bd.returns] at h; cases h)
  refine ⟨_, _, castTop (ef_sapp_null mM o b k cap n xs cs) ?_, hrun, hended, _, _, rfl, ?_, ⟨_, rfl⟩, hW, hsame.mono (by decide) (by decide)⟩
  · show SS pP eE bS s₁ (mkF mM 0 #[.val (.ref o), .val .null] []) _
    refine XS.aloadN X0.here hx rfl (hb hby d67_7_0) rfl rfl ?_
    refine XS.aloadN X0.here hx rfl (hb hby d67_7_1) rfl rfl ?_
    show SS pP eE bS s₁ (mkF mM 2 #[.val (.ref o), .val .null] [.null, (.ref o)]) _
    refine st101.trans ?_
    show SS pP eE bS T101 (mkF mM 5 #[.val (.ref o), .val .null] [(.ref o)]) _
    refine XS.pop X101.here hx rfl (hb hby d67_7_5) rfl rfl ?_
    refine XS.aloadN X101.here hx rfl (hb hby d67_7_6) rfl rfl ?_
    show SS pP eE bS T101 (mkF mM 7 #[.val (.ref o), .val .null] [(.ref o)]) _
    jvm_step X101.here [X101.here.top, hx, (hb hby d67_7_7), X101.method', Bd.returns, Value.isRef, FieldType.isReference]
    first | (intro acts; rw [hr _ acts rfl rfl rfl]) | rw [hr _ _ rfl rfl rfl]
    exact Steps.refl _
  · show Q_sapp_null Z o b k cap n xs cs h0 n0 _ T101.heap _
    rw [e101]
    exact ⟨b2_101, k2_101, rfl, N101, K102, p101_E_o, p101_F_value_o, p101_F_coder_o, p101_F_count_o, p101_V_b2, (p101_hor), (p101_hob), (p101_hgb)⟩
abbrev c68_64 := jdk_68_method_64_code
theorem d68_64_0 : decode c68_64 0 = .ok (.aload_n 0, 1) := by decide +kernel
theorem d68_64_1 : decode c68_64 1 = .ok (.getfield 15, 3) := by decide +kernel
theorem d68_64_4 : decode c68_64 4 = .ok (.areturn, 1) := by decide +kernel
abbrev y17_ : MethodName := ⟨"java/lang/AbstractStringBuilder", "getValue", "()[B"⟩
def Q_getValue (Z : State) (o : Addr) (b : Addr) (h0 : Heap) (n0 : Nat) (xv : Option Value) (xh : Heap) (xL : List Loc) : Prop := xv = some (.ref b) ∧ Fr n0 xL ∧ xh = h0
theorem ef_getValue (mM : MethodId) (o : Addr) (b : Addr) : entryFrame mM #[(.ref o)] 1 = mkF mM 0 #[.val (.ref o)] [] := by
  first | (simp [entryFrame, mkF, argsToLocals, Value.category]; done) | rfl
theorem rm_getValue (l : Launch) (Z : State) (a0 : Array Value) (hw : HW a0 Z) (ws : List Jvm.Cond) (o : Addr) (b : Addr) (h0 : Heap) (n0 : Nat) (Z0 : n0 ≤ h0.size) (F_value_o : Fld Z h0 o "java/lang/AbstractStringBuilder" "value" "[B" (.ref b)) :
    MetFree l y17_ (head1 (Jvm.Cond.code y17_ jdk_68_method_64_code 1 (some (.array .byte)) :: ws) r0_0_0_0) (fun xa xU => xa = #[(.ref o)] ∧ Z.Warmed39 xU.vm ∧ xU.heap = h0) (fun _ _ _ _ _ => True) (fun _ xU xo xU' => ∃ xv xL, xo = .returned xv ∧ Q_getValue Z o b h0 n0 xv xU'.heap xL ∧ FrameEnd xU xo xU' xL r0_0_0_0.cells r0_0_0_0.slots) := by
  refine MetFree.of_bodySF (plainFor_of_name pn_java_lang_AbstractStringBuilder) hisR ?_
  intro pP eE sS mM argS bS methS cC s₁ Bd hml0 hP hK
  obtain ⟨rfl, hZ, hh⟩ := hP
  have hx := Bd.exec
  have hby := Bd.bytes
  have hml : cC.maxLocals = 1 := hml0
  have hown : sS.vm.findClass "java/lang/AbstractStringBuilder" = some mM.cls := findClass_of_methodNamed Bd.named
  have hnm := (name_of_methodNamed Bd.named Bd.method).1
  have X0 : Stand pP l eE r0_0_0_0 sS mM #[(.ref o)] bS methS cC s₁ [] 0 0 := Stand.of_body Bd
  have e0 : s₁.heap = h0 := by rw [← hh, Bd.state]; rfl
  have N0 := Fr.nil n0
  obtain ⟨T101, X101, e101, st101⟩ := getF X0 hx hZ hown (host := "") (Or.inl (wi hw 42 rfl)) Via.refl e0 F_value_o (g := (mkF mM 1 #[.val (.ref o)] [(.ref o)])) rfl rfl (hb hby d68_64_1)
  obtain ⟨fs, hr, hrun, hended, hW, hsame⟩ := X101.leave (v := some (.ref b)) (fun h => by rw [Bd.returns] at h; cases h)
  refine ⟨_, _, castTop (ef_getValue mM o b) ?_, hrun, hended, _, _, rfl, ?_, ⟨_, rfl⟩, hW, hsame.mono (by decide) (by decide)⟩
  · show SS pP eE bS s₁ (mkF mM 0 #[.val (.ref o)] []) _
    refine XS.aloadN X0.here hx rfl (hb hby d68_64_0) rfl rfl ?_
    show SS pP eE bS s₁ (mkF mM 1 #[.val (.ref o)] [(.ref o)]) _
    refine st101 _ ?_
    show SS pP eE bS T101 (mkF mM 4 #[.val (.ref o)] [(.ref b)]) _
    jvm_step X101.here [X101.here.top, hx, (hb hby d68_64_4), X101.method', Bd.returns, Value.isRef, FieldType.isReference]
    first | (intro acts; rw [hr _ acts rfl rfl rfl]) | rw [hr _ _ rfl rfl rfl]
    exact Steps.refl _
  · show Q_getValue Z o b h0 n0 _ T101.heap _
    rw [e101]
    exact ⟨rfl, N0, rfl⟩
abbrev c68_6 := jdk_68_method_6_code
theorem d68_6_0 : decode c68_6 0 = .ok (.aload_n 0, 1) := by decide +kernel
theorem d68_6_1 : decode c68_6 1 = .ok (.getfield 79, 3) := by decide +kernel
theorem d68_6_4 : decode c68_6 4 = .ok (.ireturn, 1) := by decide +kernel
abbrev y18_ : MethodName := ⟨"java/lang/AbstractStringBuilder", "length", "()I"⟩
def Q_asb_length (Z : State) (o : Addr) (x : Int32) (h0 : Heap) (n0 : Nat) (xv : Option Value) (xh : Heap) (xL : List Loc) : Prop := xv = some (.int x) ∧ Fr n0 xL ∧ xh = h0
theorem ef_asb_length (mM : MethodId) (o : Addr) (x : Int32) : entryFrame mM #[(.ref o)] 1 = mkF mM 0 #[.val (.ref o)] [] := by
  first | (simp [entryFrame, mkF, argsToLocals, Value.category]; done) | rfl
theorem rm_asb_length (l : Launch) (Z : State) (a0 : Array Value) (hw : HW a0 Z) (ws : List Jvm.Cond) (o : Addr) (x : Int32) (h0 : Heap) (n0 : Nat) (Z0 : n0 ≤ h0.size) (F_count_o : Fld Z h0 o "java/lang/AbstractStringBuilder" "count" "I" (.int x)) :
    MetFree l y18_ (head1 (Jvm.Cond.code y18_ jdk_68_method_6_code 1 (some .int) :: ws) r0_0_0_0) (fun xa xU => xa = #[(.ref o)] ∧ Z.Warmed39 xU.vm ∧ xU.heap = h0) (fun _ _ _ _ _ => True) (fun _ xU xo xU' => ∃ xv xL, xo = .returned xv ∧ Q_asb_length Z o x h0 n0 xv xU'.heap xL ∧ FrameEnd xU xo xU' xL r0_0_0_0.cells r0_0_0_0.slots) := by
  refine MetFree.of_bodySF (plainFor_of_name pn_java_lang_AbstractStringBuilder) hisR ?_
  intro pP eE sS mM argS bS methS cC s₁ Bd hml0 hP hK
  obtain ⟨rfl, hZ, hh⟩ := hP
  have hx := Bd.exec
  have hby := Bd.bytes
  have hml : cC.maxLocals = 1 := hml0
  have hown : sS.vm.findClass "java/lang/AbstractStringBuilder" = some mM.cls := findClass_of_methodNamed Bd.named
  have hnm := (name_of_methodNamed Bd.named Bd.method).1
  have X0 : Stand pP l eE r0_0_0_0 sS mM #[(.ref o)] bS methS cC s₁ [] 0 0 := Stand.of_body Bd
  have e0 : s₁.heap = h0 := by rw [← hh, Bd.state]; rfl
  have N0 := Fr.nil n0
  obtain ⟨T101, X101, e101, st101⟩ := getF X0 hx hZ hown (host := "") (Or.inl (wi hw 68 rfl)) Via.refl e0 F_count_o (g := (mkF mM 1 #[.val (.ref o)] [(.ref o)])) rfl rfl (hb hby d68_6_1)
  obtain ⟨fs, hr, hrun, hended, hW, hsame⟩ := X101.leave (v := some (.int x)) (fun h => by rw [Bd.returns] at h; cases h)
  refine ⟨_, _, castTop (ef_asb_length mM o x) ?_, hrun, hended, _, _, rfl, ?_, ⟨_, rfl⟩, hW, hsame.mono (by decide) (by decide)⟩
  · show SS pP eE bS s₁ (mkF mM 0 #[.val (.ref o)] []) _
    refine XS.aloadN X0.here hx rfl (hb hby d68_6_0) rfl rfl ?_
    show SS pP eE bS s₁ (mkF mM 1 #[.val (.ref o)] [(.ref o)]) _
    refine st101 _ ?_
    show SS pP eE bS T101 (mkF mM 4 #[.val (.ref o)] [(.int x)]) _
    exact retI X101 hx Bd.returns (hb hby d68_6_4) hr
  · show Q_asb_length Z o x h0 n0 _ T101.heap _
    rw [e101]
    exact ⟨rfl, N0, rfl⟩
abbrev c67_93 := jdk_67_method_93_code
theorem d67_93_0 : decode c67_93 0 = .ok (.aload_n 0, 1) := by decide +kernel
theorem d67_93_1 : decode c67_93 1 = .ok (.invokespecial 343, 3) := by decide +kernel
theorem d67_93_4 : decode c67_93 4 = .ok (.ireturn, 1) := by decide +kernel
abbrev r1_0_0_12 : Room := { frames := 1, cells := 0, slots := 0, locals := 12 }
abbrev y19_ : MethodName := ⟨"java/lang/StringBuilder", "length", "()I"⟩
def Q_sb_length (Z : State) (o : Addr) (x : Int32) (h0 : Heap) (n0 : Nat) (xv : Option Value) (xh : Heap) (xL : List Loc) : Prop := xv = some (.int x) ∧ Fr n0 xL ∧ xh = h0
theorem ef_sb_length (mM : MethodId) (o : Addr) (x : Int32) : entryFrame mM #[(.ref o)] 1 = mkF mM 0 #[.val (.ref o)] [] := by
  first | (simp [entryFrame, mkF, argsToLocals, Value.category]; done) | rfl
theorem rm_sb_length (l : Launch) (Z : State) (a0 : Array Value) (hw : HW a0 Z) (ws : List Jvm.Cond) (o : Addr) (x : Int32) (h0 : Heap) (n0 : Nat) (Z0 : n0 ≤ h0.size) (E_o : Exa Z h0 o "java/lang/StringBuilder") (F_count_o : Fld Z h0 o "java/lang/AbstractStringBuilder" "count" "I" (.int x)) :
    MetFree l y19_ (head1 (Jvm.Cond.code y19_ jdk_67_method_93_code 1 (some .int) :: ws) r1_0_0_12) (fun xa xU => xa = #[(.ref o)] ∧ Z.Warmed39 xU.vm ∧ xU.heap = h0) (fun _ _ _ _ _ => True) (fun _ xU xo xU' => ∃ xv xL, xo = .returned xv ∧ Q_sb_length Z o x h0 n0 xv xU'.heap xL ∧ FrameEnd xU xo xU' xL r1_0_0_12.cells r1_0_0_12.slots) := by
  refine MetFree.of_bodySF (plainFor_of_name pn_java_lang_StringBuilder) hisR ?_
  intro pP eE sS mM argS bS methS cC s₁ Bd hml0 hP hK
  obtain ⟨rfl, hZ, hh⟩ := hP
  have hx := Bd.exec
  have hby := Bd.bytes
  have hml : cC.maxLocals = 1 := hml0
  have hown : sS.vm.findClass "java/lang/StringBuilder" = some mM.cls := findClass_of_methodNamed Bd.named
  have hnm := (name_of_methodNamed Bd.named Bd.method).1
  have X0 : Stand pP l eE r1_0_0_12 sS mM #[(.ref o)] bS methS cC s₁ [] 0 0 := Stand.of_body Bd
  have e0 : s₁.heap = h0 := by rw [← hh, Bd.state]; rfl
  have N0 := Fr.nil n0
  obtain ⟨_, _, ⟨T101, L101, k101, n101⟩, -, X101, ⟨Lc101, hQ101, l101, y101, z101⟩, st101⟩ := superBack X0 hx hZ (y := y18_) hown (wi hw 142 rfl) (own_same (y := y18_) (by decide) (wi hw 138 rfl) (own_nf (y := (⟨"java/lang/AbstractStringBuilder", "ensureCapacityInternal", "(I)V"⟩ : MethodName)) (z := (⟨"java/lang/AbstractStringBuilder", "length", "()I"⟩ : MethodName)) (notFace_of_selects (wi hw 73 rfl)) (Cond.code_named (wi hw 74 rfl)) rfl)) (wi hw 138 rfl) (wi hw 54 rfl) (by decide) (backOf (W := 0) (rm_asb_length l Z a0 hw [] o x h0 n0 (by omega) F_count_o) hZ (wi hw 143 rfl) (wi hw 38 rfl) (by decide) (by decide)) e0 (Ins.self E_o) (g := (mkF mM 1 #[.val (.ref o)] [(.ref o)])) rfl (by rw [hml]; rfl) (wi hw 143 rfl) (argsL := []) (rest := []) (lenOf pd_7 rfl) rfl (by show 2 * 0 + _ ≤ _; exact Nat.le_of_eq rfl) (hb hby d67_93_1) (fun _ _ => ⟨rfl, e0, ble rfl, ble rfl⟩)
  dsimp only [Pt.U, Pt.locs, Pt.cells, Pt.slots] at X101 l101 y101 z101 st101 hQ101
  subst y101 z101
  obtain ⟨h101, e101⟩ : ∃ z, T101.heap = z := ⟨_, rfl⟩
  rw [e101] at hQ101
  obtain ⟨rfl, N101q, eq101⟩ := hQ101
  rw [eq101] at e101
  have N101 : Fr n0 L101 := by rw [l101]; exact Fr.app N0 N101q
  obtain ⟨fs, hr, hrun, hended, hW, hsame⟩ := X101.leave (v := some (.int x)) (fun h => by rw [Bd.returns] at h; cases h)
  refine ⟨_, _, castTop (ef_sb_length mM o x) ?_, hrun, hended, _, _, rfl, ?_, ⟨_, rfl⟩, hW, hsame.mono (by decide) (by decide)⟩
  · show SS pP eE bS s₁ (mkF mM 0 #[.val (.ref o)] []) _
    refine XS.aloadN X0.here hx rfl (hb hby d67_93_0) rfl rfl ?_
    show SS pP eE bS s₁ (mkF mM 1 #[.val (.ref o)] [(.ref o)]) _
    refine st101.trans ?_
    show SS pP eE bS T101 (mkF mM 4 #[.val (.ref o)] [(.int x)]) _
    exact retI X101 hx Bd.returns (hb hby d67_93_4) hr
  · show Q_sb_length Z o x h0 n0 _ T101.heap _
    rw [e101]
    exact ⟨rfl, N101, rfl⟩
theorem d29_69_9 : decode c29_69 9 = .ok (.iload_n 1, 1) := by decide +kernel
def Q_min_r (Z : State) (x : Nat) (y : Nat) (h0 : Heap) (n0 : Nat) (xv : Option Value) (xh : Heap) (xL : List Loc) : Prop := xv = some (.int (iN y)) ∧ Fr n0 xL ∧ xh = h0
theorem ef_min_r (mM : MethodId) (x : Nat) (y : Nat) : entryFrame mM #[(.int (iN x)), (.int (iN y))] 2 = mkF mM 0 #[.val (.int (iN x)), .val (.int (iN y))] [] := by
  first | (simp [entryFrame, mkF, argsToLocals, Value.category]; done) | rfl
theorem rm_min_r (l : Launch) (Z : State) (a0 : Array Value) (hw : HW a0 Z) (ws : List Jvm.Cond) (x : Nat) (y : Nat) (h0 : Heap) (n0 : Nat) (Z0 : n0 ≤ h0.size) (hxy : y < x) (hy : x < 1000000) :
    MetFree l y10_ (head1 (Jvm.Cond.code y10_ jdk_29_method_69_code 2 (some .int) :: ws) r0_0_0_0) (fun xa xU => xa = #[(.int (iN x)), (.int (iN y))] ∧ Z.Warmed39 xU.vm ∧ xU.heap = h0) (fun _ _ _ _ _ => True) (fun _ xU xo xU' => ∃ xv xL, xo = .returned xv ∧ Q_min_r Z x y h0 n0 xv xU'.heap xL ∧ FrameEnd xU xo xU' xL r0_0_0_0.cells r0_0_0_0.slots) := by
  refine MetFree.of_bodySF (Jvm.Free.JP.mathPlain rfl (by decide +kernel)) hisR ?_
  intro pP eE sS mM argS bS methS cC s₁ Bd hml0 hP hK
  obtain ⟨rfl, hZ, hh⟩ := hP
  have hx := Bd.exec
  have hby := Bd.bytes
  have hml : cC.maxLocals = 2 := hml0
  have hown : sS.vm.findClass "java/lang/Math" = some mM.cls := findClass_of_methodNamed Bd.named
  have hnm := (name_of_methodNamed Bd.named Bd.method).1
  have X0 : Stand pP l eE r0_0_0_0 sS mM #[(.int (iN x)), (.int (iN y))] bS methS cC s₁ [] 0 0 := Stand.of_body Bd
  have e0 : s₁.heap = h0 := by rw [← hh, Bd.state]; rfl
  have N0 := Fr.nil n0
  obtain ⟨fs, hr, hrun, hended, hW, hsame⟩ := X0.leave (v := some (.int (iN y))) (fun h => by rw [Bd.returns] at h; cases h)
  refine ⟨_, _, castTop (ef_min_r mM x y) ?_, hrun, hended, _, _, rfl, ?_, ⟨_, rfl⟩, hW, hsame.mono (by decide) (by decide)⟩
  · show SS pP eE bS s₁ (mkF mM 0 #[.val (.int (iN x)), .val (.int (iN y))] []) _
    refine XS.iloadN X0.here hx rfl (hb hby d29_69_0) rfl ?_
    refine XS.iloadN X0.here hx rfl (hb hby d29_69_1) rfl ?_
    refine XS.icmpYes X0.here hx rfl (pc0 := 2) (pc' := 9) rfl (hb hby d29_69_2) rfl (tlt ((iN_lt (by omega) (by omega)).mpr hxy : (iN y) < (iN x))).2.2.1 (by decide) (by decide) ?_
    refine XS.iloadN X0.here hx rfl (hb hby d29_69_9) rfl ?_
    show SS pP eE bS s₁ (mkF mM 10 #[.val (.int (iN x)), .val (.int (iN y))] [(.int (iN y))]) _
    exact retI X0 hx Bd.returns (hb hby d29_69_10) hr
  · show Q_min_r Z x y h0 n0 _ s₁.heap _
    rw [e0]
    exact ⟨rfl, N0, rfl⟩
abbrev c65_131 := jdk_65_method_131_code
theorem d65_131_0 : decode c65_131 0 = .ok (.iload_n 1, 1) := by decide +kernel
theorem d65_131_1 : decode c65_131 1 = .ok (.iload_n 0, 1) := by decide +kernel
theorem d65_131_2 : decode c65_131 2 = .ok (.if_icmp .ge 35, 3) := by decide +kernel
theorem d65_131_37 : decode c65_131 37 = .ok (.return_, 1) := by decide +kernel
abbrev y20_ : MethodName := ⟨"java/util/Arrays", "checkLength", "(II)V"⟩
def Q_chkLen (Z : State) (n : Nat) (h0 : Heap) (n0 : Nat) (xv : Option Value) (xh : Heap) (xL : List Loc) : Prop := xv = none ∧ Fr n0 xL ∧ xh = h0
theorem ef_chkLen (mM : MethodId) (n : Nat) : entryFrame mM #[(.int (0 : Int32)), (.int (iN n))] 2 = mkF mM 0 #[.val (.int (0 : Int32)), .val (.int (iN n))] [] := by
  first | (simp [entryFrame, mkF, argsToLocals, Value.category]; done) | rfl
theorem rm_chkLen (l : Launch) (Z : State) (a0 : Array Value) (hw : HW a0 Z) (ws : List Jvm.Cond) (n : Nat) (h0 : Heap) (n0 : Nat) (Z0 : n0 ≤ h0.size) (hC : n ≤ 128) :
    MetFree l y20_ (head1 (Jvm.Cond.code y20_ jdk_65_method_131_code 2 none :: ws) r0_0_0_0) (fun xa xU => xa = #[(.int (0 : Int32)), (.int (iN n))] ∧ Z.Warmed39 xU.vm ∧ xU.heap = h0) (fun _ _ _ _ _ => True) (fun _ xU xo xU' => ∃ xv xL, xo = .returned xv ∧ Q_chkLen Z n h0 n0 xv xU'.heap xL ∧ FrameEnd xU xo xU' xL r0_0_0_0.cells r0_0_0_0.slots) := by
  refine MetFree.of_bodySF (plainFor_of_name pn_java_util_Arrays) hisR ?_
  intro pP eE sS mM argS bS methS cC s₁ Bd hml0 hP hK
  obtain ⟨rfl, hZ, hh⟩ := hP
  have hx := Bd.exec
  have hby := Bd.bytes
  have hml : cC.maxLocals = 2 := hml0
  have hown : sS.vm.findClass "java/util/Arrays" = some mM.cls := findClass_of_methodNamed Bd.named
  have hnm := (name_of_methodNamed Bd.named Bd.method).1
  have X0 : Stand pP l eE r0_0_0_0 sS mM #[(.int (0 : Int32)), (.int (iN n))] bS methS cC s₁ [] 0 0 := Stand.of_body Bd
  have e0 : s₁.heap = h0 := by rw [← hh, Bd.state]; rfl
  have N0 := Fr.nil n0
  obtain ⟨fs, hr, hrun, hended, hW, hsame⟩ := X0.leave (v := none) (fun _ => rfl)
  refine ⟨_, _, castTop (ef_chkLen mM n) ?_, hrun, hended, _, _, rfl, ?_, ⟨_, rfl⟩, hW, hsame.mono (by decide) (by decide)⟩
  · show SS pP eE bS s₁ (mkF mM 0 #[.val (.int (0 : Int32)), .val (.int (iN n))] []) _
    refine XS.iloadN X0.here hx rfl (hb hby d65_131_0) rfl ?_
    refine XS.iloadN X0.here hx rfl (hb hby d65_131_1) rfl ?_
    refine XS.icmpYes X0.here hx rfl (pc0 := 2) (pc' := 37) rfl (hb hby d65_131_2) rfl (flt (iN_nn (by omega) : ¬ ((iN n) < (0 : Int32)))).2.1 (by decide) (by decide) ?_
    show SS pP eE bS s₁ (mkF mM 37 #[.val (.int (0 : Int32)), .val (.int (iN n))] []) _
    exact X0.returnOut hx Bd.returns (hb hby d65_131_37) hr
  · show Q_chkLen Z n h0 n0 _ s₁.heap _
    rw [e0]
    exact ⟨rfl, N0, rfl⟩
abbrev c65_133 := jdk_65_method_133_code
theorem d65_133_0 : decode c65_133 0 = .ok (.iload_n 1, 1) := by decide +kernel
theorem d65_133_1 : decode c65_133 1 = .ok (.iload_n 2, 1) := by decide +kernel
theorem d65_133_2 : decode c65_133 2 = .ok (.invokestatic 343, 3) := by decide +kernel
theorem pd_23 : parseMethodDescriptor "(II)V" = some ⟨[.int, .int], none⟩ := by decide +kernel
theorem d65_133_5 : decode c65_133 5 = .ok (.iload_n 2, 1) := by decide +kernel
theorem d65_133_6 : decode c65_133 6 = .ok (.iload_n 1, 1) := by decide +kernel
theorem d65_133_7 : decode c65_133 7 = .ok (.isub, 1) := by decide +kernel
theorem d65_133_8 : decode c65_133 8 = .ok (.istore_n 3, 1) := by decide +kernel
theorem d65_133_9 : decode c65_133 9 = .ok (.iload_n 3, 1) := by decide +kernel
theorem d65_133_10 : decode c65_133 10 = .ok (.newarray .byte, 2) := by decide +kernel
theorem d65_133_12 : decode c65_133 12 = .ok (.astore 4, 2) := by decide +kernel
theorem d65_133_14 : decode c65_133 14 = .ok (.aload_n 0, 1) := by decide +kernel
theorem d65_133_15 : decode c65_133 15 = .ok (.iload_n 1, 1) := by decide +kernel
theorem d65_133_16 : decode c65_133 16 = .ok (.aload 4, 2) := by decide +kernel
theorem d65_133_18 : decode c65_133 18 = .ok (.iconst 0, 1) := by decide +kernel
theorem d65_133_19 : decode c65_133 19 = .ok (.aload_n 0, 1) := by decide +kernel
theorem d65_133_20 : decode c65_133 20 = .ok (.arraylength, 1) := by decide +kernel
theorem d65_133_21 : decode c65_133 21 = .ok (.iload_n 1, 1) := by decide +kernel
theorem d65_133_22 : decode c65_133 22 = .ok (.isub, 1) := by decide +kernel
theorem d65_133_23 : decode c65_133 23 = .ok (.iload_n 3, 1) := by decide +kernel
theorem d65_133_24 : decode c65_133 24 = .ok (.invokestatic 304, 3) := by decide +kernel
theorem d65_133_27 : decode c65_133 27 = .ok (.invokestatic 150, 3) := by decide +kernel
theorem d65_133_30 : decode c65_133 30 = .ok (.aload 4, 2) := by decide +kernel
theorem d65_133_32 : decode c65_133 32 = .ok (.areturn, 1) := by decide +kernel
abbrev y21_ : MethodName := ⟨"java/util/Arrays", "copyOfRangeByte", "([BII)[B"⟩
def Q_corb (Z : State) (b : Addr) (k : ClassId) (cap : Nat) (n : Nat) (xs : List Value) (h0 : Heap) (n0 : Nat) (xv : Option Value) (xh : Heap) (xL : List Loc) : Prop := ∃ b2 : Addr, ∃ k2 : ClassId, xv = some (.ref b2) ∧ Fr n0 xL ∧ Keep h0 xh [] ∧ Arv Z xh b2 k2 .byte (iN n) xs (.int (0 : Int32)) ∧ @LE.le Nat _ h0.size b2
abbrev Lc_corb_0 (b : Addr) (n : Nat) : Array Slot := #[.val (.ref b), .val (.int (0 : Int32)), .val (.int (iN n)), .unset, .unset]
abbrev Lc_corb_1 (b : Addr) (n : Nat) : Array Slot := #[.val (.ref b), .val (.int (0 : Int32)), .val (.int (iN n)), .val (.int (iN n)), .unset]
abbrev Lc_corb_2 (b : Addr) (n : Nat) (b102 : Addr) : Array Slot := #[.val (.ref b), .val (.int (0 : Int32)), .val (.int (iN n)), .val (.int (iN n)), .val (.ref b102)]
theorem ef_corb (mM : MethodId) (b : Addr) (k : ClassId) (cap : Nat) (n : Nat) (xs : List Value) : entryFrame mM #[(.ref b), (.int (0 : Int32)), (.int (iN n))] 5 = mkF mM 0 #[.val (.ref b), .val (.int (0 : Int32)), .val (.int (iN n)), .unset, .unset] [] := by
  first | (simp [entryFrame, mkF, argsToLocals, Value.category]; done) | rfl
theorem rm_corb (l : Launch) (Z : State) (a0 : Array Value) (hw : HW a0 Z) (ws : List Jvm.Cond) (b : Addr) (k : ClassId) (cap : Nat) (n : Nat) (xs : List Value) (h0 : Heap) (n0 : Nat) (Z0 : n0 ≤ h0.size) (V_b : Arv Z h0 b k .byte (iN cap) xs (.int (0 : Int32))) (hn : xs.length = n) (hB : n < cap ∧ cap ≤ 128) :
    MetFree l y21_ (head1 (Jvm.Cond.code y21_ jdk_65_method_133_code 5 (some (.array .byte)) :: ws) r1_1_128_18) (fun xa xU => xa = #[(.ref b), (.int (0 : Int32)), (.int (iN n))] ∧ Z.Warmed39 xU.vm ∧ xU.heap = h0) (fun _ _ _ _ _ => True) (fun _ xU xo xU' => ∃ xv xL, xo = .returned xv ∧ Q_corb Z b k cap n xs h0 n0 xv xU'.heap xL ∧ FrameEnd xU xo xU' xL r1_1_128_18.cells r1_1_128_18.slots) := by
  refine MetFree.of_bodySF (plainFor_of_name pn_java_util_Arrays) hisR ?_
  intro pP eE sS mM argS bS methS cC s₁ Bd hml0 hP hK
  obtain ⟨rfl, hZ, hh⟩ := hP
  have hx := Bd.exec
  have hby := Bd.bytes
  have hml : cC.maxLocals = 5 := hml0
  have hown : sS.vm.findClass "java/util/Arrays" = some mM.cls := findClass_of_methodNamed Bd.named
  have hnm := (name_of_methodNamed Bd.named Bd.method).1
  have X0 : Stand pP l eE r1_1_128_18 sS mM #[(.ref b), (.int (0 : Int32)), (.int (iN n))] bS methS cC s₁ [] 0 0 := Stand.of_body Bd
  have e0 : s₁.heap = h0 := by rw [← hh, Bd.state]; rfl
  have N0 := Fr.nil n0
  obtain ⟨_, _, ⟨T101, L101, k101, n101⟩, -, X101, ⟨Lc101, hQ101, l101, y101, z101⟩, st101⟩ := Jvm.LawKit.callS X0 hx (y := y20_) hown (mvT hZ (wi hw 155 rfl)) (mvT hZ (wi hw 156 rfl)) (mvT hZ (wi hw 113 rfl)) (mvT hZ (wi hw 157 rfl)) (by decide) (backOf (W := 0) (rm_chkLen l Z a0 hw [] n h0 n0 (by omega) (by omega)) hZ (wi hw 157 rfl) (wi hw 113 rfl) (by decide) (by decide)) (g := (mkF mM 2 (Lc_corb_0 b n) [(.int (iN n)), (.int (0 : Int32))])) rfl (by rw [hml]; rfl) (argsL := [(.int (0 : Int32)), (.int (iN n))]) (rest := []) (lenOf pd_23 rfl) rfl (by show 2 * 0 + _ ≤ _; exact Nat.le_of_eq rfl) (hb hby d65_133_2) (fun _ _ => ⟨rfl, e0, ble rfl, ble rfl⟩)
  dsimp only [Pt.U, Pt.locs, Pt.cells, Pt.slots] at X101 l101 y101 z101 st101 hQ101
  subst y101 z101
  obtain ⟨h101, e101⟩ : ∃ z, T101.heap = z := ⟨_, rfl⟩
  rw [e101] at hQ101
  obtain ⟨rfl, N101q, eq101⟩ := hQ101
  rw [eq101] at e101
  have N101 : Fr n0 L101 := by rw [l101]; exact Fr.app N0 N101q
  obtain ⟨T102, h102, k102, X102, e102, E102, A102, st102⟩ := newP X101 hx hZ (wi hw 15 rfl) e101 (g := (mkF mM 10 (Lc_corb_1 b n) [(.int (iN n))])) rfl (hb hby d65_133_10) rfl (iN_nn (by omega)) (cap := 128) (by rw [iN_nat (by omega)]; omega) (by decide) (by decide) (by decide)
  obtain ⟨b102, g102⟩ : ∃ z : Nat, z = h0.size := ⟨_, rfl⟩
  rw [← g102] at A102 st102
  have Sz1 : h0.size ≤ h102.size := E102.1
  have V_b102 : Arv Z h102 b102 k102 .byte (iN n) [] (.int (0 : Int32)) := Arv.new A102 (iN_nn (by omega))
  have c103_V_b : Arv Z h102 b k .byte (iN cap) xs (.int (0 : Int32)) := V_b.ext E102
  obtain ⟨cl104, Ar104, q104, S104, Ng104, Ha104, Ga104⟩ := id c103_V_b
  obtain ⟨_, _, ⟨T105, L105, k105, n105⟩, -, X105, ⟨Lc105, hQ105, l105, y105, z105⟩, st105⟩ := Jvm.LawKit.callS X102 hx (y := y10_) hown (mvT hZ (wi hw 115 rfl)) (mvT hZ (wi hw 116 rfl)) (mvT hZ (wi hw 107 rfl)) (mvT hZ (wi hw 117 rfl)) (by decide) (backOf (W := 4) (rm_min_r l Z a0 hw [] cap n h102 n0 (by omega) (hB.1) (by omega)) hZ (wi hw 117 rfl) (wi hw 107 rfl) (by decide) (by decide)) (g := (mkF mM 24 (Lc_corb_2 b n b102) [(.int (iN n)), (.int (iN cap)), (.int (0 : Int32)), (.ref b102), (.int (0 : Int32)), (.ref b)])) rfl (by rw [hml]; rfl) (argsL := [(.int (iN cap)), (.int (iN n))]) (rest := [(.int (0 : Int32)), (.ref b102), (.int (0 : Int32)), (.ref b)]) (lenOf pd_15 rfl) rfl (by show 2 * 0 + _ ≤ _; exact Nat.le_of_eq rfl) (hb hby d65_133_24) (fun _ _ => ⟨rfl, e102, ble rfl, ble rfl⟩)
  dsimp only [Pt.U, Pt.locs, Pt.cells, Pt.slots] at X105 l105 y105 z105 st105 hQ105
  subst y105 z105
  obtain ⟨h105, e105⟩ : ∃ z, T105.heap = z := ⟨_, rfl⟩
  rw [e105] at hQ105
  obtain ⟨rfl, N105q, eq105⟩ := hQ105
  rw [eq105] at e105
  have N105 : Fr n0 L105 := by rw [l105]; exact Fr.app N101 N105q
  have ge106_b102 : @LE.le Nat _ n0 b102 := by omega
  obtain ⟨T107, h107, L107, X107, e107, N107, Kc107, Vc107, st107⟩ := cpAll X105 hx hZ hown (wi hw 118 rfl) (wi hw 94 rfl) (wi hw 92 rfl) (wi hw 93 rfl) e105 c103_V_b V_b102 rfl (by omega) (by rw [iN_nat (by omega)]; omega) (by rw [iN_nat (by omega)]; omega) (by omega) N105 ge106_b102 (g := (mkF mM 27 (Lc_corb_2 b n b102) [(.int (iN n)), (.int (0 : Int32)), (.ref b102), (.int (0 : Int32)), (.ref b)])) rfl (by rw [hml]; rfl) rfl (hb hby d65_133_27) (by decide) (W := 0) (by show 2 * 0 + _ ≤ _; exact Nat.le_of_eq rfl) (by decide)
  have Sz2 : h102.size ≤ h107.size := Kc107.1
  have K108 : Keep h0 h102 [] := (Keep.refl h0 []).ext E102
  have K109 : Keep h0 h107 [] := K108.trans Kc107 (allS (Or.inr (by omega : @LE.le Nat _ h0.size b102)) all0)
  obtain ⟨fs, hr, hrun, hended, hW, hsame⟩ := X107.leave (v := some (.ref b102)) (fun h => by rw [Bd.returns] at h; cases h)
  refine ⟨_, _, castTop (ef_corb mM b k cap n xs) ?_, hrun, hended, _, _, rfl, ?_, ⟨_, rfl⟩, hW, hsame.mono (by decide) (by decide)⟩
  · show SS pP eE bS s₁ (mkF mM 0 (Lc_corb_0 b n) []) _
    refine XS.iloadN X0.here hx rfl (hb hby d65_133_0) rfl ?_
    refine XS.iloadN X0.here hx rfl (hb hby d65_133_1) rfl ?_
    show SS pP eE bS s₁ (mkF mM 2 (Lc_corb_0 b n) [(.int (iN n)), (.int (0 : Int32))]) _
    refine st101 _ ?_
    show SS pP eE bS T101 (mkF mM 5 (Lc_corb_0 b n) []) _
    refine XS.iloadN X101.here hx rfl (hb hby d65_133_5) rfl ?_
    refine XS.iloadN X101.here hx rfl (hb hby d65_133_6) rfl ?_
    refine XS.isub X101.here hx rfl (hb hby d65_133_7) rfl ?_
    show SS pP eE bS T101 (mkF mM 8 (Lc_corb_0 b n) [(.int ((iN n) - (0 : Int32)))]) _
    rw [show ((iN n) - (0 : Int32)) = (iN n) from Int32.sub_zero _]
    refine XS.istoreN X101.here hx rfl (hb hby d65_133_8) rfl (l' := (Lc_corb_1 b n)) rfl ?_
    refine XS.iloadN X101.here hx rfl (hb hby d65_133_9) rfl ?_
    show SS pP eE bS T101 (mkF mM 10 (Lc_corb_1 b n) [(.int (iN n))]) _
    refine st102 _ ?_
    show SS pP eE bS T102 (mkF mM 12 (Lc_corb_1 b n) [(.ref b102)]) _
    refine XS.astore X102.here hx rfl (hb hby d65_133_12) rfl rfl (l' := (Lc_corb_2 b n b102)) rfl ?_
    refine XS.aloadN X102.here hx rfl (hb hby d65_133_14) rfl rfl ?_
    refine XS.iloadN X102.here hx rfl (hb hby d65_133_15) rfl ?_
    refine XS.aload X102.here hx rfl (hb hby d65_133_16) rfl rfl ?_
    show SS pP eE bS T102 (mkF mM 18 (Lc_corb_2 b n b102) [(.ref b102), (.int (0 : Int32)), (.ref b)]) _
    refine XS.iconst X102.here hx rfl (hb hby d65_133_18) ?_
    refine XS.aloadN X102.here hx rfl (hb hby d65_133_19) rfl rfl ?_
    show SS pP eE bS T102 (mkF mM 20 (Lc_corb_2 b n b102) [(.ref b), (.int (0 : Int32)), (.ref b102), (.int (0 : Int32)), (.ref b)]) _
    refine X102.arraylength hx (by rw [e102]; exact Ar104.1) (State.isArrayOf_alike hZ.alike Ar104.2.1) (g := (mkF mM 20 (Lc_corb_2 b n b102) [(.ref b), (.int (0 : Int32)), (.ref b102), (.int (0 : Int32)), (.ref b)])) rfl rfl (hb hby d65_133_20) _ ?_
    rw [len_of S104 Ng104]
    show SS pP eE bS T102 (mkF mM 21 (Lc_corb_2 b n b102) [(.int (iN cap)), (.int (0 : Int32)), (.ref b102), (.int (0 : Int32)), (.ref b)]) _
    refine XS.iloadN X102.here hx rfl (hb hby d65_133_21) rfl ?_
    refine XS.isub X102.here hx rfl (hb hby d65_133_22) rfl ?_
    show SS pP eE bS T102 (mkF mM 23 (Lc_corb_2 b n b102) [(.int ((iN cap) - (0 : Int32))), (.int (0 : Int32)), (.ref b102), (.int (0 : Int32)), (.ref b)]) _
    rw [show ((iN cap) - (0 : Int32)) = (iN cap) from Int32.sub_zero _]
    refine XS.iloadN X102.here hx rfl (hb hby d65_133_23) rfl ?_
    show SS pP eE bS T102 (mkF mM 24 (Lc_corb_2 b n b102) [(.int (iN n)), (.int (iN cap)), (.int (0 : Int32)), (.ref b102), (.int (0 : Int32)), (.ref b)]) _
    refine st105 _ ?_
    show SS pP eE bS T105 (mkF mM 27 (Lc_corb_2 b n b102) [(.int (iN n)), (.int (0 : Int32)), (.ref b102), (.int (0 : Int32)), (.ref b)]) _
    refine st107 _ ?_
    show SS pP eE bS T107 (mkF mM 30 (Lc_corb_2 b n b102) []) _
    refine XS.aload X107.here hx rfl (hb hby d65_133_30) rfl rfl ?_
    show SS pP eE bS T107 (mkF mM 32 (Lc_corb_2 b n b102) [(.ref b102)]) _
    jvm_step X107.here [X107.here.top, hx, (hb hby d65_133_32), X107.method', Bd.returns, Value.isRef, FieldType.isReference]
    first | (intro acts; rw [hr _ acts rfl rfl rfl]) | rw [hr _ _ rfl rfl rfl]
    exact Steps.refl _
  · show Q_corb Z b k cap n xs h0 n0 _ T107.heap _
    rw [e107]
    exact ⟨b102, k102, rfl, N107, K109, Vc107, (by omega)⟩
abbrev c65_132 := jdk_65_method_132_code
theorem d65_132_0 : decode c65_132 0 = .ok (.iload_n 1, 1) := by decide +kernel
theorem d65_132_1 : decode c65_132 1 = .ok (.ifCond .ne 9, 3) := by decide +kernel
theorem d65_132_4 : decode c65_132 4 = .ok (.iload_n 2, 1) := by decide +kernel
theorem d65_132_5 : decode c65_132 5 = .ok (.aload_n 0, 1) := by decide +kernel
theorem d65_132_6 : decode c65_132 6 = .ok (.arraylength, 1) := by decide +kernel
theorem d65_132_7 : decode c65_132 7 = .ok (.if_icmp .eq 10, 3) := by decide +kernel
theorem d65_132_10 : decode c65_132 10 = .ok (.aload_n 0, 1) := by decide +kernel
theorem d65_132_11 : decode c65_132 11 = .ok (.iload_n 1, 1) := by decide +kernel
theorem d65_132_12 : decode c65_132 12 = .ok (.iload_n 2, 1) := by decide +kernel
theorem d65_132_13 : decode c65_132 13 = .ok (.invokestatic 339, 3) := by decide +kernel
theorem pd_22 : parseMethodDescriptor "([BII)[B" = some ⟨[(.array .byte), .int, .int], some (.array .byte)⟩ := by decide +kernel
theorem d65_132_16 : decode c65_132 16 = .ok (.areturn, 1) := by decide +kernel
abbrev r2_1_128_34 : Room := { frames := 2, cells := 1, slots := 128, locals := 34 }
abbrev y22_ : MethodName := ⟨"java/util/Arrays", "copyOfRange", "([BII)[B"⟩
def Q_cor (Z : State) (b : Addr) (k : ClassId) (cap : Nat) (n : Nat) (xs : List Value) (h0 : Heap) (n0 : Nat) (xv : Option Value) (xh : Heap) (xL : List Loc) : Prop := ∃ b2 : Addr, ∃ k2 : ClassId, xv = some (.ref b2) ∧ Fr n0 xL ∧ Keep h0 xh [] ∧ Arv Z xh b2 k2 .byte (iN n) xs (.int (0 : Int32)) ∧ @LE.le Nat _ h0.size b2
theorem ef_cor (mM : MethodId) (b : Addr) (k : ClassId) (cap : Nat) (n : Nat) (xs : List Value) : entryFrame mM #[(.ref b), (.int (0 : Int32)), (.int (iN n))] 3 = mkF mM 0 #[.val (.ref b), .val (.int (0 : Int32)), .val (.int (iN n))] [] := by
  first | (simp [entryFrame, mkF, argsToLocals, Value.category]; done) | rfl
theorem rm_cor (l : Launch) (Z : State) (a0 : Array Value) (hw : HW a0 Z) (ws : List Jvm.Cond) (b : Addr) (k : ClassId) (cap : Nat) (n : Nat) (xs : List Value) (h0 : Heap) (n0 : Nat) (Z0 : n0 ≤ h0.size) (V_b : Arv Z h0 b k .byte (iN cap) xs (.int (0 : Int32))) (hn : xs.length = n) (hB : n < cap ∧ cap ≤ 128) :
    MetFree l y22_ (head1 (Jvm.Cond.code y22_ jdk_65_method_132_code 3 (some (.array .byte)) :: ws) r2_1_128_34) (fun xa xU => xa = #[(.ref b), (.int (0 : Int32)), (.int (iN n))] ∧ Z.Warmed39 xU.vm ∧ xU.heap = h0) (fun _ _ _ _ _ => True) (fun _ xU xo xU' => ∃ xv xL, xo = .returned xv ∧ Q_cor Z b k cap n xs h0 n0 xv xU'.heap xL ∧ FrameEnd xU xo xU' xL r2_1_128_34.cells r2_1_128_34.slots) := by
  refine MetFree.of_bodySF (plainFor_of_name pn_java_util_Arrays) hisR ?_
  intro pP eE sS mM argS bS methS cC s₁ Bd hml0 hP hK
  obtain ⟨rfl, hZ, hh⟩ := hP
  have hx := Bd.exec
  have hby := Bd.bytes
  have hml : cC.maxLocals = 3 := hml0
  have hown : sS.vm.findClass "java/util/Arrays" = some mM.cls := findClass_of_methodNamed Bd.named
  have hnm := (name_of_methodNamed Bd.named Bd.method).1
  have X0 : Stand pP l eE r2_1_128_34 sS mM #[(.ref b), (.int (0 : Int32)), (.int (iN n))] bS methS cC s₁ [] 0 0 := Stand.of_body Bd
  have e0 : s₁.heap = h0 := by rw [← hh, Bd.state]; rfl
  have N0 := Fr.nil n0
  obtain ⟨cl101, Ar101, q101, S101, Ng101, Ha101, Ga101⟩ := id V_b
  obtain ⟨_, _, ⟨T102, L102, k102, n102⟩, -, X102, ⟨Lc102, hQ102, l102, y102, z102⟩, st102⟩ := Jvm.LawKit.callS X0 hx (y := y21_) hown (mvT hZ (wi hw 152 rfl)) (mvT hZ (wi hw 153 rfl)) (mvT hZ (wi hw 113 rfl)) (mvT hZ (wi hw 154 rfl)) (by decide) (backOf (W := 0) (rm_corb l Z a0 hw [] b k cap n xs h0 n0 (by omega) V_b hn hB) hZ (wi hw 154 rfl) (wi hw 113 rfl) (by decide) (by decide)) (g := (mkF mM 13 #[.val (.ref b), .val (.int (0 : Int32)), .val (.int (iN n))] [(.int (iN n)), (.int (0 : Int32)), (.ref b)])) rfl (by rw [hml]; rfl) (argsL := [(.ref b), (.int (0 : Int32)), (.int (iN n))]) (rest := []) (lenOf pd_22 rfl) rfl (by show 2 * 0 + _ ≤ _; exact Nat.le_of_eq rfl) (hb hby d65_132_13) (fun _ _ => ⟨rfl, e0, ble rfl, ble rfl⟩)
  dsimp only [Pt.U, Pt.locs, Pt.cells, Pt.slots] at X102 l102 y102 z102 st102 hQ102
  subst y102 z102
  obtain ⟨h102, e102⟩ : ∃ z, T102.heap = z := ⟨_, rfl⟩
  rw [e102] at hQ102
  obtain ⟨b2_102, k2_102, rfl, N102q, Kp102, p102_V_b2, p102_gh_b2⟩ := hQ102
  have Sz1 : h0.size ≤ h102.size := Kp102.1
  have N102 : Fr n0 L102 := by rw [l102]; exact Fr.app N0 N102q
  have K103 : Keep h0 h102 [] := (Keep.refl h0 []).trans Kp102 all0
  obtain ⟨fs, hr, hrun, hended, hW, hsame⟩ := X102.leave (v := some (.ref b2_102)) (fun h => by rw [Bd.returns] at h; cases h)
  refine ⟨_, _, castTop (ef_cor mM b k cap n xs) ?_, hrun, hended, _, _, rfl, ?_, ⟨_, rfl⟩, hW, hsame.mono (by decide) (by decide)⟩
  · show SS pP eE bS s₁ (mkF mM 0 #[.val (.ref b), .val (.int (0 : Int32)), .val (.int (iN n))] []) _
    refine XS.iloadN X0.here hx rfl (hb hby d65_132_0) rfl ?_
    refine XS.ifNo X0.here hx rfl (hb hby d65_132_1) rfl ((if0 _ _).trans (teq (by decide : (0 : Int32) = (0 : Int32))).2) ?_
    refine XS.iloadN X0.here hx rfl (hb hby d65_132_4) rfl ?_
    refine XS.aloadN X0.here hx rfl (hb hby d65_132_5) rfl rfl ?_
    show SS pP eE bS s₁ (mkF mM 6 #[.val (.ref b), .val (.int (0 : Int32)), .val (.int (iN n))] [(.ref b), (.int (iN n))]) _
    refine X0.arraylength hx (by rw [e0]; exact Ar101.1) (State.isArrayOf_alike hZ.alike Ar101.2.1) (g := (mkF mM 6 #[.val (.ref b), .val (.int (0 : Int32)), .val (.int (iN n))] [(.ref b), (.int (iN n))])) rfl rfl (hb hby d65_132_6) _ ?_
    rw [len_of S101 Ng101]
    show SS pP eE bS s₁ (mkF mM 7 #[.val (.ref b), .val (.int (0 : Int32)), .val (.int (iN n))] [(.int (iN cap)), (.int (iN n))]) _
    refine XS.icmpNo X0.here hx rfl (hb hby d65_132_7) rfl (feq (fun q => absurd ((iN_eq (by omega) (by omega)).mp q) (by omega) : ¬ ((iN n) = (iN cap)))).1 ?_
    refine XS.aloadN X0.here hx rfl (hb hby d65_132_10) rfl rfl ?_
    refine XS.iloadN X0.here hx rfl (hb hby d65_132_11) rfl ?_
    refine XS.iloadN X0.here hx rfl (hb hby d65_132_12) rfl ?_
    show SS pP eE bS s₁ (mkF mM 13 #[.val (.ref b), .val (.int (0 : Int32)), .val (.int (iN n))] [(.int (iN n)), (.int (0 : Int32)), (.ref b)]) _
    refine st102 _ ?_
    show SS pP eE bS T102 (mkF mM 16 #[.val (.ref b), .val (.int (0 : Int32)), .val (.int (iN n))] [(.ref b2_102)]) _
    jvm_step X102.here [X102.here.top, hx, (hb hby d65_132_16), X102.method', Bd.returns, Value.isRef, FieldType.isReference]
    first | (intro acts; rw [hr _ acts rfl rfl rfl]) | rw [hr _ _ rfl rfl rfl]
    exact Steps.refl _
  · show Q_cor Z b k cap n xs h0 n0 _ T102.heap _
    rw [e102]
    exact ⟨b2_102, k2_102, rfl, N102, K103, p102_V_b2, (by omega)⟩
abbrev c42_150 := jdk_42_method_150_code
theorem d42_150_0 : decode c42_150 0 = .ok (.aload_n 0, 1) := by decide +kernel
theorem d42_150_1 : decode c42_150 1 = .ok (.invokespecial 1, 3) := by decide +kernel
theorem d42_150_4 : decode c42_150 4 = .ok (.aload_n 1, 1) := by decide +kernel
theorem d42_150_5 : decode c42_150 5 = .ok (.invokevirtual 552, 3) := by decide +kernel
theorem pd_20 : parseMethodDescriptor "()[B" = some ⟨[], some (.array .byte)⟩ := by decide +kernel
theorem d42_150_8 : decode c42_150 8 = .ok (.astore_n 3, 1) := by decide +kernel
theorem d42_150_9 : decode c42_150 9 = .ok (.aload_n 1, 1) := by decide +kernel
theorem d42_150_10 : decode c42_150 10 = .ok (.invokevirtual 549, 3) := by decide +kernel
theorem d42_150_13 : decode c42_150 13 = .ok (.istore 4, 2) := by decide +kernel
theorem d42_150_15 : decode c42_150 15 = .ok (.aload_n 1, 1) := by decide +kernel
theorem d42_150_16 : decode c42_150 16 = .ok (.invokevirtual 1047, 3) := by decide +kernel
theorem d42_150_19 : decode c42_150 19 = .ok (.ifCond .eq 22, 3) := by decide +kernel
theorem d42_150_22 : decode c42_150 22 = .ok (.aload_n 0, 1) := by decide +kernel
theorem d42_150_23 : decode c42_150 23 = .ok (.iconst 0, 1) := by decide +kernel
theorem d42_150_24 : decode c42_150 24 = .ok (.putfield 15, 3) := by decide +kernel
theorem d42_150_27 : decode c42_150 27 = .ok (.aload_n 0, 1) := by decide +kernel
theorem d42_150_28 : decode c42_150 28 = .ok (.aload_n 3, 1) := by decide +kernel
theorem d42_150_29 : decode c42_150 29 = .ok (.iconst 0, 1) := by decide +kernel
theorem d42_150_30 : decode c42_150 30 = .ok (.iload 4, 2) := by decide +kernel
theorem d42_150_32 : decode c42_150 32 = .ok (.invokestatic 54, 3) := by decide +kernel
theorem d42_150_35 : decode c42_150 35 = .ok (.putfield 9, 3) := by decide +kernel
theorem d42_150_38 : decode c42_150 38 = .ok (.goto 59, 3) := by decide +kernel
theorem d42_150_97 : decode c42_150 97 = .ok (.return_, 1) := by decide +kernel
abbrev r3_1_128_49 : Room := { frames := 3, cells := 1, slots := 128, locals := 49 }
abbrev y23_ : MethodName := ⟨"java/lang/String", "<init>", "(Ljava/lang/AbstractStringBuilder;Ljava/lang/Void;)V"⟩
def Q_str_asb (Z : State) (t : Addr) (o : Addr) (b : Addr) (k : ClassId) (cap : Nat) (n : Nat) (xs : List Value) (w1 : Value) (w2 : Value) (cs : Int32) (h0 : Heap) (n0 : Nat) (xv : Option Value) (xh : Heap) (xL : List Loc) : Prop := ∃ b2 : Addr, ∃ k2 : ClassId, xv = none ∧ Fr n0 xL ∧ Keep h0 xh [t] ∧ Exa Z xh t "java/lang/String" ∧ Fld Z xh t "java/lang/String" "value" "[B" (.ref b2) ∧ Fld Z xh t "java/lang/String" "coder" "B" (.int (0 : Int32)) ∧ Arv Z xh b2 k2 .byte (iN n) xs (.int (0 : Int32)) ∧ @LE.le Nat _ h0.size b2
abbrev Lc_str_asb_0 (t : Addr) (o : Addr) (b : Addr) (n : Nat) : Array Slot := #[.val (.ref t), .val (.ref o), .val .null, .val (.ref b), .val (.int (iN n))]
theorem ef_str_asb (mM : MethodId) (t : Addr) (o : Addr) (b : Addr) (k : ClassId) (cap : Nat) (n : Nat) (xs : List Value) (w1 : Value) (w2 : Value) (cs : Int32) : entryFrame mM #[(.ref t), (.ref o), .null] 5 = mkF mM 0 #[.val (.ref t), .val (.ref o), .val .null, .unset, .unset] [] := by
  first | (simp [entryFrame, mkF, argsToLocals, Value.category]; done) | rfl
theorem rm_str_asb (l : Launch) (Z : State) (a0 : Array Value) (hw : HW a0 Z) (ws : List Jvm.Cond) (t : Addr) (o : Addr) (b : Addr) (k : ClassId) (cap : Nat) (n : Nat) (xs : List Value) (w1 : Value) (w2 : Value) (cs : Int32) (h0 : Heap) (n0 : Nat) (Z0 : n0 ≤ h0.size) (E_t : Exa Z h0 t "java/lang/String") (F_value_t : Fld Z h0 t "java/lang/String" "value" "[B" w1) (F_coder_t : Fld Z h0 t "java/lang/String" "coder" "B" w2) (E_o : Exa Z h0 o "java/lang/StringBuilder") (F_value_o : Fld Z h0 o "java/lang/AbstractStringBuilder" "value" "[B" (.ref b)) (F_coder_o : Fld Z h0 o "java/lang/AbstractStringBuilder" "coder" "B" (.int (0 : Int32))) (F_count_o : Fld Z h0 o "java/lang/AbstractStringBuilder" "count" "I" (.int (iN n))) (V_b : Arv Z h0 b k .byte (iN cap) xs (.int (0 : Int32))) (hn : xs.length = n) (hB : n < cap ∧ cap ≤ 128) (ne_t_o : @Ne Nat t o) (ne_t_b : @Ne Nat t b) (g_t : @LE.le Nat _ n0 t) (OL : Old Z n0 h0) (S_COMPACT_STRINGS : Sta Z Z.heap "java/lang/String" "COMPACT_STRINGS" "Z" (.int cs)) (hcs : ¬ (cs = (0 : Int32))) :
    MetFree l y23_ (head1 (Jvm.Cond.code y23_ jdk_42_method_150_code 5 none :: ws) r3_1_128_49) (fun xa xU => xa = #[(.ref t), (.ref o), .null] ∧ Z.Warmed39 xU.vm ∧ xU.heap = h0) (fun _ _ _ _ _ => True) (fun _ xU xo xU' => ∃ xv xL, xo = .returned xv ∧ Q_str_asb Z t o b k cap n xs w1 w2 cs h0 n0 xv xU'.heap xL ∧ FrameEnd xU xo xU' xL r3_1_128_49.cells r3_1_128_49.slots) := by
  refine MetFree.of_bodySF (plainFor_of_name pn_java_lang_String) hisR ?_
  intro pP eE sS mM argS bS methS cC s₁ Bd hml0 hP hK
  obtain ⟨rfl, hZ, hh⟩ := hP
  have hx := Bd.exec
  have hby := Bd.bytes
  have hml : cC.maxLocals = 5 := hml0
  have hown : sS.vm.findClass "java/lang/String" = some mM.cls := findClass_of_methodNamed Bd.named
  have hnm := (name_of_methodNamed Bd.named Bd.method).1
  have X0 : Stand pP l eE r3_1_128_49 sS mM #[(.ref t), (.ref o), .null] bS methS cC s₁ [] 0 0 := Stand.of_body Bd
  have e0 : s₁.heap = h0 := by rw [← hh, Bd.state]; rfl
  have N0 := Fr.nil n0
  obtain ⟨T101, X101, e101, st101⟩ := initO X0 hx hZ hown (wi hw 11 rfl) (wi hw 12 rfl) (wi hw 13 rfl) e0 (g := (mkF mM 1 #[.val (.ref t), .val (.ref o), .val .null, .unset, .unset] [(.ref t)])) rfl (by rw [hml]; rfl) rfl (hb hby d42_150_1) (by decide) (W := 0) (by show 2 * 0 + _ ≤ _; exact Nat.le_of_eq rfl) (by decide)
  obtain ⟨cq102, kq102, q102a, q102b, q102c⟩ := isOf hZ e101 E_o
  obtain ⟨_, _, ⟨T102, L102, k102, n102⟩, -, X102, ⟨Lc102, hQ102, l102, y102, z102⟩, st102⟩ := X101.virtualBack hx (y := y17_) (z := y17_) hown (mvT hZ (wi hw 131 rfl)) (mvT hZ (wi hw 132 rfl)) (notFace_of_selects (args := #[]) (mvT hZ (wi hw 134 rfl))) (mvT hZ (wi hw 134 rfl)) (mvT hZ (wi hw 133 rfl)) (by decide) (backOf (W := 0) (rm_getValue l Z a0 hw [] o b h0 n0 (by omega) F_value_o) hZ (wi hw 135 rfl) (wi hw 38 rfl) (by decide) (by decide)) q102a q102c (g := (mkF mM 5 #[.val (.ref t), .val (.ref o), .val .null, .unset, .unset] [(.ref o)])) rfl (by rw [hml]; rfl) (Steps.refl _) (argsL := []) (rest := []) (lenOf pd_20 rfl) rfl (by show 2 * 0 + _ ≤ _; exact Nat.le_of_eq rfl) (hb hby d42_150_5) (fun _ _ => ⟨rfl, e101, ble rfl, ble rfl⟩)
  dsimp only [Pt.U, Pt.locs, Pt.cells, Pt.slots] at X102 l102 y102 z102 st102 hQ102
  subst y102 z102
  obtain ⟨h102, e102⟩ : ∃ z, T102.heap = z := ⟨_, rfl⟩
  rw [e102] at hQ102
  obtain ⟨rfl, N102q, eq102⟩ := hQ102
  rw [eq102] at e102
  have N102 : Fr n0 L102 := by rw [l102]; exact Fr.app N0 N102q
  obtain ⟨cq103, kq103, q103a, q103b, q103c⟩ := isOf hZ e102 E_o
  obtain ⟨_, _, ⟨T103, L103, k103, n103⟩, -, X103, ⟨Lc103, hQ103, l103, y103, z103⟩, st103⟩ := X102.virtualBack hx (y := y18_) (z := y19_) hown (mvT hZ (wi hw 136 rfl)) (mvT hZ (wi hw 137 rfl)) (own_nf (y := (⟨"java/lang/AbstractStringBuilder", "ensureCapacityInternal", "(I)V"⟩ : MethodName)) (z := (⟨"java/lang/AbstractStringBuilder", "length", "()I"⟩ : MethodName)) (notFace_of_selects (args := #[]) (mvT hZ (wi hw 73 rfl))) (Cond.code_named (args := #[]) (mvT hZ (wi hw 74 rfl))) rfl) (mvT hZ (wi hw 139 rfl)) (mvT hZ (wi hw 140 rfl)) (by decide) (backOf (W := 0) (rm_sb_length l Z a0 hw [] o (iN n) h0 n0 (by omega) E_o F_count_o) hZ (wi hw 141 rfl) (wi hw 30 rfl) (by decide) (by decide)) q103a q103c (g := (mkF mM 10 #[.val (.ref t), .val (.ref o), .val .null, .val (.ref b), .unset] [(.ref o)])) rfl (by rw [hml]; rfl) (Steps.refl _) (argsL := []) (rest := []) (lenOf pd_7 rfl) rfl (by show 2 * 0 + _ ≤ _; exact Nat.le_of_eq rfl) (hb hby d42_150_10) (fun _ _ => ⟨rfl, e102, ble rfl, ble rfl⟩)
  dsimp only [Pt.U, Pt.locs, Pt.cells, Pt.slots] at X103 l103 y103 z103 st103 hQ103
  subst y103 z103
  obtain ⟨h103, e103⟩ : ∃ z, T103.heap = z := ⟨_, rfl⟩
  rw [e103] at hQ103
  obtain ⟨rfl, N103q, eq103⟩ := hQ103
  rw [eq103] at e103
  have N103 : Fr n0 L103 := by rw [l103]; exact Fr.app N102 N103q
  obtain ⟨cq104, kq104, q104a, q104b, q104c⟩ := isOf hZ e103 E_o
  obtain ⟨_, _, ⟨T104, L104, k104, n104⟩, -, X104, ⟨Lc104, hQ104, l104, y104, z104⟩, st104⟩ := X103.virtualBack hx (y := y15_) (z := y15_) hown (mvT hZ (wi hw 144 rfl)) (mvT hZ (wi hw 145 rfl)) (notFace_of_selects (args := #[]) (mvT hZ (wi hw 147 rfl))) (mvT hZ (wi hw 147 rfl)) (mvT hZ (wi hw 146 rfl)) (by decide) (backOf (W := 0) (rm_asb_latin l Z a0 hw [] o cs h0 n0 (by omega) F_coder_o OL S_COMPACT_STRINGS hcs) hZ (wi hw 148 rfl) (wi hw 38 rfl) (by decide) (by decide)) q104a q104c (g := (mkF mM 16 (Lc_str_asb_0 t o b n) [(.ref o)])) rfl (by rw [hml]; rfl) (Steps.refl _) (argsL := []) (rest := []) (lenOf pd_21 rfl) rfl (by show 2 * 0 + _ ≤ _; exact Nat.le_of_eq rfl) (hb hby d42_150_16) (fun _ _ => ⟨rfl, e103, ble rfl, ble rfl⟩)
  dsimp only [Pt.U, Pt.locs, Pt.cells, Pt.slots] at X104 l104 y104 z104 st104 hQ104
  subst y104 z104
  obtain ⟨h104, e104⟩ : ∃ z, T104.heap = z := ⟨_, rfl⟩
  rw [e104] at hQ104
  obtain ⟨rfl, N104q, eq104⟩ := hQ104
  rw [eq104] at e104
  have N104 : Fr n0 L104 := by rw [l104]; exact Fr.app N103 N104q
  obtain ⟨T105, h105, X105, e105, W105, st105⟩ := putFN X104 hx hZ hown (wi hw 21 rfl) Via.refl e104 F_coder_t E_t (Or.inr ⟨(wi hw 17 rfl), rfl, hnm⟩) (wi hw 1 rfl) (ty := .byte) (v' := (.int (0 : Int32))) (by decide) (rfl) (rfl) (g := (mkF mM 24 (Lc_str_asb_0 t o b n) [(.int (0 : Int32)), (.ref t)])) rfl rfl (hb hby d42_150_24)
  have Sz1 : h0.size ≤ h105.size := Nat.le_of_eq (Wr.size W105).symm
  have Fw105 : Fld Z h105 t "java/lang/String" "coder" "B" (.int (0 : Int32)) := Fld.same W105 F_coder_t
  have N105 := Fr.snoc X105 N104 g_t
  have c107_V_b : Arv Z h105 b k .byte (iN cap) xs (.int (0 : Int32)) := V_b.other W105 (Ne.symm ne_t_b)
  obtain ⟨_, _, ⟨T106, L106, k106, n106⟩, -, X106, ⟨Lc106, hQ106, l106, y106, z106⟩, st106⟩ := Jvm.LawKit.callS X105 hx (y := y22_) hown (mvT hZ (wi hw 149 rfl)) (mvT hZ (wi hw 150 rfl)) (mvT hZ (wi hw 113 rfl)) (mvT hZ (wi hw 151 rfl)) (by decide) (backOf (W := 1) (rm_cor l Z a0 hw [] b k cap n xs h105 n0 (by omega) c107_V_b hn hB) hZ (wi hw 151 rfl) (wi hw 113 rfl) (by decide) (by decide)) (g := (mkF mM 32 (Lc_str_asb_0 t o b n) [(.int (iN n)), (.int (0 : Int32)), (.ref b), (.ref t)])) rfl (by rw [hml]; rfl) (argsL := [(.ref b), (.int (0 : Int32)), (.int (iN n))]) (rest := [(.ref t)]) (lenOf pd_22 rfl) rfl (by show 2 * 0 + _ ≤ _; exact Nat.le_of_eq rfl) (hb hby d42_150_32) (fun _ _ => ⟨rfl, e105, ble rfl, ble rfl⟩)
  dsimp only [Pt.U, Pt.locs, Pt.cells, Pt.slots] at X106 l106 y106 z106 st106 hQ106
  subst y106 z106
  obtain ⟨h106, e106⟩ : ∃ z, T106.heap = z := ⟨_, rfl⟩
  rw [e106] at hQ106
  obtain ⟨b2_106, k2_106, rfl, N106q, Kp106, p106_V_b2, p106_gh_b2⟩ := hQ106
  have Sz2 : h105.size ≤ h106.size := Kp106.1
  have N106 : Fr n0 L106 := by rw [l106]; exact Fr.app N105 N106q
  have c108_F_value_t : Fld Z h105 t "java/lang/String" "value" "[B" w1 := Fld.other W105 F_value_t (Or.inr (slot_ne (Or.inr (wi hw 16 rfl)) (Or.inr (wi hw 17 rfl)) (by decide) (t := (.array .byte)) (t' := .byte) (by decide) (by decide)))
  have c109_F_value_t : Fld Z h106 t "java/lang/String" "value" "[B" w1 := c108_F_value_t.keep Kp106 nin0
  have c110_E_t : Exa Z h105 t "java/lang/String" := Exa.wr W105 E_t
  have c111_E_t : Exa Z h106 t "java/lang/String" := c110_E_t.keep Kp106
  obtain ⟨T112, h112, X112, e112, W112, st112⟩ := putF X106 hx hZ hown (host := "") (Or.inl (wi hw 20 rfl)) Via.refl e106 c109_F_value_t c111_E_t (Or.inr ⟨(wi hw 16 rfl), rfl, hnm⟩) (wi hw 1 rfl) (ty := (.array .byte)) (by decide) rfl rfl (g := (mkF mM 35 (Lc_str_asb_0 t o b n) [(.ref b2_106), (.ref t)])) rfl rfl (hb hby d42_150_35)
  have Sz3 : h106.size ≤ h112.size := Nat.le_of_eq (Wr.size W112).symm
  have Fw112 : Fld Z h112 t "java/lang/String" "value" "[B" (.ref b2_106) := Fld.same W112 c109_F_value_t
  have N112 := Fr.snoc X112 N106 g_t
  have lt_b2_106 : @LT.lt Nat _ b2_106 h106.size := p106_V_b2.lt
  have lt_t : @LT.lt Nat _ t h0.size := E_t.lt
  have ne_b2_106_t_113 : b2_106 ≠ t := (by omega : @Ne Nat b2_106 t)
  have c114_V_b2_106 : Arv Z h112 b2_106 k2_106 .byte (iN n) xs (.int (0 : Int32)) := p106_V_b2.other W112 ne_b2_106_t_113
  have c115_E_t : Exa Z h112 t "java/lang/String" := Exa.wr W112 c111_E_t
  have c116_F_coder_t : Fld Z h106 t "java/lang/String" "coder" "B" (.int (0 : Int32)) := Fw105.keep Kp106 nin0
  have c117_F_coder_t : Fld Z h112 t "java/lang/String" "coder" "B" (.int (0 : Int32)) := Fld.other W112 c116_F_coder_t (Or.inr (slot_ne (Or.inr (wi hw 17 rfl)) (Or.inr (wi hw 16 rfl)) (by decide) (t := .byte) (t' := (.array .byte)) (by decide) (by decide)))
  have K118 : Keep h0 h105 [t] := (Keep.refl h0 [t]).wr W105 (Or.inl (List.mem_of_getElem? (i := 0) rfl))
  have K119 : Keep h0 h106 [t] := K118.trans Kp106 all0
  have K120 : Keep h0 h112 [t] := K119.wr W112 (Or.inl (List.mem_of_getElem? (i := 0) rfl))
  obtain ⟨fs, hr, hrun, hended, hW, hsame⟩ := X112.leave (v := none) (fun _ => rfl)
  refine ⟨_, _, castTop (ef_str_asb mM t o b k cap n xs w1 w2 cs) ?_, hrun, hended, _, _, rfl, ?_, ⟨_, rfl⟩, hW, hsame.mono (by decide) (by decide)⟩
  · show SS pP eE bS s₁ (mkF mM 0 #[.val (.ref t), .val (.ref o), .val .null, .unset, .unset] []) _
    refine XS.aloadN X0.here hx rfl (hb hby d42_150_0) rfl rfl ?_
    show SS pP eE bS s₁ (mkF mM 1 #[.val (.ref t), .val (.ref o), .val .null, .unset, .unset] [(.ref t)]) _
    refine st101 _ ?_
    show SS pP eE bS T101 (mkF mM 4 #[.val (.ref t), .val (.ref o), .val .null, .unset, .unset] []) _
    refine XS.aloadN X101.here hx rfl (hb hby d42_150_4) rfl rfl ?_
    show SS pP eE bS T101 (mkF mM 5 #[.val (.ref t), .val (.ref o), .val .null, .unset, .unset] [(.ref o)]) _
    refine st102.trans ?_
    show SS pP eE bS T102 (mkF mM 8 #[.val (.ref t), .val (.ref o), .val .null, .unset, .unset] [(.ref b)]) _
    refine XS.astoreN X102.here hx rfl (hb hby d42_150_8) rfl rfl (l' := #[.val (.ref t), .val (.ref o), .val .null, .val (.ref b), .unset]) rfl ?_
    refine XS.aloadN X102.here hx rfl (hb hby d42_150_9) rfl rfl ?_
    show SS pP eE bS T102 (mkF mM 10 #[.val (.ref t), .val (.ref o), .val .null, .val (.ref b), .unset] [(.ref o)]) _
    refine st103.trans ?_
    show SS pP eE bS T103 (mkF mM 13 #[.val (.ref t), .val (.ref o), .val .null, .val (.ref b), .unset] [(.int (iN n))]) _
    refine XS.istore X103.here hx rfl (hb hby d42_150_13) rfl (l' := (Lc_str_asb_0 t o b n)) rfl ?_
    refine XS.aloadN X103.here hx rfl (hb hby d42_150_15) rfl rfl ?_
    show SS pP eE bS T103 (mkF mM 16 (Lc_str_asb_0 t o b n) [(.ref o)]) _
    refine st104.trans ?_
    show SS pP eE bS T104 (mkF mM 19 (Lc_str_asb_0 t o b n) [(.int (1 : Int32))]) _
    refine XS.ifNo X104.here hx rfl (hb hby d42_150_19) rfl ((if0 _ _).trans (feq (by decide : ¬ ((1 : Int32) = (0 : Int32)))).1) ?_
    refine XS.aloadN X104.here hx rfl (hb hby d42_150_22) rfl rfl ?_
    refine XS.iconst X104.here hx rfl (hb hby d42_150_23) ?_
    show SS pP eE bS T104 (mkF mM 24 (Lc_str_asb_0 t o b n) [(.int (0 : Int32)), (.ref t)]) _
    refine st105 _ ?_
    show SS pP eE bS T105 (mkF mM 27 (Lc_str_asb_0 t o b n) []) _
    refine XS.aloadN X105.here hx rfl (hb hby d42_150_27) rfl rfl ?_
    refine XS.aloadN X105.here hx rfl (hb hby d42_150_28) rfl rfl ?_
    refine XS.iconst X105.here hx rfl (hb hby d42_150_29) ?_
    refine XS.iload X105.here hx rfl (hb hby d42_150_30) rfl ?_
    show SS pP eE bS T105 (mkF mM 32 (Lc_str_asb_0 t o b n) [(.int (iN n)), (.int (0 : Int32)), (.ref b), (.ref t)]) _
    refine st106 _ ?_
    show SS pP eE bS T106 (mkF mM 35 (Lc_str_asb_0 t o b n) [(.ref b2_106), (.ref t)]) _
    refine st112 _ ?_
    show SS pP eE bS T112 (mkF mM 38 (Lc_str_asb_0 t o b n) []) _
    refine XS.goto X112.here hx rfl (pc0 := 38) (pc' := 97) rfl (hb hby d42_150_38) (by decide) (by decide) ?_
    show SS pP eE bS T112 (mkF mM 97 (Lc_str_asb_0 t o b n) []) _
    exact X112.returnOut hx Bd.returns (hb hby d42_150_97) hr
  · show Q_str_asb Z t o b k cap n xs w1 w2 cs h0 n0 _ T112.heap _
    rw [e112]
    exact ⟨b2_106, k2_106, rfl, N112, K120, c115_E_t, Fw112, c117_F_coder_t, c114_V_b2_106, (by omega)⟩
abbrev c42_53 := jdk_42_method_53_code
theorem d42_53_0 : decode c42_53 0 = .ok (.aload_n 0, 1) := by decide +kernel
theorem d42_53_1 : decode c42_53 1 = .ok (.aload_n 1, 1) := by decide +kernel
theorem d42_53_2 : decode c42_53 2 = .ok (.aconst_null, 1) := by decide +kernel
theorem d42_53_3 : decode c42_53 3 = .ok (.invokespecial 489, 3) := by decide +kernel
theorem pd_19 : parseMethodDescriptor "(Ljava/lang/AbstractStringBuilder;Ljava/lang/Void;)V" = some ⟨[(.object "java/lang/AbstractStringBuilder"), (.object "java/lang/Void")], none⟩ := by decide +kernel
theorem d42_53_6 : decode c42_53 6 = .ok (.return_, 1) := by decide +kernel
abbrev r4_1_128_65 : Room := { frames := 4, cells := 1, slots := 128, locals := 65 }
abbrev y24_ : MethodName := ⟨"java/lang/String", "<init>", "(Ljava/lang/StringBuilder;)V"⟩
def Q_str_sb (Z : State) (t : Addr) (o : Addr) (b : Addr) (k : ClassId) (cap : Nat) (n : Nat) (xs : List Value) (w1 : Value) (w2 : Value) (cs : Int32) (h0 : Heap) (n0 : Nat) (xv : Option Value) (xh : Heap) (xL : List Loc) : Prop := ∃ b2 : Addr, ∃ k2 : ClassId, xv = none ∧ Fr n0 xL ∧ Keep h0 xh [t] ∧ Exa Z xh t "java/lang/String" ∧ Fld Z xh t "java/lang/String" "value" "[B" (.ref b2) ∧ Fld Z xh t "java/lang/String" "coder" "B" (.int (0 : Int32)) ∧ Arv Z xh b2 k2 .byte (iN n) xs (.int (0 : Int32)) ∧ @LE.le Nat _ h0.size b2
theorem ef_str_sb (mM : MethodId) (t : Addr) (o : Addr) (b : Addr) (k : ClassId) (cap : Nat) (n : Nat) (xs : List Value) (w1 : Value) (w2 : Value) (cs : Int32) : entryFrame mM #[(.ref t), (.ref o)] 2 = mkF mM 0 #[.val (.ref t), .val (.ref o)] [] := by
  first | (simp [entryFrame, mkF, argsToLocals, Value.category]; done) | rfl
theorem rm_str_sb (l : Launch) (Z : State) (a0 : Array Value) (hw : HW a0 Z) (ws : List Jvm.Cond) (t : Addr) (o : Addr) (b : Addr) (k : ClassId) (cap : Nat) (n : Nat) (xs : List Value) (w1 : Value) (w2 : Value) (cs : Int32) (h0 : Heap) (n0 : Nat) (Z0 : n0 ≤ h0.size) (E_t : Exa Z h0 t "java/lang/String") (F_value_t : Fld Z h0 t "java/lang/String" "value" "[B" w1) (F_coder_t : Fld Z h0 t "java/lang/String" "coder" "B" w2) (E_o : Exa Z h0 o "java/lang/StringBuilder") (F_value_o : Fld Z h0 o "java/lang/AbstractStringBuilder" "value" "[B" (.ref b)) (F_coder_o : Fld Z h0 o "java/lang/AbstractStringBuilder" "coder" "B" (.int (0 : Int32))) (F_count_o : Fld Z h0 o "java/lang/AbstractStringBuilder" "count" "I" (.int (iN n))) (V_b : Arv Z h0 b k .byte (iN cap) xs (.int (0 : Int32))) (hn : xs.length = n) (hB : n < cap ∧ cap ≤ 128) (ne_t_o : @Ne Nat t o) (ne_t_b : @Ne Nat t b) (g_t : @LE.le Nat _ n0 t) (OL : Old Z n0 h0) (S_COMPACT_STRINGS : Sta Z Z.heap "java/lang/String" "COMPACT_STRINGS" "Z" (.int cs)) (hcs : ¬ (cs = (0 : Int32))) :
    MetFree l y24_ (head1 (Jvm.Cond.code y24_ jdk_42_method_53_code 2 none :: ws) r4_1_128_65) (fun xa xU => xa = #[(.ref t), (.ref o)] ∧ Z.Warmed39 xU.vm ∧ xU.heap = h0) (fun _ _ _ _ _ => True) (fun _ xU xo xU' => ∃ xv xL, xo = .returned xv ∧ Q_str_sb Z t o b k cap n xs w1 w2 cs h0 n0 xv xU'.heap xL ∧ FrameEnd xU xo xU' xL r4_1_128_65.cells r4_1_128_65.slots) := by
  refine MetFree.of_bodySF (plainFor_of_name pn_java_lang_String) hisR ?_
  intro pP eE sS mM argS bS methS cC s₁ Bd hml0 hP hK
  obtain ⟨rfl, hZ, hh⟩ := hP
  have hx := Bd.exec
  have hby := Bd.bytes
  have hml : cC.maxLocals = 2 := hml0
  have hown : sS.vm.findClass "java/lang/String" = some mM.cls := findClass_of_methodNamed Bd.named
  have hnm := (name_of_methodNamed Bd.named Bd.method).1
  have X0 : Stand pP l eE r4_1_128_65 sS mM #[(.ref t), (.ref o)] bS methS cC s₁ [] 0 0 := Stand.of_body Bd
  have e0 : s₁.heap = h0 := by rw [← hh, Bd.state]; rfl
  have N0 := Fr.nil n0
  obtain ⟨_, _, ⟨T101, L101, k101, n101⟩, -, X101, ⟨Lc101, hQ101, l101, y101, z101⟩, st101⟩ := X0.specialBack hx (y := y23_) rfl hown (mvT hZ (wi hw 128 rfl)) (mvT hZ (wi hw 129 rfl)) (mvT hZ (wi hw 130 rfl)) (by decide) (backOf (W := 0) (rm_str_asb l Z a0 hw [] t o b k cap n xs w1 w2 cs h0 n0 (by omega) E_t F_value_t F_coder_t E_o F_value_o F_coder_o F_count_o V_b hn hB ne_t_o ne_t_b g_t OL S_COMPACT_STRINGS hcs) hZ (wi hw 130 rfl) (wi hw 2 rfl) (by decide) (by decide)) (g := (mkF mM 3 #[.val (.ref t), .val (.ref o)] [.null, (.ref o), (.ref t)])) rfl (by rw [hml]; rfl) (Steps.refl _) (a := t) (argsL := [(.ref o), .null]) (rest := []) (lenOf pd_19 rfl) rfl (by show 2 * 0 + _ ≤ _; exact Nat.le_of_eq rfl) (hb hby d42_53_3) (fun _ _ => ⟨rfl, e0, ble rfl, ble rfl⟩)
  dsimp only [Pt.U, Pt.locs, Pt.cells, Pt.slots] at X101 l101 y101 z101 st101 hQ101
  subst y101 z101
  obtain ⟨h101, e101⟩ : ∃ z, T101.heap = z := ⟨_, rfl⟩
  rw [e101] at hQ101
  obtain ⟨b2_101, k2_101, rfl, N101q, Kp101, p101_E_t, p101_F_value_t, p101_F_coder_t, p101_V_b2, p101_gh_b2⟩ := hQ101
  have Sz1 : h0.size ≤ h101.size := Kp101.1
  have N101 : Fr n0 L101 := by rw [l101]; exact Fr.app N0 N101q
  have K102 : Keep h0 h101 [t] := (Keep.refl h0 [t]).trans Kp101 (allS (Or.inl (List.mem_of_getElem? (i := 0) rfl)) all0)
  obtain ⟨fs, hr, hrun, hended, hW, hsame⟩ := X101.leave (v := none) (fun _ => rfl)
  refine ⟨_, _, castTop (ef_str_sb mM t o b k cap n xs w1 w2 cs) ?_, hrun, hended, _, _, rfl, ?_, ⟨_, rfl⟩, hW, hsame.mono (by decide) (by decide)⟩
  · show SS pP eE bS s₁ (mkF mM 0 #[.val (.ref t), .val (.ref o)] []) _
    refine XS.aloadN X0.here hx rfl (hb hby d42_53_0) rfl rfl ?_
    refine XS.aloadN X0.here hx rfl (hb hby d42_53_1) rfl rfl ?_
    refine XS.aconstNull X0.here hx rfl (hb hby d42_53_2) ?_
    show SS pP eE bS s₁ (mkF mM 3 #[.val (.ref t), .val (.ref o)] [.null, (.ref o), (.ref t)]) _
    refine st101.trans ?_
    show SS pP eE bS T101 (mkF mM 6 #[.val (.ref t), .val (.ref o)] []) _
    exact X101.returnOut hx Bd.returns (hb hby d42_53_6) hr
  · show Q_str_sb Z t o b k cap n xs w1 w2 cs h0 n0 _ T101.heap _
    rw [e101]
    exact ⟨b2_101, k2_101, rfl, N101, K102, p101_E_t, p101_F_value_t, p101_F_coder_t, p101_V_b2, (by omega)⟩
abbrev c67_42 := jdk_67_method_42_code
theorem d67_42_0 : decode c67_42 0 = .ok (.new 18, 3) := by decide +kernel
theorem d67_42_3 : decode c67_42 3 = .ok (.dup, 1) := by decide +kernel
theorem d67_42_4 : decode c67_42 4 = .ok (.aload_n 0, 1) := by decide +kernel
theorem d67_42_5 : decode c67_42 5 = .ok (.invokespecial 137, 3) := by decide +kernel
theorem pd_18 : parseMethodDescriptor "(Ljava/lang/StringBuilder;)V" = some ⟨[(.object "java/lang/StringBuilder")], none⟩ := by decide +kernel
theorem d67_42_8 : decode c67_42 8 = .ok (.areturn, 1) := by decide +kernel
abbrev r5_2_132_79 : Room := { frames := 5, cells := 2, slots := 132, locals := 79 }
abbrev y25_ : MethodName := ⟨"java/lang/StringBuilder", "toString", "()Ljava/lang/String;"⟩
def Q_toString (Z : State) (o : Addr) (b : Addr) (k : ClassId) (cap : Nat) (n : Nat) (xs : List Value) (cs : Int32) (h0 : Heap) (n0 : Nat) (xv : Option Value) (xh : Heap) (xL : List Loc) : Prop := ∃ t : Addr, ∃ b2 : Addr, ∃ k2 : ClassId, xv = some (.ref t) ∧ Fr n0 xL ∧ Keep h0 xh [] ∧ Exa Z xh t "java/lang/String" ∧ Fld Z xh t "java/lang/String" "value" "[B" (.ref b2) ∧ Fld Z xh t "java/lang/String" "coder" "B" (.int (0 : Int32)) ∧ Arv Z xh b2 k2 .byte (iN n) xs (.int (0 : Int32)) ∧ @LE.le Nat _ h0.size t ∧ @LE.le Nat _ h0.size b2
theorem ef_toString (mM : MethodId) (o : Addr) (b : Addr) (k : ClassId) (cap : Nat) (n : Nat) (xs : List Value) (cs : Int32) : entryFrame mM #[(.ref o)] 1 = mkF mM 0 #[.val (.ref o)] [] := by
  first | (simp [entryFrame, mkF, argsToLocals, Value.category]; done) | rfl
theorem rm_toString (l : Launch) (Z : State) (a0 : Array Value) (hw : HW a0 Z) (ws : List Jvm.Cond) (o : Addr) (b : Addr) (k : ClassId) (cap : Nat) (n : Nat) (xs : List Value) (cs : Int32) (h0 : Heap) (n0 : Nat) (Z0 : n0 ≤ h0.size) (E_o : Exa Z h0 o "java/lang/StringBuilder") (F_value_o : Fld Z h0 o "java/lang/AbstractStringBuilder" "value" "[B" (.ref b)) (F_coder_o : Fld Z h0 o "java/lang/AbstractStringBuilder" "coder" "B" (.int (0 : Int32))) (F_count_o : Fld Z h0 o "java/lang/AbstractStringBuilder" "count" "I" (.int (iN n))) (V_b : Arv Z h0 b k .byte (iN cap) xs (.int (0 : Int32))) (hn : xs.length = n) (hB : n < cap ∧ cap ≤ 128) (OL : Old Z n0 h0) (S_COMPACT_STRINGS : Sta Z Z.heap "java/lang/String" "COMPACT_STRINGS" "Z" (.int cs)) (hcs : ¬ (cs = (0 : Int32))) :
    MetFree l y25_ (head1 (Jvm.Cond.code y25_ jdk_67_method_42_code 1 (some (.object "java/lang/String")) :: ws) r5_2_132_79) (fun xa xU => xa = #[(.ref o)] ∧ Z.Warmed39 xU.vm ∧ xU.heap = h0) (fun _ _ _ _ _ => True) (fun _ xU xo xU' => ∃ xv xL, xo = .returned xv ∧ Q_toString Z o b k cap n xs cs h0 n0 xv xU'.heap xL ∧ FrameEnd xU xo xU' xL r5_2_132_79.cells r5_2_132_79.slots) := by
  refine MetFree.of_bodySF (plainFor_of_name pn_java_lang_StringBuilder) hisR ?_
  intro pP eE sS mM argS bS methS cC s₁ Bd hml0 hP hK
  obtain ⟨rfl, hZ, hh⟩ := hP
  have hx := Bd.exec
  have hby := Bd.bytes
  have hml : cC.maxLocals = 1 := hml0
  have hown : sS.vm.findClass "java/lang/StringBuilder" = some mM.cls := findClass_of_methodNamed Bd.named
  have hnm := (name_of_methodNamed Bd.named Bd.method).1
  have X0 : Stand pP l eE r5_2_132_79 sS mM #[(.ref o)] bS methS cC s₁ [] 0 0 := Stand.of_body Bd
  have e0 : s₁.heap = h0 := by rw [← hh, Bd.state]; rfl
  have N0 := Fr.nil n0
  obtain ⟨T101, h101, X101, e101, E101, A101, D101, B101, st101⟩ := newO X0 hx hZ hown (wi hw 124 rfl) (wi hw 1 rfl) (wi hw 2 rfl) e0 (g := (mkF mM 0 #[.val (.ref o)] [])) rfl (hb hby d67_42_0) (by decide) (by decide)
  obtain ⟨b101, g101⟩ : ∃ z : Nat, z = h0.size := ⟨_, rfl⟩
  rw [← g101] at A101 D101 B101 st101
  have Sz1 : h0.size ≤ h101.size := E101.1
  have F101_value : Fld Z h101 b101 "java/lang/String" "value" "[B" .null := D101 (Or.inr (wi hw 16 rfl)) (ty := (.array .byte)) (by decide)
  have F101_coder : Fld Z h101 b101 "java/lang/String" "coder" "B" (.int (0 : Int32)) := D101 (Or.inr (wi hw 17 rfl)) (ty := .byte) (by decide)
  have c103_E_o : Exa Z h101 o "java/lang/StringBuilder" := Exa.ext E101 E_o
  have c104_F_value_o : Fld Z h101 o "java/lang/AbstractStringBuilder" "value" "[B" (.ref b) := Fld.ext E101 F_value_o
  have c105_F_coder_o : Fld Z h101 o "java/lang/AbstractStringBuilder" "coder" "B" (.int (0 : Int32)) := Fld.ext E101 F_coder_o
  have c106_F_count_o : Fld Z h101 o "java/lang/AbstractStringBuilder" "count" "I" (.int (iN n)) := Fld.ext E101 F_count_o
  have c107_V_b : Arv Z h101 b k .byte (iN cap) xs (.int (0 : Int32)) := V_b.ext E101
  have c108_OL : Old Z n0 h101 := OL.ext E101
  have lt_b101 : @LT.lt Nat _ b101 h101.size := A101.lt
  have lt_o : @LT.lt Nat _ o h0.size := E_o.lt
  have ne_b101_o_109 : b101 ≠ o := (by omega : @Ne Nat b101 o)
  have lt_b : @LT.lt Nat _ b h0.size := V_b.lt
  have ne_b101_b_110 : b101 ≠ b := (by omega : @Ne Nat b101 b)
  have ge111_b101 : @LE.le Nat _ n0 b101 := by omega
  obtain ⟨_, _, ⟨T102, L102, k102, n102⟩, -, X102, ⟨Lc102, hQ102, l102, y102, z102⟩, st102⟩ := X101.specialBack hx (y := y24_) rfl hown (mvT hZ (wi hw 125 rfl)) (mvT hZ (wi hw 126 rfl)) (mvT hZ (wi hw 127 rfl)) (by decide) (backOf (W := 1) (rm_str_sb l Z a0 hw [] b101 o b k cap n xs .null (.int (0 : Int32)) cs h101 n0 (by omega) A101 F101_value F101_coder c103_E_o c104_F_value_o c105_F_coder_o c106_F_count_o c107_V_b hn hB ne_b101_o_109 ne_b101_b_110 ge111_b101 c108_OL S_COMPACT_STRINGS hcs) hZ (wi hw 127 rfl) (wi hw 2 rfl) (by decide) (by decide)) (g := (mkF mM 5 #[.val (.ref o)] [(.ref o), (.ref b101), (.ref b101)])) rfl (by rw [hml]; rfl) (Steps.refl _) (a := b101) (argsL := [(.ref o)]) (rest := [(.ref b101)]) (lenOf pd_18 rfl) rfl (by show 2 * 0 + _ ≤ _; exact Nat.le_of_eq rfl) (hb hby d67_42_5) (fun _ _ => ⟨rfl, e101, ble rfl, ble rfl⟩)
  dsimp only [Pt.U, Pt.locs, Pt.cells, Pt.slots] at X102 l102 y102 z102 st102 hQ102
  subst y102 z102
  obtain ⟨h102, e102⟩ : ∃ z, T102.heap = z := ⟨_, rfl⟩
  rw [e102] at hQ102
  obtain ⟨b2_102, k2_102, rfl, N102q, Kp102, p102_E_t, p102_F_value_t, p102_F_coder_t, p102_V_b2, p102_gh_b2⟩ := hQ102
  have Sz2 : h101.size ≤ h102.size := Kp102.1
  have N102 : Fr n0 L102 := by rw [l102]; exact Fr.app N0 N102q
  have K112 : Keep h0 h101 [] := (Keep.refl h0 []).ext E101
  have K113 : Keep h0 h102 [] := K112.trans Kp102 (allS (Or.inr (by omega : @LE.le Nat _ h0.size b101)) all0)
  obtain ⟨fs, hr, hrun, hended, hW, hsame⟩ := X102.leave (v := some (.ref b101)) (fun h => by rw [Bd.returns] at h; cases h)
  refine ⟨_, _, castTop (ef_toString mM o b k cap n xs cs) ?_, hrun, hended, _, _, rfl, ?_, ⟨_, rfl⟩, hW, hsame.mono (by decide) (by decide)⟩
  · show SS pP eE bS s₁ (mkF mM 0 #[.val (.ref o)] []) _
    refine st101 _ ?_
    show SS pP eE bS T101 (mkF mM 3 #[.val (.ref o)] [(.ref b101)]) _
    refine XS.dup X101.here hx rfl (hb hby d67_42_3) rfl rfl ?_
    refine XS.aloadN X101.here hx rfl (hb hby d67_42_4) rfl rfl ?_
    show SS pP eE bS T101 (mkF mM 5 #[.val (.ref o)] [(.ref o), (.ref b101), (.ref b101)]) _
    refine st102.trans ?_
    show SS pP eE bS T102 (mkF mM 8 #[.val (.ref o)] [(.ref b101)]) _
    jvm_step X102.here [X102.here.top, hx, (hb hby d67_42_8), X102.method', Bd.returns, Value.isRef, FieldType.isReference]
    first | (intro acts; rw [hr _ acts rfl rfl rfl]) | rw [hr _ _ rfl rfl rfl]
    exact Steps.refl _
  · show Q_toString Z o b k cap n xs cs h0 n0 _ T102.heap _
    rw [e102]
    exact ⟨b101, b2_102, k2_102, rfl, N102, K113, p102_E_t, p102_F_value_t, p102_F_coder_t, p102_V_b2, (by omega), (by omega)⟩
abbrev c41_11 := jdk_41_method_11_code
theorem d41_11_0 : decode c41_11 0 = .ok (.iload_n 0, 1) := by decide +kernel
theorem d41_11_1 : decode c41_11 1 = .ok (.ifCond .lt 8, 3) := by decide +kernel
theorem d41_11_4 : decode c41_11 4 = .ok (.iload_n 0, 1) := by decide +kernel
theorem d41_11_5 : decode c41_11 5 = .ok (.iload_n 1, 1) := by decide +kernel
theorem d41_11_6 : decode c41_11 6 = .ok (.if_icmp .lt 10, 3) := by decide +kernel
theorem d41_11_16 : decode c41_11 16 = .ok (.iload_n 0, 1) := by decide +kernel
theorem d41_11_17 : decode c41_11 17 = .ok (.ireturn, 1) := by decide +kernel
abbrev y26_ : MethodName := ⟨"jdk/internal/util/Preconditions", "checkIndex", "(IILjava/util/function/BiFunction;)I"⟩
theorem pn_jdk_internal_util_Preconditions : plainName "jdk/internal/util/Preconditions" = true := by first | (simp [plainName, overriddenIn]; done) | decide +kernel
def Q_pcheck (Z : State) (i : Int32) (x : Int32) (fo : Value) (h0 : Heap) (n0 : Nat) (xv : Option Value) (xh : Heap) (xL : List Loc) : Prop := xv = some (.int i) ∧ Fr n0 xL ∧ xh = h0
theorem ef_pcheck (mM : MethodId) (i : Int32) (x : Int32) (fo : Value) (hr_fo : (fo).isRef = true) : entryFrame mM #[(.int i), (.int x), fo] 3 = mkF mM 0 #[.val (.int i), .val (.int x), .val fo] [] := by
  cases fo <;> first | (exact Bool.noConfusion (show false = true from hr_fo)) | skip
  all_goals first | (simp [entryFrame, mkF, argsToLocals, Value.category]; done) | rfl
theorem rm_pcheck (l : Launch) (Z : State) (a0 : Array Value) (hw : HW a0 Z) (ws : List Jvm.Cond) (i : Int32) (x : Int32) (fo : Value) (h0 : Heap) (n0 : Nat) (Z0 : n0 ≤ h0.size) (hfo : (fo).isRef = true) (h0i : ¬ (i < (0 : Int32))) (hix : i < x) :
    MetFree l y26_ (head1 (Jvm.Cond.code y26_ jdk_41_method_11_code 3 (some .int) :: ws) r0_0_0_0) (fun xa xU => xa = #[(.int i), (.int x), fo] ∧ Z.Warmed39 xU.vm ∧ xU.heap = h0) (fun _ _ _ _ _ => True) (fun _ xU xo xU' => ∃ xv xL, xo = .returned xv ∧ Q_pcheck Z i x fo h0 n0 xv xU'.heap xL ∧ FrameEnd xU xo xU' xL r0_0_0_0.cells r0_0_0_0.slots) := by
  refine MetFree.of_bodySF (plainFor_of_name pn_jdk_internal_util_Preconditions) hisR ?_
  intro pP eE sS mM argS bS methS cC s₁ Bd hml0 hP hK
  obtain ⟨rfl, hZ, hh⟩ := hP
  have hx := Bd.exec
  have hby := Bd.bytes
  have hml : cC.maxLocals = 3 := hml0
  have hown : sS.vm.findClass "jdk/internal/util/Preconditions" = some mM.cls := findClass_of_methodNamed Bd.named
  have hnm := (name_of_methodNamed Bd.named Bd.method).1
  have X0 : Stand pP l eE r0_0_0_0 sS mM #[(.int i), (.int x), fo] bS methS cC s₁ [] 0 0 := Stand.of_body Bd
  have e0 : s₁.heap = h0 := by rw [← hh, Bd.state]; rfl
  have N0 := Fr.nil n0
  obtain ⟨fs, hr, hrun, hended, hW, hsame⟩ := X0.leave (v := some (.int i)) (fun h => by rw [Bd.returns] at h; cases h)
  refine ⟨_, _, castTop (ef_pcheck mM i x fo hfo) ?_, hrun, hended, _, _, rfl, ?_, ⟨_, rfl⟩, hW, hsame.mono (by decide) (by decide)⟩
  · show SS pP eE bS s₁ (mkF mM 0 #[.val (.int i), .val (.int x), .val fo] []) _
    refine XS.iloadN X0.here hx rfl (hb hby d41_11_0) rfl ?_
    refine XS.ifNo X0.here hx rfl (hb hby d41_11_1) rfl ((if0 _ _).trans (flt h0i).1) ?_
    refine XS.iloadN X0.here hx rfl (hb hby d41_11_4) rfl ?_
    refine XS.iloadN X0.here hx rfl (hb hby d41_11_5) rfl ?_
    show SS pP eE bS s₁ (mkF mM 6 #[.val (.int i), .val (.int x), .val fo] [(.int x), (.int i)]) _
    refine XS.icmpYes X0.here hx rfl (pc0 := 6) (pc' := 16) rfl (hb hby d41_11_6) rfl (tlt hix).1 (by decide) (by decide) ?_
    refine XS.iloadN X0.here hx rfl (hb hby d41_11_16) rfl ?_
    show SS pP eE bS s₁ (mkF mM 17 #[.val (.int i), .val (.int x), .val fo] [(.int i)]) _
    exact retI X0 hx Bd.returns (hb hby d41_11_17) hr
  · show Q_pcheck Z i x fo h0 n0 _ s₁.heap _
    rw [e0]
    exact ⟨rfl, N0, rfl⟩
abbrev c42_155 := jdk_42_method_155_code
theorem d42_155_0 : decode c42_155 0 = .ok (.iload_n 0, 1) := by decide +kernel
theorem d42_155_1 : decode c42_155 1 = .ok (.iload_n 1, 1) := by decide +kernel
theorem d42_155_2 : decode c42_155 2 = .ok (.getstatic 1053, 3) := by decide +kernel
theorem d42_155_5 : decode c42_155 5 = .ok (.invokestatic 1059, 3) := by decide +kernel
theorem pd_29 : parseMethodDescriptor "(IILjava/util/function/BiFunction;)I" = some ⟨[.int, .int, (.object "java/util/function/BiFunction")], some .int⟩ := by decide +kernel
theorem d42_155_8 : decode c42_155 8 = .ok (.pop, 1) := by decide +kernel
theorem d42_155_9 : decode c42_155 9 = .ok (.return_, 1) := by decide +kernel
abbrev y27_ : MethodName := ⟨"java/lang/String", "checkIndex", "(II)V"⟩
def Q_scheck (Z : State) (i : Int32) (x : Int32) (fo : Value) (h0 : Heap) (n0 : Nat) (xv : Option Value) (xh : Heap) (xL : List Loc) : Prop := xv = none ∧ Fr n0 xL ∧ xh = h0
theorem ef_scheck (mM : MethodId) (i : Int32) (x : Int32) (fo : Value) : entryFrame mM #[(.int i), (.int x)] 2 = mkF mM 0 #[.val (.int i), .val (.int x)] [] := by
  first | (simp [entryFrame, mkF, argsToLocals, Value.category]; done) | rfl
theorem rm_scheck (l : Launch) (Z : State) (a0 : Array Value) (hw : HW a0 Z) (ws : List Jvm.Cond) (i : Int32) (x : Int32) (fo : Value) (h0 : Heap) (n0 : Nat) (Z0 : n0 ≤ h0.size) (hfo : (fo).isRef = true) (h0i : ¬ (i < (0 : Int32))) (hix : i < x) (OL : Old Z n0 h0) (S_SIOOBE_FORMATTER : Sta Z Z.heap "jdk/internal/util/Preconditions" "SIOOBE_FORMATTER" "Ljava/util/function/BiFunction;" fo) :
    MetFree l y27_ (head1 (Jvm.Cond.code y27_ jdk_42_method_155_code 2 none :: ws) r1_0_0_14) (fun xa xU => xa = #[(.int i), (.int x)] ∧ Z.Warmed39 xU.vm ∧ xU.heap = h0) (fun _ _ _ _ _ => True) (fun _ xU xo xU' => ∃ xv xL, xo = .returned xv ∧ Q_scheck Z i x fo h0 n0 xv xU'.heap xL ∧ FrameEnd xU xo xU' xL r1_0_0_14.cells r1_0_0_14.slots) := by
  refine MetFree.of_bodySF (plainFor_of_name pn_java_lang_String) hisR ?_
  intro pP eE sS mM argS bS methS cC s₁ Bd hml0 hP hK
  obtain ⟨rfl, hZ, hh⟩ := hP
  have hx := Bd.exec
  have hby := Bd.bytes
  have hml : cC.maxLocals = 2 := hml0
  have hown : sS.vm.findClass "java/lang/String" = some mM.cls := findClass_of_methodNamed Bd.named
  have hnm := (name_of_methodNamed Bd.named Bd.method).1
  have X0 : Stand pP l eE r1_0_0_14 sS mM #[(.int i), (.int x)] bS methS cC s₁ [] 0 0 := Stand.of_body Bd
  have e0 : s₁.heap = h0 := by rw [← hh, Bd.state]; rfl
  have N0 := Fr.nil n0
  have c101_S_SIOOBE_FORMATTER : Sta Z h0 "jdk/internal/util/Preconditions" "SIOOBE_FORMATTER" "Ljava/util/function/BiFunction;" fo := Sta.ext OL.2 S_SIOOBE_FORMATTER
  obtain ⟨T102, X102, e102, st102⟩ := getS2 X0 hx hZ hown (host := "") (Or.inl (wi hw 243 rfl)) Via.refl e0 c101_S_SIOOBE_FORMATTER (g := (mkF mM 2 #[.val (.int i), .val (.int x)] [(.int x), (.int i)])) rfl (hb hby d42_155_2)
  obtain ⟨_, _, ⟨T103, L103, k103, n103⟩, -, X103, ⟨Lc103, hQ103, l103, y103, z103⟩, st103⟩ := Jvm.LawKit.callS X102 hx (y := y26_) hown (mvT hZ (wi hw 245 rfl)) (mvT hZ (wi hw 246 rfl)) (mvT hZ (wi hw 244 rfl)) (mvT hZ (wi hw 247 rfl)) (by decide) (backOf (W := 0) (rm_pcheck l Z a0 hw [] i x fo h0 n0 (by omega) hfo h0i hix) hZ (wi hw 247 rfl) (wi hw 244 rfl) (by decide) (by decide)) (g := (mkF mM 5 #[.val (.int i), .val (.int x)] [fo, (.int x), (.int i)])) rfl (by rw [hml]; rfl) (argsL := [(.int i), (.int x), fo]) (rest := []) (lenOf pd_29 rfl) rfl (by show 2 * 0 + _ ≤ _; exact Nat.le_of_eq rfl) (hb hby d42_155_5) (fun _ _ => ⟨rfl, e102, ble rfl, ble rfl⟩)
  dsimp only [Pt.U, Pt.locs, Pt.cells, Pt.slots] at X103 l103 y103 z103 st103 hQ103
  subst y103 z103
  obtain ⟨h103, e103⟩ : ∃ z, T103.heap = z := ⟨_, rfl⟩
  rw [e103] at hQ103
  obtain ⟨rfl, N103q, eq103⟩ := hQ103
  rw [eq103] at e103
  have N103 : Fr n0 L103 := by rw [l103]; exact Fr.app N0 N103q
  obtain ⟨fs, hr, hrun, hended, hW, hsame⟩ := X103.leave (v := none) (fun _ => rfl)
  refine ⟨_, _, castTop (ef_scheck mM i x fo) ?_, hrun, hended, _, _, rfl, ?_, ⟨_, rfl⟩, hW, hsame.mono (by decide) (by decide)⟩
  · show SS pP eE bS s₁ (mkF mM 0 #[.val (.int i), .val (.int x)] []) _
    refine XS.iloadN X0.here hx rfl (hb hby d42_155_0) rfl ?_
    refine XS.iloadN X0.here hx rfl (hb hby d42_155_1) rfl ?_
    show SS pP eE bS s₁ (mkF mM 2 #[.val (.int i), .val (.int x)] [(.int x), (.int i)]) _
    refine st102 _ ?_
    show SS pP eE bS T102 (mkF mM 5 #[.val (.int i), .val (.int x)] [fo, (.int x), (.int i)]) _
    refine st103 _ ?_
    show SS pP eE bS T103 (mkF mM 8 #[.val (.int i), .val (.int x)] [(.int i)]) _
    refine XS.pop X103.here hx rfl (hb hby d42_155_8) rfl rfl ?_
    show SS pP eE bS T103 (mkF mM 9 #[.val (.int i), .val (.int x)] []) _
    exact X103.returnOut hx Bd.returns (hb hby d42_155_9) hr
  · show Q_scheck Z i x fo h0 n0 _ T103.heap _
    rw [e103]
    exact ⟨rfl, N103, rfl⟩
abbrev c43_2 := jdk_43_method_2_code
theorem d43_2_0 : decode c43_2 0 = .ok (.iload_n 1, 1) := by decide +kernel
theorem d43_2_1 : decode c43_2 1 = .ok (.aload_n 0, 1) := by decide +kernel
theorem d43_2_2 : decode c43_2 2 = .ok (.arraylength, 1) := by decide +kernel
theorem d43_2_3 : decode c43_2 3 = .ok (.invokestatic 9, 3) := by decide +kernel
theorem d43_2_6 : decode c43_2 6 = .ok (.aload_n 0, 1) := by decide +kernel
theorem d43_2_7 : decode c43_2 7 = .ok (.iload_n 1, 1) := by decide +kernel
theorem d43_2_8 : decode c43_2 8 = .ok (.baload, 1) := by decide +kernel
theorem d43_2_9 : decode c43_2 9 = .ok (.sipush 255, 3) := by decide +kernel
theorem d43_2_12 : decode c43_2 12 = .ok (.iand, 1) := by decide +kernel
theorem d43_2_13 : decode c43_2 13 = .ok (.i2c, 1) := by decide +kernel
theorem d43_2_14 : decode c43_2 14 = .ok (.ireturn, 1) := by decide +kernel
abbrev r2_0_0_27 : Room := { frames := 2, cells := 0, slots := 0, locals := 27 }
abbrev y28_ : MethodName := ⟨"java/lang/StringLatin1", "charAt", "([BI)C"⟩
theorem pn_java_lang_StringLatin1 : plainName "java/lang/StringLatin1" = true := by first | (simp [plainName, overriddenIn]; done) | decide +kernel
def Q_l1char (Z : State) (tb : Addr) (tk : ClassId) (zz : Int32) (ys : List Value) (i : Int32) (v : Int32) (fo : Value) (h0 : Heap) (n0 : Nat) (xv : Option Value) (xh : Heap) (xL : List Loc) : Prop := xv = some (.int (v &&& (255 : Int32))) ∧ Fr n0 xL ∧ xh = h0
theorem ef_l1char (mM : MethodId) (tb : Addr) (tk : ClassId) (zz : Int32) (ys : List Value) (i : Int32) (v : Int32) (fo : Value) : entryFrame mM #[(.ref tb), (.int i)] 2 = mkF mM 0 #[.val (.ref tb), .val (.int i)] [] := by
  first | (simp [entryFrame, mkF, argsToLocals, Value.category]; done) | rfl
theorem rm_l1char (l : Launch) (Z : State) (a0 : Array Value) (hw : HW a0 Z) (ws : List Jvm.Cond) (tb : Addr) (tk : ClassId) (zz : Int32) (ys : List Value) (i : Int32) (v : Int32) (fo : Value) (h0 : Heap) (n0 : Nat) (Z0 : n0 ≤ h0.size) (V_tb : Arv Z h0 tb tk .byte zz ys (.int (0 : Int32))) (hfo : (fo).isRef = true) (h0i : ¬ (i < (0 : Int32))) (hix : i < zz) (hv : ys.getD (i).toNatClampNeg (.int (0 : Int32)) = (.int v)) (OL : Old Z n0 h0) (S_SIOOBE_FORMATTER : Sta Z Z.heap "jdk/internal/util/Preconditions" "SIOOBE_FORMATTER" "Ljava/util/function/BiFunction;" fo) :
    MetFree l y28_ (head1 (Jvm.Cond.code y28_ jdk_43_method_2_code 2 (some .char) :: ws) r2_0_0_27) (fun xa xU => xa = #[(.ref tb), (.int i)] ∧ Z.Warmed39 xU.vm ∧ xU.heap = h0) (fun _ _ _ _ _ => True) (fun _ xU xo xU' => ∃ xv xL, xo = .returned xv ∧ Q_l1char Z tb tk zz ys i v fo h0 n0 xv xU'.heap xL ∧ FrameEnd xU xo xU' xL r2_0_0_27.cells r2_0_0_27.slots) := by
  refine MetFree.of_bodySF (plainFor_of_name pn_java_lang_StringLatin1) hisR ?_
  intro pP eE sS mM argS bS methS cC s₁ Bd hml0 hP hK
  obtain ⟨rfl, hZ, hh⟩ := hP
  have hx := Bd.exec
  have hby := Bd.bytes
  have hml : cC.maxLocals = 2 := hml0
  have hown : sS.vm.findClass "java/lang/StringLatin1" = some mM.cls := findClass_of_methodNamed Bd.named
  have hnm := (name_of_methodNamed Bd.named Bd.method).1
  have X0 : Stand pP l eE r2_0_0_27 sS mM #[(.ref tb), (.int i)] bS methS cC s₁ [] 0 0 := Stand.of_body Bd
  have e0 : s₁.heap = h0 := by rw [← hh, Bd.state]; rfl
  have N0 := Fr.nil n0
  obtain ⟨cl101, Ar101, q101, S101, Ng101, Ha101, Ga101⟩ := id V_tb
  obtain ⟨_, _, ⟨T102, L102, k102, n102⟩, -, X102, ⟨Lc102, hQ102, l102, y102, z102⟩, st102⟩ := Jvm.LawKit.callS X0 hx (y := y27_) hown (mvT hZ (wi hw 240 rfl)) (mvT hZ (wi hw 241 rfl)) (mvT hZ (wi hw 2 rfl)) (mvT hZ (wi hw 242 rfl)) (by decide) (backOf (W := 0) (rm_scheck l Z a0 hw [] i zz fo h0 n0 (by omega) hfo h0i hix OL S_SIOOBE_FORMATTER) hZ (wi hw 242 rfl) (wi hw 2 rfl) (by decide) (by decide)) (g := (mkF mM 3 #[.val (.ref tb), .val (.int i)] [(.int zz), (.int i)])) rfl (by rw [hml]; rfl) (argsL := [(.int i), (.int zz)]) (rest := []) (lenOf pd_23 rfl) rfl (by show 2 * 0 + _ ≤ _; exact Nat.le_of_eq rfl) (hb hby d43_2_3) (fun _ _ => ⟨rfl, e0, ble rfl, ble rfl⟩)
  dsimp only [Pt.U, Pt.locs, Pt.cells, Pt.slots] at X102 l102 y102 z102 st102 hQ102
  subst y102 z102
  obtain ⟨h102, e102⟩ : ∃ z, T102.heap = z := ⟨_, rfl⟩
  rw [e102] at hQ102
  obtain ⟨rfl, N102q, eq102⟩ := hQ102
  rw [eq102] at e102
  have N102 : Fr n0 L102 := by rw [l102]; exact Fr.app N0 N102q
  obtain ⟨cl103, Ar103, q103, S103, Ng103, Ha103, Ga103⟩ := id V_tb
  have hin103 : ¬ (i < 0 ∨ cl103.slots.size ≤ (i).toNatClampNeg) := inb_of S103 ⟨h0i, hix⟩
  have hat103 : cl103.slots[(i).toNatClampNeg]? = some (.int v) := Ha103.at hin103 (hv)
  obtain ⟨fs, hr, hrun, hended, hW, hsame⟩ := X102.leave (v := some (.int (nar .char (v &&& (255 : Int32))))) (fun h => by rw [Bd.returns] at h; cases h)
  refine ⟨_, _, castTop (ef_l1char mM tb tk zz ys i v fo) ?_, hrun, hended, _, _, rfl, ?_, ⟨_, rfl⟩, hW, hsame.mono (by decide) (by decide)⟩
  · show SS pP eE bS s₁ (mkF mM 0 #[.val (.ref tb), .val (.int i)] []) _
    refine XS.iloadN X0.here hx rfl (hb hby d43_2_0) rfl ?_
    refine XS.aloadN X0.here hx rfl (hb hby d43_2_1) rfl rfl ?_
    show SS pP eE bS s₁ (mkF mM 2 #[.val (.ref tb), .val (.int i)] [(.ref tb), (.int i)]) _
    refine X0.arraylength hx (by rw [e0]; exact Ar101.1) (State.isArrayOf_alike hZ.alike Ar101.2.1) (g := (mkF mM 2 #[.val (.ref tb), .val (.int i)] [(.ref tb), (.int i)])) rfl rfl (hb hby d43_2_2) _ ?_
    rw [len_of S101 Ng101]
    show SS pP eE bS s₁ (mkF mM 3 #[.val (.ref tb), .val (.int i)] [(.int zz), (.int i)]) _
    refine st102 _ ?_
    show SS pP eE bS T102 (mkF mM 6 #[.val (.ref tb), .val (.int i)] []) _
    refine XS.aloadN X102.here hx rfl (hb hby d43_2_6) rfl rfl ?_
    refine XS.iloadN X102.here hx rfl (hb hby d43_2_7) rfl ?_
    show SS pP eE bS T102 (mkF mM 8 #[.val (.ref tb), .val (.int i)] [(.int i), (.ref tb)]) _
    refine X102.baloadBytes hx (j := i) (v := (.int v)) (by rw [e102]; exact Ar103.1) (State.isArrayOf_alike hZ.alike Ar103.2.1) Ar103.2.2 hin103 hat103 (g := (mkF mM 8 #[.val (.ref tb), .val (.int i)] [(.int i), (.ref tb)])) rfl rfl (hb hby d43_2_8) _ ?_
    show SS pP eE bS T102 (mkF mM 9 #[.val (.ref tb), .val (.int i)] [(.int v)]) _
    refine XS.sipush X102.here hx rfl (hb hby d43_2_9) ?_
    refine XS.iand X102.here hx rfl (hb hby d43_2_12) rfl ?_
    refine XS.i2c X102.here hx rfl (hb hby d43_2_13) rfl ?_
    show SS pP eE bS T102 (mkF mM 14 #[.val (.ref tb), .val (.int i)] [(.int ((v &&& (255 : Int32)).toUInt32.toUInt16.toUInt32.toInt32))]) _
    rw [show ((v &&& (255 : Int32)).toUInt32.toUInt16.toUInt32.toInt32) = (v &&& (255 : Int32)) from i2c_mask v]
    show SS pP eE bS T102 (mkF mM 14 #[.val (.ref tb), .val (.int i)] [(.int (v &&& (255 : Int32)))]) _
    exact retN X102 hx (t := .char) Bd.returns (by simp) (hb hby d43_2_14) hr
  · show Q_l1char Z tb tk zz ys i v fo h0 n0 _ T102.heap _
    rw [e102]
    exact ⟨own_retc v, N102, rfl⟩
abbrev c42_154 := jdk_42_method_154_code
theorem d42_154_0 : decode c42_154 0 = .ok (.getstatic 38, 3) := by decide +kernel
theorem d42_154_3 : decode c42_154 3 = .ok (.ifCond .eq 14, 3) := by decide +kernel
theorem d42_154_6 : decode c42_154 6 = .ok (.aload_n 0, 1) := by decide +kernel
theorem d42_154_7 : decode c42_154 7 = .ok (.getfield 15, 3) := by decide +kernel
theorem d42_154_10 : decode c42_154 10 = .ok (.ifCond .ne 7, 3) := by decide +kernel
theorem d42_154_13 : decode c42_154 13 = .ok (.iconst 1, 1) := by decide +kernel
theorem d42_154_14 : decode c42_154 14 = .ok (.goto 4, 3) := by decide +kernel
theorem d42_154_18 : decode c42_154 18 = .ok (.ireturn, 1) := by decide +kernel
abbrev y29_ : MethodName := ⟨"java/lang/String", "isLatin1", "()Z"⟩
def Q_latin1 (Z : State) (t : Addr) (cs : Int32) (h0 : Heap) (n0 : Nat) (xv : Option Value) (xh : Heap) (xL : List Loc) : Prop := xv = some (.int (1 : Int32)) ∧ Fr n0 xL ∧ xh = h0
theorem ef_latin1 (mM : MethodId) (t : Addr) (cs : Int32) : entryFrame mM #[(.ref t)] 1 = mkF mM 0 #[.val (.ref t)] [] := by
  first | (simp [entryFrame, mkF, argsToLocals, Value.category]; done) | rfl
theorem rm_latin1 (l : Launch) (Z : State) (a0 : Array Value) (hw : HW a0 Z) (ws : List Jvm.Cond) (t : Addr) (cs : Int32) (h0 : Heap) (n0 : Nat) (Z0 : n0 ≤ h0.size) (F_coder_t : Fld Z h0 t "java/lang/String" "coder" "B" (.int (0 : Int32))) (OL : Old Z n0 h0) (S_COMPACT_STRINGS : Sta Z Z.heap "java/lang/String" "COMPACT_STRINGS" "Z" (.int cs)) (hcs : ¬ (cs = (0 : Int32))) :
    MetFree l y29_ (head1 (Jvm.Cond.code y29_ jdk_42_method_154_code 1 (some .boolean) :: ws) r0_0_0_0) (fun xa xU => xa = #[(.ref t)] ∧ Z.Warmed39 xU.vm ∧ xU.heap = h0) (fun _ _ _ _ _ => True) (fun _ xU xo xU' => ∃ xv xL, xo = .returned xv ∧ Q_latin1 Z t cs h0 n0 xv xU'.heap xL ∧ FrameEnd xU xo xU' xL r0_0_0_0.cells r0_0_0_0.slots) := by
  refine MetFree.of_bodySF (plainFor_of_name pn_java_lang_String) hisR ?_
  intro pP eE sS mM argS bS methS cC s₁ Bd hml0 hP hK
  obtain ⟨rfl, hZ, hh⟩ := hP
  have hx := Bd.exec
  have hby := Bd.bytes
  have hml : cC.maxLocals = 1 := hml0
  have hown : sS.vm.findClass "java/lang/String" = some mM.cls := findClass_of_methodNamed Bd.named
  have hnm := (name_of_methodNamed Bd.named Bd.method).1
  have X0 : Stand pP l eE r0_0_0_0 sS mM #[(.ref t)] bS methS cC s₁ [] 0 0 := Stand.of_body Bd
  have e0 : s₁.heap = h0 := by rw [← hh, Bd.state]; rfl
  have N0 := Fr.nil n0
  have c101_S_COMPACT_STRINGS : Sta Z h0 "java/lang/String" "COMPACT_STRINGS" "Z" (.int cs) := Sta.ext OL.2 S_COMPACT_STRINGS
  obtain ⟨T102, X102, e102, st102⟩ := getS2 X0 hx hZ hown (host := "") (Or.inl (wi hw 67 rfl)) Via.refl e0 c101_S_COMPACT_STRINGS (g := (mkF mM 0 #[.val (.ref t)] [])) rfl (hb hby d42_154_0)
  obtain ⟨T103, X103, e103, st103⟩ := getF X102 hx hZ hown (host := "") (Or.inl (wi hw 21 rfl)) Via.refl e102 F_coder_t (g := (mkF mM 7 #[.val (.ref t)] [(.ref t)])) rfl rfl (hb hby d42_154_7)
  obtain ⟨fs, hr, hrun, hended, hW, hsame⟩ := X103.leave (v := some (.int (1 : Int32))) (fun h => by rw [Bd.returns] at h; cases h)
  refine ⟨_, _, castTop (ef_latin1 mM t cs) ?_, hrun, hended, _, _, rfl, ?_, ⟨_, rfl⟩, hW, hsame.mono (by decide) (by decide)⟩
  · show SS pP eE bS s₁ (mkF mM 0 #[.val (.ref t)] []) _
    refine st102 _ ?_
    show SS pP eE bS T102 (mkF mM 3 #[.val (.ref t)] [(.int cs)]) _
    refine XS.ifNo X102.here hx rfl (hb hby d42_154_3) rfl ((if0 _ _).trans (feq hcs).1) ?_
    refine XS.aloadN X102.here hx rfl (hb hby d42_154_6) rfl rfl ?_
    show SS pP eE bS T102 (mkF mM 7 #[.val (.ref t)] [(.ref t)]) _
    refine st103 _ ?_
    show SS pP eE bS T103 (mkF mM 10 #[.val (.ref t)] [(.int (0 : Int32))]) _
    refine XS.ifNo X103.here hx rfl (hb hby d42_154_10) rfl ((if0 _ _).trans (teq (by decide : (0 : Int32) = (0 : Int32))).2) ?_
    refine XS.iconst X103.here hx rfl (hb hby d42_154_13) ?_
    refine XS.goto X103.here hx rfl (pc0 := 14) (pc' := 18) rfl (hb hby d42_154_14) (by decide) (by decide) ?_
    show SS pP eE bS T103 (mkF mM 18 #[.val (.ref t)] [(.int (1 : Int32))]) _
    exact retN X103 hx (t := .boolean) Bd.returns (by simp) (hb hby d42_154_18) hr
  · show Q_latin1 Z t cs h0 n0 _ T103.heap _
    rw [e103]
    exact ⟨rfl, N0, rfl⟩
abbrev c42_56 := jdk_42_method_56_code
theorem d42_56_0 : decode c42_56 0 = .ok (.aload_n 0, 1) := by decide +kernel
theorem d42_56_1 : decode c42_56 1 = .ok (.invokevirtual 492, 3) := by decide +kernel
theorem d42_56_4 : decode c42_56 4 = .ok (.ifCond .eq 12, 3) := by decide +kernel
theorem d42_56_7 : decode c42_56 7 = .ok (.aload_n 0, 1) := by decide +kernel
theorem d42_56_8 : decode c42_56 8 = .ok (.getfield 9, 3) := by decide +kernel
theorem d42_56_11 : decode c42_56 11 = .ok (.iload_n 1, 1) := by decide +kernel
theorem d42_56_12 : decode c42_56 12 = .ok (.invokestatic 495, 3) := by decide +kernel
theorem pd_28 : parseMethodDescriptor "([BI)C" = some ⟨[(.array .byte), .int], some .char⟩ := by decide +kernel
theorem d42_56_15 : decode c42_56 15 = .ok (.ireturn, 1) := by decide +kernel
abbrev r3_0_0_40 : Room := { frames := 3, cells := 0, slots := 0, locals := 40 }
abbrev y30_ : MethodName := ⟨"java/lang/String", "charAt", "(I)C"⟩
def Q_charAt (Z : State) (t : Addr) (tb : Addr) (tk : ClassId) (zz : Int32) (ys : List Value) (i : Int32) (v : Int32) (fo : Value) (cs : Int32) (h0 : Heap) (n0 : Nat) (xv : Option Value) (xh : Heap) (xL : List Loc) : Prop := xv = some (.int (v &&& (255 : Int32))) ∧ Fr n0 xL ∧ xh = h0
theorem ef_charAt (mM : MethodId) (t : Addr) (tb : Addr) (tk : ClassId) (zz : Int32) (ys : List Value) (i : Int32) (v : Int32) (fo : Value) (cs : Int32) : entryFrame mM #[(.ref t), (.int i)] 2 = mkF mM 0 #[.val (.ref t), .val (.int i)] [] := by
  first | (simp [entryFrame, mkF, argsToLocals, Value.category]; done) | rfl
theorem rm_charAt (l : Launch) (Z : State) (a0 : Array Value) (hw : HW a0 Z) (ws : List Jvm.Cond) (t : Addr) (tb : Addr) (tk : ClassId) (zz : Int32) (ys : List Value) (i : Int32) (v : Int32) (fo : Value) (cs : Int32) (h0 : Heap) (n0 : Nat) (Z0 : n0 ≤ h0.size) (E_t : Exa Z h0 t "java/lang/String") (F_value_t : Fld Z h0 t "java/lang/String" "value" "[B" (.ref tb)) (F_coder_t : Fld Z h0 t "java/lang/String" "coder" "B" (.int (0 : Int32))) (V_tb : Arv Z h0 tb tk .byte zz ys (.int (0 : Int32))) (hfo : (fo).isRef = true) (h0i : ¬ (i < (0 : Int32))) (hix : i < zz) (hv : ys.getD (i).toNatClampNeg (.int (0 : Int32)) = (.int v)) (OL : Old Z n0 h0) (S_SIOOBE_FORMATTER : Sta Z Z.heap "jdk/internal/util/Preconditions" "SIOOBE_FORMATTER" "Ljava/util/function/BiFunction;" fo) (S_COMPACT_STRINGS : Sta Z Z.heap "java/lang/String" "COMPACT_STRINGS" "Z" (.int cs)) (hcs : ¬ (cs = (0 : Int32))) :
    MetFree l y30_ (head1 (Jvm.Cond.code y30_ jdk_42_method_56_code 2 (some .char) :: ws) r3_0_0_40) (fun xa xU => xa = #[(.ref t), (.int i)] ∧ Z.Warmed39 xU.vm ∧ xU.heap = h0) (fun _ _ _ _ _ => True) (fun _ xU xo xU' => ∃ xv xL, xo = .returned xv ∧ Q_charAt Z t tb tk zz ys i v fo cs h0 n0 xv xU'.heap xL ∧ FrameEnd xU xo xU' xL r3_0_0_40.cells r3_0_0_40.slots) := by
  refine MetFree.of_bodySF (plainFor_of_name pn_java_lang_String) hisR ?_
  intro pP eE sS mM argS bS methS cC s₁ Bd hml0 hP hK
  obtain ⟨rfl, hZ, hh⟩ := hP
  have hx := Bd.exec
  have hby := Bd.bytes
  have hml : cC.maxLocals = 2 := hml0
  have hown : sS.vm.findClass "java/lang/String" = some mM.cls := findClass_of_methodNamed Bd.named
  have hnm := (name_of_methodNamed Bd.named Bd.method).1
  have X0 : Stand pP l eE r3_0_0_40 sS mM #[(.ref t), (.int i)] bS methS cC s₁ [] 0 0 := Stand.of_body Bd
  have e0 : s₁.heap = h0 := by rw [← hh, Bd.state]; rfl
  have N0 := Fr.nil n0
  obtain ⟨cq101, kq101, q101a, q101b, q101c⟩ := isOf hZ e0 E_t
  obtain ⟨_, _, ⟨T101, L101, k101, n101⟩, -, X101, ⟨Lc101, hQ101, l101, y101, z101⟩, st101⟩ := X0.virtualBack hx (y := y29_) (z := y29_) hown (mvT hZ (wi hw 231 rfl)) (mvT hZ (wi hw 232 rfl)) (notFace_of_selects (args := #[]) (mvT hZ (wi hw 234 rfl))) (mvT hZ (wi hw 234 rfl)) (mvT hZ (wi hw 233 rfl)) (by decide) (backOf (W := 0) (rm_latin1 l Z a0 hw [] t cs h0 n0 (by omega) F_coder_t OL S_COMPACT_STRINGS hcs) hZ (wi hw 235 rfl) (wi hw 2 rfl) (by decide) (by decide)) q101a q101c (g := (mkF mM 1 #[.val (.ref t), .val (.int i)] [(.ref t)])) rfl (by rw [hml]; rfl) (Steps.refl _) (argsL := []) (rest := []) (lenOf pd_21 rfl) rfl (by show 2 * 0 + _ ≤ _; exact Nat.le_of_eq rfl) (hb hby d42_56_1) (fun _ _ => ⟨rfl, e0, ble rfl, ble rfl⟩)
  dsimp only [Pt.U, Pt.locs, Pt.cells, Pt.slots] at X101 l101 y101 z101 st101 hQ101
  subst y101 z101
  obtain ⟨h101, e101⟩ : ∃ z, T101.heap = z := ⟨_, rfl⟩
  rw [e101] at hQ101
  obtain ⟨rfl, N101q, eq101⟩ := hQ101
  rw [eq101] at e101
  have N101 : Fr n0 L101 := by rw [l101]; exact Fr.app N0 N101q
  obtain ⟨T102, X102, e102, st102⟩ := getF X101 hx hZ hown (host := "") (Or.inl (wi hw 20 rfl)) Via.refl e101 F_value_t (g := (mkF mM 8 #[.val (.ref t), .val (.int i)] [(.ref t)])) rfl rfl (hb hby d42_56_8)
  obtain ⟨_, _, ⟨T103, L103, k103, n103⟩, -, X103, ⟨Lc103, hQ103, l103, y103, z103⟩, st103⟩ := Jvm.LawKit.callS X102 hx (y := y28_) hown (mvT hZ (wi hw 236 rfl)) (mvT hZ (wi hw 237 rfl)) (mvT hZ (wi hw 238 rfl)) (mvT hZ (wi hw 239 rfl)) (by decide) (backOf (W := 0) (rm_l1char l Z a0 hw [] tb tk zz ys i v fo h0 n0 (by omega) V_tb hfo h0i hix hv OL S_SIOOBE_FORMATTER) hZ (wi hw 239 rfl) (wi hw 238 rfl) (by decide) (by decide)) (g := (mkF mM 12 #[.val (.ref t), .val (.int i)] [(.int i), (.ref tb)])) rfl (by rw [hml]; rfl) (argsL := [(.ref tb), (.int i)]) (rest := []) (lenOf pd_28 rfl) rfl (by show 2 * 0 + _ ≤ _; exact Nat.le_of_eq rfl) (hb hby d42_56_12) (fun _ _ => ⟨rfl, e102, ble rfl, ble rfl⟩)
  dsimp only [Pt.U, Pt.locs, Pt.cells, Pt.slots] at X103 l103 y103 z103 st103 hQ103
  subst y103 z103
  obtain ⟨h103, e103⟩ : ∃ z, T103.heap = z := ⟨_, rfl⟩
  rw [e103] at hQ103
  obtain ⟨rfl, N103q, eq103⟩ := hQ103
  rw [eq103] at e103
  have N103 : Fr n0 L103 := by rw [l103]; exact Fr.app N101 N103q
  obtain ⟨fs, hr, hrun, hended, hW, hsame⟩ := X103.leave (v := some (.int (nar .char (v &&& (255 : Int32))))) (fun h => by rw [Bd.returns] at h; cases h)
  refine ⟨_, _, castTop (ef_charAt mM t tb tk zz ys i v fo cs) ?_, hrun, hended, _, _, rfl, ?_, ⟨_, rfl⟩, hW, hsame.mono (by decide) (by decide)⟩
  · show SS pP eE bS s₁ (mkF mM 0 #[.val (.ref t), .val (.int i)] []) _
    refine XS.aloadN X0.here hx rfl (hb hby d42_56_0) rfl rfl ?_
    show SS pP eE bS s₁ (mkF mM 1 #[.val (.ref t), .val (.int i)] [(.ref t)]) _
    refine st101.trans ?_
    show SS pP eE bS T101 (mkF mM 4 #[.val (.ref t), .val (.int i)] [(.int (1 : Int32))]) _
    refine XS.ifNo X101.here hx rfl (hb hby d42_56_4) rfl ((if0 _ _).trans (feq (by decide : ¬ ((1 : Int32) = (0 : Int32)))).1) ?_
    refine XS.aloadN X101.here hx rfl (hb hby d42_56_7) rfl rfl ?_
    show SS pP eE bS T101 (mkF mM 8 #[.val (.ref t), .val (.int i)] [(.ref t)]) _
    refine st102 _ ?_
    show SS pP eE bS T102 (mkF mM 11 #[.val (.ref t), .val (.int i)] [(.ref tb)]) _
    refine XS.iloadN X102.here hx rfl (hb hby d42_56_11) rfl ?_
    show SS pP eE bS T102 (mkF mM 12 #[.val (.ref t), .val (.int i)] [(.int i), (.ref tb)]) _
    refine st103 _ ?_
    show SS pP eE bS T103 (mkF mM 15 #[.val (.ref t), .val (.int i)] [(.int (v &&& (255 : Int32)))]) _
    exact retN X103 hx (t := .char) Bd.returns (by simp) (hb hby d42_56_15) hr
  · show Q_charAt Z t tb tk zz ys i v fo cs h0 n0 _ T103.heap _
    rw [e103]
    exact ⟨own_retc v, N103, rfl⟩
abbrev c43_3 := jdk_43_method_3_code
theorem d43_3_0 : decode c43_3 0 = .ok (.iload_n 0, 1) := by decide +kernel
theorem d43_3_1 : decode c43_3 1 = .ok (.sipush 255, 3) := by decide +kernel
theorem d43_3_4 : decode c43_3 4 = .ok (.if_icmp .gt 7, 3) := by decide +kernel
theorem d43_3_7 : decode c43_3 7 = .ok (.iconst 1, 1) := by decide +kernel
theorem d43_3_8 : decode c43_3 8 = .ok (.goto 4, 3) := by decide +kernel
theorem d43_3_12 : decode c43_3 12 = .ok (.ireturn, 1) := by decide +kernel
abbrev y31_ : MethodName := ⟨"java/lang/StringLatin1", "canEncode", "(C)Z"⟩
def Q_canEnc (Z : State) (c0 : Int32) (h0 : Heap) (n0 : Nat) (xv : Option Value) (xh : Heap) (xL : List Loc) : Prop := xv = some (.int (1 : Int32)) ∧ Fr n0 xL ∧ xh = h0
theorem ef_canEnc (mM : MethodId) (c0 : Int32) : entryFrame mM #[(.int c0)] 1 = mkF mM 0 #[.val (.int c0)] [] := by
  first | (simp [entryFrame, mkF, argsToLocals, Value.category]; done) | rfl
theorem rm_canEnc (l : Launch) (Z : State) (a0 : Array Value) (hw : HW a0 Z) (ws : List Jvm.Cond) (c0 : Int32) (h0 : Heap) (n0 : Nat) (Z0 : n0 ≤ h0.size) (q0 : ¬ ((255 : Int32) < c0)) :
    MetFree l y31_ (head1 (Jvm.Cond.code y31_ jdk_43_method_3_code 1 (some .boolean) :: ws) r0_0_0_0) (fun xa xU => xa = #[(.int c0)] ∧ Z.Warmed39 xU.vm ∧ xU.heap = h0) (fun _ _ _ _ _ => True) (fun _ xU xo xU' => ∃ xv xL, xo = .returned xv ∧ Q_canEnc Z c0 h0 n0 xv xU'.heap xL ∧ FrameEnd xU xo xU' xL r0_0_0_0.cells r0_0_0_0.slots) := by
  refine MetFree.of_bodySF (plainFor_of_name pn_java_lang_StringLatin1) hisR ?_
  intro pP eE sS mM argS bS methS cC s₁ Bd hml0 hP hK
  obtain ⟨rfl, hZ, hh⟩ := hP
  have hx := Bd.exec
  have hby := Bd.bytes
  have hml : cC.maxLocals = 1 := hml0
  have hown : sS.vm.findClass "java/lang/StringLatin1" = some mM.cls := findClass_of_methodNamed Bd.named
  have hnm := (name_of_methodNamed Bd.named Bd.method).1
  have X0 : Stand pP l eE r0_0_0_0 sS mM #[(.int c0)] bS methS cC s₁ [] 0 0 := Stand.of_body Bd
  have e0 : s₁.heap = h0 := by rw [← hh, Bd.state]; rfl
  have N0 := Fr.nil n0
  obtain ⟨fs, hr, hrun, hended, hW, hsame⟩ := X0.leave (v := some (.int (1 : Int32))) (fun h => by rw [Bd.returns] at h; cases h)
  refine ⟨_, _, castTop (ef_canEnc mM c0) ?_, hrun, hended, _, _, rfl, ?_, ⟨_, rfl⟩, hW, hsame.mono (by decide) (by decide)⟩
  · show SS pP eE bS s₁ (mkF mM 0 #[.val (.int c0)] []) _
    refine XS.iloadN X0.here hx rfl (hb hby d43_3_0) rfl ?_
    refine XS.sipush X0.here hx rfl (hb hby d43_3_1) ?_
    refine XS.icmpNo X0.here hx rfl (hb hby d43_3_4) rfl (flt q0).2.2.1 ?_
    refine XS.iconst X0.here hx rfl (hb hby d43_3_7) ?_
    show SS pP eE bS s₁ (mkF mM 8 #[.val (.int c0)] [(.int (1 : Int32))]) _
    refine XS.goto X0.here hx rfl (pc0 := 8) (pc' := 12) rfl (hb hby d43_3_8) (by decide) (by decide) ?_
    show SS pP eE bS s₁ (mkF mM 12 #[.val (.int c0)] [(.int (1 : Int32))]) _
    exact retN X0 hx (t := .boolean) Bd.returns (by simp) (hb hby d43_3_12) hr
  · show Q_canEnc Z c0 h0 n0 _ s₁.heap _
    rw [e0]
    exact ⟨rfl, N0, rfl⟩
theorem own_b8 (x : Int32) : (x.toInt8.toInt32).toInt8.toInt32 = x.toInt8.toInt32 := by simp
abbrev c43_46 := jdk_43_method_46_code
theorem d43_46_0 : decode c43_46 0 = .ok (.iconst 1, 1) := by decide +kernel
theorem d43_46_1 : decode c43_46 1 = .ok (.newarray .byte, 2) := by decide +kernel
theorem d43_46_3 : decode c43_46 3 = .ok (.dup, 1) := by decide +kernel
theorem d43_46_4 : decode c43_46 4 = .ok (.iconst 0, 1) := by decide +kernel
theorem d43_46_5 : decode c43_46 5 = .ok (.iload_n 0, 1) := by decide +kernel
theorem d43_46_6 : decode c43_46 6 = .ok (.i2b, 1) := by decide +kernel
theorem d43_46_7 : decode c43_46 7 = .ok (.bastore, 1) := by decide +kernel
theorem d43_46_8 : decode c43_46 8 = .ok (.areturn, 1) := by decide +kernel
abbrev r0_1_1_0 : Room := { frames := 0, cells := 1, slots := 1, locals := 0 }
abbrev y32_ : MethodName := ⟨"java/lang/StringLatin1", "toBytes", "(C)[B"⟩
def Q_toBytes (Z : State) (c0 : Int32) (h0 : Heap) (n0 : Nat) (xv : Option Value) (xh : Heap) (xL : List Loc) : Prop := ∃ b : Addr, ∃ k : ClassId, xv = some (.ref b) ∧ Fr n0 xL ∧ Keep h0 xh [] ∧ Arv Z xh b k .byte (1 : Int32) [(.int c0.toInt8.toInt32)] (.int (0 : Int32)) ∧ @LE.le Nat _ h0.size b
theorem ef_toBytes (mM : MethodId) (c0 : Int32) : entryFrame mM #[(.int c0)] 1 = mkF mM 0 #[.val (.int c0)] [] := by
  first | (simp [entryFrame, mkF, argsToLocals, Value.category]; done) | rfl
theorem rm_toBytes (l : Launch) (Z : State) (a0 : Array Value) (hw : HW a0 Z) (ws : List Jvm.Cond) (c0 : Int32) (h0 : Heap) (n0 : Nat) (Z0 : n0 ≤ h0.size) :
    MetFree l y32_ (head1 (Jvm.Cond.code y32_ jdk_43_method_46_code 1 (some (.array .byte)) :: ws) r0_1_1_0) (fun xa xU => xa = #[(.int c0)] ∧ Z.Warmed39 xU.vm ∧ xU.heap = h0) (fun _ _ _ _ _ => True) (fun _ xU xo xU' => ∃ xv xL, xo = .returned xv ∧ Q_toBytes Z c0 h0 n0 xv xU'.heap xL ∧ FrameEnd xU xo xU' xL r0_1_1_0.cells r0_1_1_0.slots) := by
  refine MetFree.of_bodySF (plainFor_of_name pn_java_lang_StringLatin1) hisR ?_
  intro pP eE sS mM argS bS methS cC s₁ Bd hml0 hP hK
  obtain ⟨rfl, hZ, hh⟩ := hP
  have hx := Bd.exec
  have hby := Bd.bytes
  have hml : cC.maxLocals = 1 := hml0
  have hown : sS.vm.findClass "java/lang/StringLatin1" = some mM.cls := findClass_of_methodNamed Bd.named
  have hnm := (name_of_methodNamed Bd.named Bd.method).1
  have X0 : Stand pP l eE r0_1_1_0 sS mM #[(.int c0)] bS methS cC s₁ [] 0 0 := Stand.of_body Bd
  have e0 : s₁.heap = h0 := by rw [← hh, Bd.state]; rfl
  have N0 := Fr.nil n0
  obtain ⟨T101, h101, k101, X101, e101, E101, A101, st101⟩ := newP X0 hx hZ (wi hw 15 rfl) e0 (g := (mkF mM 1 #[.val (.int c0)] [(.int (1 : Int32))])) rfl (hb hby d43_46_1) rfl (by decide) (cap := 1) (by decide) (by decide) (by decide) (by decide)
  obtain ⟨b101, g101⟩ : ∃ z : Nat, z = h0.size := ⟨_, rfl⟩
  rw [← g101] at A101 st101
  have Sz1 : h0.size ≤ h101.size := E101.1
  have V_b101 : Arv Z h101 b101 k101 .byte (1 : Int32) [(.int (0 : Int32))] (.int (0 : Int32)) := (Arv.new A101 (by decide)).pad (pad_rep [] (.int (0 : Int32)) 1)
  obtain ⟨cl102, Ar102, q102, S102, Ng102, Ha102, Ga102⟩ := id V_b101
  have hin102 : ¬ ((0 : Int32) < 0 ∨ cl102.slots.size ≤ ((0 : Int32)).toNatClampNeg) := inb_of S102 ⟨by decide, by decide⟩
  obtain ⟨T103, h103, X103, e103, W103, st103⟩ := stB X101 hx hZ e101 Ar102 (j := (0 : Int32)) hin102 (g := (mkF mM 7 #[.val (.int c0)] [(.int (c0.toInt8.toInt32)), (.int (0 : Int32)), (.ref b101), (.ref b101)])) rfl rfl (hb hby d43_46_7)
  have ge104_b101 : @LE.le Nat _ n0 b101 := by omega
  have Sz2 : h101.size ≤ h103.size := Nat.le_of_eq (Wr.size W103).symm
  have Vs103 := Arv.set Ar102 q102 S102 Ng102 Ha102 Ga102 (fits_nar_byte _) W103 0 rfl (Nat.le_of_ble_eq_true rfl)
  have Vt103 : Arv Z h103 b101 k101 .byte (1 : Int32) [(.int c0.toInt8.toInt32)] (.int (0 : Int32)) := by
    have q : Arv Z h103 b101 k101 .byte (1 : Int32) [(.int (c0.toInt8.toInt32).toInt8.toInt32)] (.int (0 : Int32)) := Vs103
    rw [show ((.int (c0.toInt8.toInt32).toInt8.toInt32) : Value) = (.int c0.toInt8.toInt32) from congrArg Value.int (own_b8 c0)] at q
    exact q
  have N103 := Fr.snoc X103 N0 ge104_b101
  have K105 : Keep h0 h101 [] := (Keep.refl h0 []).ext E101
  have K106 : Keep h0 h103 [] := K105.wr W103 (Or.inr (by omega : @LE.le Nat _ h0.size b101))
  obtain ⟨fs, hr, hrun, hended, hW, hsame⟩ := X103.leave (v := some (.ref b101)) (fun h => by rw [Bd.returns] at h; cases h)
  refine ⟨_, _, castTop (ef_toBytes mM c0) ?_, hrun, hended, _, _, rfl, ?_, ⟨_, rfl⟩, hW, hsame.mono (by decide) (by decide)⟩
  · show SS pP eE bS s₁ (mkF mM 0 #[.val (.int c0)] []) _
    refine XS.iconst X0.here hx rfl (hb hby d43_46_0) ?_
    show SS pP eE bS s₁ (mkF mM 1 #[.val (.int c0)] [(.int (1 : Int32))]) _
    refine st101 _ ?_
    show SS pP eE bS T101 (mkF mM 3 #[.val (.int c0)] [(.ref b101)]) _
    refine XS.dup X101.here hx rfl (hb hby d43_46_3) rfl rfl ?_
    refine XS.iconst X101.here hx rfl (hb hby d43_46_4) ?_
    refine XS.iloadN X101.here hx rfl (hb hby d43_46_5) rfl ?_
    refine XS.i2b X101.here hx rfl (hb hby d43_46_6) rfl ?_
    show SS pP eE bS T101 (mkF mM 7 #[.val (.int c0)] [(.int (c0.toInt8.toInt32)), (.int (0 : Int32)), (.ref b101), (.ref b101)]) _
    refine st103 _ ?_
    show SS pP eE bS T103 (mkF mM 8 #[.val (.int c0)] [(.ref b101)]) _
    jvm_step X103.here [X103.here.top, hx, (hb hby d43_46_8), X103.method', Bd.returns, Value.isRef, FieldType.isReference]
    first | (intro acts; rw [hr _ acts rfl rfl rfl]) | rw [hr _ _ rfl rfl rfl]
    exact Steps.refl _
  · show Q_toBytes Z c0 h0 n0 _ T103.heap _
    rw [e103]
    exact ⟨b101, k101, rfl, N103, K106, Vt103, (by omega)⟩
abbrev c42_151 := jdk_42_method_151_code
theorem d42_151_0 : decode c42_151 0 = .ok (.aload_n 0, 1) := by decide +kernel
theorem d42_151_1 : decode c42_151 1 = .ok (.invokespecial 1, 3) := by decide +kernel
theorem d42_151_4 : decode c42_151 4 = .ok (.aload_n 0, 1) := by decide +kernel
theorem d42_151_5 : decode c42_151 5 = .ok (.aload_n 1, 1) := by decide +kernel
theorem d42_151_6 : decode c42_151 6 = .ok (.putfield 9, 3) := by decide +kernel
theorem d42_151_9 : decode c42_151 9 = .ok (.aload_n 0, 1) := by decide +kernel
theorem d42_151_10 : decode c42_151 10 = .ok (.iload_n 2, 1) := by decide +kernel
theorem d42_151_11 : decode c42_151 11 = .ok (.putfield 15, 3) := by decide +kernel
theorem d42_151_14 : decode c42_151 14 = .ok (.return_, 1) := by decide +kernel
abbrev y33_ : MethodName := ⟨"java/lang/String", "<init>", "([BB)V"⟩
def Q_str_bb (Z : State) (o : Addr) (b : Addr) (u1 : Value) (u2 : Value) (h0 : Heap) (n0 : Nat) (xv : Option Value) (xh : Heap) (xL : List Loc) : Prop := xv = none ∧ Fr n0 xL ∧ Keep h0 xh [o] ∧ Exa Z xh o "java/lang/String" ∧ Fld Z xh o "java/lang/String" "value" "[B" (.ref b) ∧ Fld Z xh o "java/lang/String" "coder" "B" (.int (0 : Int32))
theorem ef_str_bb (mM : MethodId) (o : Addr) (b : Addr) (u1 : Value) (u2 : Value) : entryFrame mM #[(.ref o), (.ref b), (.int (0 : Int32))] 3 = mkF mM 0 #[.val (.ref o), .val (.ref b), .val (.int (0 : Int32))] [] := by
  first | (simp [entryFrame, mkF, argsToLocals, Value.category]; done) | rfl
theorem rm_str_bb (l : Launch) (Z : State) (a0 : Array Value) (hw : HW a0 Z) (ws : List Jvm.Cond) (o : Addr) (b : Addr) (u1 : Value) (u2 : Value) (h0 : Heap) (n0 : Nat) (Z0 : n0 ≤ h0.size) (E_o : Exa Z h0 o "java/lang/String") (F_value_o : Fld Z h0 o "java/lang/String" "value" "[B" u1) (F_coder_o : Fld Z h0 o "java/lang/String" "coder" "B" u2) (g_o : @LE.le Nat _ n0 o) :
    MetFree l y33_ (head1 (Jvm.Cond.code y33_ jdk_42_method_151_code 3 none :: ws) r1_0_0_12) (fun xa xU => xa = #[(.ref o), (.ref b), (.int (0 : Int32))] ∧ Z.Warmed39 xU.vm ∧ xU.heap = h0) (fun _ _ _ _ _ => True) (fun _ xU xo xU' => ∃ xv xL, xo = .returned xv ∧ Q_str_bb Z o b u1 u2 h0 n0 xv xU'.heap xL ∧ FrameEnd xU xo xU' xL r1_0_0_12.cells r1_0_0_12.slots) := by
  refine MetFree.of_bodySF (plainFor_of_name pn_java_lang_String) hisR ?_
  intro pP eE sS mM argS bS methS cC s₁ Bd hml0 hP hK
  obtain ⟨rfl, hZ, hh⟩ := hP
  have hx := Bd.exec
  have hby := Bd.bytes
  have hml : cC.maxLocals = 3 := hml0
  have hown : sS.vm.findClass "java/lang/String" = some mM.cls := findClass_of_methodNamed Bd.named
  have hnm := (name_of_methodNamed Bd.named Bd.method).1
  have X0 : Stand pP l eE r1_0_0_12 sS mM #[(.ref o), (.ref b), (.int (0 : Int32))] bS methS cC s₁ [] 0 0 := Stand.of_body Bd
  have e0 : s₁.heap = h0 := by rw [← hh, Bd.state]; rfl
  have N0 := Fr.nil n0
  obtain ⟨T101, X101, e101, st101⟩ := initO X0 hx hZ hown (wi hw 11 rfl) (wi hw 12 rfl) (wi hw 13 rfl) e0 (g := (mkF mM 1 #[.val (.ref o), .val (.ref b), .val (.int (0 : Int32))] [(.ref o)])) rfl (by rw [hml]; rfl) rfl (hb hby d42_151_1) (by decide) (W := 0) (by show 2 * 0 + _ ≤ _; exact Nat.le_of_eq rfl) (by decide)
  obtain ⟨T102, h102, X102, e102, W102, st102⟩ := putF X101 hx hZ hown (host := "") (Or.inl (wi hw 20 rfl)) Via.refl e101 F_value_o E_o (Or.inr ⟨(wi hw 16 rfl), rfl, hnm⟩) (wi hw 1 rfl) (ty := (.array .byte)) (by decide) rfl rfl (g := (mkF mM 6 #[.val (.ref o), .val (.ref b), .val (.int (0 : Int32))] [(.ref b), (.ref o)])) rfl rfl (hb hby d42_151_6)
  have Sz1 : h0.size ≤ h102.size := Nat.le_of_eq (Wr.size W102).symm
  have Fw102 : Fld Z h102 o "java/lang/String" "value" "[B" (.ref b) := Fld.same W102 F_value_o
  have N102 := Fr.snoc X102 N0 g_o
  have c103_F_coder_o : Fld Z h102 o "java/lang/String" "coder" "B" u2 := Fld.other W102 F_coder_o (Or.inr (slot_ne (Or.inr (wi hw 17 rfl)) (Or.inr (wi hw 16 rfl)) (by decide) (t := .byte) (t' := (.array .byte)) (by decide) (by decide)))
  have c104_E_o : Exa Z h102 o "java/lang/String" := Exa.wr W102 E_o
  obtain ⟨T105, h105, X105, e105, W105, st105⟩ := putFN X102 hx hZ hown (wi hw 21 rfl) Via.refl e102 c103_F_coder_o c104_E_o (Or.inr ⟨(wi hw 17 rfl), rfl, hnm⟩) (wi hw 1 rfl) (ty := .byte) (v' := (.int (0 : Int32))) (by decide) (rfl) (rfl) (g := (mkF mM 11 #[.val (.ref o), .val (.ref b), .val (.int (0 : Int32))] [(.int (0 : Int32)), (.ref o)])) rfl rfl (hb hby d42_151_11)
  have Sz2 : h102.size ≤ h105.size := Nat.le_of_eq (Wr.size W105).symm
  have Fw105 : Fld Z h105 o "java/lang/String" "coder" "B" (.int (0 : Int32)) := Fld.same W105 c103_F_coder_o
  have N105 := Fr.snoc X105 N102 g_o
  have c106_E_o : Exa Z h105 o "java/lang/String" := Exa.wr W105 c104_E_o
  have c107_F_value_o : Fld Z h105 o "java/lang/String" "value" "[B" (.ref b) := Fld.other W105 Fw102 (Or.inr (slot_ne (Or.inr (wi hw 16 rfl)) (Or.inr (wi hw 17 rfl)) (by decide) (t := (.array .byte)) (t' := .byte) (by decide) (by decide)))
  have K108 : Keep h0 h102 [o] := (Keep.refl h0 [o]).wr W102 (Or.inl (List.mem_of_getElem? (i := 0) rfl))
  have K109 : Keep h0 h105 [o] := K108.wr W105 (Or.inl (List.mem_of_getElem? (i := 0) rfl))
  obtain ⟨fs, hr, hrun, hended, hW, hsame⟩ := X105.leave (v := none) (fun _ => rfl)
  refine ⟨_, _, castTop (ef_str_bb mM o b u1 u2) ?_, hrun, hended, _, _, rfl, ?_, ⟨_, rfl⟩, hW, hsame.mono (by decide) (by decide)⟩
  · show SS pP eE bS s₁ (mkF mM 0 #[.val (.ref o), .val (.ref b), .val (.int (0 : Int32))] []) _
    refine XS.aloadN X0.here hx rfl (hb hby d42_151_0) rfl rfl ?_
    show SS pP eE bS s₁ (mkF mM 1 #[.val (.ref o), .val (.ref b), .val (.int (0 : Int32))] [(.ref o)]) _
    refine st101 _ ?_
    show SS pP eE bS T101 (mkF mM 4 #[.val (.ref o), .val (.ref b), .val (.int (0 : Int32))] []) _
    refine XS.aloadN X101.here hx rfl (hb hby d42_151_4) rfl rfl ?_
    refine XS.aloadN X101.here hx rfl (hb hby d42_151_5) rfl rfl ?_
    show SS pP eE bS T101 (mkF mM 6 #[.val (.ref o), .val (.ref b), .val (.int (0 : Int32))] [(.ref b), (.ref o)]) _
    refine st102 _ ?_
    show SS pP eE bS T102 (mkF mM 9 #[.val (.ref o), .val (.ref b), .val (.int (0 : Int32))] []) _
    refine XS.aloadN X102.here hx rfl (hb hby d42_151_9) rfl rfl ?_
    refine XS.iloadN X102.here hx rfl (hb hby d42_151_10) rfl ?_
    show SS pP eE bS T102 (mkF mM 11 #[.val (.ref o), .val (.ref b), .val (.int (0 : Int32))] [(.int (0 : Int32)), (.ref o)]) _
    refine st105 _ ?_
    show SS pP eE bS T105 (mkF mM 14 #[.val (.ref o), .val (.ref b), .val (.int (0 : Int32))] []) _
    exact X105.returnOut hx Bd.returns (hb hby d42_151_14) hr
  · show Q_str_bb Z o b u1 u2 h0 n0 _ T105.heap _
    rw [e105]
    exact ⟨rfl, N105, K109, c106_E_o, c107_F_value_o, Fw105⟩
abbrev c42_139 := jdk_42_method_139_code
theorem d42_139_0 : decode c42_139 0 = .ok (.getstatic 38, 3) := by decide +kernel
theorem d42_139_3 : decode c42_139 3 = .ok (.ifCond .eq 23, 3) := by decide +kernel
theorem d42_139_6 : decode c42_139 6 = .ok (.iload_n 0, 1) := by decide +kernel
theorem d42_139_7 : decode c42_139 7 = .ok (.invokestatic 1015, 3) := by decide +kernel
theorem pd_35 : parseMethodDescriptor "(C)Z" = some ⟨[.char], some .boolean⟩ := by decide +kernel
theorem d42_139_10 : decode c42_139 10 = .ok (.ifCond .eq 16, 3) := by decide +kernel
theorem d42_139_13 : decode c42_139 13 = .ok (.new 10, 3) := by decide +kernel
theorem d42_139_16 : decode c42_139 16 = .ok (.dup, 1) := by decide +kernel
theorem d42_139_17 : decode c42_139 17 = .ok (.iload_n 0, 1) := by decide +kernel
theorem d42_139_18 : decode c42_139 18 = .ok (.invokestatic 1018, 3) := by decide +kernel
theorem pd_36 : parseMethodDescriptor "(C)[B" = some ⟨[.char], some (.array .byte)⟩ := by decide +kernel
theorem d42_139_21 : decode c42_139 21 = .ok (.iconst 0, 1) := by decide +kernel
theorem d42_139_22 : decode c42_139 22 = .ok (.invokespecial 209, 3) := by decide +kernel
theorem pd_37 : parseMethodDescriptor "([BB)V" = some ⟨[(.array .byte), .byte], none⟩ := by decide +kernel
theorem d42_139_25 : decode c42_139 25 = .ok (.areturn, 1) := by decide +kernel
abbrev r2_2_5_27 : Room := { frames := 2, cells := 2, slots := 5, locals := 27 }
abbrev y34_ : MethodName := ⟨"java/lang/String", "valueOf", "(C)Ljava/lang/String;"⟩
def Q_valueOf (Z : State) (c0 : Int32) (cs : Int32) (h0 : Heap) (n0 : Nat) (xv : Option Value) (xh : Heap) (xL : List Loc) : Prop := ∃ t : Addr, ∃ b : Addr, ∃ k : ClassId, xv = some (.ref t) ∧ Fr n0 xL ∧ Keep h0 xh [] ∧ Exa Z xh t "java/lang/String" ∧ Fld Z xh t "java/lang/String" "value" "[B" (.ref b) ∧ Fld Z xh t "java/lang/String" "coder" "B" (.int (0 : Int32)) ∧ Arv Z xh b k .byte (1 : Int32) [(.int c0.toInt8.toInt32)] (.int (0 : Int32)) ∧ @LE.le Nat _ h0.size t ∧ @LE.le Nat _ h0.size b
theorem ef_valueOf (mM : MethodId) (c0 : Int32) (cs : Int32) : entryFrame mM #[(.int c0)] 1 = mkF mM 0 #[.val (.int c0)] [] := by
  first | (simp [entryFrame, mkF, argsToLocals, Value.category]; done) | rfl
theorem rm_valueOf (l : Launch) (Z : State) (a0 : Array Value) (hw : HW a0 Z) (ws : List Jvm.Cond) (c0 : Int32) (cs : Int32) (h0 : Heap) (n0 : Nat) (Z0 : n0 ≤ h0.size) (q0 : ¬ ((255 : Int32) < c0)) (OL : Old Z n0 h0) (S_COMPACT_STRINGS : Sta Z Z.heap "java/lang/String" "COMPACT_STRINGS" "Z" (.int cs)) (hcs : ¬ (cs = (0 : Int32))) :
    MetFree l y34_ (head1 (Jvm.Cond.code y34_ jdk_42_method_139_code 1 (some (.object "java/lang/String")) :: ws) r2_2_5_27) (fun xa xU => xa = #[(.int c0)] ∧ Z.Warmed39 xU.vm ∧ xU.heap = h0) (fun _ _ _ _ _ => True) (fun _ xU xo xU' => ∃ xv xL, xo = .returned xv ∧ Q_valueOf Z c0 cs h0 n0 xv xU'.heap xL ∧ FrameEnd xU xo xU' xL r2_2_5_27.cells r2_2_5_27.slots) := by
  refine MetFree.of_bodySF (plainFor_of_name pn_java_lang_String) hisR ?_
  intro pP eE sS mM argS bS methS cC s₁ Bd hml0 hP hK
  obtain ⟨rfl, hZ, hh⟩ := hP
  have hx := Bd.exec
  have hby := Bd.bytes
  have hml : cC.maxLocals = 1 := hml0
  have hown : sS.vm.findClass "java/lang/String" = some mM.cls := findClass_of_methodNamed Bd.named
  have hnm := (name_of_methodNamed Bd.named Bd.method).1
  have X0 : Stand pP l eE r2_2_5_27 sS mM #[(.int c0)] bS methS cC s₁ [] 0 0 := Stand.of_body Bd
  have e0 : s₁.heap = h0 := by rw [← hh, Bd.state]; rfl
  have N0 := Fr.nil n0
  have c101_S_COMPACT_STRINGS : Sta Z h0 "java/lang/String" "COMPACT_STRINGS" "Z" (.int cs) := Sta.ext OL.2 S_COMPACT_STRINGS
  obtain ⟨T102, X102, e102, st102⟩ := getS2 X0 hx hZ hown (host := "") (Or.inl (wi hw 67 rfl)) Via.refl e0 c101_S_COMPACT_STRINGS (g := (mkF mM 0 #[.val (.int c0)] [])) rfl (hb hby d42_139_0)
  obtain ⟨_, _, ⟨T103, L103, k103, n103⟩, -, X103, ⟨Lc103, hQ103, l103, y103, z103⟩, st103⟩ := Jvm.LawKit.callS X102 hx (y := y31_) hown (mvT hZ (wi hw 267 rfl)) (mvT hZ (wi hw 268 rfl)) (mvT hZ (wi hw 238 rfl)) (mvT hZ (wi hw 269 rfl)) (by decide) (backOf (W := 0) (rm_canEnc l Z a0 hw [] c0 h0 n0 (by omega) q0) hZ (wi hw 269 rfl) (wi hw 238 rfl) (by decide) (by decide)) (g := (mkF mM 7 #[.val (.int c0)] [(.int c0)])) rfl (by rw [hml]; rfl) (argsL := [(.int c0)]) (rest := []) (lenOf pd_35 rfl) rfl (by show 2 * 0 + _ ≤ _; exact Nat.le_of_eq rfl) (hb hby d42_139_7) (fun _ _ => ⟨rfl, e102, ble rfl, ble rfl⟩)
  dsimp only [Pt.U, Pt.locs, Pt.cells, Pt.slots] at X103 l103 y103 z103 st103 hQ103
  subst y103 z103
  obtain ⟨h103, e103⟩ : ∃ z, T103.heap = z := ⟨_, rfl⟩
  rw [e103] at hQ103
  obtain ⟨rfl, N103q, eq103⟩ := hQ103
  rw [eq103] at e103
  have N103 : Fr n0 L103 := by rw [l103]; exact Fr.app N0 N103q
  obtain ⟨T104, h104, X104, e104, E104, A104, D104, B104, st104⟩ := newO X103 hx hZ hown (wi hw 270 rfl) (wi hw 1 rfl) (wi hw 2 rfl) e103 (g := (mkF mM 13 #[.val (.int c0)] [])) rfl (hb hby d42_139_13) (by decide) (by decide)
  obtain ⟨b104, g104⟩ : ∃ z : Nat, z = h0.size := ⟨_, rfl⟩
  rw [← g104] at A104 D104 B104 st104
  have Sz1 : h0.size ≤ h104.size := E104.1
  have F104_value : Fld Z h104 b104 "java/lang/String" "value" "[B" .null := D104 (Or.inr (wi hw 16 rfl)) (ty := (.array .byte)) (by decide)
  have F104_coder : Fld Z h104 b104 "java/lang/String" "coder" "B" (.int (0 : Int32)) := D104 (Or.inr (wi hw 17 rfl)) (ty := .byte) (by decide)
  obtain ⟨_, _, ⟨T105, L105, k105, n105⟩, -, X105, ⟨Lc105, hQ105, l105, y105, z105⟩, st105⟩ := Jvm.LawKit.callS X104 hx (y := y32_) hown (mvT hZ (wi hw 271 rfl)) (mvT hZ (wi hw 272 rfl)) (mvT hZ (wi hw 238 rfl)) (mvT hZ (wi hw 273 rfl)) (by decide) (backOf (W := 2) (rm_toBytes l Z a0 hw [] c0 h104 n0 (by omega) ) hZ (wi hw 273 rfl) (wi hw 238 rfl) (by decide) (by decide)) (g := (mkF mM 18 #[.val (.int c0)] [(.int c0), (.ref b104), (.ref b104)])) rfl (by rw [hml]; rfl) (argsL := [(.int c0)]) (rest := [(.ref b104), (.ref b104)]) (lenOf pd_36 rfl) rfl (by show 2 * 0 + _ ≤ _; exact Nat.le_of_eq rfl) (hb hby d42_139_18) (fun _ _ => ⟨rfl, e104, ble rfl, ble rfl⟩)
  dsimp only [Pt.U, Pt.locs, Pt.cells, Pt.slots] at X105 l105 y105 z105 st105 hQ105
  subst y105 z105
  obtain ⟨h105, e105⟩ : ∃ z, T105.heap = z := ⟨_, rfl⟩
  rw [e105] at hQ105
  obtain ⟨b_105, k_105, rfl, N105q, Kp105, p105_V_b, p105_gh_b⟩ := hQ105
  have Sz2 : h104.size ≤ h105.size := Kp105.1
  have N105 : Fr n0 L105 := by rw [l105]; exact Fr.app N103 N105q
  have c107_E_b104 : Exa Z h105 b104 "java/lang/String" := A104.keep Kp105
  have c108_F_value_b104 : Fld Z h105 b104 "java/lang/String" "value" "[B" .null := F104_value.keep Kp105 nin0
  have c109_F_coder_b104 : Fld Z h105 b104 "java/lang/String" "coder" "B" (.int (0 : Int32)) := F104_coder.keep Kp105 nin0
  have ge110_b104 : @LE.le Nat _ n0 b104 := by omega
  obtain ⟨_, _, ⟨T106, L106, k106, n106⟩, -, X106, ⟨Lc106, hQ106, l106, y106, z106⟩, st106⟩ := X105.specialBack hx (y := y33_) rfl hown (mvT hZ (wi hw 274 rfl)) (mvT hZ (wi hw 275 rfl)) (mvT hZ (wi hw 276 rfl)) (by decide) (backOf (W := 1) (rm_str_bb l Z a0 hw [] b104 b_105 .null (.int (0 : Int32)) h105 n0 (by omega) c107_E_b104 c108_F_value_b104 c109_F_coder_b104 ge110_b104) hZ (wi hw 276 rfl) (wi hw 2 rfl) (by decide) (by decide)) (g := (mkF mM 22 #[.val (.int c0)] [(.int (0 : Int32)), (.ref b_105), (.ref b104), (.ref b104)])) rfl (by rw [hml]; rfl) (Steps.refl _) (a := b104) (argsL := [(.ref b_105), (.int (0 : Int32))]) (rest := [(.ref b104)]) (lenOf pd_37 rfl) rfl (by show 2 * 0 + _ ≤ _; exact Nat.le_of_eq rfl) (hb hby d42_139_22) (fun _ _ => ⟨rfl, e105, ble rfl, ble rfl⟩)
  dsimp only [Pt.U, Pt.locs, Pt.cells, Pt.slots] at X106 l106 y106 z106 st106 hQ106
  subst y106 z106
  obtain ⟨h106, e106⟩ : ∃ z, T106.heap = z := ⟨_, rfl⟩
  rw [e106] at hQ106
  obtain ⟨rfl, N106q, Kp106, p106_E_o, p106_F_value_o, p106_F_coder_o⟩ := hQ106
  have Sz3 : h105.size ≤ h106.size := Kp106.1
  have N106 : Fr n0 L106 := by rw [l106]; exact Fr.app N105 N106q
  have lt_b_105 : @LT.lt Nat _ b_105 h105.size := p105_V_b.lt
  have lt_b104 : @LT.lt Nat _ b104 h104.size := A104.lt
  have ne_b_105_b104_111 : b_105 ≠ b104 := (by omega : @Ne Nat b_105 b104)
  have c112_V_b_105 : Arv Z h106 b_105 k_105 .byte (1 : Int32) [(.int c0.toInt8.toInt32)] (.int (0 : Int32)) := p105_V_b.keep Kp106 (ninS ne_b_105_b104_111 nin0)
  have K113 : Keep h0 h104 [] := (Keep.refl h0 []).ext E104
  have K114 : Keep h0 h105 [] := K113.trans Kp105 all0
  have K115 : Keep h0 h106 [] := K114.trans Kp106 (allS (Or.inr (by omega : @LE.le Nat _ h0.size b104)) all0)
  obtain ⟨fs, hr, hrun, hended, hW, hsame⟩ := X106.leave (v := some (.ref b104)) (fun h => by rw [Bd.returns] at h; cases h)
  refine ⟨_, _, castTop (ef_valueOf mM c0 cs) ?_, hrun, hended, _, _, rfl, ?_, ⟨_, rfl⟩, hW, hsame.mono (by decide) (by decide)⟩
  · show SS pP eE bS s₁ (mkF mM 0 #[.val (.int c0)] []) _
    refine st102 _ ?_
    show SS pP eE bS T102 (mkF mM 3 #[.val (.int c0)] [(.int cs)]) _
    refine XS.ifNo X102.here hx rfl (hb hby d42_139_3) rfl ((if0 _ _).trans (feq hcs).1) ?_
    refine XS.iloadN X102.here hx rfl (hb hby d42_139_6) rfl ?_
    show SS pP eE bS T102 (mkF mM 7 #[.val (.int c0)] [(.int c0)]) _
    refine st103 _ ?_
    show SS pP eE bS T103 (mkF mM 10 #[.val (.int c0)] [(.int (1 : Int32))]) _
    refine XS.ifNo X103.here hx rfl (hb hby d42_139_10) rfl ((if0 _ _).trans (feq (by decide : ¬ ((1 : Int32) = (0 : Int32)))).1) ?_
    show SS pP eE bS T103 (mkF mM 13 #[.val (.int c0)] []) _
    refine st104 _ ?_
    show SS pP eE bS T104 (mkF mM 16 #[.val (.int c0)] [(.ref b104)]) _
    refine XS.dup X104.here hx rfl (hb hby d42_139_16) rfl rfl ?_
    refine XS.iloadN X104.here hx rfl (hb hby d42_139_17) rfl ?_
    show SS pP eE bS T104 (mkF mM 18 #[.val (.int c0)] [(.int c0), (.ref b104), (.ref b104)]) _
    refine st105 _ ?_
    show SS pP eE bS T105 (mkF mM 21 #[.val (.int c0)] [(.ref b_105), (.ref b104), (.ref b104)]) _
    refine XS.iconst X105.here hx rfl (hb hby d42_139_21) ?_
    show SS pP eE bS T105 (mkF mM 22 #[.val (.int c0)] [(.int (0 : Int32)), (.ref b_105), (.ref b104), (.ref b104)]) _
    refine st106.trans ?_
    show SS pP eE bS T106 (mkF mM 25 #[.val (.int c0)] [(.ref b104)]) _
    jvm_step X106.here [X106.here.top, hx, (hb hby d42_139_25), X106.method', Bd.returns, Value.isRef, FieldType.isReference]
    first | (intro acts; rw [hr _ acts rfl rfl rfl]) | rw [hr _ _ rfl rfl rfl]
    exact Steps.refl _
  · show Q_valueOf Z c0 cs h0 n0 _ T106.heap _
    rw [e106]
    exact ⟨b104, b_105, k_105, rfl, N106, K115, p106_E_o, p106_F_value_o, p106_F_coder_o, c112_V_b_105, (by omega), (by omega)⟩
-- MARK builder
abbrev c52_21 := jdk_52_method_21_code
theorem d52_21_0 : decode c52_21 0 = .ok (.iconst 0, 1) := by decide +kernel
theorem d52_21_1 : decode c52_21 1 = .ok (.istore 5, 2) := by decide +kernel
theorem d52_21_3 : decode c52_21 3 = .ok (.iload 5, 2) := by decide +kernel
theorem d52_21_5 : decode c52_21 5 = .ok (.iload 4, 2) := by decide +kernel
theorem d52_21_7 : decode c52_21 7 = .ok (.if_icmp .ge 37, 3) := by decide +kernel
theorem d52_21_10 : decode c52_21 10 = .ok (.aload_n 0, 1) := by decide +kernel
theorem d52_21_11 : decode c52_21 11 = .ok (.iload_n 1, 1) := by decide +kernel
theorem d52_21_12 : decode c52_21 12 = .ok (.caload, 1) := by decide +kernel
theorem d52_21_13 : decode c52_21 13 = .ok (.istore 6, 2) := by decide +kernel
theorem d52_21_15 : decode c52_21 15 = .ok (.iload 6, 2) := by decide +kernel
theorem d52_21_17 : decode c52_21 17 = .ok (.sipush 255, 3) := by decide +kernel
theorem d52_21_20 : decode c52_21 20 = .ok (.if_icmp .le 6, 3) := by decide +kernel
theorem d52_21_26 : decode c52_21 26 = .ok (.aload_n 2, 1) := by decide +kernel
theorem d52_21_27 : decode c52_21 27 = .ok (.iload_n 3, 1) := by decide +kernel
theorem d52_21_28 : decode c52_21 28 = .ok (.iload 6, 2) := by decide +kernel
theorem d52_21_30 : decode c52_21 30 = .ok (.i2b, 1) := by decide +kernel
theorem d52_21_31 : decode c52_21 31 = .ok (.bastore, 1) := by decide +kernel
theorem d52_21_32 : decode c52_21 32 = .ok (.iinc 1 1, 3) := by decide +kernel
theorem d52_21_35 : decode c52_21 35 = .ok (.iinc 3 1, 3) := by decide +kernel
theorem d52_21_38 : decode c52_21 38 = .ok (.iinc 5 1, 3) := by decide +kernel
theorem d52_21_41 : decode c52_21 41 = .ok (.goto (-38), 3) := by decide +kernel
theorem d52_21_44 : decode c52_21 44 = .ok (.iload 4, 2) := by decide +kernel
theorem d52_21_46 : decode c52_21 46 = .ok (.ireturn, 1) := by decide +kernel
abbrev y35_ : MethodName := ⟨"java/lang/StringUTF16", "compress", "([CI[BII)I"⟩
theorem pn_java_lang_StringUTF16 : plainName "java/lang/StringUTF16" = true := by first | (simp [plainName, overriddenIn]; done) | decide +kernel
def Q_comp0_s2 (Z : State) (a1 : Addr) (a2 : Addr) (k1 : ClassId) (k2 : ClassId) (c0 : Int32) (c1 : Int32) (h0 : Heap) (n0 : Nat) (xv : Option Value) (xh : Heap) (xL : List Loc) : Prop := xv = some (.int (2 : Int32)) ∧ Fr n0 xL ∧ Keep h0 xh [a2] ∧ Arv Z xh a2 k2 .byte (2 : Int32) [(.int c0.toInt8.toInt32), (.int c1.toInt8.toInt32)] (.int (0 : Int32))
abbrev Lc_comp0_s2_0 (a1 : Addr) (a2 : Addr) : Array Slot := #[.val (.ref a1), .val (.int (0 : Int32)), .val (.ref a2), .val (.int (0 : Int32)), .val (.int (2 : Int32)), .unset, .unset]
abbrev Lc_comp0_s2_1 (a1 : Addr) (a2 : Addr) : Array Slot := #[.val (.ref a1), .val (.int (0 : Int32)), .val (.ref a2), .val (.int (0 : Int32)), .val (.int (2 : Int32)), .val (.int (0 : Int32)), .unset]
abbrev Lc_comp0_s2_2 (a1 : Addr) (a2 : Addr) (c0 : Int32) : Array Slot := #[.val (.ref a1), .val (.int (0 : Int32)), .val (.ref a2), .val (.int (0 : Int32)), .val (.int (2 : Int32)), .val (.int (0 : Int32)), .val (.int c0)]
abbrev Lc_comp0_s2_3 (a1 : Addr) (a2 : Addr) (c0 : Int32) : Array Slot := #[.val (.ref a1), .val (.int (1 : Int32)), .val (.ref a2), .val (.int (0 : Int32)), .val (.int (2 : Int32)), .val (.int (0 : Int32)), .val (.int c0)]
abbrev Lc_comp0_s2_4 (a1 : Addr) (a2 : Addr) (c0 : Int32) : Array Slot := #[.val (.ref a1), .val (.int (1 : Int32)), .val (.ref a2), .val (.int (1 : Int32)), .val (.int (2 : Int32)), .val (.int (0 : Int32)), .val (.int c0)]
abbrev Lc_comp0_s2_5 (a1 : Addr) (a2 : Addr) (c0 : Int32) : Array Slot := #[.val (.ref a1), .val (.int (1 : Int32)), .val (.ref a2), .val (.int (1 : Int32)), .val (.int (2 : Int32)), .val (.int (1 : Int32)), .val (.int c0)]
abbrev Lc_comp0_s2_6 (a1 : Addr) (a2 : Addr) (c1 : Int32) : Array Slot := #[.val (.ref a1), .val (.int (1 : Int32)), .val (.ref a2), .val (.int (1 : Int32)), .val (.int (2 : Int32)), .val (.int (1 : Int32)), .val (.int c1)]
abbrev Lc_comp0_s2_7 (a1 : Addr) (a2 : Addr) (c1 : Int32) : Array Slot := #[.val (.ref a1), .val (.int (2 : Int32)), .val (.ref a2), .val (.int (1 : Int32)), .val (.int (2 : Int32)), .val (.int (1 : Int32)), .val (.int c1)]
abbrev Lc_comp0_s2_8 (a1 : Addr) (a2 : Addr) (c1 : Int32) : Array Slot := #[.val (.ref a1), .val (.int (2 : Int32)), .val (.ref a2), .val (.int (2 : Int32)), .val (.int (2 : Int32)), .val (.int (1 : Int32)), .val (.int c1)]
abbrev Lc_comp0_s2_9 (a1 : Addr) (a2 : Addr) (c1 : Int32) : Array Slot := #[.val (.ref a1), .val (.int (2 : Int32)), .val (.ref a2), .val (.int (2 : Int32)), .val (.int (2 : Int32)), .val (.int (2 : Int32)), .val (.int c1)]
theorem ef_comp0_s2 (mM : MethodId) (a1 : Addr) (a2 : Addr) (k1 : ClassId) (k2 : ClassId) (c0 : Int32) (c1 : Int32) : entryFrame mM #[(.ref a1), (.int (0 : Int32)), (.ref a2), (.int (0 : Int32)), (.int (2 : Int32))] 7 = mkF mM 0 #[.val (.ref a1), .val (.int (0 : Int32)), .val (.ref a2), .val (.int (0 : Int32)), .val (.int (2 : Int32)), .unset, .unset] [] := by
  first | (simp [entryFrame, mkF, argsToLocals, Value.category]; done) | rfl
theorem rm_comp0_s2 (l : Launch) (Z : State) (a0 : Array Value) (hw : HW a0 Z) (ws : List Jvm.Cond) (a1 : Addr) (a2 : Addr) (k1 : ClassId) (k2 : ClassId) (c0 : Int32) (c1 : Int32) (h0 : Heap) (n0 : Nat) (Z0 : n0 ≤ h0.size) (V_a1 : Arv Z h0 a1 k1 .char (2 : Int32) [(.int c0), (.int c1)] (.int (0 : Int32))) (V_a2 : Arv Z h0 a2 k2 .byte (2 : Int32) [(.int (0 : Int32)), (.int (0 : Int32))] (.int (0 : Int32))) (ne_a1_a2 : @Ne Nat a1 a2) (g_a2 : @LE.le Nat _ n0 a2) (q0 : ¬ ((255 : Int32) < c0)) (q1 : ¬ ((255 : Int32) < c1)) :
    MetFree l y35_ (head1 (Jvm.Cond.code y35_ jdk_52_method_21_code 7 (some .int) :: ws) r0_0_0_0) (fun xa xU => xa = #[(.ref a1), (.int (0 : Int32)), (.ref a2), (.int (0 : Int32)), (.int (2 : Int32))] ∧ Z.Warmed39 xU.vm ∧ xU.heap = h0) (fun _ _ _ _ _ => True) (fun _ xU xo xU' => ∃ xv xL, xo = .returned xv ∧ Q_comp0_s2 Z a1 a2 k1 k2 c0 c1 h0 n0 xv xU'.heap xL ∧ FrameEnd xU xo xU' xL r0_0_0_0.cells r0_0_0_0.slots) := by
  refine MetFree.of_bodySF (plainFor_of_name pn_java_lang_StringUTF16) hisR ?_
  intro pP eE sS mM argS bS methS cC s₁ Bd hml0 hP hK
  obtain ⟨rfl, hZ, hh⟩ := hP
  have hx := Bd.exec
  have hby := Bd.bytes
  have hml : cC.maxLocals = 7 := hml0
  have hown : sS.vm.findClass "java/lang/StringUTF16" = some mM.cls := findClass_of_methodNamed Bd.named
  have hnm := (name_of_methodNamed Bd.named Bd.method).1
  have X0 : Stand pP l eE r0_0_0_0 sS mM #[(.ref a1), (.int (0 : Int32)), (.ref a2), (.int (0 : Int32)), (.int (2 : Int32))] bS methS cC s₁ [] 0 0 := Stand.of_body Bd
  have e0 : s₁.heap = h0 := by rw [← hh, Bd.state]; rfl
  have N0 := Fr.nil n0
  obtain ⟨cl101, Ar101, q101, S101, Ng101, Ha101, Ga101⟩ := id V_a1
  have hin101 : ¬ ((0 : Int32) < 0 ∨ cl101.slots.size ≤ ((0 : Int32)).toNatClampNeg) := inb_of S101 ⟨by decide, by decide⟩
  have hat101 : cl101.slots[((0 : Int32)).toNatClampNeg]? = some (.int c0) := Ha101.at hin101 (rfl)
  obtain ⟨cl102, Ar102, q102, S102, Ng102, Ha102, Ga102⟩ := id V_a2
  have hin102 : ¬ ((0 : Int32) < 0 ∨ cl102.slots.size ≤ ((0 : Int32)).toNatClampNeg) := inb_of S102 ⟨by decide, by decide⟩
  obtain ⟨T103, h103, X103, e103, W103, st103⟩ := stB X0 hx hZ e0 Ar102 (j := (0 : Int32)) hin102 (g := (mkF mM 31 (Lc_comp0_s2_2 a1 a2 c0) [(.int (c0.toInt8.toInt32)), (.int (0 : Int32)), (.ref a2)])) rfl rfl (hb hby d52_21_31)
  have Sz1 : h0.size ≤ h103.size := Nat.le_of_eq (Wr.size W103).symm
  have Vs103 := Arv.set Ar102 q102 S102 Ng102 Ha102 Ga102 (fits_nar_byte _) W103 0 rfl (Nat.le_of_ble_eq_true rfl)
  have Vt103 : Arv Z h103 a2 k2 .byte (2 : Int32) [(.int c0.toInt8.toInt32), (.int (0 : Int32))] (.int (0 : Int32)) := by
    have q : Arv Z h103 a2 k2 .byte (2 : Int32) [(.int (c0.toInt8.toInt32).toInt8.toInt32), (.int (0 : Int32))] (.int (0 : Int32)) := Vs103
    rw [show ((.int (c0.toInt8.toInt32).toInt8.toInt32) : Value) = (.int c0.toInt8.toInt32) from congrArg Value.int (own_b8 c0)] at q
    exact q
  have N103 := Fr.snoc X103 N0 g_a2
  have c104_V_a1 : Arv Z h103 a1 k1 .char (2 : Int32) [(.int c0), (.int c1)] (.int (0 : Int32)) := V_a1.other W103 ne_a1_a2
  obtain ⟨cl105, Ar105, q105, S105, Ng105, Ha105, Ga105⟩ := id c104_V_a1
  have hin105 : ¬ ((1 : Int32) < 0 ∨ cl105.slots.size ≤ ((1 : Int32)).toNatClampNeg) := inb_of S105 ⟨by decide, by decide⟩
  have hat105 : cl105.slots[((1 : Int32)).toNatClampNeg]? = some (.int c1) := Ha105.at hin105 (rfl)
  obtain ⟨cl106, Ar106, q106, S106, Ng106, Ha106, Ga106⟩ := id Vt103
  have hin106 : ¬ ((1 : Int32) < 0 ∨ cl106.slots.size ≤ ((1 : Int32)).toNatClampNeg) := inb_of S106 ⟨by decide, by decide⟩
  obtain ⟨T107, h107, X107, e107, W107, st107⟩ := stB X103 hx hZ e103 Ar106 (j := (1 : Int32)) hin106 (g := (mkF mM 31 (Lc_comp0_s2_6 a1 a2 c1) [(.int (c1.toInt8.toInt32)), (.int (1 : Int32)), (.ref a2)])) rfl rfl (hb hby d52_21_31)
  have Sz2 : h103.size ≤ h107.size := Nat.le_of_eq (Wr.size W107).symm
  have Vs107 := Arv.set Ar106 q106 S106 Ng106 Ha106 Ga106 (fits_nar_byte _) W107 1 rfl (Nat.le_of_ble_eq_true rfl)
  have Vt107 : Arv Z h107 a2 k2 .byte (2 : Int32) [(.int c0.toInt8.toInt32), (.int c1.toInt8.toInt32)] (.int (0 : Int32)) := by
    have q : Arv Z h107 a2 k2 .byte (2 : Int32) [(.int c0.toInt8.toInt32), (.int (c1.toInt8.toInt32).toInt8.toInt32)] (.int (0 : Int32)) := Vs107
    rw [show ((.int (c1.toInt8.toInt32).toInt8.toInt32) : Value) = (.int c1.toInt8.toInt32) from congrArg Value.int (own_b8 c1)] at q
    exact q
  have N107 := Fr.snoc X107 N103 g_a2
  have K108 : Keep h0 h103 [a2] := (Keep.refl h0 [a2]).wr W103 (Or.inl (List.mem_of_getElem? (i := 0) rfl))
  have K109 : Keep h0 h107 [a2] := K108.wr W107 (Or.inl (List.mem_of_getElem? (i := 0) rfl))
  obtain ⟨fs, hr, hrun, hended, hW, hsame⟩ := X107.leave (v := some (.int (2 : Int32))) (fun h => by rw [Bd.returns] at h; cases h)
  refine ⟨_, _, castTop (ef_comp0_s2 mM a1 a2 k1 k2 c0 c1) ?_, hrun, hended, _, _, rfl, ?_, ⟨_, rfl⟩, hW, hsame.mono (by decide) (by decide)⟩
  · show SS pP eE bS s₁ (mkF mM 0 (Lc_comp0_s2_0 a1 a2) []) _
    refine XS.iconst X0.here hx rfl (hb hby d52_21_0) ?_
    refine XS.istore X0.here hx rfl (hb hby d52_21_1) rfl (l' := (Lc_comp0_s2_1 a1 a2)) rfl ?_
    refine XS.iload X0.here hx rfl (hb hby d52_21_3) rfl ?_
    refine XS.iload X0.here hx rfl (hb hby d52_21_5) rfl ?_
    show SS pP eE bS s₁ (mkF mM 7 (Lc_comp0_s2_1 a1 a2) [(.int (2 : Int32)), (.int (0 : Int32))]) _
    refine XS.icmpNo X0.here hx rfl (hb hby d52_21_7) rfl (tlt (by decide : (0 : Int32) < (2 : Int32))).2.1 ?_
    refine XS.aloadN X0.here hx rfl (hb hby d52_21_10) rfl rfl ?_
    refine XS.iloadN X0.here hx rfl (hb hby d52_21_11) rfl ?_
    show SS pP eE bS s₁ (mkF mM 12 (Lc_comp0_s2_1 a1 a2) [(.int (0 : Int32)), (.ref a1)]) _
    refine X0.caload hx (j := (0 : Int32)) (v := (.int c0)) (by rw [e0]; exact Ar101.1) (State.isArrayOf_alike hZ.alike Ar101.2.1) Ar101.2.2 hin101 hat101 (g := (mkF mM 12 (Lc_comp0_s2_1 a1 a2) [(.int (0 : Int32)), (.ref a1)])) rfl rfl (hb hby d52_21_12) _ ?_
    show SS pP eE bS s₁ (mkF mM 13 (Lc_comp0_s2_1 a1 a2) [(.int c0)]) _
    refine XS.istore X0.here hx rfl (hb hby d52_21_13) rfl (l' := (Lc_comp0_s2_2 a1 a2 c0)) rfl ?_
    refine XS.iload X0.here hx rfl (hb hby d52_21_15) rfl ?_
    refine XS.sipush X0.here hx rfl (hb hby d52_21_17) ?_
    refine XS.icmpYes X0.here hx rfl (pc0 := 20) (pc' := 26) rfl (hb hby d52_21_20) rfl (flt q0).2.2.2 (by decide) (by decide) ?_
    show SS pP eE bS s₁ (mkF mM 26 (Lc_comp0_s2_2 a1 a2 c0) []) _
    refine XS.aloadN X0.here hx rfl (hb hby d52_21_26) rfl rfl ?_
    refine XS.iloadN X0.here hx rfl (hb hby d52_21_27) rfl ?_
    refine XS.iload X0.here hx rfl (hb hby d52_21_28) rfl ?_
    refine XS.i2b X0.here hx rfl (hb hby d52_21_30) rfl ?_
    show SS pP eE bS s₁ (mkF mM 31 (Lc_comp0_s2_2 a1 a2 c0) [(.int (c0.toInt8.toInt32)), (.int (0 : Int32)), (.ref a2)]) _
    refine st103 _ ?_
    show SS pP eE bS T103 (mkF mM 32 (Lc_comp0_s2_2 a1 a2 c0) []) _
    refine XS.iinc X103.here hx rfl (hb hby d52_21_32) rfl (l' := (Lc_comp0_s2_3 a1 a2 c0)) rfl ?_
    refine XS.iinc X103.here hx rfl (hb hby d52_21_35) rfl (l' := (Lc_comp0_s2_4 a1 a2 c0)) rfl ?_
    refine XS.iinc X103.here hx rfl (hb hby d52_21_38) rfl (l' := (Lc_comp0_s2_5 a1 a2 c0)) rfl ?_
    refine XS.goto X103.here hx rfl (pc0 := 41) (pc' := 3) rfl (hb hby d52_21_41) (by decide) (by decide) ?_
    show SS pP eE bS T103 (mkF mM 3 (Lc_comp0_s2_5 a1 a2 c0) []) _
    refine XS.iload X103.here hx rfl (hb hby d52_21_3) rfl ?_
    refine XS.iload X103.here hx rfl (hb hby d52_21_5) rfl ?_
    refine XS.icmpNo X103.here hx rfl (hb hby d52_21_7) rfl (tlt (by decide : (1 : Int32) < (2 : Int32))).2.1 ?_
    refine XS.aloadN X103.here hx rfl (hb hby d52_21_10) rfl rfl ?_
    show SS pP eE bS T103 (mkF mM 11 (Lc_comp0_s2_5 a1 a2 c0) [(.ref a1)]) _
    refine XS.iloadN X103.here hx rfl (hb hby d52_21_11) rfl ?_
    show SS pP eE bS T103 (mkF mM 12 (Lc_comp0_s2_5 a1 a2 c0) [(.int (1 : Int32)), (.ref a1)]) _
    refine X103.caload hx (j := (1 : Int32)) (v := (.int c1)) (by rw [e103]; exact Ar105.1) (State.isArrayOf_alike hZ.alike Ar105.2.1) Ar105.2.2 hin105 hat105 (g := (mkF mM 12 (Lc_comp0_s2_5 a1 a2 c0) [(.int (1 : Int32)), (.ref a1)])) rfl rfl (hb hby d52_21_12) _ ?_
    show SS pP eE bS T103 (mkF mM 13 (Lc_comp0_s2_5 a1 a2 c0) [(.int c1)]) _
    refine XS.istore X103.here hx rfl (hb hby d52_21_13) rfl (l' := (Lc_comp0_s2_6 a1 a2 c1)) rfl ?_
    refine XS.iload X103.here hx rfl (hb hby d52_21_15) rfl ?_
    refine XS.sipush X103.here hx rfl (hb hby d52_21_17) ?_
    refine XS.icmpYes X103.here hx rfl (pc0 := 20) (pc' := 26) rfl (hb hby d52_21_20) rfl (flt q1).2.2.2 (by decide) (by decide) ?_
    show SS pP eE bS T103 (mkF mM 26 (Lc_comp0_s2_6 a1 a2 c1) []) _
    refine XS.aloadN X103.here hx rfl (hb hby d52_21_26) rfl rfl ?_
    refine XS.iloadN X103.here hx rfl (hb hby d52_21_27) rfl ?_
    refine XS.iload X103.here hx rfl (hb hby d52_21_28) rfl ?_
    refine XS.i2b X103.here hx rfl (hb hby d52_21_30) rfl ?_
    show SS pP eE bS T103 (mkF mM 31 (Lc_comp0_s2_6 a1 a2 c1) [(.int (c1.toInt8.toInt32)), (.int (1 : Int32)), (.ref a2)]) _
    refine st107 _ ?_
    show SS pP eE bS T107 (mkF mM 32 (Lc_comp0_s2_6 a1 a2 c1) []) _
    refine XS.iinc X107.here hx rfl (hb hby d52_21_32) rfl (l' := (Lc_comp0_s2_7 a1 a2 c1)) rfl ?_
    refine XS.iinc X107.here hx rfl (hb hby d52_21_35) rfl (l' := (Lc_comp0_s2_8 a1 a2 c1)) rfl ?_
    refine XS.iinc X107.here hx rfl (hb hby d52_21_38) rfl (l' := (Lc_comp0_s2_9 a1 a2 c1)) rfl ?_
    refine XS.goto X107.here hx rfl (pc0 := 41) (pc' := 3) rfl (hb hby d52_21_41) (by decide) (by decide) ?_
    show SS pP eE bS T107 (mkF mM 3 (Lc_comp0_s2_9 a1 a2 c1) []) _
    refine XS.iload X107.here hx rfl (hb hby d52_21_3) rfl ?_
    refine XS.iload X107.here hx rfl (hb hby d52_21_5) rfl ?_
    refine XS.icmpYes X107.here hx rfl (pc0 := 7) (pc' := 44) rfl (hb hby d52_21_7) rfl (flt (by decide : ¬ ((2 : Int32) < (2 : Int32)))).2.1 (by decide) (by decide) ?_
    refine XS.iload X107.here hx rfl (hb hby d52_21_44) rfl ?_
    show SS pP eE bS T107 (mkF mM 46 (Lc_comp0_s2_9 a1 a2 c1) [(.int (2 : Int32))]) _
    exact retI X107 hx Bd.returns (hb hby d52_21_46) hr
  · show Q_comp0_s2 Z a1 a2 k1 k2 c0 c1 h0 n0 _ T107.heap _
    rw [e107]
    exact ⟨rfl, N107, K109, Vt107⟩
abbrev c52_16 := jdk_52_method_16_code
theorem d52_16_0 : decode c52_16 0 = .ok (.iload_n 2, 1) := by decide +kernel
theorem d52_16_1 : decode c52_16 1 = .ok (.newarray .byte, 2) := by decide +kernel
theorem d52_16_3 : decode c52_16 3 = .ok (.astore_n 3, 1) := by decide +kernel
theorem d52_16_4 : decode c52_16 4 = .ok (.aload_n 0, 1) := by decide +kernel
theorem d52_16_5 : decode c52_16 5 = .ok (.iload_n 1, 1) := by decide +kernel
theorem d52_16_6 : decode c52_16 6 = .ok (.aload_n 3, 1) := by decide +kernel
theorem d52_16_7 : decode c52_16 7 = .ok (.iconst 0, 1) := by decide +kernel
theorem d52_16_8 : decode c52_16 8 = .ok (.iload_n 2, 1) := by decide +kernel
theorem d52_16_9 : decode c52_16 9 = .ok (.invokestatic 115, 3) := by decide +kernel
theorem pd_32 : parseMethodDescriptor "([CI[BII)I" = some ⟨[(.array .char), .int, (.array .byte), .int, .int], some .int⟩ := by decide +kernel
theorem d52_16_12 : decode c52_16 12 = .ok (.istore 4, 2) := by decide +kernel
theorem d52_16_14 : decode c52_16 14 = .ok (.iload 4, 2) := by decide +kernel
theorem d52_16_16 : decode c52_16 16 = .ok (.iload_n 2, 1) := by decide +kernel
theorem d52_16_17 : decode c52_16 17 = .ok (.if_icmp .eq 40, 3) := by decide +kernel
theorem d52_16_57 : decode c52_16 57 = .ok (.aload_n 3, 1) := by decide +kernel
theorem d52_16_58 : decode c52_16 58 = .ok (.areturn, 1) := by decide +kernel
abbrev r1_1_2_18 : Room := { frames := 1, cells := 1, slots := 2, locals := 18 }
abbrev y36_ : MethodName := ⟨"java/lang/StringUTF16", "compress", "([CII)[B"⟩
def Q_comp1_s2 (Z : State) (a1 : Addr) (k1 : ClassId) (c0 : Int32) (c1 : Int32) (h0 : Heap) (n0 : Nat) (xv : Option Value) (xh : Heap) (xL : List Loc) : Prop := ∃ b : Addr, ∃ k2 : ClassId, xv = some (.ref b) ∧ Fr n0 xL ∧ Keep h0 xh [] ∧ Arv Z xh b k2 .byte (2 : Int32) [(.int c0.toInt8.toInt32), (.int c1.toInt8.toInt32)] (.int (0 : Int32)) ∧ @LE.le Nat _ h0.size b
abbrev Lc_comp1_s2_0 (a1 : Addr) : Array Slot := #[.val (.ref a1), .val (.int (0 : Int32)), .val (.int (2 : Int32)), .unset, .unset, .unset]
abbrev Lc_comp1_s2_1 (a1 : Addr) (b101 : Addr) : Array Slot := #[.val (.ref a1), .val (.int (0 : Int32)), .val (.int (2 : Int32)), .val (.ref b101), .unset, .unset]
abbrev Lc_comp1_s2_2 (a1 : Addr) (b101 : Addr) : Array Slot := #[.val (.ref a1), .val (.int (0 : Int32)), .val (.int (2 : Int32)), .val (.ref b101), .val (.int (2 : Int32)), .unset]
theorem ef_comp1_s2 (mM : MethodId) (a1 : Addr) (k1 : ClassId) (c0 : Int32) (c1 : Int32) : entryFrame mM #[(.ref a1), (.int (0 : Int32)), (.int (2 : Int32))] 6 = mkF mM 0 #[.val (.ref a1), .val (.int (0 : Int32)), .val (.int (2 : Int32)), .unset, .unset, .unset] [] := by
  first | (simp [entryFrame, mkF, argsToLocals, Value.category]; done) | rfl
theorem rm_comp1_s2 (l : Launch) (Z : State) (a0 : Array Value) (hw : HW a0 Z) (ws : List Jvm.Cond) (a1 : Addr) (k1 : ClassId) (c0 : Int32) (c1 : Int32) (h0 : Heap) (n0 : Nat) (Z0 : n0 ≤ h0.size) (V_a1 : Arv Z h0 a1 k1 .char (2 : Int32) [(.int c0), (.int c1)] (.int (0 : Int32))) (q0 : ¬ ((255 : Int32) < c0)) (q1 : ¬ ((255 : Int32) < c1)) :
    MetFree l y36_ (head1 (Jvm.Cond.code y36_ jdk_52_method_16_code 6 (some (.array .byte)) :: ws) r1_1_2_18) (fun xa xU => xa = #[(.ref a1), (.int (0 : Int32)), (.int (2 : Int32))] ∧ Z.Warmed39 xU.vm ∧ xU.heap = h0) (fun _ _ _ _ _ => True) (fun _ xU xo xU' => ∃ xv xL, xo = .returned xv ∧ Q_comp1_s2 Z a1 k1 c0 c1 h0 n0 xv xU'.heap xL ∧ FrameEnd xU xo xU' xL r1_1_2_18.cells r1_1_2_18.slots) := by
  refine MetFree.of_bodySF (plainFor_of_name pn_java_lang_StringUTF16) hisR ?_
  intro pP eE sS mM argS bS methS cC s₁ Bd hml0 hP hK
  obtain ⟨rfl, hZ, hh⟩ := hP
  have hx := Bd.exec
  have hby := Bd.bytes
  have hml : cC.maxLocals = 6 := hml0
  have hown : sS.vm.findClass "java/lang/StringUTF16" = some mM.cls := findClass_of_methodNamed Bd.named
  have hnm := (name_of_methodNamed Bd.named Bd.method).1
  have X0 : Stand pP l eE r1_1_2_18 sS mM #[(.ref a1), (.int (0 : Int32)), (.int (2 : Int32))] bS methS cC s₁ [] 0 0 := Stand.of_body Bd
  have e0 : s₁.heap = h0 := by rw [← hh, Bd.state]; rfl
  have N0 := Fr.nil n0
  obtain ⟨T101, h101, k101, X101, e101, E101, A101, st101⟩ := newP X0 hx hZ (wi hw 15 rfl) e0 (g := (mkF mM 1 (Lc_comp1_s2_0 a1) [(.int (2 : Int32))])) rfl (hb hby d52_16_1) rfl (by decide) (cap := 2) (by decide) (by decide) (by decide) (by decide)
  obtain ⟨b101, g101⟩ : ∃ z : Nat, z = h0.size := ⟨_, rfl⟩
  rw [← g101] at A101 st101
  have Sz1 : h0.size ≤ h101.size := E101.1
  have V_b101 : Arv Z h101 b101 k101 .byte (2 : Int32) [(.int (0 : Int32)), (.int (0 : Int32))] (.int (0 : Int32)) := (Arv.new A101 (by decide)).pad (pad_rep [] (.int (0 : Int32)) 2)
  have c103_V_a1 : Arv Z h101 a1 k1 .char (2 : Int32) [(.int c0), (.int c1)] (.int (0 : Int32)) := V_a1.ext E101
  have lt_a1 : @LT.lt Nat _ a1 h0.size := V_a1.lt
  have lt_b101 : @LT.lt Nat _ b101 h101.size := V_b101.lt
  have ne_a1_b101_104 : a1 ≠ b101 := (by omega : @Ne Nat a1 b101)
  have ge105_b101 : @LE.le Nat _ n0 b101 := by omega
  obtain ⟨_, _, ⟨T102, L102, k102, n102⟩, -, X102, ⟨Lc102, hQ102, l102, y102, z102⟩, st102⟩ := Jvm.LawKit.callS X101 hx (y := y35_) hown (mvT hZ (wi hw 258 rfl)) (mvT hZ (wi hw 259 rfl)) (mvT hZ (wi hw 256 rfl)) (mvT hZ (wi hw 260 rfl)) (by decide) (backOf (W := 0) (rm_comp0_s2 l Z a0 hw [] a1 b101 k1 k101 c0 c1 h101 n0 (by omega) c103_V_a1 V_b101 ne_a1_b101_104 ge105_b101 q0 q1) hZ (wi hw 260 rfl) (wi hw 256 rfl) (by decide) (by decide)) (g := (mkF mM 9 (Lc_comp1_s2_1 a1 b101) [(.int (2 : Int32)), (.int (0 : Int32)), (.ref b101), (.int (0 : Int32)), (.ref a1)])) rfl (by rw [hml]; rfl) (argsL := [(.ref a1), (.int (0 : Int32)), (.ref b101), (.int (0 : Int32)), (.int (2 : Int32))]) (rest := []) (lenOf pd_32 rfl) rfl (by show 2 * 0 + _ ≤ _; exact Nat.le_of_eq rfl) (hb hby d52_16_9) (fun _ _ => ⟨rfl, e101, ble rfl, ble rfl⟩)
  dsimp only [Pt.U, Pt.locs, Pt.cells, Pt.slots] at X102 l102 y102 z102 st102 hQ102
  subst y102 z102
  obtain ⟨h102, e102⟩ : ∃ z, T102.heap = z := ⟨_, rfl⟩
  rw [e102] at hQ102
  obtain ⟨rfl, N102q, Kp102, p102_V_a2⟩ := hQ102
  have Sz2 : h101.size ≤ h102.size := Kp102.1
  have N102 : Fr n0 L102 := by rw [l102]; exact Fr.app N0 N102q
  have K106 : Keep h0 h101 [] := (Keep.refl h0 []).ext E101
  have K107 : Keep h0 h102 [] := K106.trans Kp102 (allS (Or.inr (by omega : @LE.le Nat _ h0.size b101)) all0)
  obtain ⟨fs, hr, hrun, hended, hW, hsame⟩ := X102.leave (v := some (.ref b101)) (fun h => by rw [Bd.returns] at h; cases h)
  refine ⟨_, _, castTop (ef_comp1_s2 mM a1 k1 c0 c1) ?_, hrun, hended, _, _, rfl, ?_, ⟨_, rfl⟩, hW, hsame.mono (by decide) (by decide)⟩
  · show SS pP eE bS s₁ (mkF mM 0 (Lc_comp1_s2_0 a1) []) _
    refine XS.iloadN X0.here hx rfl (hb hby d52_16_0) rfl ?_
    show SS pP eE bS s₁ (mkF mM 1 (Lc_comp1_s2_0 a1) [(.int (2 : Int32))]) _
    refine st101 _ ?_
    show SS pP eE bS T101 (mkF mM 3 (Lc_comp1_s2_0 a1) [(.ref b101)]) _
    refine XS.astoreN X101.here hx rfl (hb hby d52_16_3) rfl rfl (l' := (Lc_comp1_s2_1 a1 b101)) rfl ?_
    refine XS.aloadN X101.here hx rfl (hb hby d52_16_4) rfl rfl ?_
    refine XS.iloadN X101.here hx rfl (hb hby d52_16_5) rfl ?_
    refine XS.aloadN X101.here hx rfl (hb hby d52_16_6) rfl rfl ?_
    show SS pP eE bS T101 (mkF mM 7 (Lc_comp1_s2_1 a1 b101) [(.ref b101), (.int (0 : Int32)), (.ref a1)]) _
    refine XS.iconst X101.here hx rfl (hb hby d52_16_7) ?_
    refine XS.iloadN X101.here hx rfl (hb hby d52_16_8) rfl ?_
    show SS pP eE bS T101 (mkF mM 9 (Lc_comp1_s2_1 a1 b101) [(.int (2 : Int32)), (.int (0 : Int32)), (.ref b101), (.int (0 : Int32)), (.ref a1)]) _
    refine st102 _ ?_
    show SS pP eE bS T102 (mkF mM 12 (Lc_comp1_s2_1 a1 b101) [(.int (2 : Int32))]) _
    refine XS.istore X102.here hx rfl (hb hby d52_16_12) rfl (l' := (Lc_comp1_s2_2 a1 b101)) rfl ?_
    refine XS.iload X102.here hx rfl (hb hby d52_16_14) rfl ?_
    refine XS.iloadN X102.here hx rfl (hb hby d52_16_16) rfl ?_
    refine XS.icmpYes X102.here hx rfl (pc0 := 17) (pc' := 57) rfl (hb hby d52_16_17) rfl (teq (by decide : (2 : Int32) = (2 : Int32))).1 (by decide) (by decide) ?_
    show SS pP eE bS T102 (mkF mM 57 (Lc_comp1_s2_2 a1 b101) []) _
    refine XS.aloadN X102.here hx rfl (hb hby d52_16_57) rfl rfl ?_
    show SS pP eE bS T102 (mkF mM 58 (Lc_comp1_s2_2 a1 b101) [(.ref b101)]) _
    jvm_step X102.here [X102.here.top, hx, (hb hby d52_16_58), X102.method', Bd.returns, Value.isRef, FieldType.isReference]
    first | (intro acts; rw [hr _ acts rfl rfl rfl]) | rw [hr _ _ rfl rfl rfl]
    exact Steps.refl _
  · show Q_comp1_s2 Z a1 k1 c0 c1 h0 n0 _ T102.heap _
    rw [e102]
    exact ⟨b101, k101, rfl, N102, K107, p102_V_a2, (by omega)⟩
abbrev c52_15 := jdk_52_method_15_code
theorem d52_15_0 : decode c52_15 0 = .ok (.iload_n 1, 1) := by decide +kernel
theorem d52_15_1 : decode c52_15 1 = .ok (.aload_n 0, 1) := by decide +kernel
theorem d52_15_2 : decode c52_15 2 = .ok (.arraylength, 1) := by decide +kernel
theorem d52_15_3 : decode c52_15 3 = .ok (.isub, 1) := by decide +kernel
theorem d52_15_4 : decode c52_15 4 = .ok (.bipush 31, 2) := by decide +kernel
theorem d52_15_6 : decode c52_15 6 = .ok (.iushr, 1) := by decide +kernel
theorem d52_15_7 : decode c52_15 7 = .ok (.i2b, 1) := by decide +kernel
theorem d52_15_8 : decode c52_15 8 = .ok (.ireturn, 1) := by decide +kernel
abbrev y37_ : MethodName := ⟨"java/lang/StringUTF16", "coderFromArrayLen", "([BI)B"⟩
def Q_coder_s2 (Z : State) (a1 : Addr) (k1 : ClassId) (vs : List Value) (h0 : Heap) (n0 : Nat) (xv : Option Value) (xh : Heap) (xL : List Loc) : Prop := xv = some (.int (0 : Int32)) ∧ Fr n0 xL ∧ xh = h0
theorem ef_coder_s2 (mM : MethodId) (a1 : Addr) (k1 : ClassId) (vs : List Value) : entryFrame mM #[(.ref a1), (.int (2 : Int32))] 2 = mkF mM 0 #[.val (.ref a1), .val (.int (2 : Int32))] [] := by
  first | (simp [entryFrame, mkF, argsToLocals, Value.category]; done) | rfl
theorem rm_coder_s2 (l : Launch) (Z : State) (a0 : Array Value) (hw : HW a0 Z) (ws : List Jvm.Cond) (a1 : Addr) (k1 : ClassId) (vs : List Value) (h0 : Heap) (n0 : Nat) (Z0 : n0 ≤ h0.size) (V_a1 : Arv Z h0 a1 k1 .byte (2 : Int32) vs (.int (0 : Int32))) :
    MetFree l y37_ (head1 (Jvm.Cond.code y37_ jdk_52_method_15_code 2 (some .byte) :: ws) r0_0_0_0) (fun xa xU => xa = #[(.ref a1), (.int (2 : Int32))] ∧ Z.Warmed39 xU.vm ∧ xU.heap = h0) (fun _ _ _ _ _ => True) (fun _ xU xo xU' => ∃ xv xL, xo = .returned xv ∧ Q_coder_s2 Z a1 k1 vs h0 n0 xv xU'.heap xL ∧ FrameEnd xU xo xU' xL r0_0_0_0.cells r0_0_0_0.slots) := by
  refine MetFree.of_bodySF (plainFor_of_name pn_java_lang_StringUTF16) hisR ?_
  intro pP eE sS mM argS bS methS cC s₁ Bd hml0 hP hK
  obtain ⟨rfl, hZ, hh⟩ := hP
  have hx := Bd.exec
  have hby := Bd.bytes
  have hml : cC.maxLocals = 2 := hml0
  have hown : sS.vm.findClass "java/lang/StringUTF16" = some mM.cls := findClass_of_methodNamed Bd.named
  have hnm := (name_of_methodNamed Bd.named Bd.method).1
  have X0 : Stand pP l eE r0_0_0_0 sS mM #[(.ref a1), (.int (2 : Int32))] bS methS cC s₁ [] 0 0 := Stand.of_body Bd
  have e0 : s₁.heap = h0 := by rw [← hh, Bd.state]; rfl
  have N0 := Fr.nil n0
  obtain ⟨cl101, Ar101, q101, S101, Ng101, Ha101, Ga101⟩ := id V_a1
  obtain ⟨fs, hr, hrun, hended, hW, hsame⟩ := X0.leave (v := some (.int (0 : Int32))) (fun h => by rw [Bd.returns] at h; cases h)
  refine ⟨_, _, castTop (ef_coder_s2 mM a1 k1 vs) ?_, hrun, hended, _, _, rfl, ?_, ⟨_, rfl⟩, hW, hsame.mono (by decide) (by decide)⟩
  · show SS pP eE bS s₁ (mkF mM 0 #[.val (.ref a1), .val (.int (2 : Int32))] []) _
    refine XS.iloadN X0.here hx rfl (hb hby d52_15_0) rfl ?_
    refine XS.aloadN X0.here hx rfl (hb hby d52_15_1) rfl rfl ?_
    show SS pP eE bS s₁ (mkF mM 2 #[.val (.ref a1), .val (.int (2 : Int32))] [(.ref a1), (.int (2 : Int32))]) _
    refine X0.arraylength hx (by rw [e0]; exact Ar101.1) (State.isArrayOf_alike hZ.alike Ar101.2.1) (g := (mkF mM 2 #[.val (.ref a1), .val (.int (2 : Int32))] [(.ref a1), (.int (2 : Int32))])) rfl rfl (hb hby d52_15_2) _ ?_
    rw [len_of S101 Ng101]
    show SS pP eE bS s₁ (mkF mM 3 #[.val (.ref a1), .val (.int (2 : Int32))] [(.int (2 : Int32)), (.int (2 : Int32))]) _
    refine XS.isub X0.here hx rfl (hb hby d52_15_3) rfl ?_
    refine XS.bipush X0.here hx rfl (hb hby d52_15_4) ?_
    refine XS.iushr X0.here hx rfl (hb hby d52_15_6) rfl ?_
    refine XS.i2b X0.here hx rfl (hb hby d52_15_7) rfl ?_
    show SS pP eE bS s₁ (mkF mM 8 #[.val (.ref a1), .val (.int (2 : Int32))] [(.int (0 : Int32))]) _
    exact retN X0 hx (t := .byte) Bd.returns (by simp) (hb hby d52_15_8) hr
  · show Q_coder_s2 Z a1 k1 vs h0 n0 _ s₁.heap _
    rw [e0]
    exact ⟨rfl, N0, rfl⟩
abbrev c42_149 := jdk_42_method_149_code
theorem d42_149_0 : decode c42_149 0 = .ok (.aload_n 0, 1) := by decide +kernel
theorem d42_149_1 : decode c42_149 1 = .ok (.invokespecial 1, 3) := by decide +kernel
theorem d42_149_4 : decode c42_149 4 = .ok (.iload_n 3, 1) := by decide +kernel
theorem d42_149_5 : decode c42_149 5 = .ok (.ifCond .ne 22, 3) := by decide +kernel
theorem d42_149_27 : decode c42_149 27 = .ok (.getstatic 38, 3) := by decide +kernel
theorem d42_149_30 : decode c42_149 30 = .ok (.ifCond .eq 28, 3) := by decide +kernel
theorem d42_149_33 : decode c42_149 33 = .ok (.aload_n 1, 1) := by decide +kernel
theorem d42_149_34 : decode c42_149 34 = .ok (.iload_n 2, 1) := by decide +kernel
theorem d42_149_35 : decode c42_149 35 = .ok (.iload_n 3, 1) := by decide +kernel
theorem d42_149_36 : decode c42_149 36 = .ok (.invokestatic 177, 3) := by decide +kernel
theorem pd_31 : parseMethodDescriptor "([CII)[B" = some ⟨[(.array .char), .int, .int], some (.array .byte)⟩ := by decide +kernel
theorem d42_149_39 : decode c42_149 39 = .ok (.astore 5, 2) := by decide +kernel
theorem d42_149_41 : decode c42_149 41 = .ok (.aload_n 0, 1) := by decide +kernel
theorem d42_149_42 : decode c42_149 42 = .ok (.aload 5, 2) := by decide +kernel
theorem d42_149_44 : decode c42_149 44 = .ok (.iload_n 3, 1) := by decide +kernel
theorem d42_149_45 : decode c42_149 45 = .ok (.invokestatic 47, 3) := by decide +kernel
theorem pd_33 : parseMethodDescriptor "([BI)B" = some ⟨[(.array .byte), .int], some .byte⟩ := by decide +kernel
theorem d42_149_48 : decode c42_149 48 = .ok (.putfield 15, 3) := by decide +kernel
theorem d42_149_51 : decode c42_149 51 = .ok (.aload_n 0, 1) := by decide +kernel
theorem d42_149_52 : decode c42_149 52 = .ok (.aload 5, 2) := by decide +kernel
theorem d42_149_54 : decode c42_149 54 = .ok (.putfield 9, 3) := by decide +kernel
theorem d42_149_57 : decode c42_149 57 = .ok (.return_, 1) := by decide +kernel
abbrev r2_1_2_35 : Room := { frames := 2, cells := 1, slots := 2, locals := 35 }
abbrev y38_ : MethodName := ⟨"java/lang/String", "<init>", "([CIILjava/lang/Void;)V"⟩
def Q_init4_s2 (Z : State) (o : Addr) (a1 : Addr) (k1 : ClassId) (u1 : Value) (u2 : Value) (cs : Int32) (c0 : Int32) (c1 : Int32) (h0 : Heap) (n0 : Nat) (xv : Option Value) (xh : Heap) (xL : List Loc) : Prop := ∃ b : Addr, ∃ k2 : ClassId, xv = none ∧ Fr n0 xL ∧ Keep h0 xh [o] ∧ Exa Z xh o "java/lang/String" ∧ Fld Z xh o "java/lang/String" "value" "[B" (.ref b) ∧ Fld Z xh o "java/lang/String" "coder" "B" (.int (0 : Int32)) ∧ Arv Z xh b k2 .byte (2 : Int32) [(.int c0.toInt8.toInt32), (.int c1.toInt8.toInt32)] (.int (0 : Int32)) ∧ @LE.le Nat _ h0.size b
abbrev Lc_init4_s2_0 (o : Addr) (a1 : Addr) : Array Slot := #[.val (.ref o), .val (.ref a1), .val (.int (0 : Int32)), .val (.int (2 : Int32)), .val .null, .unset]
abbrev Lc_init4_s2_1 (o : Addr) (a1 : Addr) (b_104 : Addr) : Array Slot := #[.val (.ref o), .val (.ref a1), .val (.int (0 : Int32)), .val (.int (2 : Int32)), .val .null, .val (.ref b_104)]
theorem ef_init4_s2 (mM : MethodId) (o : Addr) (a1 : Addr) (k1 : ClassId) (u1 : Value) (u2 : Value) (cs : Int32) (c0 : Int32) (c1 : Int32) : entryFrame mM #[(.ref o), (.ref a1), (.int (0 : Int32)), (.int (2 : Int32)), .null] 6 = mkF mM 0 #[.val (.ref o), .val (.ref a1), .val (.int (0 : Int32)), .val (.int (2 : Int32)), .val .null, .unset] [] := by
  first | (simp [entryFrame, mkF, argsToLocals, Value.category]; done) | rfl
theorem rm_init4_s2 (l : Launch) (Z : State) (a0 : Array Value) (hw : HW a0 Z) (ws : List Jvm.Cond) (o : Addr) (a1 : Addr) (k1 : ClassId) (u1 : Value) (u2 : Value) (cs : Int32) (c0 : Int32) (c1 : Int32) (h0 : Heap) (n0 : Nat) (Z0 : n0 ≤ h0.size) (E_o : Exa Z h0 o "java/lang/String") (F_value_o : Fld Z h0 o "java/lang/String" "value" "[B" u1) (F_coder_o : Fld Z h0 o "java/lang/String" "coder" "B" u2) (V_a1 : Arv Z h0 a1 k1 .char (2 : Int32) [(.int c0), (.int c1)] (.int (0 : Int32))) (g_o : @LE.le Nat _ n0 o) (OL : Old Z n0 h0) (S_COMPACT_STRINGS : Sta Z Z.heap "java/lang/String" "COMPACT_STRINGS" "Z" (.int cs)) (hcs : ¬ (cs = (0 : Int32))) (q0 : ¬ ((255 : Int32) < c0)) (q1 : ¬ ((255 : Int32) < c1)) :
    MetFree l y38_ (head1 (Jvm.Cond.code y38_ jdk_42_method_149_code 6 none :: ws) r2_1_2_35) (fun xa xU => xa = #[(.ref o), (.ref a1), (.int (0 : Int32)), (.int (2 : Int32)), .null] ∧ Z.Warmed39 xU.vm ∧ xU.heap = h0) (fun _ _ _ _ _ => True) (fun _ xU xo xU' => ∃ xv xL, xo = .returned xv ∧ Q_init4_s2 Z o a1 k1 u1 u2 cs c0 c1 h0 n0 xv xU'.heap xL ∧ FrameEnd xU xo xU' xL r2_1_2_35.cells r2_1_2_35.slots) := by
  refine MetFree.of_bodySF (plainFor_of_name pn_java_lang_String) hisR ?_
  intro pP eE sS mM argS bS methS cC s₁ Bd hml0 hP hK
  obtain ⟨rfl, hZ, hh⟩ := hP
  have hx := Bd.exec
  have hby := Bd.bytes
  have hml : cC.maxLocals = 6 := hml0
  have hown : sS.vm.findClass "java/lang/String" = some mM.cls := findClass_of_methodNamed Bd.named
  have hnm := (name_of_methodNamed Bd.named Bd.method).1
  have X0 : Stand pP l eE r2_1_2_35 sS mM #[(.ref o), (.ref a1), (.int (0 : Int32)), (.int (2 : Int32)), .null] bS methS cC s₁ [] 0 0 := Stand.of_body Bd
  have e0 : s₁.heap = h0 := by rw [← hh, Bd.state]; rfl
  have N0 := Fr.nil n0
  obtain ⟨T101, X101, e101, st101⟩ := initO X0 hx hZ hown (wi hw 11 rfl) (wi hw 12 rfl) (wi hw 13 rfl) e0 (g := (mkF mM 1 (Lc_init4_s2_0 o a1) [(.ref o)])) rfl (by rw [hml]; rfl) rfl (hb hby d42_149_1) (by decide) (W := 0) (by show 2 * 0 + _ ≤ _; exact Nat.le_of_eq rfl) (by decide)
  have c102_S_COMPACT_STRINGS : Sta Z h0 "java/lang/String" "COMPACT_STRINGS" "Z" (.int cs) := Sta.ext OL.2 S_COMPACT_STRINGS
  obtain ⟨T103, X103, e103, st103⟩ := getS2 X101 hx hZ hown (host := "") (Or.inl (wi hw 67 rfl)) Via.refl e101 c102_S_COMPACT_STRINGS (g := (mkF mM 27 (Lc_init4_s2_0 o a1) [])) rfl (hb hby d42_149_27)
  obtain ⟨_, _, ⟨T104, L104, k104, n104⟩, -, X104, ⟨Lc104, hQ104, l104, y104, z104⟩, st104⟩ := Jvm.LawKit.callS X103 hx (y := y36_) hown (mvT hZ (wi hw 254 rfl)) (mvT hZ (wi hw 255 rfl)) (mvT hZ (wi hw 256 rfl)) (mvT hZ (wi hw 257 rfl)) (by decide) (backOf (W := 0) (rm_comp1_s2 l Z a0 hw [] a1 k1 c0 c1 h0 n0 (by omega) V_a1 q0 q1) hZ (wi hw 257 rfl) (wi hw 256 rfl) (by decide) (by decide)) (g := (mkF mM 36 (Lc_init4_s2_0 o a1) [(.int (2 : Int32)), (.int (0 : Int32)), (.ref a1)])) rfl (by rw [hml]; rfl) (argsL := [(.ref a1), (.int (0 : Int32)), (.int (2 : Int32))]) (rest := []) (lenOf pd_31 rfl) rfl (by show 2 * 0 + _ ≤ _; exact Nat.le_of_eq rfl) (hb hby d42_149_36) (fun _ _ => ⟨rfl, e103, ble rfl, ble rfl⟩)
  dsimp only [Pt.U, Pt.locs, Pt.cells, Pt.slots] at X104 l104 y104 z104 st104 hQ104
  subst y104 z104
  obtain ⟨h104, e104⟩ : ∃ z, T104.heap = z := ⟨_, rfl⟩
  rw [e104] at hQ104
  obtain ⟨b_104, k2_104, rfl, N104q, Kp104, p104_V_b, p104_gh_b⟩ := hQ104
  have Sz1 : h0.size ≤ h104.size := Kp104.1
  have N104 : Fr n0 L104 := by rw [l104]; exact Fr.app N0 N104q
  obtain ⟨_, _, ⟨T105, L105, k105, n105⟩, -, X105, ⟨Lc105, hQ105, l105, y105, z105⟩, st105⟩ := Jvm.LawKit.callS X104 hx (y := y37_) hown (mvT hZ (wi hw 261 rfl)) (mvT hZ (wi hw 262 rfl)) (mvT hZ (wi hw 256 rfl)) (mvT hZ (wi hw 263 rfl)) (by decide) (backOf (W := 1) (rm_coder_s2 l Z a0 hw [] b_104 k2_104 [(.int c0.toInt8.toInt32), (.int c1.toInt8.toInt32)] h104 n0 (by omega) p104_V_b) hZ (wi hw 263 rfl) (wi hw 256 rfl) (by decide) (by decide)) (g := (mkF mM 45 (Lc_init4_s2_1 o a1 b_104) [(.int (2 : Int32)), (.ref b_104), (.ref o)])) rfl (by rw [hml]; rfl) (argsL := [(.ref b_104), (.int (2 : Int32))]) (rest := [(.ref o)]) (lenOf pd_33 rfl) rfl (by show 2 * 0 + _ ≤ _; exact Nat.le_of_eq rfl) (hb hby d42_149_45) (fun _ _ => ⟨rfl, e104, ble rfl, ble rfl⟩)
  dsimp only [Pt.U, Pt.locs, Pt.cells, Pt.slots] at X105 l105 y105 z105 st105 hQ105
  subst y105 z105
  obtain ⟨h105, e105⟩ : ∃ z, T105.heap = z := ⟨_, rfl⟩
  rw [e105] at hQ105
  obtain ⟨rfl, N105q, eq105⟩ := hQ105
  rw [eq105] at e105
  have N105 : Fr n0 L105 := by rw [l105]; exact Fr.app N104 N105q
  have c106_F_coder_o : Fld Z h104 o "java/lang/String" "coder" "B" u2 := F_coder_o.keep Kp104 nin0
  have c107_E_o : Exa Z h104 o "java/lang/String" := E_o.keep Kp104
  obtain ⟨T108, h108, X108, e108, W108, st108⟩ := putFN X105 hx hZ hown (wi hw 21 rfl) Via.refl e105 c106_F_coder_o c107_E_o (Or.inr ⟨(wi hw 17 rfl), rfl, hnm⟩) (wi hw 1 rfl) (ty := .byte) (v' := (.int (0 : Int32))) (by decide) (rfl) (rfl) (g := (mkF mM 48 (Lc_init4_s2_1 o a1 b_104) [(.int (0 : Int32)), (.ref o)])) rfl rfl (hb hby d42_149_48)
  have Sz2 : h104.size ≤ h108.size := Nat.le_of_eq (Wr.size W108).symm
  have Fw108 : Fld Z h108 o "java/lang/String" "coder" "B" (.int (0 : Int32)) := Fld.same W108 c106_F_coder_o
  have N108 := Fr.snoc X108 N105 g_o
  have c109_F_value_o : Fld Z h104 o "java/lang/String" "value" "[B" u1 := F_value_o.keep Kp104 nin0
  have c110_F_value_o : Fld Z h108 o "java/lang/String" "value" "[B" u1 := Fld.other W108 c109_F_value_o (Or.inr (slot_ne (Or.inr (wi hw 16 rfl)) (Or.inr (wi hw 17 rfl)) (by decide) (t := (.array .byte)) (t' := .byte) (by decide) (by decide)))
  have c111_E_o : Exa Z h108 o "java/lang/String" := Exa.wr W108 c107_E_o
  obtain ⟨T112, h112, X112, e112, W112, st112⟩ := putF X108 hx hZ hown (host := "") (Or.inl (wi hw 20 rfl)) Via.refl e108 c110_F_value_o c111_E_o (Or.inr ⟨(wi hw 16 rfl), rfl, hnm⟩) (wi hw 1 rfl) (ty := (.array .byte)) (by decide) rfl rfl (g := (mkF mM 54 (Lc_init4_s2_1 o a1 b_104) [(.ref b_104), (.ref o)])) rfl rfl (hb hby d42_149_54)
  have Sz3 : h108.size ≤ h112.size := Nat.le_of_eq (Wr.size W112).symm
  have Fw112 : Fld Z h112 o "java/lang/String" "value" "[B" (.ref b_104) := Fld.same W112 c110_F_value_o
  have N112 := Fr.snoc X112 N108 g_o
  have lt_b_104 : @LT.lt Nat _ b_104 h104.size := p104_V_b.lt
  have lt_o : @LT.lt Nat _ o h0.size := E_o.lt
  have ne_b_104_o_113 : b_104 ≠ o := (by omega : @Ne Nat b_104 o)
  have c114_V_b_104 : Arv Z h108 b_104 k2_104 .byte (2 : Int32) [(.int c0.toInt8.toInt32), (.int c1.toInt8.toInt32)] (.int (0 : Int32)) := p104_V_b.other W108 ne_b_104_o_113
  have c115_V_b_104 : Arv Z h112 b_104 k2_104 .byte (2 : Int32) [(.int c0.toInt8.toInt32), (.int c1.toInt8.toInt32)] (.int (0 : Int32)) := c114_V_b_104.other W112 ne_b_104_o_113
  have c116_E_o : Exa Z h112 o "java/lang/String" := Exa.wr W112 c111_E_o
  have c117_F_coder_o : Fld Z h112 o "java/lang/String" "coder" "B" (.int (0 : Int32)) := Fld.other W112 Fw108 (Or.inr (slot_ne (Or.inr (wi hw 17 rfl)) (Or.inr (wi hw 16 rfl)) (by decide) (t := .byte) (t' := (.array .byte)) (by decide) (by decide)))
  have K118 : Keep h0 h104 [o] := (Keep.refl h0 [o]).trans Kp104 all0
  have K119 : Keep h0 h108 [o] := K118.wr W108 (Or.inl (List.mem_of_getElem? (i := 0) rfl))
  have K120 : Keep h0 h112 [o] := K119.wr W112 (Or.inl (List.mem_of_getElem? (i := 0) rfl))
  obtain ⟨fs, hr, hrun, hended, hW, hsame⟩ := X112.leave (v := none) (fun _ => rfl)
  refine ⟨_, _, castTop (ef_init4_s2 mM o a1 k1 u1 u2 cs c0 c1) ?_, hrun, hended, _, _, rfl, ?_, ⟨_, rfl⟩, hW, hsame.mono (by decide) (by decide)⟩
  · show SS pP eE bS s₁ (mkF mM 0 (Lc_init4_s2_0 o a1) []) _
    refine XS.aloadN X0.here hx rfl (hb hby d42_149_0) rfl rfl ?_
    show SS pP eE bS s₁ (mkF mM 1 (Lc_init4_s2_0 o a1) [(.ref o)]) _
    refine st101 _ ?_
    show SS pP eE bS T101 (mkF mM 4 (Lc_init4_s2_0 o a1) []) _
    refine XS.iloadN X101.here hx rfl (hb hby d42_149_4) rfl ?_
    refine XS.ifYes X101.here hx rfl (pc0 := 5) (pc' := 27) rfl (hb hby d42_149_5) rfl ((if0 _ _).trans (feq (by decide : ¬ ((2 : Int32) = (0 : Int32)))).2) (by decide) (by decide) ?_
    show SS pP eE bS T101 (mkF mM 27 (Lc_init4_s2_0 o a1) []) _
    refine st103 _ ?_
    show SS pP eE bS T103 (mkF mM 30 (Lc_init4_s2_0 o a1) [(.int cs)]) _
    refine XS.ifNo X103.here hx rfl (hb hby d42_149_30) rfl ((if0 _ _).trans (feq hcs).1) ?_
    refine XS.aloadN X103.here hx rfl (hb hby d42_149_33) rfl rfl ?_
    refine XS.iloadN X103.here hx rfl (hb hby d42_149_34) rfl ?_
    refine XS.iloadN X103.here hx rfl (hb hby d42_149_35) rfl ?_
    show SS pP eE bS T103 (mkF mM 36 (Lc_init4_s2_0 o a1) [(.int (2 : Int32)), (.int (0 : Int32)), (.ref a1)]) _
    refine st104 _ ?_
    show SS pP eE bS T104 (mkF mM 39 (Lc_init4_s2_0 o a1) [(.ref b_104)]) _
    refine XS.astore X104.here hx rfl (hb hby d42_149_39) rfl rfl (l' := (Lc_init4_s2_1 o a1 b_104)) rfl ?_
    refine XS.aloadN X104.here hx rfl (hb hby d42_149_41) rfl rfl ?_
    refine XS.aload X104.here hx rfl (hb hby d42_149_42) rfl rfl ?_
    refine XS.iloadN X104.here hx rfl (hb hby d42_149_44) rfl ?_
    show SS pP eE bS T104 (mkF mM 45 (Lc_init4_s2_1 o a1 b_104) [(.int (2 : Int32)), (.ref b_104), (.ref o)]) _
    refine st105 _ ?_
    show SS pP eE bS T105 (mkF mM 48 (Lc_init4_s2_1 o a1 b_104) [(.int (0 : Int32)), (.ref o)]) _
    refine st108 _ ?_
    show SS pP eE bS T108 (mkF mM 51 (Lc_init4_s2_1 o a1 b_104) []) _
    refine XS.aloadN X108.here hx rfl (hb hby d42_149_51) rfl rfl ?_
    refine XS.aload X108.here hx rfl (hb hby d42_149_52) rfl rfl ?_
    show SS pP eE bS T108 (mkF mM 54 (Lc_init4_s2_1 o a1 b_104) [(.ref b_104), (.ref o)]) _
    refine st112 _ ?_
    show SS pP eE bS T112 (mkF mM 57 (Lc_init4_s2_1 o a1 b_104) []) _
    exact X112.returnOut hx Bd.returns (hb hby d42_149_57) hr
  · show Q_init4_s2 Z o a1 k1 u1 u2 cs c0 c1 h0 n0 _ T112.heap _
    rw [e112]
    exact ⟨b_104, k2_104, rfl, N112, K120, c116_E_o, Fw112, c117_F_coder_o, c115_V_b_104, (by omega)⟩
abbrev c42_3 := jdk_42_method_3_code
theorem d42_3_0 : decode c42_3 0 = .ok (.aload_n 0, 1) := by decide +kernel
theorem d42_3_1 : decode c42_3 1 = .ok (.aload_n 1, 1) := by decide +kernel
theorem d42_3_2 : decode c42_3 2 = .ok (.iconst 0, 1) := by decide +kernel
theorem d42_3_3 : decode c42_3 3 = .ok (.aload_n 1, 1) := by decide +kernel
theorem d42_3_4 : decode c42_3 4 = .ok (.arraylength, 1) := by decide +kernel
theorem d42_3_5 : decode c42_3 5 = .ok (.aconst_null, 1) := by decide +kernel
theorem d42_3_6 : decode c42_3 6 = .ok (.invokespecial 27, 3) := by decide +kernel
theorem pd_1 : parseMethodDescriptor "([CIILjava/lang/Void;)V" = some ⟨[(.array .char), .int, .int, (.object "java/lang/Void")], none⟩ := by decide +kernel
theorem d42_3_9 : decode c42_3 9 = .ok (.return_, 1) := by decide +kernel
abbrev r3_1_2_52 : Room := { frames := 3, cells := 1, slots := 2, locals := 52 }
abbrev y39_ : MethodName := ⟨"java/lang/String", "<init>", "([C)V"⟩
def Q_init1_s2 (Z : State) (o : Addr) (a1 : Addr) (k1 : ClassId) (u1 : Value) (u2 : Value) (cs : Int32) (c0 : Int32) (c1 : Int32) (h0 : Heap) (n0 : Nat) (xv : Option Value) (xh : Heap) (xL : List Loc) : Prop := ∃ b : Addr, ∃ k2 : ClassId, xv = none ∧ Fr n0 xL ∧ Keep h0 xh [o] ∧ Exa Z xh o "java/lang/String" ∧ Fld Z xh o "java/lang/String" "value" "[B" (.ref b) ∧ Fld Z xh o "java/lang/String" "coder" "B" (.int (0 : Int32)) ∧ Arv Z xh b k2 .byte (2 : Int32) [(.int c0.toInt8.toInt32), (.int c1.toInt8.toInt32)] (.int (0 : Int32)) ∧ @LE.le Nat _ h0.size b
theorem ef_init1_s2 (mM : MethodId) (o : Addr) (a1 : Addr) (k1 : ClassId) (u1 : Value) (u2 : Value) (cs : Int32) (c0 : Int32) (c1 : Int32) : entryFrame mM #[(.ref o), (.ref a1)] 2 = mkF mM 0 #[.val (.ref o), .val (.ref a1)] [] := by
  first | (simp [entryFrame, mkF, argsToLocals, Value.category]; done) | rfl
theorem rm_init1_s2 (l : Launch) (Z : State) (a0 : Array Value) (hw : HW a0 Z) (ws : List Jvm.Cond) (o : Addr) (a1 : Addr) (k1 : ClassId) (u1 : Value) (u2 : Value) (cs : Int32) (c0 : Int32) (c1 : Int32) (h0 : Heap) (n0 : Nat) (Z0 : n0 ≤ h0.size) (E_o : Exa Z h0 o "java/lang/String") (F_value_o : Fld Z h0 o "java/lang/String" "value" "[B" u1) (F_coder_o : Fld Z h0 o "java/lang/String" "coder" "B" u2) (V_a1 : Arv Z h0 a1 k1 .char (2 : Int32) [(.int c0), (.int c1)] (.int (0 : Int32))) (g_o : @LE.le Nat _ n0 o) (OL : Old Z n0 h0) (S_COMPACT_STRINGS : Sta Z Z.heap "java/lang/String" "COMPACT_STRINGS" "Z" (.int cs)) (hcs : ¬ (cs = (0 : Int32))) (q0 : ¬ ((255 : Int32) < c0)) (q1 : ¬ ((255 : Int32) < c1)) :
    MetFree l y39_ (head1 (Jvm.Cond.code y39_ jdk_42_method_3_code 2 none :: ws) r3_1_2_52) (fun xa xU => xa = #[(.ref o), (.ref a1)] ∧ Z.Warmed39 xU.vm ∧ xU.heap = h0) (fun _ _ _ _ _ => True) (fun _ xU xo xU' => ∃ xv xL, xo = .returned xv ∧ Q_init1_s2 Z o a1 k1 u1 u2 cs c0 c1 h0 n0 xv xU'.heap xL ∧ FrameEnd xU xo xU' xL r3_1_2_52.cells r3_1_2_52.slots) := by
  refine MetFree.of_bodySF (plainFor_of_name pn_java_lang_String) hisR ?_
  intro pP eE sS mM argS bS methS cC s₁ Bd hml0 hP hK
  obtain ⟨rfl, hZ, hh⟩ := hP
  have hx := Bd.exec
  have hby := Bd.bytes
  have hml : cC.maxLocals = 2 := hml0
  have hown : sS.vm.findClass "java/lang/String" = some mM.cls := findClass_of_methodNamed Bd.named
  have hnm := (name_of_methodNamed Bd.named Bd.method).1
  have X0 : Stand pP l eE r3_1_2_52 sS mM #[(.ref o), (.ref a1)] bS methS cC s₁ [] 0 0 := Stand.of_body Bd
  have e0 : s₁.heap = h0 := by rw [← hh, Bd.state]; rfl
  have N0 := Fr.nil n0
  obtain ⟨cl101, Ar101, q101, S101, Ng101, Ha101, Ga101⟩ := id V_a1
  obtain ⟨_, _, ⟨T102, L102, k102, n102⟩, -, X102, ⟨Lc102, hQ102, l102, y102, z102⟩, st102⟩ := X0.specialBack hx (y := y38_) rfl hown (mvT hZ (wi hw 7 rfl)) (mvT hZ (wi hw 8 rfl)) (mvT hZ (wi hw 10 rfl)) (by decide) (backOf (W := 0) (rm_init4_s2 l Z a0 hw [] o a1 k1 u1 u2 cs c0 c1 h0 n0 (by omega) E_o F_value_o F_coder_o V_a1 g_o OL S_COMPACT_STRINGS hcs q0 q1) hZ (wi hw 10 rfl) (wi hw 2 rfl) (by decide) (by decide)) (g := (mkF mM 6 #[.val (.ref o), .val (.ref a1)] [.null, (.int (2 : Int32)), (.int (0 : Int32)), (.ref a1), (.ref o)])) rfl (by rw [hml]; rfl) (Steps.refl _) (a := o) (argsL := [(.ref a1), (.int (0 : Int32)), (.int (2 : Int32)), .null]) (rest := []) (lenOf pd_1 rfl) rfl (by show 2 * 0 + _ ≤ _; exact Nat.le_of_eq rfl) (hb hby d42_3_6) (fun _ _ => ⟨rfl, e0, ble rfl, ble rfl⟩)
  dsimp only [Pt.U, Pt.locs, Pt.cells, Pt.slots] at X102 l102 y102 z102 st102 hQ102
  subst y102 z102
  obtain ⟨h102, e102⟩ : ∃ z, T102.heap = z := ⟨_, rfl⟩
  rw [e102] at hQ102
  obtain ⟨b_102, k2_102, rfl, N102q, Kp102, p102_E_o, p102_F_value_o, p102_F_coder_o, p102_V_b, p102_gh_b⟩ := hQ102
  have Sz1 : h0.size ≤ h102.size := Kp102.1
  have N102 : Fr n0 L102 := by rw [l102]; exact Fr.app N0 N102q
  have K103 : Keep h0 h102 [o] := (Keep.refl h0 [o]).trans Kp102 (allS (Or.inl (List.mem_of_getElem? (i := 0) rfl)) all0)
  obtain ⟨fs, hr, hrun, hended, hW, hsame⟩ := X102.leave (v := none) (fun _ => rfl)
  refine ⟨_, _, castTop (ef_init1_s2 mM o a1 k1 u1 u2 cs c0 c1) ?_, hrun, hended, _, _, rfl, ?_, ⟨_, rfl⟩, hW, hsame.mono (by decide) (by decide)⟩
  · show SS pP eE bS s₁ (mkF mM 0 #[.val (.ref o), .val (.ref a1)] []) _
    refine XS.aloadN X0.here hx rfl (hb hby d42_3_0) rfl rfl ?_
    refine XS.aloadN X0.here hx rfl (hb hby d42_3_1) rfl rfl ?_
    refine XS.iconst X0.here hx rfl (hb hby d42_3_2) ?_
    refine XS.aloadN X0.here hx rfl (hb hby d42_3_3) rfl rfl ?_
    show SS pP eE bS s₁ (mkF mM 4 #[.val (.ref o), .val (.ref a1)] [(.ref a1), (.int (0 : Int32)), (.ref a1), (.ref o)]) _
    refine X0.arraylength hx (by rw [e0]; exact Ar101.1) (State.isArrayOf_alike hZ.alike Ar101.2.1) (g := (mkF mM 4 #[.val (.ref o), .val (.ref a1)] [(.ref a1), (.int (0 : Int32)), (.ref a1), (.ref o)])) rfl rfl (hb hby d42_3_4) _ ?_
    rw [len_of S101 Ng101]
    show SS pP eE bS s₁ (mkF mM 5 #[.val (.ref o), .val (.ref a1)] [(.int (2 : Int32)), (.int (0 : Int32)), (.ref a1), (.ref o)]) _
    refine XS.aconstNull X0.here hx rfl (hb hby d42_3_5) ?_
    show SS pP eE bS s₁ (mkF mM 6 #[.val (.ref o), .val (.ref a1)] [.null, (.int (2 : Int32)), (.int (0 : Int32)), (.ref a1), (.ref o)]) _
    refine st102.trans ?_
    show SS pP eE bS T102 (mkF mM 9 #[.val (.ref o), .val (.ref a1)] []) _
    exact X102.returnOut hx Bd.returns (hb hby d42_3_9) hr
  · show Q_init1_s2 Z o a1 k1 u1 u2 cs c0 c1 h0 n0 _ T102.heap _
    rw [e102]
    exact ⟨b_102, k2_102, rfl, N102, K103, p102_E_o, p102_F_value_o, p102_F_coder_o, p102_V_b, (by omega)⟩
def Q_comp0_s3 (Z : State) (a1 : Addr) (a2 : Addr) (k1 : ClassId) (k2 : ClassId) (c0 : Int32) (c1 : Int32) (c2 : Int32) (h0 : Heap) (n0 : Nat) (xv : Option Value) (xh : Heap) (xL : List Loc) : Prop := xv = some (.int (3 : Int32)) ∧ Fr n0 xL ∧ Keep h0 xh [a2] ∧ Arv Z xh a2 k2 .byte (3 : Int32) [(.int c0.toInt8.toInt32), (.int c1.toInt8.toInt32), (.int c2.toInt8.toInt32)] (.int (0 : Int32))
abbrev Lc_comp0_s3_0 (a1 : Addr) (a2 : Addr) : Array Slot := #[.val (.ref a1), .val (.int (0 : Int32)), .val (.ref a2), .val (.int (0 : Int32)), .val (.int (3 : Int32)), .unset, .unset]
abbrev Lc_comp0_s3_1 (a1 : Addr) (a2 : Addr) : Array Slot := #[.val (.ref a1), .val (.int (0 : Int32)), .val (.ref a2), .val (.int (0 : Int32)), .val (.int (3 : Int32)), .val (.int (0 : Int32)), .unset]
abbrev Lc_comp0_s3_2 (a1 : Addr) (a2 : Addr) (c0 : Int32) : Array Slot := #[.val (.ref a1), .val (.int (0 : Int32)), .val (.ref a2), .val (.int (0 : Int32)), .val (.int (3 : Int32)), .val (.int (0 : Int32)), .val (.int c0)]
abbrev Lc_comp0_s3_3 (a1 : Addr) (a2 : Addr) (c0 : Int32) : Array Slot := #[.val (.ref a1), .val (.int (1 : Int32)), .val (.ref a2), .val (.int (0 : Int32)), .val (.int (3 : Int32)), .val (.int (0 : Int32)), .val (.int c0)]
abbrev Lc_comp0_s3_4 (a1 : Addr) (a2 : Addr) (c0 : Int32) : Array Slot := #[.val (.ref a1), .val (.int (1 : Int32)), .val (.ref a2), .val (.int (1 : Int32)), .val (.int (3 : Int32)), .val (.int (0 : Int32)), .val (.int c0)]
abbrev Lc_comp0_s3_5 (a1 : Addr) (a2 : Addr) (c0 : Int32) : Array Slot := #[.val (.ref a1), .val (.int (1 : Int32)), .val (.ref a2), .val (.int (1 : Int32)), .val (.int (3 : Int32)), .val (.int (1 : Int32)), .val (.int c0)]
abbrev Lc_comp0_s3_6 (a1 : Addr) (a2 : Addr) (c1 : Int32) : Array Slot := #[.val (.ref a1), .val (.int (1 : Int32)), .val (.ref a2), .val (.int (1 : Int32)), .val (.int (3 : Int32)), .val (.int (1 : Int32)), .val (.int c1)]
abbrev Lc_comp0_s3_7 (a1 : Addr) (a2 : Addr) (c1 : Int32) : Array Slot := #[.val (.ref a1), .val (.int (2 : Int32)), .val (.ref a2), .val (.int (1 : Int32)), .val (.int (3 : Int32)), .val (.int (1 : Int32)), .val (.int c1)]
abbrev Lc_comp0_s3_8 (a1 : Addr) (a2 : Addr) (c1 : Int32) : Array Slot := #[.val (.ref a1), .val (.int (2 : Int32)), .val (.ref a2), .val (.int (2 : Int32)), .val (.int (3 : Int32)), .val (.int (1 : Int32)), .val (.int c1)]
abbrev Lc_comp0_s3_9 (a1 : Addr) (a2 : Addr) (c1 : Int32) : Array Slot := #[.val (.ref a1), .val (.int (2 : Int32)), .val (.ref a2), .val (.int (2 : Int32)), .val (.int (3 : Int32)), .val (.int (2 : Int32)), .val (.int c1)]
abbrev Lc_comp0_s3_10 (a1 : Addr) (a2 : Addr) (c2 : Int32) : Array Slot := #[.val (.ref a1), .val (.int (2 : Int32)), .val (.ref a2), .val (.int (2 : Int32)), .val (.int (3 : Int32)), .val (.int (2 : Int32)), .val (.int c2)]
abbrev Lc_comp0_s3_11 (a1 : Addr) (a2 : Addr) (c2 : Int32) : Array Slot := #[.val (.ref a1), .val (.int (3 : Int32)), .val (.ref a2), .val (.int (2 : Int32)), .val (.int (3 : Int32)), .val (.int (2 : Int32)), .val (.int c2)]
abbrev Lc_comp0_s3_12 (a1 : Addr) (a2 : Addr) (c2 : Int32) : Array Slot := #[.val (.ref a1), .val (.int (3 : Int32)), .val (.ref a2), .val (.int (3 : Int32)), .val (.int (3 : Int32)), .val (.int (2 : Int32)), .val (.int c2)]
abbrev Lc_comp0_s3_13 (a1 : Addr) (a2 : Addr) (c2 : Int32) : Array Slot := #[.val (.ref a1), .val (.int (3 : Int32)), .val (.ref a2), .val (.int (3 : Int32)), .val (.int (3 : Int32)), .val (.int (3 : Int32)), .val (.int c2)]
theorem ef_comp0_s3 (mM : MethodId) (a1 : Addr) (a2 : Addr) (k1 : ClassId) (k2 : ClassId) (c0 : Int32) (c1 : Int32) (c2 : Int32) : entryFrame mM #[(.ref a1), (.int (0 : Int32)), (.ref a2), (.int (0 : Int32)), (.int (3 : Int32))] 7 = mkF mM 0 #[.val (.ref a1), .val (.int (0 : Int32)), .val (.ref a2), .val (.int (0 : Int32)), .val (.int (3 : Int32)), .unset, .unset] [] := by
  first | (simp [entryFrame, mkF, argsToLocals, Value.category]; done) | rfl
theorem rm_comp0_s3 (l : Launch) (Z : State) (a0 : Array Value) (hw : HW a0 Z) (ws : List Jvm.Cond) (a1 : Addr) (a2 : Addr) (k1 : ClassId) (k2 : ClassId) (c0 : Int32) (c1 : Int32) (c2 : Int32) (h0 : Heap) (n0 : Nat) (Z0 : n0 ≤ h0.size) (V_a1 : Arv Z h0 a1 k1 .char (3 : Int32) [(.int c0), (.int c1), (.int c2)] (.int (0 : Int32))) (V_a2 : Arv Z h0 a2 k2 .byte (3 : Int32) [(.int (0 : Int32)), (.int (0 : Int32)), (.int (0 : Int32))] (.int (0 : Int32))) (ne_a1_a2 : @Ne Nat a1 a2) (g_a2 : @LE.le Nat _ n0 a2) (q0 : ¬ ((255 : Int32) < c0)) (q1 : ¬ ((255 : Int32) < c1)) (q2 : ¬ ((255 : Int32) < c2)) :
    MetFree l y35_ (head1 (Jvm.Cond.code y35_ jdk_52_method_21_code 7 (some .int) :: ws) r0_0_0_0) (fun xa xU => xa = #[(.ref a1), (.int (0 : Int32)), (.ref a2), (.int (0 : Int32)), (.int (3 : Int32))] ∧ Z.Warmed39 xU.vm ∧ xU.heap = h0) (fun _ _ _ _ _ => True) (fun _ xU xo xU' => ∃ xv xL, xo = .returned xv ∧ Q_comp0_s3 Z a1 a2 k1 k2 c0 c1 c2 h0 n0 xv xU'.heap xL ∧ FrameEnd xU xo xU' xL r0_0_0_0.cells r0_0_0_0.slots) := by
  refine MetFree.of_bodySF (plainFor_of_name pn_java_lang_StringUTF16) hisR ?_
  intro pP eE sS mM argS bS methS cC s₁ Bd hml0 hP hK
  obtain ⟨rfl, hZ, hh⟩ := hP
  have hx := Bd.exec
  have hby := Bd.bytes
  have hml : cC.maxLocals = 7 := hml0
  have hown : sS.vm.findClass "java/lang/StringUTF16" = some mM.cls := findClass_of_methodNamed Bd.named
  have hnm := (name_of_methodNamed Bd.named Bd.method).1
  have X0 : Stand pP l eE r0_0_0_0 sS mM #[(.ref a1), (.int (0 : Int32)), (.ref a2), (.int (0 : Int32)), (.int (3 : Int32))] bS methS cC s₁ [] 0 0 := Stand.of_body Bd
  have e0 : s₁.heap = h0 := by rw [← hh, Bd.state]; rfl
  have N0 := Fr.nil n0
  obtain ⟨cl101, Ar101, q101, S101, Ng101, Ha101, Ga101⟩ := id V_a1
  have hin101 : ¬ ((0 : Int32) < 0 ∨ cl101.slots.size ≤ ((0 : Int32)).toNatClampNeg) := inb_of S101 ⟨by decide, by decide⟩
  have hat101 : cl101.slots[((0 : Int32)).toNatClampNeg]? = some (.int c0) := Ha101.at hin101 (rfl)
  obtain ⟨cl102, Ar102, q102, S102, Ng102, Ha102, Ga102⟩ := id V_a2
  have hin102 : ¬ ((0 : Int32) < 0 ∨ cl102.slots.size ≤ ((0 : Int32)).toNatClampNeg) := inb_of S102 ⟨by decide, by decide⟩
  obtain ⟨T103, h103, X103, e103, W103, st103⟩ := stB X0 hx hZ e0 Ar102 (j := (0 : Int32)) hin102 (g := (mkF mM 31 (Lc_comp0_s3_2 a1 a2 c0) [(.int (c0.toInt8.toInt32)), (.int (0 : Int32)), (.ref a2)])) rfl rfl (hb hby d52_21_31)
  have Sz1 : h0.size ≤ h103.size := Nat.le_of_eq (Wr.size W103).symm
  have Vs103 := Arv.set Ar102 q102 S102 Ng102 Ha102 Ga102 (fits_nar_byte _) W103 0 rfl (Nat.le_of_ble_eq_true rfl)
  have Vt103 : Arv Z h103 a2 k2 .byte (3 : Int32) [(.int c0.toInt8.toInt32), (.int (0 : Int32)), (.int (0 : Int32))] (.int (0 : Int32)) := by
    have q : Arv Z h103 a2 k2 .byte (3 : Int32) [(.int (c0.toInt8.toInt32).toInt8.toInt32), (.int (0 : Int32)), (.int (0 : Int32))] (.int (0 : Int32)) := Vs103
    rw [show ((.int (c0.toInt8.toInt32).toInt8.toInt32) : Value) = (.int c0.toInt8.toInt32) from congrArg Value.int (own_b8 c0)] at q
    exact q
  have N103 := Fr.snoc X103 N0 g_a2
  have c104_V_a1 : Arv Z h103 a1 k1 .char (3 : Int32) [(.int c0), (.int c1), (.int c2)] (.int (0 : Int32)) := V_a1.other W103 ne_a1_a2
  obtain ⟨cl105, Ar105, q105, S105, Ng105, Ha105, Ga105⟩ := id c104_V_a1
  have hin105 : ¬ ((1 : Int32) < 0 ∨ cl105.slots.size ≤ ((1 : Int32)).toNatClampNeg) := inb_of S105 ⟨by decide, by decide⟩
  have hat105 : cl105.slots[((1 : Int32)).toNatClampNeg]? = some (.int c1) := Ha105.at hin105 (rfl)
  obtain ⟨cl106, Ar106, q106, S106, Ng106, Ha106, Ga106⟩ := id Vt103
  have hin106 : ¬ ((1 : Int32) < 0 ∨ cl106.slots.size ≤ ((1 : Int32)).toNatClampNeg) := inb_of S106 ⟨by decide, by decide⟩
  obtain ⟨T107, h107, X107, e107, W107, st107⟩ := stB X103 hx hZ e103 Ar106 (j := (1 : Int32)) hin106 (g := (mkF mM 31 (Lc_comp0_s3_6 a1 a2 c1) [(.int (c1.toInt8.toInt32)), (.int (1 : Int32)), (.ref a2)])) rfl rfl (hb hby d52_21_31)
  have Sz2 : h103.size ≤ h107.size := Nat.le_of_eq (Wr.size W107).symm
  have Vs107 := Arv.set Ar106 q106 S106 Ng106 Ha106 Ga106 (fits_nar_byte _) W107 1 rfl (Nat.le_of_ble_eq_true rfl)
  have Vt107 : Arv Z h107 a2 k2 .byte (3 : Int32) [(.int c0.toInt8.toInt32), (.int c1.toInt8.toInt32), (.int (0 : Int32))] (.int (0 : Int32)) := by
    have q : Arv Z h107 a2 k2 .byte (3 : Int32) [(.int c0.toInt8.toInt32), (.int (c1.toInt8.toInt32).toInt8.toInt32), (.int (0 : Int32))] (.int (0 : Int32)) := Vs107
    rw [show ((.int (c1.toInt8.toInt32).toInt8.toInt32) : Value) = (.int c1.toInt8.toInt32) from congrArg Value.int (own_b8 c1)] at q
    exact q
  have N107 := Fr.snoc X107 N103 g_a2
  have c108_V_a1 : Arv Z h107 a1 k1 .char (3 : Int32) [(.int c0), (.int c1), (.int c2)] (.int (0 : Int32)) := c104_V_a1.other W107 ne_a1_a2
  obtain ⟨cl109, Ar109, q109, S109, Ng109, Ha109, Ga109⟩ := id c108_V_a1
  have hin109 : ¬ ((2 : Int32) < 0 ∨ cl109.slots.size ≤ ((2 : Int32)).toNatClampNeg) := inb_of S109 ⟨by decide, by decide⟩
  have hat109 : cl109.slots[((2 : Int32)).toNatClampNeg]? = some (.int c2) := Ha109.at hin109 (rfl)
  obtain ⟨cl110, Ar110, q110, S110, Ng110, Ha110, Ga110⟩ := id Vt107
  have hin110 : ¬ ((2 : Int32) < 0 ∨ cl110.slots.size ≤ ((2 : Int32)).toNatClampNeg) := inb_of S110 ⟨by decide, by decide⟩
  obtain ⟨T111, h111, X111, e111, W111, st111⟩ := stB X107 hx hZ e107 Ar110 (j := (2 : Int32)) hin110 (g := (mkF mM 31 (Lc_comp0_s3_10 a1 a2 c2) [(.int (c2.toInt8.toInt32)), (.int (2 : Int32)), (.ref a2)])) rfl rfl (hb hby d52_21_31)
  have Sz3 : h107.size ≤ h111.size := Nat.le_of_eq (Wr.size W111).symm
  have Vs111 := Arv.set Ar110 q110 S110 Ng110 Ha110 Ga110 (fits_nar_byte _) W111 2 rfl (Nat.le_of_ble_eq_true rfl)
  have Vt111 : Arv Z h111 a2 k2 .byte (3 : Int32) [(.int c0.toInt8.toInt32), (.int c1.toInt8.toInt32), (.int c2.toInt8.toInt32)] (.int (0 : Int32)) := by
    have q : Arv Z h111 a2 k2 .byte (3 : Int32) [(.int c0.toInt8.toInt32), (.int c1.toInt8.toInt32), (.int (c2.toInt8.toInt32).toInt8.toInt32)] (.int (0 : Int32)) := Vs111
    rw [show ((.int (c2.toInt8.toInt32).toInt8.toInt32) : Value) = (.int c2.toInt8.toInt32) from congrArg Value.int (own_b8 c2)] at q
    exact q
  have N111 := Fr.snoc X111 N107 g_a2
  have K112 : Keep h0 h103 [a2] := (Keep.refl h0 [a2]).wr W103 (Or.inl (List.mem_of_getElem? (i := 0) rfl))
  have K113 : Keep h0 h107 [a2] := K112.wr W107 (Or.inl (List.mem_of_getElem? (i := 0) rfl))
  have K114 : Keep h0 h111 [a2] := K113.wr W111 (Or.inl (List.mem_of_getElem? (i := 0) rfl))
  obtain ⟨fs, hr, hrun, hended, hW, hsame⟩ := X111.leave (v := some (.int (3 : Int32))) (fun h => by rw [Bd.returns] at h; cases h)
  refine ⟨_, _, castTop (ef_comp0_s3 mM a1 a2 k1 k2 c0 c1 c2) ?_, hrun, hended, _, _, rfl, ?_, ⟨_, rfl⟩, hW, hsame.mono (by decide) (by decide)⟩
  · show SS pP eE bS s₁ (mkF mM 0 (Lc_comp0_s3_0 a1 a2) []) _
    refine XS.iconst X0.here hx rfl (hb hby d52_21_0) ?_
    refine XS.istore X0.here hx rfl (hb hby d52_21_1) rfl (l' := (Lc_comp0_s3_1 a1 a2)) rfl ?_
    refine XS.iload X0.here hx rfl (hb hby d52_21_3) rfl ?_
    refine XS.iload X0.here hx rfl (hb hby d52_21_5) rfl ?_
    show SS pP eE bS s₁ (mkF mM 7 (Lc_comp0_s3_1 a1 a2) [(.int (3 : Int32)), (.int (0 : Int32))]) _
    refine XS.icmpNo X0.here hx rfl (hb hby d52_21_7) rfl (tlt (by decide : (0 : Int32) < (3 : Int32))).2.1 ?_
    refine XS.aloadN X0.here hx rfl (hb hby d52_21_10) rfl rfl ?_
    refine XS.iloadN X0.here hx rfl (hb hby d52_21_11) rfl ?_
    show SS pP eE bS s₁ (mkF mM 12 (Lc_comp0_s3_1 a1 a2) [(.int (0 : Int32)), (.ref a1)]) _
    refine X0.caload hx (j := (0 : Int32)) (v := (.int c0)) (by rw [e0]; exact Ar101.1) (State.isArrayOf_alike hZ.alike Ar101.2.1) Ar101.2.2 hin101 hat101 (g := (mkF mM 12 (Lc_comp0_s3_1 a1 a2) [(.int (0 : Int32)), (.ref a1)])) rfl rfl (hb hby d52_21_12) _ ?_
    show SS pP eE bS s₁ (mkF mM 13 (Lc_comp0_s3_1 a1 a2) [(.int c0)]) _
    refine XS.istore X0.here hx rfl (hb hby d52_21_13) rfl (l' := (Lc_comp0_s3_2 a1 a2 c0)) rfl ?_
    refine XS.iload X0.here hx rfl (hb hby d52_21_15) rfl ?_
    refine XS.sipush X0.here hx rfl (hb hby d52_21_17) ?_
    refine XS.icmpYes X0.here hx rfl (pc0 := 20) (pc' := 26) rfl (hb hby d52_21_20) rfl (flt q0).2.2.2 (by decide) (by decide) ?_
    show SS pP eE bS s₁ (mkF mM 26 (Lc_comp0_s3_2 a1 a2 c0) []) _
    refine XS.aloadN X0.here hx rfl (hb hby d52_21_26) rfl rfl ?_
    refine XS.iloadN X0.here hx rfl (hb hby d52_21_27) rfl ?_
    refine XS.iload X0.here hx rfl (hb hby d52_21_28) rfl ?_
    refine XS.i2b X0.here hx rfl (hb hby d52_21_30) rfl ?_
    show SS pP eE bS s₁ (mkF mM 31 (Lc_comp0_s3_2 a1 a2 c0) [(.int (c0.toInt8.toInt32)), (.int (0 : Int32)), (.ref a2)]) _
    refine st103 _ ?_
    show SS pP eE bS T103 (mkF mM 32 (Lc_comp0_s3_2 a1 a2 c0) []) _
    refine XS.iinc X103.here hx rfl (hb hby d52_21_32) rfl (l' := (Lc_comp0_s3_3 a1 a2 c0)) rfl ?_
    refine XS.iinc X103.here hx rfl (hb hby d52_21_35) rfl (l' := (Lc_comp0_s3_4 a1 a2 c0)) rfl ?_
    refine XS.iinc X103.here hx rfl (hb hby d52_21_38) rfl (l' := (Lc_comp0_s3_5 a1 a2 c0)) rfl ?_
    refine XS.goto X103.here hx rfl (pc0 := 41) (pc' := 3) rfl (hb hby d52_21_41) (by decide) (by decide) ?_
    show SS pP eE bS T103 (mkF mM 3 (Lc_comp0_s3_5 a1 a2 c0) []) _
    refine XS.iload X103.here hx rfl (hb hby d52_21_3) rfl ?_
    refine XS.iload X103.here hx rfl (hb hby d52_21_5) rfl ?_
    refine XS.icmpNo X103.here hx rfl (hb hby d52_21_7) rfl (tlt (by decide : (1 : Int32) < (3 : Int32))).2.1 ?_
    refine XS.aloadN X103.here hx rfl (hb hby d52_21_10) rfl rfl ?_
    show SS pP eE bS T103 (mkF mM 11 (Lc_comp0_s3_5 a1 a2 c0) [(.ref a1)]) _
    refine XS.iloadN X103.here hx rfl (hb hby d52_21_11) rfl ?_
    show SS pP eE bS T103 (mkF mM 12 (Lc_comp0_s3_5 a1 a2 c0) [(.int (1 : Int32)), (.ref a1)]) _
    refine X103.caload hx (j := (1 : Int32)) (v := (.int c1)) (by rw [e103]; exact Ar105.1) (State.isArrayOf_alike hZ.alike Ar105.2.1) Ar105.2.2 hin105 hat105 (g := (mkF mM 12 (Lc_comp0_s3_5 a1 a2 c0) [(.int (1 : Int32)), (.ref a1)])) rfl rfl (hb hby d52_21_12) _ ?_
    show SS pP eE bS T103 (mkF mM 13 (Lc_comp0_s3_5 a1 a2 c0) [(.int c1)]) _
    refine XS.istore X103.here hx rfl (hb hby d52_21_13) rfl (l' := (Lc_comp0_s3_6 a1 a2 c1)) rfl ?_
    refine XS.iload X103.here hx rfl (hb hby d52_21_15) rfl ?_
    refine XS.sipush X103.here hx rfl (hb hby d52_21_17) ?_
    refine XS.icmpYes X103.here hx rfl (pc0 := 20) (pc' := 26) rfl (hb hby d52_21_20) rfl (flt q1).2.2.2 (by decide) (by decide) ?_
    show SS pP eE bS T103 (mkF mM 26 (Lc_comp0_s3_6 a1 a2 c1) []) _
    refine XS.aloadN X103.here hx rfl (hb hby d52_21_26) rfl rfl ?_
    refine XS.iloadN X103.here hx rfl (hb hby d52_21_27) rfl ?_
    refine XS.iload X103.here hx rfl (hb hby d52_21_28) rfl ?_
    refine XS.i2b X103.here hx rfl (hb hby d52_21_30) rfl ?_
    show SS pP eE bS T103 (mkF mM 31 (Lc_comp0_s3_6 a1 a2 c1) [(.int (c1.toInt8.toInt32)), (.int (1 : Int32)), (.ref a2)]) _
    refine st107 _ ?_
    show SS pP eE bS T107 (mkF mM 32 (Lc_comp0_s3_6 a1 a2 c1) []) _
    refine XS.iinc X107.here hx rfl (hb hby d52_21_32) rfl (l' := (Lc_comp0_s3_7 a1 a2 c1)) rfl ?_
    refine XS.iinc X107.here hx rfl (hb hby d52_21_35) rfl (l' := (Lc_comp0_s3_8 a1 a2 c1)) rfl ?_
    refine XS.iinc X107.here hx rfl (hb hby d52_21_38) rfl (l' := (Lc_comp0_s3_9 a1 a2 c1)) rfl ?_
    refine XS.goto X107.here hx rfl (pc0 := 41) (pc' := 3) rfl (hb hby d52_21_41) (by decide) (by decide) ?_
    show SS pP eE bS T107 (mkF mM 3 (Lc_comp0_s3_9 a1 a2 c1) []) _
    refine XS.iload X107.here hx rfl (hb hby d52_21_3) rfl ?_
    refine XS.iload X107.here hx rfl (hb hby d52_21_5) rfl ?_
    refine XS.icmpNo X107.here hx rfl (hb hby d52_21_7) rfl (tlt (by decide : (2 : Int32) < (3 : Int32))).2.1 ?_
    refine XS.aloadN X107.here hx rfl (hb hby d52_21_10) rfl rfl ?_
    show SS pP eE bS T107 (mkF mM 11 (Lc_comp0_s3_9 a1 a2 c1) [(.ref a1)]) _
    refine XS.iloadN X107.here hx rfl (hb hby d52_21_11) rfl ?_
    show SS pP eE bS T107 (mkF mM 12 (Lc_comp0_s3_9 a1 a2 c1) [(.int (2 : Int32)), (.ref a1)]) _
    refine X107.caload hx (j := (2 : Int32)) (v := (.int c2)) (by rw [e107]; exact Ar109.1) (State.isArrayOf_alike hZ.alike Ar109.2.1) Ar109.2.2 hin109 hat109 (g := (mkF mM 12 (Lc_comp0_s3_9 a1 a2 c1) [(.int (2 : Int32)), (.ref a1)])) rfl rfl (hb hby d52_21_12) _ ?_
    show SS pP eE bS T107 (mkF mM 13 (Lc_comp0_s3_9 a1 a2 c1) [(.int c2)]) _
    refine XS.istore X107.here hx rfl (hb hby d52_21_13) rfl (l' := (Lc_comp0_s3_10 a1 a2 c2)) rfl ?_
    refine XS.iload X107.here hx rfl (hb hby d52_21_15) rfl ?_
    refine XS.sipush X107.here hx rfl (hb hby d52_21_17) ?_
    refine XS.icmpYes X107.here hx rfl (pc0 := 20) (pc' := 26) rfl (hb hby d52_21_20) rfl (flt q2).2.2.2 (by decide) (by decide) ?_
    show SS pP eE bS T107 (mkF mM 26 (Lc_comp0_s3_10 a1 a2 c2) []) _
    refine XS.aloadN X107.here hx rfl (hb hby d52_21_26) rfl rfl ?_
    refine XS.iloadN X107.here hx rfl (hb hby d52_21_27) rfl ?_
    refine XS.iload X107.here hx rfl (hb hby d52_21_28) rfl ?_
    refine XS.i2b X107.here hx rfl (hb hby d52_21_30) rfl ?_
    show SS pP eE bS T107 (mkF mM 31 (Lc_comp0_s3_10 a1 a2 c2) [(.int (c2.toInt8.toInt32)), (.int (2 : Int32)), (.ref a2)]) _
    refine st111 _ ?_
    show SS pP eE bS T111 (mkF mM 32 (Lc_comp0_s3_10 a1 a2 c2) []) _
    refine XS.iinc X111.here hx rfl (hb hby d52_21_32) rfl (l' := (Lc_comp0_s3_11 a1 a2 c2)) rfl ?_
    refine XS.iinc X111.here hx rfl (hb hby d52_21_35) rfl (l' := (Lc_comp0_s3_12 a1 a2 c2)) rfl ?_
    refine XS.iinc X111.here hx rfl (hb hby d52_21_38) rfl (l' := (Lc_comp0_s3_13 a1 a2 c2)) rfl ?_
    refine XS.goto X111.here hx rfl (pc0 := 41) (pc' := 3) rfl (hb hby d52_21_41) (by decide) (by decide) ?_
    show SS pP eE bS T111 (mkF mM 3 (Lc_comp0_s3_13 a1 a2 c2) []) _
    refine XS.iload X111.here hx rfl (hb hby d52_21_3) rfl ?_
    refine XS.iload X111.here hx rfl (hb hby d52_21_5) rfl ?_
    refine XS.icmpYes X111.here hx rfl (pc0 := 7) (pc' := 44) rfl (hb hby d52_21_7) rfl (flt (by decide : ¬ ((3 : Int32) < (3 : Int32)))).2.1 (by decide) (by decide) ?_
    refine XS.iload X111.here hx rfl (hb hby d52_21_44) rfl ?_
    show SS pP eE bS T111 (mkF mM 46 (Lc_comp0_s3_13 a1 a2 c2) [(.int (3 : Int32))]) _
    exact retI X111 hx Bd.returns (hb hby d52_21_46) hr
  · show Q_comp0_s3 Z a1 a2 k1 k2 c0 c1 c2 h0 n0 _ T111.heap _
    rw [e111]
    exact ⟨rfl, N111, K114, Vt111⟩
abbrev r1_1_3_18 : Room := { frames := 1, cells := 1, slots := 3, locals := 18 }
def Q_comp1_s3 (Z : State) (a1 : Addr) (k1 : ClassId) (c0 : Int32) (c1 : Int32) (c2 : Int32) (h0 : Heap) (n0 : Nat) (xv : Option Value) (xh : Heap) (xL : List Loc) : Prop := ∃ b : Addr, ∃ k2 : ClassId, xv = some (.ref b) ∧ Fr n0 xL ∧ Keep h0 xh [] ∧ Arv Z xh b k2 .byte (3 : Int32) [(.int c0.toInt8.toInt32), (.int c1.toInt8.toInt32), (.int c2.toInt8.toInt32)] (.int (0 : Int32)) ∧ @LE.le Nat _ h0.size b
abbrev Lc_comp1_s3_0 (a1 : Addr) : Array Slot := #[.val (.ref a1), .val (.int (0 : Int32)), .val (.int (3 : Int32)), .unset, .unset, .unset]
abbrev Lc_comp1_s3_1 (a1 : Addr) (b101 : Addr) : Array Slot := #[.val (.ref a1), .val (.int (0 : Int32)), .val (.int (3 : Int32)), .val (.ref b101), .unset, .unset]
abbrev Lc_comp1_s3_2 (a1 : Addr) (b101 : Addr) : Array Slot := #[.val (.ref a1), .val (.int (0 : Int32)), .val (.int (3 : Int32)), .val (.ref b101), .val (.int (3 : Int32)), .unset]
theorem ef_comp1_s3 (mM : MethodId) (a1 : Addr) (k1 : ClassId) (c0 : Int32) (c1 : Int32) (c2 : Int32) : entryFrame mM #[(.ref a1), (.int (0 : Int32)), (.int (3 : Int32))] 6 = mkF mM 0 #[.val (.ref a1), .val (.int (0 : Int32)), .val (.int (3 : Int32)), .unset, .unset, .unset] [] := by
  first | (simp [entryFrame, mkF, argsToLocals, Value.category]; done) | rfl
theorem rm_comp1_s3 (l : Launch) (Z : State) (a0 : Array Value) (hw : HW a0 Z) (ws : List Jvm.Cond) (a1 : Addr) (k1 : ClassId) (c0 : Int32) (c1 : Int32) (c2 : Int32) (h0 : Heap) (n0 : Nat) (Z0 : n0 ≤ h0.size) (V_a1 : Arv Z h0 a1 k1 .char (3 : Int32) [(.int c0), (.int c1), (.int c2)] (.int (0 : Int32))) (q0 : ¬ ((255 : Int32) < c0)) (q1 : ¬ ((255 : Int32) < c1)) (q2 : ¬ ((255 : Int32) < c2)) :
    MetFree l y36_ (head1 (Jvm.Cond.code y36_ jdk_52_method_16_code 6 (some (.array .byte)) :: ws) r1_1_3_18) (fun xa xU => xa = #[(.ref a1), (.int (0 : Int32)), (.int (3 : Int32))] ∧ Z.Warmed39 xU.vm ∧ xU.heap = h0) (fun _ _ _ _ _ => True) (fun _ xU xo xU' => ∃ xv xL, xo = .returned xv ∧ Q_comp1_s3 Z a1 k1 c0 c1 c2 h0 n0 xv xU'.heap xL ∧ FrameEnd xU xo xU' xL r1_1_3_18.cells r1_1_3_18.slots) := by
  refine MetFree.of_bodySF (plainFor_of_name pn_java_lang_StringUTF16) hisR ?_
  intro pP eE sS mM argS bS methS cC s₁ Bd hml0 hP hK
  obtain ⟨rfl, hZ, hh⟩ := hP
  have hx := Bd.exec
  have hby := Bd.bytes
  have hml : cC.maxLocals = 6 := hml0
  have hown : sS.vm.findClass "java/lang/StringUTF16" = some mM.cls := findClass_of_methodNamed Bd.named
  have hnm := (name_of_methodNamed Bd.named Bd.method).1
  have X0 : Stand pP l eE r1_1_3_18 sS mM #[(.ref a1), (.int (0 : Int32)), (.int (3 : Int32))] bS methS cC s₁ [] 0 0 := Stand.of_body Bd
  have e0 : s₁.heap = h0 := by rw [← hh, Bd.state]; rfl
  have N0 := Fr.nil n0
  obtain ⟨T101, h101, k101, X101, e101, E101, A101, st101⟩ := newP X0 hx hZ (wi hw 15 rfl) e0 (g := (mkF mM 1 (Lc_comp1_s3_0 a1) [(.int (3 : Int32))])) rfl (hb hby d52_16_1) rfl (by decide) (cap := 3) (by decide) (by decide) (by decide) (by decide)
  obtain ⟨b101, g101⟩ : ∃ z : Nat, z = h0.size := ⟨_, rfl⟩
  rw [← g101] at A101 st101
  have Sz1 : h0.size ≤ h101.size := E101.1
  have V_b101 : Arv Z h101 b101 k101 .byte (3 : Int32) [(.int (0 : Int32)), (.int (0 : Int32)), (.int (0 : Int32))] (.int (0 : Int32)) := (Arv.new A101 (by decide)).pad (pad_rep [] (.int (0 : Int32)) 3)
  have c103_V_a1 : Arv Z h101 a1 k1 .char (3 : Int32) [(.int c0), (.int c1), (.int c2)] (.int (0 : Int32)) := V_a1.ext E101
  have lt_a1 : @LT.lt Nat _ a1 h0.size := V_a1.lt
  have lt_b101 : @LT.lt Nat _ b101 h101.size := V_b101.lt
  have ne_a1_b101_104 : a1 ≠ b101 := (by omega : @Ne Nat a1 b101)
  have ge105_b101 : @LE.le Nat _ n0 b101 := by omega
  obtain ⟨_, _, ⟨T102, L102, k102, n102⟩, -, X102, ⟨Lc102, hQ102, l102, y102, z102⟩, st102⟩ := Jvm.LawKit.callS X101 hx (y := y35_) hown (mvT hZ (wi hw 258 rfl)) (mvT hZ (wi hw 259 rfl)) (mvT hZ (wi hw 256 rfl)) (mvT hZ (wi hw 260 rfl)) (by decide) (backOf (W := 0) (rm_comp0_s3 l Z a0 hw [] a1 b101 k1 k101 c0 c1 c2 h101 n0 (by omega) c103_V_a1 V_b101 ne_a1_b101_104 ge105_b101 q0 q1 q2) hZ (wi hw 260 rfl) (wi hw 256 rfl) (by decide) (by decide)) (g := (mkF mM 9 (Lc_comp1_s3_1 a1 b101) [(.int (3 : Int32)), (.int (0 : Int32)), (.ref b101), (.int (0 : Int32)), (.ref a1)])) rfl (by rw [hml]; rfl) (argsL := [(.ref a1), (.int (0 : Int32)), (.ref b101), (.int (0 : Int32)), (.int (3 : Int32))]) (rest := []) (lenOf pd_32 rfl) rfl (by show 2 * 0 + _ ≤ _; exact Nat.le_of_eq rfl) (hb hby d52_16_9) (fun _ _ => ⟨rfl, e101, ble rfl, ble rfl⟩)
  dsimp only [Pt.U, Pt.locs, Pt.cells, Pt.slots] at X102 l102 y102 z102 st102 hQ102
  subst y102 z102
  obtain ⟨h102, e102⟩ : ∃ z, T102.heap = z := ⟨_, rfl⟩
  rw [e102] at hQ102
  obtain ⟨rfl, N102q, Kp102, p102_V_a2⟩ := hQ102
  have Sz2 : h101.size ≤ h102.size := Kp102.1
  have N102 : Fr n0 L102 := by rw [l102]; exact Fr.app N0 N102q
  have K106 : Keep h0 h101 [] := (Keep.refl h0 []).ext E101
  have K107 : Keep h0 h102 [] := K106.trans Kp102 (allS (Or.inr (by omega : @LE.le Nat _ h0.size b101)) all0)
  obtain ⟨fs, hr, hrun, hended, hW, hsame⟩ := X102.leave (v := some (.ref b101)) (fun h => by rw [Bd.returns] at h; cases h)
  refine ⟨_, _, castTop (ef_comp1_s3 mM a1 k1 c0 c1 c2) ?_, hrun, hended, _, _, rfl, ?_, ⟨_, rfl⟩, hW, hsame.mono (by decide) (by decide)⟩
  · show SS pP eE bS s₁ (mkF mM 0 (Lc_comp1_s3_0 a1) []) _
    refine XS.iloadN X0.here hx rfl (hb hby d52_16_0) rfl ?_
    show SS pP eE bS s₁ (mkF mM 1 (Lc_comp1_s3_0 a1) [(.int (3 : Int32))]) _
    refine st101 _ ?_
    show SS pP eE bS T101 (mkF mM 3 (Lc_comp1_s3_0 a1) [(.ref b101)]) _
    refine XS.astoreN X101.here hx rfl (hb hby d52_16_3) rfl rfl (l' := (Lc_comp1_s3_1 a1 b101)) rfl ?_
    refine XS.aloadN X101.here hx rfl (hb hby d52_16_4) rfl rfl ?_
    refine XS.iloadN X101.here hx rfl (hb hby d52_16_5) rfl ?_
    refine XS.aloadN X101.here hx rfl (hb hby d52_16_6) rfl rfl ?_
    show SS pP eE bS T101 (mkF mM 7 (Lc_comp1_s3_1 a1 b101) [(.ref b101), (.int (0 : Int32)), (.ref a1)]) _
    refine XS.iconst X101.here hx rfl (hb hby d52_16_7) ?_
    refine XS.iloadN X101.here hx rfl (hb hby d52_16_8) rfl ?_
    show SS pP eE bS T101 (mkF mM 9 (Lc_comp1_s3_1 a1 b101) [(.int (3 : Int32)), (.int (0 : Int32)), (.ref b101), (.int (0 : Int32)), (.ref a1)]) _
    refine st102 _ ?_
    show SS pP eE bS T102 (mkF mM 12 (Lc_comp1_s3_1 a1 b101) [(.int (3 : Int32))]) _
    refine XS.istore X102.here hx rfl (hb hby d52_16_12) rfl (l' := (Lc_comp1_s3_2 a1 b101)) rfl ?_
    refine XS.iload X102.here hx rfl (hb hby d52_16_14) rfl ?_
    refine XS.iloadN X102.here hx rfl (hb hby d52_16_16) rfl ?_
    refine XS.icmpYes X102.here hx rfl (pc0 := 17) (pc' := 57) rfl (hb hby d52_16_17) rfl (teq (by decide : (3 : Int32) = (3 : Int32))).1 (by decide) (by decide) ?_
    show SS pP eE bS T102 (mkF mM 57 (Lc_comp1_s3_2 a1 b101) []) _
    refine XS.aloadN X102.here hx rfl (hb hby d52_16_57) rfl rfl ?_
    show SS pP eE bS T102 (mkF mM 58 (Lc_comp1_s3_2 a1 b101) [(.ref b101)]) _
    jvm_step X102.here [X102.here.top, hx, (hb hby d52_16_58), X102.method', Bd.returns, Value.isRef, FieldType.isReference]
    first | (intro acts; rw [hr _ acts rfl rfl rfl]) | rw [hr _ _ rfl rfl rfl]
    exact Steps.refl _
  · show Q_comp1_s3 Z a1 k1 c0 c1 c2 h0 n0 _ T102.heap _
    rw [e102]
    exact ⟨b101, k101, rfl, N102, K107, p102_V_a2, (by omega)⟩
def Q_coder_s3 (Z : State) (a1 : Addr) (k1 : ClassId) (vs : List Value) (h0 : Heap) (n0 : Nat) (xv : Option Value) (xh : Heap) (xL : List Loc) : Prop := xv = some (.int (0 : Int32)) ∧ Fr n0 xL ∧ xh = h0
theorem ef_coder_s3 (mM : MethodId) (a1 : Addr) (k1 : ClassId) (vs : List Value) : entryFrame mM #[(.ref a1), (.int (3 : Int32))] 2 = mkF mM 0 #[.val (.ref a1), .val (.int (3 : Int32))] [] := by
  first | (simp [entryFrame, mkF, argsToLocals, Value.category]; done) | rfl
theorem rm_coder_s3 (l : Launch) (Z : State) (a0 : Array Value) (hw : HW a0 Z) (ws : List Jvm.Cond) (a1 : Addr) (k1 : ClassId) (vs : List Value) (h0 : Heap) (n0 : Nat) (Z0 : n0 ≤ h0.size) (V_a1 : Arv Z h0 a1 k1 .byte (3 : Int32) vs (.int (0 : Int32))) :
    MetFree l y37_ (head1 (Jvm.Cond.code y37_ jdk_52_method_15_code 2 (some .byte) :: ws) r0_0_0_0) (fun xa xU => xa = #[(.ref a1), (.int (3 : Int32))] ∧ Z.Warmed39 xU.vm ∧ xU.heap = h0) (fun _ _ _ _ _ => True) (fun _ xU xo xU' => ∃ xv xL, xo = .returned xv ∧ Q_coder_s3 Z a1 k1 vs h0 n0 xv xU'.heap xL ∧ FrameEnd xU xo xU' xL r0_0_0_0.cells r0_0_0_0.slots) := by
  refine MetFree.of_bodySF (plainFor_of_name pn_java_lang_StringUTF16) hisR ?_
  intro pP eE sS mM argS bS methS cC s₁ Bd hml0 hP hK
  obtain ⟨rfl, hZ, hh⟩ := hP
  have hx := Bd.exec
  have hby := Bd.bytes
  have hml : cC.maxLocals = 2 := hml0
  have hown : sS.vm.findClass "java/lang/StringUTF16" = some mM.cls := findClass_of_methodNamed Bd.named
  have hnm := (name_of_methodNamed Bd.named Bd.method).1
  have X0 : Stand pP l eE r0_0_0_0 sS mM #[(.ref a1), (.int (3 : Int32))] bS methS cC s₁ [] 0 0 := Stand.of_body Bd
  have e0 : s₁.heap = h0 := by rw [← hh, Bd.state]; rfl
  have N0 := Fr.nil n0
  obtain ⟨cl101, Ar101, q101, S101, Ng101, Ha101, Ga101⟩ := id V_a1
  obtain ⟨fs, hr, hrun, hended, hW, hsame⟩ := X0.leave (v := some (.int (0 : Int32))) (fun h => by rw [Bd.returns] at h; cases h)
  refine ⟨_, _, castTop (ef_coder_s3 mM a1 k1 vs) ?_, hrun, hended, _, _, rfl, ?_, ⟨_, rfl⟩, hW, hsame.mono (by decide) (by decide)⟩
  · show SS pP eE bS s₁ (mkF mM 0 #[.val (.ref a1), .val (.int (3 : Int32))] []) _
    refine XS.iloadN X0.here hx rfl (hb hby d52_15_0) rfl ?_
    refine XS.aloadN X0.here hx rfl (hb hby d52_15_1) rfl rfl ?_
    show SS pP eE bS s₁ (mkF mM 2 #[.val (.ref a1), .val (.int (3 : Int32))] [(.ref a1), (.int (3 : Int32))]) _
    refine X0.arraylength hx (by rw [e0]; exact Ar101.1) (State.isArrayOf_alike hZ.alike Ar101.2.1) (g := (mkF mM 2 #[.val (.ref a1), .val (.int (3 : Int32))] [(.ref a1), (.int (3 : Int32))])) rfl rfl (hb hby d52_15_2) _ ?_
    rw [len_of S101 Ng101]
    show SS pP eE bS s₁ (mkF mM 3 #[.val (.ref a1), .val (.int (3 : Int32))] [(.int (3 : Int32)), (.int (3 : Int32))]) _
    refine XS.isub X0.here hx rfl (hb hby d52_15_3) rfl ?_
    refine XS.bipush X0.here hx rfl (hb hby d52_15_4) ?_
    refine XS.iushr X0.here hx rfl (hb hby d52_15_6) rfl ?_
    refine XS.i2b X0.here hx rfl (hb hby d52_15_7) rfl ?_
    show SS pP eE bS s₁ (mkF mM 8 #[.val (.ref a1), .val (.int (3 : Int32))] [(.int (0 : Int32))]) _
    exact retN X0 hx (t := .byte) Bd.returns (by simp) (hb hby d52_15_8) hr
  · show Q_coder_s3 Z a1 k1 vs h0 n0 _ s₁.heap _
    rw [e0]
    exact ⟨rfl, N0, rfl⟩
abbrev r2_1_3_35 : Room := { frames := 2, cells := 1, slots := 3, locals := 35 }
def Q_init4_s3 (Z : State) (o : Addr) (a1 : Addr) (k1 : ClassId) (u1 : Value) (u2 : Value) (cs : Int32) (c0 : Int32) (c1 : Int32) (c2 : Int32) (h0 : Heap) (n0 : Nat) (xv : Option Value) (xh : Heap) (xL : List Loc) : Prop := ∃ b : Addr, ∃ k2 : ClassId, xv = none ∧ Fr n0 xL ∧ Keep h0 xh [o] ∧ Exa Z xh o "java/lang/String" ∧ Fld Z xh o "java/lang/String" "value" "[B" (.ref b) ∧ Fld Z xh o "java/lang/String" "coder" "B" (.int (0 : Int32)) ∧ Arv Z xh b k2 .byte (3 : Int32) [(.int c0.toInt8.toInt32), (.int c1.toInt8.toInt32), (.int c2.toInt8.toInt32)] (.int (0 : Int32)) ∧ @LE.le Nat _ h0.size b
abbrev Lc_init4_s3_0 (o : Addr) (a1 : Addr) : Array Slot := #[.val (.ref o), .val (.ref a1), .val (.int (0 : Int32)), .val (.int (3 : Int32)), .val .null, .unset]
abbrev Lc_init4_s3_1 (o : Addr) (a1 : Addr) (b_104 : Addr) : Array Slot := #[.val (.ref o), .val (.ref a1), .val (.int (0 : Int32)), .val (.int (3 : Int32)), .val .null, .val (.ref b_104)]
theorem ef_init4_s3 (mM : MethodId) (o : Addr) (a1 : Addr) (k1 : ClassId) (u1 : Value) (u2 : Value) (cs : Int32) (c0 : Int32) (c1 : Int32) (c2 : Int32) : entryFrame mM #[(.ref o), (.ref a1), (.int (0 : Int32)), (.int (3 : Int32)), .null] 6 = mkF mM 0 #[.val (.ref o), .val (.ref a1), .val (.int (0 : Int32)), .val (.int (3 : Int32)), .val .null, .unset] [] := by
  first | (simp [entryFrame, mkF, argsToLocals, Value.category]; done) | rfl
theorem rm_init4_s3 (l : Launch) (Z : State) (a0 : Array Value) (hw : HW a0 Z) (ws : List Jvm.Cond) (o : Addr) (a1 : Addr) (k1 : ClassId) (u1 : Value) (u2 : Value) (cs : Int32) (c0 : Int32) (c1 : Int32) (c2 : Int32) (h0 : Heap) (n0 : Nat) (Z0 : n0 ≤ h0.size) (E_o : Exa Z h0 o "java/lang/String") (F_value_o : Fld Z h0 o "java/lang/String" "value" "[B" u1) (F_coder_o : Fld Z h0 o "java/lang/String" "coder" "B" u2) (V_a1 : Arv Z h0 a1 k1 .char (3 : Int32) [(.int c0), (.int c1), (.int c2)] (.int (0 : Int32))) (g_o : @LE.le Nat _ n0 o) (OL : Old Z n0 h0) (S_COMPACT_STRINGS : Sta Z Z.heap "java/lang/String" "COMPACT_STRINGS" "Z" (.int cs)) (hcs : ¬ (cs = (0 : Int32))) (q0 : ¬ ((255 : Int32) < c0)) (q1 : ¬ ((255 : Int32) < c1)) (q2 : ¬ ((255 : Int32) < c2)) :
    MetFree l y38_ (head1 (Jvm.Cond.code y38_ jdk_42_method_149_code 6 none :: ws) r2_1_3_35) (fun xa xU => xa = #[(.ref o), (.ref a1), (.int (0 : Int32)), (.int (3 : Int32)), .null] ∧ Z.Warmed39 xU.vm ∧ xU.heap = h0) (fun _ _ _ _ _ => True) (fun _ xU xo xU' => ∃ xv xL, xo = .returned xv ∧ Q_init4_s3 Z o a1 k1 u1 u2 cs c0 c1 c2 h0 n0 xv xU'.heap xL ∧ FrameEnd xU xo xU' xL r2_1_3_35.cells r2_1_3_35.slots) := by
  refine MetFree.of_bodySF (plainFor_of_name pn_java_lang_String) hisR ?_
  intro pP eE sS mM argS bS methS cC s₁ Bd hml0 hP hK
  obtain ⟨rfl, hZ, hh⟩ := hP
  have hx := Bd.exec
  have hby := Bd.bytes
  have hml : cC.maxLocals = 6 := hml0
  have hown : sS.vm.findClass "java/lang/String" = some mM.cls := findClass_of_methodNamed Bd.named
  have hnm := (name_of_methodNamed Bd.named Bd.method).1
  have X0 : Stand pP l eE r2_1_3_35 sS mM #[(.ref o), (.ref a1), (.int (0 : Int32)), (.int (3 : Int32)), .null] bS methS cC s₁ [] 0 0 := Stand.of_body Bd
  have e0 : s₁.heap = h0 := by rw [← hh, Bd.state]; rfl
  have N0 := Fr.nil n0
  obtain ⟨T101, X101, e101, st101⟩ := initO X0 hx hZ hown (wi hw 11 rfl) (wi hw 12 rfl) (wi hw 13 rfl) e0 (g := (mkF mM 1 (Lc_init4_s3_0 o a1) [(.ref o)])) rfl (by rw [hml]; rfl) rfl (hb hby d42_149_1) (by decide) (W := 0) (by show 2 * 0 + _ ≤ _; exact Nat.le_of_eq rfl) (by decide)
  have c102_S_COMPACT_STRINGS : Sta Z h0 "java/lang/String" "COMPACT_STRINGS" "Z" (.int cs) := Sta.ext OL.2 S_COMPACT_STRINGS
  obtain ⟨T103, X103, e103, st103⟩ := getS2 X101 hx hZ hown (host := "") (Or.inl (wi hw 67 rfl)) Via.refl e101 c102_S_COMPACT_STRINGS (g := (mkF mM 27 (Lc_init4_s3_0 o a1) [])) rfl (hb hby d42_149_27)
  obtain ⟨_, _, ⟨T104, L104, k104, n104⟩, -, X104, ⟨Lc104, hQ104, l104, y104, z104⟩, st104⟩ := Jvm.LawKit.callS X103 hx (y := y36_) hown (mvT hZ (wi hw 254 rfl)) (mvT hZ (wi hw 255 rfl)) (mvT hZ (wi hw 256 rfl)) (mvT hZ (wi hw 257 rfl)) (by decide) (backOf (W := 0) (rm_comp1_s3 l Z a0 hw [] a1 k1 c0 c1 c2 h0 n0 (by omega) V_a1 q0 q1 q2) hZ (wi hw 257 rfl) (wi hw 256 rfl) (by decide) (by decide)) (g := (mkF mM 36 (Lc_init4_s3_0 o a1) [(.int (3 : Int32)), (.int (0 : Int32)), (.ref a1)])) rfl (by rw [hml]; rfl) (argsL := [(.ref a1), (.int (0 : Int32)), (.int (3 : Int32))]) (rest := []) (lenOf pd_31 rfl) rfl (by show 2 * 0 + _ ≤ _; exact Nat.le_of_eq rfl) (hb hby d42_149_36) (fun _ _ => ⟨rfl, e103, ble rfl, ble rfl⟩)
  dsimp only [Pt.U, Pt.locs, Pt.cells, Pt.slots] at X104 l104 y104 z104 st104 hQ104
  subst y104 z104
  obtain ⟨h104, e104⟩ : ∃ z, T104.heap = z := ⟨_, rfl⟩
  rw [e104] at hQ104
  obtain ⟨b_104, k2_104, rfl, N104q, Kp104, p104_V_b, p104_gh_b⟩ := hQ104
  have Sz1 : h0.size ≤ h104.size := Kp104.1
  have N104 : Fr n0 L104 := by rw [l104]; exact Fr.app N0 N104q
  obtain ⟨_, _, ⟨T105, L105, k105, n105⟩, -, X105, ⟨Lc105, hQ105, l105, y105, z105⟩, st105⟩ := Jvm.LawKit.callS X104 hx (y := y37_) hown (mvT hZ (wi hw 261 rfl)) (mvT hZ (wi hw 262 rfl)) (mvT hZ (wi hw 256 rfl)) (mvT hZ (wi hw 263 rfl)) (by decide) (backOf (W := 1) (rm_coder_s3 l Z a0 hw [] b_104 k2_104 [(.int c0.toInt8.toInt32), (.int c1.toInt8.toInt32), (.int c2.toInt8.toInt32)] h104 n0 (by omega) p104_V_b) hZ (wi hw 263 rfl) (wi hw 256 rfl) (by decide) (by decide)) (g := (mkF mM 45 (Lc_init4_s3_1 o a1 b_104) [(.int (3 : Int32)), (.ref b_104), (.ref o)])) rfl (by rw [hml]; rfl) (argsL := [(.ref b_104), (.int (3 : Int32))]) (rest := [(.ref o)]) (lenOf pd_33 rfl) rfl (by show 2 * 0 + _ ≤ _; exact Nat.le_of_eq rfl) (hb hby d42_149_45) (fun _ _ => ⟨rfl, e104, ble rfl, ble rfl⟩)
  dsimp only [Pt.U, Pt.locs, Pt.cells, Pt.slots] at X105 l105 y105 z105 st105 hQ105
  subst y105 z105
  obtain ⟨h105, e105⟩ : ∃ z, T105.heap = z := ⟨_, rfl⟩
  rw [e105] at hQ105
  obtain ⟨rfl, N105q, eq105⟩ := hQ105
  rw [eq105] at e105
  have N105 : Fr n0 L105 := by rw [l105]; exact Fr.app N104 N105q
  have c106_F_coder_o : Fld Z h104 o "java/lang/String" "coder" "B" u2 := F_coder_o.keep Kp104 nin0
  have c107_E_o : Exa Z h104 o "java/lang/String" := E_o.keep Kp104
  obtain ⟨T108, h108, X108, e108, W108, st108⟩ := putFN X105 hx hZ hown (wi hw 21 rfl) Via.refl e105 c106_F_coder_o c107_E_o (Or.inr ⟨(wi hw 17 rfl), rfl, hnm⟩) (wi hw 1 rfl) (ty := .byte) (v' := (.int (0 : Int32))) (by decide) (rfl) (rfl) (g := (mkF mM 48 (Lc_init4_s3_1 o a1 b_104) [(.int (0 : Int32)), (.ref o)])) rfl rfl (hb hby d42_149_48)
  have Sz2 : h104.size ≤ h108.size := Nat.le_of_eq (Wr.size W108).symm
  have Fw108 : Fld Z h108 o "java/lang/String" "coder" "B" (.int (0 : Int32)) := Fld.same W108 c106_F_coder_o
  have N108 := Fr.snoc X108 N105 g_o
  have c109_F_value_o : Fld Z h104 o "java/lang/String" "value" "[B" u1 := F_value_o.keep Kp104 nin0
  have c110_F_value_o : Fld Z h108 o "java/lang/String" "value" "[B" u1 := Fld.other W108 c109_F_value_o (Or.inr (slot_ne (Or.inr (wi hw 16 rfl)) (Or.inr (wi hw 17 rfl)) (by decide) (t := (.array .byte)) (t' := .byte) (by decide) (by decide)))
  have c111_E_o : Exa Z h108 o "java/lang/String" := Exa.wr W108 c107_E_o
  obtain ⟨T112, h112, X112, e112, W112, st112⟩ := putF X108 hx hZ hown (host := "") (Or.inl (wi hw 20 rfl)) Via.refl e108 c110_F_value_o c111_E_o (Or.inr ⟨(wi hw 16 rfl), rfl, hnm⟩) (wi hw 1 rfl) (ty := (.array .byte)) (by decide) rfl rfl (g := (mkF mM 54 (Lc_init4_s3_1 o a1 b_104) [(.ref b_104), (.ref o)])) rfl rfl (hb hby d42_149_54)
  have Sz3 : h108.size ≤ h112.size := Nat.le_of_eq (Wr.size W112).symm
  have Fw112 : Fld Z h112 o "java/lang/String" "value" "[B" (.ref b_104) := Fld.same W112 c110_F_value_o
  have N112 := Fr.snoc X112 N108 g_o
  have lt_b_104 : @LT.lt Nat _ b_104 h104.size := p104_V_b.lt
  have lt_o : @LT.lt Nat _ o h0.size := E_o.lt
  have ne_b_104_o_113 : b_104 ≠ o := (by omega : @Ne Nat b_104 o)
  have c114_V_b_104 : Arv Z h108 b_104 k2_104 .byte (3 : Int32) [(.int c0.toInt8.toInt32), (.int c1.toInt8.toInt32), (.int c2.toInt8.toInt32)] (.int (0 : Int32)) := p104_V_b.other W108 ne_b_104_o_113
  have c115_V_b_104 : Arv Z h112 b_104 k2_104 .byte (3 : Int32) [(.int c0.toInt8.toInt32), (.int c1.toInt8.toInt32), (.int c2.toInt8.toInt32)] (.int (0 : Int32)) := c114_V_b_104.other W112 ne_b_104_o_113
  have c116_E_o : Exa Z h112 o "java/lang/String" := Exa.wr W112 c111_E_o
  have c117_F_coder_o : Fld Z h112 o "java/lang/String" "coder" "B" (.int (0 : Int32)) := Fld.other W112 Fw108 (Or.inr (slot_ne (Or.inr (wi hw 17 rfl)) (Or.inr (wi hw 16 rfl)) (by decide) (t := .byte) (t' := (.array .byte)) (by decide) (by decide)))
  have K118 : Keep h0 h104 [o] := (Keep.refl h0 [o]).trans Kp104 all0
  have K119 : Keep h0 h108 [o] := K118.wr W108 (Or.inl (List.mem_of_getElem? (i := 0) rfl))
  have K120 : Keep h0 h112 [o] := K119.wr W112 (Or.inl (List.mem_of_getElem? (i := 0) rfl))
  obtain ⟨fs, hr, hrun, hended, hW, hsame⟩ := X112.leave (v := none) (fun _ => rfl)
  refine ⟨_, _, castTop (ef_init4_s3 mM o a1 k1 u1 u2 cs c0 c1 c2) ?_, hrun, hended, _, _, rfl, ?_, ⟨_, rfl⟩, hW, hsame.mono (by decide) (by decide)⟩
  · show SS pP eE bS s₁ (mkF mM 0 (Lc_init4_s3_0 o a1) []) _
    refine XS.aloadN X0.here hx rfl (hb hby d42_149_0) rfl rfl ?_
    show SS pP eE bS s₁ (mkF mM 1 (Lc_init4_s3_0 o a1) [(.ref o)]) _
    refine st101 _ ?_
    show SS pP eE bS T101 (mkF mM 4 (Lc_init4_s3_0 o a1) []) _
    refine XS.iloadN X101.here hx rfl (hb hby d42_149_4) rfl ?_
    refine XS.ifYes X101.here hx rfl (pc0 := 5) (pc' := 27) rfl (hb hby d42_149_5) rfl ((if0 _ _).trans (feq (by decide : ¬ ((3 : Int32) = (0 : Int32)))).2) (by decide) (by decide) ?_
    show SS pP eE bS T101 (mkF mM 27 (Lc_init4_s3_0 o a1) []) _
    refine st103 _ ?_
    show SS pP eE bS T103 (mkF mM 30 (Lc_init4_s3_0 o a1) [(.int cs)]) _
    refine XS.ifNo X103.here hx rfl (hb hby d42_149_30) rfl ((if0 _ _).trans (feq hcs).1) ?_
    refine XS.aloadN X103.here hx rfl (hb hby d42_149_33) rfl rfl ?_
    refine XS.iloadN X103.here hx rfl (hb hby d42_149_34) rfl ?_
    refine XS.iloadN X103.here hx rfl (hb hby d42_149_35) rfl ?_
    show SS pP eE bS T103 (mkF mM 36 (Lc_init4_s3_0 o a1) [(.int (3 : Int32)), (.int (0 : Int32)), (.ref a1)]) _
    refine st104 _ ?_
    show SS pP eE bS T104 (mkF mM 39 (Lc_init4_s3_0 o a1) [(.ref b_104)]) _
    refine XS.astore X104.here hx rfl (hb hby d42_149_39) rfl rfl (l' := (Lc_init4_s3_1 o a1 b_104)) rfl ?_
    refine XS.aloadN X104.here hx rfl (hb hby d42_149_41) rfl rfl ?_
    refine XS.aload X104.here hx rfl (hb hby d42_149_42) rfl rfl ?_
    refine XS.iloadN X104.here hx rfl (hb hby d42_149_44) rfl ?_
    show SS pP eE bS T104 (mkF mM 45 (Lc_init4_s3_1 o a1 b_104) [(.int (3 : Int32)), (.ref b_104), (.ref o)]) _
    refine st105 _ ?_
    show SS pP eE bS T105 (mkF mM 48 (Lc_init4_s3_1 o a1 b_104) [(.int (0 : Int32)), (.ref o)]) _
    refine st108 _ ?_
    show SS pP eE bS T108 (mkF mM 51 (Lc_init4_s3_1 o a1 b_104) []) _
    refine XS.aloadN X108.here hx rfl (hb hby d42_149_51) rfl rfl ?_
    refine XS.aload X108.here hx rfl (hb hby d42_149_52) rfl rfl ?_
    show SS pP eE bS T108 (mkF mM 54 (Lc_init4_s3_1 o a1 b_104) [(.ref b_104), (.ref o)]) _
    refine st112 _ ?_
    show SS pP eE bS T112 (mkF mM 57 (Lc_init4_s3_1 o a1 b_104) []) _
    exact X112.returnOut hx Bd.returns (hb hby d42_149_57) hr
  · show Q_init4_s3 Z o a1 k1 u1 u2 cs c0 c1 c2 h0 n0 _ T112.heap _
    rw [e112]
    exact ⟨b_104, k2_104, rfl, N112, K120, c116_E_o, Fw112, c117_F_coder_o, c115_V_b_104, (by omega)⟩
abbrev r3_1_3_52 : Room := { frames := 3, cells := 1, slots := 3, locals := 52 }
def Q_init1_s3 (Z : State) (o : Addr) (a1 : Addr) (k1 : ClassId) (u1 : Value) (u2 : Value) (cs : Int32) (c0 : Int32) (c1 : Int32) (c2 : Int32) (h0 : Heap) (n0 : Nat) (xv : Option Value) (xh : Heap) (xL : List Loc) : Prop := ∃ b : Addr, ∃ k2 : ClassId, xv = none ∧ Fr n0 xL ∧ Keep h0 xh [o] ∧ Exa Z xh o "java/lang/String" ∧ Fld Z xh o "java/lang/String" "value" "[B" (.ref b) ∧ Fld Z xh o "java/lang/String" "coder" "B" (.int (0 : Int32)) ∧ Arv Z xh b k2 .byte (3 : Int32) [(.int c0.toInt8.toInt32), (.int c1.toInt8.toInt32), (.int c2.toInt8.toInt32)] (.int (0 : Int32)) ∧ @LE.le Nat _ h0.size b
theorem ef_init1_s3 (mM : MethodId) (o : Addr) (a1 : Addr) (k1 : ClassId) (u1 : Value) (u2 : Value) (cs : Int32) (c0 : Int32) (c1 : Int32) (c2 : Int32) : entryFrame mM #[(.ref o), (.ref a1)] 2 = mkF mM 0 #[.val (.ref o), .val (.ref a1)] [] := by
  first | (simp [entryFrame, mkF, argsToLocals, Value.category]; done) | rfl
theorem rm_init1_s3 (l : Launch) (Z : State) (a0 : Array Value) (hw : HW a0 Z) (ws : List Jvm.Cond) (o : Addr) (a1 : Addr) (k1 : ClassId) (u1 : Value) (u2 : Value) (cs : Int32) (c0 : Int32) (c1 : Int32) (c2 : Int32) (h0 : Heap) (n0 : Nat) (Z0 : n0 ≤ h0.size) (E_o : Exa Z h0 o "java/lang/String") (F_value_o : Fld Z h0 o "java/lang/String" "value" "[B" u1) (F_coder_o : Fld Z h0 o "java/lang/String" "coder" "B" u2) (V_a1 : Arv Z h0 a1 k1 .char (3 : Int32) [(.int c0), (.int c1), (.int c2)] (.int (0 : Int32))) (g_o : @LE.le Nat _ n0 o) (OL : Old Z n0 h0) (S_COMPACT_STRINGS : Sta Z Z.heap "java/lang/String" "COMPACT_STRINGS" "Z" (.int cs)) (hcs : ¬ (cs = (0 : Int32))) (q0 : ¬ ((255 : Int32) < c0)) (q1 : ¬ ((255 : Int32) < c1)) (q2 : ¬ ((255 : Int32) < c2)) :
    MetFree l y39_ (head1 (Jvm.Cond.code y39_ jdk_42_method_3_code 2 none :: ws) r3_1_3_52) (fun xa xU => xa = #[(.ref o), (.ref a1)] ∧ Z.Warmed39 xU.vm ∧ xU.heap = h0) (fun _ _ _ _ _ => True) (fun _ xU xo xU' => ∃ xv xL, xo = .returned xv ∧ Q_init1_s3 Z o a1 k1 u1 u2 cs c0 c1 c2 h0 n0 xv xU'.heap xL ∧ FrameEnd xU xo xU' xL r3_1_3_52.cells r3_1_3_52.slots) := by
  refine MetFree.of_bodySF (plainFor_of_name pn_java_lang_String) hisR ?_
  intro pP eE sS mM argS bS methS cC s₁ Bd hml0 hP hK
  obtain ⟨rfl, hZ, hh⟩ := hP
  have hx := Bd.exec
  have hby := Bd.bytes
  have hml : cC.maxLocals = 2 := hml0
  have hown : sS.vm.findClass "java/lang/String" = some mM.cls := findClass_of_methodNamed Bd.named
  have hnm := (name_of_methodNamed Bd.named Bd.method).1
  have X0 : Stand pP l eE r3_1_3_52 sS mM #[(.ref o), (.ref a1)] bS methS cC s₁ [] 0 0 := Stand.of_body Bd
  have e0 : s₁.heap = h0 := by rw [← hh, Bd.state]; rfl
  have N0 := Fr.nil n0
  obtain ⟨cl101, Ar101, q101, S101, Ng101, Ha101, Ga101⟩ := id V_a1
  obtain ⟨_, _, ⟨T102, L102, k102, n102⟩, -, X102, ⟨Lc102, hQ102, l102, y102, z102⟩, st102⟩ := X0.specialBack hx (y := y38_) rfl hown (mvT hZ (wi hw 7 rfl)) (mvT hZ (wi hw 8 rfl)) (mvT hZ (wi hw 10 rfl)) (by decide) (backOf (W := 0) (rm_init4_s3 l Z a0 hw [] o a1 k1 u1 u2 cs c0 c1 c2 h0 n0 (by omega) E_o F_value_o F_coder_o V_a1 g_o OL S_COMPACT_STRINGS hcs q0 q1 q2) hZ (wi hw 10 rfl) (wi hw 2 rfl) (by decide) (by decide)) (g := (mkF mM 6 #[.val (.ref o), .val (.ref a1)] [.null, (.int (3 : Int32)), (.int (0 : Int32)), (.ref a1), (.ref o)])) rfl (by rw [hml]; rfl) (Steps.refl _) (a := o) (argsL := [(.ref a1), (.int (0 : Int32)), (.int (3 : Int32)), .null]) (rest := []) (lenOf pd_1 rfl) rfl (by show 2 * 0 + _ ≤ _; exact Nat.le_of_eq rfl) (hb hby d42_3_6) (fun _ _ => ⟨rfl, e0, ble rfl, ble rfl⟩)
  dsimp only [Pt.U, Pt.locs, Pt.cells, Pt.slots] at X102 l102 y102 z102 st102 hQ102
  subst y102 z102
  obtain ⟨h102, e102⟩ : ∃ z, T102.heap = z := ⟨_, rfl⟩
  rw [e102] at hQ102
  obtain ⟨b_102, k2_102, rfl, N102q, Kp102, p102_E_o, p102_F_value_o, p102_F_coder_o, p102_V_b, p102_gh_b⟩ := hQ102
  have Sz1 : h0.size ≤ h102.size := Kp102.1
  have N102 : Fr n0 L102 := by rw [l102]; exact Fr.app N0 N102q
  have K103 : Keep h0 h102 [o] := (Keep.refl h0 [o]).trans Kp102 (allS (Or.inl (List.mem_of_getElem? (i := 0) rfl)) all0)
  obtain ⟨fs, hr, hrun, hended, hW, hsame⟩ := X102.leave (v := none) (fun _ => rfl)
  refine ⟨_, _, castTop (ef_init1_s3 mM o a1 k1 u1 u2 cs c0 c1 c2) ?_, hrun, hended, _, _, rfl, ?_, ⟨_, rfl⟩, hW, hsame.mono (by decide) (by decide)⟩
  · show SS pP eE bS s₁ (mkF mM 0 #[.val (.ref o), .val (.ref a1)] []) _
    refine XS.aloadN X0.here hx rfl (hb hby d42_3_0) rfl rfl ?_
    refine XS.aloadN X0.here hx rfl (hb hby d42_3_1) rfl rfl ?_
    refine XS.iconst X0.here hx rfl (hb hby d42_3_2) ?_
    refine XS.aloadN X0.here hx rfl (hb hby d42_3_3) rfl rfl ?_
    show SS pP eE bS s₁ (mkF mM 4 #[.val (.ref o), .val (.ref a1)] [(.ref a1), (.int (0 : Int32)), (.ref a1), (.ref o)]) _
    refine X0.arraylength hx (by rw [e0]; exact Ar101.1) (State.isArrayOf_alike hZ.alike Ar101.2.1) (g := (mkF mM 4 #[.val (.ref o), .val (.ref a1)] [(.ref a1), (.int (0 : Int32)), (.ref a1), (.ref o)])) rfl rfl (hb hby d42_3_4) _ ?_
    rw [len_of S101 Ng101]
    show SS pP eE bS s₁ (mkF mM 5 #[.val (.ref o), .val (.ref a1)] [(.int (3 : Int32)), (.int (0 : Int32)), (.ref a1), (.ref o)]) _
    refine XS.aconstNull X0.here hx rfl (hb hby d42_3_5) ?_
    show SS pP eE bS s₁ (mkF mM 6 #[.val (.ref o), .val (.ref a1)] [.null, (.int (3 : Int32)), (.int (0 : Int32)), (.ref a1), (.ref o)]) _
    refine st102.trans ?_
    show SS pP eE bS T102 (mkF mM 9 #[.val (.ref o), .val (.ref a1)] []) _
    exact X102.returnOut hx Bd.returns (hb hby d42_3_9) hr
  · show Q_init1_s3 Z o a1 k1 u1 u2 cs c0 c1 c2 h0 n0 _ T102.heap _
    rw [e102]
    exact ⟨b_102, k2_102, rfl, N102, K103, p102_E_o, p102_F_value_o, p102_F_coder_o, p102_V_b, (by omega)⟩
theorem own_thW {Z : State} {a0 : Array Value} (hw : HW a0 Z) : ∀ d ∈ thW "com/example/dipper/dipper/store/NotFoundException", d.before a0 Z = true := by
  intro d hd
  simp only [thW, List.mem_cons, List.mem_append, List.not_mem_nil, or_false, false_or, or_assoc] at hd
  rcases hd with rfl | rfl | rfl | rfl | rfl | rfl | rfl | rfl | rfl | rfl | rfl | rfl | rfl | rfl | rfl | rfl | rfl | rfl | rfl | rfl | rfl | rfl | rfl | rfl | rfl | rfl | rfl | rfl | rfl | rfl | rfl
  · exact wi hw 176 rfl
  · exact wi hw 194 rfl
  · exact wi hw 189 rfl
  · exact wi hw 195 rfl
  · exact wi hw 196 rfl
  · exact wi hw 197 rfl
  · exact wi hw 12 rfl
  · exact wi hw 13 rfl
  · exact wi hw 178 rfl
  · exact wi hw 187 rfl
  · exact wi hw 200 rfl
  · exact wi hw 179 rfl
  · exact wi hw 182 rfl
  · exact wi hw 185 rfl
  · exact wi hw 205 rfl
  · exact wi hw 181 rfl
  · exact wi hw 207 rfl
  · exact wi hw 184 rfl
  · exact wi hw 208 rfl
  · exact wi hw 180 rfl
  · exact wi hw 183 rfl
  · exact wi hw 186 rfl
  · exact wi hw 210 rfl
  · exact wi hw 211 rfl
  · exact wi hw 212 rfl
  · exact wi hw 191 rfl
  · exact wi hw 192 rfl
  · exact wi hw 193 rfl
  · exact wi hw 209 rfl
  · exact wi hw 190 rfl
  · exact wi hw 188 rfl
abbrev c78_2 := jdk_78_method_2_code
theorem d78_2_0 : decode c78_2 0 = .ok (.aload_n 0, 1) := by decide +kernel
theorem d78_2_1 : decode c78_2 1 = .ok (.invokespecial 1, 3) := by decide +kernel
theorem d78_2_4 : decode c78_2 4 = .ok (.aload_n 0, 1) := by decide +kernel
theorem d78_2_5 : decode c78_2 5 = .ok (.aload_n 0, 1) := by decide +kernel
theorem d78_2_6 : decode c78_2 6 = .ok (.putfield 7, 3) := by decide +kernel
theorem d78_2_9 : decode c78_2 9 = .ok (.aload_n 0, 1) := by decide +kernel
theorem d78_2_10 : decode c78_2 10 = .ok (.getstatic 13, 3) := by decide +kernel
theorem d78_2_13 : decode c78_2 13 = .ok (.putfield 17, 3) := by decide +kernel
theorem d78_2_16 : decode c78_2 16 = .ok (.aload_n 0, 1) := by decide +kernel
theorem d78_2_17 : decode c78_2 17 = .ok (.getstatic 20, 3) := by decide +kernel
theorem d78_2_20 : decode c78_2 20 = .ok (.putfield 24, 3) := by decide +kernel
theorem d78_2_23 : decode c78_2 23 = .ok (.aload_n 0, 1) := by decide +kernel
theorem d78_2_24 : decode c78_2 24 = .ok (.invokevirtual 27, 3) := by decide +kernel
theorem d78_2_27 : decode c78_2 27 = .ok (.pop, 1) := by decide +kernel
theorem d78_2_28 : decode c78_2 28 = .ok (.aload_n 0, 1) := by decide +kernel
theorem d78_2_29 : decode c78_2 29 = .ok (.aload_n 1, 1) := by decide +kernel
theorem d78_2_30 : decode c78_2 30 = .ok (.putfield 31, 3) := by decide +kernel
theorem d78_2_33 : decode c78_2 33 = .ok (.return_, 1) := by decide +kernel
abbrev r3_1_2752_42 : Room := { frames := 3, cells := 1, slots := 2752, locals := 42 }
abbrev y40_ : MethodName := ⟨"java/lang/Throwable", "<init>", "(Ljava/lang/String;)V"⟩
theorem pn_java_lang_Throwable : plainName "java/lang/Throwable" = true := by first | (simp [plainName, overriddenIn]; done) | decide +kernel
def Q_ctor_Throwable (Z : State) (o : Addr) (b : Addr) (ua : Addr) (sa : Addr) (w1 : Value) (w2 : Value) (w3 : Value) (w4 : Value) (h0 : Heap) (n0 : Nat) (xv : Option Value) (xh : Heap) (xL : List Loc) : Prop := xv = none ∧ Fr n0 xL ∧ Keep h0 xh [o] ∧ Exa Z xh o "com/example/dipper/dipper/store/NotFoundException" ∧ Unt xh o ∧ Fld Z xh o "java/lang/Throwable" "detailMessage" "Ljava/lang/String;" (.ref b)
theorem ef_ctor_Throwable (mM : MethodId) (o : Addr) (b : Addr) (ua : Addr) (sa : Addr) (w1 : Value) (w2 : Value) (w3 : Value) (w4 : Value) : entryFrame mM #[(.ref o), (.ref b)] 2 = mkF mM 0 #[.val (.ref o), .val (.ref b)] [] := by
  first | (simp [entryFrame, mkF, argsToLocals, Value.category]; done) | rfl
theorem rm_ctor_Throwable (l : Launch) (Z : State) (a0 : Array Value) (hw : HW a0 Z) (ws : List Jvm.Cond) (o : Addr) (b : Addr) (ua : Addr) (sa : Addr) (w1 : Value) (w2 : Value) (w3 : Value) (w4 : Value) (h0 : Heap) (n0 : Nat) (Z0 : n0 ≤ h0.size) (E_o : Exa Z h0 o "com/example/dipper/dipper/store/NotFoundException") (U_o : Unt h0 o) (F_cause_o : Fld Z h0 o "java/lang/Throwable" "cause" "Ljava/lang/Throwable;" w1) (F_stackTrace_o : Fld Z h0 o "java/lang/Throwable" "stackTrace" "[Ljava/lang/StackTraceElement;" w2) (F_suppressedExceptions_o : Fld Z h0 o "java/lang/Throwable" "suppressedExceptions" "Ljava/util/List;" w3) (F_detailMessage_o : Fld Z h0 o "java/lang/Throwable" "detailMessage" "Ljava/lang/String;" w4) (F_backtrace_o : Fld Z h0 o "java/lang/Throwable" "backtrace" "Ljava/lang/Object;" .null) (g_o : @LE.le Nat _ n0 o) (OL : Old Z n0 h0) (TH : ThS Z h0) (S_UNASSIGNED_STACK : Sta Z Z.heap "java/lang/Throwable" "UNASSIGNED_STACK" "[Ljava/lang/StackTraceElement;" (.ref ua)) (S_SUPPRESSED_SENTINEL : Sta Z Z.heap "java/lang/Throwable" "SUPPRESSED_SENTINEL" "Ljava/util/List;" (.ref sa)) (hl : l.stackTraces = true) :
    MetFree l y40_ (head1 (Jvm.Cond.code y40_ jdk_78_method_2_code 2 none :: ws) r3_1_2752_42) (fun xa xU => xa = #[(.ref o), (.ref b)] ∧ Z.Warmed39 xU.vm ∧ xU.heap = h0) (fun _ _ bl s _ => s.vm.MethodsKnown ∧ s.vm.FramesKnown bl) (fun _ xU xo xU' => ∃ xv xL, xo = .returned xv ∧ Q_ctor_Throwable Z o b ua sa w1 w2 w3 w4 h0 n0 xv xU'.heap xL ∧ FrameEnd xU xo xU' xL r3_1_2752_42.cells r3_1_2752_42.slots) := by
  refine MetFree.of_bodySF (plainFor_of_name pn_java_lang_Throwable) hisR ?_
  intro pP eE sS mM argS bS methS cC s₁ Bd hml0 hP hK
  obtain ⟨rfl, hZ, hh⟩ := hP
  have hx := Bd.exec
  have hby := Bd.bytes
  have hml : cC.maxLocals = 2 := hml0
  have hown : sS.vm.findClass "java/lang/Throwable" = some mM.cls := findClass_of_methodNamed Bd.named
  have hnm := (name_of_methodNamed Bd.named Bd.method).1
  have X0 : Stand pP l eE r3_1_2752_42 sS mM #[(.ref o), (.ref b)] bS methS cC s₁ [] 0 0 := Stand.of_body Bd
  have e0 : s₁.heap = h0 := by rw [← hh, Bd.state]; rfl
  have N0 := Fr.nil n0
  obtain ⟨hTK, hBelow⟩ := hK
  obtain ⟨T101, X101, e101, st101⟩ := initO X0 hx hZ hown (wi hw 178 rfl) (wi hw 12 rfl) (wi hw 13 rfl) e0 (g := (mkF mM 1 #[.val (.ref o), .val (.ref b)] [(.ref o)])) rfl (by rw [hml]; rfl) rfl (hb hby d78_2_1) (by decide) (W := 0) (by show 2 * 0 + _ ≤ _; exact Nat.le_of_eq rfl) (by decide)
  obtain ⟨T102, h102, X102, e102, W102, st102⟩ := putF X101 hx hZ hown (host := "") (Or.inl (wi hw 179 rfl)) Via.refl e101 F_cause_o E_o (Or.inl (wi hw 180 rfl)) (wi hw 27 rfl) (ty := (.object "java/lang/Throwable")) (by decide) rfl rfl (g := (mkF mM 6 #[.val (.ref o), .val (.ref b)] [(.ref o), (.ref o)])) rfl rfl (hb hby d78_2_6)
  have Sz1 : h0.size ≤ h102.size := Nat.le_of_eq (Wr.size W102).symm
  have Fw102 : Fld Z h102 o "java/lang/Throwable" "cause" "Ljava/lang/Throwable;" (.ref o) := Fld.same W102 F_cause_o
  have N102 := Fr.snoc X102 N0 g_o
  have c103_OL : Old Z n0 h102 := OL.wr W102 g_o
  have c104_S_UNASSIGNED_STACK : Sta Z h102 "java/lang/Throwable" "UNASSIGNED_STACK" "[Ljava/lang/StackTraceElement;" (.ref ua) := Sta.ext c103_OL.2 S_UNASSIGNED_STACK
  obtain ⟨T105, X105, e105, st105⟩ := getS2 X102 hx hZ hown (host := "") (Or.inl (wi hw 181 rfl)) Via.refl e102 c104_S_UNASSIGNED_STACK (g := (mkF mM 10 #[.val (.ref o), .val (.ref b)] [(.ref o)])) rfl (hb hby d78_2_10)
  have c106_F_stackTrace_o : Fld Z h102 o "java/lang/Throwable" "stackTrace" "[Ljava/lang/StackTraceElement;" w2 := Fld.other W102 F_stackTrace_o (Or.inr (slot_ne (Or.inl (wi hw 183 rfl)) (Or.inl (wi hw 180 rfl)) (by decide) (t := (.array (.object "java/lang/StackTraceElement"))) (t' := (.object "java/lang/Throwable")) (by decide) (by decide)))
  have c107_E_o : Exa Z h102 o "com/example/dipper/dipper/store/NotFoundException" := Exa.wr W102 E_o
  obtain ⟨T108, h108, X108, e108, W108, st108⟩ := putF X105 hx hZ hown (host := "") (Or.inl (wi hw 182 rfl)) Via.refl e105 c106_F_stackTrace_o c107_E_o (Or.inl (wi hw 183 rfl)) (wi hw 27 rfl) (ty := (.array (.object "java/lang/StackTraceElement"))) (by decide) rfl rfl (g := (mkF mM 13 #[.val (.ref o), .val (.ref b)] [(.ref ua), (.ref o)])) rfl rfl (hb hby d78_2_13)
  have Sz2 : h102.size ≤ h108.size := Nat.le_of_eq (Wr.size W108).symm
  have Fw108 : Fld Z h108 o "java/lang/Throwable" "stackTrace" "[Ljava/lang/StackTraceElement;" (.ref ua) := Fld.same W108 c106_F_stackTrace_o
  have N108 := Fr.snoc X108 N102 g_o
  have c109_OL : Old Z n0 h108 := c103_OL.wr W108 g_o
  have c110_S_SUPPRESSED_SENTINEL : Sta Z h108 "java/lang/Throwable" "SUPPRESSED_SENTINEL" "Ljava/util/List;" (.ref sa) := Sta.ext c109_OL.2 S_SUPPRESSED_SENTINEL
  obtain ⟨T111, X111, e111, st111⟩ := getS2 X108 hx hZ hown (host := "") (Or.inl (wi hw 184 rfl)) Via.refl e108 c110_S_SUPPRESSED_SENTINEL (g := (mkF mM 17 #[.val (.ref o), .val (.ref b)] [(.ref o)])) rfl (hb hby d78_2_17)
  have c112_F_suppressedExceptions_o : Fld Z h102 o "java/lang/Throwable" "suppressedExceptions" "Ljava/util/List;" w3 := Fld.other W102 F_suppressedExceptions_o (Or.inr (slot_ne (Or.inl (wi hw 186 rfl)) (Or.inl (wi hw 180 rfl)) (by decide) (t := (.object "java/util/List")) (t' := (.object "java/lang/Throwable")) (by decide) (by decide)))
  have c113_F_suppressedExceptions_o : Fld Z h108 o "java/lang/Throwable" "suppressedExceptions" "Ljava/util/List;" w3 := Fld.other W108 c112_F_suppressedExceptions_o (Or.inr (slot_ne (Or.inl (wi hw 186 rfl)) (Or.inl (wi hw 183 rfl)) (by decide) (t := (.object "java/util/List")) (t' := (.array (.object "java/lang/StackTraceElement"))) (by decide) (by decide)))
  have c114_E_o : Exa Z h108 o "com/example/dipper/dipper/store/NotFoundException" := Exa.wr W108 c107_E_o
  obtain ⟨T115, h115, X115, e115, W115, st115⟩ := putF X111 hx hZ hown (host := "") (Or.inl (wi hw 185 rfl)) Via.refl e111 c113_F_suppressedExceptions_o c114_E_o (Or.inl (wi hw 186 rfl)) (wi hw 27 rfl) (ty := (.object "java/util/List")) (by decide) rfl rfl (g := (mkF mM 20 #[.val (.ref o), .val (.ref b)] [(.ref sa), (.ref o)])) rfl rfl (hb hby d78_2_20)
  have Sz3 : h108.size ≤ h115.size := Nat.le_of_eq (Wr.size W115).symm
  have Fw115 : Fld Z h115 o "java/lang/Throwable" "suppressedExceptions" "Ljava/util/List;" (.ref sa) := Fld.same W115 c113_F_suppressedExceptions_o
  have N115 := Fr.snoc X115 N108 g_o
  have c117_E_o : Exa Z h115 o "com/example/dipper/dipper/store/NotFoundException" := Exa.wr W115 c114_E_o
  have c118_U_o : Unt h102 o := Unt.wr W102 U_o
  have c119_U_o : Unt h108 o := Unt.wr W108 c118_U_o
  have c120_U_o : Unt h115 o := Unt.wr W115 c119_U_o
  have c121_F_stackTrace_o : Fld Z h115 o "java/lang/Throwable" "stackTrace" "[Ljava/lang/StackTraceElement;" (.ref ua) := Fld.other W115 Fw108 (Or.inr (slot_ne (Or.inl (wi hw 183 rfl)) (Or.inl (wi hw 186 rfl)) (by decide) (t := (.array (.object "java/lang/StackTraceElement"))) (t' := (.object "java/util/List")) (by decide) (by decide)))
  have c122_F_backtrace_o : Fld Z h102 o "java/lang/Throwable" "backtrace" "Ljava/lang/Object;" .null := Fld.other W102 F_backtrace_o (Or.inr (slot_ne (Or.inl (wi hw 211 rfl)) (Or.inl (wi hw 180 rfl)) (by decide) (t := (.object "java/lang/Object")) (t' := (.object "java/lang/Throwable")) (by decide) (by decide)))
  have c123_F_backtrace_o : Fld Z h108 o "java/lang/Throwable" "backtrace" "Ljava/lang/Object;" .null := Fld.other W108 c122_F_backtrace_o (Or.inr (slot_ne (Or.inl (wi hw 211 rfl)) (Or.inl (wi hw 183 rfl)) (by decide) (t := (.object "java/lang/Object")) (t' := (.array (.object "java/lang/StackTraceElement"))) (by decide) (by decide)))
  have c124_F_backtrace_o : Fld Z h115 o "java/lang/Throwable" "backtrace" "Ljava/lang/Object;" .null := Fld.other W115 c123_F_backtrace_o (Or.inr (slot_ne (Or.inl (wi hw 211 rfl)) (Or.inl (wi hw 186 rfl)) (by decide) (t := (.object "java/lang/Object")) (t' := (.object "java/util/List")) (by decide) (by decide)))
  have c125_OL : Old Z n0 h115 := c109_OL.wr W115 g_o
  have c126_S_UNASSIGNED_STACK : Sta Z h115 "java/lang/Throwable" "UNASSIGNED_STACK" "[Ljava/lang/StackTraceElement;" (.ref ua) := Sta.ext c125_OL.2 S_UNASSIGNED_STACK
  obtain ⟨T116, h116, X116, e116, Kq116, st116⟩ := fillL X115 hx hl hZ hown (own_thW hw) (wi hw 27 rfl) hTK hBelow (by rw [hh]; exact TH) e115 c117_E_o c120_U_o c121_F_stackTrace_o c124_F_backtrace_o c126_S_UNASSIGNED_STACK (g := (mkF mM 24 #[.val (.ref o), .val (.ref b)] [(.ref o)])) rfl (by rw [hml]; rfl) rfl (hb hby d78_2_24) (W := 0) (by show 2 * 0 + _ ≤ _; exact Nat.le_of_eq rfl) (by decide) (by decide) (by decide) (by decide)
  have Kx116 := keep_of_kp Kq116
  have Sz4 : h115.size ≤ h116.size := Kx116.1
  have N116 := Fr.six (Z := Z) N115 g_o
  have A116 : Exa Z h116 o "com/example/dipper/dipper/store/NotFoundException" := Exa.kp Kq116 c117_E_o
  have B116 : Unt h116 o := Unt.kp Kq116 c120_U_o
  obtain ⟨um116, M116⟩ := fld_laid (O := "java/lang/Throwable") (n := "detailMessage") (d := "Ljava/lang/String;") A116 B116.known (wi hw 27 rfl) (Or.inl (wi hw 210 rfl))
  obtain ⟨T127, h127, X127, e127, W127, st127⟩ := putF X116 hx hZ hown (host := "") (Or.inl (wi hw 214 rfl)) Via.refl e116 M116 A116 (Or.inl (wi hw 210 rfl)) (wi hw 27 rfl) (ty := (.object "java/lang/String")) (by decide) rfl rfl (g := (mkF mM 30 #[.val (.ref o), .val (.ref b)] [(.ref b), (.ref o)])) rfl rfl (hb hby d78_2_30)
  have Sz5 : h116.size ≤ h127.size := Nat.le_of_eq (Wr.size W127).symm
  have Fw127 : Fld Z h127 o "java/lang/Throwable" "detailMessage" "Ljava/lang/String;" (.ref b) := Fld.same W127 M116
  have N127 := Fr.snoc X127 N116 g_o
  have c128_E_o : Exa Z h127 o "com/example/dipper/dipper/store/NotFoundException" := Exa.wr W127 A116
  have c129_U_o : Unt h127 o := Unt.wr W127 B116
  have K130 : Keep h0 h102 [o] := (Keep.refl h0 [o]).wr W102 (Or.inl (List.mem_of_getElem? (i := 0) rfl))
  have K131 : Keep h0 h108 [o] := K130.wr W108 (Or.inl (List.mem_of_getElem? (i := 0) rfl))
  have K132 : Keep h0 h115 [o] := K131.wr W115 (Or.inl (List.mem_of_getElem? (i := 0) rfl))
  have K133 : Keep h0 h116 [o] := K132.trans Kx116 (allS (Or.inl (List.mem_of_getElem? (i := 0) rfl)) all0)
  have K134 : Keep h0 h127 [o] := K133.wr W127 (Or.inl (List.mem_of_getElem? (i := 0) rfl))
  obtain ⟨fs, hr, hrun, hended, hW, hsame⟩ := X127.leave (v := none) (fun _ => rfl)
  refine ⟨_, _, castTop (ef_ctor_Throwable mM o b ua sa w1 w2 w3 w4) ?_, hrun, hended, _, _, rfl, ?_, ⟨_, rfl⟩, hW, hsame.mono (by decide) (by decide)⟩
  · show SS pP eE bS s₁ (mkF mM 0 #[.val (.ref o), .val (.ref b)] []) _
    refine XS.aloadN X0.here hx rfl (hb hby d78_2_0) rfl rfl ?_
    show SS pP eE bS s₁ (mkF mM 1 #[.val (.ref o), .val (.ref b)] [(.ref o)]) _
    refine st101 _ ?_
    show SS pP eE bS T101 (mkF mM 4 #[.val (.ref o), .val (.ref b)] []) _
    refine XS.aloadN X101.here hx rfl (hb hby d78_2_4) rfl rfl ?_
    refine XS.aloadN X101.here hx rfl (hb hby d78_2_5) rfl rfl ?_
    show SS pP eE bS T101 (mkF mM 6 #[.val (.ref o), .val (.ref b)] [(.ref o), (.ref o)]) _
    refine st102 _ ?_
    show SS pP eE bS T102 (mkF mM 9 #[.val (.ref o), .val (.ref b)] []) _
    refine XS.aloadN X102.here hx rfl (hb hby d78_2_9) rfl rfl ?_
    show SS pP eE bS T102 (mkF mM 10 #[.val (.ref o), .val (.ref b)] [(.ref o)]) _
    refine st105 _ ?_
    show SS pP eE bS T105 (mkF mM 13 #[.val (.ref o), .val (.ref b)] [(.ref ua), (.ref o)]) _
    refine st108 _ ?_
    show SS pP eE bS T108 (mkF mM 16 #[.val (.ref o), .val (.ref b)] []) _
    refine XS.aloadN X108.here hx rfl (hb hby d78_2_16) rfl rfl ?_
    show SS pP eE bS T108 (mkF mM 17 #[.val (.ref o), .val (.ref b)] [(.ref o)]) _
    refine st111 _ ?_
    show SS pP eE bS T111 (mkF mM 20 #[.val (.ref o), .val (.ref b)] [(.ref sa), (.ref o)]) _
    refine st115 _ ?_
    show SS pP eE bS T115 (mkF mM 23 #[.val (.ref o), .val (.ref b)] []) _
    refine XS.aloadN X115.here hx rfl (hb hby d78_2_23) rfl rfl ?_
    show SS pP eE bS T115 (mkF mM 24 #[.val (.ref o), .val (.ref b)] [(.ref o)]) _
    refine st116 _ ?_
    show SS pP eE bS T116 (mkF mM 27 #[.val (.ref o), .val (.ref b)] [(.ref o)]) _
    refine XS.pop X116.here hx rfl (hb hby d78_2_27) rfl rfl ?_
    refine XS.aloadN X116.here hx rfl (hb hby d78_2_28) rfl rfl ?_
    refine XS.aloadN X116.here hx rfl (hb hby d78_2_29) rfl rfl ?_
    show SS pP eE bS T116 (mkF mM 30 #[.val (.ref o), .val (.ref b)] [(.ref b), (.ref o)]) _
    refine st127 _ ?_
    show SS pP eE bS T127 (mkF mM 33 #[.val (.ref o), .val (.ref b)] []) _
    exact X127.returnOut hx Bd.returns (hb hby d78_2_33) hr
  · show Q_ctor_Throwable Z o b ua sa w1 w2 w3 w4 h0 n0 _ T127.heap _
    rw [e127]
    exact ⟨rfl, N127, K134, c128_E_o, c129_U_o, Fw127⟩
abbrev c59_2 := jdk_59_method_2_code
theorem d59_2_0 : decode c59_2 0 = .ok (.aload_n 0, 1) := by decide +kernel
theorem d59_2_1 : decode c59_2 1 = .ok (.aload_n 1, 1) := by decide +kernel
theorem d59_2_2 : decode c59_2 2 = .ok (.invokespecial 7, 3) := by decide +kernel
theorem d59_2_5 : decode c59_2 5 = .ok (.return_, 1) := by decide +kernel
abbrev r4_1_2752_55 : Room := { frames := 4, cells := 1, slots := 2752, locals := 55 }
abbrev y41_ : MethodName := ⟨"java/lang/Exception", "<init>", "(Ljava/lang/String;)V"⟩
theorem pn_java_lang_Exception : plainName "java/lang/Exception" = true := by first | (simp [plainName, overriddenIn]; done) | decide +kernel
def Q_ctor_Exception (Z : State) (o : Addr) (b : Addr) (ua : Addr) (sa : Addr) (w1 : Value) (w2 : Value) (w3 : Value) (w4 : Value) (h0 : Heap) (n0 : Nat) (xv : Option Value) (xh : Heap) (xL : List Loc) : Prop := xv = none ∧ Fr n0 xL ∧ Keep h0 xh [o] ∧ Exa Z xh o "com/example/dipper/dipper/store/NotFoundException" ∧ Unt xh o ∧ Fld Z xh o "java/lang/Throwable" "detailMessage" "Ljava/lang/String;" (.ref b)
theorem ef_ctor_Exception (mM : MethodId) (o : Addr) (b : Addr) (ua : Addr) (sa : Addr) (w1 : Value) (w2 : Value) (w3 : Value) (w4 : Value) : entryFrame mM #[(.ref o), (.ref b)] 2 = mkF mM 0 #[.val (.ref o), .val (.ref b)] [] := by
  first | (simp [entryFrame, mkF, argsToLocals, Value.category]; done) | rfl
theorem rm_ctor_Exception (l : Launch) (Z : State) (a0 : Array Value) (hw : HW a0 Z) (ws : List Jvm.Cond) (o : Addr) (b : Addr) (ua : Addr) (sa : Addr) (w1 : Value) (w2 : Value) (w3 : Value) (w4 : Value) (h0 : Heap) (n0 : Nat) (Z0 : n0 ≤ h0.size) (E_o : Exa Z h0 o "com/example/dipper/dipper/store/NotFoundException") (U_o : Unt h0 o) (F_cause_o : Fld Z h0 o "java/lang/Throwable" "cause" "Ljava/lang/Throwable;" w1) (F_stackTrace_o : Fld Z h0 o "java/lang/Throwable" "stackTrace" "[Ljava/lang/StackTraceElement;" w2) (F_suppressedExceptions_o : Fld Z h0 o "java/lang/Throwable" "suppressedExceptions" "Ljava/util/List;" w3) (F_detailMessage_o : Fld Z h0 o "java/lang/Throwable" "detailMessage" "Ljava/lang/String;" w4) (F_backtrace_o : Fld Z h0 o "java/lang/Throwable" "backtrace" "Ljava/lang/Object;" .null) (g_o : @LE.le Nat _ n0 o) (OL : Old Z n0 h0) (TH : ThS Z h0) (S_UNASSIGNED_STACK : Sta Z Z.heap "java/lang/Throwable" "UNASSIGNED_STACK" "[Ljava/lang/StackTraceElement;" (.ref ua)) (S_SUPPRESSED_SENTINEL : Sta Z Z.heap "java/lang/Throwable" "SUPPRESSED_SENTINEL" "Ljava/util/List;" (.ref sa)) (hl : l.stackTraces = true) :
    MetFree l y41_ (head1 (Jvm.Cond.code y41_ jdk_59_method_2_code 2 none :: ws) r4_1_2752_55) (fun xa xU => xa = #[(.ref o), (.ref b)] ∧ Z.Warmed39 xU.vm ∧ xU.heap = h0) (fun _ _ bl s _ => s.vm.MethodsKnown ∧ s.vm.FramesKnown bl) (fun _ xU xo xU' => ∃ xv xL, xo = .returned xv ∧ Q_ctor_Exception Z o b ua sa w1 w2 w3 w4 h0 n0 xv xU'.heap xL ∧ FrameEnd xU xo xU' xL r4_1_2752_55.cells r4_1_2752_55.slots) := by
  refine MetFree.of_bodySF (plainFor_of_name pn_java_lang_Exception) hisR ?_
  intro pP eE sS mM argS bS methS cC s₁ Bd hml0 hP hK
  obtain ⟨rfl, hZ, hh⟩ := hP
  have hx := Bd.exec
  have hby := Bd.bytes
  have hml : cC.maxLocals = 2 := hml0
  have hown : sS.vm.findClass "java/lang/Exception" = some mM.cls := findClass_of_methodNamed Bd.named
  have hnm := (name_of_methodNamed Bd.named Bd.method).1
  have X0 : Stand pP l eE r4_1_2752_55 sS mM #[(.ref o), (.ref b)] bS methS cC s₁ [] 0 0 := Stand.of_body Bd
  have e0 : s₁.heap = h0 := by rw [← hh, Bd.state]; rfl
  have N0 := Fr.nil n0
  obtain ⟨hTK, hBelow⟩ := hK
  obtain ⟨_, _, ⟨T101, L101, k101, n101⟩, -, X101, ⟨Lc101, hQ101, l101, y101, z101⟩, st101⟩ := X0.specialBack hx (y := y40_) rfl hown (mvT hZ (wi hw 172 rfl)) (mvT hZ (wi hw 173 rfl)) (mvT hZ (wi hw 177 rfl)) (by decide) (backOfKL (W := 0) (rm_ctor_Throwable l Z a0 hw [] o b ua sa w1 w2 w3 w4 h0 n0 (by omega) E_o U_o F_cause_o F_stackTrace_o F_suppressedExceptions_o F_detailMessage_o F_backtrace_o g_o OL TH S_UNASSIGNED_STACK S_SUPPRESSED_SENTINEL hl) hZ (wi hw 177 rfl) (wi hw 176 rfl) (by decide) (by decide) hTK hBelow) (g := (mkF mM 2 #[.val (.ref o), .val (.ref b)] [(.ref b), (.ref o)])) rfl (by rw [hml]; rfl) (Steps.refl _) (a := o) (argsL := [(.ref b)]) (rest := []) (lenOf pd_10 rfl) rfl (by show 2 * 0 + _ ≤ _; exact Nat.le_of_eq rfl) (hb hby d59_2_2) (fun _ _ => ⟨rfl, e0, ble rfl, ble rfl⟩)
  dsimp only [Pt.U, Pt.locs, Pt.cells, Pt.slots] at X101 l101 y101 z101 st101 hQ101
  subst y101 z101
  obtain ⟨h101, e101⟩ : ∃ z, T101.heap = z := ⟨_, rfl⟩
  rw [e101] at hQ101
  obtain ⟨rfl, N101q, Kp101, p101_E_o, p101_U_o, p101_F_detailMessage_o⟩ := hQ101
  have Sz1 : h0.size ≤ h101.size := Kp101.1
  have N101 : Fr n0 L101 := by rw [l101]; exact Fr.app N0 N101q
  have K102 : Keep h0 h101 [o] := (Keep.refl h0 [o]).trans Kp101 (allS (Or.inl (List.mem_of_getElem? (i := 0) rfl)) all0)
  obtain ⟨fs, hr, hrun, hended, hW, hsame⟩ := X101.leave (v := none) (fun _ => rfl)
  refine ⟨_, _, castTop (ef_ctor_Exception mM o b ua sa w1 w2 w3 w4) ?_, hrun, hended, _, _, rfl, ?_, ⟨_, rfl⟩, hW, hsame.mono (by decide) (by decide)⟩
  · show SS pP eE bS s₁ (mkF mM 0 #[.val (.ref o), .val (.ref b)] []) _
    refine XS.aloadN X0.here hx rfl (hb hby d59_2_0) rfl rfl ?_
    refine XS.aloadN X0.here hx rfl (hb hby d59_2_1) rfl rfl ?_
    show SS pP eE bS s₁ (mkF mM 2 #[.val (.ref o), .val (.ref b)] [(.ref b), (.ref o)]) _
    refine st101.trans ?_
    show SS pP eE bS T101 (mkF mM 5 #[.val (.ref o), .val (.ref b)] []) _
    exact X101.returnOut hx Bd.returns (hb hby d59_2_5) hr
  · show Q_ctor_Exception Z o b ua sa w1 w2 w3 w4 h0 n0 _ T101.heap _
    rw [e101]
    exact ⟨rfl, N101, K102, p101_E_o, p101_U_o, p101_F_detailMessage_o⟩
abbrev c58_2 := jdk_58_method_2_code
theorem d58_2_0 : decode c58_2 0 = .ok (.aload_n 0, 1) := by decide +kernel
theorem d58_2_1 : decode c58_2 1 = .ok (.aload_n 1, 1) := by decide +kernel
theorem d58_2_2 : decode c58_2 2 = .ok (.invokespecial 7, 3) := by decide +kernel
theorem d58_2_5 : decode c58_2 5 = .ok (.return_, 1) := by decide +kernel
abbrev r5_1_2752_68 : Room := { frames := 5, cells := 1, slots := 2752, locals := 68 }
abbrev y42_ : MethodName := ⟨"java/lang/RuntimeException", "<init>", "(Ljava/lang/String;)V"⟩
theorem pn_java_lang_RuntimeException : plainName "java/lang/RuntimeException" = true := by first | (simp [plainName, overriddenIn]; done) | decide +kernel
def Q_ctor_RuntimeException (Z : State) (o : Addr) (b : Addr) (ua : Addr) (sa : Addr) (w1 : Value) (w2 : Value) (w3 : Value) (w4 : Value) (h0 : Heap) (n0 : Nat) (xv : Option Value) (xh : Heap) (xL : List Loc) : Prop := xv = none ∧ Fr n0 xL ∧ Keep h0 xh [o] ∧ Exa Z xh o "com/example/dipper/dipper/store/NotFoundException" ∧ Unt xh o ∧ Fld Z xh o "java/lang/Throwable" "detailMessage" "Ljava/lang/String;" (.ref b)
theorem ef_ctor_RuntimeException (mM : MethodId) (o : Addr) (b : Addr) (ua : Addr) (sa : Addr) (w1 : Value) (w2 : Value) (w3 : Value) (w4 : Value) : entryFrame mM #[(.ref o), (.ref b)] 2 = mkF mM 0 #[.val (.ref o), .val (.ref b)] [] := by
  first | (simp [entryFrame, mkF, argsToLocals, Value.category]; done) | rfl
theorem rm_ctor_RuntimeException (l : Launch) (Z : State) (a0 : Array Value) (hw : HW a0 Z) (ws : List Jvm.Cond) (o : Addr) (b : Addr) (ua : Addr) (sa : Addr) (w1 : Value) (w2 : Value) (w3 : Value) (w4 : Value) (h0 : Heap) (n0 : Nat) (Z0 : n0 ≤ h0.size) (E_o : Exa Z h0 o "com/example/dipper/dipper/store/NotFoundException") (U_o : Unt h0 o) (F_cause_o : Fld Z h0 o "java/lang/Throwable" "cause" "Ljava/lang/Throwable;" w1) (F_stackTrace_o : Fld Z h0 o "java/lang/Throwable" "stackTrace" "[Ljava/lang/StackTraceElement;" w2) (F_suppressedExceptions_o : Fld Z h0 o "java/lang/Throwable" "suppressedExceptions" "Ljava/util/List;" w3) (F_detailMessage_o : Fld Z h0 o "java/lang/Throwable" "detailMessage" "Ljava/lang/String;" w4) (F_backtrace_o : Fld Z h0 o "java/lang/Throwable" "backtrace" "Ljava/lang/Object;" .null) (g_o : @LE.le Nat _ n0 o) (OL : Old Z n0 h0) (TH : ThS Z h0) (S_UNASSIGNED_STACK : Sta Z Z.heap "java/lang/Throwable" "UNASSIGNED_STACK" "[Ljava/lang/StackTraceElement;" (.ref ua)) (S_SUPPRESSED_SENTINEL : Sta Z Z.heap "java/lang/Throwable" "SUPPRESSED_SENTINEL" "Ljava/util/List;" (.ref sa)) (hl : l.stackTraces = true) :
    MetFree l y42_ (head1 (Jvm.Cond.code y42_ jdk_58_method_2_code 2 none :: ws) r5_1_2752_68) (fun xa xU => xa = #[(.ref o), (.ref b)] ∧ Z.Warmed39 xU.vm ∧ xU.heap = h0) (fun _ _ bl s _ => s.vm.MethodsKnown ∧ s.vm.FramesKnown bl) (fun _ xU xo xU' => ∃ xv xL, xo = .returned xv ∧ Q_ctor_RuntimeException Z o b ua sa w1 w2 w3 w4 h0 n0 xv xU'.heap xL ∧ FrameEnd xU xo xU' xL r5_1_2752_68.cells r5_1_2752_68.slots) := by
  refine MetFree.of_bodySF (plainFor_of_name pn_java_lang_RuntimeException) hisR ?_
  intro pP eE sS mM argS bS methS cC s₁ Bd hml0 hP hK
  obtain ⟨rfl, hZ, hh⟩ := hP
  have hx := Bd.exec
  have hby := Bd.bytes
  have hml : cC.maxLocals = 2 := hml0
  have hown : sS.vm.findClass "java/lang/RuntimeException" = some mM.cls := findClass_of_methodNamed Bd.named
  have hnm := (name_of_methodNamed Bd.named Bd.method).1
  have X0 : Stand pP l eE r5_1_2752_68 sS mM #[(.ref o), (.ref b)] bS methS cC s₁ [] 0 0 := Stand.of_body Bd
  have e0 : s₁.heap = h0 := by rw [← hh, Bd.state]; rfl
  have N0 := Fr.nil n0
  obtain ⟨hTK, hBelow⟩ := hK
  obtain ⟨_, _, ⟨T101, L101, k101, n101⟩, -, X101, ⟨Lc101, hQ101, l101, y101, z101⟩, st101⟩ := X0.specialBack hx (y := y41_) rfl hown (mvT hZ (wi hw 166 rfl)) (mvT hZ (wi hw 167 rfl)) (mvT hZ (wi hw 171 rfl)) (by decide) (backOfKL (W := 0) (rm_ctor_Exception l Z a0 hw [] o b ua sa w1 w2 w3 w4 h0 n0 (by omega) E_o U_o F_cause_o F_stackTrace_o F_suppressedExceptions_o F_detailMessage_o F_backtrace_o g_o OL TH S_UNASSIGNED_STACK S_SUPPRESSED_SENTINEL hl) hZ (wi hw 171 rfl) (wi hw 170 rfl) (by decide) (by decide) hTK hBelow) (g := (mkF mM 2 #[.val (.ref o), .val (.ref b)] [(.ref b), (.ref o)])) rfl (by rw [hml]; rfl) (Steps.refl _) (a := o) (argsL := [(.ref b)]) (rest := []) (lenOf pd_10 rfl) rfl (by show 2 * 0 + _ ≤ _; exact Nat.le_of_eq rfl) (hb hby d58_2_2) (fun _ _ => ⟨rfl, e0, ble rfl, ble rfl⟩)
  dsimp only [Pt.U, Pt.locs, Pt.cells, Pt.slots] at X101 l101 y101 z101 st101 hQ101
  subst y101 z101
  obtain ⟨h101, e101⟩ : ∃ z, T101.heap = z := ⟨_, rfl⟩
  rw [e101] at hQ101
  obtain ⟨rfl, N101q, Kp101, p101_E_o, p101_U_o, p101_F_detailMessage_o⟩ := hQ101
  have Sz1 : h0.size ≤ h101.size := Kp101.1
  have N101 : Fr n0 L101 := by rw [l101]; exact Fr.app N0 N101q
  have K102 : Keep h0 h101 [o] := (Keep.refl h0 [o]).trans Kp101 (allS (Or.inl (List.mem_of_getElem? (i := 0) rfl)) all0)
  obtain ⟨fs, hr, hrun, hended, hW, hsame⟩ := X101.leave (v := none) (fun _ => rfl)
  refine ⟨_, _, castTop (ef_ctor_RuntimeException mM o b ua sa w1 w2 w3 w4) ?_, hrun, hended, _, _, rfl, ?_, ⟨_, rfl⟩, hW, hsame.mono (by decide) (by decide)⟩
  · show SS pP eE bS s₁ (mkF mM 0 #[.val (.ref o), .val (.ref b)] []) _
    refine XS.aloadN X0.here hx rfl (hb hby d58_2_0) rfl rfl ?_
    refine XS.aloadN X0.here hx rfl (hb hby d58_2_1) rfl rfl ?_
    show SS pP eE bS s₁ (mkF mM 2 #[.val (.ref o), .val (.ref b)] [(.ref b), (.ref o)]) _
    refine st101.trans ?_
    show SS pP eE bS T101 (mkF mM 5 #[.val (.ref o), .val (.ref b)] []) _
    exact X101.returnOut hx Bd.returns (hb hby d58_2_5) hr
  · show Q_ctor_RuntimeException Z o b ua sa w1 w2 w3 w4 h0 n0 _ T101.heap _
    rw [e101]
    exact ⟨rfl, N101, K102, p101_E_o, p101_U_o, p101_F_detailMessage_o⟩
abbrev cp15_1 := prog_15_method_1_code
theorem dp15_1_0 : decode cp15_1 0 = .ok (.aload_n 0, 1) := by decide +kernel
theorem dp15_1_1 : decode cp15_1 1 = .ok (.aload_n 1, 1) := by decide +kernel
theorem dp15_1_2 : decode cp15_1 2 = .ok (.invokespecial 1, 3) := by decide +kernel
theorem dp15_1_5 : decode cp15_1 5 = .ok (.return_, 1) := by decide +kernel
abbrev r6_1_2752_81 : Room := { frames := 6, cells := 1, slots := 2752, locals := 81 }
abbrev y43_ : MethodName := ⟨"com/example/dipper/dipper/store/NotFoundException", "<init>", "(Ljava/lang/String;)V"⟩
theorem pn_com_example_dipper_dipper_store_NotFoundException : plainName "com/example/dipper/dipper/store/NotFoundException" = true := by first | (simp [plainName, overriddenIn]; done) | decide +kernel
def Q_nfe (Z : State) (o : Addr) (b : Addr) (ua : Addr) (sa : Addr) (w1 : Value) (w2 : Value) (w3 : Value) (w4 : Value) (h0 : Heap) (n0 : Nat) (xv : Option Value) (xh : Heap) (xL : List Loc) : Prop := xv = none ∧ Fr n0 xL ∧ Keep h0 xh [o] ∧ Exa Z xh o "com/example/dipper/dipper/store/NotFoundException" ∧ Fld Z xh o "java/lang/Throwable" "detailMessage" "Ljava/lang/String;" (.ref b)
theorem ef_nfe (mM : MethodId) (o : Addr) (b : Addr) (ua : Addr) (sa : Addr) (w1 : Value) (w2 : Value) (w3 : Value) (w4 : Value) : entryFrame mM #[(.ref o), (.ref b)] 2 = mkF mM 0 #[.val (.ref o), .val (.ref b)] [] := by
  first | (simp [entryFrame, mkF, argsToLocals, Value.category]; done) | rfl
theorem rm_nfe (l : Launch) (Z : State) (a0 : Array Value) (hw : HW a0 Z) (ws : List Jvm.Cond) (o : Addr) (b : Addr) (ua : Addr) (sa : Addr) (w1 : Value) (w2 : Value) (w3 : Value) (w4 : Value) (h0 : Heap) (n0 : Nat) (Z0 : n0 ≤ h0.size) (E_o : Exa Z h0 o "com/example/dipper/dipper/store/NotFoundException") (U_o : Unt h0 o) (F_cause_o : Fld Z h0 o "java/lang/Throwable" "cause" "Ljava/lang/Throwable;" w1) (F_stackTrace_o : Fld Z h0 o "java/lang/Throwable" "stackTrace" "[Ljava/lang/StackTraceElement;" w2) (F_suppressedExceptions_o : Fld Z h0 o "java/lang/Throwable" "suppressedExceptions" "Ljava/util/List;" w3) (F_detailMessage_o : Fld Z h0 o "java/lang/Throwable" "detailMessage" "Ljava/lang/String;" w4) (F_backtrace_o : Fld Z h0 o "java/lang/Throwable" "backtrace" "Ljava/lang/Object;" .null) (g_o : @LE.le Nat _ n0 o) (OL : Old Z n0 h0) (TH : ThS Z h0) (S_UNASSIGNED_STACK : Sta Z Z.heap "java/lang/Throwable" "UNASSIGNED_STACK" "[Ljava/lang/StackTraceElement;" (.ref ua)) (S_SUPPRESSED_SENTINEL : Sta Z Z.heap "java/lang/Throwable" "SUPPRESSED_SENTINEL" "Ljava/util/List;" (.ref sa)) (hl : l.stackTraces = true) :
    MetFree l y43_ (head1 (Jvm.Cond.code y43_ prog_15_method_1_code 2 none :: ws) r6_1_2752_81) (fun xa xU => xa = #[(.ref o), (.ref b)] ∧ Z.Warmed39 xU.vm ∧ xU.heap = h0) (fun _ _ bl s _ => s.vm.MethodsKnown ∧ s.vm.FramesKnown bl) (fun _ xU xo xU' => ∃ xv xL, xo = .returned xv ∧ Q_nfe Z o b ua sa w1 w2 w3 w4 h0 n0 xv xU'.heap xL ∧ FrameEnd xU xo xU' xL r6_1_2752_81.cells r6_1_2752_81.slots) := by
  refine MetFree.of_bodySF (plainFor_of_name pn_com_example_dipper_dipper_store_NotFoundException) hisR ?_
  intro pP eE sS mM argS bS methS cC s₁ Bd hml0 hP hK
  obtain ⟨rfl, hZ, hh⟩ := hP
  have hx := Bd.exec
  have hby := Bd.bytes
  have hml : cC.maxLocals = 2 := hml0
  have hown : sS.vm.findClass "com/example/dipper/dipper/store/NotFoundException" = some mM.cls := findClass_of_methodNamed Bd.named
  have hnm := (name_of_methodNamed Bd.named Bd.method).1
  have X0 : Stand pP l eE r6_1_2752_81 sS mM #[(.ref o), (.ref b)] bS methS cC s₁ [] 0 0 := Stand.of_body Bd
  have e0 : s₁.heap = h0 := by rw [← hh, Bd.state]; rfl
  have N0 := Fr.nil n0
  obtain ⟨hTK, hBelow⟩ := hK
  obtain ⟨_, _, ⟨T101, L101, k101, n101⟩, -, X101, ⟨Lc101, hQ101, l101, y101, z101⟩, st101⟩ := X0.specialBack hx (y := y42_) rfl hown (mvT hZ (wi hw 161 rfl)) (mvT hZ (wi hw 162 rfl)) (mvT hZ (wi hw 165 rfl)) (by decide) (backOfKL (W := 0) (rm_ctor_RuntimeException l Z a0 hw [] o b ua sa w1 w2 w3 w4 h0 n0 (by omega) E_o U_o F_cause_o F_stackTrace_o F_suppressedExceptions_o F_detailMessage_o F_backtrace_o g_o OL TH S_UNASSIGNED_STACK S_SUPPRESSED_SENTINEL hl) hZ (wi hw 165 rfl) (wi hw 164 rfl) (by decide) (by decide) hTK hBelow) (g := (mkF mM 2 #[.val (.ref o), .val (.ref b)] [(.ref b), (.ref o)])) rfl (by rw [hml]; rfl) (Steps.refl _) (a := o) (argsL := [(.ref b)]) (rest := []) (lenOf pd_10 rfl) rfl (by show 2 * 0 + _ ≤ _; exact Nat.le_of_eq rfl) (hb hby dp15_1_2) (fun _ _ => ⟨rfl, e0, ble rfl, ble rfl⟩)
  dsimp only [Pt.U, Pt.locs, Pt.cells, Pt.slots] at X101 l101 y101 z101 st101 hQ101
  subst y101 z101
  obtain ⟨h101, e101⟩ : ∃ z, T101.heap = z := ⟨_, rfl⟩
  rw [e101] at hQ101
  obtain ⟨rfl, N101q, Kp101, p101_E_o, p101_U_o, p101_F_detailMessage_o⟩ := hQ101
  have Sz1 : h0.size ≤ h101.size := Kp101.1
  have N101 : Fr n0 L101 := by rw [l101]; exact Fr.app N0 N101q
  have K102 : Keep h0 h101 [o] := (Keep.refl h0 [o]).trans Kp101 (allS (Or.inl (List.mem_of_getElem? (i := 0) rfl)) all0)
  obtain ⟨fs, hr, hrun, hended, hW, hsame⟩ := X101.leave (v := none) (fun _ => rfl)
  refine ⟨_, _, castTop (ef_nfe mM o b ua sa w1 w2 w3 w4) ?_, hrun, hended, _, _, rfl, ?_, ⟨_, rfl⟩, hW, hsame.mono (by decide) (by decide)⟩
  · show SS pP eE bS s₁ (mkF mM 0 #[.val (.ref o), .val (.ref b)] []) _
    refine XS.aloadN X0.here hx rfl (hb hby dp15_1_0) rfl rfl ?_
    refine XS.aloadN X0.here hx rfl (hb hby dp15_1_1) rfl rfl ?_
    show SS pP eE bS s₁ (mkF mM 2 #[.val (.ref o), .val (.ref b)] [(.ref b), (.ref o)]) _
    refine st101.trans ?_
    show SS pP eE bS T101 (mkF mM 5 #[.val (.ref o), .val (.ref b)] []) _
    exact X101.returnOut hx Bd.returns (hb hby dp15_1_5) hr
  · show Q_nfe Z o b ua sa w1 w2 w3 w4 h0 n0 _ T101.heap _
    rw [e101]
    exact ⟨rfl, N101, K102, p101_E_o, p101_F_detailMessage_o⟩
abbrev c78_6 := jdk_78_method_6_code
theorem d78_6_0 : decode c78_6 0 = .ok (.aload_n 0, 1) := by decide +kernel
theorem d78_6_1 : decode c78_6 1 = .ok (.getfield 31, 3) := by decide +kernel
theorem d78_6_4 : decode c78_6 4 = .ok (.areturn, 1) := by decide +kernel
abbrev y44_ : MethodName := ⟨"java/lang/Throwable", "getMessage", "()Ljava/lang/String;"⟩
def Q_getMsg (Z : State) (o : Addr) (m : Addr) (h0 : Heap) (n0 : Nat) (xv : Option Value) (xh : Heap) (xL : List Loc) : Prop := xv = some (.ref m) ∧ Fr n0 xL ∧ xh = h0
theorem ef_getMsg (mM : MethodId) (o : Addr) (m : Addr) : entryFrame mM #[(.ref o)] 1 = mkF mM 0 #[.val (.ref o)] [] := by
  first | (simp [entryFrame, mkF, argsToLocals, Value.category]; done) | rfl
theorem rm_getMsg (l : Launch) (Z : State) (a0 : Array Value) (hw : HW a0 Z) (ws : List Jvm.Cond) (o : Addr) (m : Addr) (h0 : Heap) (n0 : Nat) (Z0 : n0 ≤ h0.size) (F_detailMessage_o : Fld Z h0 o "java/lang/Throwable" "detailMessage" "Ljava/lang/String;" (.ref m)) :
    MetFree l y44_ (head1 (Jvm.Cond.code y44_ jdk_78_method_6_code 1 (some (.object "java/lang/String")) :: ws) r0_0_0_0) (fun xa xU => xa = #[(.ref o)] ∧ Z.Warmed39 xU.vm ∧ xU.heap = h0) (fun _ _ _ _ _ => True) (fun _ xU xo xU' => ∃ xv xL, xo = .returned xv ∧ Q_getMsg Z o m h0 n0 xv xU'.heap xL ∧ FrameEnd xU xo xU' xL r0_0_0_0.cells r0_0_0_0.slots) := by
  refine MetFree.of_bodySF (plainFor_of_name pn_java_lang_Throwable) hisR ?_
  intro pP eE sS mM argS bS methS cC s₁ Bd hml0 hP hK
  obtain ⟨rfl, hZ, hh⟩ := hP
  have hx := Bd.exec
  have hby := Bd.bytes
  have hml : cC.maxLocals = 1 := hml0
  have hown : sS.vm.findClass "java/lang/Throwable" = some mM.cls := findClass_of_methodNamed Bd.named
  have hnm := (name_of_methodNamed Bd.named Bd.method).1
  have X0 : Stand pP l eE r0_0_0_0 sS mM #[(.ref o)] bS methS cC s₁ [] 0 0 := Stand.of_body Bd
  have e0 : s₁.heap = h0 := by rw [← hh, Bd.state]; rfl
  have N0 := Fr.nil n0
  obtain ⟨T101, X101, e101, st101⟩ := getF X0 hx hZ hown (host := "") (Or.inl (wi hw 214 rfl)) Via.refl e0 F_detailMessage_o (g := (mkF mM 1 #[.val (.ref o)] [(.ref o)])) rfl rfl (hb hby d78_6_1)
  obtain ⟨fs, hr, hrun, hended, hW, hsame⟩ := X101.leave (v := some (.ref m)) (fun h => by rw [Bd.returns] at h; cases h)
  refine ⟨_, _, castTop (ef_getMsg mM o m) ?_, hrun, hended, _, _, rfl, ?_, ⟨_, rfl⟩, hW, hsame.mono (by decide) (by decide)⟩
  · show SS pP eE bS s₁ (mkF mM 0 #[.val (.ref o)] []) _
    refine XS.aloadN X0.here hx rfl (hb hby d78_6_0) rfl rfl ?_
    show SS pP eE bS s₁ (mkF mM 1 #[.val (.ref o)] [(.ref o)]) _
    refine st101 _ ?_
    show SS pP eE bS T101 (mkF mM 4 #[.val (.ref o)] [(.ref m)]) _
    jvm_step X101.here [X101.here.top, hx, (hb hby d78_6_4), X101.method', Bd.returns, Value.isRef, FieldType.isReference]
    first | (intro acts; rw [hr _ acts rfl rfl rfl]) | rw [hr _ _ rfl rfl rfl]
    exact Steps.refl _
  · show Q_getMsg Z o m h0 n0 _ T101.heap _
    rw [e101]
    exact ⟨rfl, N0, rfl⟩
abbrev c3 := method_3_code
theorem d3_0 : decode c3 0 = .ok (.iload_n 3, 1) := by decide +kernel
theorem d3_1 : decode c3 1 = .ok (.iload_n 2, 1) := by decide +kernel
theorem d3_2 : decode c3 2 = .ok (.if_icmp .ge 14, 3) := by decide +kernel
theorem d3_16 : decode c3 16 = .ok (.iconst 1, 1) := by decide +kernel
theorem d3_17 : decode c3 17 = .ok (.goto 4, 3) := by decide +kernel
theorem d3_21 : decode c3 21 = .ok (.ireturn, 1) := by decide +kernel
theorem d3_5 : decode c3 5 = .ok (.aload_n 0, 1) := by decide +kernel
theorem d3_6 : decode c3 6 = .ok (.iload_n 3, 1) := by decide +kernel
theorem d3_7 : decode c3 7 = .ok (.invokevirtual 36, 3) := by decide +kernel
theorem pd_27 : parseMethodDescriptor "(I)C" = some ⟨[.int], some .char⟩ := by decide +kernel
theorem d3_10 : decode c3 10 = .ok (.aload_n 1, 1) := by decide +kernel
theorem d3_11 : decode c3 11 = .ok (.iload_n 3, 1) := by decide +kernel
theorem d3_12 : decode c3 12 = .ok (.caload, 1) := by decide +kernel
theorem d3_13 : decode c3 13 = .ok (.if_icmp .ne 7, 3) := by decide +kernel
def Q_at (Z : State)  (h0 : Heap) (n0 : Nat) (xv : Option Value) (xh : Heap) (xL : List Loc) : Prop := xv = some (.int (1 : Int32)) ∧ Fr n0 xL ∧ xh = h0
abbrev r4_0_0_53 : Room := { frames := 4, cells := 0, slots := 0, locals := 53 }
abbrev y45_ : MethodName := ⟨"com/example/dipper/dipper/store/NotFoundExceptionRoomPinLaw", "at", "(Ljava/lang/String;[CII)Z"⟩
theorem pn_com_example_dipper_dipper_store_NotFoundExceptionRoomPinLaw : plainName "com/example/dipper/dipper/store/NotFoundExceptionRoomPinLaw" = true := by first | (simp [plainName, overriddenIn]; done) | decide +kernel
theorem ef_at0 (mM : MethodId) (t : Addr) (a1 : Addr) (ln : Int32) (i : Int32) : entryFrame mM #[(.ref t), (.ref a1), (.int ln), (.int i)] 4 = mkF mM 0 #[.val (.ref t), .val (.ref a1), .val (.int ln), .val (.int i)] [] := by
  first | (simp [entryFrame, mkF, argsToLocals, Value.category]; done) | rfl
theorem rm_at0 (l : Launch) (Z : State) (a0 : Array Value) (hw : HW a0 Z) (ws : List Jvm.Cond) (t : Addr) (a1 : Addr) (ln : Int32) (i : Int32) (h0 : Heap) (n0 : Nat) (Z0 : n0 ≤ h0.size) (hge : ¬ (i < ln)) :
    MetFree l y45_ (head1 (Jvm.Cond.code y45_ method_3_code 4 (some .boolean) :: ws) r4_0_0_53) (fun xa xU => xa = #[(.ref t), (.ref a1), (.int ln), (.int i)] ∧ Z.Warmed39 xU.vm ∧ xU.heap = h0) (fun _ _ _ _ _ => True) (fun _ xU xo xU' => ∃ xv xL, xo = .returned xv ∧ Q_at Z   h0 n0 xv xU'.heap xL ∧ FrameEnd xU xo xU' xL r4_0_0_53.cells r4_0_0_53.slots) := by
  refine MetFree.of_bodySF (plainFor_of_name pn_com_example_dipper_dipper_store_NotFoundExceptionRoomPinLaw) hisR ?_
  intro pP eE sS mM argS bS methS cC s₁ Bd hml0 hP hK
  obtain ⟨rfl, hZ, hh⟩ := hP
  have hx := Bd.exec
  have hby := Bd.bytes
  have hml : cC.maxLocals = 4 := hml0
  have hown : sS.vm.findClass "com/example/dipper/dipper/store/NotFoundExceptionRoomPinLaw" = some mM.cls := findClass_of_methodNamed Bd.named
  have hnm := (name_of_methodNamed Bd.named Bd.method).1
  have X0 : Stand pP l eE r4_0_0_53 sS mM #[(.ref t), (.ref a1), (.int ln), (.int i)] bS methS cC s₁ [] 0 0 := Stand.of_body Bd
  have e0 : s₁.heap = h0 := by rw [← hh, Bd.state]; rfl
  have N0 := Fr.nil n0
  obtain ⟨fs, hr, hrun, hended, hW, hsame⟩ := X0.leave (v := some (.int (1 : Int32))) (fun h => by rw [Bd.returns] at h; cases h)
  refine ⟨_, _, castTop (ef_at0 mM t a1 ln i) ?_, hrun, hended, _, _, rfl, ?_, ⟨_, rfl⟩, hW, hsame.mono (by decide) (by decide)⟩
  · show SS pP eE bS s₁ (mkF mM 0 #[.val (.ref t), .val (.ref a1), .val (.int ln), .val (.int i)] []) _
    refine XS.iloadN X0.here hx rfl (hb hby d3_0) rfl ?_
    refine XS.iloadN X0.here hx rfl (hb hby d3_1) rfl ?_
    refine XS.icmpYes X0.here hx rfl (pc0 := 2) (pc' := 16) rfl (hb hby d3_2) rfl (flt hge).2.1 (by decide) (by decide) ?_
    refine XS.iconst X0.here hx rfl (hb hby d3_16) ?_
    show SS pP eE bS s₁ (mkF mM 17 #[.val (.ref t), .val (.ref a1), .val (.int ln), .val (.int i)] [(.int (1 : Int32))]) _
    refine XS.goto X0.here hx rfl (pc0 := 17) (pc' := 21) rfl (hb hby d3_17) (by decide) (by decide) ?_
    show SS pP eE bS s₁ (mkF mM 21 #[.val (.ref t), .val (.ref a1), .val (.int ln), .val (.int i)] [(.int (1 : Int32))]) _
    exact retN X0 hx (t := .boolean) Bd.returns (by simp) (hb hby d3_21) hr
  · show Q_at Z   h0 n0 _ s₁.heap _
    rw [e0]
    exact ⟨rfl, N0, rfl⟩
theorem ef_at1 (mM : MethodId) (t : Addr) (tb : Addr) (tk : ClassId) (zz : Int32) (ys : List Value) (a1 : Addr) (k1 : ClassId) (es : List Value) (ln : Int32) (i : Int32) (v : Int32) (u : Int32) (fo : Value) (cs : Int32) : entryFrame mM #[(.ref t), (.ref a1), (.int ln), (.int i)] 4 = mkF mM 0 #[.val (.ref t), .val (.ref a1), .val (.int ln), .val (.int i)] [] := by
  first | (simp [entryFrame, mkF, argsToLocals, Value.category]; done) | rfl
theorem rm_at1 (l : Launch) (Z : State) (a0 : Array Value) (hw : HW a0 Z) (ws : List Jvm.Cond) (t : Addr) (tb : Addr) (tk : ClassId) (zz : Int32) (ys : List Value) (a1 : Addr) (k1 : ClassId) (es : List Value) (ln : Int32) (i : Int32) (v : Int32) (u : Int32) (fo : Value) (cs : Int32) (h0 : Heap) (n0 : Nat) (Z0 : n0 ≤ h0.size) (E_t : Exa Z h0 t "java/lang/String") (F_value_t : Fld Z h0 t "java/lang/String" "value" "[B" (.ref tb)) (F_coder_t : Fld Z h0 t "java/lang/String" "coder" "B" (.int (0 : Int32))) (V_tb : Arv Z h0 tb tk .byte zz ys (.int (0 : Int32))) (V_a1 : Arv Z h0 a1 k1 .char (21 : Int32) es (.int (0 : Int32))) (hfo : (fo).isRef = true) (hlt : i < ln) (h0i : ¬ (i < (0 : Int32))) (hix : i < zz) (hv : ys.getD (i).toNatClampNeg (.int (0 : Int32)) = (.int v)) (hi2 : i < (21 : Int32)) (hu : es.getD (i).toNatClampNeg (.int (0 : Int32)) = (.int u)) (heq : (v &&& (255 : Int32)) = u) (OL : Old Z n0 h0) (S_SIOOBE_FORMATTER : Sta Z Z.heap "jdk/internal/util/Preconditions" "SIOOBE_FORMATTER" "Ljava/util/function/BiFunction;" fo) (S_COMPACT_STRINGS : Sta Z Z.heap "java/lang/String" "COMPACT_STRINGS" "Z" (.int cs)) (hcs : ¬ (cs = (0 : Int32))) :
    MetFree l y45_ (head1 (Jvm.Cond.code y45_ method_3_code 4 (some .boolean) :: ws) r4_0_0_53) (fun xa xU => xa = #[(.ref t), (.ref a1), (.int ln), (.int i)] ∧ Z.Warmed39 xU.vm ∧ xU.heap = h0) (fun _ _ _ _ _ => True) (fun _ xU xo xU' => ∃ xv xL, xo = .returned xv ∧ Q_at Z   h0 n0 xv xU'.heap xL ∧ FrameEnd xU xo xU' xL r4_0_0_53.cells r4_0_0_53.slots) := by
  refine MetFree.of_bodySF (plainFor_of_name pn_com_example_dipper_dipper_store_NotFoundExceptionRoomPinLaw) hisR ?_
  intro pP eE sS mM argS bS methS cC s₁ Bd hml0 hP hK
  obtain ⟨rfl, hZ, hh⟩ := hP
  have hx := Bd.exec
  have hby := Bd.bytes
  have hml : cC.maxLocals = 4 := hml0
  have hown : sS.vm.findClass "com/example/dipper/dipper/store/NotFoundExceptionRoomPinLaw" = some mM.cls := findClass_of_methodNamed Bd.named
  have hnm := (name_of_methodNamed Bd.named Bd.method).1
  have X0 : Stand pP l eE r4_0_0_53 sS mM #[(.ref t), (.ref a1), (.int ln), (.int i)] bS methS cC s₁ [] 0 0 := Stand.of_body Bd
  have e0 : s₁.heap = h0 := by rw [← hh, Bd.state]; rfl
  have N0 := Fr.nil n0
  obtain ⟨cq101, kq101, q101a, q101b, q101c⟩ := isOf hZ e0 E_t
  obtain ⟨_, _, ⟨T101, L101, k101, n101⟩, -, X101, ⟨Lc101, hQ101, l101, y101, z101⟩, st101⟩ := X0.virtualBack hx (y := y30_) (z := y30_) hown (mvT hZ (wi hw 226 rfl)) (mvT hZ (wi hw 227 rfl)) (notFace_of_selects (args := #[]) (mvT hZ (wi hw 229 rfl))) (mvT hZ (wi hw 229 rfl)) (mvT hZ (wi hw 228 rfl)) (by decide) (backOf (W := 0) (rm_charAt l Z a0 hw [] t tb tk zz ys i v fo cs h0 n0 (by omega) E_t F_value_t F_coder_t V_tb hfo h0i hix hv OL S_SIOOBE_FORMATTER S_COMPACT_STRINGS hcs) hZ (wi hw 230 rfl) (wi hw 2 rfl) (by decide) (by decide)) q101a q101c (g := (mkF mM 7 #[.val (.ref t), .val (.ref a1), .val (.int ln), .val (.int i)] [(.int i), (.ref t)])) rfl (by rw [hml]; rfl) (Steps.refl _) (argsL := [(.int i)]) (rest := []) (lenOf pd_27 rfl) rfl (by show 2 * 0 + _ ≤ _; exact Nat.le_of_eq rfl) (hb hby d3_7) (fun _ _ => ⟨rfl, e0, ble rfl, ble rfl⟩)
  dsimp only [Pt.U, Pt.locs, Pt.cells, Pt.slots] at X101 l101 y101 z101 st101 hQ101
  subst y101 z101
  obtain ⟨h101, e101⟩ : ∃ z, T101.heap = z := ⟨_, rfl⟩
  rw [e101] at hQ101
  obtain ⟨rfl, N101q, eq101⟩ := hQ101
  rw [eq101] at e101
  have N101 : Fr n0 L101 := by rw [l101]; exact Fr.app N0 N101q
  obtain ⟨cl102, Ar102, q102, S102, Ng102, Ha102, Ga102⟩ := id V_a1
  have hin102 : ¬ (i < 0 ∨ cl102.slots.size ≤ (i).toNatClampNeg) := inb_of S102 ⟨h0i, hi2⟩
  have hat102 : cl102.slots[(i).toNatClampNeg]? = some (.int u) := Ha102.at hin102 (hu)
  obtain ⟨fs, hr, hrun, hended, hW, hsame⟩ := X101.leave (v := some (.int (1 : Int32))) (fun h => by rw [Bd.returns] at h; cases h)
  refine ⟨_, _, castTop (ef_at1 mM t tb tk zz ys a1 k1 es ln i v u fo cs) ?_, hrun, hended, _, _, rfl, ?_, ⟨_, rfl⟩, hW, hsame.mono (by decide) (by decide)⟩
  · show SS pP eE bS s₁ (mkF mM 0 #[.val (.ref t), .val (.ref a1), .val (.int ln), .val (.int i)] []) _
    refine XS.iloadN X0.here hx rfl (hb hby d3_0) rfl ?_
    refine XS.iloadN X0.here hx rfl (hb hby d3_1) rfl ?_
    refine XS.icmpNo X0.here hx rfl (hb hby d3_2) rfl (tlt hlt).2.1 ?_
    refine XS.aloadN X0.here hx rfl (hb hby d3_5) rfl rfl ?_
    show SS pP eE bS s₁ (mkF mM 6 #[.val (.ref t), .val (.ref a1), .val (.int ln), .val (.int i)] [(.ref t)]) _
    refine XS.iloadN X0.here hx rfl (hb hby d3_6) rfl ?_
    show SS pP eE bS s₁ (mkF mM 7 #[.val (.ref t), .val (.ref a1), .val (.int ln), .val (.int i)] [(.int i), (.ref t)]) _
    refine st101.trans ?_
    show SS pP eE bS T101 (mkF mM 10 #[.val (.ref t), .val (.ref a1), .val (.int ln), .val (.int i)] [(.int (v &&& (255 : Int32)))]) _
    refine XS.aloadN X101.here hx rfl (hb hby d3_10) rfl rfl ?_
    refine XS.iloadN X101.here hx rfl (hb hby d3_11) rfl ?_
    show SS pP eE bS T101 (mkF mM 12 #[.val (.ref t), .val (.ref a1), .val (.int ln), .val (.int i)] [(.int i), (.ref a1), (.int (v &&& (255 : Int32)))]) _
    refine X101.caload hx (j := i) (v := (.int u)) (by rw [e101]; exact Ar102.1) (State.isArrayOf_alike hZ.alike Ar102.2.1) Ar102.2.2 hin102 hat102 (g := (mkF mM 12 #[.val (.ref t), .val (.ref a1), .val (.int ln), .val (.int i)] [(.int i), (.ref a1), (.int (v &&& (255 : Int32)))])) rfl rfl (hb hby d3_12) _ ?_
    show SS pP eE bS T101 (mkF mM 13 #[.val (.ref t), .val (.ref a1), .val (.int ln), .val (.int i)] [(.int u), (.int (v &&& (255 : Int32)))]) _
    refine XS.icmpNo X101.here hx rfl (hb hby d3_13) rfl (teq heq).2 ?_
    refine XS.iconst X101.here hx rfl (hb hby d3_16) ?_
    refine XS.goto X101.here hx rfl (pc0 := 17) (pc' := 21) rfl (hb hby d3_17) (by decide) (by decide) ?_
    show SS pP eE bS T101 (mkF mM 21 #[.val (.ref t), .val (.ref a1), .val (.int ln), .val (.int i)] [(.int (1 : Int32))]) _
    exact retN X101 hx (t := .boolean) Bd.returns (by simp) (hb hby d3_21) hr
  · show Q_at Z   h0 n0 _ T101.heap _
    rw [e101]
    exact ⟨rfl, N101, rfl⟩
def AtP (zz : Int32) (ys es : List Value) (ln i : Int32) : Prop := ¬ (i < ln) ∨ (i < ln ∧ ¬ (i < (0 : Int32)) ∧ i < zz ∧ i < (21 : Int32) ∧ ∃ v u : Int32, ys.getD (i).toNatClampNeg (.int (0 : Int32)) = (.int v) ∧ es.getD (i).toNatClampNeg (.int (0 : Int32)) = (.int u) ∧ (v &&& (255 : Int32)) = u)
theorem rm_at (l : Launch) (Z : State) (a0 : Array Value) (hw : HW a0 Z) (ws : List Jvm.Cond) (t : Addr) (tb : Addr) (tk : ClassId) (zz : Int32) (ys : List Value) (a1 : Addr) (k1 : ClassId) (es : List Value) (ln : Int32) (i : Int32) (fo : Value) (cs : Int32) (h0 : Heap) (n0 : Nat) (Z0 : n0 ≤ h0.size) (E_t : Exa Z h0 t "java/lang/String") (F_value_t : Fld Z h0 t "java/lang/String" "value" "[B" (.ref tb)) (F_coder_t : Fld Z h0 t "java/lang/String" "coder" "B" (.int (0 : Int32))) (V_tb : Arv Z h0 tb tk .byte zz ys (.int (0 : Int32))) (V_a1 : Arv Z h0 a1 k1 .char (21 : Int32) es (.int (0 : Int32))) (hfo : (fo).isRef = true) (OL : Old Z n0 h0) (S_SIOOBE_FORMATTER : Sta Z Z.heap "jdk/internal/util/Preconditions" "SIOOBE_FORMATTER" "Ljava/util/function/BiFunction;" fo) (S_COMPACT_STRINGS : Sta Z Z.heap "java/lang/String" "COMPACT_STRINGS" "Z" (.int cs)) (hcs : ¬ (cs = (0 : Int32))) (ha : AtP zz ys es ln i) :
    MetFree l y45_ (head1 (Jvm.Cond.code y45_ method_3_code 4 (some .boolean) :: ws) r4_0_0_53) (fun xa xU => xa = #[(.ref t), (.ref a1), (.int ln), (.int i)] ∧ Z.Warmed39 xU.vm ∧ xU.heap = h0) (fun _ _ _ _ _ => True) (fun _ xU xo xU' => ∃ xv xL, xo = .returned xv ∧ Q_at Z   h0 n0 xv xU'.heap xL ∧ FrameEnd xU xo xU' xL r4_0_0_53.cells r4_0_0_53.slots) := by
  rcases ha with hge | ⟨hlt, h0i, hix, hi2, v, u, hv, hu, heq⟩
  · exact rm_at0 l Z a0 hw ws t a1 ln i h0 n0 Z0 hge
  · exact rm_at1 l Z a0 hw ws t tb tk zz ys a1 k1 es ln i v u fo cs h0 n0 Z0 E_t F_value_t F_coder_t V_tb V_a1 hfo hlt h0i hix hv hi2 hu heq OL S_SIOOBE_FORMATTER S_COMPACT_STRINGS hcs
theorem d42_149_8 : decode c42_149 8 = .ok (.aload_n 0, 1) := by decide +kernel
theorem own_wS {Z : State} {a0 : Array Value} (hw : HW a0 Z) : ∀ d ∈ Bundle.stringAtoms, d.before a0 Z = true := by
  intro d hd
  simp only [Bundle.stringAtoms, Bundle.sN, List.mem_cons, List.mem_append, List.not_mem_nil, or_false, false_or, or_assoc] at hd
  rcases hd with rfl | rfl | rfl | rfl | rfl | rfl | rfl
  · exact wi hw 2 rfl
  · exact wi hw 1 rfl
  · exact wi hw 15 rfl
  · exact wi hw 16 rfl
  · exact wi hw 17 rfl
  · exact wi hw 18 rfl
  · exact wi hw 19 rfl
theorem own_EW {Z : State} {a0 : Array Value} (hw : HW a0 Z) : EW Z a0 consts_1 := (EW.cons (wi hw 46 rfl) (by decide) (EW.cons (wi hw 95 rfl) (by decide) (EW.cons (wi hw 14 rfl) (by decide) EW.nil)))
theorem d42_149_9 : decode c42_149 9 = .ok (.ldc 7, 2) := by decide +kernel
theorem own_txt2 : (∀ c ∈ "".toList, c.toNat < 256) ∧ "".toList.map (fun c => Value.int (Jvm.Lit.byteI c.toNat.toUInt16)) = [] := by
  constructor
  · decide
  · first | rfl | decide
theorem d42_149_11 : decode c42_149 11 = .ok (.getfield 9, 3) := by decide +kernel
theorem d42_149_14 : decode c42_149 14 = .ok (.putfield 9, 3) := by decide +kernel
theorem d42_149_17 : decode c42_149 17 = .ok (.aload_n 0, 1) := by decide +kernel
theorem d42_149_18 : decode c42_149 18 = .ok (.ldc 7, 2) := by decide +kernel
theorem d42_149_20 : decode c42_149 20 = .ok (.getfield 15, 3) := by decide +kernel
theorem d42_149_23 : decode c42_149 23 = .ok (.putfield 15, 3) := by decide +kernel
theorem d42_149_26 : decode c42_149 26 = .ok (.return_, 1) := by decide +kernel
abbrev r1_4_8_12 : Room := { frames := 1, cells := 4, slots := 8, locals := 12 }
def Q_init4e (Z : State) (o : Addr) (a1 : Addr) (u1 : Value) (u2 : Value) (h0 : Heap) (n0 : Nat) (xv : Option Value) (xh : Heap) (xL : List Loc) : Prop := ∃ b : Addr, ∃ k : ClassId, xv = none ∧ Fr n0 xL ∧ Keep h0 xh [o] ∧ Exa Z xh o "java/lang/String" ∧ Fld Z xh o "java/lang/String" "value" "[B" (.ref b) ∧ Fld Z xh o "java/lang/String" "coder" "B" (.int (0 : Int32)) ∧ Arv Z xh b k .byte (iN 0) [] (.int (0 : Int32))
abbrev Lc_init4e_0 (o : Addr) (a1 : Addr) : Array Slot := #[.val (.ref o), .val (.ref a1), .val (.int (0 : Int32)), .val (.int (0 : Int32)), .val .null, .unset]
theorem ef_init4e (mM : MethodId) (o : Addr) (a1 : Addr) (u1 : Value) (u2 : Value) : entryFrame mM #[(.ref o), (.ref a1), (.int (0 : Int32)), (.int (0 : Int32)), .null] 6 = mkF mM 0 #[.val (.ref o), .val (.ref a1), .val (.int (0 : Int32)), .val (.int (0 : Int32)), .val .null, .unset] [] := by
  first | (simp [entryFrame, mkF, argsToLocals, Value.category]; done) | rfl
theorem rm_init4e (l : Launch) (Z : State) (a0 : Array Value) (hw : HW a0 Z) (ws : List Jvm.Cond) (o : Addr) (a1 : Addr) (u1 : Value) (u2 : Value) (h0 : Heap) (n0 : Nat) (Z0 : n0 ≤ h0.size) (E_o : Exa Z h0 o "java/lang/String") (F_value_o : Fld Z h0 o "java/lang/String" "value" "[B" u1) (F_coder_o : Fld Z h0 o "java/lang/String" "coder" "B" u2) (g_o : @LE.le Nat _ n0 o) :
    MetFree l y38_ (head1 (Jvm.Cond.code y38_ jdk_42_method_149_code 6 none :: ws) r1_4_8_12) (fun xa xU => xa = #[(.ref o), (.ref a1), (.int (0 : Int32)), (.int (0 : Int32)), .null] ∧ Z.Warmed39 xU.vm ∧ xU.heap = h0 ∧ CHv Z consts_1 xU.vm h0 ∧ ∀ x ∈ ([o] : List Addr), Safe Z consts_1 xU.vm h0 x) (fun _ _ bl s _ => s.vm.MethodsKnown ∧ s.vm.FramesKnown bl) (fun _ xU xo xU' => ∃ xv xL, xo = .returned xv ∧ Q_init4e Z o a1 u1 u2 h0 n0 xv xU'.heap xL ∧ CHr Z consts_1 xU.vm xU.heap xU'.vm xU'.heap ∧ ReturnedEndW xU xo xU' xL r1_4_8_12.cells r1_4_8_12.slots) := by
  refine MetFree.of_bodySF (plainFor_of_name pn_java_lang_String) hisR ?_
  intro pP eE sS mM argS bS methS cC s₁ Bd hml0 hP hK
  obtain ⟨rfl, hZ, hh, hCH, hSf⟩ := hP
  have hx := Bd.exec
  have hby := Bd.bytes
  have hml : cC.maxLocals = 6 := hml0
  have hown : sS.vm.findClass "java/lang/String" = some mM.cls := findClass_of_methodNamed Bd.named
  have hnm := (name_of_methodNamed Bd.named Bd.method).1
  have X0 : Stand pP l eE r1_4_8_12 (sS.setVm sS.vm) mM #[(.ref o), (.ref a1), (.int (0 : Int32)), (.int (0 : Int32)), .null] bS methS cC s₁ [] 0 0 := Stand.of_body Bd
  have e0 : s₁.heap = h0 := by rw [← hh, Bd.state]; rfl
  have N0 := Fr.nil n0
  obtain ⟨hTK, hBelow⟩ := hK
  have hZ0 : Z.Warmed39 (sS.setVm sS.vm).vm := hZ
  have hown0 : (sS.setVm sS.vm).vm.findClass "java/lang/String" = some mM.cls := hown
  have hS0 : sS.Since sS.vm 0 := (State.WarmedH.refl sS).since 0
  have CC0 : CHr Z consts_1 sS.vm h0 sS.vm h0 := CHr.refl hCH
  obtain ⟨T101, X101, e101, st101⟩ := initO X0 hx hZ0 hown0 (wi hw 11 rfl) (wi hw 12 rfl) (wi hw 13 rfl) e0 (g := (mkF mM 1 (Lc_init4e_0 o a1) [(.ref o)])) rfl (by rw [hml]; rfl) rfl (hb hby d42_149_1) (by decide) (W := 0) (by show 2 * 0 + _ ≤ _; exact Nat.le_of_eq rfl) (by decide)
  obtain ⟨b102, T102, h102, kk102, d102, q102, X102, e102, E102, hS102, hk102, hZ102, hown102, A102, Fc102, Fv102, V102, ltb102, ltd102, Ch102, -, hne102, st102⟩ := ldcCH X101 hx hZ0 hown0 (wi hw 14 rfl) (own_wS hw) e101 hS0 (by omega) (own_EW hw) (List.mem_of_getElem? (i := 2) rfl) CC0.1 (vs := []) (z := (iN 0)) (own_txt2) (by decide) (by rfl) (g := (mkF mM 9 (Lc_init4e_0 o a1) [(.ref o)])) rfl (hb hby d42_149_9) (n := 0) (by decide) (by decide) (by decide) (by decide)
  have Sz1 : h0.size ≤ h102.size := E102.1
  have CC1 : CHr Z consts_1 sS.vm h0 T102.vm h102 := CC0.trans Ch102
  obtain ⟨T103, X103, e103, st103⟩ := getF X102 hx hZ102 hown102 (host := "") (Or.inl (wi hw 20 rfl)) Via.refl e102 Fv102 (g := (mkF mM 11 (Lc_init4e_0 o a1) [(.ref b102), (.ref o)])) rfl rfl (hb hby d42_149_11)
  have c104_F_value_o : Fld Z h102 o "java/lang/String" "value" "[B" u1 := Fld.ext E102 F_value_o
  have c105_E_o : Exa Z h102 o "java/lang/String" := Exa.ext E102 E_o
  obtain ⟨T106, h106, X106, e106, W106, st106⟩ := putF X103 hx hZ102 hown102 (host := "") (Or.inl (wi hw 20 rfl)) Via.refl e103 c104_F_value_o c105_E_o (Or.inr ⟨(wi hw 16 rfl), rfl, hnm⟩) (wi hw 1 rfl) (ty := (.array .byte)) (by decide) rfl rfl (g := (mkF mM 14 (Lc_init4e_0 o a1) [(.ref d102), (.ref o)])) rfl rfl (hb hby d42_149_14)
  have Sz2 : h102.size ≤ h106.size := Nat.le_of_eq (Wr.size W106).symm
  have sf107_o : Safe Z consts_1 sS.vm h0 o := hSf _ (List.mem_of_getElem? (i := 0) rfl)
  have lt_o : @LT.lt Nat _ o h0.size := E_o.lt
  have sf108_o : Safe Z consts_1 T102.vm h102 o := CHr.safe Ch102 (by omega : @LT.lt Nat _ o h0.size) sf107_o
  have CC2 : CHr Z consts_1 sS.vm h0 T102.vm h106 := CC1.trans (CHr.wr W106 sf108_o CC1.1)
  have Fw106 : Fld Z h106 o "java/lang/String" "value" "[B" (.ref d102) := Fld.same W106 c104_F_value_o
  have N106 := Fr.snoc X106 N0 g_o
  obtain ⟨b109, T109, h109, kk109, d109, q109, X109, e109, E109, hS109, hk109, hZ109, hown109, A109, Fc109, Fv109, V109, ltb109, ltd109, Ch109, -, hne109, st109⟩ := ldcCH X106 hx hZ102 hown102 (wi hw 14 rfl) (own_wS hw) e106 hS102 (by omega) (own_EW hw) (List.mem_of_getElem? (i := 2) rfl) CC2.1 (vs := []) (z := (iN 0)) (own_txt2) (by decide) (by rfl) (g := (mkF mM 18 (Lc_init4e_0 o a1) [(.ref o)])) rfl (hb hby d42_149_18) (n := 0) (by decide) (by decide) (by decide) (by decide)
  have Sz3 : h106.size ≤ h109.size := E109.1
  have CC3 : CHr Z consts_1 sS.vm h0 T109.vm h109 := CC2.trans Ch109
  obtain ⟨T110, X110, e110, st110⟩ := getF X109 hx hZ109 hown109 (host := "") (Or.inl (wi hw 21 rfl)) Via.refl e109 Fc109 (g := (mkF mM 20 (Lc_init4e_0 o a1) [(.ref b109), (.ref o)])) rfl rfl (hb hby d42_149_20)
  have c111_F_coder_o : Fld Z h102 o "java/lang/String" "coder" "B" u2 := Fld.ext E102 F_coder_o
  have c112_F_coder_o : Fld Z h106 o "java/lang/String" "coder" "B" u2 := Fld.other W106 c111_F_coder_o (Or.inr (slot_ne (Or.inr (wi hw 17 rfl)) (Or.inr (wi hw 16 rfl)) (by decide) (t := .byte) (t' := (.array .byte)) (by decide) (by decide)))
  have c113_F_coder_o : Fld Z h109 o "java/lang/String" "coder" "B" u2 := Fld.ext E109 c112_F_coder_o
  have c114_E_o : Exa Z h106 o "java/lang/String" := Exa.wr W106 c105_E_o
  have c115_E_o : Exa Z h109 o "java/lang/String" := Exa.ext E109 c114_E_o
  obtain ⟨T116, h116, X116, e116, W116, st116⟩ := putFN X110 hx hZ109 hown109 (wi hw 21 rfl) Via.refl e110 c113_F_coder_o c115_E_o (Or.inr ⟨(wi hw 17 rfl), rfl, hnm⟩) (wi hw 1 rfl) (ty := .byte) (v' := (.int (0 : Int32))) (by decide) (rfl) (rfl) (g := (mkF mM 23 (Lc_init4e_0 o a1) [(.int (0 : Int32)), (.ref o)])) rfl rfl (hb hby d42_149_23)
  have Sz4 : h109.size ≤ h116.size := Nat.le_of_eq (Wr.size W116).symm
  have sf117_o : Safe Z consts_1 T102.vm h106 o := Safe.wr W106 sf108_o CC1.1 sf108_o
  have sf118_o : Safe Z consts_1 T109.vm h109 o := CHr.safe Ch109 (by omega : @LT.lt Nat _ o h106.size) sf117_o
  have CC4 : CHr Z consts_1 sS.vm h0 T109.vm h116 := CC3.trans (CHr.wr W116 sf118_o CC3.1)
  have Fw116 : Fld Z h116 o "java/lang/String" "coder" "B" (.int (0 : Int32)) := Fld.same W116 c113_F_coder_o
  have N116 := Fr.snoc X116 N106 g_o
  have c119_F_value_o : Fld Z h109 o "java/lang/String" "value" "[B" (.ref d102) := Fld.ext E109 Fw106
  have c120_F_value_o : Fld Z h116 o "java/lang/String" "value" "[B" (.ref d102) := Fld.other W116 c119_F_value_o (Or.inr (slot_ne (Or.inr (wi hw 16 rfl)) (Or.inr (wi hw 17 rfl)) (by decide) (t := (.array .byte)) (t' := .byte) (by decide) (by decide)))
  have c121_V_d102 : Arv Z h106 d102 q102 .byte (iN 0) [] (.int (0 : Int32)) := V102.other W106 (Ne.symm (hne102 o sf108_o).2)
  have c122_V_d102 : Arv Z h109 d102 q102 .byte (iN 0) [] (.int (0 : Int32)) := c121_V_d102.ext E109
  have c123_V_d102 : Arv Z h116 d102 q102 .byte (iN 0) [] (.int (0 : Int32)) := c122_V_d102.other W116 (Ne.symm (hne102 o sf108_o).2)
  have c124_E_o : Exa Z h116 o "java/lang/String" := Exa.wr W116 c115_E_o
  have K125 : Keep h0 h102 [o] := (Keep.refl h0 [o]).ext E102
  have K126 : Keep h0 h106 [o] := K125.wr W106 (Or.inl (List.mem_of_getElem? (i := 0) rfl))
  have K127 : Keep h0 h109 [o] := K126.ext E109
  have K128 : Keep h0 h116 [o] := K127.wr W116 (Or.inl (List.mem_of_getElem? (i := 0) rfl))
  obtain ⟨fs, hr, hrun, hended, hE⟩ := Stand.leaveW (s := sS) X116 hS109 (by rw [e116]; omega) (v := none) (fun _ => rfl)
  refine ⟨_, _, castTop (ef_init4e mM o a1 u1 u2) ?_, hrun, hended, _, _, rfl, ?_, ?_, hE.1, hE.2.1, hE.2.2.1, hE.2.2.2.mono (by decide) (by decide)⟩
  · show SS pP eE bS s₁ (mkF mM 0 (Lc_init4e_0 o a1) []) _
    refine XS.aloadN X0.here hx rfl (hb hby d42_149_0) rfl rfl ?_
    show SS pP eE bS s₁ (mkF mM 1 (Lc_init4e_0 o a1) [(.ref o)]) _
    refine st101 _ ?_
    show SS pP eE bS T101 (mkF mM 4 (Lc_init4e_0 o a1) []) _
    refine XS.iloadN X101.here hx rfl (hb hby d42_149_4) rfl ?_
    refine XS.ifNo X101.here hx rfl (hb hby d42_149_5) rfl ((if0 _ _).trans (teq (by decide : (0 : Int32) = (0 : Int32))).2) ?_
    refine XS.aloadN X101.here hx rfl (hb hby d42_149_8) rfl rfl ?_
    show SS pP eE bS T101 (mkF mM 9 (Lc_init4e_0 o a1) [(.ref o)]) _
    refine st102 _ ?_
    show SS pP eE bS T102 (mkF mM 11 (Lc_init4e_0 o a1) [(.ref b102), (.ref o)]) _
    refine st103 _ ?_
    show SS pP eE bS T103 (mkF mM 14 (Lc_init4e_0 o a1) [(.ref d102), (.ref o)]) _
    refine st106 _ ?_
    show SS pP eE bS T106 (mkF mM 17 (Lc_init4e_0 o a1) []) _
    refine XS.aloadN X106.here hx rfl (hb hby d42_149_17) rfl rfl ?_
    show SS pP eE bS T106 (mkF mM 18 (Lc_init4e_0 o a1) [(.ref o)]) _
    refine st109 _ ?_
    show SS pP eE bS T109 (mkF mM 20 (Lc_init4e_0 o a1) [(.ref b109), (.ref o)]) _
    refine st110 _ ?_
    show SS pP eE bS T110 (mkF mM 23 (Lc_init4e_0 o a1) [(.int (0 : Int32)), (.ref o)]) _
    refine st116 _ ?_
    show SS pP eE bS T116 (mkF mM 26 (Lc_init4e_0 o a1) []) _
    exact X116.returnOut hx Bd.returns (hb hby d42_149_26) hr
  · show Q_init4e Z o a1 u1 u2 h0 n0 _ T116.heap _
    rw [e116]
    exact ⟨d102, q102, rfl, N116, K128, c124_E_o, c120_F_value_o, Fw116, c123_V_d102⟩
  · show CHr Z consts_1 sS.vm sS.heap T116.vm T116.heap
    rw [hh, e116]
    exact CC4.trans (CHv.at X116 hZ109 (own_EW hw) CC4.1)
abbrev r2_4_8_29 : Room := { frames := 2, cells := 4, slots := 8, locals := 29 }
def Q_init1e (Z : State) (o : Addr) (a1 : Addr) (k1 : ClassId) (u1 : Value) (u2 : Value) (h0 : Heap) (n0 : Nat) (xv : Option Value) (xh : Heap) (xL : List Loc) : Prop := ∃ b : Addr, ∃ k : ClassId, xv = none ∧ Fr n0 xL ∧ Keep h0 xh [o] ∧ Exa Z xh o "java/lang/String" ∧ Fld Z xh o "java/lang/String" "value" "[B" (.ref b) ∧ Fld Z xh o "java/lang/String" "coder" "B" (.int (0 : Int32)) ∧ Arv Z xh b k .byte (iN 0) [] (.int (0 : Int32))
theorem ef_init1e (mM : MethodId) (o : Addr) (a1 : Addr) (k1 : ClassId) (u1 : Value) (u2 : Value) : entryFrame mM #[(.ref o), (.ref a1)] 2 = mkF mM 0 #[.val (.ref o), .val (.ref a1)] [] := by
  first | (simp [entryFrame, mkF, argsToLocals, Value.category]; done) | rfl
theorem rm_init1e (l : Launch) (Z : State) (a0 : Array Value) (hw : HW a0 Z) (ws : List Jvm.Cond) (o : Addr) (a1 : Addr) (k1 : ClassId) (u1 : Value) (u2 : Value) (h0 : Heap) (n0 : Nat) (Z0 : n0 ≤ h0.size) (E_o : Exa Z h0 o "java/lang/String") (F_value_o : Fld Z h0 o "java/lang/String" "value" "[B" u1) (F_coder_o : Fld Z h0 o "java/lang/String" "coder" "B" u2) (V_a1 : Arv Z h0 a1 k1 .char (0 : Int32) [] (.int (0 : Int32))) (g_o : @LE.le Nat _ n0 o) :
    MetFree l y39_ (head1 (Jvm.Cond.code y39_ jdk_42_method_3_code 2 none :: ws) r2_4_8_29) (fun xa xU => xa = #[(.ref o), (.ref a1)] ∧ Z.Warmed39 xU.vm ∧ xU.heap = h0 ∧ CHv Z consts_1 xU.vm h0 ∧ ∀ x ∈ ([o] : List Addr), Safe Z consts_1 xU.vm h0 x) (fun _ _ bl s _ => s.vm.MethodsKnown ∧ s.vm.FramesKnown bl) (fun _ xU xo xU' => ∃ xv xL, xo = .returned xv ∧ Q_init1e Z o a1 k1 u1 u2 h0 n0 xv xU'.heap xL ∧ CHr Z consts_1 xU.vm xU.heap xU'.vm xU'.heap ∧ ReturnedEndW xU xo xU' xL r2_4_8_29.cells r2_4_8_29.slots) := by
  refine MetFree.of_bodySF (plainFor_of_name pn_java_lang_String) hisR ?_
  intro pP eE sS mM argS bS methS cC s₁ Bd hml0 hP hK
  obtain ⟨rfl, hZ, hh, hCH, hSf⟩ := hP
  have hx := Bd.exec
  have hby := Bd.bytes
  have hml : cC.maxLocals = 2 := hml0
  have hown : sS.vm.findClass "java/lang/String" = some mM.cls := findClass_of_methodNamed Bd.named
  have hnm := (name_of_methodNamed Bd.named Bd.method).1
  have X0 : Stand pP l eE r2_4_8_29 (sS.setVm sS.vm) mM #[(.ref o), (.ref a1)] bS methS cC s₁ [] 0 0 := Stand.of_body Bd
  have e0 : s₁.heap = h0 := by rw [← hh, Bd.state]; rfl
  have N0 := Fr.nil n0
  obtain ⟨hTK, hBelow⟩ := hK
  have hZ0 : Z.Warmed39 (sS.setVm sS.vm).vm := hZ
  have hown0 : (sS.setVm sS.vm).vm.findClass "java/lang/String" = some mM.cls := hown
  have hS0 : sS.Since sS.vm 0 := (State.WarmedH.refl sS).since 0
  have CC0 : CHr Z consts_1 sS.vm h0 sS.vm h0 := CHr.refl hCH
  obtain ⟨cl101, Ar101, q101, S101, Ng101, Ha101, Ga101⟩ := id V_a1
  have lt_o : @LT.lt Nat _ o h0.size := E_o.lt
  have sf103_o : Safe Z consts_1 sS.vm h0 o := hSf _ (List.mem_of_getElem? (i := 0) rfl)
  obtain ⟨_, _, ⟨T102, L102, k102, n102⟩, -, X102, hs102, hg102, ⟨Lc102, hQ102, l102, y102, z102, Ch102⟩, st102⟩ := X0.specialBackS hx (y := y38_) rfl hown0 (mvT hZ0 (wi hw 7 rfl)) (mvT hZ0 (wi hw 8 rfl)) (mvT hZ0 (wi hw 10 rfl)) (by decide) (backCH (W := 0) (rm_init4e l Z a0 hw [] o a1 u1 u2 h0 n0 (by omega) E_o F_value_o F_coder_o g_o) hZ0 (wi hw 10 rfl) (wi hw 2 rfl) (by decide) (by decide) (own_EW hw) CC0.1 (csS (by omega) sf103_o cs0) (fun _ _ _ _ _ _ _ Y hg => known_frames Y hg (Vm.MethodsKnown.alikeC hS0.1.alike hTK) (Vm.FramesKnown.alikeC hS0.1.alike hBelow))) (g := (mkF mM 6 #[.val (.ref o), .val (.ref a1)] [.null, (.int (0 : Int32)), (.int (0 : Int32)), (.ref a1), (.ref o)])) rfl (by rw [hml]; rfl) (Steps.refl _) (a := o) (argsL := [(.ref a1), (.int (0 : Int32)), (.int (0 : Int32)), .null]) (rest := []) (lenOf pd_1 rfl) rfl (by show 2 * 0 + _ ≤ _; exact Nat.le_of_eq rfl) (hb hby d42_3_6) (fun _ _ => ⟨rfl, e0, ble rfl, ble rfl⟩)
  dsimp only [Pt.U, Pt.locs, Pt.cells, Pt.slots] at X102 l102 y102 z102 st102 hQ102 hs102 hg102 Ch102
  subst y102 z102
  obtain ⟨X102', hS102, hZ102, hown102⟩ := rebS hS0 (by rw [e0]; omega) X102 hs102 hg102 hZ0 hown0
  obtain ⟨h102, e102⟩ : ∃ z, T102.heap = z := ⟨_, rfl⟩
  rw [e102] at hQ102 hS102 Ch102
  obtain ⟨b_102, k_102, rfl, N102q, Kp102, p102_E_o, p102_F_value_o, p102_F_coder_o, p102_V_b⟩ := hQ102
  have Sz1 : h0.size ≤ h102.size := Kp102.1
  have CC1 : CHr Z consts_1 sS.vm h0 T102.vm h102 := CC0.trans Ch102
  have N102 : Fr n0 L102 := by rw [l102]; exact Fr.app N0 N102q
  have K104 : Keep h0 h102 [o] := (Keep.refl h0 [o]).trans Kp102 (allS (Or.inl (List.mem_of_getElem? (i := 0) rfl)) all0)
  obtain ⟨fs, hr, hrun, hended, hE⟩ := Stand.leaveW (s := sS) X102' hS102 (by rw [e102]; omega) (v := none) (fun _ => rfl)
  refine ⟨_, _, castTop (ef_init1e mM o a1 k1 u1 u2) ?_, hrun, hended, _, _, rfl, ?_, ?_, hE.1, hE.2.1, hE.2.2.1, hE.2.2.2.mono (by decide) (by decide)⟩
  · show SS pP eE bS s₁ (mkF mM 0 #[.val (.ref o), .val (.ref a1)] []) _
    refine XS.aloadN X0.here hx rfl (hb hby d42_3_0) rfl rfl ?_
    refine XS.aloadN X0.here hx rfl (hb hby d42_3_1) rfl rfl ?_
    refine XS.iconst X0.here hx rfl (hb hby d42_3_2) ?_
    refine XS.aloadN X0.here hx rfl (hb hby d42_3_3) rfl rfl ?_
    show SS pP eE bS s₁ (mkF mM 4 #[.val (.ref o), .val (.ref a1)] [(.ref a1), (.int (0 : Int32)), (.ref a1), (.ref o)]) _
    refine X0.arraylength hx (by rw [e0]; exact Ar101.1) (State.isArrayOf_alike hZ0.alike Ar101.2.1) (g := (mkF mM 4 #[.val (.ref o), .val (.ref a1)] [(.ref a1), (.int (0 : Int32)), (.ref a1), (.ref o)])) rfl rfl (hb hby d42_3_4) _ ?_
    rw [len_of S101 Ng101]
    show SS pP eE bS s₁ (mkF mM 5 #[.val (.ref o), .val (.ref a1)] [(.int (0 : Int32)), (.int (0 : Int32)), (.ref a1), (.ref o)]) _
    refine XS.aconstNull X0.here hx rfl (hb hby d42_3_5) ?_
    show SS pP eE bS s₁ (mkF mM 6 #[.val (.ref o), .val (.ref a1)] [.null, (.int (0 : Int32)), (.int (0 : Int32)), (.ref a1), (.ref o)]) _
    refine st102.trans ?_
    show SS pP eE bS T102 (mkF mM 9 #[.val (.ref o), .val (.ref a1)] []) _
    exact X102'.returnOut hx Bd.returns (hb hby d42_3_9) hr
  · show Q_init1e Z o a1 k1 u1 u2 h0 n0 _ T102.heap _
    rw [e102]
    exact ⟨b_102, k_102, rfl, N102, K104, p102_E_o, p102_F_value_o, p102_F_coder_o, p102_V_b⟩
  · show CHr Z consts_1 sS.vm sS.heap T102.vm T102.heap
    rw [hh, e102]
    exact CC1.trans (CHv.at X102' hZ102 (own_EW hw) CC1.1)
-- MARK room
theorem own_caps {z : Nat} (h : z ≤ 3) : (ncap 16 (0 + 16) ≤ 128 ∧ 16 ≤ 128 ∧ 0 ≤ 16) ∧ (ncap (ncap 16 (0 + 16)) ((0 + 16) + z) ≤ 128 ∧ ncap 16 (0 + 16) ≤ 128 ∧ 0 + 16 ≤ ncap 16 (0 + 16)) ∧
    (ncap (ncap (ncap 16 (0 + 16)) ((0 + 16) + z)) (((0 + 16) + z) + 1) ≤ 128 ∧ ncap (ncap 16 (0 + 16)) ((0 + 16) + z) ≤ 128 ∧ (0 + 16) + z ≤ ncap (ncap 16 (0 + 16)) ((0 + 16) + z)) ∧
    (((0 + 16) + z) + 1 < ncap (ncap (ncap 16 (0 + 16)) ((0 + 16) + z)) (((0 + 16) + z) + 1) ∧ ncap (ncap (ncap 16 (0 + 16)) ((0 + 16) + z)) (((0 + 16) + z) + 1) ≤ 128) := by
  match z, h with
  | 0, _ => decide
  | 1, _ => decide
  | 2, _ => decide
  | 3, _ => decide
abbrev cp15_2 := prog_15_method_2_code
theorem dp15_2_0 : decode cp15_2 0 = .ok (.new 7, 3) := by decide +kernel
theorem dp15_2_3 : decode cp15_2 3 = .ok (.dup, 1) := by decide +kernel
theorem dp15_2_4 : decode cp15_2 4 = .ok (.new 9, 3) := by decide +kernel
theorem dp15_2_7 : decode cp15_2 7 = .ok (.dup, 1) := by decide +kernel
theorem dp15_2_8 : decode cp15_2 8 = .ok (.invokespecial 11, 3) := by decide +kernel
theorem pd_2 : parseMethodDescriptor "()V" = some ⟨[], none⟩ := by decide +kernel
theorem dp15_2_11 : decode cp15_2 11 = .ok (.ldc 14, 2) := by decide +kernel
theorem own_txt0 : (∀ c ∈ "No room has id '".toList, c.toNat < 256) ∧ "No room has id '".toList.map (fun c => Value.int (Jvm.Lit.byteI c.toNat.toUInt16)) = [(.int (78 : Int32)), (.int (111 : Int32)), (.int (32 : Int32)), (.int (114 : Int32)), (.int (111 : Int32)), (.int (111 : Int32)), (.int (109 : Int32)), (.int (32 : Int32)), (.int (104 : Int32)), (.int (97 : Int32)), (.int (115 : Int32)), (.int (32 : Int32)), (.int (105 : Int32)), (.int (100 : Int32)), (.int (32 : Int32)), (.int (39 : Int32))] := by
  constructor
  · decide
  · first | rfl | decide
theorem dp15_2_13 : decode cp15_2 13 = .ok (.invokevirtual 16, 3) := by decide +kernel
theorem pd_5 : parseMethodDescriptor "(Ljava/lang/String;)Ljava/lang/StringBuilder;" = some ⟨[(.object "java/lang/String")], some (.object "java/lang/StringBuilder")⟩ := by decide +kernel
theorem dp15_2_16 : decode cp15_2 16 = .ok (.aload_n 0, 1) := by decide +kernel
theorem dp15_2_17 : decode cp15_2 17 = .ok (.invokevirtual 16, 3) := by decide +kernel
theorem dp15_2_20 : decode cp15_2 20 = .ok (.ldc 20, 2) := by decide +kernel
theorem own_txt1 : (∀ c ∈ "'".toList, c.toNat < 256) ∧ "'".toList.map (fun c => Value.int (Jvm.Lit.byteI c.toNat.toUInt16)) = [(.int (39 : Int32))] := by
  constructor
  · decide
  · first | rfl | decide
theorem dp15_2_22 : decode cp15_2 22 = .ok (.invokevirtual 16, 3) := by decide +kernel
theorem dp15_2_25 : decode cp15_2 25 = .ok (.invokevirtual 22, 3) := by decide +kernel
theorem pd_17 : parseMethodDescriptor "()Ljava/lang/String;" = some ⟨[], some (.object "java/lang/String")⟩ := by decide +kernel
theorem dp15_2_28 : decode cp15_2 28 = .ok (.invokespecial 26, 3) := by decide +kernel
theorem dp15_2_31 : decode cp15_2 31 = .ok (.areturn, 1) := by decide +kernel
abbrev r7_13_3370_95 : Room := { frames := 7, cells := 13, slots := 3370, locals := 95 }
abbrev y46_ : MethodName := ⟨"com/example/dipper/dipper/store/NotFoundException", "room", "(Ljava/lang/String;)Lcom/example/dipper/dipper/store/NotFoundException;"⟩
def Q_room_some (Z : State) (t : Addr) (tb : Addr) (tk : ClassId) (z : Nat) (ys : List Value) (ua : Addr) (sa : Addr) (cs : Int32) (h0 : Heap) (n0 : Nat) (xv : Option Value) (xh : Heap) (xL : List Loc) : Prop := ∃ x : Addr, ∃ m : Addr, ∃ mb : Addr, ∃ mk : ClassId, xv = some (.ref x) ∧ Fr n0 xL ∧ Keep h0 xh [] ∧ Exa Z xh x "com/example/dipper/dipper/store/NotFoundException" ∧ Fld Z xh x "java/lang/Throwable" "detailMessage" "Ljava/lang/String;" (.ref m) ∧ Exa Z xh m "java/lang/String" ∧ Fld Z xh m "java/lang/String" "value" "[B" (.ref mb) ∧ Fld Z xh m "java/lang/String" "coder" "B" (.int (0 : Int32)) ∧ Arv Z xh mb mk .byte (iN (((0 + 16) + z) + 1)) ((([] ++ [(.int (78 : Int32)), (.int (111 : Int32)), (.int (32 : Int32)), (.int (114 : Int32)), (.int (111 : Int32)), (.int (111 : Int32)), (.int (109 : Int32)), (.int (32 : Int32)), (.int (104 : Int32)), (.int (97 : Int32)), (.int (115 : Int32)), (.int (32 : Int32)), (.int (105 : Int32)), (.int (100 : Int32)), (.int (32 : Int32)), (.int (39 : Int32))]) ++ ys) ++ [(.int (39 : Int32))]) (.int (0 : Int32))
theorem ef_room_some (mM : MethodId) (t : Addr) (tb : Addr) (tk : ClassId) (z : Nat) (ys : List Value) (ua : Addr) (sa : Addr) (cs : Int32) : entryFrame mM #[(.ref t)] 1 = mkF mM 0 #[.val (.ref t)] [] := by
  first | (simp [entryFrame, mkF, argsToLocals, Value.category]; done) | rfl
theorem rm_room_some (l : Launch) (Z : State) (a0 : Array Value) (hw : HW a0 Z) (ws : List Jvm.Cond) (t : Addr) (tb : Addr) (tk : ClassId) (z : Nat) (ys : List Value) (ua : Addr) (sa : Addr) (cs : Int32) (h0 : Heap) (n0 : Nat) (Z0 : n0 ≤ h0.size) (E_t : Exa Z h0 t "java/lang/String") (F_value_t : Fld Z h0 t "java/lang/String" "value" "[B" (.ref tb)) (F_coder_t : Fld Z h0 t "java/lang/String" "coder" "B" (.int (0 : Int32))) (V_tb : Arv Z h0 tb tk .byte (iN z) ys (.int (0 : Int32))) (hz : ys.length = z) (hz3 : z ≤ 3) (OL : Old Z n0 h0) (TH : ThS Z h0) (S_UNASSIGNED_STACK : Sta Z Z.heap "java/lang/Throwable" "UNASSIGNED_STACK" "[Ljava/lang/StackTraceElement;" (.ref ua)) (S_SUPPRESSED_SENTINEL : Sta Z Z.heap "java/lang/Throwable" "SUPPRESSED_SENTINEL" "Ljava/util/List;" (.ref sa)) (hl : l.stackTraces = true) (S_COMPACT_STRINGS : Sta Z Z.heap "java/lang/String" "COMPACT_STRINGS" "Z" (.int cs)) (hcs : ¬ (cs = (0 : Int32))) :
    MetFree l y46_ (head1 (Jvm.Cond.code y46_ prog_15_method_2_code 1 (some (.object "com/example/dipper/dipper/store/NotFoundException")) :: ws) r7_13_3370_95) (fun xa xU => xa = #[(.ref t)] ∧ Z.Warmed39 xU.vm ∧ xU.heap = h0 ∧ CHv Z consts_1 xU.vm h0 ∧ ∀ x ∈ ([] : List Addr), Safe Z consts_1 xU.vm h0 x) (fun _ _ bl s _ => s.vm.MethodsKnown ∧ s.vm.FramesKnown bl) (fun _ xU xo xU' => ∃ xv xL, xo = .returned xv ∧ Q_room_some Z t tb tk z ys ua sa cs h0 n0 xv xU'.heap xL ∧ CHr Z consts_1 xU.vm xU.heap xU'.vm xU'.heap ∧ ReturnedEndW xU xo xU' xL r7_13_3370_95.cells r7_13_3370_95.slots) := by
  refine MetFree.of_bodySF (plainFor_of_name pn_com_example_dipper_dipper_store_NotFoundException) hisR ?_
  intro pP eE sS mM argS bS methS cC s₁ Bd hml0 hP hK
  obtain ⟨rfl, hZ, hh, hCH, hSf⟩ := hP
  have hx := Bd.exec
  have hby := Bd.bytes
  have hml : cC.maxLocals = 1 := hml0
  have hown : sS.vm.findClass "com/example/dipper/dipper/store/NotFoundException" = some mM.cls := findClass_of_methodNamed Bd.named
  have hnm := (name_of_methodNamed Bd.named Bd.method).1
  have X0 : Stand pP l eE r7_13_3370_95 (sS.setVm sS.vm) mM #[(.ref t)] bS methS cC s₁ [] 0 0 := Stand.of_body Bd
  have e0 : s₁.heap = h0 := by rw [← hh, Bd.state]; rfl
  have N0 := Fr.nil n0
  obtain ⟨hTK, hBelow⟩ := hK
  have hZ0 : Z.Warmed39 (sS.setVm sS.vm).vm := hZ
  have hown0 : (sS.setVm sS.vm).vm.findClass "com/example/dipper/dipper/store/NotFoundException" = some mM.cls := hown
  have hS0 : sS.Since sS.vm 0 := (State.WarmedH.refl sS).since 0
  have CC0 : CHr Z consts_1 sS.vm h0 sS.vm h0 := CHr.refl hCH
  obtain ⟨T101, h101, X101, e101, E101, A101, D101, B101, st101⟩ := newO X0 hx hZ0 hown0 (wi hw 26 rfl) (wi hw 27 rfl) (wi hw 24 rfl) e0 (g := (mkF mM 0 #[.val (.ref t)] [])) rfl (hb hby dp15_2_0) (by decide) (by decide)
  obtain ⟨b101, g101⟩ : ∃ z : Nat, z = h0.size := ⟨_, rfl⟩
  rw [← g101] at A101 D101 B101 st101
  have Sz1 : h0.size ≤ h101.size := E101.1
  have CC1 : CHr Z consts_1 sS.vm h0 sS.vm h101 := CC0.trans (CHr.ext E101 CC0.1)
  have F101_cause : Fld Z h101 b101 "java/lang/Throwable" "cause" "Ljava/lang/Throwable;" .null := D101 (Or.inl (wi hw 180 rfl)) (ty := (.object "java/lang/Throwable")) (by decide)
  have F101_stackTrace : Fld Z h101 b101 "java/lang/Throwable" "stackTrace" "[Ljava/lang/StackTraceElement;" .null := D101 (Or.inl (wi hw 183 rfl)) (ty := (.array (.object "java/lang/StackTraceElement"))) (by decide)
  have F101_suppressedExceptions : Fld Z h101 b101 "java/lang/Throwable" "suppressedExceptions" "Ljava/util/List;" .null := D101 (Or.inl (wi hw 186 rfl)) (ty := (.object "java/util/List")) (by decide)
  have F101_detailMessage : Fld Z h101 b101 "java/lang/Throwable" "detailMessage" "Ljava/lang/String;" .null := D101 (Or.inl (wi hw 210 rfl)) (ty := (.object "java/lang/String")) (by decide)
  have F101_backtrace : Fld Z h101 b101 "java/lang/Throwable" "backtrace" "Ljava/lang/Object;" .null := D101 (Or.inl (wi hw 211 rfl)) (ty := (.object "java/lang/Object")) (by decide)
  have F101_depth : Fld Z h101 b101 "java/lang/Throwable" "depth" "I" (.int (0 : Int32)) := D101 (Or.inl (wi hw 212 rfl)) (ty := .int) (by decide)
  obtain ⟨T102, h102, X102, e102, E102, A102, D102, B102, st102⟩ := newO X101 hx hZ0 hown0 (wi hw 28 rfl) (wi hw 29 rfl) (wi hw 30 rfl) e101 (g := (mkF mM 4 #[.val (.ref t)] [(.ref b101), (.ref b101)])) rfl (hb hby dp15_2_4) (by decide) (by decide)
  obtain ⟨b102, g102⟩ : ∃ z : Nat, z = h101.size := ⟨_, rfl⟩
  rw [← g102] at A102 D102 B102 st102
  have Sz2 : h101.size ≤ h102.size := E102.1
  have CC2 : CHr Z consts_1 sS.vm h0 sS.vm h102 := CC1.trans (CHr.ext E102 CC1.1)
  have F102_value : Fld Z h102 b102 "java/lang/AbstractStringBuilder" "value" "[B" .null := D102 (Or.inl (wi hw 43 rfl)) (ty := (.array .byte)) (by decide)
  have F102_coder : Fld Z h102 b102 "java/lang/AbstractStringBuilder" "coder" "B" (.int (0 : Int32)) := D102 (Or.inl (wi hw 45 rfl)) (ty := .byte) (by decide)
  have F102_count : Fld Z h102 b102 "java/lang/AbstractStringBuilder" "count" "I" (.int (0 : Int32)) := D102 (Or.inl (wi hw 69 rfl)) (ty := .int) (by decide)
  have c104_OL : Old Z n0 h101 := OL.ext E101
  have c105_OL : Old Z n0 h102 := c104_OL.ext E102
  have ge106_b102 : @LE.le Nat _ n0 b102 := by omega
  obtain ⟨_, _, ⟨T103, L103, k103, n103⟩, -, X103, ⟨Lc103, hQ103, l103, y103, z103⟩, st103⟩ := X102.specialBack hx (y := y3_) rfl hown0 (mvT hZ0 (wi hw 31 rfl)) (mvT hZ0 (wi hw 32 rfl)) (mvT hZ0 (wi hw 33 rfl)) (by decide) (backOf (W := 3) (rm_sb_init l Z a0 hw [] b102 .null (.int (0 : Int32)) (.int (0 : Int32)) cs h102 n0 (by omega) A102 F102_value F102_coder F102_count ge106_b102 c105_OL S_COMPACT_STRINGS hcs) hZ0 (wi hw 33 rfl) (wi hw 30 rfl) (by decide) (by decide)) (g := (mkF mM 8 #[.val (.ref t)] [(.ref b102), (.ref b102), (.ref b101), (.ref b101)])) rfl (by rw [hml]; rfl) (Steps.refl _) (a := b102) (argsL := []) (rest := [(.ref b102), (.ref b101), (.ref b101)]) (lenOf pd_2 rfl) rfl (by show 2 * 0 + _ ≤ _; exact Nat.le_of_eq rfl) (hb hby dp15_2_8) (fun _ _ => ⟨rfl, e102, ble rfl, ble rfl⟩)
  dsimp only [Pt.U, Pt.locs, Pt.cells, Pt.slots] at X103 l103 y103 z103 st103 hQ103
  subst y103 z103
  obtain ⟨h103, e103⟩ : ∃ z, T103.heap = z := ⟨_, rfl⟩
  rw [e103] at hQ103
  obtain ⟨b_103, k_103, rfl, N103q, Kp103, p103_E_o, p103_F_value_o, p103_F_coder_o, p103_F_count_o, p103_V_b, p103_gh_b⟩ := hQ103
  have Sz3 : h102.size ≤ h103.size := Kp103.1
  have sf107_b102 : Safe Z consts_1 sS.vm h102 b102 := Safe.exa (show Z.Warmed39 sS.vm from hZ0).alike A102 (by decide) (by decide)
  have CC3 : CHr Z consts_1 sS.vm h0 sS.vm h103 := CC2.trans (CHr.keep Kp103 (sfS sf107_b102 sf0) CC2.1)
  have N103 : Fr n0 L103 := by rw [l103]; exact Fr.app N0 N103q
  obtain ⟨b108, T108, h108, kk108, d108, q108, X108, e108, E108, hS108, hk108, hZ108, hown108, A108, Fc108, Fv108, V108, ltb108, ltd108, Ch108, -, hne108, st108⟩ := ldcCH X103 hx hZ0 hown0 (wi hw 46 rfl) (own_wS hw) e103 hS0 (by omega) (own_EW hw) (List.mem_of_getElem? (i := 0) rfl) CC3.1 (vs := [(.int (78 : Int32)), (.int (111 : Int32)), (.int (32 : Int32)), (.int (114 : Int32)), (.int (111 : Int32)), (.int (111 : Int32)), (.int (109 : Int32)), (.int (32 : Int32)), (.int (104 : Int32)), (.int (97 : Int32)), (.int (115 : Int32)), (.int (32 : Int32)), (.int (105 : Int32)), (.int (100 : Int32)), (.int (32 : Int32)), (.int (39 : Int32))]) (z := (iN 16)) (own_txt0) (by decide) (by rfl) (g := (mkF mM 11 #[.val (.ref t)] [(.ref b102), (.ref b101), (.ref b101)])) rfl (hb hby dp15_2_11) (n := 64) (by decide) (by decide) (by decide) (by decide)
  have Sz4 : h103.size ≤ h108.size := E108.1
  have CC4 : CHr Z consts_1 sS.vm h0 T108.vm h108 := CC3.trans Ch108
  have c110_E_b102 : Exa Z h108 b102 "java/lang/StringBuilder" := Exa.ext E108 p103_E_o
  have c111_F_value_b102 : Fld Z h108 b102 "java/lang/AbstractStringBuilder" "value" "[B" (.ref b_103) := Fld.ext E108 p103_F_value_o
  have c112_F_coder_b102 : Fld Z h108 b102 "java/lang/AbstractStringBuilder" "coder" "B" (.int (0 : Int32)) := Fld.ext E108 p103_F_coder_o
  have c113_F_count_b102 : Fld Z h108 b102 "java/lang/AbstractStringBuilder" "count" "I" (.int (0 : Int32)) := Fld.ext E108 p103_F_count_o
  have c114_V_b_103 : Arv Z h108 b_103 k_103 .byte (iN 16) [] (.int (0 : Int32)) := p103_V_b.ext E108
  have c115_OL : Old Z n0 h103 := c105_OL.keep Kp103 (allS ge106_b102 all0)
  have c116_OL : Old Z n0 h108 := c115_OL.ext E108
  have lt_b102 : @LT.lt Nat _ b102 h102.size := A102.lt
  have lt_b_103 : @LT.lt Nat _ b_103 h103.size := p103_V_b.lt
  have ne_b102_b_103_117 : b102 ≠ b_103 := (by omega : @Ne Nat b102 b_103)
  have sf118_b102 : Safe Z consts_1 T108.vm h108 b102 := Safe.exa (show Z.Warmed39 T108.vm from hZ108).alike c110_E_b102 (by decide) (by decide)
  have sf119_b_103 : Safe Z consts_1 sS.vm h102 b_103 := Safe.new (by omega)
  have sf120_b_103 : Safe Z consts_1 sS.vm h103 b_103 := Safe.keep Kp103 (sfS sf107_b102 sf0) CC2.1 sf119_b_103
  have sf121_b_103 : Safe Z consts_1 T108.vm h108 b_103 := CHr.safe Ch108 (by omega : @LT.lt Nat _ b_103 h103.size) sf120_b_103
  have ge122_b_103 : @LE.le Nat _ n0 b_103 := by omega
  obtain ⟨cq109, kq109, q109a, q109b, q109c⟩ := isOf hZ108 e108 c110_E_b102
  obtain ⟨_, _, ⟨T109, L109, k109, n109⟩, -, X109, ⟨Lc109, hQ109, l109, y109, z109⟩, st109⟩ := X108.virtualBack hx (y := y14_) (z := y14_) hown108 (mvT hZ108 (wi hw 47 rfl)) (mvT hZ108 (wi hw 48 rfl)) (notFace_of_selects (args := #[]) (mvT hZ108 (wi hw 50 rfl))) (mvT hZ108 (wi hw 50 rfl)) (mvT hZ108 (wi hw 49 rfl)) (by decide) (backOf (W := 2) (rm_sapp l Z a0 hw [] b102 b108 d108 q108 16 _ b_103 k_103 16 0 [] cs h108 n0 (by omega) c110_E_b102 c111_F_value_b102 c112_F_coder_b102 c113_F_count_b102 A108 Fv108 Fc108 V108 c114_V_b_103 ne_b102_b_103_117 (hne108 b102 sf118_b102).1 (hne108 b102 sf118_b102).2 (Ne.symm (hne108 b_103 sf121_b_103).1) (Ne.symm (hne108 b_103 sf121_b_103).2) ge106_b102 ge122_b_103 (by decide) (by decide) ((own_caps hz3).1) c116_OL S_COMPACT_STRINGS hcs) hZ108 (wi hw 51 rfl) (wi hw 30 rfl) (by decide) (by decide)) q109a q109c (g := (mkF mM 13 #[.val (.ref t)] [(.ref b108), (.ref b102), (.ref b101), (.ref b101)])) rfl (by rw [hml]; rfl) (Steps.refl _) (argsL := [(.ref b108)]) (rest := [(.ref b101), (.ref b101)]) (lenOf pd_5 rfl) rfl (by show 2 * 0 + _ ≤ _; exact Nat.le_of_eq rfl) (hb hby dp15_2_13) (fun _ _ => ⟨rfl, e108, ble rfl, ble rfl⟩)
  dsimp only [Pt.U, Pt.locs, Pt.cells, Pt.slots] at X109 l109 y109 z109 st109 hQ109
  subst y109 z109
  obtain ⟨h109, e109⟩ : ∃ z, T109.heap = z := ⟨_, rfl⟩
  rw [e109] at hQ109
  obtain ⟨b2_109, k2_109, rfl, N109q, Kp109, p109_E_o, p109_F_value_o, p109_F_coder_o, p109_F_count_o, p109_V_b2, p109_hor, p109_hob, p109_hgb⟩ := hQ109
  have Sz5 : h108.size ≤ h109.size := Kp109.1
  have CC5 : CHr Z consts_1 sS.vm h0 T108.vm h109 := CC4.trans (CHr.keep Kp109 (sfS sf118_b102 (sfS sf121_b_103 sf0)) CC4.1)
  have N109 : Fr n0 L109 := by rw [l109]; exact Fr.app N103 N109q
  have c124_E_t : Exa Z h101 t "java/lang/String" := Exa.ext E101 E_t
  have c125_E_t : Exa Z h102 t "java/lang/String" := Exa.ext E102 c124_E_t
  have c126_E_t : Exa Z h103 t "java/lang/String" := c125_E_t.keep Kp103
  have c127_E_t : Exa Z h108 t "java/lang/String" := Exa.ext E108 c126_E_t
  have c128_E_t : Exa Z h109 t "java/lang/String" := c127_E_t.keep Kp109
  have c129_F_value_t : Fld Z h101 t "java/lang/String" "value" "[B" (.ref tb) := Fld.ext E101 F_value_t
  have c130_F_value_t : Fld Z h102 t "java/lang/String" "value" "[B" (.ref tb) := Fld.ext E102 c129_F_value_t
  have lt_t : @LT.lt Nat _ t h0.size := E_t.lt
  have ne_t_b102_131 : t ≠ b102 := (by omega : @Ne Nat t b102)
  have c132_F_value_t : Fld Z h103 t "java/lang/String" "value" "[B" (.ref tb) := c130_F_value_t.keep Kp103 (ninS ne_t_b102_131 nin0)
  have c133_F_value_t : Fld Z h108 t "java/lang/String" "value" "[B" (.ref tb) := Fld.ext E108 c132_F_value_t
  have ne_t_b_103_134 : t ≠ b_103 := (by omega : @Ne Nat t b_103)
  have c135_F_value_t : Fld Z h109 t "java/lang/String" "value" "[B" (.ref tb) := c133_F_value_t.keep Kp109 (ninS ne_t_b102_131 (ninS ne_t_b_103_134 nin0))
  have c136_F_coder_t : Fld Z h101 t "java/lang/String" "coder" "B" (.int (0 : Int32)) := Fld.ext E101 F_coder_t
  have c137_F_coder_t : Fld Z h102 t "java/lang/String" "coder" "B" (.int (0 : Int32)) := Fld.ext E102 c136_F_coder_t
  have c138_F_coder_t : Fld Z h103 t "java/lang/String" "coder" "B" (.int (0 : Int32)) := c137_F_coder_t.keep Kp103 (ninS ne_t_b102_131 nin0)
  have c139_F_coder_t : Fld Z h108 t "java/lang/String" "coder" "B" (.int (0 : Int32)) := Fld.ext E108 c138_F_coder_t
  have c140_F_coder_t : Fld Z h109 t "java/lang/String" "coder" "B" (.int (0 : Int32)) := c139_F_coder_t.keep Kp109 (ninS ne_t_b102_131 (ninS ne_t_b_103_134 nin0))
  have c141_V_tb : Arv Z h101 tb tk .byte (iN z) ys (.int (0 : Int32)) := V_tb.ext E101
  have c142_V_tb : Arv Z h102 tb tk .byte (iN z) ys (.int (0 : Int32)) := c141_V_tb.ext E102
  have lt_tb : @LT.lt Nat _ tb h0.size := V_tb.lt
  have ne_tb_b102_143 : tb ≠ b102 := (by omega : @Ne Nat tb b102)
  have c144_V_tb : Arv Z h103 tb tk .byte (iN z) ys (.int (0 : Int32)) := c142_V_tb.keep Kp103 (ninS ne_tb_b102_143 nin0)
  have c145_V_tb : Arv Z h108 tb tk .byte (iN z) ys (.int (0 : Int32)) := c144_V_tb.ext E108
  have ne_tb_b_103_146 : tb ≠ b_103 := (by omega : @Ne Nat tb b_103)
  have c147_V_tb : Arv Z h109 tb tk .byte (iN z) ys (.int (0 : Int32)) := c145_V_tb.keep Kp109 (ninS ne_tb_b102_143 (ninS ne_tb_b_103_146 nin0))
  have c148_OL : Old Z n0 h109 := c116_OL.keep Kp109 (allS ge106_b102 (allS ge122_b_103 all0))
  have lt_b2_109 : @LT.lt Nat _ b2_109 h109.size := p109_V_b2.lt
  have ne_b102_b2_109_149 : b102 ≠ b2_109 := (by omega : @Ne Nat b102 b2_109)
  have ne_b102_t_150 : b102 ≠ t := (by omega : @Ne Nat b102 t)
  have ne_b102_tb_151 : b102 ≠ tb := (by omega : @Ne Nat b102 tb)
  have ne_t_b2_109_152 : t ≠ b2_109 := (by omega : @Ne Nat t b2_109)
  have ne_tb_b2_109_153 : tb ≠ b2_109 := (by omega : @Ne Nat tb b2_109)
  have ge154_b2_109 : @LE.le Nat _ n0 b2_109 := by omega
  obtain ⟨cq123, kq123, q123a, q123b, q123c⟩ := isOf hZ108 e109 p109_E_o
  obtain ⟨_, _, ⟨T123, L123, k123, n123⟩, -, X123, ⟨Lc123, hQ123, l123, y123, z123⟩, st123⟩ := X109.virtualBack hx (y := y14_) (z := y14_) hown108 (mvT hZ108 (wi hw 47 rfl)) (mvT hZ108 (wi hw 48 rfl)) (notFace_of_selects (args := #[]) (mvT hZ108 (wi hw 50 rfl))) (mvT hZ108 (wi hw 50 rfl)) (mvT hZ108 (wi hw 49 rfl)) (by decide) (backOf (W := 2) (rm_sapp l Z a0 hw [] b102 t tb tk z ys b2_109 k2_109 (ncap 16 (0 + 16)) (0 + 16) _ cs h109 n0 (by omega) p109_E_o p109_F_value_o p109_F_coder_o p109_F_count_o c128_E_t c135_F_value_t c140_F_coder_t c147_V_tb p109_V_b2 ne_b102_b2_109_149 ne_b102_t_150 ne_b102_tb_151 ne_t_b2_109_152 ne_tb_b2_109_153 ge106_b102 ge154_b2_109 (by decide) hz ((own_caps hz3).2.1) c148_OL S_COMPACT_STRINGS hcs) hZ108 (wi hw 51 rfl) (wi hw 30 rfl) (by decide) (by decide)) q123a q123c (g := (mkF mM 17 #[.val (.ref t)] [(.ref t), (.ref b102), (.ref b101), (.ref b101)])) rfl (by rw [hml]; rfl) (Steps.refl _) (argsL := [(.ref t)]) (rest := [(.ref b101), (.ref b101)]) (lenOf pd_5 rfl) rfl (by show 2 * 0 + _ ≤ _; exact Nat.le_of_eq rfl) (hb hby dp15_2_17) (fun _ _ => ⟨rfl, e109, ble rfl, ble rfl⟩)
  dsimp only [Pt.U, Pt.locs, Pt.cells, Pt.slots] at X123 l123 y123 z123 st123 hQ123
  subst y123 z123
  obtain ⟨h123, e123⟩ : ∃ z, T123.heap = z := ⟨_, rfl⟩
  rw [e123] at hQ123
  obtain ⟨b2_123, k2_123, rfl, N123q, Kp123, p123_E_o, p123_F_value_o, p123_F_coder_o, p123_F_count_o, p123_V_b2, p123_hor, p123_hob, p123_hgb⟩ := hQ123
  have Sz6 : h109.size ≤ h123.size := Kp123.1
  have sf155_b2_109 : Safe Z consts_1 T108.vm h108 b2_109 := by
    rcases p109_hor with q | q
    · rw [q]; exact sf121_b_103
    · exact Safe.new q
  have sf156_b2_109 : Safe Z consts_1 T108.vm h109 b2_109 := Safe.keep Kp109 (sfS sf118_b102 (sfS sf121_b_103 sf0)) CC4.1 sf155_b2_109
  have sf157_b102 : Safe Z consts_1 T108.vm h109 b102 := Safe.exa (show Z.Warmed39 T108.vm from hZ108).alike p109_E_o (by decide) (by decide)
  have CC6 : CHr Z consts_1 sS.vm h0 T108.vm h123 := CC5.trans (CHr.keep Kp123 (sfS sf157_b102 (sfS sf156_b2_109 sf0)) CC5.1)
  have N123 : Fr n0 L123 := by rw [l123]; exact Fr.app N109 N123q
  obtain ⟨b158, T158, h158, kk158, d158, q158, X158, e158, E158, hS158, hk158, hZ158, hown158, A158, Fc158, Fv158, V158, ltb158, ltd158, Ch158, -, hne158, st158⟩ := ldcCH X123 hx hZ108 hown108 (wi hw 95 rfl) (own_wS hw) e123 hS108 (by omega) (own_EW hw) (List.mem_of_getElem? (i := 1) rfl) CC6.1 (vs := [(.int (39 : Int32))]) (z := (iN 1)) (own_txt1) (by decide) (by rfl) (g := (mkF mM 20 #[.val (.ref t)] [(.ref b102), (.ref b101), (.ref b101)])) rfl (hb hby dp15_2_20) (n := 4) (by decide) (by decide) (by decide) (by decide)
  have Sz7 : h123.size ≤ h158.size := E158.1
  have CC7 : CHr Z consts_1 sS.vm h0 T158.vm h158 := CC6.trans Ch158
  have c160_E_b102 : Exa Z h158 b102 "java/lang/StringBuilder" := Exa.ext E158 p123_E_o
  have c161_F_value_b102 : Fld Z h158 b102 "java/lang/AbstractStringBuilder" "value" "[B" (.ref b2_123) := Fld.ext E158 p123_F_value_o
  have c162_F_coder_b102 : Fld Z h158 b102 "java/lang/AbstractStringBuilder" "coder" "B" (.int (0 : Int32)) := Fld.ext E158 p123_F_coder_o
  have c163_F_count_b102 : Fld Z h158 b102 "java/lang/AbstractStringBuilder" "count" "I" (.int (iN ((0 + 16) + z))) := Fld.ext E158 p123_F_count_o
  have c164_V_b2_123 : Arv Z h158 b2_123 k2_123 .byte (iN (ncap (ncap 16 (0 + 16)) ((0 + 16) + z))) (([] ++ [(.int (78 : Int32)), (.int (111 : Int32)), (.int (32 : Int32)), (.int (114 : Int32)), (.int (111 : Int32)), (.int (111 : Int32)), (.int (109 : Int32)), (.int (32 : Int32)), (.int (104 : Int32)), (.int (97 : Int32)), (.int (115 : Int32)), (.int (32 : Int32)), (.int (105 : Int32)), (.int (100 : Int32)), (.int (32 : Int32)), (.int (39 : Int32))]) ++ ys) (.int (0 : Int32)) := p123_V_b2.ext E158
  have c165_OL : Old Z n0 h123 := c148_OL.keep Kp123 (allS ge106_b102 (allS ge154_b2_109 all0))
  have c166_OL : Old Z n0 h158 := c165_OL.ext E158
  have lt_b2_123 : @LT.lt Nat _ b2_123 h123.size := p123_V_b2.lt
  have ne_b102_b2_123_167 : b102 ≠ b2_123 := (by omega : @Ne Nat b102 b2_123)
  have sf168_b102 : Safe Z consts_1 T158.vm h158 b102 := Safe.exa (show Z.Warmed39 T158.vm from hZ158).alike c160_E_b102 (by decide) (by decide)
  have sf169_b2_123 : Safe Z consts_1 T108.vm h109 b2_123 := by
    rcases p123_hor with q | q
    · rw [q]; exact sf156_b2_109
    · exact Safe.new q
  have sf170_b2_123 : Safe Z consts_1 T108.vm h123 b2_123 := Safe.keep Kp123 (sfS sf157_b102 (sfS sf156_b2_109 sf0)) CC5.1 sf169_b2_123
  have sf171_b2_123 : Safe Z consts_1 T158.vm h158 b2_123 := CHr.safe Ch158 (by omega : @LT.lt Nat _ b2_123 h123.size) sf170_b2_123
  have ge172_b2_123 : @LE.le Nat _ n0 b2_123 := by omega
  obtain ⟨cq159, kq159, q159a, q159b, q159c⟩ := isOf hZ158 e158 c160_E_b102
  obtain ⟨_, _, ⟨T159, L159, k159, n159⟩, -, X159, ⟨Lc159, hQ159, l159, y159, z159⟩, st159⟩ := X158.virtualBack hx (y := y14_) (z := y14_) hown158 (mvT hZ158 (wi hw 47 rfl)) (mvT hZ158 (wi hw 48 rfl)) (notFace_of_selects (args := #[]) (mvT hZ158 (wi hw 50 rfl))) (mvT hZ158 (wi hw 50 rfl)) (mvT hZ158 (wi hw 49 rfl)) (by decide) (backOf (W := 2) (rm_sapp l Z a0 hw [] b102 b158 d158 q158 1 [(.int (39 : Int32))] b2_123 k2_123 (ncap (ncap 16 (0 + 16)) ((0 + 16) + z)) ((0 + 16) + z) _ cs h158 n0 (by omega) c160_E_b102 c161_F_value_b102 c162_F_coder_b102 c163_F_count_b102 A158 Fv158 Fc158 V158 c164_V_b2_123 ne_b102_b2_123_167 (hne158 b102 sf168_b102).1 (hne158 b102 sf168_b102).2 (Ne.symm (hne158 b2_123 sf171_b2_123).1) (Ne.symm (hne158 b2_123 sf171_b2_123).2) ge106_b102 ge172_b2_123 (by rw [List.length_append, hz]; rfl) (by decide) ((own_caps hz3).2.2.1) c166_OL S_COMPACT_STRINGS hcs) hZ158 (wi hw 51 rfl) (wi hw 30 rfl) (by decide) (by decide)) q159a q159c (g := (mkF mM 22 #[.val (.ref t)] [(.ref b158), (.ref b102), (.ref b101), (.ref b101)])) rfl (by rw [hml]; rfl) (Steps.refl _) (argsL := [(.ref b158)]) (rest := [(.ref b101), (.ref b101)]) (lenOf pd_5 rfl) rfl (by show 2 * 0 + _ ≤ _; exact Nat.le_of_eq rfl) (hb hby dp15_2_22) (fun _ _ => ⟨rfl, e158, ble rfl, ble rfl⟩)
  dsimp only [Pt.U, Pt.locs, Pt.cells, Pt.slots] at X159 l159 y159 z159 st159 hQ159
  subst y159 z159
  obtain ⟨h159, e159⟩ : ∃ z, T159.heap = z := ⟨_, rfl⟩
  rw [e159] at hQ159
  obtain ⟨b2_159, k2_159, rfl, N159q, Kp159, p159_E_o, p159_F_value_o, p159_F_coder_o, p159_F_count_o, p159_V_b2, p159_hor, p159_hob, p159_hgb⟩ := hQ159
  have Sz8 : h158.size ≤ h159.size := Kp159.1
  have CC8 : CHr Z consts_1 sS.vm h0 T158.vm h159 := CC7.trans (CHr.keep Kp159 (sfS sf168_b102 (sfS sf171_b2_123 sf0)) CC7.1)
  have N159 : Fr n0 L159 := by rw [l159]; exact Fr.app N123 N159q
  have c174_OL : Old Z n0 h159 := c166_OL.keep Kp159 (allS ge106_b102 (allS ge172_b2_123 all0))
  obtain ⟨cq173, kq173, q173a, q173b, q173c⟩ := isOf hZ158 e159 p159_E_o
  obtain ⟨_, _, ⟨T173, L173, k173, n173⟩, -, X173, ⟨Lc173, hQ173, l173, y173, z173⟩, st173⟩ := X159.virtualBack hx (y := y25_) (z := y25_) hown158 (mvT hZ158 (wi hw 119 rfl)) (mvT hZ158 (wi hw 120 rfl)) (notFace_of_selects (args := #[]) (mvT hZ158 (wi hw 122 rfl))) (mvT hZ158 (wi hw 122 rfl)) (mvT hZ158 (wi hw 121 rfl)) (by decide) (backOf (W := 2) (rm_toString l Z a0 hw [] b102 b2_159 k2_159 (ncap (ncap (ncap 16 (0 + 16)) ((0 + 16) + z)) (((0 + 16) + z) + 1)) (((0 + 16) + z) + 1) _ cs h159 n0 (by omega) p159_E_o p159_F_value_o p159_F_coder_o p159_F_count_o p159_V_b2 (by rw [List.length_append, List.length_append, hz]; rfl) ((own_caps hz3).2.2.2) c174_OL S_COMPACT_STRINGS hcs) hZ158 (wi hw 123 rfl) (wi hw 30 rfl) (by decide) (by decide)) q173a q173c (g := (mkF mM 25 #[.val (.ref t)] [(.ref b102), (.ref b101), (.ref b101)])) rfl (by rw [hml]; rfl) (Steps.refl _) (argsL := []) (rest := [(.ref b101), (.ref b101)]) (lenOf pd_17 rfl) rfl (by show 2 * 0 + _ ≤ _; exact Nat.le_of_eq rfl) (hb hby dp15_2_25) (fun _ _ => ⟨rfl, e159, ble rfl, ble rfl⟩)
  dsimp only [Pt.U, Pt.locs, Pt.cells, Pt.slots] at X173 l173 y173 z173 st173 hQ173
  subst y173 z173
  obtain ⟨h173, e173⟩ : ∃ z, T173.heap = z := ⟨_, rfl⟩
  rw [e173] at hQ173
  obtain ⟨t_173, b2_173, k2_173, rfl, N173q, Kp173, p173_E_t, p173_F_value_t, p173_F_coder_t, p173_V_b2, p173_gh_t, p173_gh_b2⟩ := hQ173
  have Sz9 : h159.size ≤ h173.size := Kp173.1
  have CC9 : CHr Z consts_1 sS.vm h0 T158.vm h173 := CC8.trans (CHr.keep Kp173 sf0 CC8.1)
  have N173 : Fr n0 L173 := by rw [l173]; exact Fr.app N159 N173q
  have c176_E_b101 : Exa Z h102 b101 "com/example/dipper/dipper/store/NotFoundException" := Exa.ext E102 A101
  have c177_E_b101 : Exa Z h103 b101 "com/example/dipper/dipper/store/NotFoundException" := c176_E_b101.keep Kp103
  have c178_E_b101 : Exa Z h108 b101 "com/example/dipper/dipper/store/NotFoundException" := Exa.ext E108 c177_E_b101
  have c179_E_b101 : Exa Z h109 b101 "com/example/dipper/dipper/store/NotFoundException" := c178_E_b101.keep Kp109
  have c180_E_b101 : Exa Z h123 b101 "com/example/dipper/dipper/store/NotFoundException" := c179_E_b101.keep Kp123
  have c181_E_b101 : Exa Z h158 b101 "com/example/dipper/dipper/store/NotFoundException" := Exa.ext E158 c180_E_b101
  have c182_E_b101 : Exa Z h159 b101 "com/example/dipper/dipper/store/NotFoundException" := c181_E_b101.keep Kp159
  have c183_E_b101 : Exa Z h173 b101 "com/example/dipper/dipper/store/NotFoundException" := c182_E_b101.keep Kp173
  have c184_U_b101 : Unt h102 b101 := Unt.ext E102 B101
  have lt_b101 : @LT.lt Nat _ b101 h101.size := A101.lt
  have ne_b101_b102_185 : b101 ≠ b102 := (by omega : @Ne Nat b101 b102)
  have c186_U_b101 : Unt h103 b101 := Unt.keep Kp103 (ninS ne_b101_b102_185 nin0) c184_U_b101
  have c187_U_b101 : Unt h108 b101 := Unt.ext E108 c186_U_b101
  have ne_b101_b_103_188 : b101 ≠ b_103 := (by omega : @Ne Nat b101 b_103)
  have c189_U_b101 : Unt h109 b101 := Unt.keep Kp109 (ninS ne_b101_b102_185 (ninS ne_b101_b_103_188 nin0)) c187_U_b101
  have ne_b101_b2_109_190 : b101 ≠ b2_109 := (by omega : @Ne Nat b101 b2_109)
  have c191_U_b101 : Unt h123 b101 := Unt.keep Kp123 (ninS ne_b101_b102_185 (ninS ne_b101_b2_109_190 nin0)) c189_U_b101
  have c192_U_b101 : Unt h158 b101 := Unt.ext E158 c191_U_b101
  have ne_b101_b2_123_193 : b101 ≠ b2_123 := (by omega : @Ne Nat b101 b2_123)
  have c194_U_b101 : Unt h159 b101 := Unt.keep Kp159 (ninS ne_b101_b102_185 (ninS ne_b101_b2_123_193 nin0)) c192_U_b101
  have c195_U_b101 : Unt h173 b101 := Unt.keep Kp173 nin0 c194_U_b101
  have c196_F_cause_b101 : Fld Z h102 b101 "java/lang/Throwable" "cause" "Ljava/lang/Throwable;" .null := Fld.ext E102 F101_cause
  have c197_F_cause_b101 : Fld Z h103 b101 "java/lang/Throwable" "cause" "Ljava/lang/Throwable;" .null := c196_F_cause_b101.keep Kp103 (ninS ne_b101_b102_185 nin0)
  have c198_F_cause_b101 : Fld Z h108 b101 "java/lang/Throwable" "cause" "Ljava/lang/Throwable;" .null := Fld.ext E108 c197_F_cause_b101
  have c199_F_cause_b101 : Fld Z h109 b101 "java/lang/Throwable" "cause" "Ljava/lang/Throwable;" .null := c198_F_cause_b101.keep Kp109 (ninS ne_b101_b102_185 (ninS ne_b101_b_103_188 nin0))
  have c200_F_cause_b101 : Fld Z h123 b101 "java/lang/Throwable" "cause" "Ljava/lang/Throwable;" .null := c199_F_cause_b101.keep Kp123 (ninS ne_b101_b102_185 (ninS ne_b101_b2_109_190 nin0))
  have c201_F_cause_b101 : Fld Z h158 b101 "java/lang/Throwable" "cause" "Ljava/lang/Throwable;" .null := Fld.ext E158 c200_F_cause_b101
  have c202_F_cause_b101 : Fld Z h159 b101 "java/lang/Throwable" "cause" "Ljava/lang/Throwable;" .null := c201_F_cause_b101.keep Kp159 (ninS ne_b101_b102_185 (ninS ne_b101_b2_123_193 nin0))
  have c203_F_cause_b101 : Fld Z h173 b101 "java/lang/Throwable" "cause" "Ljava/lang/Throwable;" .null := c202_F_cause_b101.keep Kp173 nin0
  have c204_F_stackTrace_b101 : Fld Z h102 b101 "java/lang/Throwable" "stackTrace" "[Ljava/lang/StackTraceElement;" .null := Fld.ext E102 F101_stackTrace
  have c205_F_stackTrace_b101 : Fld Z h103 b101 "java/lang/Throwable" "stackTrace" "[Ljava/lang/StackTraceElement;" .null := c204_F_stackTrace_b101.keep Kp103 (ninS ne_b101_b102_185 nin0)
  have c206_F_stackTrace_b101 : Fld Z h108 b101 "java/lang/Throwable" "stackTrace" "[Ljava/lang/StackTraceElement;" .null := Fld.ext E108 c205_F_stackTrace_b101
  have c207_F_stackTrace_b101 : Fld Z h109 b101 "java/lang/Throwable" "stackTrace" "[Ljava/lang/StackTraceElement;" .null := c206_F_stackTrace_b101.keep Kp109 (ninS ne_b101_b102_185 (ninS ne_b101_b_103_188 nin0))
  have c208_F_stackTrace_b101 : Fld Z h123 b101 "java/lang/Throwable" "stackTrace" "[Ljava/lang/StackTraceElement;" .null := c207_F_stackTrace_b101.keep Kp123 (ninS ne_b101_b102_185 (ninS ne_b101_b2_109_190 nin0))
  have c209_F_stackTrace_b101 : Fld Z h158 b101 "java/lang/Throwable" "stackTrace" "[Ljava/lang/StackTraceElement;" .null := Fld.ext E158 c208_F_stackTrace_b101
  have c210_F_stackTrace_b101 : Fld Z h159 b101 "java/lang/Throwable" "stackTrace" "[Ljava/lang/StackTraceElement;" .null := c209_F_stackTrace_b101.keep Kp159 (ninS ne_b101_b102_185 (ninS ne_b101_b2_123_193 nin0))
  have c211_F_stackTrace_b101 : Fld Z h173 b101 "java/lang/Throwable" "stackTrace" "[Ljava/lang/StackTraceElement;" .null := c210_F_stackTrace_b101.keep Kp173 nin0
  have c212_F_suppressedExceptions_b : Fld Z h102 b101 "java/lang/Throwable" "suppressedExceptions" "Ljava/util/List;" .null := Fld.ext E102 F101_suppressedExceptions
  have c213_F_suppressedExceptions_b : Fld Z h103 b101 "java/lang/Throwable" "suppressedExceptions" "Ljava/util/List;" .null := c212_F_suppressedExceptions_b.keep Kp103 (ninS ne_b101_b102_185 nin0)
  have c214_F_suppressedExceptions_b : Fld Z h108 b101 "java/lang/Throwable" "suppressedExceptions" "Ljava/util/List;" .null := Fld.ext E108 c213_F_suppressedExceptions_b
  have c215_F_suppressedExceptions_b : Fld Z h109 b101 "java/lang/Throwable" "suppressedExceptions" "Ljava/util/List;" .null := c214_F_suppressedExceptions_b.keep Kp109 (ninS ne_b101_b102_185 (ninS ne_b101_b_103_188 nin0))
  have c216_F_suppressedExceptions_b : Fld Z h123 b101 "java/lang/Throwable" "suppressedExceptions" "Ljava/util/List;" .null := c215_F_suppressedExceptions_b.keep Kp123 (ninS ne_b101_b102_185 (ninS ne_b101_b2_109_190 nin0))
  have c217_F_suppressedExceptions_b : Fld Z h158 b101 "java/lang/Throwable" "suppressedExceptions" "Ljava/util/List;" .null := Fld.ext E158 c216_F_suppressedExceptions_b
  have c218_F_suppressedExceptions_b : Fld Z h159 b101 "java/lang/Throwable" "suppressedExceptions" "Ljava/util/List;" .null := c217_F_suppressedExceptions_b.keep Kp159 (ninS ne_b101_b102_185 (ninS ne_b101_b2_123_193 nin0))
  have c219_F_suppressedExceptions_b : Fld Z h173 b101 "java/lang/Throwable" "suppressedExceptions" "Ljava/util/List;" .null := c218_F_suppressedExceptions_b.keep Kp173 nin0
  have c220_F_detailMessage_b101 : Fld Z h102 b101 "java/lang/Throwable" "detailMessage" "Ljava/lang/String;" .null := Fld.ext E102 F101_detailMessage
  have c221_F_detailMessage_b101 : Fld Z h103 b101 "java/lang/Throwable" "detailMessage" "Ljava/lang/String;" .null := c220_F_detailMessage_b101.keep Kp103 (ninS ne_b101_b102_185 nin0)
  have c222_F_detailMessage_b101 : Fld Z h108 b101 "java/lang/Throwable" "detailMessage" "Ljava/lang/String;" .null := Fld.ext E108 c221_F_detailMessage_b101
  have c223_F_detailMessage_b101 : Fld Z h109 b101 "java/lang/Throwable" "detailMessage" "Ljava/lang/String;" .null := c222_F_detailMessage_b101.keep Kp109 (ninS ne_b101_b102_185 (ninS ne_b101_b_103_188 nin0))
  have c224_F_detailMessage_b101 : Fld Z h123 b101 "java/lang/Throwable" "detailMessage" "Ljava/lang/String;" .null := c223_F_detailMessage_b101.keep Kp123 (ninS ne_b101_b102_185 (ninS ne_b101_b2_109_190 nin0))
  have c225_F_detailMessage_b101 : Fld Z h158 b101 "java/lang/Throwable" "detailMessage" "Ljava/lang/String;" .null := Fld.ext E158 c224_F_detailMessage_b101
  have c226_F_detailMessage_b101 : Fld Z h159 b101 "java/lang/Throwable" "detailMessage" "Ljava/lang/String;" .null := c225_F_detailMessage_b101.keep Kp159 (ninS ne_b101_b102_185 (ninS ne_b101_b2_123_193 nin0))
  have c227_F_detailMessage_b101 : Fld Z h173 b101 "java/lang/Throwable" "detailMessage" "Ljava/lang/String;" .null := c226_F_detailMessage_b101.keep Kp173 nin0
  have c228_F_backtrace_b101 : Fld Z h102 b101 "java/lang/Throwable" "backtrace" "Ljava/lang/Object;" .null := Fld.ext E102 F101_backtrace
  have c229_F_backtrace_b101 : Fld Z h103 b101 "java/lang/Throwable" "backtrace" "Ljava/lang/Object;" .null := c228_F_backtrace_b101.keep Kp103 (ninS ne_b101_b102_185 nin0)
  have c230_F_backtrace_b101 : Fld Z h108 b101 "java/lang/Throwable" "backtrace" "Ljava/lang/Object;" .null := Fld.ext E108 c229_F_backtrace_b101
  have c231_F_backtrace_b101 : Fld Z h109 b101 "java/lang/Throwable" "backtrace" "Ljava/lang/Object;" .null := c230_F_backtrace_b101.keep Kp109 (ninS ne_b101_b102_185 (ninS ne_b101_b_103_188 nin0))
  have c232_F_backtrace_b101 : Fld Z h123 b101 "java/lang/Throwable" "backtrace" "Ljava/lang/Object;" .null := c231_F_backtrace_b101.keep Kp123 (ninS ne_b101_b102_185 (ninS ne_b101_b2_109_190 nin0))
  have c233_F_backtrace_b101 : Fld Z h158 b101 "java/lang/Throwable" "backtrace" "Ljava/lang/Object;" .null := Fld.ext E158 c232_F_backtrace_b101
  have c234_F_backtrace_b101 : Fld Z h159 b101 "java/lang/Throwable" "backtrace" "Ljava/lang/Object;" .null := c233_F_backtrace_b101.keep Kp159 (ninS ne_b101_b102_185 (ninS ne_b101_b2_123_193 nin0))
  have c235_F_backtrace_b101 : Fld Z h173 b101 "java/lang/Throwable" "backtrace" "Ljava/lang/Object;" .null := c234_F_backtrace_b101.keep Kp173 nin0
  have c236_OL : Old Z n0 h173 := c174_OL.keep Kp173 all0
  have c237_TH : ThS Z h101 := ThS.ext E101 TH
  have c238_TH : ThS Z h102 := ThS.ext E102 c237_TH
  have c239_TH : ThS Z h103 := ThS.keep Kp103 (nsS (Exa.nostat A102) ns0) c238_TH
  have c240_TH : ThS Z h108 := ThS.ext E108 c239_TH
  have c241_TH : ThS Z h109 := ThS.keep Kp109 (nsS (Exa.nostat c110_E_b102) (nsS (Arv.nostat c114_V_b_103) ns0)) c240_TH
  have c242_TH : ThS Z h123 := ThS.keep Kp123 (nsS (Exa.nostat p109_E_o) (nsS (Arv.nostat p109_V_b2) ns0)) c241_TH
  have c243_TH : ThS Z h158 := ThS.ext E158 c242_TH
  have c244_TH : ThS Z h159 := ThS.keep Kp159 (nsS (Exa.nostat c160_E_b102) (nsS (Arv.nostat c164_V_b2_123) ns0)) c243_TH
  have c245_TH : ThS Z h173 := ThS.keep Kp173 ns0 c244_TH
  have ge246_b101 : @LE.le Nat _ n0 b101 := by omega
  obtain ⟨_, _, ⟨T175, L175, k175, n175⟩, -, X175, ⟨Lc175, hQ175, l175, y175, z175⟩, st175⟩ := X173.specialBack hx (y := y43_) rfl hown158 (mvT hZ158 (wi hw 158 rfl)) (mvT hZ158 (wi hw 159 rfl)) (mvT hZ158 (wi hw 160 rfl)) (by decide) (backOfKL (W := 1) (rm_nfe l Z a0 hw [] b101 t_173 ua sa .null .null .null .null h173 n0 (by omega) c183_E_b101 c195_U_b101 c203_F_cause_b101 c211_F_stackTrace_b101 c219_F_suppressedExceptions_b c227_F_detailMessage_b101 c235_F_backtrace_b101 ge246_b101 c236_OL c245_TH S_UNASSIGNED_STACK S_SUPPRESSED_SENTINEL hl) hZ158 (wi hw 160 rfl) (wi hw 24 rfl) (by decide) (by decide) (Vm.MethodsKnown.alikeC hS158.1.alike hTK) (Vm.FramesKnown.alikeC hS158.1.alike hBelow)) (g := (mkF mM 28 #[.val (.ref t)] [(.ref t_173), (.ref b101), (.ref b101)])) rfl (by rw [hml]; rfl) (Steps.refl _) (a := b101) (argsL := [(.ref t_173)]) (rest := [(.ref b101)]) (lenOf pd_10 rfl) rfl (by show 2 * 0 + _ ≤ _; exact Nat.le_of_eq rfl) (hb hby dp15_2_28) (fun _ _ => ⟨rfl, e173, ble rfl, ble rfl⟩)
  dsimp only [Pt.U, Pt.locs, Pt.cells, Pt.slots] at X175 l175 y175 z175 st175 hQ175
  subst y175 z175
  obtain ⟨h175, e175⟩ : ∃ z, T175.heap = z := ⟨_, rfl⟩
  rw [e175] at hQ175
  obtain ⟨rfl, N175q, Kp175, p175_E_o, p175_F_detailMessage_o⟩ := hQ175
  have Sz10 : h173.size ≤ h175.size := Kp175.1
  have sf247_b101 : Safe Z consts_1 T158.vm h173 b101 := Safe.exa (show Z.Warmed39 T158.vm from hZ158).alike c183_E_b101 (by decide) (by decide)
  have CC10 : CHr Z consts_1 sS.vm h0 T158.vm h175 := CC9.trans (CHr.keep Kp175 (sfS sf247_b101 sf0) CC9.1)
  have N175 : Fr n0 L175 := by rw [l175]; exact Fr.app N173 N175q
  have lt_t_173 : @LT.lt Nat _ t_173 h173.size := p173_E_t.lt
  have ne_t_173_b101_248 : t_173 ≠ b101 := (by omega : @Ne Nat t_173 b101)
  have c249_F_value_t_173 : Fld Z h175 t_173 "java/lang/String" "value" "[B" (.ref b2_173) := p173_F_value_t.keep Kp175 (ninS ne_t_173_b101_248 nin0)
  have lt_b2_173 : @LT.lt Nat _ b2_173 h173.size := p173_V_b2.lt
  have ne_b2_173_b101_250 : b2_173 ≠ b101 := (by omega : @Ne Nat b2_173 b101)
  have c251_V_b2_173 : Arv Z h175 b2_173 k2_173 .byte (iN (((0 + 16) + z) + 1)) ((([] ++ [(.int (78 : Int32)), (.int (111 : Int32)), (.int (32 : Int32)), (.int (114 : Int32)), (.int (111 : Int32)), (.int (111 : Int32)), (.int (109 : Int32)), (.int (32 : Int32)), (.int (104 : Int32)), (.int (97 : Int32)), (.int (115 : Int32)), (.int (32 : Int32)), (.int (105 : Int32)), (.int (100 : Int32)), (.int (32 : Int32)), (.int (39 : Int32))]) ++ ys) ++ [(.int (39 : Int32))]) (.int (0 : Int32)) := p173_V_b2.keep Kp175 (ninS ne_b2_173_b101_250 nin0)
  have c252_E_t_173 : Exa Z h175 t_173 "java/lang/String" := p173_E_t.keep Kp175
  have c253_F_coder_t_173 : Fld Z h175 t_173 "java/lang/String" "coder" "B" (.int (0 : Int32)) := p173_F_coder_t.keep Kp175 (ninS ne_t_173_b101_248 nin0)
  have K254 : Keep h0 h101 [] := (Keep.refl h0 []).ext E101
  have K255 : Keep h0 h102 [] := K254.ext E102
  have K256 : Keep h0 h103 [] := K255.trans Kp103 (allS (Or.inr (by omega : @LE.le Nat _ h0.size b102)) all0)
  have K257 : Keep h0 h108 [] := K256.ext E108
  have K258 : Keep h0 h109 [] := K257.trans Kp109 (allS (Or.inr (by omega : @LE.le Nat _ h0.size b102)) (allS (Or.inr (by omega : @LE.le Nat _ h0.size b_103)) all0))
  have K259 : Keep h0 h123 [] := K258.trans Kp123 (allS (Or.inr (by omega : @LE.le Nat _ h0.size b102)) (allS (Or.inr (by omega : @LE.le Nat _ h0.size b2_109)) all0))
  have K260 : Keep h0 h158 [] := K259.ext E158
  have K261 : Keep h0 h159 [] := K260.trans Kp159 (allS (Or.inr (by omega : @LE.le Nat _ h0.size b102)) (allS (Or.inr (by omega : @LE.le Nat _ h0.size b2_123)) all0))
  have K262 : Keep h0 h173 [] := K261.trans Kp173 all0
  have K263 : Keep h0 h175 [] := K262.trans Kp175 (allS (Or.inr (by omega : @LE.le Nat _ h0.size b101)) all0)
  obtain ⟨fs, hr, hrun, hended, hE⟩ := Stand.leaveW (s := sS) X175 hS158 (by rw [e175]; omega) (v := some (.ref b101)) (fun h => by rw [Bd.returns] at h; cases h)
  refine ⟨_, _, castTop (ef_room_some mM t tb tk z ys ua sa cs) ?_, hrun, hended, _, _, rfl, ?_, ?_, hE.1, hE.2.1, hE.2.2.1, hE.2.2.2.mono (by decide) (by decide)⟩
  · show SS pP eE bS s₁ (mkF mM 0 #[.val (.ref t)] []) _
    refine st101 _ ?_
    show SS pP eE bS T101 (mkF mM 3 #[.val (.ref t)] [(.ref b101)]) _
    refine XS.dup X101.here hx rfl (hb hby dp15_2_3) rfl rfl ?_
    show SS pP eE bS T101 (mkF mM 4 #[.val (.ref t)] [(.ref b101), (.ref b101)]) _
    refine st102 _ ?_
    show SS pP eE bS T102 (mkF mM 7 #[.val (.ref t)] [(.ref b102), (.ref b101), (.ref b101)]) _
    refine XS.dup X102.here hx rfl (hb hby dp15_2_7) rfl rfl ?_
    show SS pP eE bS T102 (mkF mM 8 #[.val (.ref t)] [(.ref b102), (.ref b102), (.ref b101), (.ref b101)]) _
    refine st103.trans ?_
    show SS pP eE bS T103 (mkF mM 11 #[.val (.ref t)] [(.ref b102), (.ref b101), (.ref b101)]) _
    refine st108 _ ?_
    show SS pP eE bS T108 (mkF mM 13 #[.val (.ref t)] [(.ref b108), (.ref b102), (.ref b101), (.ref b101)]) _
    refine st109.trans ?_
    show SS pP eE bS T109 (mkF mM 16 #[.val (.ref t)] [(.ref b102), (.ref b101), (.ref b101)]) _
    refine XS.aloadN X109.here hx rfl (hb hby dp15_2_16) rfl rfl ?_
    show SS pP eE bS T109 (mkF mM 17 #[.val (.ref t)] [(.ref t), (.ref b102), (.ref b101), (.ref b101)]) _
    refine st123.trans ?_
    show SS pP eE bS T123 (mkF mM 20 #[.val (.ref t)] [(.ref b102), (.ref b101), (.ref b101)]) _
    refine st158 _ ?_
    show SS pP eE bS T158 (mkF mM 22 #[.val (.ref t)] [(.ref b158), (.ref b102), (.ref b101), (.ref b101)]) _
    refine st159.trans ?_
    show SS pP eE bS T159 (mkF mM 25 #[.val (.ref t)] [(.ref b102), (.ref b101), (.ref b101)]) _
    refine st173.trans ?_
    show SS pP eE bS T173 (mkF mM 28 #[.val (.ref t)] [(.ref t_173), (.ref b101), (.ref b101)]) _
    refine st175.trans ?_
    show SS pP eE bS T175 (mkF mM 31 #[.val (.ref t)] [(.ref b101)]) _
    jvm_step X175.here [X175.here.top, hx, (hb hby dp15_2_31), X175.method', Bd.returns, Value.isRef, FieldType.isReference]
    first | (intro acts; rw [hr _ acts rfl rfl rfl]) | rw [hr _ _ rfl rfl rfl]
    exact Steps.refl _
  · show Q_room_some Z t tb tk z ys ua sa cs h0 n0 _ T175.heap _
    rw [e175]
    exact ⟨b101, t_173, b2_173, k2_173, rfl, N175, K263, p175_E_o, p175_F_detailMessage_o, c252_E_t_173, c249_F_value_t_173, c253_F_coder_t_173, c251_V_b2_173⟩
  · show CHr Z consts_1 sS.vm sS.heap T175.vm T175.heap
    rw [hh, e175]
    exact CC10.trans (CHv.at X175 hZ158 (own_EW hw) CC10.1)
abbrev r7_13_3370_105 : Room := { frames := 7, cells := 13, slots := 3370, locals := 105 }
def Q_room_null (Z : State) (ua : Addr) (sa : Addr) (cs : Int32) (h0 : Heap) (n0 : Nat) (xv : Option Value) (xh : Heap) (xL : List Loc) : Prop := ∃ x : Addr, ∃ m : Addr, ∃ mb : Addr, ∃ mk : ClassId, xv = some (.ref x) ∧ Fr n0 xL ∧ Keep h0 xh [] ∧ Exa Z xh x "com/example/dipper/dipper/store/NotFoundException" ∧ Fld Z xh x "java/lang/Throwable" "detailMessage" "Ljava/lang/String;" (.ref m) ∧ Exa Z xh m "java/lang/String" ∧ Fld Z xh m "java/lang/String" "value" "[B" (.ref mb) ∧ Fld Z xh m "java/lang/String" "coder" "B" (.int (0 : Int32)) ∧ Arv Z xh mb mk .byte (iN (((0 + 16) + 4) + 1)) (((((([] ++ [(.int (78 : Int32)), (.int (111 : Int32)), (.int (32 : Int32)), (.int (114 : Int32)), (.int (111 : Int32)), (.int (111 : Int32)), (.int (109 : Int32)), (.int (32 : Int32)), (.int (104 : Int32)), (.int (97 : Int32)), (.int (115 : Int32)), (.int (32 : Int32)), (.int (105 : Int32)), (.int (100 : Int32)), (.int (32 : Int32)), (.int (39 : Int32))]) ++ [(.int (110 : Int32))]) ++ [(.int (117 : Int32))]) ++ [(.int (108 : Int32))]) ++ [(.int (108 : Int32))]) ++ [(.int (39 : Int32))]) (.int (0 : Int32))
theorem ef_room_null (mM : MethodId) (ua : Addr) (sa : Addr) (cs : Int32) : entryFrame mM #[.null] 1 = mkF mM 0 #[.val .null] [] := by
  first | (simp [entryFrame, mkF, argsToLocals, Value.category]; done) | rfl
theorem rm_room_null (l : Launch) (Z : State) (a0 : Array Value) (hw : HW a0 Z) (ws : List Jvm.Cond) (ua : Addr) (sa : Addr) (cs : Int32) (h0 : Heap) (n0 : Nat) (Z0 : n0 ≤ h0.size) (OL : Old Z n0 h0) (TH : ThS Z h0) (S_UNASSIGNED_STACK : Sta Z Z.heap "java/lang/Throwable" "UNASSIGNED_STACK" "[Ljava/lang/StackTraceElement;" (.ref ua)) (S_SUPPRESSED_SENTINEL : Sta Z Z.heap "java/lang/Throwable" "SUPPRESSED_SENTINEL" "Ljava/util/List;" (.ref sa)) (hl : l.stackTraces = true) (S_COMPACT_STRINGS : Sta Z Z.heap "java/lang/String" "COMPACT_STRINGS" "Z" (.int cs)) (hcs : ¬ (cs = (0 : Int32))) :
    MetFree l y46_ (head1 (Jvm.Cond.code y46_ prog_15_method_2_code 1 (some (.object "com/example/dipper/dipper/store/NotFoundException")) :: ws) r7_13_3370_105) (fun xa xU => xa = #[.null] ∧ Z.Warmed39 xU.vm ∧ xU.heap = h0 ∧ CHv Z consts_1 xU.vm h0 ∧ ∀ x ∈ ([] : List Addr), Safe Z consts_1 xU.vm h0 x) (fun _ _ bl s _ => s.vm.MethodsKnown ∧ s.vm.FramesKnown bl) (fun _ xU xo xU' => ∃ xv xL, xo = .returned xv ∧ Q_room_null Z ua sa cs h0 n0 xv xU'.heap xL ∧ CHr Z consts_1 xU.vm xU.heap xU'.vm xU'.heap ∧ ReturnedEndW xU xo xU' xL r7_13_3370_105.cells r7_13_3370_105.slots) := by
  refine MetFree.of_bodySF (plainFor_of_name pn_com_example_dipper_dipper_store_NotFoundException) hisR ?_
  intro pP eE sS mM argS bS methS cC s₁ Bd hml0 hP hK
  obtain ⟨rfl, hZ, hh, hCH, hSf⟩ := hP
  have hx := Bd.exec
  have hby := Bd.bytes
  have hml : cC.maxLocals = 1 := hml0
  have hown : sS.vm.findClass "com/example/dipper/dipper/store/NotFoundException" = some mM.cls := findClass_of_methodNamed Bd.named
  have hnm := (name_of_methodNamed Bd.named Bd.method).1
  have X0 : Stand pP l eE r7_13_3370_105 (sS.setVm sS.vm) mM #[.null] bS methS cC s₁ [] 0 0 := Stand.of_body Bd
  have e0 : s₁.heap = h0 := by rw [← hh, Bd.state]; rfl
  have N0 := Fr.nil n0
  obtain ⟨hTK, hBelow⟩ := hK
  have hZ0 : Z.Warmed39 (sS.setVm sS.vm).vm := hZ
  have hown0 : (sS.setVm sS.vm).vm.findClass "com/example/dipper/dipper/store/NotFoundException" = some mM.cls := hown
  have hS0 : sS.Since sS.vm 0 := (State.WarmedH.refl sS).since 0
  have CC0 : CHr Z consts_1 sS.vm h0 sS.vm h0 := CHr.refl hCH
  obtain ⟨T101, h101, X101, e101, E101, A101, D101, B101, st101⟩ := newO X0 hx hZ0 hown0 (wi hw 26 rfl) (wi hw 27 rfl) (wi hw 24 rfl) e0 (g := (mkF mM 0 #[.val .null] [])) rfl (hb hby dp15_2_0) (by decide) (by decide)
  obtain ⟨b101, g101⟩ : ∃ z : Nat, z = h0.size := ⟨_, rfl⟩
  rw [← g101] at A101 D101 B101 st101
  have Sz1 : h0.size ≤ h101.size := E101.1
  have CC1 : CHr Z consts_1 sS.vm h0 sS.vm h101 := CC0.trans (CHr.ext E101 CC0.1)
  have F101_cause : Fld Z h101 b101 "java/lang/Throwable" "cause" "Ljava/lang/Throwable;" .null := D101 (Or.inl (wi hw 180 rfl)) (ty := (.object "java/lang/Throwable")) (by decide)
  have F101_stackTrace : Fld Z h101 b101 "java/lang/Throwable" "stackTrace" "[Ljava/lang/StackTraceElement;" .null := D101 (Or.inl (wi hw 183 rfl)) (ty := (.array (.object "java/lang/StackTraceElement"))) (by decide)
  have F101_suppressedExceptions : Fld Z h101 b101 "java/lang/Throwable" "suppressedExceptions" "Ljava/util/List;" .null := D101 (Or.inl (wi hw 186 rfl)) (ty := (.object "java/util/List")) (by decide)
  have F101_detailMessage : Fld Z h101 b101 "java/lang/Throwable" "detailMessage" "Ljava/lang/String;" .null := D101 (Or.inl (wi hw 210 rfl)) (ty := (.object "java/lang/String")) (by decide)
  have F101_backtrace : Fld Z h101 b101 "java/lang/Throwable" "backtrace" "Ljava/lang/Object;" .null := D101 (Or.inl (wi hw 211 rfl)) (ty := (.object "java/lang/Object")) (by decide)
  have F101_depth : Fld Z h101 b101 "java/lang/Throwable" "depth" "I" (.int (0 : Int32)) := D101 (Or.inl (wi hw 212 rfl)) (ty := .int) (by decide)
  obtain ⟨T102, h102, X102, e102, E102, A102, D102, B102, st102⟩ := newO X101 hx hZ0 hown0 (wi hw 28 rfl) (wi hw 29 rfl) (wi hw 30 rfl) e101 (g := (mkF mM 4 #[.val .null] [(.ref b101), (.ref b101)])) rfl (hb hby dp15_2_4) (by decide) (by decide)
  obtain ⟨b102, g102⟩ : ∃ z : Nat, z = h101.size := ⟨_, rfl⟩
  rw [← g102] at A102 D102 B102 st102
  have Sz2 : h101.size ≤ h102.size := E102.1
  have CC2 : CHr Z consts_1 sS.vm h0 sS.vm h102 := CC1.trans (CHr.ext E102 CC1.1)
  have F102_value : Fld Z h102 b102 "java/lang/AbstractStringBuilder" "value" "[B" .null := D102 (Or.inl (wi hw 43 rfl)) (ty := (.array .byte)) (by decide)
  have F102_coder : Fld Z h102 b102 "java/lang/AbstractStringBuilder" "coder" "B" (.int (0 : Int32)) := D102 (Or.inl (wi hw 45 rfl)) (ty := .byte) (by decide)
  have F102_count : Fld Z h102 b102 "java/lang/AbstractStringBuilder" "count" "I" (.int (0 : Int32)) := D102 (Or.inl (wi hw 69 rfl)) (ty := .int) (by decide)
  have c104_OL : Old Z n0 h101 := OL.ext E101
  have c105_OL : Old Z n0 h102 := c104_OL.ext E102
  have ge106_b102 : @LE.le Nat _ n0 b102 := by omega
  obtain ⟨_, _, ⟨T103, L103, k103, n103⟩, -, X103, ⟨Lc103, hQ103, l103, y103, z103⟩, st103⟩ := X102.specialBack hx (y := y3_) rfl hown0 (mvT hZ0 (wi hw 31 rfl)) (mvT hZ0 (wi hw 32 rfl)) (mvT hZ0 (wi hw 33 rfl)) (by decide) (backOf (W := 3) (rm_sb_init l Z a0 hw [] b102 .null (.int (0 : Int32)) (.int (0 : Int32)) cs h102 n0 (by omega) A102 F102_value F102_coder F102_count ge106_b102 c105_OL S_COMPACT_STRINGS hcs) hZ0 (wi hw 33 rfl) (wi hw 30 rfl) (by decide) (by decide)) (g := (mkF mM 8 #[.val .null] [(.ref b102), (.ref b102), (.ref b101), (.ref b101)])) rfl (by rw [hml]; rfl) (Steps.refl _) (a := b102) (argsL := []) (rest := [(.ref b102), (.ref b101), (.ref b101)]) (lenOf pd_2 rfl) rfl (by show 2 * 0 + _ ≤ _; exact Nat.le_of_eq rfl) (hb hby dp15_2_8) (fun _ _ => ⟨rfl, e102, ble rfl, ble rfl⟩)
  dsimp only [Pt.U, Pt.locs, Pt.cells, Pt.slots] at X103 l103 y103 z103 st103 hQ103
  subst y103 z103
  obtain ⟨h103, e103⟩ : ∃ z, T103.heap = z := ⟨_, rfl⟩
  rw [e103] at hQ103
  obtain ⟨b_103, k_103, rfl, N103q, Kp103, p103_E_o, p103_F_value_o, p103_F_coder_o, p103_F_count_o, p103_V_b, p103_gh_b⟩ := hQ103
  have Sz3 : h102.size ≤ h103.size := Kp103.1
  have sf107_b102 : Safe Z consts_1 sS.vm h102 b102 := Safe.exa (show Z.Warmed39 sS.vm from hZ0).alike A102 (by decide) (by decide)
  have CC3 : CHr Z consts_1 sS.vm h0 sS.vm h103 := CC2.trans (CHr.keep Kp103 (sfS sf107_b102 sf0) CC2.1)
  have N103 : Fr n0 L103 := by rw [l103]; exact Fr.app N0 N103q
  obtain ⟨b108, T108, h108, kk108, d108, q108, X108, e108, E108, hS108, hk108, hZ108, hown108, A108, Fc108, Fv108, V108, ltb108, ltd108, Ch108, -, hne108, st108⟩ := ldcCH X103 hx hZ0 hown0 (wi hw 46 rfl) (own_wS hw) e103 hS0 (by omega) (own_EW hw) (List.mem_of_getElem? (i := 0) rfl) CC3.1 (vs := [(.int (78 : Int32)), (.int (111 : Int32)), (.int (32 : Int32)), (.int (114 : Int32)), (.int (111 : Int32)), (.int (111 : Int32)), (.int (109 : Int32)), (.int (32 : Int32)), (.int (104 : Int32)), (.int (97 : Int32)), (.int (115 : Int32)), (.int (32 : Int32)), (.int (105 : Int32)), (.int (100 : Int32)), (.int (32 : Int32)), (.int (39 : Int32))]) (z := (iN 16)) (own_txt0) (by decide) (by rfl) (g := (mkF mM 11 #[.val .null] [(.ref b102), (.ref b101), (.ref b101)])) rfl (hb hby dp15_2_11) (n := 64) (by decide) (by decide) (by decide) (by decide)
  have Sz4 : h103.size ≤ h108.size := E108.1
  have CC4 : CHr Z consts_1 sS.vm h0 T108.vm h108 := CC3.trans Ch108
  have c110_E_b102 : Exa Z h108 b102 "java/lang/StringBuilder" := Exa.ext E108 p103_E_o
  have c111_F_value_b102 : Fld Z h108 b102 "java/lang/AbstractStringBuilder" "value" "[B" (.ref b_103) := Fld.ext E108 p103_F_value_o
  have c112_F_coder_b102 : Fld Z h108 b102 "java/lang/AbstractStringBuilder" "coder" "B" (.int (0 : Int32)) := Fld.ext E108 p103_F_coder_o
  have c113_F_count_b102 : Fld Z h108 b102 "java/lang/AbstractStringBuilder" "count" "I" (.int (0 : Int32)) := Fld.ext E108 p103_F_count_o
  have c114_V_b_103 : Arv Z h108 b_103 k_103 .byte (iN 16) [] (.int (0 : Int32)) := p103_V_b.ext E108
  have c115_OL : Old Z n0 h103 := c105_OL.keep Kp103 (allS ge106_b102 all0)
  have c116_OL : Old Z n0 h108 := c115_OL.ext E108
  have lt_b102 : @LT.lt Nat _ b102 h102.size := A102.lt
  have lt_b_103 : @LT.lt Nat _ b_103 h103.size := p103_V_b.lt
  have ne_b102_b_103_117 : b102 ≠ b_103 := (by omega : @Ne Nat b102 b_103)
  have sf118_b102 : Safe Z consts_1 T108.vm h108 b102 := Safe.exa (show Z.Warmed39 T108.vm from hZ108).alike c110_E_b102 (by decide) (by decide)
  have sf119_b_103 : Safe Z consts_1 sS.vm h102 b_103 := Safe.new (by omega)
  have sf120_b_103 : Safe Z consts_1 sS.vm h103 b_103 := Safe.keep Kp103 (sfS sf107_b102 sf0) CC2.1 sf119_b_103
  have sf121_b_103 : Safe Z consts_1 T108.vm h108 b_103 := CHr.safe Ch108 (by omega : @LT.lt Nat _ b_103 h103.size) sf120_b_103
  have ge122_b_103 : @LE.le Nat _ n0 b_103 := by omega
  obtain ⟨cq109, kq109, q109a, q109b, q109c⟩ := isOf hZ108 e108 c110_E_b102
  obtain ⟨_, _, ⟨T109, L109, k109, n109⟩, -, X109, ⟨Lc109, hQ109, l109, y109, z109⟩, st109⟩ := X108.virtualBack hx (y := y14_) (z := y14_) hown108 (mvT hZ108 (wi hw 47 rfl)) (mvT hZ108 (wi hw 48 rfl)) (notFace_of_selects (args := #[]) (mvT hZ108 (wi hw 50 rfl))) (mvT hZ108 (wi hw 50 rfl)) (mvT hZ108 (wi hw 49 rfl)) (by decide) (backOf (W := 2) (rm_sapp l Z a0 hw [] b102 b108 d108 q108 16 _ b_103 k_103 16 0 [] cs h108 n0 (by omega) c110_E_b102 c111_F_value_b102 c112_F_coder_b102 c113_F_count_b102 A108 Fv108 Fc108 V108 c114_V_b_103 ne_b102_b_103_117 (hne108 b102 sf118_b102).1 (hne108 b102 sf118_b102).2 (Ne.symm (hne108 b_103 sf121_b_103).1) (Ne.symm (hne108 b_103 sf121_b_103).2) ge106_b102 ge122_b_103 (by decide) (by decide) (by decide) c116_OL S_COMPACT_STRINGS hcs) hZ108 (wi hw 51 rfl) (wi hw 30 rfl) (by decide) (by decide)) q109a q109c (g := (mkF mM 13 #[.val .null] [(.ref b108), (.ref b102), (.ref b101), (.ref b101)])) rfl (by rw [hml]; rfl) (Steps.refl _) (argsL := [(.ref b108)]) (rest := [(.ref b101), (.ref b101)]) (lenOf pd_5 rfl) rfl (by show 2 * 0 + _ ≤ _; exact Nat.le_of_eq rfl) (hb hby dp15_2_13) (fun _ _ => ⟨rfl, e108, ble rfl, ble rfl⟩)
  dsimp only [Pt.U, Pt.locs, Pt.cells, Pt.slots] at X109 l109 y109 z109 st109 hQ109
  subst y109 z109
  obtain ⟨h109, e109⟩ : ∃ z, T109.heap = z := ⟨_, rfl⟩
  rw [e109] at hQ109
  obtain ⟨b2_109, k2_109, rfl, N109q, Kp109, p109_E_o, p109_F_value_o, p109_F_coder_o, p109_F_count_o, p109_V_b2, p109_hor, p109_hob, p109_hgb⟩ := hQ109
  have Sz5 : h108.size ≤ h109.size := Kp109.1
  have CC5 : CHr Z consts_1 sS.vm h0 T108.vm h109 := CC4.trans (CHr.keep Kp109 (sfS sf118_b102 (sfS sf121_b_103 sf0)) CC4.1)
  have N109 : Fr n0 L109 := by rw [l109]; exact Fr.app N103 N109q
  have c124_OL : Old Z n0 h109 := c116_OL.keep Kp109 (allS ge106_b102 (allS ge122_b_103 all0))
  have lt_b2_109 : @LT.lt Nat _ b2_109 h109.size := p109_V_b2.lt
  have ne_b102_b2_109_125 : b102 ≠ b2_109 := (by omega : @Ne Nat b102 b2_109)
  have ge126_b2_109 : @LE.le Nat _ n0 b2_109 := by omega
  obtain ⟨cq123, kq123, q123a, q123b, q123c⟩ := isOf hZ108 e109 p109_E_o
  obtain ⟨_, _, ⟨T123, L123, k123, n123⟩, -, X123, ⟨Lc123, hQ123, l123, y123, z123⟩, st123⟩ := X109.virtualBack hx (y := y14_) (z := y14_) hown108 (mvT hZ108 (wi hw 47 rfl)) (mvT hZ108 (wi hw 48 rfl)) (notFace_of_selects (args := #[]) (mvT hZ108 (wi hw 50 rfl))) (mvT hZ108 (wi hw 50 rfl)) (mvT hZ108 (wi hw 49 rfl)) (by decide) (backOf (W := 2) (rm_sapp_null l Z a0 hw [] b102 b2_109 k2_109 (ncap 16 (0 + 16)) (0 + 16) _ cs h109 n0 (by omega) p109_E_o p109_F_value_o p109_F_coder_o p109_F_count_o p109_V_b2 ne_b102_b2_109_125 ge106_b102 ge126_b2_109 (by decide) (by decide) (by decide) c124_OL S_COMPACT_STRINGS hcs) hZ108 (wi hw 51 rfl) (wi hw 30 rfl) (by decide) (by decide)) q123a q123c (g := (mkF mM 17 #[.val .null] [.null, (.ref b102), (.ref b101), (.ref b101)])) rfl (by rw [hml]; rfl) (Steps.refl _) (argsL := [.null]) (rest := [(.ref b101), (.ref b101)]) (lenOf pd_5 rfl) rfl (by show 2 * 0 + _ ≤ _; exact Nat.le_of_eq rfl) (hb hby dp15_2_17) (fun _ _ => ⟨rfl, e109, ble rfl, ble rfl⟩)
  dsimp only [Pt.U, Pt.locs, Pt.cells, Pt.slots] at X123 l123 y123 z123 st123 hQ123
  subst y123 z123
  obtain ⟨h123, e123⟩ : ∃ z, T123.heap = z := ⟨_, rfl⟩
  rw [e123] at hQ123
  obtain ⟨b2_123, k2_123, rfl, N123q, Kp123, p123_E_o, p123_F_value_o, p123_F_coder_o, p123_F_count_o, p123_V_b2, p123_hor, p123_hob, p123_hgb⟩ := hQ123
  have Sz6 : h109.size ≤ h123.size := Kp123.1
  have sf127_b2_109 : Safe Z consts_1 T108.vm h108 b2_109 := by
    rcases p109_hor with q | q
    · rw [q]; exact sf121_b_103
    · exact Safe.new q
  have sf128_b2_109 : Safe Z consts_1 T108.vm h109 b2_109 := Safe.keep Kp109 (sfS sf118_b102 (sfS sf121_b_103 sf0)) CC4.1 sf127_b2_109
  have sf129_b102 : Safe Z consts_1 T108.vm h109 b102 := Safe.exa (show Z.Warmed39 T108.vm from hZ108).alike p109_E_o (by decide) (by decide)
  have CC6 : CHr Z consts_1 sS.vm h0 T108.vm h123 := CC5.trans (CHr.keep Kp123 (sfS sf129_b102 (sfS sf128_b2_109 sf0)) CC5.1)
  have N123 : Fr n0 L123 := by rw [l123]; exact Fr.app N109 N123q
  obtain ⟨b130, T130, h130, kk130, d130, q130, X130, e130, E130, hS130, hk130, hZ130, hown130, A130, Fc130, Fv130, V130, ltb130, ltd130, Ch130, -, hne130, st130⟩ := ldcCH X123 hx hZ108 hown108 (wi hw 95 rfl) (own_wS hw) e123 hS108 (by omega) (own_EW hw) (List.mem_of_getElem? (i := 1) rfl) CC6.1 (vs := [(.int (39 : Int32))]) (z := (iN 1)) (own_txt1) (by decide) (by rfl) (g := (mkF mM 20 #[.val .null] [(.ref b102), (.ref b101), (.ref b101)])) rfl (hb hby dp15_2_20) (n := 4) (by decide) (by decide) (by decide) (by decide)
  have Sz7 : h123.size ≤ h130.size := E130.1
  have CC7 : CHr Z consts_1 sS.vm h0 T130.vm h130 := CC6.trans Ch130
  have c132_E_b102 : Exa Z h130 b102 "java/lang/StringBuilder" := Exa.ext E130 p123_E_o
  have c133_F_value_b102 : Fld Z h130 b102 "java/lang/AbstractStringBuilder" "value" "[B" (.ref b2_123) := Fld.ext E130 p123_F_value_o
  have c134_F_coder_b102 : Fld Z h130 b102 "java/lang/AbstractStringBuilder" "coder" "B" (.int (0 : Int32)) := Fld.ext E130 p123_F_coder_o
  have c135_F_count_b102 : Fld Z h130 b102 "java/lang/AbstractStringBuilder" "count" "I" (.int (iN ((0 + 16) + 4))) := Fld.ext E130 p123_F_count_o
  have c136_V_b2_123 : Arv Z h130 b2_123 k2_123 .byte (iN (ncap (ncap 16 (0 + 16)) ((0 + 16) + 4))) ((((([] ++ [(.int (78 : Int32)), (.int (111 : Int32)), (.int (32 : Int32)), (.int (114 : Int32)), (.int (111 : Int32)), (.int (111 : Int32)), (.int (109 : Int32)), (.int (32 : Int32)), (.int (104 : Int32)), (.int (97 : Int32)), (.int (115 : Int32)), (.int (32 : Int32)), (.int (105 : Int32)), (.int (100 : Int32)), (.int (32 : Int32)), (.int (39 : Int32))]) ++ [(.int (110 : Int32))]) ++ [(.int (117 : Int32))]) ++ [(.int (108 : Int32))]) ++ [(.int (108 : Int32))]) (.int (0 : Int32)) := p123_V_b2.ext E130
  have c137_OL : Old Z n0 h123 := c124_OL.keep Kp123 (allS ge106_b102 (allS ge126_b2_109 all0))
  have c138_OL : Old Z n0 h130 := c137_OL.ext E130
  have lt_b2_123 : @LT.lt Nat _ b2_123 h123.size := p123_V_b2.lt
  have ne_b102_b2_123_139 : b102 ≠ b2_123 := (by omega : @Ne Nat b102 b2_123)
  have sf140_b102 : Safe Z consts_1 T130.vm h130 b102 := Safe.exa (show Z.Warmed39 T130.vm from hZ130).alike c132_E_b102 (by decide) (by decide)
  have sf141_b2_123 : Safe Z consts_1 T108.vm h109 b2_123 := by
    rcases p123_hor with q | q
    · rw [q]; exact sf128_b2_109
    · exact Safe.new q
  have sf142_b2_123 : Safe Z consts_1 T108.vm h123 b2_123 := Safe.keep Kp123 (sfS sf129_b102 (sfS sf128_b2_109 sf0)) CC5.1 sf141_b2_123
  have sf143_b2_123 : Safe Z consts_1 T130.vm h130 b2_123 := CHr.safe Ch130 (by omega : @LT.lt Nat _ b2_123 h123.size) sf142_b2_123
  have ge144_b2_123 : @LE.le Nat _ n0 b2_123 := by omega
  obtain ⟨cq131, kq131, q131a, q131b, q131c⟩ := isOf hZ130 e130 c132_E_b102
  obtain ⟨_, _, ⟨T131, L131, k131, n131⟩, -, X131, ⟨Lc131, hQ131, l131, y131, z131⟩, st131⟩ := X130.virtualBack hx (y := y14_) (z := y14_) hown130 (mvT hZ130 (wi hw 47 rfl)) (mvT hZ130 (wi hw 48 rfl)) (notFace_of_selects (args := #[]) (mvT hZ130 (wi hw 50 rfl))) (mvT hZ130 (wi hw 50 rfl)) (mvT hZ130 (wi hw 49 rfl)) (by decide) (backOf (W := 2) (rm_sapp l Z a0 hw [] b102 b130 d130 q130 1 [(.int (39 : Int32))] b2_123 k2_123 (ncap (ncap 16 (0 + 16)) ((0 + 16) + 4)) ((0 + 16) + 4) _ cs h130 n0 (by omega) c132_E_b102 c133_F_value_b102 c134_F_coder_b102 c135_F_count_b102 A130 Fv130 Fc130 V130 c136_V_b2_123 ne_b102_b2_123_139 (hne130 b102 sf140_b102).1 (hne130 b102 sf140_b102).2 (Ne.symm (hne130 b2_123 sf143_b2_123).1) (Ne.symm (hne130 b2_123 sf143_b2_123).2) ge106_b102 ge144_b2_123 (by decide) (by decide) (by decide) c138_OL S_COMPACT_STRINGS hcs) hZ130 (wi hw 51 rfl) (wi hw 30 rfl) (by decide) (by decide)) q131a q131c (g := (mkF mM 22 #[.val .null] [(.ref b130), (.ref b102), (.ref b101), (.ref b101)])) rfl (by rw [hml]; rfl) (Steps.refl _) (argsL := [(.ref b130)]) (rest := [(.ref b101), (.ref b101)]) (lenOf pd_5 rfl) rfl (by show 2 * 0 + _ ≤ _; exact Nat.le_of_eq rfl) (hb hby dp15_2_22) (fun _ _ => ⟨rfl, e130, ble rfl, ble rfl⟩)
  dsimp only [Pt.U, Pt.locs, Pt.cells, Pt.slots] at X131 l131 y131 z131 st131 hQ131
  subst y131 z131
  obtain ⟨h131, e131⟩ : ∃ z, T131.heap = z := ⟨_, rfl⟩
  rw [e131] at hQ131
  obtain ⟨b2_131, k2_131, rfl, N131q, Kp131, p131_E_o, p131_F_value_o, p131_F_coder_o, p131_F_count_o, p131_V_b2, p131_hor, p131_hob, p131_hgb⟩ := hQ131
  have Sz8 : h130.size ≤ h131.size := Kp131.1
  have CC8 : CHr Z consts_1 sS.vm h0 T130.vm h131 := CC7.trans (CHr.keep Kp131 (sfS sf140_b102 (sfS sf143_b2_123 sf0)) CC7.1)
  have N131 : Fr n0 L131 := by rw [l131]; exact Fr.app N123 N131q
  have c146_OL : Old Z n0 h131 := c138_OL.keep Kp131 (allS ge106_b102 (allS ge144_b2_123 all0))
  obtain ⟨cq145, kq145, q145a, q145b, q145c⟩ := isOf hZ130 e131 p131_E_o
  obtain ⟨_, _, ⟨T145, L145, k145, n145⟩, -, X145, ⟨Lc145, hQ145, l145, y145, z145⟩, st145⟩ := X131.virtualBack hx (y := y25_) (z := y25_) hown130 (mvT hZ130 (wi hw 119 rfl)) (mvT hZ130 (wi hw 120 rfl)) (notFace_of_selects (args := #[]) (mvT hZ130 (wi hw 122 rfl))) (mvT hZ130 (wi hw 122 rfl)) (mvT hZ130 (wi hw 121 rfl)) (by decide) (backOf (W := 2) (rm_toString l Z a0 hw [] b102 b2_131 k2_131 (ncap (ncap (ncap 16 (0 + 16)) ((0 + 16) + 4)) (((0 + 16) + 4) + 1)) (((0 + 16) + 4) + 1) _ cs h131 n0 (by omega) p131_E_o p131_F_value_o p131_F_coder_o p131_F_count_o p131_V_b2 (by decide) (by decide) c146_OL S_COMPACT_STRINGS hcs) hZ130 (wi hw 123 rfl) (wi hw 30 rfl) (by decide) (by decide)) q145a q145c (g := (mkF mM 25 #[.val .null] [(.ref b102), (.ref b101), (.ref b101)])) rfl (by rw [hml]; rfl) (Steps.refl _) (argsL := []) (rest := [(.ref b101), (.ref b101)]) (lenOf pd_17 rfl) rfl (by show 2 * 0 + _ ≤ _; exact Nat.le_of_eq rfl) (hb hby dp15_2_25) (fun _ _ => ⟨rfl, e131, ble rfl, ble rfl⟩)
  dsimp only [Pt.U, Pt.locs, Pt.cells, Pt.slots] at X145 l145 y145 z145 st145 hQ145
  subst y145 z145
  obtain ⟨h145, e145⟩ : ∃ z, T145.heap = z := ⟨_, rfl⟩
  rw [e145] at hQ145
  obtain ⟨t_145, b2_145, k2_145, rfl, N145q, Kp145, p145_E_t, p145_F_value_t, p145_F_coder_t, p145_V_b2, p145_gh_t, p145_gh_b2⟩ := hQ145
  have Sz9 : h131.size ≤ h145.size := Kp145.1
  have CC9 : CHr Z consts_1 sS.vm h0 T130.vm h145 := CC8.trans (CHr.keep Kp145 sf0 CC8.1)
  have N145 : Fr n0 L145 := by rw [l145]; exact Fr.app N131 N145q
  have c148_E_b101 : Exa Z h102 b101 "com/example/dipper/dipper/store/NotFoundException" := Exa.ext E102 A101
  have c149_E_b101 : Exa Z h103 b101 "com/example/dipper/dipper/store/NotFoundException" := c148_E_b101.keep Kp103
  have c150_E_b101 : Exa Z h108 b101 "com/example/dipper/dipper/store/NotFoundException" := Exa.ext E108 c149_E_b101
  have c151_E_b101 : Exa Z h109 b101 "com/example/dipper/dipper/store/NotFoundException" := c150_E_b101.keep Kp109
  have c152_E_b101 : Exa Z h123 b101 "com/example/dipper/dipper/store/NotFoundException" := c151_E_b101.keep Kp123
  have c153_E_b101 : Exa Z h130 b101 "com/example/dipper/dipper/store/NotFoundException" := Exa.ext E130 c152_E_b101
  have c154_E_b101 : Exa Z h131 b101 "com/example/dipper/dipper/store/NotFoundException" := c153_E_b101.keep Kp131
  have c155_E_b101 : Exa Z h145 b101 "com/example/dipper/dipper/store/NotFoundException" := c154_E_b101.keep Kp145
  have c156_U_b101 : Unt h102 b101 := Unt.ext E102 B101
  have lt_b101 : @LT.lt Nat _ b101 h101.size := A101.lt
  have ne_b101_b102_157 : b101 ≠ b102 := (by omega : @Ne Nat b101 b102)
  have c158_U_b101 : Unt h103 b101 := Unt.keep Kp103 (ninS ne_b101_b102_157 nin0) c156_U_b101
  have c159_U_b101 : Unt h108 b101 := Unt.ext E108 c158_U_b101
  have ne_b101_b_103_160 : b101 ≠ b_103 := (by omega : @Ne Nat b101 b_103)
  have c161_U_b101 : Unt h109 b101 := Unt.keep Kp109 (ninS ne_b101_b102_157 (ninS ne_b101_b_103_160 nin0)) c159_U_b101
  have ne_b101_b2_109_162 : b101 ≠ b2_109 := (by omega : @Ne Nat b101 b2_109)
  have c163_U_b101 : Unt h123 b101 := Unt.keep Kp123 (ninS ne_b101_b102_157 (ninS ne_b101_b2_109_162 nin0)) c161_U_b101
  have c164_U_b101 : Unt h130 b101 := Unt.ext E130 c163_U_b101
  have ne_b101_b2_123_165 : b101 ≠ b2_123 := (by omega : @Ne Nat b101 b2_123)
  have c166_U_b101 : Unt h131 b101 := Unt.keep Kp131 (ninS ne_b101_b102_157 (ninS ne_b101_b2_123_165 nin0)) c164_U_b101
  have c167_U_b101 : Unt h145 b101 := Unt.keep Kp145 nin0 c166_U_b101
  have c168_F_cause_b101 : Fld Z h102 b101 "java/lang/Throwable" "cause" "Ljava/lang/Throwable;" .null := Fld.ext E102 F101_cause
  have c169_F_cause_b101 : Fld Z h103 b101 "java/lang/Throwable" "cause" "Ljava/lang/Throwable;" .null := c168_F_cause_b101.keep Kp103 (ninS ne_b101_b102_157 nin0)
  have c170_F_cause_b101 : Fld Z h108 b101 "java/lang/Throwable" "cause" "Ljava/lang/Throwable;" .null := Fld.ext E108 c169_F_cause_b101
  have c171_F_cause_b101 : Fld Z h109 b101 "java/lang/Throwable" "cause" "Ljava/lang/Throwable;" .null := c170_F_cause_b101.keep Kp109 (ninS ne_b101_b102_157 (ninS ne_b101_b_103_160 nin0))
  have c172_F_cause_b101 : Fld Z h123 b101 "java/lang/Throwable" "cause" "Ljava/lang/Throwable;" .null := c171_F_cause_b101.keep Kp123 (ninS ne_b101_b102_157 (ninS ne_b101_b2_109_162 nin0))
  have c173_F_cause_b101 : Fld Z h130 b101 "java/lang/Throwable" "cause" "Ljava/lang/Throwable;" .null := Fld.ext E130 c172_F_cause_b101
  have c174_F_cause_b101 : Fld Z h131 b101 "java/lang/Throwable" "cause" "Ljava/lang/Throwable;" .null := c173_F_cause_b101.keep Kp131 (ninS ne_b101_b102_157 (ninS ne_b101_b2_123_165 nin0))
  have c175_F_cause_b101 : Fld Z h145 b101 "java/lang/Throwable" "cause" "Ljava/lang/Throwable;" .null := c174_F_cause_b101.keep Kp145 nin0
  have c176_F_stackTrace_b101 : Fld Z h102 b101 "java/lang/Throwable" "stackTrace" "[Ljava/lang/StackTraceElement;" .null := Fld.ext E102 F101_stackTrace
  have c177_F_stackTrace_b101 : Fld Z h103 b101 "java/lang/Throwable" "stackTrace" "[Ljava/lang/StackTraceElement;" .null := c176_F_stackTrace_b101.keep Kp103 (ninS ne_b101_b102_157 nin0)
  have c178_F_stackTrace_b101 : Fld Z h108 b101 "java/lang/Throwable" "stackTrace" "[Ljava/lang/StackTraceElement;" .null := Fld.ext E108 c177_F_stackTrace_b101
  have c179_F_stackTrace_b101 : Fld Z h109 b101 "java/lang/Throwable" "stackTrace" "[Ljava/lang/StackTraceElement;" .null := c178_F_stackTrace_b101.keep Kp109 (ninS ne_b101_b102_157 (ninS ne_b101_b_103_160 nin0))
  have c180_F_stackTrace_b101 : Fld Z h123 b101 "java/lang/Throwable" "stackTrace" "[Ljava/lang/StackTraceElement;" .null := c179_F_stackTrace_b101.keep Kp123 (ninS ne_b101_b102_157 (ninS ne_b101_b2_109_162 nin0))
  have c181_F_stackTrace_b101 : Fld Z h130 b101 "java/lang/Throwable" "stackTrace" "[Ljava/lang/StackTraceElement;" .null := Fld.ext E130 c180_F_stackTrace_b101
  have c182_F_stackTrace_b101 : Fld Z h131 b101 "java/lang/Throwable" "stackTrace" "[Ljava/lang/StackTraceElement;" .null := c181_F_stackTrace_b101.keep Kp131 (ninS ne_b101_b102_157 (ninS ne_b101_b2_123_165 nin0))
  have c183_F_stackTrace_b101 : Fld Z h145 b101 "java/lang/Throwable" "stackTrace" "[Ljava/lang/StackTraceElement;" .null := c182_F_stackTrace_b101.keep Kp145 nin0
  have c184_F_suppressedExceptions_b : Fld Z h102 b101 "java/lang/Throwable" "suppressedExceptions" "Ljava/util/List;" .null := Fld.ext E102 F101_suppressedExceptions
  have c185_F_suppressedExceptions_b : Fld Z h103 b101 "java/lang/Throwable" "suppressedExceptions" "Ljava/util/List;" .null := c184_F_suppressedExceptions_b.keep Kp103 (ninS ne_b101_b102_157 nin0)
  have c186_F_suppressedExceptions_b : Fld Z h108 b101 "java/lang/Throwable" "suppressedExceptions" "Ljava/util/List;" .null := Fld.ext E108 c185_F_suppressedExceptions_b
  have c187_F_suppressedExceptions_b : Fld Z h109 b101 "java/lang/Throwable" "suppressedExceptions" "Ljava/util/List;" .null := c186_F_suppressedExceptions_b.keep Kp109 (ninS ne_b101_b102_157 (ninS ne_b101_b_103_160 nin0))
  have c188_F_suppressedExceptions_b : Fld Z h123 b101 "java/lang/Throwable" "suppressedExceptions" "Ljava/util/List;" .null := c187_F_suppressedExceptions_b.keep Kp123 (ninS ne_b101_b102_157 (ninS ne_b101_b2_109_162 nin0))
  have c189_F_suppressedExceptions_b : Fld Z h130 b101 "java/lang/Throwable" "suppressedExceptions" "Ljava/util/List;" .null := Fld.ext E130 c188_F_suppressedExceptions_b
  have c190_F_suppressedExceptions_b : Fld Z h131 b101 "java/lang/Throwable" "suppressedExceptions" "Ljava/util/List;" .null := c189_F_suppressedExceptions_b.keep Kp131 (ninS ne_b101_b102_157 (ninS ne_b101_b2_123_165 nin0))
  have c191_F_suppressedExceptions_b : Fld Z h145 b101 "java/lang/Throwable" "suppressedExceptions" "Ljava/util/List;" .null := c190_F_suppressedExceptions_b.keep Kp145 nin0
  have c192_F_detailMessage_b101 : Fld Z h102 b101 "java/lang/Throwable" "detailMessage" "Ljava/lang/String;" .null := Fld.ext E102 F101_detailMessage
  have c193_F_detailMessage_b101 : Fld Z h103 b101 "java/lang/Throwable" "detailMessage" "Ljava/lang/String;" .null := c192_F_detailMessage_b101.keep Kp103 (ninS ne_b101_b102_157 nin0)
  have c194_F_detailMessage_b101 : Fld Z h108 b101 "java/lang/Throwable" "detailMessage" "Ljava/lang/String;" .null := Fld.ext E108 c193_F_detailMessage_b101
  have c195_F_detailMessage_b101 : Fld Z h109 b101 "java/lang/Throwable" "detailMessage" "Ljava/lang/String;" .null := c194_F_detailMessage_b101.keep Kp109 (ninS ne_b101_b102_157 (ninS ne_b101_b_103_160 nin0))
  have c196_F_detailMessage_b101 : Fld Z h123 b101 "java/lang/Throwable" "detailMessage" "Ljava/lang/String;" .null := c195_F_detailMessage_b101.keep Kp123 (ninS ne_b101_b102_157 (ninS ne_b101_b2_109_162 nin0))
  have c197_F_detailMessage_b101 : Fld Z h130 b101 "java/lang/Throwable" "detailMessage" "Ljava/lang/String;" .null := Fld.ext E130 c196_F_detailMessage_b101
  have c198_F_detailMessage_b101 : Fld Z h131 b101 "java/lang/Throwable" "detailMessage" "Ljava/lang/String;" .null := c197_F_detailMessage_b101.keep Kp131 (ninS ne_b101_b102_157 (ninS ne_b101_b2_123_165 nin0))
  have c199_F_detailMessage_b101 : Fld Z h145 b101 "java/lang/Throwable" "detailMessage" "Ljava/lang/String;" .null := c198_F_detailMessage_b101.keep Kp145 nin0
  have c200_F_backtrace_b101 : Fld Z h102 b101 "java/lang/Throwable" "backtrace" "Ljava/lang/Object;" .null := Fld.ext E102 F101_backtrace
  have c201_F_backtrace_b101 : Fld Z h103 b101 "java/lang/Throwable" "backtrace" "Ljava/lang/Object;" .null := c200_F_backtrace_b101.keep Kp103 (ninS ne_b101_b102_157 nin0)
  have c202_F_backtrace_b101 : Fld Z h108 b101 "java/lang/Throwable" "backtrace" "Ljava/lang/Object;" .null := Fld.ext E108 c201_F_backtrace_b101
  have c203_F_backtrace_b101 : Fld Z h109 b101 "java/lang/Throwable" "backtrace" "Ljava/lang/Object;" .null := c202_F_backtrace_b101.keep Kp109 (ninS ne_b101_b102_157 (ninS ne_b101_b_103_160 nin0))
  have c204_F_backtrace_b101 : Fld Z h123 b101 "java/lang/Throwable" "backtrace" "Ljava/lang/Object;" .null := c203_F_backtrace_b101.keep Kp123 (ninS ne_b101_b102_157 (ninS ne_b101_b2_109_162 nin0))
  have c205_F_backtrace_b101 : Fld Z h130 b101 "java/lang/Throwable" "backtrace" "Ljava/lang/Object;" .null := Fld.ext E130 c204_F_backtrace_b101
  have c206_F_backtrace_b101 : Fld Z h131 b101 "java/lang/Throwable" "backtrace" "Ljava/lang/Object;" .null := c205_F_backtrace_b101.keep Kp131 (ninS ne_b101_b102_157 (ninS ne_b101_b2_123_165 nin0))
  have c207_F_backtrace_b101 : Fld Z h145 b101 "java/lang/Throwable" "backtrace" "Ljava/lang/Object;" .null := c206_F_backtrace_b101.keep Kp145 nin0
  have c208_OL : Old Z n0 h145 := c146_OL.keep Kp145 all0
  have c209_TH : ThS Z h101 := ThS.ext E101 TH
  have c210_TH : ThS Z h102 := ThS.ext E102 c209_TH
  have c211_TH : ThS Z h103 := ThS.keep Kp103 (nsS (Exa.nostat A102) ns0) c210_TH
  have c212_TH : ThS Z h108 := ThS.ext E108 c211_TH
  have c213_TH : ThS Z h109 := ThS.keep Kp109 (nsS (Exa.nostat c110_E_b102) (nsS (Arv.nostat c114_V_b_103) ns0)) c212_TH
  have c214_TH : ThS Z h123 := ThS.keep Kp123 (nsS (Exa.nostat p109_E_o) (nsS (Arv.nostat p109_V_b2) ns0)) c213_TH
  have c215_TH : ThS Z h130 := ThS.ext E130 c214_TH
  have c216_TH : ThS Z h131 := ThS.keep Kp131 (nsS (Exa.nostat c132_E_b102) (nsS (Arv.nostat c136_V_b2_123) ns0)) c215_TH
  have c217_TH : ThS Z h145 := ThS.keep Kp145 ns0 c216_TH
  have ge218_b101 : @LE.le Nat _ n0 b101 := by omega
  obtain ⟨_, _, ⟨T147, L147, k147, n147⟩, -, X147, ⟨Lc147, hQ147, l147, y147, z147⟩, st147⟩ := X145.specialBack hx (y := y43_) rfl hown130 (mvT hZ130 (wi hw 158 rfl)) (mvT hZ130 (wi hw 159 rfl)) (mvT hZ130 (wi hw 160 rfl)) (by decide) (backOfKL (W := 1) (rm_nfe l Z a0 hw [] b101 t_145 ua sa .null .null .null .null h145 n0 (by omega) c155_E_b101 c167_U_b101 c175_F_cause_b101 c183_F_stackTrace_b101 c191_F_suppressedExceptions_b c199_F_detailMessage_b101 c207_F_backtrace_b101 ge218_b101 c208_OL c217_TH S_UNASSIGNED_STACK S_SUPPRESSED_SENTINEL hl) hZ130 (wi hw 160 rfl) (wi hw 24 rfl) (by decide) (by decide) (Vm.MethodsKnown.alikeC hS130.1.alike hTK) (Vm.FramesKnown.alikeC hS130.1.alike hBelow)) (g := (mkF mM 28 #[.val .null] [(.ref t_145), (.ref b101), (.ref b101)])) rfl (by rw [hml]; rfl) (Steps.refl _) (a := b101) (argsL := [(.ref t_145)]) (rest := [(.ref b101)]) (lenOf pd_10 rfl) rfl (by show 2 * 0 + _ ≤ _; exact Nat.le_of_eq rfl) (hb hby dp15_2_28) (fun _ _ => ⟨rfl, e145, ble rfl, ble rfl⟩)
  dsimp only [Pt.U, Pt.locs, Pt.cells, Pt.slots] at X147 l147 y147 z147 st147 hQ147
  subst y147 z147
  obtain ⟨h147, e147⟩ : ∃ z, T147.heap = z := ⟨_, rfl⟩
  rw [e147] at hQ147
  obtain ⟨rfl, N147q, Kp147, p147_E_o, p147_F_detailMessage_o⟩ := hQ147
  have Sz10 : h145.size ≤ h147.size := Kp147.1
  have sf219_b101 : Safe Z consts_1 T130.vm h145 b101 := Safe.exa (show Z.Warmed39 T130.vm from hZ130).alike c155_E_b101 (by decide) (by decide)
  have CC10 : CHr Z consts_1 sS.vm h0 T130.vm h147 := CC9.trans (CHr.keep Kp147 (sfS sf219_b101 sf0) CC9.1)
  have N147 : Fr n0 L147 := by rw [l147]; exact Fr.app N145 N147q
  have lt_t_145 : @LT.lt Nat _ t_145 h145.size := p145_E_t.lt
  have ne_t_145_b101_220 : t_145 ≠ b101 := (by omega : @Ne Nat t_145 b101)
  have c221_F_value_t_145 : Fld Z h147 t_145 "java/lang/String" "value" "[B" (.ref b2_145) := p145_F_value_t.keep Kp147 (ninS ne_t_145_b101_220 nin0)
  have lt_b2_145 : @LT.lt Nat _ b2_145 h145.size := p145_V_b2.lt
  have ne_b2_145_b101_222 : b2_145 ≠ b101 := (by omega : @Ne Nat b2_145 b101)
  have c223_V_b2_145 : Arv Z h147 b2_145 k2_145 .byte (iN (((0 + 16) + 4) + 1)) (((((([] ++ [(.int (78 : Int32)), (.int (111 : Int32)), (.int (32 : Int32)), (.int (114 : Int32)), (.int (111 : Int32)), (.int (111 : Int32)), (.int (109 : Int32)), (.int (32 : Int32)), (.int (104 : Int32)), (.int (97 : Int32)), (.int (115 : Int32)), (.int (32 : Int32)), (.int (105 : Int32)), (.int (100 : Int32)), (.int (32 : Int32)), (.int (39 : Int32))]) ++ [(.int (110 : Int32))]) ++ [(.int (117 : Int32))]) ++ [(.int (108 : Int32))]) ++ [(.int (108 : Int32))]) ++ [(.int (39 : Int32))]) (.int (0 : Int32)) := p145_V_b2.keep Kp147 (ninS ne_b2_145_b101_222 nin0)
  have c224_E_t_145 : Exa Z h147 t_145 "java/lang/String" := p145_E_t.keep Kp147
  have c225_F_coder_t_145 : Fld Z h147 t_145 "java/lang/String" "coder" "B" (.int (0 : Int32)) := p145_F_coder_t.keep Kp147 (ninS ne_t_145_b101_220 nin0)
  have K226 : Keep h0 h101 [] := (Keep.refl h0 []).ext E101
  have K227 : Keep h0 h102 [] := K226.ext E102
  have K228 : Keep h0 h103 [] := K227.trans Kp103 (allS (Or.inr (by omega : @LE.le Nat _ h0.size b102)) all0)
  have K229 : Keep h0 h108 [] := K228.ext E108
  have K230 : Keep h0 h109 [] := K229.trans Kp109 (allS (Or.inr (by omega : @LE.le Nat _ h0.size b102)) (allS (Or.inr (by omega : @LE.le Nat _ h0.size b_103)) all0))
  have K231 : Keep h0 h123 [] := K230.trans Kp123 (allS (Or.inr (by omega : @LE.le Nat _ h0.size b102)) (allS (Or.inr (by omega : @LE.le Nat _ h0.size b2_109)) all0))
  have K232 : Keep h0 h130 [] := K231.ext E130
  have K233 : Keep h0 h131 [] := K232.trans Kp131 (allS (Or.inr (by omega : @LE.le Nat _ h0.size b102)) (allS (Or.inr (by omega : @LE.le Nat _ h0.size b2_123)) all0))
  have K234 : Keep h0 h145 [] := K233.trans Kp145 all0
  have K235 : Keep h0 h147 [] := K234.trans Kp147 (allS (Or.inr (by omega : @LE.le Nat _ h0.size b101)) all0)
  obtain ⟨fs, hr, hrun, hended, hE⟩ := Stand.leaveW (s := sS) X147 hS130 (by rw [e147]; omega) (v := some (.ref b101)) (fun h => by rw [Bd.returns] at h; cases h)
  refine ⟨_, _, castTop (ef_room_null mM ua sa cs) ?_, hrun, hended, _, _, rfl, ?_, ?_, hE.1, hE.2.1, hE.2.2.1, hE.2.2.2.mono (by decide) (by decide)⟩
  · show SS pP eE bS s₁ (mkF mM 0 #[.val .null] []) _
    refine st101 _ ?_
    show SS pP eE bS T101 (mkF mM 3 #[.val .null] [(.ref b101)]) _
    refine XS.dup X101.here hx rfl (hb hby dp15_2_3) rfl rfl ?_
    show SS pP eE bS T101 (mkF mM 4 #[.val .null] [(.ref b101), (.ref b101)]) _
    refine st102 _ ?_
    show SS pP eE bS T102 (mkF mM 7 #[.val .null] [(.ref b102), (.ref b101), (.ref b101)]) _
    refine XS.dup X102.here hx rfl (hb hby dp15_2_7) rfl rfl ?_
    show SS pP eE bS T102 (mkF mM 8 #[.val .null] [(.ref b102), (.ref b102), (.ref b101), (.ref b101)]) _
    refine st103.trans ?_
    show SS pP eE bS T103 (mkF mM 11 #[.val .null] [(.ref b102), (.ref b101), (.ref b101)]) _
    refine st108 _ ?_
    show SS pP eE bS T108 (mkF mM 13 #[.val .null] [(.ref b108), (.ref b102), (.ref b101), (.ref b101)]) _
    refine st109.trans ?_
    show SS pP eE bS T109 (mkF mM 16 #[.val .null] [(.ref b102), (.ref b101), (.ref b101)]) _
    refine XS.aloadN X109.here hx rfl (hb hby dp15_2_16) rfl rfl ?_
    show SS pP eE bS T109 (mkF mM 17 #[.val .null] [.null, (.ref b102), (.ref b101), (.ref b101)]) _
    refine st123.trans ?_
    show SS pP eE bS T123 (mkF mM 20 #[.val .null] [(.ref b102), (.ref b101), (.ref b101)]) _
    refine st130 _ ?_
    show SS pP eE bS T130 (mkF mM 22 #[.val .null] [(.ref b130), (.ref b102), (.ref b101), (.ref b101)]) _
    refine st131.trans ?_
    show SS pP eE bS T131 (mkF mM 25 #[.val .null] [(.ref b102), (.ref b101), (.ref b101)]) _
    refine st145.trans ?_
    show SS pP eE bS T145 (mkF mM 28 #[.val .null] [(.ref t_145), (.ref b101), (.ref b101)]) _
    refine st147.trans ?_
    show SS pP eE bS T147 (mkF mM 31 #[.val .null] [(.ref b101)]) _
    jvm_step X147.here [X147.here.top, hx, (hb hby dp15_2_31), X147.method', Bd.returns, Value.isRef, FieldType.isReference]
    first | (intro acts; rw [hr _ acts rfl rfl rfl]) | rw [hr _ _ rfl rfl rfl]
    exact Steps.refl _
  · show Q_room_null Z ua sa cs h0 n0 _ T147.heap _
    rw [e147]
    exact ⟨b101, t_145, b2_145, k2_145, rfl, N147, K235, p147_E_o, p147_F_detailMessage_o, c224_E_t_145, c221_F_value_t_145, c225_F_coder_t_145, c223_V_b2_145⟩
  · show CHr Z consts_1 sS.vm sS.heap T147.vm T147.heap
    rw [hh, e147]
    exact CC10.trans (CHv.at X147 hZ130 (own_EW hw) CC10.1)
-- MARK law
theorem own_lim (x : Int32) : ¬ ((255 : Int32) < x &&& (255 : Int32)) := by
  have q := c_and x 255 (by decide)
  rw [Int32.lt_iff_toInt_lt]
  have e : (255 : Int32).toInt = 255 := by decide
  omega
def Q_law (n0 : Nat) (v : Option Value) (L : List Loc) : Prop := v = some (.int 1) ∧ Fr n0 L
theorem sg_fill (l : Launch) (Z : State) (a0 : Array Value) (hw : HW a0 Z) (b : Addr) (k : ClassId) (xs : List Value) (s0 : Slot) (s1 : Slot) (s2 : Slot) (s3 : Slot) (s4 : Slot) (s5 : Slot) (s6 : Slot) (s7 : Slot) (s8 : Slot) (s9 : Slot) (s10 : Slot) (s11 : Slot) (s12 : Slot) (s13 : Slot) (s14 : Slot) (h0 : Heap) (n0 : Nat) (Z0 : n0 ≤ h0.size) (hx : pP.tables.exec = Jvm.exec) (hby : cC.code = code) (hml : cC.maxLocals = 15) (hZ : Z.Warmed39 sS.vm) (hown : sS.vm.findClass "com/example/dipper/dipper/store/NotFoundExceptionRoomPinLaw" = some mM.cls) (X0 : Stand pP l eE room_1 sS mM argS bS methS cC s₁ lc0 cl0 sl0) (e0 : s₁.heap = h0) (N0 : Fr n0 lc0) (hcl : cl0 + 0 ≤ room_1.cells) (hsl : sl0 + 0 ≤ room_1.slots) (V_b : Arv Z h0 b k .char (21 : Int32) xs (.int (0 : Int32))) (g_b : @LE.le Nat _ n0 b) (hxl : xs.length = 21) :
    ∃ T' h' L', Stand pP l eE room_1 sS mM argS bS methS cC T' L' (cl0 + 0) (sl0 + 0) ∧ T'.heap = h' ∧ Fr n0 L' ∧ Keep h0 h' [b] ∧ Arv Z h' b k .char (21 : Int32) (((((((((((((((((((((xs.set 0 (.int (78 : Int32))).set 1 (.int (111 : Int32))).set 2 (.int (32 : Int32))).set 3 (.int (114 : Int32))).set 4 (.int (111 : Int32))).set 5 (.int (111 : Int32))).set 6 (.int (109 : Int32))).set 7 (.int (32 : Int32))).set 8 (.int (104 : Int32))).set 9 (.int (97 : Int32))).set 10 (.int (115 : Int32))).set 11 (.int (32 : Int32))).set 12 (.int (105 : Int32))).set 13 (.int (100 : Int32))).set 14 (.int (32 : Int32))).set 15 (.int (39 : Int32))).set 16 (.int (0 : Int32))).set 17 (.int (0 : Int32))).set 18 (.int (0 : Int32))).set 19 (.int (0 : Int32))).set 20 (.int (0 : Int32))) (.int (0 : Int32)) ∧ ∀ t', SS pP eE bS T' (mkF mM 290 #[s0, s1, s2, s3, s4, s5, s6, s7, s8, s9, s10, s11, s12, s13, s14] [(.ref b)]) t' → SS pP eE bS s₁ (mkF mM 175 #[s0, s1, s2, s3, s4, s5, s6, s7, s8, s9, s10, s11, s12, s13, s14] [(.ref b)]) t' := by
  obtain ⟨cl101, Ar101, q101, S101, Ng101, Ha101, Ga101⟩ := id V_b
  have hin101 : ¬ ((0 : Int32) < 0 ∨ cl101.slots.size ≤ ((0 : Int32)).toNatClampNeg) := inb_of S101 ⟨by decide, by decide⟩
  obtain ⟨T102, h102, X102, e102, W102, st102⟩ := stC X0 hx hZ e0 Ar101 (j := (0 : Int32)) hin101 (g := (mkF mM 179 #[s0, s1, s2, s3, s4, s5, s6, s7, s8, s9, s10, s11, s12, s13, s14] [(.int (78 : Int32)), (.int (0 : Int32)), (.ref b), (.ref b)])) rfl rfl (hb hby at_179)
  have Sz1 : h0.size ≤ h102.size := Nat.le_of_eq (Wr.size W102).symm
  have Vt102 : Arv Z h102 b k .char (21 : Int32) (xs.set 0 (.int (78 : Int32))) (.int (0 : Int32)) := Arv.set Ar101 q101 S101 Ng101 Ha101 Ga101 (fits_nar_char _) W102 0 rfl (by (try simp only [List.length_set]); omega)
  have N102 := Fr.snoc X102 N0 g_b
  obtain ⟨cl103, Ar103, q103, S103, Ng103, Ha103, Ga103⟩ := id Vt102
  have hin103 : ¬ ((1 : Int32) < 0 ∨ cl103.slots.size ≤ ((1 : Int32)).toNatClampNeg) := inb_of S103 ⟨by decide, by decide⟩
  obtain ⟨T104, h104, X104, e104, W104, st104⟩ := stC X102 hx hZ e102 Ar103 (j := (1 : Int32)) hin103 (g := (mkF mM 184 #[s0, s1, s2, s3, s4, s5, s6, s7, s8, s9, s10, s11, s12, s13, s14] [(.int (111 : Int32)), (.int (1 : Int32)), (.ref b), (.ref b)])) rfl rfl (hb hby at_184)
  have Sz2 : h102.size ≤ h104.size := Nat.le_of_eq (Wr.size W104).symm
  have Vt104 : Arv Z h104 b k .char (21 : Int32) ((xs.set 0 (.int (78 : Int32))).set 1 (.int (111 : Int32))) (.int (0 : Int32)) := Arv.set Ar103 q103 S103 Ng103 Ha103 Ga103 (fits_nar_char _) W104 1 rfl (by (try simp only [List.length_set]); omega)
  have N104 := Fr.snoc X104 N102 g_b
  obtain ⟨cl105, Ar105, q105, S105, Ng105, Ha105, Ga105⟩ := id Vt104
  have hin105 : ¬ ((2 : Int32) < 0 ∨ cl105.slots.size ≤ ((2 : Int32)).toNatClampNeg) := inb_of S105 ⟨by decide, by decide⟩
  obtain ⟨T106, h106, X106, e106, W106, st106⟩ := stC X104 hx hZ e104 Ar105 (j := (2 : Int32)) hin105 (g := (mkF mM 189 #[s0, s1, s2, s3, s4, s5, s6, s7, s8, s9, s10, s11, s12, s13, s14] [(.int (32 : Int32)), (.int (2 : Int32)), (.ref b), (.ref b)])) rfl rfl (hb hby at_189)
  have Sz3 : h104.size ≤ h106.size := Nat.le_of_eq (Wr.size W106).symm
  have Vt106 : Arv Z h106 b k .char (21 : Int32) (((xs.set 0 (.int (78 : Int32))).set 1 (.int (111 : Int32))).set 2 (.int (32 : Int32))) (.int (0 : Int32)) := Arv.set Ar105 q105 S105 Ng105 Ha105 Ga105 (fits_nar_char _) W106 2 rfl (by (try simp only [List.length_set]); omega)
  have N106 := Fr.snoc X106 N104 g_b
  obtain ⟨cl107, Ar107, q107, S107, Ng107, Ha107, Ga107⟩ := id Vt106
  have hin107 : ¬ ((3 : Int32) < 0 ∨ cl107.slots.size ≤ ((3 : Int32)).toNatClampNeg) := inb_of S107 ⟨by decide, by decide⟩
  obtain ⟨T108, h108, X108, e108, W108, st108⟩ := stC X106 hx hZ e106 Ar107 (j := (3 : Int32)) hin107 (g := (mkF mM 194 #[s0, s1, s2, s3, s4, s5, s6, s7, s8, s9, s10, s11, s12, s13, s14] [(.int (114 : Int32)), (.int (3 : Int32)), (.ref b), (.ref b)])) rfl rfl (hb hby at_194)
  have Sz4 : h106.size ≤ h108.size := Nat.le_of_eq (Wr.size W108).symm
  have Vt108 : Arv Z h108 b k .char (21 : Int32) ((((xs.set 0 (.int (78 : Int32))).set 1 (.int (111 : Int32))).set 2 (.int (32 : Int32))).set 3 (.int (114 : Int32))) (.int (0 : Int32)) := Arv.set Ar107 q107 S107 Ng107 Ha107 Ga107 (fits_nar_char _) W108 3 rfl (by (try simp only [List.length_set]); omega)
  have N108 := Fr.snoc X108 N106 g_b
  obtain ⟨cl109, Ar109, q109, S109, Ng109, Ha109, Ga109⟩ := id Vt108
  have hin109 : ¬ ((4 : Int32) < 0 ∨ cl109.slots.size ≤ ((4 : Int32)).toNatClampNeg) := inb_of S109 ⟨by decide, by decide⟩
  obtain ⟨T110, h110, X110, e110, W110, st110⟩ := stC X108 hx hZ e108 Ar109 (j := (4 : Int32)) hin109 (g := (mkF mM 199 #[s0, s1, s2, s3, s4, s5, s6, s7, s8, s9, s10, s11, s12, s13, s14] [(.int (111 : Int32)), (.int (4 : Int32)), (.ref b), (.ref b)])) rfl rfl (hb hby at_199)
  have Sz5 : h108.size ≤ h110.size := Nat.le_of_eq (Wr.size W110).symm
  have Vt110 : Arv Z h110 b k .char (21 : Int32) (((((xs.set 0 (.int (78 : Int32))).set 1 (.int (111 : Int32))).set 2 (.int (32 : Int32))).set 3 (.int (114 : Int32))).set 4 (.int (111 : Int32))) (.int (0 : Int32)) := Arv.set Ar109 q109 S109 Ng109 Ha109 Ga109 (fits_nar_char _) W110 4 rfl (by (try simp only [List.length_set]); omega)
  have N110 := Fr.snoc X110 N108 g_b
  obtain ⟨cl111, Ar111, q111, S111, Ng111, Ha111, Ga111⟩ := id Vt110
  have hin111 : ¬ ((5 : Int32) < 0 ∨ cl111.slots.size ≤ ((5 : Int32)).toNatClampNeg) := inb_of S111 ⟨by decide, by decide⟩
  obtain ⟨T112, h112, X112, e112, W112, st112⟩ := stC X110 hx hZ e110 Ar111 (j := (5 : Int32)) hin111 (g := (mkF mM 204 #[s0, s1, s2, s3, s4, s5, s6, s7, s8, s9, s10, s11, s12, s13, s14] [(.int (111 : Int32)), (.int (5 : Int32)), (.ref b), (.ref b)])) rfl rfl (hb hby at_204)
  have Sz6 : h110.size ≤ h112.size := Nat.le_of_eq (Wr.size W112).symm
  have Vt112 : Arv Z h112 b k .char (21 : Int32) ((((((xs.set 0 (.int (78 : Int32))).set 1 (.int (111 : Int32))).set 2 (.int (32 : Int32))).set 3 (.int (114 : Int32))).set 4 (.int (111 : Int32))).set 5 (.int (111 : Int32))) (.int (0 : Int32)) := Arv.set Ar111 q111 S111 Ng111 Ha111 Ga111 (fits_nar_char _) W112 5 rfl (by (try simp only [List.length_set]); omega)
  have N112 := Fr.snoc X112 N110 g_b
  obtain ⟨cl113, Ar113, q113, S113, Ng113, Ha113, Ga113⟩ := id Vt112
  have hin113 : ¬ ((6 : Int32) < 0 ∨ cl113.slots.size ≤ ((6 : Int32)).toNatClampNeg) := inb_of S113 ⟨by decide, by decide⟩
  obtain ⟨T114, h114, X114, e114, W114, st114⟩ := stC X112 hx hZ e112 Ar113 (j := (6 : Int32)) hin113 (g := (mkF mM 210 #[s0, s1, s2, s3, s4, s5, s6, s7, s8, s9, s10, s11, s12, s13, s14] [(.int (109 : Int32)), (.int (6 : Int32)), (.ref b), (.ref b)])) rfl rfl (hb hby at_210)
  have Sz7 : h112.size ≤ h114.size := Nat.le_of_eq (Wr.size W114).symm
  have Vt114 : Arv Z h114 b k .char (21 : Int32) (((((((xs.set 0 (.int (78 : Int32))).set 1 (.int (111 : Int32))).set 2 (.int (32 : Int32))).set 3 (.int (114 : Int32))).set 4 (.int (111 : Int32))).set 5 (.int (111 : Int32))).set 6 (.int (109 : Int32))) (.int (0 : Int32)) := Arv.set Ar113 q113 S113 Ng113 Ha113 Ga113 (fits_nar_char _) W114 6 rfl (by (try simp only [List.length_set]); omega)
  have N114 := Fr.snoc X114 N112 g_b
  obtain ⟨cl115, Ar115, q115, S115, Ng115, Ha115, Ga115⟩ := id Vt114
  have hin115 : ¬ ((7 : Int32) < 0 ∨ cl115.slots.size ≤ ((7 : Int32)).toNatClampNeg) := inb_of S115 ⟨by decide, by decide⟩
  obtain ⟨T116, h116, X116, e116, W116, st116⟩ := stC X114 hx hZ e114 Ar115 (j := (7 : Int32)) hin115 (g := (mkF mM 216 #[s0, s1, s2, s3, s4, s5, s6, s7, s8, s9, s10, s11, s12, s13, s14] [(.int (32 : Int32)), (.int (7 : Int32)), (.ref b), (.ref b)])) rfl rfl (hb hby at_216)
  have Sz8 : h114.size ≤ h116.size := Nat.le_of_eq (Wr.size W116).symm
  have Vt116 : Arv Z h116 b k .char (21 : Int32) ((((((((xs.set 0 (.int (78 : Int32))).set 1 (.int (111 : Int32))).set 2 (.int (32 : Int32))).set 3 (.int (114 : Int32))).set 4 (.int (111 : Int32))).set 5 (.int (111 : Int32))).set 6 (.int (109 : Int32))).set 7 (.int (32 : Int32))) (.int (0 : Int32)) := Arv.set Ar115 q115 S115 Ng115 Ha115 Ga115 (fits_nar_char _) W116 7 rfl (by (try simp only [List.length_set]); omega)
  have N116 := Fr.snoc X116 N114 g_b
  obtain ⟨cl117, Ar117, q117, S117, Ng117, Ha117, Ga117⟩ := id Vt116
  have hin117 : ¬ ((8 : Int32) < 0 ∨ cl117.slots.size ≤ ((8 : Int32)).toNatClampNeg) := inb_of S117 ⟨by decide, by decide⟩
  obtain ⟨T118, h118, X118, e118, W118, st118⟩ := stC X116 hx hZ e116 Ar117 (j := (8 : Int32)) hin117 (g := (mkF mM 222 #[s0, s1, s2, s3, s4, s5, s6, s7, s8, s9, s10, s11, s12, s13, s14] [(.int (104 : Int32)), (.int (8 : Int32)), (.ref b), (.ref b)])) rfl rfl (hb hby at_222)
  have Sz9 : h116.size ≤ h118.size := Nat.le_of_eq (Wr.size W118).symm
  have Vt118 : Arv Z h118 b k .char (21 : Int32) (((((((((xs.set 0 (.int (78 : Int32))).set 1 (.int (111 : Int32))).set 2 (.int (32 : Int32))).set 3 (.int (114 : Int32))).set 4 (.int (111 : Int32))).set 5 (.int (111 : Int32))).set 6 (.int (109 : Int32))).set 7 (.int (32 : Int32))).set 8 (.int (104 : Int32))) (.int (0 : Int32)) := Arv.set Ar117 q117 S117 Ng117 Ha117 Ga117 (fits_nar_char _) W118 8 rfl (by (try simp only [List.length_set]); omega)
  have N118 := Fr.snoc X118 N116 g_b
  obtain ⟨cl119, Ar119, q119, S119, Ng119, Ha119, Ga119⟩ := id Vt118
  have hin119 : ¬ ((9 : Int32) < 0 ∨ cl119.slots.size ≤ ((9 : Int32)).toNatClampNeg) := inb_of S119 ⟨by decide, by decide⟩
  obtain ⟨T120, h120, X120, e120, W120, st120⟩ := stC X118 hx hZ e118 Ar119 (j := (9 : Int32)) hin119 (g := (mkF mM 228 #[s0, s1, s2, s3, s4, s5, s6, s7, s8, s9, s10, s11, s12, s13, s14] [(.int (97 : Int32)), (.int (9 : Int32)), (.ref b), (.ref b)])) rfl rfl (hb hby at_228)
  have Sz10 : h118.size ≤ h120.size := Nat.le_of_eq (Wr.size W120).symm
  have Vt120 : Arv Z h120 b k .char (21 : Int32) ((((((((((xs.set 0 (.int (78 : Int32))).set 1 (.int (111 : Int32))).set 2 (.int (32 : Int32))).set 3 (.int (114 : Int32))).set 4 (.int (111 : Int32))).set 5 (.int (111 : Int32))).set 6 (.int (109 : Int32))).set 7 (.int (32 : Int32))).set 8 (.int (104 : Int32))).set 9 (.int (97 : Int32))) (.int (0 : Int32)) := Arv.set Ar119 q119 S119 Ng119 Ha119 Ga119 (fits_nar_char _) W120 9 rfl (by (try simp only [List.length_set]); omega)
  have N120 := Fr.snoc X120 N118 g_b
  obtain ⟨cl121, Ar121, q121, S121, Ng121, Ha121, Ga121⟩ := id Vt120
  have hin121 : ¬ ((10 : Int32) < 0 ∨ cl121.slots.size ≤ ((10 : Int32)).toNatClampNeg) := inb_of S121 ⟨by decide, by decide⟩
  obtain ⟨T122, h122, X122, e122, W122, st122⟩ := stC X120 hx hZ e120 Ar121 (j := (10 : Int32)) hin121 (g := (mkF mM 234 #[s0, s1, s2, s3, s4, s5, s6, s7, s8, s9, s10, s11, s12, s13, s14] [(.int (115 : Int32)), (.int (10 : Int32)), (.ref b), (.ref b)])) rfl rfl (hb hby at_234)
  have Sz11 : h120.size ≤ h122.size := Nat.le_of_eq (Wr.size W122).symm
  have Vt122 : Arv Z h122 b k .char (21 : Int32) (((((((((((xs.set 0 (.int (78 : Int32))).set 1 (.int (111 : Int32))).set 2 (.int (32 : Int32))).set 3 (.int (114 : Int32))).set 4 (.int (111 : Int32))).set 5 (.int (111 : Int32))).set 6 (.int (109 : Int32))).set 7 (.int (32 : Int32))).set 8 (.int (104 : Int32))).set 9 (.int (97 : Int32))).set 10 (.int (115 : Int32))) (.int (0 : Int32)) := Arv.set Ar121 q121 S121 Ng121 Ha121 Ga121 (fits_nar_char _) W122 10 rfl (by (try simp only [List.length_set]); omega)
  have N122 := Fr.snoc X122 N120 g_b
  obtain ⟨cl123, Ar123, q123, S123, Ng123, Ha123, Ga123⟩ := id Vt122
  have hin123 : ¬ ((11 : Int32) < 0 ∨ cl123.slots.size ≤ ((11 : Int32)).toNatClampNeg) := inb_of S123 ⟨by decide, by decide⟩
  obtain ⟨T124, h124, X124, e124, W124, st124⟩ := stC X122 hx hZ e122 Ar123 (j := (11 : Int32)) hin123 (g := (mkF mM 240 #[s0, s1, s2, s3, s4, s5, s6, s7, s8, s9, s10, s11, s12, s13, s14] [(.int (32 : Int32)), (.int (11 : Int32)), (.ref b), (.ref b)])) rfl rfl (hb hby at_240)
  have Sz12 : h122.size ≤ h124.size := Nat.le_of_eq (Wr.size W124).symm
  have Vt124 : Arv Z h124 b k .char (21 : Int32) ((((((((((((xs.set 0 (.int (78 : Int32))).set 1 (.int (111 : Int32))).set 2 (.int (32 : Int32))).set 3 (.int (114 : Int32))).set 4 (.int (111 : Int32))).set 5 (.int (111 : Int32))).set 6 (.int (109 : Int32))).set 7 (.int (32 : Int32))).set 8 (.int (104 : Int32))).set 9 (.int (97 : Int32))).set 10 (.int (115 : Int32))).set 11 (.int (32 : Int32))) (.int (0 : Int32)) := Arv.set Ar123 q123 S123 Ng123 Ha123 Ga123 (fits_nar_char _) W124 11 rfl (by (try simp only [List.length_set]); omega)
  have N124 := Fr.snoc X124 N122 g_b
  obtain ⟨cl125, Ar125, q125, S125, Ng125, Ha125, Ga125⟩ := id Vt124
  have hin125 : ¬ ((12 : Int32) < 0 ∨ cl125.slots.size ≤ ((12 : Int32)).toNatClampNeg) := inb_of S125 ⟨by decide, by decide⟩
  obtain ⟨T126, h126, X126, e126, W126, st126⟩ := stC X124 hx hZ e124 Ar125 (j := (12 : Int32)) hin125 (g := (mkF mM 246 #[s0, s1, s2, s3, s4, s5, s6, s7, s8, s9, s10, s11, s12, s13, s14] [(.int (105 : Int32)), (.int (12 : Int32)), (.ref b), (.ref b)])) rfl rfl (hb hby at_246)
  have Sz13 : h124.size ≤ h126.size := Nat.le_of_eq (Wr.size W126).symm
  have Vt126 : Arv Z h126 b k .char (21 : Int32) (((((((((((((xs.set 0 (.int (78 : Int32))).set 1 (.int (111 : Int32))).set 2 (.int (32 : Int32))).set 3 (.int (114 : Int32))).set 4 (.int (111 : Int32))).set 5 (.int (111 : Int32))).set 6 (.int (109 : Int32))).set 7 (.int (32 : Int32))).set 8 (.int (104 : Int32))).set 9 (.int (97 : Int32))).set 10 (.int (115 : Int32))).set 11 (.int (32 : Int32))).set 12 (.int (105 : Int32))) (.int (0 : Int32)) := Arv.set Ar125 q125 S125 Ng125 Ha125 Ga125 (fits_nar_char _) W126 12 rfl (by (try simp only [List.length_set]); omega)
  have N126 := Fr.snoc X126 N124 g_b
  obtain ⟨cl127, Ar127, q127, S127, Ng127, Ha127, Ga127⟩ := id Vt126
  have hin127 : ¬ ((13 : Int32) < 0 ∨ cl127.slots.size ≤ ((13 : Int32)).toNatClampNeg) := inb_of S127 ⟨by decide, by decide⟩
  obtain ⟨T128, h128, X128, e128, W128, st128⟩ := stC X126 hx hZ e126 Ar127 (j := (13 : Int32)) hin127 (g := (mkF mM 252 #[s0, s1, s2, s3, s4, s5, s6, s7, s8, s9, s10, s11, s12, s13, s14] [(.int (100 : Int32)), (.int (13 : Int32)), (.ref b), (.ref b)])) rfl rfl (hb hby at_252)
  have Sz14 : h126.size ≤ h128.size := Nat.le_of_eq (Wr.size W128).symm
  have Vt128 : Arv Z h128 b k .char (21 : Int32) ((((((((((((((xs.set 0 (.int (78 : Int32))).set 1 (.int (111 : Int32))).set 2 (.int (32 : Int32))).set 3 (.int (114 : Int32))).set 4 (.int (111 : Int32))).set 5 (.int (111 : Int32))).set 6 (.int (109 : Int32))).set 7 (.int (32 : Int32))).set 8 (.int (104 : Int32))).set 9 (.int (97 : Int32))).set 10 (.int (115 : Int32))).set 11 (.int (32 : Int32))).set 12 (.int (105 : Int32))).set 13 (.int (100 : Int32))) (.int (0 : Int32)) := Arv.set Ar127 q127 S127 Ng127 Ha127 Ga127 (fits_nar_char _) W128 13 rfl (by (try simp only [List.length_set]); omega)
  have N128 := Fr.snoc X128 N126 g_b
  obtain ⟨cl129, Ar129, q129, S129, Ng129, Ha129, Ga129⟩ := id Vt128
  have hin129 : ¬ ((14 : Int32) < 0 ∨ cl129.slots.size ≤ ((14 : Int32)).toNatClampNeg) := inb_of S129 ⟨by decide, by decide⟩
  obtain ⟨T130, h130, X130, e130, W130, st130⟩ := stC X128 hx hZ e128 Ar129 (j := (14 : Int32)) hin129 (g := (mkF mM 258 #[s0, s1, s2, s3, s4, s5, s6, s7, s8, s9, s10, s11, s12, s13, s14] [(.int (32 : Int32)), (.int (14 : Int32)), (.ref b), (.ref b)])) rfl rfl (hb hby at_258)
  have Sz15 : h128.size ≤ h130.size := Nat.le_of_eq (Wr.size W130).symm
  have Vt130 : Arv Z h130 b k .char (21 : Int32) (((((((((((((((xs.set 0 (.int (78 : Int32))).set 1 (.int (111 : Int32))).set 2 (.int (32 : Int32))).set 3 (.int (114 : Int32))).set 4 (.int (111 : Int32))).set 5 (.int (111 : Int32))).set 6 (.int (109 : Int32))).set 7 (.int (32 : Int32))).set 8 (.int (104 : Int32))).set 9 (.int (97 : Int32))).set 10 (.int (115 : Int32))).set 11 (.int (32 : Int32))).set 12 (.int (105 : Int32))).set 13 (.int (100 : Int32))).set 14 (.int (32 : Int32))) (.int (0 : Int32)) := Arv.set Ar129 q129 S129 Ng129 Ha129 Ga129 (fits_nar_char _) W130 14 rfl (by (try simp only [List.length_set]); omega)
  have N130 := Fr.snoc X130 N128 g_b
  obtain ⟨cl131, Ar131, q131, S131, Ng131, Ha131, Ga131⟩ := id Vt130
  have hin131 : ¬ ((15 : Int32) < 0 ∨ cl131.slots.size ≤ ((15 : Int32)).toNatClampNeg) := inb_of S131 ⟨by decide, by decide⟩
  obtain ⟨T132, h132, X132, e132, W132, st132⟩ := stC X130 hx hZ e130 Ar131 (j := (15 : Int32)) hin131 (g := (mkF mM 264 #[s0, s1, s2, s3, s4, s5, s6, s7, s8, s9, s10, s11, s12, s13, s14] [(.int (39 : Int32)), (.int (15 : Int32)), (.ref b), (.ref b)])) rfl rfl (hb hby at_264)
  have Sz16 : h130.size ≤ h132.size := Nat.le_of_eq (Wr.size W132).symm
  have Vt132 : Arv Z h132 b k .char (21 : Int32) ((((((((((((((((xs.set 0 (.int (78 : Int32))).set 1 (.int (111 : Int32))).set 2 (.int (32 : Int32))).set 3 (.int (114 : Int32))).set 4 (.int (111 : Int32))).set 5 (.int (111 : Int32))).set 6 (.int (109 : Int32))).set 7 (.int (32 : Int32))).set 8 (.int (104 : Int32))).set 9 (.int (97 : Int32))).set 10 (.int (115 : Int32))).set 11 (.int (32 : Int32))).set 12 (.int (105 : Int32))).set 13 (.int (100 : Int32))).set 14 (.int (32 : Int32))).set 15 (.int (39 : Int32))) (.int (0 : Int32)) := Arv.set Ar131 q131 S131 Ng131 Ha131 Ga131 (fits_nar_char _) W132 15 rfl (by (try simp only [List.length_set]); omega)
  have N132 := Fr.snoc X132 N130 g_b
  obtain ⟨cl133, Ar133, q133, S133, Ng133, Ha133, Ga133⟩ := id Vt132
  have hin133 : ¬ ((16 : Int32) < 0 ∨ cl133.slots.size ≤ ((16 : Int32)).toNatClampNeg) := inb_of S133 ⟨by decide, by decide⟩
  obtain ⟨T134, h134, X134, e134, W134, st134⟩ := stC X132 hx hZ e132 Ar133 (j := (16 : Int32)) hin133 (g := (mkF mM 269 #[s0, s1, s2, s3, s4, s5, s6, s7, s8, s9, s10, s11, s12, s13, s14] [(.int (0 : Int32)), (.int (16 : Int32)), (.ref b), (.ref b)])) rfl rfl (hb hby at_269)
  have Sz17 : h132.size ≤ h134.size := Nat.le_of_eq (Wr.size W134).symm
  have Vt134 : Arv Z h134 b k .char (21 : Int32) (((((((((((((((((xs.set 0 (.int (78 : Int32))).set 1 (.int (111 : Int32))).set 2 (.int (32 : Int32))).set 3 (.int (114 : Int32))).set 4 (.int (111 : Int32))).set 5 (.int (111 : Int32))).set 6 (.int (109 : Int32))).set 7 (.int (32 : Int32))).set 8 (.int (104 : Int32))).set 9 (.int (97 : Int32))).set 10 (.int (115 : Int32))).set 11 (.int (32 : Int32))).set 12 (.int (105 : Int32))).set 13 (.int (100 : Int32))).set 14 (.int (32 : Int32))).set 15 (.int (39 : Int32))).set 16 (.int (0 : Int32))) (.int (0 : Int32)) := Arv.set Ar133 q133 S133 Ng133 Ha133 Ga133 (fits_nar_char _) W134 16 rfl (by (try simp only [List.length_set]); omega)
  have N134 := Fr.snoc X134 N132 g_b
  obtain ⟨cl135, Ar135, q135, S135, Ng135, Ha135, Ga135⟩ := id Vt134
  have hin135 : ¬ ((17 : Int32) < 0 ∨ cl135.slots.size ≤ ((17 : Int32)).toNatClampNeg) := inb_of S135 ⟨by decide, by decide⟩
  obtain ⟨T136, h136, X136, e136, W136, st136⟩ := stC X134 hx hZ e134 Ar135 (j := (17 : Int32)) hin135 (g := (mkF mM 274 #[s0, s1, s2, s3, s4, s5, s6, s7, s8, s9, s10, s11, s12, s13, s14] [(.int (0 : Int32)), (.int (17 : Int32)), (.ref b), (.ref b)])) rfl rfl (hb hby at_274)
  have Sz18 : h134.size ≤ h136.size := Nat.le_of_eq (Wr.size W136).symm
  have Vt136 : Arv Z h136 b k .char (21 : Int32) ((((((((((((((((((xs.set 0 (.int (78 : Int32))).set 1 (.int (111 : Int32))).set 2 (.int (32 : Int32))).set 3 (.int (114 : Int32))).set 4 (.int (111 : Int32))).set 5 (.int (111 : Int32))).set 6 (.int (109 : Int32))).set 7 (.int (32 : Int32))).set 8 (.int (104 : Int32))).set 9 (.int (97 : Int32))).set 10 (.int (115 : Int32))).set 11 (.int (32 : Int32))).set 12 (.int (105 : Int32))).set 13 (.int (100 : Int32))).set 14 (.int (32 : Int32))).set 15 (.int (39 : Int32))).set 16 (.int (0 : Int32))).set 17 (.int (0 : Int32))) (.int (0 : Int32)) := Arv.set Ar135 q135 S135 Ng135 Ha135 Ga135 (fits_nar_char _) W136 17 rfl (by (try simp only [List.length_set]); omega)
  have N136 := Fr.snoc X136 N134 g_b
  obtain ⟨cl137, Ar137, q137, S137, Ng137, Ha137, Ga137⟩ := id Vt136
  have hin137 : ¬ ((18 : Int32) < 0 ∨ cl137.slots.size ≤ ((18 : Int32)).toNatClampNeg) := inb_of S137 ⟨by decide, by decide⟩
  obtain ⟨T138, h138, X138, e138, W138, st138⟩ := stC X136 hx hZ e136 Ar137 (j := (18 : Int32)) hin137 (g := (mkF mM 279 #[s0, s1, s2, s3, s4, s5, s6, s7, s8, s9, s10, s11, s12, s13, s14] [(.int (0 : Int32)), (.int (18 : Int32)), (.ref b), (.ref b)])) rfl rfl (hb hby at_279)
  have Sz19 : h136.size ≤ h138.size := Nat.le_of_eq (Wr.size W138).symm
  have Vt138 : Arv Z h138 b k .char (21 : Int32) (((((((((((((((((((xs.set 0 (.int (78 : Int32))).set 1 (.int (111 : Int32))).set 2 (.int (32 : Int32))).set 3 (.int (114 : Int32))).set 4 (.int (111 : Int32))).set 5 (.int (111 : Int32))).set 6 (.int (109 : Int32))).set 7 (.int (32 : Int32))).set 8 (.int (104 : Int32))).set 9 (.int (97 : Int32))).set 10 (.int (115 : Int32))).set 11 (.int (32 : Int32))).set 12 (.int (105 : Int32))).set 13 (.int (100 : Int32))).set 14 (.int (32 : Int32))).set 15 (.int (39 : Int32))).set 16 (.int (0 : Int32))).set 17 (.int (0 : Int32))).set 18 (.int (0 : Int32))) (.int (0 : Int32)) := Arv.set Ar137 q137 S137 Ng137 Ha137 Ga137 (fits_nar_char _) W138 18 rfl (by (try simp only [List.length_set]); omega)
  have N138 := Fr.snoc X138 N136 g_b
  obtain ⟨cl139, Ar139, q139, S139, Ng139, Ha139, Ga139⟩ := id Vt138
  have hin139 : ¬ ((19 : Int32) < 0 ∨ cl139.slots.size ≤ ((19 : Int32)).toNatClampNeg) := inb_of S139 ⟨by decide, by decide⟩
  obtain ⟨T140, h140, X140, e140, W140, st140⟩ := stC X138 hx hZ e138 Ar139 (j := (19 : Int32)) hin139 (g := (mkF mM 284 #[s0, s1, s2, s3, s4, s5, s6, s7, s8, s9, s10, s11, s12, s13, s14] [(.int (0 : Int32)), (.int (19 : Int32)), (.ref b), (.ref b)])) rfl rfl (hb hby at_284)
  have Sz20 : h138.size ≤ h140.size := Nat.le_of_eq (Wr.size W140).symm
  have Vt140 : Arv Z h140 b k .char (21 : Int32) ((((((((((((((((((((xs.set 0 (.int (78 : Int32))).set 1 (.int (111 : Int32))).set 2 (.int (32 : Int32))).set 3 (.int (114 : Int32))).set 4 (.int (111 : Int32))).set 5 (.int (111 : Int32))).set 6 (.int (109 : Int32))).set 7 (.int (32 : Int32))).set 8 (.int (104 : Int32))).set 9 (.int (97 : Int32))).set 10 (.int (115 : Int32))).set 11 (.int (32 : Int32))).set 12 (.int (105 : Int32))).set 13 (.int (100 : Int32))).set 14 (.int (32 : Int32))).set 15 (.int (39 : Int32))).set 16 (.int (0 : Int32))).set 17 (.int (0 : Int32))).set 18 (.int (0 : Int32))).set 19 (.int (0 : Int32))) (.int (0 : Int32)) := Arv.set Ar139 q139 S139 Ng139 Ha139 Ga139 (fits_nar_char _) W140 19 rfl (by (try simp only [List.length_set]); omega)
  have N140 := Fr.snoc X140 N138 g_b
  obtain ⟨cl141, Ar141, q141, S141, Ng141, Ha141, Ga141⟩ := id Vt140
  have hin141 : ¬ ((20 : Int32) < 0 ∨ cl141.slots.size ≤ ((20 : Int32)).toNatClampNeg) := inb_of S141 ⟨by decide, by decide⟩
  obtain ⟨T142, h142, X142, e142, W142, st142⟩ := stC X140 hx hZ e140 Ar141 (j := (20 : Int32)) hin141 (g := (mkF mM 289 #[s0, s1, s2, s3, s4, s5, s6, s7, s8, s9, s10, s11, s12, s13, s14] [(.int (0 : Int32)), (.int (20 : Int32)), (.ref b), (.ref b)])) rfl rfl (hb hby at_289)
  have Sz21 : h140.size ≤ h142.size := Nat.le_of_eq (Wr.size W142).symm
  have Vt142 : Arv Z h142 b k .char (21 : Int32) (((((((((((((((((((((xs.set 0 (.int (78 : Int32))).set 1 (.int (111 : Int32))).set 2 (.int (32 : Int32))).set 3 (.int (114 : Int32))).set 4 (.int (111 : Int32))).set 5 (.int (111 : Int32))).set 6 (.int (109 : Int32))).set 7 (.int (32 : Int32))).set 8 (.int (104 : Int32))).set 9 (.int (97 : Int32))).set 10 (.int (115 : Int32))).set 11 (.int (32 : Int32))).set 12 (.int (105 : Int32))).set 13 (.int (100 : Int32))).set 14 (.int (32 : Int32))).set 15 (.int (39 : Int32))).set 16 (.int (0 : Int32))).set 17 (.int (0 : Int32))).set 18 (.int (0 : Int32))).set 19 (.int (0 : Int32))).set 20 (.int (0 : Int32))) (.int (0 : Int32)) := Arv.set Ar141 q141 S141 Ng141 Ha141 Ga141 (fits_nar_char _) W142 20 rfl (by (try simp only [List.length_set]); omega)
  have N142 := Fr.snoc X142 N140 g_b
  have K143 : Keep h0 h102 [b] := (Keep.refl h0 [b]).wr W102 (Or.inl (List.mem_of_getElem? (i := 0) rfl))
  have K144 : Keep h0 h104 [b] := K143.wr W104 (Or.inl (List.mem_of_getElem? (i := 0) rfl))
  have K145 : Keep h0 h106 [b] := K144.wr W106 (Or.inl (List.mem_of_getElem? (i := 0) rfl))
  have K146 : Keep h0 h108 [b] := K145.wr W108 (Or.inl (List.mem_of_getElem? (i := 0) rfl))
  have K147 : Keep h0 h110 [b] := K146.wr W110 (Or.inl (List.mem_of_getElem? (i := 0) rfl))
  have K148 : Keep h0 h112 [b] := K147.wr W112 (Or.inl (List.mem_of_getElem? (i := 0) rfl))
  have K149 : Keep h0 h114 [b] := K148.wr W114 (Or.inl (List.mem_of_getElem? (i := 0) rfl))
  have K150 : Keep h0 h116 [b] := K149.wr W116 (Or.inl (List.mem_of_getElem? (i := 0) rfl))
  have K151 : Keep h0 h118 [b] := K150.wr W118 (Or.inl (List.mem_of_getElem? (i := 0) rfl))
  have K152 : Keep h0 h120 [b] := K151.wr W120 (Or.inl (List.mem_of_getElem? (i := 0) rfl))
  have K153 : Keep h0 h122 [b] := K152.wr W122 (Or.inl (List.mem_of_getElem? (i := 0) rfl))
  have K154 : Keep h0 h124 [b] := K153.wr W124 (Or.inl (List.mem_of_getElem? (i := 0) rfl))
  have K155 : Keep h0 h126 [b] := K154.wr W126 (Or.inl (List.mem_of_getElem? (i := 0) rfl))
  have K156 : Keep h0 h128 [b] := K155.wr W128 (Or.inl (List.mem_of_getElem? (i := 0) rfl))
  have K157 : Keep h0 h130 [b] := K156.wr W130 (Or.inl (List.mem_of_getElem? (i := 0) rfl))
  have K158 : Keep h0 h132 [b] := K157.wr W132 (Or.inl (List.mem_of_getElem? (i := 0) rfl))
  have K159 : Keep h0 h134 [b] := K158.wr W134 (Or.inl (List.mem_of_getElem? (i := 0) rfl))
  have K160 : Keep h0 h136 [b] := K159.wr W136 (Or.inl (List.mem_of_getElem? (i := 0) rfl))
  have K161 : Keep h0 h138 [b] := K160.wr W138 (Or.inl (List.mem_of_getElem? (i := 0) rfl))
  have K162 : Keep h0 h140 [b] := K161.wr W140 (Or.inl (List.mem_of_getElem? (i := 0) rfl))
  have K163 : Keep h0 h142 [b] := K162.wr W142 (Or.inl (List.mem_of_getElem? (i := 0) rfl))
  refine ⟨T142, h142, _, X142, e142, N142, K163, Vt142, fun t' hk' => ?_⟩
  show SS pP eE bS s₁ (mkF mM 175 #[s0, s1, s2, s3, s4, s5, s6, s7, s8, s9, s10, s11, s12, s13, s14] [(.ref b)]) _
  refine XS.dup X0.here hx rfl (hb hby at_175) rfl rfl ?_
  refine XS.iconst X0.here hx rfl (hb hby at_176) ?_
  refine XS.bipush X0.here hx rfl (hb hby at_177) ?_
  show SS pP eE bS s₁ (mkF mM 179 #[s0, s1, s2, s3, s4, s5, s6, s7, s8, s9, s10, s11, s12, s13, s14] [(.int (78 : Int32)), (.int (0 : Int32)), (.ref b), (.ref b)]) _
  refine st102 _ ?_
  show SS pP eE bS T102 (mkF mM 180 #[s0, s1, s2, s3, s4, s5, s6, s7, s8, s9, s10, s11, s12, s13, s14] [(.ref b)]) _
  refine XS.dup X102.here hx rfl (hb hby at_180) rfl rfl ?_
  refine XS.iconst X102.here hx rfl (hb hby at_181) ?_
  refine XS.bipush X102.here hx rfl (hb hby at_182) ?_
  show SS pP eE bS T102 (mkF mM 184 #[s0, s1, s2, s3, s4, s5, s6, s7, s8, s9, s10, s11, s12, s13, s14] [(.int (111 : Int32)), (.int (1 : Int32)), (.ref b), (.ref b)]) _
  refine st104 _ ?_
  show SS pP eE bS T104 (mkF mM 185 #[s0, s1, s2, s3, s4, s5, s6, s7, s8, s9, s10, s11, s12, s13, s14] [(.ref b)]) _
  refine XS.dup X104.here hx rfl (hb hby at_185) rfl rfl ?_
  refine XS.iconst X104.here hx rfl (hb hby at_186) ?_
  refine XS.bipush X104.here hx rfl (hb hby at_187) ?_
  show SS pP eE bS T104 (mkF mM 189 #[s0, s1, s2, s3, s4, s5, s6, s7, s8, s9, s10, s11, s12, s13, s14] [(.int (32 : Int32)), (.int (2 : Int32)), (.ref b), (.ref b)]) _
  refine st106 _ ?_
  show SS pP eE bS T106 (mkF mM 190 #[s0, s1, s2, s3, s4, s5, s6, s7, s8, s9, s10, s11, s12, s13, s14] [(.ref b)]) _
  refine XS.dup X106.here hx rfl (hb hby at_190) rfl rfl ?_
  refine XS.iconst X106.here hx rfl (hb hby at_191) ?_
  refine XS.bipush X106.here hx rfl (hb hby at_192) ?_
  show SS pP eE bS T106 (mkF mM 194 #[s0, s1, s2, s3, s4, s5, s6, s7, s8, s9, s10, s11, s12, s13, s14] [(.int (114 : Int32)), (.int (3 : Int32)), (.ref b), (.ref b)]) _
  refine st108 _ ?_
  show SS pP eE bS T108 (mkF mM 195 #[s0, s1, s2, s3, s4, s5, s6, s7, s8, s9, s10, s11, s12, s13, s14] [(.ref b)]) _
  refine XS.dup X108.here hx rfl (hb hby at_195) rfl rfl ?_
  refine XS.iconst X108.here hx rfl (hb hby at_196) ?_
  refine XS.bipush X108.here hx rfl (hb hby at_197) ?_
  show SS pP eE bS T108 (mkF mM 199 #[s0, s1, s2, s3, s4, s5, s6, s7, s8, s9, s10, s11, s12, s13, s14] [(.int (111 : Int32)), (.int (4 : Int32)), (.ref b), (.ref b)]) _
  refine st110 _ ?_
  show SS pP eE bS T110 (mkF mM 200 #[s0, s1, s2, s3, s4, s5, s6, s7, s8, s9, s10, s11, s12, s13, s14] [(.ref b)]) _
  refine XS.dup X110.here hx rfl (hb hby at_200) rfl rfl ?_
  refine XS.iconst X110.here hx rfl (hb hby at_201) ?_
  refine XS.bipush X110.here hx rfl (hb hby at_202) ?_
  show SS pP eE bS T110 (mkF mM 204 #[s0, s1, s2, s3, s4, s5, s6, s7, s8, s9, s10, s11, s12, s13, s14] [(.int (111 : Int32)), (.int (5 : Int32)), (.ref b), (.ref b)]) _
  refine st112 _ ?_
  show SS pP eE bS T112 (mkF mM 205 #[s0, s1, s2, s3, s4, s5, s6, s7, s8, s9, s10, s11, s12, s13, s14] [(.ref b)]) _
  refine XS.dup X112.here hx rfl (hb hby at_205) rfl rfl ?_
  refine XS.bipush X112.here hx rfl (hb hby at_206) ?_
  refine XS.bipush X112.here hx rfl (hb hby at_208) ?_
  show SS pP eE bS T112 (mkF mM 210 #[s0, s1, s2, s3, s4, s5, s6, s7, s8, s9, s10, s11, s12, s13, s14] [(.int (109 : Int32)), (.int (6 : Int32)), (.ref b), (.ref b)]) _
  refine st114 _ ?_
  show SS pP eE bS T114 (mkF mM 211 #[s0, s1, s2, s3, s4, s5, s6, s7, s8, s9, s10, s11, s12, s13, s14] [(.ref b)]) _
  refine XS.dup X114.here hx rfl (hb hby at_211) rfl rfl ?_
  refine XS.bipush X114.here hx rfl (hb hby at_212) ?_
  refine XS.bipush X114.here hx rfl (hb hby at_214) ?_
  show SS pP eE bS T114 (mkF mM 216 #[s0, s1, s2, s3, s4, s5, s6, s7, s8, s9, s10, s11, s12, s13, s14] [(.int (32 : Int32)), (.int (7 : Int32)), (.ref b), (.ref b)]) _
  refine st116 _ ?_
  show SS pP eE bS T116 (mkF mM 217 #[s0, s1, s2, s3, s4, s5, s6, s7, s8, s9, s10, s11, s12, s13, s14] [(.ref b)]) _
  refine XS.dup X116.here hx rfl (hb hby at_217) rfl rfl ?_
  refine XS.bipush X116.here hx rfl (hb hby at_218) ?_
  refine XS.bipush X116.here hx rfl (hb hby at_220) ?_
  show SS pP eE bS T116 (mkF mM 222 #[s0, s1, s2, s3, s4, s5, s6, s7, s8, s9, s10, s11, s12, s13, s14] [(.int (104 : Int32)), (.int (8 : Int32)), (.ref b), (.ref b)]) _
  refine st118 _ ?_
  show SS pP eE bS T118 (mkF mM 223 #[s0, s1, s2, s3, s4, s5, s6, s7, s8, s9, s10, s11, s12, s13, s14] [(.ref b)]) _
  refine XS.dup X118.here hx rfl (hb hby at_223) rfl rfl ?_
  refine XS.bipush X118.here hx rfl (hb hby at_224) ?_
  refine XS.bipush X118.here hx rfl (hb hby at_226) ?_
  show SS pP eE bS T118 (mkF mM 228 #[s0, s1, s2, s3, s4, s5, s6, s7, s8, s9, s10, s11, s12, s13, s14] [(.int (97 : Int32)), (.int (9 : Int32)), (.ref b), (.ref b)]) _
  refine st120 _ ?_
  show SS pP eE bS T120 (mkF mM 229 #[s0, s1, s2, s3, s4, s5, s6, s7, s8, s9, s10, s11, s12, s13, s14] [(.ref b)]) _
  refine XS.dup X120.here hx rfl (hb hby at_229) rfl rfl ?_
  refine XS.bipush X120.here hx rfl (hb hby at_230) ?_
  refine XS.bipush X120.here hx rfl (hb hby at_232) ?_
  show SS pP eE bS T120 (mkF mM 234 #[s0, s1, s2, s3, s4, s5, s6, s7, s8, s9, s10, s11, s12, s13, s14] [(.int (115 : Int32)), (.int (10 : Int32)), (.ref b), (.ref b)]) _
  refine st122 _ ?_
  show SS pP eE bS T122 (mkF mM 235 #[s0, s1, s2, s3, s4, s5, s6, s7, s8, s9, s10, s11, s12, s13, s14] [(.ref b)]) _
  refine XS.dup X122.here hx rfl (hb hby at_235) rfl rfl ?_
  refine XS.bipush X122.here hx rfl (hb hby at_236) ?_
  refine XS.bipush X122.here hx rfl (hb hby at_238) ?_
  show SS pP eE bS T122 (mkF mM 240 #[s0, s1, s2, s3, s4, s5, s6, s7, s8, s9, s10, s11, s12, s13, s14] [(.int (32 : Int32)), (.int (11 : Int32)), (.ref b), (.ref b)]) _
  refine st124 _ ?_
  show SS pP eE bS T124 (mkF mM 241 #[s0, s1, s2, s3, s4, s5, s6, s7, s8, s9, s10, s11, s12, s13, s14] [(.ref b)]) _
  refine XS.dup X124.here hx rfl (hb hby at_241) rfl rfl ?_
  refine XS.bipush X124.here hx rfl (hb hby at_242) ?_
  refine XS.bipush X124.here hx rfl (hb hby at_244) ?_
  show SS pP eE bS T124 (mkF mM 246 #[s0, s1, s2, s3, s4, s5, s6, s7, s8, s9, s10, s11, s12, s13, s14] [(.int (105 : Int32)), (.int (12 : Int32)), (.ref b), (.ref b)]) _
  refine st126 _ ?_
  show SS pP eE bS T126 (mkF mM 247 #[s0, s1, s2, s3, s4, s5, s6, s7, s8, s9, s10, s11, s12, s13, s14] [(.ref b)]) _
  refine XS.dup X126.here hx rfl (hb hby at_247) rfl rfl ?_
  refine XS.bipush X126.here hx rfl (hb hby at_248) ?_
  refine XS.bipush X126.here hx rfl (hb hby at_250) ?_
  show SS pP eE bS T126 (mkF mM 252 #[s0, s1, s2, s3, s4, s5, s6, s7, s8, s9, s10, s11, s12, s13, s14] [(.int (100 : Int32)), (.int (13 : Int32)), (.ref b), (.ref b)]) _
  refine st128 _ ?_
  show SS pP eE bS T128 (mkF mM 253 #[s0, s1, s2, s3, s4, s5, s6, s7, s8, s9, s10, s11, s12, s13, s14] [(.ref b)]) _
  refine XS.dup X128.here hx rfl (hb hby at_253) rfl rfl ?_
  refine XS.bipush X128.here hx rfl (hb hby at_254) ?_
  refine XS.bipush X128.here hx rfl (hb hby at_256) ?_
  show SS pP eE bS T128 (mkF mM 258 #[s0, s1, s2, s3, s4, s5, s6, s7, s8, s9, s10, s11, s12, s13, s14] [(.int (32 : Int32)), (.int (14 : Int32)), (.ref b), (.ref b)]) _
  refine st130 _ ?_
  show SS pP eE bS T130 (mkF mM 259 #[s0, s1, s2, s3, s4, s5, s6, s7, s8, s9, s10, s11, s12, s13, s14] [(.ref b)]) _
  refine XS.dup X130.here hx rfl (hb hby at_259) rfl rfl ?_
  refine XS.bipush X130.here hx rfl (hb hby at_260) ?_
  refine XS.bipush X130.here hx rfl (hb hby at_262) ?_
  show SS pP eE bS T130 (mkF mM 264 #[s0, s1, s2, s3, s4, s5, s6, s7, s8, s9, s10, s11, s12, s13, s14] [(.int (39 : Int32)), (.int (15 : Int32)), (.ref b), (.ref b)]) _
  refine st132 _ ?_
  show SS pP eE bS T132 (mkF mM 265 #[s0, s1, s2, s3, s4, s5, s6, s7, s8, s9, s10, s11, s12, s13, s14] [(.ref b)]) _
  refine XS.dup X132.here hx rfl (hb hby at_265) rfl rfl ?_
  refine XS.bipush X132.here hx rfl (hb hby at_266) ?_
  refine XS.iconst X132.here hx rfl (hb hby at_268) ?_
  show SS pP eE bS T132 (mkF mM 269 #[s0, s1, s2, s3, s4, s5, s6, s7, s8, s9, s10, s11, s12, s13, s14] [(.int (0 : Int32)), (.int (16 : Int32)), (.ref b), (.ref b)]) _
  refine st134 _ ?_
  show SS pP eE bS T134 (mkF mM 270 #[s0, s1, s2, s3, s4, s5, s6, s7, s8, s9, s10, s11, s12, s13, s14] [(.ref b)]) _
  refine XS.dup X134.here hx rfl (hb hby at_270) rfl rfl ?_
  refine XS.bipush X134.here hx rfl (hb hby at_271) ?_
  refine XS.iconst X134.here hx rfl (hb hby at_273) ?_
  show SS pP eE bS T134 (mkF mM 274 #[s0, s1, s2, s3, s4, s5, s6, s7, s8, s9, s10, s11, s12, s13, s14] [(.int (0 : Int32)), (.int (17 : Int32)), (.ref b), (.ref b)]) _
  refine st136 _ ?_
  show SS pP eE bS T136 (mkF mM 275 #[s0, s1, s2, s3, s4, s5, s6, s7, s8, s9, s10, s11, s12, s13, s14] [(.ref b)]) _
  refine XS.dup X136.here hx rfl (hb hby at_275) rfl rfl ?_
  refine XS.bipush X136.here hx rfl (hb hby at_276) ?_
  refine XS.iconst X136.here hx rfl (hb hby at_278) ?_
  show SS pP eE bS T136 (mkF mM 279 #[s0, s1, s2, s3, s4, s5, s6, s7, s8, s9, s10, s11, s12, s13, s14] [(.int (0 : Int32)), (.int (18 : Int32)), (.ref b), (.ref b)]) _
  refine st138 _ ?_
  show SS pP eE bS T138 (mkF mM 280 #[s0, s1, s2, s3, s4, s5, s6, s7, s8, s9, s10, s11, s12, s13, s14] [(.ref b)]) _
  refine XS.dup X138.here hx rfl (hb hby at_280) rfl rfl ?_
  refine XS.bipush X138.here hx rfl (hb hby at_281) ?_
  refine XS.iconst X138.here hx rfl (hb hby at_283) ?_
  show SS pP eE bS T138 (mkF mM 284 #[s0, s1, s2, s3, s4, s5, s6, s7, s8, s9, s10, s11, s12, s13, s14] [(.int (0 : Int32)), (.int (19 : Int32)), (.ref b), (.ref b)]) _
  refine st140 _ ?_
  show SS pP eE bS T140 (mkF mM 285 #[s0, s1, s2, s3, s4, s5, s6, s7, s8, s9, s10, s11, s12, s13, s14] [(.ref b)]) _
  refine XS.dup X140.here hx rfl (hb hby at_285) rfl rfl ?_
  refine XS.bipush X140.here hx rfl (hb hby at_286) ?_
  refine XS.iconst X140.here hx rfl (hb hby at_288) ?_
  show SS pP eE bS T140 (mkF mM 289 #[s0, s1, s2, s3, s4, s5, s6, s7, s8, s9, s10, s11, s12, s13, s14] [(.int (0 : Int32)), (.int (20 : Int32)), (.ref b), (.ref b)]) _
  refine st142 _ ?_
  exact hk'
abbrev Lc_fill2_0 (s0 : Slot) (s1 : Slot) (s2 : Slot) (s3 : Slot) (s4 : Slot) (s5 : Slot) (y6 : Int32) (y7 : Int32) (y8 : Int32) (y9 : Int32) (s10 : Slot) (b : Addr) (s12 : Slot) (s13 : Slot) (s14 : Slot) : Array Slot := #[s0, s1, s2, s3, s4, s5, .val (.int y6), .val (.int y7), .val (.int y8), .val (.int y9), s10, .val (.ref b), s12, s13, s14]
theorem sg_fill2 (l : Launch) (Z : State) (a0 : Array Value) (hw : HW a0 Z) (b : Addr) (k : ClassId) (xs : List Value) (y6 : Int32) (y7 : Int32) (y8 : Int32) (y9 : Int32) (s0 : Slot) (s1 : Slot) (s2 : Slot) (s3 : Slot) (s4 : Slot) (s5 : Slot) (s10 : Slot) (s12 : Slot) (s13 : Slot) (s14 : Slot) (h0 : Heap) (n0 : Nat) (Z0 : n0 ≤ h0.size) (hx : pP.tables.exec = Jvm.exec) (hby : cC.code = code) (hml : cC.maxLocals = 15) (hZ : Z.Warmed39 sS.vm) (hown : sS.vm.findClass "com/example/dipper/dipper/store/NotFoundExceptionRoomPinLaw" = some mM.cls) (X0 : Stand pP l eE room_1 sS mM argS bS methS cC s₁ lc0 cl0 sl0) (e0 : s₁.heap = h0) (N0 : Fr n0 lc0) (hcl : cl0 + 0 ≤ room_1.cells) (hsl : sl0 + 0 ≤ room_1.slots) (V_b : Arv Z h0 b k .char (21 : Int32) xs (.int (0 : Int32))) (g_b : @LE.le Nat _ n0 b) (hxl : xs.length = 21) (hy6 : y6.toUInt32.toUInt16.toUInt32.toInt32 = y6) (hy7 : y7.toUInt32.toUInt16.toUInt32.toInt32 = y7) (hy8 : y8.toUInt32.toUInt16.toUInt32.toInt32 = y8) (hy9 : y9.toUInt32.toUInt16.toUInt32.toInt32 = y9) :
    ∃ T' h' L', Stand pP l eE room_1 sS mM argS bS methS cC T' L' (cl0 + 0) (sl0 + 0) ∧ T'.heap = h' ∧ Fr n0 L' ∧ Keep h0 h' [b] ∧ Arv Z h' b k .char (21 : Int32) ((((xs.set 16 (.int y6)).set 17 (.int y7)).set 18 (.int y8)).set 19 (.int y9)) (.int (0 : Int32)) ∧ ∀ t', SS pP eE bS T' (mkF mM 320 #[s0, s1, s2, s3, s4, s5, .val (.int y6), .val (.int y7), .val (.int y8), .val (.int y9), s10, .val (.ref b), s12, s13, s14] []) t' → SS pP eE bS s₁ (mkF mM 292 #[s0, s1, s2, s3, s4, s5, .val (.int y6), .val (.int y7), .val (.int y8), .val (.int y9), s10, .val (.ref b), s12, s13, s14] []) t' := by
  obtain ⟨cl101, Ar101, q101, S101, Ng101, Ha101, Ga101⟩ := id V_b
  have hin101 : ¬ ((16 : Int32) < 0 ∨ cl101.slots.size ≤ ((16 : Int32)).toNatClampNeg) := inb_of S101 ⟨by decide, by decide⟩
  obtain ⟨T102, h102, X102, e102, W102, st102⟩ := stC X0 hx hZ e0 Ar101 (j := (16 : Int32)) hin101 (g := (mkF mM 298 (Lc_fill2_0 s0 s1 s2 s3 s4 s5 y6 y7 y8 y9 s10 b s12 s13 s14) [(.int y6), (.int (16 : Int32)), (.ref b)])) rfl rfl (hb hby at_298)
  have Sz1 : h0.size ≤ h102.size := Nat.le_of_eq (Wr.size W102).symm
  have Vt102 : Arv Z h102 b k .char (21 : Int32) (xs.set 16 (.int y6)) (.int (0 : Int32)) := by
    have q : Arv Z h102 b k .char (21 : Int32) (xs.set 16 (.int y6.toUInt32.toUInt16.toUInt32.toInt32)) (.int (0 : Int32)) := Arv.set Ar101 q101 S101 Ng101 Ha101 Ga101 (fits_nar_char _) W102 16 rfl (by (try simp only [List.length_set]); omega)
    rw [show ((.int y6.toUInt32.toUInt16.toUInt32.toInt32) : Value) = (.int y6) from congrArg Value.int hy6] at q
    exact q
  have N102 := Fr.snoc X102 N0 g_b
  obtain ⟨cl103, Ar103, q103, S103, Ng103, Ha103, Ga103⟩ := id Vt102
  have hin103 : ¬ ((17 : Int32) < 0 ∨ cl103.slots.size ≤ ((17 : Int32)).toNatClampNeg) := inb_of S103 ⟨by decide, by decide⟩
  obtain ⟨T104, h104, X104, e104, W104, st104⟩ := stC X102 hx hZ e102 Ar103 (j := (17 : Int32)) hin103 (g := (mkF mM 305 (Lc_fill2_0 s0 s1 s2 s3 s4 s5 y6 y7 y8 y9 s10 b s12 s13 s14) [(.int y7), (.int (17 : Int32)), (.ref b)])) rfl rfl (hb hby at_305)
  have Sz2 : h102.size ≤ h104.size := Nat.le_of_eq (Wr.size W104).symm
  have Vt104 : Arv Z h104 b k .char (21 : Int32) ((xs.set 16 (.int y6)).set 17 (.int y7)) (.int (0 : Int32)) := by
    have q : Arv Z h104 b k .char (21 : Int32) ((xs.set 16 (.int y6)).set 17 (.int y7.toUInt32.toUInt16.toUInt32.toInt32)) (.int (0 : Int32)) := Arv.set Ar103 q103 S103 Ng103 Ha103 Ga103 (fits_nar_char _) W104 17 rfl (by (try simp only [List.length_set]); omega)
    rw [show ((.int y7.toUInt32.toUInt16.toUInt32.toInt32) : Value) = (.int y7) from congrArg Value.int hy7] at q
    exact q
  have N104 := Fr.snoc X104 N102 g_b
  obtain ⟨cl105, Ar105, q105, S105, Ng105, Ha105, Ga105⟩ := id Vt104
  have hin105 : ¬ ((18 : Int32) < 0 ∨ cl105.slots.size ≤ ((18 : Int32)).toNatClampNeg) := inb_of S105 ⟨by decide, by decide⟩
  obtain ⟨T106, h106, X106, e106, W106, st106⟩ := stC X104 hx hZ e104 Ar105 (j := (18 : Int32)) hin105 (g := (mkF mM 312 (Lc_fill2_0 s0 s1 s2 s3 s4 s5 y6 y7 y8 y9 s10 b s12 s13 s14) [(.int y8), (.int (18 : Int32)), (.ref b)])) rfl rfl (hb hby at_312)
  have Sz3 : h104.size ≤ h106.size := Nat.le_of_eq (Wr.size W106).symm
  have Vt106 : Arv Z h106 b k .char (21 : Int32) (((xs.set 16 (.int y6)).set 17 (.int y7)).set 18 (.int y8)) (.int (0 : Int32)) := by
    have q : Arv Z h106 b k .char (21 : Int32) (((xs.set 16 (.int y6)).set 17 (.int y7)).set 18 (.int y8.toUInt32.toUInt16.toUInt32.toInt32)) (.int (0 : Int32)) := Arv.set Ar105 q105 S105 Ng105 Ha105 Ga105 (fits_nar_char _) W106 18 rfl (by (try simp only [List.length_set]); omega)
    rw [show ((.int y8.toUInt32.toUInt16.toUInt32.toInt32) : Value) = (.int y8) from congrArg Value.int hy8] at q
    exact q
  have N106 := Fr.snoc X106 N104 g_b
  obtain ⟨cl107, Ar107, q107, S107, Ng107, Ha107, Ga107⟩ := id Vt106
  have hin107 : ¬ ((19 : Int32) < 0 ∨ cl107.slots.size ≤ ((19 : Int32)).toNatClampNeg) := inb_of S107 ⟨by decide, by decide⟩
  obtain ⟨T108, h108, X108, e108, W108, st108⟩ := stC X106 hx hZ e106 Ar107 (j := (19 : Int32)) hin107 (g := (mkF mM 319 (Lc_fill2_0 s0 s1 s2 s3 s4 s5 y6 y7 y8 y9 s10 b s12 s13 s14) [(.int y9), (.int (19 : Int32)), (.ref b)])) rfl rfl (hb hby at_319)
  have Sz4 : h106.size ≤ h108.size := Nat.le_of_eq (Wr.size W108).symm
  have Vt108 : Arv Z h108 b k .char (21 : Int32) ((((xs.set 16 (.int y6)).set 17 (.int y7)).set 18 (.int y8)).set 19 (.int y9)) (.int (0 : Int32)) := by
    have q : Arv Z h108 b k .char (21 : Int32) ((((xs.set 16 (.int y6)).set 17 (.int y7)).set 18 (.int y8)).set 19 (.int y9.toUInt32.toUInt16.toUInt32.toInt32)) (.int (0 : Int32)) := Arv.set Ar107 q107 S107 Ng107 Ha107 Ga107 (fits_nar_char _) W108 19 rfl (by (try simp only [List.length_set]); omega)
    rw [show ((.int y9.toUInt32.toUInt16.toUInt32.toInt32) : Value) = (.int y9) from congrArg Value.int hy9] at q
    exact q
  have N108 := Fr.snoc X108 N106 g_b
  have K109 : Keep h0 h102 [b] := (Keep.refl h0 [b]).wr W102 (Or.inl (List.mem_of_getElem? (i := 0) rfl))
  have K110 : Keep h0 h104 [b] := K109.wr W104 (Or.inl (List.mem_of_getElem? (i := 0) rfl))
  have K111 : Keep h0 h106 [b] := K110.wr W106 (Or.inl (List.mem_of_getElem? (i := 0) rfl))
  have K112 : Keep h0 h108 [b] := K111.wr W108 (Or.inl (List.mem_of_getElem? (i := 0) rfl))
  refine ⟨T108, h108, _, X108, e108, N108, K112, Vt108, fun t' hk' => ?_⟩
  show SS pP eE bS s₁ (mkF mM 292 (Lc_fill2_0 s0 s1 s2 s3 s4 s5 y6 y7 y8 y9 s10 b s12 s13 s14) []) _
  refine XS.aload X0.here hx rfl (hb hby at_292) rfl rfl ?_
  refine XS.bipush X0.here hx rfl (hb hby at_294) ?_
  refine XS.iload X0.here hx rfl (hb hby at_296) rfl ?_
  show SS pP eE bS s₁ (mkF mM 298 (Lc_fill2_0 s0 s1 s2 s3 s4 s5 y6 y7 y8 y9 s10 b s12 s13 s14) [(.int y6), (.int (16 : Int32)), (.ref b)]) _
  refine st102 _ ?_
  show SS pP eE bS T102 (mkF mM 299 (Lc_fill2_0 s0 s1 s2 s3 s4 s5 y6 y7 y8 y9 s10 b s12 s13 s14) []) _
  refine XS.aload X102.here hx rfl (hb hby at_299) rfl rfl ?_
  refine XS.bipush X102.here hx rfl (hb hby at_301) ?_
  refine XS.iload X102.here hx rfl (hb hby at_303) rfl ?_
  show SS pP eE bS T102 (mkF mM 305 (Lc_fill2_0 s0 s1 s2 s3 s4 s5 y6 y7 y8 y9 s10 b s12 s13 s14) [(.int y7), (.int (17 : Int32)), (.ref b)]) _
  refine st104 _ ?_
  show SS pP eE bS T104 (mkF mM 306 (Lc_fill2_0 s0 s1 s2 s3 s4 s5 y6 y7 y8 y9 s10 b s12 s13 s14) []) _
  refine XS.aload X104.here hx rfl (hb hby at_306) rfl rfl ?_
  refine XS.bipush X104.here hx rfl (hb hby at_308) ?_
  refine XS.iload X104.here hx rfl (hb hby at_310) rfl ?_
  show SS pP eE bS T104 (mkF mM 312 (Lc_fill2_0 s0 s1 s2 s3 s4 s5 y6 y7 y8 y9 s10 b s12 s13 s14) [(.int y8), (.int (18 : Int32)), (.ref b)]) _
  refine st106 _ ?_
  show SS pP eE bS T106 (mkF mM 313 (Lc_fill2_0 s0 s1 s2 s3 s4 s5 y6 y7 y8 y9 s10 b s12 s13 s14) []) _
  refine XS.aload X106.here hx rfl (hb hby at_313) rfl rfl ?_
  refine XS.bipush X106.here hx rfl (hb hby at_315) ?_
  refine XS.iload X106.here hx rfl (hb hby at_317) rfl ?_
  show SS pP eE bS T106 (mkF mM 319 (Lc_fill2_0 s0 s1 s2 s3 s4 s5 y6 y7 y8 y9 s10 b s12 s13 s14) [(.int y9), (.int (19 : Int32)), (.ref b)]) _
  refine st108 _ ?_
  exact hk'
theorem pd_26 : parseMethodDescriptor "(Ljava/lang/String;[CII)Z" = some ⟨[(.object "java/lang/String"), (.array .char), .int, .int], some .boolean⟩ := by decide +kernel
abbrev Lc_ats_0 (s0 : Slot) (s1 : Slot) (s2 : Slot) (s3 : Slot) (s4 : Slot) (s5 : Slot) (s6 : Slot) (s7 : Slot) (s8 : Slot) (s9 : Slot) (s10 : Slot) (a1 : Addr) (ln : Int32) (s13 : Slot) (t : Addr) : Array Slot := #[s0, s1, s2, s3, s4, s5, s6, s7, s8, s9, s10, .val (.ref a1), .val (.int ln), s13, .val (.ref t)]
theorem sg_ats (l : Launch) (Z : State) (a0 : Array Value) (hw : HW a0 Z) (t : Addr) (tb : Addr) (tk : ClassId) (zz : Int32) (ys : List Value) (a1 : Addr) (k1 : ClassId) (es : List Value) (ln : Int32) (fo : Value) (cs : Int32) (s0 : Slot) (s1 : Slot) (s2 : Slot) (s3 : Slot) (s4 : Slot) (s5 : Slot) (s6 : Slot) (s7 : Slot) (s8 : Slot) (s9 : Slot) (s10 : Slot) (s13 : Slot) (h0 : Heap) (n0 : Nat) (Z0 : n0 ≤ h0.size) (hx : pP.tables.exec = Jvm.exec) (hby : cC.code = code) (hml : cC.maxLocals = 15) (hZ : Z.Warmed39 sS.vm) (hown : sS.vm.findClass "com/example/dipper/dipper/store/NotFoundExceptionRoomPinLaw" = some mM.cls) (X0 : Stand pP l eE room_1 sS mM argS bS methS cC s₁ lc0 cl0 sl0) (e0 : s₁.heap = h0) (N0 : Fr n0 lc0) (hcl : cl0 + 0 ≤ room_1.cells) (hsl : sl0 + 0 ≤ room_1.slots) (E_t : Exa Z h0 t "java/lang/String") (F_value_t : Fld Z h0 t "java/lang/String" "value" "[B" (.ref tb)) (F_coder_t : Fld Z h0 t "java/lang/String" "coder" "B" (.int (0 : Int32))) (V_tb : Arv Z h0 tb tk .byte zz ys (.int (0 : Int32))) (V_a1 : Arv Z h0 a1 k1 .char (21 : Int32) es (.int (0 : Int32))) (hfo : (fo).isRef = true) (OL : Old Z n0 h0) (S_SIOOBE_FORMATTER : Sta Z Z.heap "jdk/internal/util/Preconditions" "SIOOBE_FORMATTER" "Ljava/util/function/BiFunction;" fo) (S_COMPACT_STRINGS : Sta Z Z.heap "java/lang/String" "COMPACT_STRINGS" "Z" (.int cs)) (hcs : ¬ (cs = (0 : Int32))) (ha0 : AtP zz ys es ln (0 : Int32)) (ha1 : AtP zz ys es ln (1 : Int32)) (ha2 : AtP zz ys es ln (2 : Int32)) (ha3 : AtP zz ys es ln (3 : Int32)) (ha4 : AtP zz ys es ln (4 : Int32)) (ha5 : AtP zz ys es ln (5 : Int32)) (ha6 : AtP zz ys es ln (6 : Int32)) (ha7 : AtP zz ys es ln (7 : Int32)) (ha8 : AtP zz ys es ln (8 : Int32)) (ha9 : AtP zz ys es ln (9 : Int32)) (ha10 : AtP zz ys es ln (10 : Int32)) (ha11 : AtP zz ys es ln (11 : Int32)) (ha12 : AtP zz ys es ln (12 : Int32)) (ha13 : AtP zz ys es ln (13 : Int32)) (ha14 : AtP zz ys es ln (14 : Int32)) (ha15 : AtP zz ys es ln (15 : Int32)) (ha16 : AtP zz ys es ln (16 : Int32)) (ha17 : AtP zz ys es ln (17 : Int32)) (ha18 : AtP zz ys es ln (18 : Int32)) (ha19 : AtP zz ys es ln (19 : Int32)) (ha20 : AtP zz ys es ln (20 : Int32)) :
    ∃ T' L', Stand pP l eE room_1 sS mM argS bS methS cC T' L' (cl0 + 0) (sl0 + 0) ∧ T'.heap = h0 ∧ Fr n0 L' ∧ ∀ t', SS pP eE bS T' (mkF mM 663 #[s0, s1, s2, s3, s4, s5, s6, s7, s8, s9, s10, .val (.ref a1), .val (.int ln), s13, .val (.ref t)] []) t' → SS pP eE bS s₁ (mkF mM 375 #[s0, s1, s2, s3, s4, s5, s6, s7, s8, s9, s10, .val (.ref a1), .val (.int ln), s13, .val (.ref t)] []) t' := by
  obtain ⟨_, _, ⟨T101, L101, k101, n101⟩, -, X101, ⟨Lc101, hQ101, l101, y101, z101⟩, st101⟩ := Jvm.LawKit.callS X0 hx (y := y45_) hown (mvT hZ (wi hw 222 rfl)) (mvT hZ (wi hw 223 rfl)) (mvT hZ (wi hw 224 rfl)) (mvT hZ (wi hw 225 rfl)) (by decide) (backOf (W := 0) (rm_at l Z a0 hw [] t tb tk zz ys a1 k1 es ln (0 : Int32) fo cs h0 n0 (by omega) E_t F_value_t F_coder_t V_tb V_a1 hfo OL S_SIOOBE_FORMATTER S_COMPACT_STRINGS hcs ha0) hZ (wi hw 225 rfl) (wi hw 224 rfl) (by decide) (by decide)) (g := (mkF mM 382 (Lc_ats_0 s0 s1 s2 s3 s4 s5 s6 s7 s8 s9 s10 a1 ln s13 t) [(.int (0 : Int32)), (.int ln), (.ref a1), (.ref t)])) rfl (by rw [hml]; rfl) (argsL := [(.ref t), (.ref a1), (.int ln), (.int (0 : Int32))]) (rest := []) (lenOf pd_26 rfl) rfl (by show 2 * 0 + _ ≤ _; exact Nat.le_of_eq rfl) (hb hby at_382) (fun _ _ => ⟨rfl, e0, segle (k := 0) hcl (by decide), segle (k := 0) hsl (by decide)⟩)
  dsimp only [Pt.U, Pt.locs, Pt.cells, Pt.slots] at X101 l101 y101 z101 st101 hQ101
  subst y101 z101
  obtain ⟨h101, e101⟩ : ∃ z, T101.heap = z := ⟨_, rfl⟩
  rw [e101] at hQ101
  obtain ⟨rfl, N101q, eq101⟩ := hQ101
  rw [eq101] at e101
  have N101 : Fr n0 L101 := by rw [l101]; exact Fr.app N0 N101q
  obtain ⟨_, _, ⟨T102, L102, k102, n102⟩, -, X102, ⟨Lc102, hQ102, l102, y102, z102⟩, st102⟩ := Jvm.LawKit.callS X101 hx (y := y45_) hown (mvT hZ (wi hw 222 rfl)) (mvT hZ (wi hw 223 rfl)) (mvT hZ (wi hw 224 rfl)) (mvT hZ (wi hw 225 rfl)) (by decide) (backOf (W := 0) (rm_at l Z a0 hw [] t tb tk zz ys a1 k1 es ln (1 : Int32) fo cs h0 n0 (by omega) E_t F_value_t F_coder_t V_tb V_a1 hfo OL S_SIOOBE_FORMATTER S_COMPACT_STRINGS hcs ha1) hZ (wi hw 225 rfl) (wi hw 224 rfl) (by decide) (by decide)) (g := (mkF mM 395 (Lc_ats_0 s0 s1 s2 s3 s4 s5 s6 s7 s8 s9 s10 a1 ln s13 t) [(.int (1 : Int32)), (.int ln), (.ref a1), (.ref t)])) rfl (by rw [hml]; rfl) (argsL := [(.ref t), (.ref a1), (.int ln), (.int (1 : Int32))]) (rest := []) (lenOf pd_26 rfl) rfl (by show 2 * 0 + _ ≤ _; exact Nat.le_of_eq rfl) (hb hby at_395) (fun _ _ => ⟨rfl, e101, segle (k := 0) hcl (by decide), segle (k := 0) hsl (by decide)⟩)
  dsimp only [Pt.U, Pt.locs, Pt.cells, Pt.slots] at X102 l102 y102 z102 st102 hQ102
  subst y102 z102
  obtain ⟨h102, e102⟩ : ∃ z, T102.heap = z := ⟨_, rfl⟩
  rw [e102] at hQ102
  obtain ⟨rfl, N102q, eq102⟩ := hQ102
  rw [eq102] at e102
  have N102 : Fr n0 L102 := by rw [l102]; exact Fr.app N101 N102q
  obtain ⟨_, _, ⟨T103, L103, k103, n103⟩, -, X103, ⟨Lc103, hQ103, l103, y103, z103⟩, st103⟩ := Jvm.LawKit.callS X102 hx (y := y45_) hown (mvT hZ (wi hw 222 rfl)) (mvT hZ (wi hw 223 rfl)) (mvT hZ (wi hw 224 rfl)) (mvT hZ (wi hw 225 rfl)) (by decide) (backOf (W := 0) (rm_at l Z a0 hw [] t tb tk zz ys a1 k1 es ln (2 : Int32) fo cs h0 n0 (by omega) E_t F_value_t F_coder_t V_tb V_a1 hfo OL S_SIOOBE_FORMATTER S_COMPACT_STRINGS hcs ha2) hZ (wi hw 225 rfl) (wi hw 224 rfl) (by decide) (by decide)) (g := (mkF mM 408 (Lc_ats_0 s0 s1 s2 s3 s4 s5 s6 s7 s8 s9 s10 a1 ln s13 t) [(.int (2 : Int32)), (.int ln), (.ref a1), (.ref t)])) rfl (by rw [hml]; rfl) (argsL := [(.ref t), (.ref a1), (.int ln), (.int (2 : Int32))]) (rest := []) (lenOf pd_26 rfl) rfl (by show 2 * 0 + _ ≤ _; exact Nat.le_of_eq rfl) (hb hby at_408) (fun _ _ => ⟨rfl, e102, segle (k := 0) hcl (by decide), segle (k := 0) hsl (by decide)⟩)
  dsimp only [Pt.U, Pt.locs, Pt.cells, Pt.slots] at X103 l103 y103 z103 st103 hQ103
  subst y103 z103
  obtain ⟨h103, e103⟩ : ∃ z, T103.heap = z := ⟨_, rfl⟩
  rw [e103] at hQ103
  obtain ⟨rfl, N103q, eq103⟩ := hQ103
  rw [eq103] at e103
  have N103 : Fr n0 L103 := by rw [l103]; exact Fr.app N102 N103q
  obtain ⟨_, _, ⟨T104, L104, k104, n104⟩, -, X104, ⟨Lc104, hQ104, l104, y104, z104⟩, st104⟩ := Jvm.LawKit.callS X103 hx (y := y45_) hown (mvT hZ (wi hw 222 rfl)) (mvT hZ (wi hw 223 rfl)) (mvT hZ (wi hw 224 rfl)) (mvT hZ (wi hw 225 rfl)) (by decide) (backOf (W := 0) (rm_at l Z a0 hw [] t tb tk zz ys a1 k1 es ln (3 : Int32) fo cs h0 n0 (by omega) E_t F_value_t F_coder_t V_tb V_a1 hfo OL S_SIOOBE_FORMATTER S_COMPACT_STRINGS hcs ha3) hZ (wi hw 225 rfl) (wi hw 224 rfl) (by decide) (by decide)) (g := (mkF mM 421 (Lc_ats_0 s0 s1 s2 s3 s4 s5 s6 s7 s8 s9 s10 a1 ln s13 t) [(.int (3 : Int32)), (.int ln), (.ref a1), (.ref t)])) rfl (by rw [hml]; rfl) (argsL := [(.ref t), (.ref a1), (.int ln), (.int (3 : Int32))]) (rest := []) (lenOf pd_26 rfl) rfl (by show 2 * 0 + _ ≤ _; exact Nat.le_of_eq rfl) (hb hby at_421) (fun _ _ => ⟨rfl, e103, segle (k := 0) hcl (by decide), segle (k := 0) hsl (by decide)⟩)
  dsimp only [Pt.U, Pt.locs, Pt.cells, Pt.slots] at X104 l104 y104 z104 st104 hQ104
  subst y104 z104
  obtain ⟨h104, e104⟩ : ∃ z, T104.heap = z := ⟨_, rfl⟩
  rw [e104] at hQ104
  obtain ⟨rfl, N104q, eq104⟩ := hQ104
  rw [eq104] at e104
  have N104 : Fr n0 L104 := by rw [l104]; exact Fr.app N103 N104q
  obtain ⟨_, _, ⟨T105, L105, k105, n105⟩, -, X105, ⟨Lc105, hQ105, l105, y105, z105⟩, st105⟩ := Jvm.LawKit.callS X104 hx (y := y45_) hown (mvT hZ (wi hw 222 rfl)) (mvT hZ (wi hw 223 rfl)) (mvT hZ (wi hw 224 rfl)) (mvT hZ (wi hw 225 rfl)) (by decide) (backOf (W := 0) (rm_at l Z a0 hw [] t tb tk zz ys a1 k1 es ln (4 : Int32) fo cs h0 n0 (by omega) E_t F_value_t F_coder_t V_tb V_a1 hfo OL S_SIOOBE_FORMATTER S_COMPACT_STRINGS hcs ha4) hZ (wi hw 225 rfl) (wi hw 224 rfl) (by decide) (by decide)) (g := (mkF mM 434 (Lc_ats_0 s0 s1 s2 s3 s4 s5 s6 s7 s8 s9 s10 a1 ln s13 t) [(.int (4 : Int32)), (.int ln), (.ref a1), (.ref t)])) rfl (by rw [hml]; rfl) (argsL := [(.ref t), (.ref a1), (.int ln), (.int (4 : Int32))]) (rest := []) (lenOf pd_26 rfl) rfl (by show 2 * 0 + _ ≤ _; exact Nat.le_of_eq rfl) (hb hby at_434) (fun _ _ => ⟨rfl, e104, segle (k := 0) hcl (by decide), segle (k := 0) hsl (by decide)⟩)
  dsimp only [Pt.U, Pt.locs, Pt.cells, Pt.slots] at X105 l105 y105 z105 st105 hQ105
  subst y105 z105
  obtain ⟨h105, e105⟩ : ∃ z, T105.heap = z := ⟨_, rfl⟩
  rw [e105] at hQ105
  obtain ⟨rfl, N105q, eq105⟩ := hQ105
  rw [eq105] at e105
  have N105 : Fr n0 L105 := by rw [l105]; exact Fr.app N104 N105q
  obtain ⟨_, _, ⟨T106, L106, k106, n106⟩, -, X106, ⟨Lc106, hQ106, l106, y106, z106⟩, st106⟩ := Jvm.LawKit.callS X105 hx (y := y45_) hown (mvT hZ (wi hw 222 rfl)) (mvT hZ (wi hw 223 rfl)) (mvT hZ (wi hw 224 rfl)) (mvT hZ (wi hw 225 rfl)) (by decide) (backOf (W := 0) (rm_at l Z a0 hw [] t tb tk zz ys a1 k1 es ln (5 : Int32) fo cs h0 n0 (by omega) E_t F_value_t F_coder_t V_tb V_a1 hfo OL S_SIOOBE_FORMATTER S_COMPACT_STRINGS hcs ha5) hZ (wi hw 225 rfl) (wi hw 224 rfl) (by decide) (by decide)) (g := (mkF mM 447 (Lc_ats_0 s0 s1 s2 s3 s4 s5 s6 s7 s8 s9 s10 a1 ln s13 t) [(.int (5 : Int32)), (.int ln), (.ref a1), (.ref t)])) rfl (by rw [hml]; rfl) (argsL := [(.ref t), (.ref a1), (.int ln), (.int (5 : Int32))]) (rest := []) (lenOf pd_26 rfl) rfl (by show 2 * 0 + _ ≤ _; exact Nat.le_of_eq rfl) (hb hby at_447) (fun _ _ => ⟨rfl, e105, segle (k := 0) hcl (by decide), segle (k := 0) hsl (by decide)⟩)
  dsimp only [Pt.U, Pt.locs, Pt.cells, Pt.slots] at X106 l106 y106 z106 st106 hQ106
  subst y106 z106
  obtain ⟨h106, e106⟩ : ∃ z, T106.heap = z := ⟨_, rfl⟩
  rw [e106] at hQ106
  obtain ⟨rfl, N106q, eq106⟩ := hQ106
  rw [eq106] at e106
  have N106 : Fr n0 L106 := by rw [l106]; exact Fr.app N105 N106q
  obtain ⟨_, _, ⟨T107, L107, k107, n107⟩, -, X107, ⟨Lc107, hQ107, l107, y107, z107⟩, st107⟩ := Jvm.LawKit.callS X106 hx (y := y45_) hown (mvT hZ (wi hw 222 rfl)) (mvT hZ (wi hw 223 rfl)) (mvT hZ (wi hw 224 rfl)) (mvT hZ (wi hw 225 rfl)) (by decide) (backOf (W := 0) (rm_at l Z a0 hw [] t tb tk zz ys a1 k1 es ln (6 : Int32) fo cs h0 n0 (by omega) E_t F_value_t F_coder_t V_tb V_a1 hfo OL S_SIOOBE_FORMATTER S_COMPACT_STRINGS hcs ha6) hZ (wi hw 225 rfl) (wi hw 224 rfl) (by decide) (by decide)) (g := (mkF mM 461 (Lc_ats_0 s0 s1 s2 s3 s4 s5 s6 s7 s8 s9 s10 a1 ln s13 t) [(.int (6 : Int32)), (.int ln), (.ref a1), (.ref t)])) rfl (by rw [hml]; rfl) (argsL := [(.ref t), (.ref a1), (.int ln), (.int (6 : Int32))]) (rest := []) (lenOf pd_26 rfl) rfl (by show 2 * 0 + _ ≤ _; exact Nat.le_of_eq rfl) (hb hby at_461) (fun _ _ => ⟨rfl, e106, segle (k := 0) hcl (by decide), segle (k := 0) hsl (by decide)⟩)
  dsimp only [Pt.U, Pt.locs, Pt.cells, Pt.slots] at X107 l107 y107 z107 st107 hQ107
  subst y107 z107
  obtain ⟨h107, e107⟩ : ∃ z, T107.heap = z := ⟨_, rfl⟩
  rw [e107] at hQ107
  obtain ⟨rfl, N107q, eq107⟩ := hQ107
  rw [eq107] at e107
  have N107 : Fr n0 L107 := by rw [l107]; exact Fr.app N106 N107q
  obtain ⟨_, _, ⟨T108, L108, k108, n108⟩, -, X108, ⟨Lc108, hQ108, l108, y108, z108⟩, st108⟩ := Jvm.LawKit.callS X107 hx (y := y45_) hown (mvT hZ (wi hw 222 rfl)) (mvT hZ (wi hw 223 rfl)) (mvT hZ (wi hw 224 rfl)) (mvT hZ (wi hw 225 rfl)) (by decide) (backOf (W := 0) (rm_at l Z a0 hw [] t tb tk zz ys a1 k1 es ln (7 : Int32) fo cs h0 n0 (by omega) E_t F_value_t F_coder_t V_tb V_a1 hfo OL S_SIOOBE_FORMATTER S_COMPACT_STRINGS hcs ha7) hZ (wi hw 225 rfl) (wi hw 224 rfl) (by decide) (by decide)) (g := (mkF mM 475 (Lc_ats_0 s0 s1 s2 s3 s4 s5 s6 s7 s8 s9 s10 a1 ln s13 t) [(.int (7 : Int32)), (.int ln), (.ref a1), (.ref t)])) rfl (by rw [hml]; rfl) (argsL := [(.ref t), (.ref a1), (.int ln), (.int (7 : Int32))]) (rest := []) (lenOf pd_26 rfl) rfl (by show 2 * 0 + _ ≤ _; exact Nat.le_of_eq rfl) (hb hby at_475) (fun _ _ => ⟨rfl, e107, segle (k := 0) hcl (by decide), segle (k := 0) hsl (by decide)⟩)
  dsimp only [Pt.U, Pt.locs, Pt.cells, Pt.slots] at X108 l108 y108 z108 st108 hQ108
  subst y108 z108
  obtain ⟨h108, e108⟩ : ∃ z, T108.heap = z := ⟨_, rfl⟩
  rw [e108] at hQ108
  obtain ⟨rfl, N108q, eq108⟩ := hQ108
  rw [eq108] at e108
  have N108 : Fr n0 L108 := by rw [l108]; exact Fr.app N107 N108q
  obtain ⟨_, _, ⟨T109, L109, k109, n109⟩, -, X109, ⟨Lc109, hQ109, l109, y109, z109⟩, st109⟩ := Jvm.LawKit.callS X108 hx (y := y45_) hown (mvT hZ (wi hw 222 rfl)) (mvT hZ (wi hw 223 rfl)) (mvT hZ (wi hw 224 rfl)) (mvT hZ (wi hw 225 rfl)) (by decide) (backOf (W := 0) (rm_at l Z a0 hw [] t tb tk zz ys a1 k1 es ln (8 : Int32) fo cs h0 n0 (by omega) E_t F_value_t F_coder_t V_tb V_a1 hfo OL S_SIOOBE_FORMATTER S_COMPACT_STRINGS hcs ha8) hZ (wi hw 225 rfl) (wi hw 224 rfl) (by decide) (by decide)) (g := (mkF mM 489 (Lc_ats_0 s0 s1 s2 s3 s4 s5 s6 s7 s8 s9 s10 a1 ln s13 t) [(.int (8 : Int32)), (.int ln), (.ref a1), (.ref t)])) rfl (by rw [hml]; rfl) (argsL := [(.ref t), (.ref a1), (.int ln), (.int (8 : Int32))]) (rest := []) (lenOf pd_26 rfl) rfl (by show 2 * 0 + _ ≤ _; exact Nat.le_of_eq rfl) (hb hby at_489) (fun _ _ => ⟨rfl, e108, segle (k := 0) hcl (by decide), segle (k := 0) hsl (by decide)⟩)
  dsimp only [Pt.U, Pt.locs, Pt.cells, Pt.slots] at X109 l109 y109 z109 st109 hQ109
  subst y109 z109
  obtain ⟨h109, e109⟩ : ∃ z, T109.heap = z := ⟨_, rfl⟩
  rw [e109] at hQ109
  obtain ⟨rfl, N109q, eq109⟩ := hQ109
  rw [eq109] at e109
  have N109 : Fr n0 L109 := by rw [l109]; exact Fr.app N108 N109q
  obtain ⟨_, _, ⟨T110, L110, k110, n110⟩, -, X110, ⟨Lc110, hQ110, l110, y110, z110⟩, st110⟩ := Jvm.LawKit.callS X109 hx (y := y45_) hown (mvT hZ (wi hw 222 rfl)) (mvT hZ (wi hw 223 rfl)) (mvT hZ (wi hw 224 rfl)) (mvT hZ (wi hw 225 rfl)) (by decide) (backOf (W := 0) (rm_at l Z a0 hw [] t tb tk zz ys a1 k1 es ln (9 : Int32) fo cs h0 n0 (by omega) E_t F_value_t F_coder_t V_tb V_a1 hfo OL S_SIOOBE_FORMATTER S_COMPACT_STRINGS hcs ha9) hZ (wi hw 225 rfl) (wi hw 224 rfl) (by decide) (by decide)) (g := (mkF mM 503 (Lc_ats_0 s0 s1 s2 s3 s4 s5 s6 s7 s8 s9 s10 a1 ln s13 t) [(.int (9 : Int32)), (.int ln), (.ref a1), (.ref t)])) rfl (by rw [hml]; rfl) (argsL := [(.ref t), (.ref a1), (.int ln), (.int (9 : Int32))]) (rest := []) (lenOf pd_26 rfl) rfl (by show 2 * 0 + _ ≤ _; exact Nat.le_of_eq rfl) (hb hby at_503) (fun _ _ => ⟨rfl, e109, segle (k := 0) hcl (by decide), segle (k := 0) hsl (by decide)⟩)
  dsimp only [Pt.U, Pt.locs, Pt.cells, Pt.slots] at X110 l110 y110 z110 st110 hQ110
  subst y110 z110
  obtain ⟨h110, e110⟩ : ∃ z, T110.heap = z := ⟨_, rfl⟩
  rw [e110] at hQ110
  obtain ⟨rfl, N110q, eq110⟩ := hQ110
  rw [eq110] at e110
  have N110 : Fr n0 L110 := by rw [l110]; exact Fr.app N109 N110q
  obtain ⟨_, _, ⟨T111, L111, k111, n111⟩, -, X111, ⟨Lc111, hQ111, l111, y111, z111⟩, st111⟩ := Jvm.LawKit.callS X110 hx (y := y45_) hown (mvT hZ (wi hw 222 rfl)) (mvT hZ (wi hw 223 rfl)) (mvT hZ (wi hw 224 rfl)) (mvT hZ (wi hw 225 rfl)) (by decide) (backOf (W := 0) (rm_at l Z a0 hw [] t tb tk zz ys a1 k1 es ln (10 : Int32) fo cs h0 n0 (by omega) E_t F_value_t F_coder_t V_tb V_a1 hfo OL S_SIOOBE_FORMATTER S_COMPACT_STRINGS hcs ha10) hZ (wi hw 225 rfl) (wi hw 224 rfl) (by decide) (by decide)) (g := (mkF mM 517 (Lc_ats_0 s0 s1 s2 s3 s4 s5 s6 s7 s8 s9 s10 a1 ln s13 t) [(.int (10 : Int32)), (.int ln), (.ref a1), (.ref t)])) rfl (by rw [hml]; rfl) (argsL := [(.ref t), (.ref a1), (.int ln), (.int (10 : Int32))]) (rest := []) (lenOf pd_26 rfl) rfl (by show 2 * 0 + _ ≤ _; exact Nat.le_of_eq rfl) (hb hby at_517) (fun _ _ => ⟨rfl, e110, segle (k := 0) hcl (by decide), segle (k := 0) hsl (by decide)⟩)
  dsimp only [Pt.U, Pt.locs, Pt.cells, Pt.slots] at X111 l111 y111 z111 st111 hQ111
  subst y111 z111
  obtain ⟨h111, e111⟩ : ∃ z, T111.heap = z := ⟨_, rfl⟩
  rw [e111] at hQ111
  obtain ⟨rfl, N111q, eq111⟩ := hQ111
  rw [eq111] at e111
  have N111 : Fr n0 L111 := by rw [l111]; exact Fr.app N110 N111q
  obtain ⟨_, _, ⟨T112, L112, k112, n112⟩, -, X112, ⟨Lc112, hQ112, l112, y112, z112⟩, st112⟩ := Jvm.LawKit.callS X111 hx (y := y45_) hown (mvT hZ (wi hw 222 rfl)) (mvT hZ (wi hw 223 rfl)) (mvT hZ (wi hw 224 rfl)) (mvT hZ (wi hw 225 rfl)) (by decide) (backOf (W := 0) (rm_at l Z a0 hw [] t tb tk zz ys a1 k1 es ln (11 : Int32) fo cs h0 n0 (by omega) E_t F_value_t F_coder_t V_tb V_a1 hfo OL S_SIOOBE_FORMATTER S_COMPACT_STRINGS hcs ha11) hZ (wi hw 225 rfl) (wi hw 224 rfl) (by decide) (by decide)) (g := (mkF mM 531 (Lc_ats_0 s0 s1 s2 s3 s4 s5 s6 s7 s8 s9 s10 a1 ln s13 t) [(.int (11 : Int32)), (.int ln), (.ref a1), (.ref t)])) rfl (by rw [hml]; rfl) (argsL := [(.ref t), (.ref a1), (.int ln), (.int (11 : Int32))]) (rest := []) (lenOf pd_26 rfl) rfl (by show 2 * 0 + _ ≤ _; exact Nat.le_of_eq rfl) (hb hby at_531) (fun _ _ => ⟨rfl, e111, segle (k := 0) hcl (by decide), segle (k := 0) hsl (by decide)⟩)
  dsimp only [Pt.U, Pt.locs, Pt.cells, Pt.slots] at X112 l112 y112 z112 st112 hQ112
  subst y112 z112
  obtain ⟨h112, e112⟩ : ∃ z, T112.heap = z := ⟨_, rfl⟩
  rw [e112] at hQ112
  obtain ⟨rfl, N112q, eq112⟩ := hQ112
  rw [eq112] at e112
  have N112 : Fr n0 L112 := by rw [l112]; exact Fr.app N111 N112q
  obtain ⟨_, _, ⟨T113, L113, k113, n113⟩, -, X113, ⟨Lc113, hQ113, l113, y113, z113⟩, st113⟩ := Jvm.LawKit.callS X112 hx (y := y45_) hown (mvT hZ (wi hw 222 rfl)) (mvT hZ (wi hw 223 rfl)) (mvT hZ (wi hw 224 rfl)) (mvT hZ (wi hw 225 rfl)) (by decide) (backOf (W := 0) (rm_at l Z a0 hw [] t tb tk zz ys a1 k1 es ln (12 : Int32) fo cs h0 n0 (by omega) E_t F_value_t F_coder_t V_tb V_a1 hfo OL S_SIOOBE_FORMATTER S_COMPACT_STRINGS hcs ha12) hZ (wi hw 225 rfl) (wi hw 224 rfl) (by decide) (by decide)) (g := (mkF mM 545 (Lc_ats_0 s0 s1 s2 s3 s4 s5 s6 s7 s8 s9 s10 a1 ln s13 t) [(.int (12 : Int32)), (.int ln), (.ref a1), (.ref t)])) rfl (by rw [hml]; rfl) (argsL := [(.ref t), (.ref a1), (.int ln), (.int (12 : Int32))]) (rest := []) (lenOf pd_26 rfl) rfl (by show 2 * 0 + _ ≤ _; exact Nat.le_of_eq rfl) (hb hby at_545) (fun _ _ => ⟨rfl, e112, segle (k := 0) hcl (by decide), segle (k := 0) hsl (by decide)⟩)
  dsimp only [Pt.U, Pt.locs, Pt.cells, Pt.slots] at X113 l113 y113 z113 st113 hQ113
  subst y113 z113
  obtain ⟨h113, e113⟩ : ∃ z, T113.heap = z := ⟨_, rfl⟩
  rw [e113] at hQ113
  obtain ⟨rfl, N113q, eq113⟩ := hQ113
  rw [eq113] at e113
  have N113 : Fr n0 L113 := by rw [l113]; exact Fr.app N112 N113q
  obtain ⟨_, _, ⟨T114, L114, k114, n114⟩, -, X114, ⟨Lc114, hQ114, l114, y114, z114⟩, st114⟩ := Jvm.LawKit.callS X113 hx (y := y45_) hown (mvT hZ (wi hw 222 rfl)) (mvT hZ (wi hw 223 rfl)) (mvT hZ (wi hw 224 rfl)) (mvT hZ (wi hw 225 rfl)) (by decide) (backOf (W := 0) (rm_at l Z a0 hw [] t tb tk zz ys a1 k1 es ln (13 : Int32) fo cs h0 n0 (by omega) E_t F_value_t F_coder_t V_tb V_a1 hfo OL S_SIOOBE_FORMATTER S_COMPACT_STRINGS hcs ha13) hZ (wi hw 225 rfl) (wi hw 224 rfl) (by decide) (by decide)) (g := (mkF mM 559 (Lc_ats_0 s0 s1 s2 s3 s4 s5 s6 s7 s8 s9 s10 a1 ln s13 t) [(.int (13 : Int32)), (.int ln), (.ref a1), (.ref t)])) rfl (by rw [hml]; rfl) (argsL := [(.ref t), (.ref a1), (.int ln), (.int (13 : Int32))]) (rest := []) (lenOf pd_26 rfl) rfl (by show 2 * 0 + _ ≤ _; exact Nat.le_of_eq rfl) (hb hby at_559) (fun _ _ => ⟨rfl, e113, segle (k := 0) hcl (by decide), segle (k := 0) hsl (by decide)⟩)
  dsimp only [Pt.U, Pt.locs, Pt.cells, Pt.slots] at X114 l114 y114 z114 st114 hQ114
  subst y114 z114
  obtain ⟨h114, e114⟩ : ∃ z, T114.heap = z := ⟨_, rfl⟩
  rw [e114] at hQ114
  obtain ⟨rfl, N114q, eq114⟩ := hQ114
  rw [eq114] at e114
  have N114 : Fr n0 L114 := by rw [l114]; exact Fr.app N113 N114q
  obtain ⟨_, _, ⟨T115, L115, k115, n115⟩, -, X115, ⟨Lc115, hQ115, l115, y115, z115⟩, st115⟩ := Jvm.LawKit.callS X114 hx (y := y45_) hown (mvT hZ (wi hw 222 rfl)) (mvT hZ (wi hw 223 rfl)) (mvT hZ (wi hw 224 rfl)) (mvT hZ (wi hw 225 rfl)) (by decide) (backOf (W := 0) (rm_at l Z a0 hw [] t tb tk zz ys a1 k1 es ln (14 : Int32) fo cs h0 n0 (by omega) E_t F_value_t F_coder_t V_tb V_a1 hfo OL S_SIOOBE_FORMATTER S_COMPACT_STRINGS hcs ha14) hZ (wi hw 225 rfl) (wi hw 224 rfl) (by decide) (by decide)) (g := (mkF mM 573 (Lc_ats_0 s0 s1 s2 s3 s4 s5 s6 s7 s8 s9 s10 a1 ln s13 t) [(.int (14 : Int32)), (.int ln), (.ref a1), (.ref t)])) rfl (by rw [hml]; rfl) (argsL := [(.ref t), (.ref a1), (.int ln), (.int (14 : Int32))]) (rest := []) (lenOf pd_26 rfl) rfl (by show 2 * 0 + _ ≤ _; exact Nat.le_of_eq rfl) (hb hby at_573) (fun _ _ => ⟨rfl, e114, segle (k := 0) hcl (by decide), segle (k := 0) hsl (by decide)⟩)
  dsimp only [Pt.U, Pt.locs, Pt.cells, Pt.slots] at X115 l115 y115 z115 st115 hQ115
  subst y115 z115
  obtain ⟨h115, e115⟩ : ∃ z, T115.heap = z := ⟨_, rfl⟩
  rw [e115] at hQ115
  obtain ⟨rfl, N115q, eq115⟩ := hQ115
  rw [eq115] at e115
  have N115 : Fr n0 L115 := by rw [l115]; exact Fr.app N114 N115q
  obtain ⟨_, _, ⟨T116, L116, k116, n116⟩, -, X116, ⟨Lc116, hQ116, l116, y116, z116⟩, st116⟩ := Jvm.LawKit.callS X115 hx (y := y45_) hown (mvT hZ (wi hw 222 rfl)) (mvT hZ (wi hw 223 rfl)) (mvT hZ (wi hw 224 rfl)) (mvT hZ (wi hw 225 rfl)) (by decide) (backOf (W := 0) (rm_at l Z a0 hw [] t tb tk zz ys a1 k1 es ln (15 : Int32) fo cs h0 n0 (by omega) E_t F_value_t F_coder_t V_tb V_a1 hfo OL S_SIOOBE_FORMATTER S_COMPACT_STRINGS hcs ha15) hZ (wi hw 225 rfl) (wi hw 224 rfl) (by decide) (by decide)) (g := (mkF mM 587 (Lc_ats_0 s0 s1 s2 s3 s4 s5 s6 s7 s8 s9 s10 a1 ln s13 t) [(.int (15 : Int32)), (.int ln), (.ref a1), (.ref t)])) rfl (by rw [hml]; rfl) (argsL := [(.ref t), (.ref a1), (.int ln), (.int (15 : Int32))]) (rest := []) (lenOf pd_26 rfl) rfl (by show 2 * 0 + _ ≤ _; exact Nat.le_of_eq rfl) (hb hby at_587) (fun _ _ => ⟨rfl, e115, segle (k := 0) hcl (by decide), segle (k := 0) hsl (by decide)⟩)
  dsimp only [Pt.U, Pt.locs, Pt.cells, Pt.slots] at X116 l116 y116 z116 st116 hQ116
  subst y116 z116
  obtain ⟨h116, e116⟩ : ∃ z, T116.heap = z := ⟨_, rfl⟩
  rw [e116] at hQ116
  obtain ⟨rfl, N116q, eq116⟩ := hQ116
  rw [eq116] at e116
  have N116 : Fr n0 L116 := by rw [l116]; exact Fr.app N115 N116q
  obtain ⟨_, _, ⟨T117, L117, k117, n117⟩, -, X117, ⟨Lc117, hQ117, l117, y117, z117⟩, st117⟩ := Jvm.LawKit.callS X116 hx (y := y45_) hown (mvT hZ (wi hw 222 rfl)) (mvT hZ (wi hw 223 rfl)) (mvT hZ (wi hw 224 rfl)) (mvT hZ (wi hw 225 rfl)) (by decide) (backOf (W := 0) (rm_at l Z a0 hw [] t tb tk zz ys a1 k1 es ln (16 : Int32) fo cs h0 n0 (by omega) E_t F_value_t F_coder_t V_tb V_a1 hfo OL S_SIOOBE_FORMATTER S_COMPACT_STRINGS hcs ha16) hZ (wi hw 225 rfl) (wi hw 224 rfl) (by decide) (by decide)) (g := (mkF mM 601 (Lc_ats_0 s0 s1 s2 s3 s4 s5 s6 s7 s8 s9 s10 a1 ln s13 t) [(.int (16 : Int32)), (.int ln), (.ref a1), (.ref t)])) rfl (by rw [hml]; rfl) (argsL := [(.ref t), (.ref a1), (.int ln), (.int (16 : Int32))]) (rest := []) (lenOf pd_26 rfl) rfl (by show 2 * 0 + _ ≤ _; exact Nat.le_of_eq rfl) (hb hby at_601) (fun _ _ => ⟨rfl, e116, segle (k := 0) hcl (by decide), segle (k := 0) hsl (by decide)⟩)
  dsimp only [Pt.U, Pt.locs, Pt.cells, Pt.slots] at X117 l117 y117 z117 st117 hQ117
  subst y117 z117
  obtain ⟨h117, e117⟩ : ∃ z, T117.heap = z := ⟨_, rfl⟩
  rw [e117] at hQ117
  obtain ⟨rfl, N117q, eq117⟩ := hQ117
  rw [eq117] at e117
  have N117 : Fr n0 L117 := by rw [l117]; exact Fr.app N116 N117q
  obtain ⟨_, _, ⟨T118, L118, k118, n118⟩, -, X118, ⟨Lc118, hQ118, l118, y118, z118⟩, st118⟩ := Jvm.LawKit.callS X117 hx (y := y45_) hown (mvT hZ (wi hw 222 rfl)) (mvT hZ (wi hw 223 rfl)) (mvT hZ (wi hw 224 rfl)) (mvT hZ (wi hw 225 rfl)) (by decide) (backOf (W := 0) (rm_at l Z a0 hw [] t tb tk zz ys a1 k1 es ln (17 : Int32) fo cs h0 n0 (by omega) E_t F_value_t F_coder_t V_tb V_a1 hfo OL S_SIOOBE_FORMATTER S_COMPACT_STRINGS hcs ha17) hZ (wi hw 225 rfl) (wi hw 224 rfl) (by decide) (by decide)) (g := (mkF mM 615 (Lc_ats_0 s0 s1 s2 s3 s4 s5 s6 s7 s8 s9 s10 a1 ln s13 t) [(.int (17 : Int32)), (.int ln), (.ref a1), (.ref t)])) rfl (by rw [hml]; rfl) (argsL := [(.ref t), (.ref a1), (.int ln), (.int (17 : Int32))]) (rest := []) (lenOf pd_26 rfl) rfl (by show 2 * 0 + _ ≤ _; exact Nat.le_of_eq rfl) (hb hby at_615) (fun _ _ => ⟨rfl, e117, segle (k := 0) hcl (by decide), segle (k := 0) hsl (by decide)⟩)
  dsimp only [Pt.U, Pt.locs, Pt.cells, Pt.slots] at X118 l118 y118 z118 st118 hQ118
  subst y118 z118
  obtain ⟨h118, e118⟩ : ∃ z, T118.heap = z := ⟨_, rfl⟩
  rw [e118] at hQ118
  obtain ⟨rfl, N118q, eq118⟩ := hQ118
  rw [eq118] at e118
  have N118 : Fr n0 L118 := by rw [l118]; exact Fr.app N117 N118q
  obtain ⟨_, _, ⟨T119, L119, k119, n119⟩, -, X119, ⟨Lc119, hQ119, l119, y119, z119⟩, st119⟩ := Jvm.LawKit.callS X118 hx (y := y45_) hown (mvT hZ (wi hw 222 rfl)) (mvT hZ (wi hw 223 rfl)) (mvT hZ (wi hw 224 rfl)) (mvT hZ (wi hw 225 rfl)) (by decide) (backOf (W := 0) (rm_at l Z a0 hw [] t tb tk zz ys a1 k1 es ln (18 : Int32) fo cs h0 n0 (by omega) E_t F_value_t F_coder_t V_tb V_a1 hfo OL S_SIOOBE_FORMATTER S_COMPACT_STRINGS hcs ha18) hZ (wi hw 225 rfl) (wi hw 224 rfl) (by decide) (by decide)) (g := (mkF mM 629 (Lc_ats_0 s0 s1 s2 s3 s4 s5 s6 s7 s8 s9 s10 a1 ln s13 t) [(.int (18 : Int32)), (.int ln), (.ref a1), (.ref t)])) rfl (by rw [hml]; rfl) (argsL := [(.ref t), (.ref a1), (.int ln), (.int (18 : Int32))]) (rest := []) (lenOf pd_26 rfl) rfl (by show 2 * 0 + _ ≤ _; exact Nat.le_of_eq rfl) (hb hby at_629) (fun _ _ => ⟨rfl, e118, segle (k := 0) hcl (by decide), segle (k := 0) hsl (by decide)⟩)
  dsimp only [Pt.U, Pt.locs, Pt.cells, Pt.slots] at X119 l119 y119 z119 st119 hQ119
  subst y119 z119
  obtain ⟨h119, e119⟩ : ∃ z, T119.heap = z := ⟨_, rfl⟩
  rw [e119] at hQ119
  obtain ⟨rfl, N119q, eq119⟩ := hQ119
  rw [eq119] at e119
  have N119 : Fr n0 L119 := by rw [l119]; exact Fr.app N118 N119q
  obtain ⟨_, _, ⟨T120, L120, k120, n120⟩, -, X120, ⟨Lc120, hQ120, l120, y120, z120⟩, st120⟩ := Jvm.LawKit.callS X119 hx (y := y45_) hown (mvT hZ (wi hw 222 rfl)) (mvT hZ (wi hw 223 rfl)) (mvT hZ (wi hw 224 rfl)) (mvT hZ (wi hw 225 rfl)) (by decide) (backOf (W := 0) (rm_at l Z a0 hw [] t tb tk zz ys a1 k1 es ln (19 : Int32) fo cs h0 n0 (by omega) E_t F_value_t F_coder_t V_tb V_a1 hfo OL S_SIOOBE_FORMATTER S_COMPACT_STRINGS hcs ha19) hZ (wi hw 225 rfl) (wi hw 224 rfl) (by decide) (by decide)) (g := (mkF mM 643 (Lc_ats_0 s0 s1 s2 s3 s4 s5 s6 s7 s8 s9 s10 a1 ln s13 t) [(.int (19 : Int32)), (.int ln), (.ref a1), (.ref t)])) rfl (by rw [hml]; rfl) (argsL := [(.ref t), (.ref a1), (.int ln), (.int (19 : Int32))]) (rest := []) (lenOf pd_26 rfl) rfl (by show 2 * 0 + _ ≤ _; exact Nat.le_of_eq rfl) (hb hby at_643) (fun _ _ => ⟨rfl, e119, segle (k := 0) hcl (by decide), segle (k := 0) hsl (by decide)⟩)
  dsimp only [Pt.U, Pt.locs, Pt.cells, Pt.slots] at X120 l120 y120 z120 st120 hQ120
  subst y120 z120
  obtain ⟨h120, e120⟩ : ∃ z, T120.heap = z := ⟨_, rfl⟩
  rw [e120] at hQ120
  obtain ⟨rfl, N120q, eq120⟩ := hQ120
  rw [eq120] at e120
  have N120 : Fr n0 L120 := by rw [l120]; exact Fr.app N119 N120q
  obtain ⟨_, _, ⟨T121, L121, k121, n121⟩, -, X121, ⟨Lc121, hQ121, l121, y121, z121⟩, st121⟩ := Jvm.LawKit.callS X120 hx (y := y45_) hown (mvT hZ (wi hw 222 rfl)) (mvT hZ (wi hw 223 rfl)) (mvT hZ (wi hw 224 rfl)) (mvT hZ (wi hw 225 rfl)) (by decide) (backOf (W := 0) (rm_at l Z a0 hw [] t tb tk zz ys a1 k1 es ln (20 : Int32) fo cs h0 n0 (by omega) E_t F_value_t F_coder_t V_tb V_a1 hfo OL S_SIOOBE_FORMATTER S_COMPACT_STRINGS hcs ha20) hZ (wi hw 225 rfl) (wi hw 224 rfl) (by decide) (by decide)) (g := (mkF mM 657 (Lc_ats_0 s0 s1 s2 s3 s4 s5 s6 s7 s8 s9 s10 a1 ln s13 t) [(.int (20 : Int32)), (.int ln), (.ref a1), (.ref t)])) rfl (by rw [hml]; rfl) (argsL := [(.ref t), (.ref a1), (.int ln), (.int (20 : Int32))]) (rest := []) (lenOf pd_26 rfl) rfl (by show 2 * 0 + _ ≤ _; exact Nat.le_of_eq rfl) (hb hby at_657) (fun _ _ => ⟨rfl, e120, segle (k := 0) hcl (by decide), segle (k := 0) hsl (by decide)⟩)
  dsimp only [Pt.U, Pt.locs, Pt.cells, Pt.slots] at X121 l121 y121 z121 st121 hQ121
  subst y121 z121
  obtain ⟨h121, e121⟩ : ∃ z, T121.heap = z := ⟨_, rfl⟩
  rw [e121] at hQ121
  obtain ⟨rfl, N121q, eq121⟩ := hQ121
  rw [eq121] at e121
  have N121 : Fr n0 L121 := by rw [l121]; exact Fr.app N120 N121q
  refine ⟨T121, _, X121, e121, N121, fun t' hk' => ?_⟩
  show SS pP eE bS s₁ (mkF mM 375 (Lc_ats_0 s0 s1 s2 s3 s4 s5 s6 s7 s8 s9 s10 a1 ln s13 t) []) _
  refine XS.aload X0.here hx rfl (hb hby at_375) rfl rfl ?_
  refine XS.aload X0.here hx rfl (hb hby at_377) rfl rfl ?_
  refine XS.iload X0.here hx rfl (hb hby at_379) rfl ?_
  refine XS.iconst X0.here hx rfl (hb hby at_381) ?_
  show SS pP eE bS s₁ (mkF mM 382 (Lc_ats_0 s0 s1 s2 s3 s4 s5 s6 s7 s8 s9 s10 a1 ln s13 t) [(.int (0 : Int32)), (.int ln), (.ref a1), (.ref t)]) _
  refine st101 _ ?_
  show SS pP eE bS T101 (mkF mM 385 (Lc_ats_0 s0 s1 s2 s3 s4 s5 s6 s7 s8 s9 s10 a1 ln s13 t) [(.int (1 : Int32))]) _
  refine XS.ifNo X101.here hx rfl (hb hby at_385) rfl ((if0 _ _).trans (feq (by decide : ¬ ((1 : Int32) = (0 : Int32)))).1) ?_
  refine XS.aload X101.here hx rfl (hb hby at_388) rfl rfl ?_
  refine XS.aload X101.here hx rfl (hb hby at_390) rfl rfl ?_
  refine XS.iload X101.here hx rfl (hb hby at_392) rfl ?_
  show SS pP eE bS T101 (mkF mM 394 (Lc_ats_0 s0 s1 s2 s3 s4 s5 s6 s7 s8 s9 s10 a1 ln s13 t) [(.int ln), (.ref a1), (.ref t)]) _
  refine XS.iconst X101.here hx rfl (hb hby at_394) ?_
  show SS pP eE bS T101 (mkF mM 395 (Lc_ats_0 s0 s1 s2 s3 s4 s5 s6 s7 s8 s9 s10 a1 ln s13 t) [(.int (1 : Int32)), (.int ln), (.ref a1), (.ref t)]) _
  refine st102 _ ?_
  show SS pP eE bS T102 (mkF mM 398 (Lc_ats_0 s0 s1 s2 s3 s4 s5 s6 s7 s8 s9 s10 a1 ln s13 t) [(.int (1 : Int32))]) _
  refine XS.ifNo X102.here hx rfl (hb hby at_398) rfl ((if0 _ _).trans (feq (by decide : ¬ ((1 : Int32) = (0 : Int32)))).1) ?_
  refine XS.aload X102.here hx rfl (hb hby at_401) rfl rfl ?_
  refine XS.aload X102.here hx rfl (hb hby at_403) rfl rfl ?_
  refine XS.iload X102.here hx rfl (hb hby at_405) rfl ?_
  show SS pP eE bS T102 (mkF mM 407 (Lc_ats_0 s0 s1 s2 s3 s4 s5 s6 s7 s8 s9 s10 a1 ln s13 t) [(.int ln), (.ref a1), (.ref t)]) _
  refine XS.iconst X102.here hx rfl (hb hby at_407) ?_
  show SS pP eE bS T102 (mkF mM 408 (Lc_ats_0 s0 s1 s2 s3 s4 s5 s6 s7 s8 s9 s10 a1 ln s13 t) [(.int (2 : Int32)), (.int ln), (.ref a1), (.ref t)]) _
  refine st103 _ ?_
  show SS pP eE bS T103 (mkF mM 411 (Lc_ats_0 s0 s1 s2 s3 s4 s5 s6 s7 s8 s9 s10 a1 ln s13 t) [(.int (1 : Int32))]) _
  refine XS.ifNo X103.here hx rfl (hb hby at_411) rfl ((if0 _ _).trans (feq (by decide : ¬ ((1 : Int32) = (0 : Int32)))).1) ?_
  refine XS.aload X103.here hx rfl (hb hby at_414) rfl rfl ?_
  refine XS.aload X103.here hx rfl (hb hby at_416) rfl rfl ?_
  refine XS.iload X103.here hx rfl (hb hby at_418) rfl ?_
  show SS pP eE bS T103 (mkF mM 420 (Lc_ats_0 s0 s1 s2 s3 s4 s5 s6 s7 s8 s9 s10 a1 ln s13 t) [(.int ln), (.ref a1), (.ref t)]) _
  refine XS.iconst X103.here hx rfl (hb hby at_420) ?_
  show SS pP eE bS T103 (mkF mM 421 (Lc_ats_0 s0 s1 s2 s3 s4 s5 s6 s7 s8 s9 s10 a1 ln s13 t) [(.int (3 : Int32)), (.int ln), (.ref a1), (.ref t)]) _
  refine st104 _ ?_
  show SS pP eE bS T104 (mkF mM 424 (Lc_ats_0 s0 s1 s2 s3 s4 s5 s6 s7 s8 s9 s10 a1 ln s13 t) [(.int (1 : Int32))]) _
  refine XS.ifNo X104.here hx rfl (hb hby at_424) rfl ((if0 _ _).trans (feq (by decide : ¬ ((1 : Int32) = (0 : Int32)))).1) ?_
  refine XS.aload X104.here hx rfl (hb hby at_427) rfl rfl ?_
  refine XS.aload X104.here hx rfl (hb hby at_429) rfl rfl ?_
  refine XS.iload X104.here hx rfl (hb hby at_431) rfl ?_
  show SS pP eE bS T104 (mkF mM 433 (Lc_ats_0 s0 s1 s2 s3 s4 s5 s6 s7 s8 s9 s10 a1 ln s13 t) [(.int ln), (.ref a1), (.ref t)]) _
  refine XS.iconst X104.here hx rfl (hb hby at_433) ?_
  show SS pP eE bS T104 (mkF mM 434 (Lc_ats_0 s0 s1 s2 s3 s4 s5 s6 s7 s8 s9 s10 a1 ln s13 t) [(.int (4 : Int32)), (.int ln), (.ref a1), (.ref t)]) _
  refine st105 _ ?_
  show SS pP eE bS T105 (mkF mM 437 (Lc_ats_0 s0 s1 s2 s3 s4 s5 s6 s7 s8 s9 s10 a1 ln s13 t) [(.int (1 : Int32))]) _
  refine XS.ifNo X105.here hx rfl (hb hby at_437) rfl ((if0 _ _).trans (feq (by decide : ¬ ((1 : Int32) = (0 : Int32)))).1) ?_
  refine XS.aload X105.here hx rfl (hb hby at_440) rfl rfl ?_
  refine XS.aload X105.here hx rfl (hb hby at_442) rfl rfl ?_
  refine XS.iload X105.here hx rfl (hb hby at_444) rfl ?_
  show SS pP eE bS T105 (mkF mM 446 (Lc_ats_0 s0 s1 s2 s3 s4 s5 s6 s7 s8 s9 s10 a1 ln s13 t) [(.int ln), (.ref a1), (.ref t)]) _
  refine XS.iconst X105.here hx rfl (hb hby at_446) ?_
  show SS pP eE bS T105 (mkF mM 447 (Lc_ats_0 s0 s1 s2 s3 s4 s5 s6 s7 s8 s9 s10 a1 ln s13 t) [(.int (5 : Int32)), (.int ln), (.ref a1), (.ref t)]) _
  refine st106 _ ?_
  show SS pP eE bS T106 (mkF mM 450 (Lc_ats_0 s0 s1 s2 s3 s4 s5 s6 s7 s8 s9 s10 a1 ln s13 t) [(.int (1 : Int32))]) _
  refine XS.ifNo X106.here hx rfl (hb hby at_450) rfl ((if0 _ _).trans (feq (by decide : ¬ ((1 : Int32) = (0 : Int32)))).1) ?_
  refine XS.aload X106.here hx rfl (hb hby at_453) rfl rfl ?_
  refine XS.aload X106.here hx rfl (hb hby at_455) rfl rfl ?_
  refine XS.iload X106.here hx rfl (hb hby at_457) rfl ?_
  show SS pP eE bS T106 (mkF mM 459 (Lc_ats_0 s0 s1 s2 s3 s4 s5 s6 s7 s8 s9 s10 a1 ln s13 t) [(.int ln), (.ref a1), (.ref t)]) _
  refine XS.bipush X106.here hx rfl (hb hby at_459) ?_
  show SS pP eE bS T106 (mkF mM 461 (Lc_ats_0 s0 s1 s2 s3 s4 s5 s6 s7 s8 s9 s10 a1 ln s13 t) [(.int (6 : Int32)), (.int ln), (.ref a1), (.ref t)]) _
  refine st107 _ ?_
  show SS pP eE bS T107 (mkF mM 464 (Lc_ats_0 s0 s1 s2 s3 s4 s5 s6 s7 s8 s9 s10 a1 ln s13 t) [(.int (1 : Int32))]) _
  refine XS.ifNo X107.here hx rfl (hb hby at_464) rfl ((if0 _ _).trans (feq (by decide : ¬ ((1 : Int32) = (0 : Int32)))).1) ?_
  refine XS.aload X107.here hx rfl (hb hby at_467) rfl rfl ?_
  refine XS.aload X107.here hx rfl (hb hby at_469) rfl rfl ?_
  refine XS.iload X107.here hx rfl (hb hby at_471) rfl ?_
  show SS pP eE bS T107 (mkF mM 473 (Lc_ats_0 s0 s1 s2 s3 s4 s5 s6 s7 s8 s9 s10 a1 ln s13 t) [(.int ln), (.ref a1), (.ref t)]) _
  refine XS.bipush X107.here hx rfl (hb hby at_473) ?_
  show SS pP eE bS T107 (mkF mM 475 (Lc_ats_0 s0 s1 s2 s3 s4 s5 s6 s7 s8 s9 s10 a1 ln s13 t) [(.int (7 : Int32)), (.int ln), (.ref a1), (.ref t)]) _
  refine st108 _ ?_
  show SS pP eE bS T108 (mkF mM 478 (Lc_ats_0 s0 s1 s2 s3 s4 s5 s6 s7 s8 s9 s10 a1 ln s13 t) [(.int (1 : Int32))]) _
  refine XS.ifNo X108.here hx rfl (hb hby at_478) rfl ((if0 _ _).trans (feq (by decide : ¬ ((1 : Int32) = (0 : Int32)))).1) ?_
  refine XS.aload X108.here hx rfl (hb hby at_481) rfl rfl ?_
  refine XS.aload X108.here hx rfl (hb hby at_483) rfl rfl ?_
  refine XS.iload X108.here hx rfl (hb hby at_485) rfl ?_
  show SS pP eE bS T108 (mkF mM 487 (Lc_ats_0 s0 s1 s2 s3 s4 s5 s6 s7 s8 s9 s10 a1 ln s13 t) [(.int ln), (.ref a1), (.ref t)]) _
  refine XS.bipush X108.here hx rfl (hb hby at_487) ?_
  show SS pP eE bS T108 (mkF mM 489 (Lc_ats_0 s0 s1 s2 s3 s4 s5 s6 s7 s8 s9 s10 a1 ln s13 t) [(.int (8 : Int32)), (.int ln), (.ref a1), (.ref t)]) _
  refine st109 _ ?_
  show SS pP eE bS T109 (mkF mM 492 (Lc_ats_0 s0 s1 s2 s3 s4 s5 s6 s7 s8 s9 s10 a1 ln s13 t) [(.int (1 : Int32))]) _
  refine XS.ifNo X109.here hx rfl (hb hby at_492) rfl ((if0 _ _).trans (feq (by decide : ¬ ((1 : Int32) = (0 : Int32)))).1) ?_
  refine XS.aload X109.here hx rfl (hb hby at_495) rfl rfl ?_
  refine XS.aload X109.here hx rfl (hb hby at_497) rfl rfl ?_
  refine XS.iload X109.here hx rfl (hb hby at_499) rfl ?_
  show SS pP eE bS T109 (mkF mM 501 (Lc_ats_0 s0 s1 s2 s3 s4 s5 s6 s7 s8 s9 s10 a1 ln s13 t) [(.int ln), (.ref a1), (.ref t)]) _
  refine XS.bipush X109.here hx rfl (hb hby at_501) ?_
  show SS pP eE bS T109 (mkF mM 503 (Lc_ats_0 s0 s1 s2 s3 s4 s5 s6 s7 s8 s9 s10 a1 ln s13 t) [(.int (9 : Int32)), (.int ln), (.ref a1), (.ref t)]) _
  refine st110 _ ?_
  show SS pP eE bS T110 (mkF mM 506 (Lc_ats_0 s0 s1 s2 s3 s4 s5 s6 s7 s8 s9 s10 a1 ln s13 t) [(.int (1 : Int32))]) _
  refine XS.ifNo X110.here hx rfl (hb hby at_506) rfl ((if0 _ _).trans (feq (by decide : ¬ ((1 : Int32) = (0 : Int32)))).1) ?_
  refine XS.aload X110.here hx rfl (hb hby at_509) rfl rfl ?_
  refine XS.aload X110.here hx rfl (hb hby at_511) rfl rfl ?_
  refine XS.iload X110.here hx rfl (hb hby at_513) rfl ?_
  show SS pP eE bS T110 (mkF mM 515 (Lc_ats_0 s0 s1 s2 s3 s4 s5 s6 s7 s8 s9 s10 a1 ln s13 t) [(.int ln), (.ref a1), (.ref t)]) _
  refine XS.bipush X110.here hx rfl (hb hby at_515) ?_
  show SS pP eE bS T110 (mkF mM 517 (Lc_ats_0 s0 s1 s2 s3 s4 s5 s6 s7 s8 s9 s10 a1 ln s13 t) [(.int (10 : Int32)), (.int ln), (.ref a1), (.ref t)]) _
  refine st111 _ ?_
  show SS pP eE bS T111 (mkF mM 520 (Lc_ats_0 s0 s1 s2 s3 s4 s5 s6 s7 s8 s9 s10 a1 ln s13 t) [(.int (1 : Int32))]) _
  refine XS.ifNo X111.here hx rfl (hb hby at_520) rfl ((if0 _ _).trans (feq (by decide : ¬ ((1 : Int32) = (0 : Int32)))).1) ?_
  refine XS.aload X111.here hx rfl (hb hby at_523) rfl rfl ?_
  refine XS.aload X111.here hx rfl (hb hby at_525) rfl rfl ?_
  refine XS.iload X111.here hx rfl (hb hby at_527) rfl ?_
  show SS pP eE bS T111 (mkF mM 529 (Lc_ats_0 s0 s1 s2 s3 s4 s5 s6 s7 s8 s9 s10 a1 ln s13 t) [(.int ln), (.ref a1), (.ref t)]) _
  refine XS.bipush X111.here hx rfl (hb hby at_529) ?_
  show SS pP eE bS T111 (mkF mM 531 (Lc_ats_0 s0 s1 s2 s3 s4 s5 s6 s7 s8 s9 s10 a1 ln s13 t) [(.int (11 : Int32)), (.int ln), (.ref a1), (.ref t)]) _
  refine st112 _ ?_
  show SS pP eE bS T112 (mkF mM 534 (Lc_ats_0 s0 s1 s2 s3 s4 s5 s6 s7 s8 s9 s10 a1 ln s13 t) [(.int (1 : Int32))]) _
  refine XS.ifNo X112.here hx rfl (hb hby at_534) rfl ((if0 _ _).trans (feq (by decide : ¬ ((1 : Int32) = (0 : Int32)))).1) ?_
  refine XS.aload X112.here hx rfl (hb hby at_537) rfl rfl ?_
  refine XS.aload X112.here hx rfl (hb hby at_539) rfl rfl ?_
  refine XS.iload X112.here hx rfl (hb hby at_541) rfl ?_
  show SS pP eE bS T112 (mkF mM 543 (Lc_ats_0 s0 s1 s2 s3 s4 s5 s6 s7 s8 s9 s10 a1 ln s13 t) [(.int ln), (.ref a1), (.ref t)]) _
  refine XS.bipush X112.here hx rfl (hb hby at_543) ?_
  show SS pP eE bS T112 (mkF mM 545 (Lc_ats_0 s0 s1 s2 s3 s4 s5 s6 s7 s8 s9 s10 a1 ln s13 t) [(.int (12 : Int32)), (.int ln), (.ref a1), (.ref t)]) _
  refine st113 _ ?_
  show SS pP eE bS T113 (mkF mM 548 (Lc_ats_0 s0 s1 s2 s3 s4 s5 s6 s7 s8 s9 s10 a1 ln s13 t) [(.int (1 : Int32))]) _
  refine XS.ifNo X113.here hx rfl (hb hby at_548) rfl ((if0 _ _).trans (feq (by decide : ¬ ((1 : Int32) = (0 : Int32)))).1) ?_
  refine XS.aload X113.here hx rfl (hb hby at_551) rfl rfl ?_
  refine XS.aload X113.here hx rfl (hb hby at_553) rfl rfl ?_
  refine XS.iload X113.here hx rfl (hb hby at_555) rfl ?_
  show SS pP eE bS T113 (mkF mM 557 (Lc_ats_0 s0 s1 s2 s3 s4 s5 s6 s7 s8 s9 s10 a1 ln s13 t) [(.int ln), (.ref a1), (.ref t)]) _
  refine XS.bipush X113.here hx rfl (hb hby at_557) ?_
  show SS pP eE bS T113 (mkF mM 559 (Lc_ats_0 s0 s1 s2 s3 s4 s5 s6 s7 s8 s9 s10 a1 ln s13 t) [(.int (13 : Int32)), (.int ln), (.ref a1), (.ref t)]) _
  refine st114 _ ?_
  show SS pP eE bS T114 (mkF mM 562 (Lc_ats_0 s0 s1 s2 s3 s4 s5 s6 s7 s8 s9 s10 a1 ln s13 t) [(.int (1 : Int32))]) _
  refine XS.ifNo X114.here hx rfl (hb hby at_562) rfl ((if0 _ _).trans (feq (by decide : ¬ ((1 : Int32) = (0 : Int32)))).1) ?_
  refine XS.aload X114.here hx rfl (hb hby at_565) rfl rfl ?_
  refine XS.aload X114.here hx rfl (hb hby at_567) rfl rfl ?_
  refine XS.iload X114.here hx rfl (hb hby at_569) rfl ?_
  show SS pP eE bS T114 (mkF mM 571 (Lc_ats_0 s0 s1 s2 s3 s4 s5 s6 s7 s8 s9 s10 a1 ln s13 t) [(.int ln), (.ref a1), (.ref t)]) _
  refine XS.bipush X114.here hx rfl (hb hby at_571) ?_
  show SS pP eE bS T114 (mkF mM 573 (Lc_ats_0 s0 s1 s2 s3 s4 s5 s6 s7 s8 s9 s10 a1 ln s13 t) [(.int (14 : Int32)), (.int ln), (.ref a1), (.ref t)]) _
  refine st115 _ ?_
  show SS pP eE bS T115 (mkF mM 576 (Lc_ats_0 s0 s1 s2 s3 s4 s5 s6 s7 s8 s9 s10 a1 ln s13 t) [(.int (1 : Int32))]) _
  refine XS.ifNo X115.here hx rfl (hb hby at_576) rfl ((if0 _ _).trans (feq (by decide : ¬ ((1 : Int32) = (0 : Int32)))).1) ?_
  refine XS.aload X115.here hx rfl (hb hby at_579) rfl rfl ?_
  refine XS.aload X115.here hx rfl (hb hby at_581) rfl rfl ?_
  refine XS.iload X115.here hx rfl (hb hby at_583) rfl ?_
  show SS pP eE bS T115 (mkF mM 585 (Lc_ats_0 s0 s1 s2 s3 s4 s5 s6 s7 s8 s9 s10 a1 ln s13 t) [(.int ln), (.ref a1), (.ref t)]) _
  refine XS.bipush X115.here hx rfl (hb hby at_585) ?_
  show SS pP eE bS T115 (mkF mM 587 (Lc_ats_0 s0 s1 s2 s3 s4 s5 s6 s7 s8 s9 s10 a1 ln s13 t) [(.int (15 : Int32)), (.int ln), (.ref a1), (.ref t)]) _
  refine st116 _ ?_
  show SS pP eE bS T116 (mkF mM 590 (Lc_ats_0 s0 s1 s2 s3 s4 s5 s6 s7 s8 s9 s10 a1 ln s13 t) [(.int (1 : Int32))]) _
  refine XS.ifNo X116.here hx rfl (hb hby at_590) rfl ((if0 _ _).trans (feq (by decide : ¬ ((1 : Int32) = (0 : Int32)))).1) ?_
  refine XS.aload X116.here hx rfl (hb hby at_593) rfl rfl ?_
  refine XS.aload X116.here hx rfl (hb hby at_595) rfl rfl ?_
  refine XS.iload X116.here hx rfl (hb hby at_597) rfl ?_
  show SS pP eE bS T116 (mkF mM 599 (Lc_ats_0 s0 s1 s2 s3 s4 s5 s6 s7 s8 s9 s10 a1 ln s13 t) [(.int ln), (.ref a1), (.ref t)]) _
  refine XS.bipush X116.here hx rfl (hb hby at_599) ?_
  show SS pP eE bS T116 (mkF mM 601 (Lc_ats_0 s0 s1 s2 s3 s4 s5 s6 s7 s8 s9 s10 a1 ln s13 t) [(.int (16 : Int32)), (.int ln), (.ref a1), (.ref t)]) _
  refine st117 _ ?_
  show SS pP eE bS T117 (mkF mM 604 (Lc_ats_0 s0 s1 s2 s3 s4 s5 s6 s7 s8 s9 s10 a1 ln s13 t) [(.int (1 : Int32))]) _
  refine XS.ifNo X117.here hx rfl (hb hby at_604) rfl ((if0 _ _).trans (feq (by decide : ¬ ((1 : Int32) = (0 : Int32)))).1) ?_
  refine XS.aload X117.here hx rfl (hb hby at_607) rfl rfl ?_
  refine XS.aload X117.here hx rfl (hb hby at_609) rfl rfl ?_
  refine XS.iload X117.here hx rfl (hb hby at_611) rfl ?_
  show SS pP eE bS T117 (mkF mM 613 (Lc_ats_0 s0 s1 s2 s3 s4 s5 s6 s7 s8 s9 s10 a1 ln s13 t) [(.int ln), (.ref a1), (.ref t)]) _
  refine XS.bipush X117.here hx rfl (hb hby at_613) ?_
  show SS pP eE bS T117 (mkF mM 615 (Lc_ats_0 s0 s1 s2 s3 s4 s5 s6 s7 s8 s9 s10 a1 ln s13 t) [(.int (17 : Int32)), (.int ln), (.ref a1), (.ref t)]) _
  refine st118 _ ?_
  show SS pP eE bS T118 (mkF mM 618 (Lc_ats_0 s0 s1 s2 s3 s4 s5 s6 s7 s8 s9 s10 a1 ln s13 t) [(.int (1 : Int32))]) _
  refine XS.ifNo X118.here hx rfl (hb hby at_618) rfl ((if0 _ _).trans (feq (by decide : ¬ ((1 : Int32) = (0 : Int32)))).1) ?_
  refine XS.aload X118.here hx rfl (hb hby at_621) rfl rfl ?_
  refine XS.aload X118.here hx rfl (hb hby at_623) rfl rfl ?_
  refine XS.iload X118.here hx rfl (hb hby at_625) rfl ?_
  show SS pP eE bS T118 (mkF mM 627 (Lc_ats_0 s0 s1 s2 s3 s4 s5 s6 s7 s8 s9 s10 a1 ln s13 t) [(.int ln), (.ref a1), (.ref t)]) _
  refine XS.bipush X118.here hx rfl (hb hby at_627) ?_
  show SS pP eE bS T118 (mkF mM 629 (Lc_ats_0 s0 s1 s2 s3 s4 s5 s6 s7 s8 s9 s10 a1 ln s13 t) [(.int (18 : Int32)), (.int ln), (.ref a1), (.ref t)]) _
  refine st119 _ ?_
  show SS pP eE bS T119 (mkF mM 632 (Lc_ats_0 s0 s1 s2 s3 s4 s5 s6 s7 s8 s9 s10 a1 ln s13 t) [(.int (1 : Int32))]) _
  refine XS.ifNo X119.here hx rfl (hb hby at_632) rfl ((if0 _ _).trans (feq (by decide : ¬ ((1 : Int32) = (0 : Int32)))).1) ?_
  refine XS.aload X119.here hx rfl (hb hby at_635) rfl rfl ?_
  refine XS.aload X119.here hx rfl (hb hby at_637) rfl rfl ?_
  refine XS.iload X119.here hx rfl (hb hby at_639) rfl ?_
  show SS pP eE bS T119 (mkF mM 641 (Lc_ats_0 s0 s1 s2 s3 s4 s5 s6 s7 s8 s9 s10 a1 ln s13 t) [(.int ln), (.ref a1), (.ref t)]) _
  refine XS.bipush X119.here hx rfl (hb hby at_641) ?_
  show SS pP eE bS T119 (mkF mM 643 (Lc_ats_0 s0 s1 s2 s3 s4 s5 s6 s7 s8 s9 s10 a1 ln s13 t) [(.int (19 : Int32)), (.int ln), (.ref a1), (.ref t)]) _
  refine st120 _ ?_
  show SS pP eE bS T120 (mkF mM 646 (Lc_ats_0 s0 s1 s2 s3 s4 s5 s6 s7 s8 s9 s10 a1 ln s13 t) [(.int (1 : Int32))]) _
  refine XS.ifNo X120.here hx rfl (hb hby at_646) rfl ((if0 _ _).trans (feq (by decide : ¬ ((1 : Int32) = (0 : Int32)))).1) ?_
  refine XS.aload X120.here hx rfl (hb hby at_649) rfl rfl ?_
  refine XS.aload X120.here hx rfl (hb hby at_651) rfl rfl ?_
  refine XS.iload X120.here hx rfl (hb hby at_653) rfl ?_
  show SS pP eE bS T120 (mkF mM 655 (Lc_ats_0 s0 s1 s2 s3 s4 s5 s6 s7 s8 s9 s10 a1 ln s13 t) [(.int ln), (.ref a1), (.ref t)]) _
  refine XS.bipush X120.here hx rfl (hb hby at_655) ?_
  show SS pP eE bS T120 (mkF mM 657 (Lc_ats_0 s0 s1 s2 s3 s4 s5 s6 s7 s8 s9 s10 a1 ln s13 t) [(.int (20 : Int32)), (.int ln), (.ref a1), (.ref t)]) _
  refine st121 _ ?_
  show SS pP eE bS T121 (mkF mM 660 (Lc_ats_0 s0 s1 s2 s3 s4 s5 s6 s7 s8 s9 s10 a1 ln s13 t) [(.int (1 : Int32))]) _
  refine XS.ifNo X121.here hx rfl (hb hby at_660) rfl ((if0 _ _).trans (feq (by decide : ¬ ((1 : Int32) = (0 : Int32)))).1) ?_
  exact hk'
-- MARK lw0
theorem pd_0 : parseMethodDescriptor "([C)V" = some ⟨[(.array .char)], none⟩ := by decide +kernel
theorem pd_3 : parseMethodDescriptor "(Ljava/lang/String;)Lcom/example/dipper/dipper/store/NotFoundException;" = some ⟨[(.object "java/lang/String")], some (.object "com/example/dipper/dipper/store/NotFoundException")⟩ := by decide +kernel
abbrev y47_ : MethodName := ⟨"com/example/dipper/dipper/store/NotFoundException", "getMessage", "()Ljava/lang/String;"⟩
abbrev Lc_law_0_0 (p0 : Int32) (p1 : Int32) (p2 : Int32) (p3 : Int32) : Array Slot := #[.val (.int p0), .val (.int p1), .val (.int p2), .val (.int p3), .unset, .unset, .unset, .unset, .unset, .unset, .unset, .unset, .unset, .unset, .unset]
abbrev Lc_law_0_1 (p0 : Int32) (p1 : Int32) (p2 : Int32) (p3 : Int32) : Array Slot := #[.val (.int p0), .val (.int p1), .val (.int p2), .val (.int p3), .val (.int (0 : Int32)), .unset, .unset, .unset, .unset, .unset, .unset, .unset, .unset, .unset, .unset]
abbrev Lc_law_0_2 (p0 : Int32) (p1 : Int32) (p2 : Int32) (p3 : Int32) : Array Slot := #[.val (.int p0), .val (.int p1), .val (.int p2), .val (.int p3), .val (.int (0 : Int32)), .val (.int (0 : Int32)), .unset, .unset, .unset, .unset, .unset, .unset, .unset, .unset, .unset]
abbrev Lc_law_0_3 (p0 : Int32) (p1 : Int32) (p2 : Int32) (p3 : Int32) : Array Slot := #[.val (.int p0), .val (.int p1), .val (.int p2), .val (.int p3), .val (.int (0 : Int32)), .val (.int (0 : Int32)), .val (.int (p1 &&& (255 : Int32))), .unset, .unset, .unset, .unset, .unset, .unset, .unset, .unset]
abbrev Lc_law_0_4 (p0 : Int32) (p1 : Int32) (p2 : Int32) (p3 : Int32) : Array Slot := #[.val (.int p0), .val (.int p1), .val (.int p2), .val (.int p3), .val (.int (0 : Int32)), .val (.int (0 : Int32)), .val (.int (p1 &&& (255 : Int32))), .val (.int (p2 &&& (255 : Int32))), .unset, .unset, .unset, .unset, .unset, .unset, .unset]
abbrev Lc_law_0_5 (p0 : Int32) (p1 : Int32) (p2 : Int32) (p3 : Int32) : Array Slot := #[.val (.int p0), .val (.int p1), .val (.int p2), .val (.int p3), .val (.int (0 : Int32)), .val (.int (0 : Int32)), .val (.int (p1 &&& (255 : Int32))), .val (.int (p2 &&& (255 : Int32))), .val (.int (p3 &&& (255 : Int32))), .unset, .unset, .unset, .unset, .unset, .unset]
abbrev Lc_law_0_6 (p0 : Int32) (p1 : Int32) (p2 : Int32) (p3 : Int32) : Array Slot := #[.val (.int p0), .val (.int p1), .val (.int p2), .val (.int p3), .val (.int (0 : Int32)), .val (.int (0 : Int32)), .val (.int (p1 &&& (255 : Int32))), .val (.int (p2 &&& (255 : Int32))), .val (.int (p3 &&& (255 : Int32))), .val (.int (0 : Int32)), .unset, .unset, .unset, .unset, .unset]
abbrev Lc_law_0_7 (p0 : Int32) (p1 : Int32) (p2 : Int32) (p3 : Int32) (b101 : Addr) : Array Slot := #[.val (.int p0), .val (.int p1), .val (.int p2), .val (.int p3), .val (.int (0 : Int32)), .val (.int (0 : Int32)), .val (.int (p1 &&& (255 : Int32))), .val (.int (p2 &&& (255 : Int32))), .val (.int (p3 &&& (255 : Int32))), .val (.int (0 : Int32)), .val (.ref b101), .unset, .unset, .unset, .unset]
abbrev Lc_law_0_8 (p0 : Int32) (p1 : Int32) (p2 : Int32) (p3 : Int32) (b101 : Addr) (b111 : Addr) : Array Slot := #[.val (.int p0), .val (.int p1), .val (.int p2), .val (.int p3), .val (.int (0 : Int32)), .val (.int (0 : Int32)), .val (.int (p1 &&& (255 : Int32))), .val (.int (p2 &&& (255 : Int32))), .val (.int (p3 &&& (255 : Int32))), .val (.int (0 : Int32)), .val (.ref b101), .val (.ref b111), .unset, .unset, .unset]
abbrev Lc_law_0_9 (p0 : Int32) (p1 : Int32) (p2 : Int32) (p3 : Int32) (b101 : Addr) (b111 : Addr) : Array Slot := #[.val (.int p0), .val (.int p1), .val (.int p2), .val (.int p3), .val (.int (0 : Int32)), .val (.int (0 : Int32)), .val (.int (p1 &&& (255 : Int32))), .val (.int (p2 &&& (255 : Int32))), .val (.int (p3 &&& (255 : Int32))), .val (.int (0 : Int32)), .val (.ref b101), .val (.ref b111), .val (.int (17 : Int32)), .unset, .unset]
abbrev Lc_law_0_10 (p0 : Int32) (p1 : Int32) (p2 : Int32) (p3 : Int32) (b101 : Addr) (b111 : Addr) (x_120 : Addr) : Array Slot := #[.val (.int p0), .val (.int p1), .val (.int p2), .val (.int p3), .val (.int (0 : Int32)), .val (.int (0 : Int32)), .val (.int (p1 &&& (255 : Int32))), .val (.int (p2 &&& (255 : Int32))), .val (.int (p3 &&& (255 : Int32))), .val (.int (0 : Int32)), .val (.ref b101), .val (.ref b111), .val (.int (17 : Int32)), .val (.ref x_120), .unset]
abbrev Lc_law_0_11 (p0 : Int32) (p1 : Int32) (p2 : Int32) (p3 : Int32) (b101 : Addr) (b111 : Addr) (x_120 : Addr) (m_120 : Addr) : Array Slot := #[.val (.int p0), .val (.int p1), .val (.int p2), .val (.int p3), .val (.int (0 : Int32)), .val (.int (0 : Int32)), .val (.int (p1 &&& (255 : Int32))), .val (.int (p2 &&& (255 : Int32))), .val (.int (p3 &&& (255 : Int32))), .val (.int (0 : Int32)), .val (.ref b101), .val (.ref b111), .val (.int (17 : Int32)), .val (.ref x_120), .val (.ref m_120)]
theorem ef_law_0 (mM : MethodId) (p0 : Int32) (p1 : Int32) (p2 : Int32) (p3 : Int32) (ua : Addr) (sa : Addr) (cs : Int32) (fo : Value) : entryFrame mM #[(.int p0), (.int p1), (.int p2), (.int p3)] maxLocals = mkF mM 0 #[.val (.int p0), .val (.int p1), .val (.int p2), .val (.int p3), .unset, .unset, .unset, .unset, .unset, .unset, .unset, .unset, .unset, .unset, .unset] [] := by
  first | (simp [entryFrame, mkF, argsToLocals, Value.category, maxLocals]; done) | rfl
theorem rm_law_0 (l : Launch) (Z : State) (a0 : Array Value) (hw : HW a0 Z) (ws : List Jvm.Cond) (p0 : Int32) (p1 : Int32) (p2 : Int32) (p3 : Int32) (ua : Addr) (sa : Addr) (cs : Int32) (fo : Value) (h0 : Heap) (n0 : Nat) (Z0 : n0 ≤ h0.size) (OL : Old Z n0 h0) (TH : ThS Z h0) (S_UNASSIGNED_STACK : Sta Z Z.heap "java/lang/Throwable" "UNASSIGNED_STACK" "[Ljava/lang/StackTraceElement;" (.ref ua)) (S_SUPPRESSED_SENTINEL : Sta Z Z.heap "java/lang/Throwable" "SUPPRESSED_SENTINEL" "Ljava/util/List;" (.ref sa)) (hl : l.stackTraces = true) (S_COMPACT_STRINGS : Sta Z Z.heap "java/lang/String" "COMPACT_STRINGS" "Z" (.int cs)) (hcs : ¬ (cs = (0 : Int32))) (S_SIOOBE_FORMATTER : Sta Z Z.heap "jdk/internal/util/Preconditions" "SIOOBE_FORMATTER" "Ljava/util/function/BiFunction;" fo) (hfo : (fo).isRef = true) (hz0 : ((p0 >>> ((2 : Int32) &&& 31)) &&& (1 : Int32)) = (0 : Int32)) (hn0 : (p0 &&& (3 : Int32)) = (0 : Int32)) :
    MetFree l x (head1 (Jvm.Cond.code x code maxLocals ret :: ws) room_1) (fun xa xU => xa = #[(.int p0), (.int p1), (.int p2), (.int p3)] ∧ Z.Warmed39 xU.vm ∧ xU.heap = h0 ∧ CHv Z consts_1 xU.vm h0 ∧ ∀ x ∈ ([] : List Addr), Safe Z consts_1 xU.vm h0 x) (fun _ _ bl s _ => s.vm.MethodsKnown ∧ s.vm.FramesKnown bl) (fun _ xU xo xU' => ∃ xv xL, xo = .returned xv ∧ Q_law n0 xv xL ∧ CHr Z consts_1 xU.vm xU.heap xU'.vm xU'.heap ∧ ReturnedEndW xU xo xU' xL room_1.cells room_1.slots) := by
  refine MetFree.of_bodySF (plainFor_of_name pn_com_example_dipper_dipper_store_NotFoundExceptionRoomPinLaw) hisR ?_
  intro pP eE sS mM argS bS methS cC s₁ Bd hml0 hP hK
  obtain ⟨rfl, hZ, hh, hCH, hSf⟩ := hP
  have hx := Bd.exec
  have hby := Bd.bytes
  have hml : cC.maxLocals = 15 := hml0
  have hown : sS.vm.findClass "com/example/dipper/dipper/store/NotFoundExceptionRoomPinLaw" = some mM.cls := findClass_of_methodNamed Bd.named
  have hnm := (name_of_methodNamed Bd.named Bd.method).1
  have X0 : Stand pP l eE room_1 (sS.setVm sS.vm) mM #[(.int p0), (.int p1), (.int p2), (.int p3)] bS methS cC s₁ [] 0 0 := Stand.of_body Bd
  have e0 : s₁.heap = h0 := by rw [← hh, Bd.state]; rfl
  have N0 := Fr.nil n0
  obtain ⟨hTK, hBelow⟩ := hK
  have hZ0 : Z.Warmed39 (sS.setVm sS.vm).vm := hZ
  have hown0 : (sS.setVm sS.vm).vm.findClass "com/example/dipper/dipper/store/NotFoundExceptionRoomPinLaw" = some mM.cls := hown
  have hS0 : sS.Since sS.vm 0 := (State.WarmedH.refl sS).since 0
  have CC0 : CHr Z consts_1 sS.vm h0 sS.vm h0 := CHr.refl hCH
  obtain ⟨T101, h101, X101, e101, E101, A101, D101, B101, st101⟩ := newO X0 hx hZ0 hown0 (wi hw 0 rfl) (wi hw 1 rfl) (wi hw 2 rfl) e0 (g := (mkF mM 82 (Lc_law_0_6 p0 p1 p2 p3) [])) rfl (hb hby at_82) (by decide) (by decide)
  obtain ⟨b101, g101⟩ : ∃ z : Nat, z = h0.size := ⟨_, rfl⟩
  rw [← g101] at A101 D101 B101 st101
  have Sz1 : h0.size ≤ h101.size := E101.1
  have CC1 : CHr Z consts_1 sS.vm h0 sS.vm h101 := CC0.trans (CHr.ext E101 CC0.1)
  have F101_value : Fld Z h101 b101 "java/lang/String" "value" "[B" .null := D101 (Or.inr (wi hw 16 rfl)) (ty := (.array .byte)) (by decide)
  have F101_coder : Fld Z h101 b101 "java/lang/String" "coder" "B" (.int (0 : Int32)) := D101 (Or.inr (wi hw 17 rfl)) (ty := .byte) (by decide)
  obtain ⟨T102, h102, k102, X102, e102, E102, A102, st102⟩ := newP X101 hx hZ0 (wi hw 3 rfl) e101 (g := (mkF mM 87 (Lc_law_0_6 p0 p1 p2 p3) [(.int (0 : Int32)), (.ref b101), (.ref b101)])) rfl (hb hby at_87) rfl (by decide) (cap := 0) (by decide) (by decide) (by decide) (by decide)
  obtain ⟨b102, g102⟩ : ∃ z : Nat, z = h101.size := ⟨_, rfl⟩
  rw [← g102] at A102 st102
  have Sz2 : h101.size ≤ h102.size := E102.1
  have CC2 : CHr Z consts_1 sS.vm h0 sS.vm h102 := CC1.trans (CHr.ext E102 CC1.1)
  have V_b102 : Arv Z h102 b102 k102 .char (0 : Int32) [] (.int (0 : Int32)) := (Arv.new A102 (by decide)).pad (pad_rep [] (.int (0 : Int32)) 0)
  have c104_E_b101 : Exa Z h102 b101 "java/lang/String" := Exa.ext E102 A101
  have c105_F_value_b101 : Fld Z h102 b101 "java/lang/String" "value" "[B" .null := Fld.ext E102 F101_value
  have c106_F_coder_b101 : Fld Z h102 b101 "java/lang/String" "coder" "B" (.int (0 : Int32)) := Fld.ext E102 F101_coder
  have ge107_b101 : @LE.le Nat _ n0 b101 := by omega
  have lt_b101 : @LT.lt Nat _ b101 h101.size := A101.lt
  have sf108_b101 : Safe Z consts_1 sS.vm h0 b101 := Safe.new (by omega)
  have sf109_b101 : Safe Z consts_1 sS.vm h101 b101 := Safe.ext E101 CC0.1 sf108_b101
  have sf110_b101 : Safe Z consts_1 sS.vm h102 b101 := Safe.ext E102 CC1.1 sf109_b101
  obtain ⟨_, _, ⟨T103, L103, k103, n103⟩, -, X103, hs103, hg103, ⟨Lc103, hQ103, l103, y103, z103, Ch103⟩, st103⟩ := X102.specialBackS hx (y := y39_) rfl hown0 (mvT hZ0 (wi hw 4 rfl)) (mvT hZ0 (wi hw 5 rfl)) (mvT hZ0 (wi hw 6 rfl)) (by decide) (backCH (W := 1) (rm_init1e l Z a0 hw [] b101 b102 k102 .null (.int (0 : Int32)) h102 n0 (by omega) c104_E_b101 c105_F_value_b101 c106_F_coder_b101 V_b102 ge107_b101) hZ0 (wi hw 6 rfl) (wi hw 2 rfl) (by decide) (by decide) (own_EW hw) CC2.1 (csS (by omega) sf110_b101 cs0) (fun _ _ _ _ _ _ _ Y hg => known_frames Y hg (Vm.MethodsKnown.alikeC hS0.1.alike hTK) (Vm.FramesKnown.alikeC hS0.1.alike hBelow))) (g := (mkF mM 89 (Lc_law_0_6 p0 p1 p2 p3) [(.ref b102), (.ref b101), (.ref b101)])) rfl (by rw [hml]; rfl) (Steps.refl _) (a := b101) (argsL := [(.ref b102)]) (rest := [(.ref b101)]) (lenOf pd_0 rfl) rfl (by show 2 * 0 + _ ≤ _; exact Nat.le_of_eq rfl) (hb hby at_89) (fun _ _ => ⟨rfl, e102, ble rfl, ble rfl⟩)
  dsimp only [Pt.U, Pt.locs, Pt.cells, Pt.slots] at X103 l103 y103 z103 st103 hQ103 hs103 hg103 Ch103
  subst y103 z103
  obtain ⟨X103', hS103, hZ103, hown103⟩ := rebS hS0 (by rw [e102]; omega) X103 hs103 hg103 hZ0 hown0
  obtain ⟨h103, e103⟩ : ∃ z, T103.heap = z := ⟨_, rfl⟩
  rw [e103] at hQ103 hS103 Ch103
  obtain ⟨b_103, k_103, rfl, N103q, Kp103, p103_E_o, p103_F_value_o, p103_F_coder_o, p103_V_b⟩ := hQ103
  have Sz3 : h102.size ≤ h103.size := Kp103.1
  have CC3 : CHr Z consts_1 sS.vm h0 T103.vm h103 := CC2.trans Ch103
  have N103 : Fr n0 L103 := by rw [l103]; exact Fr.app N0 N103q
  obtain ⟨T111, h111, k111, X111, e111, E111, A111, st111⟩ := newP X103' hx hZ103 (wi hw 3 rfl) e103 (g := (mkF mM 173 (Lc_law_0_7 p0 p1 p2 p3 b101) [(.int (21 : Int32))])) rfl (hb hby at_173) rfl (by decide) (cap := 21) (by decide) (by decide) (by decide) (by decide)
  obtain ⟨b111, g111⟩ : ∃ z : Nat, z = h103.size := ⟨_, rfl⟩
  rw [← g111] at A111 st111
  have Sz4 : h103.size ≤ h111.size := E111.1
  have CC4 : CHr Z consts_1 sS.vm h0 T103.vm h111 := CC3.trans (CHr.ext E111 CC3.1)
  have V_b111 : Arv Z h111 b111 k111 .char (21 : Int32) [(.int (0 : Int32)), (.int (0 : Int32)), (.int (0 : Int32)), (.int (0 : Int32)), (.int (0 : Int32)), (.int (0 : Int32)), (.int (0 : Int32)), (.int (0 : Int32)), (.int (0 : Int32)), (.int (0 : Int32)), (.int (0 : Int32)), (.int (0 : Int32)), (.int (0 : Int32)), (.int (0 : Int32)), (.int (0 : Int32)), (.int (0 : Int32)), (.int (0 : Int32)), (.int (0 : Int32)), (.int (0 : Int32)), (.int (0 : Int32)), (.int (0 : Int32))] (.int (0 : Int32)) := (Arv.new A111 (by decide)).pad (pad_rep [] (.int (0 : Int32)) 21)
  have ge113_b111 : @LE.le Nat _ n0 b111 := by omega
  obtain ⟨T112, h112, L112, X112, e112, N112, Kp112, p112_V_b, st112⟩ := sg_fill l Z a0 hw b111 k111 _ (.val (.int p0)) (.val (.int p1)) (.val (.int p2)) (.val (.int p3)) (.val (.int (0 : Int32))) (.val (.int (0 : Int32))) (.val (.int (p1 &&& (255 : Int32)))) (.val (.int (p2 &&& (255 : Int32)))) (.val (.int (p3 &&& (255 : Int32)))) (.val (.int (0 : Int32))) (.val (.ref b101)) (.unset) (.unset) (.unset) (.unset) h111 n0 (by omega) hx hby hml hZ103 hown103 X111 e111 N103 (by decide) (by decide) V_b111 ge113_b111 (rfl)
  have Sz5 : h111.size ≤ h112.size := Kp112.1
  have sf114_b111 : Safe Z consts_1 T103.vm h111 b111 := Safe.arv (show Z.Warmed39 T103.vm from hZ103).alike V_b111 (by decide)
  have CC5 : CHr Z consts_1 sS.vm h0 T103.vm h112 := CC4.trans (CHr.keep Kp112 (sfS sf114_b111 sf0) CC4.1)
  have p112_V_b' : Arv Z h112 b111 k111 .char (21 : Int32) [(.int (78 : Int32)), (.int (111 : Int32)), (.int (32 : Int32)), (.int (114 : Int32)), (.int (111 : Int32)), (.int (111 : Int32)), (.int (109 : Int32)), (.int (32 : Int32)), (.int (104 : Int32)), (.int (97 : Int32)), (.int (115 : Int32)), (.int (32 : Int32)), (.int (105 : Int32)), (.int (100 : Int32)), (.int (32 : Int32)), (.int (39 : Int32)), (.int (0 : Int32)), (.int (0 : Int32)), (.int (0 : Int32)), (.int (0 : Int32)), (.int (0 : Int32))] (.int (0 : Int32)) := p112_V_b
  obtain ⟨T115, h115, L115, X115, e115, N115, Kp115, p115_V_b, st115⟩ := sg_fill2 l Z a0 hw b111 k111 _ (p1 &&& (255 : Int32)) (p2 &&& (255 : Int32)) (p3 &&& (255 : Int32)) (0 : Int32) (.val (.int p0)) (.val (.int p1)) (.val (.int p2)) (.val (.int p3)) (.val (.int (0 : Int32))) (.val (.int (0 : Int32))) (.val (.ref b101)) (.unset) (.unset) (.unset) h112 n0 (by omega) hx hby hml hZ103 hown103 X112 e112 N112 (by decide) (by decide) p112_V_b' ge113_b111 (rfl) (i2c_mask p1) (i2c_mask p2) (i2c_mask p3) (by decide)
  have Sz6 : h112.size ≤ h115.size := Kp115.1
  have sf116_b111 : Safe Z consts_1 T103.vm h112 b111 := Safe.arv (show Z.Warmed39 T103.vm from hZ103).alike p112_V_b' (by decide)
  have CC6 : CHr Z consts_1 sS.vm h0 T103.vm h115 := CC5.trans (CHr.keep Kp115 (sfS sf116_b111 sf0) CC5.1)
  have p115_V_b' : Arv Z h115 b111 k111 .char (21 : Int32) [(.int (78 : Int32)), (.int (111 : Int32)), (.int (32 : Int32)), (.int (114 : Int32)), (.int (111 : Int32)), (.int (111 : Int32)), (.int (109 : Int32)), (.int (32 : Int32)), (.int (104 : Int32)), (.int (97 : Int32)), (.int (115 : Int32)), (.int (32 : Int32)), (.int (105 : Int32)), (.int (100 : Int32)), (.int (32 : Int32)), (.int (39 : Int32)), (.int (p1 &&& (255 : Int32))), (.int (p2 &&& (255 : Int32))), (.int (p3 &&& (255 : Int32))), (.int (0 : Int32)), (.int (0 : Int32))] (.int (0 : Int32)) := p115_V_b
  obtain ⟨cl117, Ar117, q117, S117, Ng117, Ha117, Ga117⟩ := id p115_V_b'
  have hin117 : ¬ ((16 : Int32) < 0 ∨ cl117.slots.size ≤ ((16 : Int32)).toNatClampNeg) := inb_of S117 ⟨by decide, by decide⟩
  obtain ⟨T118, h118, X118, e118, W118, st118⟩ := stC X115 hx hZ103 e115 Ar117 (j := (16 : Int32)) hin117 (g := (mkF mM 329 (Lc_law_0_8 p0 p1 p2 p3 b101 b111) [(.int (39 : Int32)), (.int (16 : Int32)), (.ref b111)])) rfl rfl (hb hby at_329)
  have Sz7 : h115.size ≤ h118.size := Nat.le_of_eq (Wr.size W118).symm
  have sf119_b111 : Safe Z consts_1 T103.vm h115 b111 := Safe.arv (show Z.Warmed39 T103.vm from hZ103).alike p115_V_b' (by decide)
  have CC7 : CHr Z consts_1 sS.vm h0 T103.vm h118 := CC6.trans (CHr.wr W118 sf119_b111 CC6.1)
  have Vs118 := Arv.set Ar117 q117 S117 Ng117 Ha117 Ga117 (fits_nar_char _) W118 16 rfl (Nat.le_of_ble_eq_true rfl)
  have Vt118 : Arv Z h118 b111 k111 .char (21 : Int32) [(.int (78 : Int32)), (.int (111 : Int32)), (.int (32 : Int32)), (.int (114 : Int32)), (.int (111 : Int32)), (.int (111 : Int32)), (.int (109 : Int32)), (.int (32 : Int32)), (.int (104 : Int32)), (.int (97 : Int32)), (.int (115 : Int32)), (.int (32 : Int32)), (.int (105 : Int32)), (.int (100 : Int32)), (.int (32 : Int32)), (.int (39 : Int32)), (.int (39 : Int32)), (.int (p2 &&& (255 : Int32))), (.int (p3 &&& (255 : Int32))), (.int (0 : Int32)), (.int (0 : Int32))] (.int (0 : Int32)) := Vs118
  have N118 := Fr.snoc X118 N115 ge113_b111
  have c121_E_b101 : Exa Z h111 b101 "java/lang/String" := Exa.ext E111 p103_E_o
  have c122_E_b101 : Exa Z h112 b101 "java/lang/String" := c121_E_b101.keep Kp112
  have c123_E_b101 : Exa Z h115 b101 "java/lang/String" := c122_E_b101.keep Kp115
  have c124_E_b101 : Exa Z h118 b101 "java/lang/String" := Exa.wr W118 c123_E_b101
  have c125_F_value_b101 : Fld Z h111 b101 "java/lang/String" "value" "[B" (.ref b_103) := Fld.ext E111 p103_F_value_o
  have lt_b111 : @LT.lt Nat _ b111 h111.size := V_b111.lt
  have ne_b101_b111_126 : b101 ≠ b111 := (by omega : @Ne Nat b101 b111)
  have c127_F_value_b101 : Fld Z h112 b101 "java/lang/String" "value" "[B" (.ref b_103) := c125_F_value_b101.keep Kp112 (ninS ne_b101_b111_126 nin0)
  have c128_F_value_b101 : Fld Z h115 b101 "java/lang/String" "value" "[B" (.ref b_103) := c127_F_value_b101.keep Kp115 (ninS ne_b101_b111_126 nin0)
  have c129_F_value_b101 : Fld Z h118 b101 "java/lang/String" "value" "[B" (.ref b_103) := Fld.other W118 c128_F_value_b101 (Or.inl ne_b101_b111_126)
  have c130_F_coder_b101 : Fld Z h111 b101 "java/lang/String" "coder" "B" (.int (0 : Int32)) := Fld.ext E111 p103_F_coder_o
  have c131_F_coder_b101 : Fld Z h112 b101 "java/lang/String" "coder" "B" (.int (0 : Int32)) := c130_F_coder_b101.keep Kp112 (ninS ne_b101_b111_126 nin0)
  have c132_F_coder_b101 : Fld Z h115 b101 "java/lang/String" "coder" "B" (.int (0 : Int32)) := c131_F_coder_b101.keep Kp115 (ninS ne_b101_b111_126 nin0)
  have c133_F_coder_b101 : Fld Z h118 b101 "java/lang/String" "coder" "B" (.int (0 : Int32)) := Fld.other W118 c132_F_coder_b101 (Or.inl ne_b101_b111_126)
  have c134_V_b_103 : Arv Z h111 b_103 k_103 .byte (iN 0) [] (.int (0 : Int32)) := p103_V_b.ext E111
  have lt_b_103 : @LT.lt Nat _ b_103 h103.size := p103_V_b.lt
  have ne_b_103_b111_135 : b_103 ≠ b111 := (by omega : @Ne Nat b_103 b111)
  have c136_V_b_103 : Arv Z h112 b_103 k_103 .byte (iN 0) [] (.int (0 : Int32)) := c134_V_b_103.keep Kp112 (ninS ne_b_103_b111_135 nin0)
  have c137_V_b_103 : Arv Z h115 b_103 k_103 .byte (iN 0) [] (.int (0 : Int32)) := c136_V_b_103.keep Kp115 (ninS ne_b_103_b111_135 nin0)
  have c138_V_b_103 : Arv Z h118 b_103 k_103 .byte (iN 0) [] (.int (0 : Int32)) := c137_V_b_103.other W118 ne_b_103_b111_135
  have c139_OL : Old Z n0 h101 := OL.ext E101
  have c140_OL : Old Z n0 h102 := c139_OL.ext E102
  have c141_OL : Old Z n0 h103 := c140_OL.keep Kp103 (allS ge107_b101 all0)
  have c142_OL : Old Z n0 h111 := c141_OL.ext E111
  have c143_OL : Old Z n0 h112 := c142_OL.keep Kp112 (allS ge113_b111 all0)
  have c144_OL : Old Z n0 h115 := c143_OL.keep Kp115 (allS ge113_b111 all0)
  have c145_OL : Old Z n0 h118 := c144_OL.wr W118 ge113_b111
  have c146_TH : ThS Z h101 := ThS.ext E101 TH
  have c147_TH : ThS Z h102 := ThS.ext E102 c146_TH
  have c148_TH : ThS Z h103 := ThS.keep Kp103 (nsS (Exa.nostat c104_E_b101) ns0) c147_TH
  have c149_TH : ThS Z h111 := ThS.ext E111 c148_TH
  have c150_TH : ThS Z h112 := ThS.keep Kp112 (nsS (Arv.nostat V_b111) ns0) c149_TH
  have c151_TH : ThS Z h115 := ThS.keep Kp115 (nsS (Arv.nostat p112_V_b') ns0) c150_TH
  have c152_TH : ThS Z h118 := ThS.wr W118 c151_TH
  obtain ⟨_, _, ⟨T120, L120, k120, n120⟩, -, X120, hs120, hg120, ⟨Lc120, hQ120, l120, y120, z120, Ch120⟩, st120⟩ := callSS X118 hx (y := y46_) hown103 (mvT hZ103 (wi hw 22 rfl)) (mvT hZ103 (wi hw 23 rfl)) (mvT hZ103 (wi hw 24 rfl)) (mvT hZ103 (wi hw 25 rfl)) (by decide) (backCH (W := 0) (rm_room_some l Z a0 hw [] b101 b_103 k_103 0 [] ua sa cs h118 n0 (by omega) c124_E_b101 c129_F_value_b101 c133_F_coder_b101 c138_V_b_103 (rfl) (by decide) c145_OL c152_TH S_UNASSIGNED_STACK S_SUPPRESSED_SENTINEL hl S_COMPACT_STRINGS hcs) hZ103 (wi hw 25 rfl) (wi hw 24 rfl) (by decide) (by decide) (own_EW hw) CC7.1 cs0 (fun _ _ _ _ _ _ _ Y hg => known_frames Y hg (Vm.MethodsKnown.alikeC hS103.1.alike hTK) (Vm.FramesKnown.alikeC hS103.1.alike hBelow))) (g := (mkF mM 339 (Lc_law_0_9 p0 p1 p2 p3 b101 b111) [(.ref b101)])) rfl (by rw [hml]; rfl) (argsL := [(.ref b101)]) (rest := []) (lenOf pd_3 rfl) rfl (by show 2 * 0 + _ ≤ _; exact Nat.le_of_eq rfl) (hb hby at_339) (fun _ _ => ⟨rfl, e118, ble rfl, ble rfl⟩)
  dsimp only [Pt.U, Pt.locs, Pt.cells, Pt.slots] at X120 l120 y120 z120 st120 hQ120 hs120 hg120 Ch120
  subst y120 z120
  obtain ⟨X120', hS120, hZ120, hown120⟩ := rebS hS103 (by rw [e118]; omega) X120 hs120 hg120 hZ103 hown103
  obtain ⟨h120, e120⟩ : ∃ z, T120.heap = z := ⟨_, rfl⟩
  rw [e120] at hQ120 hS120 Ch120
  obtain ⟨x_120, m_120, mb_120, mk_120, rfl, N120q, Kp120, p120_E_x, p120_F_detailMessage_x, p120_E_m, p120_F_value_m, p120_F_coder_m, p120_V_mb⟩ := hQ120
  have Sz8 : h118.size ≤ h120.size := Kp120.1
  have CC8 : CHr Z consts_1 sS.vm h0 T120.vm h120 := CC7.trans Ch120
  have N120 : Fr n0 L120 := by rw [l120]; exact Fr.app N118 N120q
  obtain ⟨cq153, kq153, q153a, q153b, q153c⟩ := isOf hZ120 e120 p120_E_x
  obtain ⟨_, _, ⟨T153, L153, k153, n153⟩, -, X153, ⟨Lc153, hQ153, l153, y153, z153⟩, st153⟩ := X120'.virtualBackUp hx (x := y47_) (y := y44_) (owner := "java/lang/Throwable") hown120 (mvT hZ120 (wi hw 215 rfl)) (mvT hZ120 (wi hw 216 rfl)) (mvT hZ120 (wi hw 217 rfl)) (by decide) (mvT hZ120 (wi hw 219 rfl)) (mvT hZ120 (wi hw 218 rfl)) (backOf (W := 0) (rm_getMsg l Z a0 hw [] x_120 m_120 h120 n0 (by omega) p120_F_detailMessage_x) hZ120 (wi hw 220 rfl) (wi hw 176 rfl) (by decide) (by decide)) q153a q153c (g := (mkF mM 353 (Lc_law_0_10 p0 p1 p2 p3 b101 b111 x_120) [(.ref x_120)])) rfl (by rw [hml]; rfl) (Steps.refl _) (argsL := []) (rest := []) (lenOf pd_17 rfl) rfl (by show 2 * 0 + _ ≤ _; exact Nat.le_of_eq rfl) (hb hby at_353) (fun _ _ => ⟨rfl, e120, ble rfl, ble rfl⟩)
  dsimp only [Pt.U, Pt.locs, Pt.cells, Pt.slots] at X153 l153 y153 z153 st153 hQ153
  subst y153 z153
  obtain ⟨h153, e153⟩ : ∃ z, T153.heap = z := ⟨_, rfl⟩
  rw [e153] at hQ153
  obtain ⟨rfl, N153q, eq153⟩ := hQ153
  rw [eq153] at e153
  have N153 : Fr n0 L153 := by rw [l153]; exact Fr.app N120 N153q
  have c155_OL : Old Z n0 h120 := c145_OL.keep Kp120 all0
  obtain ⟨cq154, kq154, q154a, q154b, q154c⟩ := isOf hZ120 e153 p120_E_m
  obtain ⟨_, _, ⟨T154, L154, k154, n154⟩, -, X154, ⟨Lc154, hQ154, l154, y154, z154⟩, st154⟩ := X153.virtualBack hx (y := y1_) (z := y1_) hown120 (mvT hZ120 (wi hw 221 rfl)) (mvT hZ120 (wi hw 58 rfl)) (notFace_of_selects (args := #[]) (mvT hZ120 (wi hw 60 rfl))) (mvT hZ120 (wi hw 60 rfl)) (mvT hZ120 (wi hw 59 rfl)) (by decide) (backOf (W := 0) (rm_length l Z a0 hw [] m_120 mb_120 mk_120 (((0 + 16) + 0) + 1) _ cs h120 n0 (by omega) p120_E_m p120_F_value_m p120_F_coder_m p120_V_mb c155_OL S_COMPACT_STRINGS hcs) hZ120 (wi hw 61 rfl) (wi hw 2 rfl) (by decide) (by decide)) q154a q154c (g := (mkF mM 365 (Lc_law_0_11 p0 p1 p2 p3 b101 b111 x_120 m_120) [(.ref m_120)])) rfl (by rw [hml]; rfl) (Steps.refl _) (argsL := []) (rest := []) (lenOf pd_7 rfl) rfl (by show 2 * 0 + _ ≤ _; exact Nat.le_of_eq rfl) (hb hby at_365) (fun _ _ => ⟨rfl, e153, ble rfl, ble rfl⟩)
  dsimp only [Pt.U, Pt.locs, Pt.cells, Pt.slots] at X154 l154 y154 z154 st154 hQ154
  subst y154 z154
  obtain ⟨h154, e154⟩ : ∃ z, T154.heap = z := ⟨_, rfl⟩
  rw [e154] at hQ154
  obtain ⟨rfl, N154q, eq154⟩ := hQ154
  rw [eq154] at e154
  have N154 : Fr n0 L154 := by rw [l154]; exact Fr.app N153 N154q
  have c157_V_b111 : Arv Z h120 b111 k111 .char (21 : Int32) [(.int (78 : Int32)), (.int (111 : Int32)), (.int (32 : Int32)), (.int (114 : Int32)), (.int (111 : Int32)), (.int (111 : Int32)), (.int (109 : Int32)), (.int (32 : Int32)), (.int (104 : Int32)), (.int (97 : Int32)), (.int (115 : Int32)), (.int (32 : Int32)), (.int (105 : Int32)), (.int (100 : Int32)), (.int (32 : Int32)), (.int (39 : Int32)), (.int (39 : Int32)), (.int (p2 &&& (255 : Int32))), (.int (p3 &&& (255 : Int32))), (.int (0 : Int32)), (.int (0 : Int32))] (.int (0 : Int32)) := Vt118.keep Kp120 nin0
  obtain ⟨T156, L156, X156, e156, N156, st156⟩ := sg_ats l Z a0 hw m_120 mb_120 mk_120 (iN (((0 + 16) + 0) + 1)) _ b111 k111 _ (17 : Int32) fo cs (.val (.int p0)) (.val (.int p1)) (.val (.int p2)) (.val (.int p3)) (.val (.int (0 : Int32))) (.val (.int (0 : Int32))) (.val (.int (p1 &&& (255 : Int32)))) (.val (.int (p2 &&& (255 : Int32)))) (.val (.int (p3 &&& (255 : Int32)))) (.val (.int (0 : Int32))) (.val (.ref b101)) (.val (.ref x_120)) h120 n0 (by omega) hx hby hml hZ120 hown120 X154 e154 N154 (by decide) (by decide) p120_E_m p120_F_value_m p120_F_coder_m p120_V_mb c157_V_b111 hfo c155_OL S_SIOOBE_FORMATTER S_COMPACT_STRINGS hcs (Or.inr ⟨by decide, by decide, by decide, by decide, (78 : Int32), (78 : Int32), rfl, rfl, by decide⟩) (Or.inr ⟨by decide, by decide, by decide, by decide, (111 : Int32), (111 : Int32), rfl, rfl, by decide⟩) (Or.inr ⟨by decide, by decide, by decide, by decide, (32 : Int32), (32 : Int32), rfl, rfl, by decide⟩) (Or.inr ⟨by decide, by decide, by decide, by decide, (114 : Int32), (114 : Int32), rfl, rfl, by decide⟩) (Or.inr ⟨by decide, by decide, by decide, by decide, (111 : Int32), (111 : Int32), rfl, rfl, by decide⟩) (Or.inr ⟨by decide, by decide, by decide, by decide, (111 : Int32), (111 : Int32), rfl, rfl, by decide⟩) (Or.inr ⟨by decide, by decide, by decide, by decide, (109 : Int32), (109 : Int32), rfl, rfl, by decide⟩) (Or.inr ⟨by decide, by decide, by decide, by decide, (32 : Int32), (32 : Int32), rfl, rfl, by decide⟩) (Or.inr ⟨by decide, by decide, by decide, by decide, (104 : Int32), (104 : Int32), rfl, rfl, by decide⟩) (Or.inr ⟨by decide, by decide, by decide, by decide, (97 : Int32), (97 : Int32), rfl, rfl, by decide⟩) (Or.inr ⟨by decide, by decide, by decide, by decide, (115 : Int32), (115 : Int32), rfl, rfl, by decide⟩) (Or.inr ⟨by decide, by decide, by decide, by decide, (32 : Int32), (32 : Int32), rfl, rfl, by decide⟩) (Or.inr ⟨by decide, by decide, by decide, by decide, (105 : Int32), (105 : Int32), rfl, rfl, by decide⟩) (Or.inr ⟨by decide, by decide, by decide, by decide, (100 : Int32), (100 : Int32), rfl, rfl, by decide⟩) (Or.inr ⟨by decide, by decide, by decide, by decide, (32 : Int32), (32 : Int32), rfl, rfl, by decide⟩) (Or.inr ⟨by decide, by decide, by decide, by decide, (39 : Int32), (39 : Int32), rfl, rfl, by decide⟩) (Or.inr ⟨by decide, by decide, by decide, by decide, (39 : Int32), (39 : Int32), rfl, rfl, by decide⟩) (Or.inl (by decide)) (Or.inl (by decide)) (Or.inl (by decide)) (Or.inl (by decide))
  obtain ⟨fs, hr, hrun, hended, hE⟩ := Stand.leaveW (s := sS) X156 hS120 (by rw [e156]; omega) (v := some (.int (1 : Int32))) (fun h => by rw [Bd.returns] at h; cases h)
  refine ⟨_, _, castTop (ef_law_0 mM p0 p1 p2 p3 ua sa cs fo) ?_, hrun, hended, _, _, rfl, ?_, ?_, hE.1, hE.2.1, hE.2.2.1, hE.2.2.2.mono (by decide) (by decide)⟩
  · show SS pP eE bS s₁ (mkF mM 0 (Lc_law_0_0 p0 p1 p2 p3) []) _
    refine XS.iloadN X0.here hx rfl (hb hby at_0) rfl ?_
    refine XS.iconst X0.here hx rfl (hb hby at_1) ?_
    refine XS.ishr X0.here hx rfl (hb hby at_2) rfl ?_
    refine XS.iconst X0.here hx rfl (hb hby at_3) ?_
    show SS pP eE bS s₁ (mkF mM 4 (Lc_law_0_0 p0 p1 p2 p3) [(.int (1 : Int32)), (.int (p0 >>> ((2 : Int32) &&& 31)))]) _
    refine XS.iand X0.here hx rfl (hb hby at_4) rfl ?_
    show SS pP eE bS s₁ (mkF mM 5 (Lc_law_0_0 p0 p1 p2 p3) [(.int ((p0 >>> ((2 : Int32) &&& 31)) &&& (1 : Int32)))]) _
    rw [show ((p0 >>> ((2 : Int32) &&& 31)) &&& (1 : Int32)) = (0 : Int32) from hz0]
    refine XS.ifYes X0.here hx rfl (pc0 := 5) (pc' := 12) rfl (hb hby at_5) rfl ((if0 _ _).trans (teq (by decide : (0 : Int32) = (0 : Int32))).1) (by decide) (by decide) ?_
    refine XS.iconst X0.here hx rfl (hb hby at_12) ?_
    refine XS.istore X0.here hx rfl (hb hby at_13) rfl (l' := (Lc_law_0_1 p0 p1 p2 p3)) rfl ?_
    show SS pP eE bS s₁ (mkF mM 15 (Lc_law_0_1 p0 p1 p2 p3) []) _
    refine XS.iloadN X0.here hx rfl (hb hby at_15) rfl ?_
    refine XS.iconst X0.here hx rfl (hb hby at_16) ?_
    refine XS.iand X0.here hx rfl (hb hby at_17) rfl ?_
    show SS pP eE bS s₁ (mkF mM 18 (Lc_law_0_1 p0 p1 p2 p3) [(.int (p0 &&& (3 : Int32)))]) _
    rw [show (p0 &&& (3 : Int32)) = (0 : Int32) from hn0]
    refine XS.istore X0.here hx rfl (hb hby at_18) rfl (l' := (Lc_law_0_2 p0 p1 p2 p3)) rfl ?_
    refine XS.iloadN X0.here hx rfl (hb hby at_20) rfl ?_
    refine XS.sipush X0.here hx rfl (hb hby at_21) ?_
    show SS pP eE bS s₁ (mkF mM 24 (Lc_law_0_2 p0 p1 p2 p3) [(.int (255 : Int32)), (.int p1)]) _
    refine XS.iand X0.here hx rfl (hb hby at_24) rfl ?_
    refine XS.i2c X0.here hx rfl (hb hby at_25) rfl ?_
    show SS pP eE bS s₁ (mkF mM 26 (Lc_law_0_2 p0 p1 p2 p3) [(.int ((p1 &&& (255 : Int32)).toUInt32.toUInt16.toUInt32.toInt32))]) _
    rw [show ((p1 &&& (255 : Int32)).toUInt32.toUInt16.toUInt32.toInt32) = (p1 &&& (255 : Int32)) from i2c_mask p1]
    refine XS.istore X0.here hx rfl (hb hby at_26) rfl (l' := (Lc_law_0_3 p0 p1 p2 p3)) rfl ?_
    refine XS.iloadN X0.here hx rfl (hb hby at_28) rfl ?_
    refine XS.sipush X0.here hx rfl (hb hby at_29) ?_
    show SS pP eE bS s₁ (mkF mM 32 (Lc_law_0_3 p0 p1 p2 p3) [(.int (255 : Int32)), (.int p2)]) _
    refine XS.iand X0.here hx rfl (hb hby at_32) rfl ?_
    refine XS.i2c X0.here hx rfl (hb hby at_33) rfl ?_
    show SS pP eE bS s₁ (mkF mM 34 (Lc_law_0_3 p0 p1 p2 p3) [(.int ((p2 &&& (255 : Int32)).toUInt32.toUInt16.toUInt32.toInt32))]) _
    rw [show ((p2 &&& (255 : Int32)).toUInt32.toUInt16.toUInt32.toInt32) = (p2 &&& (255 : Int32)) from i2c_mask p2]
    refine XS.istore X0.here hx rfl (hb hby at_34) rfl (l' := (Lc_law_0_4 p0 p1 p2 p3)) rfl ?_
    refine XS.iloadN X0.here hx rfl (hb hby at_36) rfl ?_
    refine XS.sipush X0.here hx rfl (hb hby at_37) ?_
    show SS pP eE bS s₁ (mkF mM 40 (Lc_law_0_4 p0 p1 p2 p3) [(.int (255 : Int32)), (.int p3)]) _
    refine XS.iand X0.here hx rfl (hb hby at_40) rfl ?_
    refine XS.i2c X0.here hx rfl (hb hby at_41) rfl ?_
    show SS pP eE bS s₁ (mkF mM 42 (Lc_law_0_4 p0 p1 p2 p3) [(.int ((p3 &&& (255 : Int32)).toUInt32.toUInt16.toUInt32.toInt32))]) _
    rw [show ((p3 &&& (255 : Int32)).toUInt32.toUInt16.toUInt32.toInt32) = (p3 &&& (255 : Int32)) from i2c_mask p3]
    refine XS.istore X0.here hx rfl (hb hby at_42) rfl (l' := (Lc_law_0_5 p0 p1 p2 p3)) rfl ?_
    refine XS.iconst X0.here hx rfl (hb hby at_44) ?_
    refine XS.istore X0.here hx rfl (hb hby at_45) rfl (l' := (Lc_law_0_6 p0 p1 p2 p3)) rfl ?_
    show SS pP eE bS s₁ (mkF mM 47 (Lc_law_0_6 p0 p1 p2 p3) []) _
    refine XS.iload X0.here hx rfl (hb hby at_47) rfl ?_
    refine XS.ifYes X0.here hx rfl (pc0 := 49) (pc' := 77) rfl (hb hby at_49) rfl ((if0 _ _).trans (teq (by decide : (0 : Int32) = (0 : Int32))).1) (by decide) (by decide) ?_
    refine XS.iload X0.here hx rfl (hb hby at_77) rfl ?_
    refine XS.ifNo X0.here hx rfl (hb hby at_79) rfl ((if0 _ _).trans (teq (by decide : (0 : Int32) = (0 : Int32))).2) ?_
    show SS pP eE bS s₁ (mkF mM 82 (Lc_law_0_6 p0 p1 p2 p3) []) _
    refine st101 _ ?_
    show SS pP eE bS T101 (mkF mM 85 (Lc_law_0_6 p0 p1 p2 p3) [(.ref b101)]) _
    refine XS.dup X101.here hx rfl (hb hby at_85) rfl rfl ?_
    refine XS.iconst X101.here hx rfl (hb hby at_86) ?_
    show SS pP eE bS T101 (mkF mM 87 (Lc_law_0_6 p0 p1 p2 p3) [(.int (0 : Int32)), (.ref b101), (.ref b101)]) _
    refine st102 _ ?_
    show SS pP eE bS T102 (mkF mM 89 (Lc_law_0_6 p0 p1 p2 p3) [(.ref b102), (.ref b101), (.ref b101)]) _
    refine st103.trans ?_
    show SS pP eE bS T103 (mkF mM 92 (Lc_law_0_6 p0 p1 p2 p3) [(.ref b101)]) _
    refine XS.astore X103'.here hx rfl (hb hby at_92) rfl rfl (l' := (Lc_law_0_7 p0 p1 p2 p3 b101)) rfl ?_
    refine XS.goto X103'.here hx rfl (pc0 := 94) (pc' := 171) rfl (hb hby at_94) (by decide) (by decide) ?_
    refine XS.bipush X103'.here hx rfl (hb hby at_171) ?_
    show SS pP eE bS T103 (mkF mM 173 (Lc_law_0_7 p0 p1 p2 p3 b101) [(.int (21 : Int32))]) _
    refine st111 _ ?_
    show SS pP eE bS T111 (mkF mM 175 (Lc_law_0_7 p0 p1 p2 p3 b101) [(.ref b111)]) _
    refine st112 _ ?_
    refine XS.astore X112.here hx rfl (hb hby at_290) rfl rfl (l' := (Lc_law_0_8 p0 p1 p2 p3 b101 b111)) rfl ?_
    refine st115 _ ?_
    refine XS.aload X115.here hx rfl (hb hby at_320) rfl rfl ?_
    show SS pP eE bS T115 (mkF mM 322 (Lc_law_0_8 p0 p1 p2 p3 b101 b111) [(.ref b111)]) _
    refine XS.bipush X115.here hx rfl (hb hby at_322) ?_
    refine XS.iload X115.here hx rfl (hb hby at_324) rfl ?_
    refine XS.iadd X115.here hx rfl (hb hby at_326) rfl ?_
    refine XS.bipush X115.here hx rfl (hb hby at_327) ?_
    show SS pP eE bS T115 (mkF mM 329 (Lc_law_0_8 p0 p1 p2 p3 b101 b111) [(.int (39 : Int32)), (.int (16 : Int32)), (.ref b111)]) _
    refine st118 _ ?_
    show SS pP eE bS T118 (mkF mM 330 (Lc_law_0_8 p0 p1 p2 p3 b101 b111) []) _
    refine XS.bipush X118.here hx rfl (hb hby at_330) ?_
    refine XS.iload X118.here hx rfl (hb hby at_332) rfl ?_
    refine XS.iadd X118.here hx rfl (hb hby at_334) rfl ?_
    refine XS.istore X118.here hx rfl (hb hby at_335) rfl (l' := (Lc_law_0_9 p0 p1 p2 p3 b101 b111)) rfl ?_
    show SS pP eE bS T118 (mkF mM 337 (Lc_law_0_9 p0 p1 p2 p3 b101 b111) []) _
    refine XS.aload X118.here hx rfl (hb hby at_337) rfl rfl ?_
    show SS pP eE bS T118 (mkF mM 339 (Lc_law_0_9 p0 p1 p2 p3 b101 b111) [(.ref b101)]) _
    refine st120.trans ?_
    show SS pP eE bS T120 (mkF mM 342 (Lc_law_0_9 p0 p1 p2 p3 b101 b111) [(.ref x_120)]) _
    refine XS.astore X120'.here hx rfl (hb hby at_342) rfl rfl (l' := (Lc_law_0_10 p0 p1 p2 p3 b101 b111 x_120)) rfl ?_
    refine XS.aload X120'.here hx rfl (hb hby at_344) rfl rfl ?_
    refine XS.ifnonnullYes X120'.here hx rfl (pc0 := 346) (pc' := 351) rfl (hb hby at_346) rfl (by decide) (by decide) ?_
    refine XS.aload X120'.here hx rfl (hb hby at_351) rfl rfl ?_
    show SS pP eE bS T120 (mkF mM 353 (Lc_law_0_10 p0 p1 p2 p3 b101 b111 x_120) [(.ref x_120)]) _
    refine st153.trans ?_
    show SS pP eE bS T153 (mkF mM 356 (Lc_law_0_10 p0 p1 p2 p3 b101 b111 x_120) [(.ref m_120)]) _
    refine XS.astore X153.here hx rfl (hb hby at_356) rfl rfl (l' := (Lc_law_0_11 p0 p1 p2 p3 b101 b111 x_120 m_120)) rfl ?_
    refine XS.aload X153.here hx rfl (hb hby at_358) rfl rfl ?_
    refine XS.ifnullNo X153.here hx rfl (hb hby at_360) rfl ?_
    refine XS.aload X153.here hx rfl (hb hby at_363) rfl rfl ?_
    show SS pP eE bS T153 (mkF mM 365 (Lc_law_0_11 p0 p1 p2 p3 b101 b111 x_120 m_120) [(.ref m_120)]) _
    refine st154.trans ?_
    show SS pP eE bS T154 (mkF mM 368 (Lc_law_0_11 p0 p1 p2 p3 b101 b111 x_120 m_120) [(.int (iN (((0 + 16) + 0) + 1)))]) _
    refine XS.iload X154.here hx rfl (hb hby at_368) rfl ?_
    refine XS.icmpYes X154.here hx rfl (pc0 := 370) (pc' := 375) rfl (hb hby at_370) rfl (teq (by decide : (iN (((0 + 16) + 0) + 1)) = (17 : Int32))).1 (by decide) (by decide) ?_
    refine st156 _ ?_
    refine XS.iconst X156.here hx rfl (hb hby at_663) ?_
    show SS pP eE bS T156 (mkF mM 664 (Lc_law_0_11 p0 p1 p2 p3 b101 b111 x_120 m_120) [(.int (1 : Int32))]) _
    refine XS.goto X156.here hx rfl (pc0 := 664) (pc' := 668) rfl (hb hby at_664) (by decide) (by decide) ?_
    show SS pP eE bS T156 (mkF mM 668 (Lc_law_0_11 p0 p1 p2 p3 b101 b111 x_120 m_120) [(.int (1 : Int32))]) _
    exact retN X156 hx (t := .boolean) Bd.returns (by simp) (hb hby at_668) hr
  · exact ⟨rfl, N156⟩
  · show CHr Z consts_1 sS.vm sS.heap T156.vm T156.heap
    rw [hh, e156]
    exact CC8.trans (CHv.at X156 hZ120 (own_EW hw) CC8.1)
-- MARK lw1
theorem pd_34 : parseMethodDescriptor "(C)Ljava/lang/String;" = some ⟨[.char], some (.object "java/lang/String")⟩ := by decide +kernel
abbrev Lc_law_1_0 (p0 : Int32) (p1 : Int32) (p2 : Int32) (p3 : Int32) : Array Slot := #[.val (.int p0), .val (.int p1), .val (.int p2), .val (.int p3), .unset, .unset, .unset, .unset, .unset, .unset, .unset, .unset, .unset, .unset, .unset]
abbrev Lc_law_1_1 (p0 : Int32) (p1 : Int32) (p2 : Int32) (p3 : Int32) : Array Slot := #[.val (.int p0), .val (.int p1), .val (.int p2), .val (.int p3), .val (.int (0 : Int32)), .unset, .unset, .unset, .unset, .unset, .unset, .unset, .unset, .unset, .unset]
abbrev Lc_law_1_2 (p0 : Int32) (p1 : Int32) (p2 : Int32) (p3 : Int32) : Array Slot := #[.val (.int p0), .val (.int p1), .val (.int p2), .val (.int p3), .val (.int (0 : Int32)), .val (.int (1 : Int32)), .unset, .unset, .unset, .unset, .unset, .unset, .unset, .unset, .unset]
abbrev Lc_law_1_3 (p0 : Int32) (p1 : Int32) (p2 : Int32) (p3 : Int32) : Array Slot := #[.val (.int p0), .val (.int p1), .val (.int p2), .val (.int p3), .val (.int (0 : Int32)), .val (.int (1 : Int32)), .val (.int (p1 &&& (255 : Int32))), .unset, .unset, .unset, .unset, .unset, .unset, .unset, .unset]
abbrev Lc_law_1_4 (p0 : Int32) (p1 : Int32) (p2 : Int32) (p3 : Int32) : Array Slot := #[.val (.int p0), .val (.int p1), .val (.int p2), .val (.int p3), .val (.int (0 : Int32)), .val (.int (1 : Int32)), .val (.int (p1 &&& (255 : Int32))), .val (.int (p2 &&& (255 : Int32))), .unset, .unset, .unset, .unset, .unset, .unset, .unset]
abbrev Lc_law_1_5 (p0 : Int32) (p1 : Int32) (p2 : Int32) (p3 : Int32) : Array Slot := #[.val (.int p0), .val (.int p1), .val (.int p2), .val (.int p3), .val (.int (0 : Int32)), .val (.int (1 : Int32)), .val (.int (p1 &&& (255 : Int32))), .val (.int (p2 &&& (255 : Int32))), .val (.int (p3 &&& (255 : Int32))), .unset, .unset, .unset, .unset, .unset, .unset]
abbrev Lc_law_1_6 (p0 : Int32) (p1 : Int32) (p2 : Int32) (p3 : Int32) : Array Slot := #[.val (.int p0), .val (.int p1), .val (.int p2), .val (.int p3), .val (.int (0 : Int32)), .val (.int (1 : Int32)), .val (.int (p1 &&& (255 : Int32))), .val (.int (p2 &&& (255 : Int32))), .val (.int (p3 &&& (255 : Int32))), .val (.int (0 : Int32)), .unset, .unset, .unset, .unset, .unset]
abbrev Lc_law_1_7 (p0 : Int32) (p1 : Int32) (p2 : Int32) (p3 : Int32) (t_101 : Addr) : Array Slot := #[.val (.int p0), .val (.int p1), .val (.int p2), .val (.int p3), .val (.int (0 : Int32)), .val (.int (1 : Int32)), .val (.int (p1 &&& (255 : Int32))), .val (.int (p2 &&& (255 : Int32))), .val (.int (p3 &&& (255 : Int32))), .val (.int (0 : Int32)), .val (.ref t_101), .unset, .unset, .unset, .unset]
abbrev Lc_law_1_8 (p0 : Int32) (p1 : Int32) (p2 : Int32) (p3 : Int32) (t_101 : Addr) (b102 : Addr) : Array Slot := #[.val (.int p0), .val (.int p1), .val (.int p2), .val (.int p3), .val (.int (0 : Int32)), .val (.int (1 : Int32)), .val (.int (p1 &&& (255 : Int32))), .val (.int (p2 &&& (255 : Int32))), .val (.int (p3 &&& (255 : Int32))), .val (.int (0 : Int32)), .val (.ref t_101), .val (.ref b102), .unset, .unset, .unset]
abbrev Lc_law_1_9 (p0 : Int32) (p1 : Int32) (p2 : Int32) (p3 : Int32) (t_101 : Addr) (b102 : Addr) : Array Slot := #[.val (.int p0), .val (.int p1), .val (.int p2), .val (.int p3), .val (.int (0 : Int32)), .val (.int (1 : Int32)), .val (.int (p1 &&& (255 : Int32))), .val (.int (p2 &&& (255 : Int32))), .val (.int (p3 &&& (255 : Int32))), .val (.int (0 : Int32)), .val (.ref t_101), .val (.ref b102), .val (.int (18 : Int32)), .unset, .unset]
abbrev Lc_law_1_10 (p0 : Int32) (p1 : Int32) (p2 : Int32) (p3 : Int32) (t_101 : Addr) (b102 : Addr) (x_111 : Addr) : Array Slot := #[.val (.int p0), .val (.int p1), .val (.int p2), .val (.int p3), .val (.int (0 : Int32)), .val (.int (1 : Int32)), .val (.int (p1 &&& (255 : Int32))), .val (.int (p2 &&& (255 : Int32))), .val (.int (p3 &&& (255 : Int32))), .val (.int (0 : Int32)), .val (.ref t_101), .val (.ref b102), .val (.int (18 : Int32)), .val (.ref x_111), .unset]
abbrev Lc_law_1_11 (p0 : Int32) (p1 : Int32) (p2 : Int32) (p3 : Int32) (t_101 : Addr) (b102 : Addr) (x_111 : Addr) (m_111 : Addr) : Array Slot := #[.val (.int p0), .val (.int p1), .val (.int p2), .val (.int p3), .val (.int (0 : Int32)), .val (.int (1 : Int32)), .val (.int (p1 &&& (255 : Int32))), .val (.int (p2 &&& (255 : Int32))), .val (.int (p3 &&& (255 : Int32))), .val (.int (0 : Int32)), .val (.ref t_101), .val (.ref b102), .val (.int (18 : Int32)), .val (.ref x_111), .val (.ref m_111)]
theorem ef_law_1 (mM : MethodId) (p0 : Int32) (p1 : Int32) (p2 : Int32) (p3 : Int32) (ua : Addr) (sa : Addr) (cs : Int32) (fo : Value) : entryFrame mM #[(.int p0), (.int p1), (.int p2), (.int p3)] maxLocals = mkF mM 0 #[.val (.int p0), .val (.int p1), .val (.int p2), .val (.int p3), .unset, .unset, .unset, .unset, .unset, .unset, .unset, .unset, .unset, .unset, .unset] [] := by
  first | (simp [entryFrame, mkF, argsToLocals, Value.category, maxLocals]; done) | rfl
theorem rm_law_1 (l : Launch) (Z : State) (a0 : Array Value) (hw : HW a0 Z) (ws : List Jvm.Cond) (p0 : Int32) (p1 : Int32) (p2 : Int32) (p3 : Int32) (ua : Addr) (sa : Addr) (cs : Int32) (fo : Value) (h0 : Heap) (n0 : Nat) (Z0 : n0 ≤ h0.size) (OL : Old Z n0 h0) (TH : ThS Z h0) (S_UNASSIGNED_STACK : Sta Z Z.heap "java/lang/Throwable" "UNASSIGNED_STACK" "[Ljava/lang/StackTraceElement;" (.ref ua)) (S_SUPPRESSED_SENTINEL : Sta Z Z.heap "java/lang/Throwable" "SUPPRESSED_SENTINEL" "Ljava/util/List;" (.ref sa)) (hl : l.stackTraces = true) (S_COMPACT_STRINGS : Sta Z Z.heap "java/lang/String" "COMPACT_STRINGS" "Z" (.int cs)) (hcs : ¬ (cs = (0 : Int32))) (S_SIOOBE_FORMATTER : Sta Z Z.heap "jdk/internal/util/Preconditions" "SIOOBE_FORMATTER" "Ljava/util/function/BiFunction;" fo) (hfo : (fo).isRef = true) (hz0 : ((p0 >>> ((2 : Int32) &&& 31)) &&& (1 : Int32)) = (0 : Int32)) (hn0 : (p0 &&& (3 : Int32)) = (1 : Int32)) :
    MetFree l x (head1 (Jvm.Cond.code x code maxLocals ret :: ws) room_1) (fun xa xU => xa = #[(.int p0), (.int p1), (.int p2), (.int p3)] ∧ Z.Warmed39 xU.vm ∧ xU.heap = h0 ∧ CHv Z consts_1 xU.vm h0 ∧ ∀ x ∈ ([] : List Addr), Safe Z consts_1 xU.vm h0 x) (fun _ _ bl s _ => s.vm.MethodsKnown ∧ s.vm.FramesKnown bl) (fun _ xU xo xU' => ∃ xv xL, xo = .returned xv ∧ Q_law n0 xv xL ∧ CHr Z consts_1 xU.vm xU.heap xU'.vm xU'.heap ∧ ReturnedEndW xU xo xU' xL room_1.cells room_1.slots) := by
  refine MetFree.of_bodySF (plainFor_of_name pn_com_example_dipper_dipper_store_NotFoundExceptionRoomPinLaw) hisR ?_
  intro pP eE sS mM argS bS methS cC s₁ Bd hml0 hP hK
  obtain ⟨rfl, hZ, hh, hCH, hSf⟩ := hP
  have hx := Bd.exec
  have hby := Bd.bytes
  have hml : cC.maxLocals = 15 := hml0
  have hown : sS.vm.findClass "com/example/dipper/dipper/store/NotFoundExceptionRoomPinLaw" = some mM.cls := findClass_of_methodNamed Bd.named
  have hnm := (name_of_methodNamed Bd.named Bd.method).1
  have X0 : Stand pP l eE room_1 (sS.setVm sS.vm) mM #[(.int p0), (.int p1), (.int p2), (.int p3)] bS methS cC s₁ [] 0 0 := Stand.of_body Bd
  have e0 : s₁.heap = h0 := by rw [← hh, Bd.state]; rfl
  have N0 := Fr.nil n0
  obtain ⟨hTK, hBelow⟩ := hK
  have hZ0 : Z.Warmed39 (sS.setVm sS.vm).vm := hZ
  have hown0 : (sS.setVm sS.vm).vm.findClass "com/example/dipper/dipper/store/NotFoundExceptionRoomPinLaw" = some mM.cls := hown
  have hS0 : sS.Since sS.vm 0 := (State.WarmedH.refl sS).since 0
  have CC0 : CHr Z consts_1 sS.vm h0 sS.vm h0 := CHr.refl hCH
  obtain ⟨_, _, ⟨T101, L101, k101, n101⟩, -, X101, ⟨Lc101, hQ101, l101, y101, z101⟩, st101⟩ := Jvm.LawKit.callS X0 hx (y := y34_) hown0 (mvT hZ0 (wi hw 264 rfl)) (mvT hZ0 (wi hw 265 rfl)) (mvT hZ0 (wi hw 2 rfl)) (mvT hZ0 (wi hw 266 rfl)) (by decide) (backOf (W := 0) (rm_valueOf l Z a0 hw [] (p1 &&& (255 : Int32)) cs h0 n0 (by omega) (own_lim _) OL S_COMPACT_STRINGS hcs) hZ0 (wi hw 266 rfl) (wi hw 2 rfl) (by decide) (by decide)) (g := (mkF mM 105 (Lc_law_1_6 p0 p1 p2 p3) [(.int (p1 &&& (255 : Int32)))])) rfl (by rw [hml]; rfl) (argsL := [(.int (p1 &&& (255 : Int32)))]) (rest := []) (lenOf pd_34 rfl) rfl (by show 2 * 0 + _ ≤ _; exact Nat.le_of_eq rfl) (hb hby at_105) (fun _ _ => ⟨rfl, e0, ble rfl, ble rfl⟩)
  dsimp only [Pt.U, Pt.locs, Pt.cells, Pt.slots] at X101 l101 y101 z101 st101 hQ101
  subst y101 z101
  obtain ⟨h101, e101⟩ : ∃ z, T101.heap = z := ⟨_, rfl⟩
  rw [e101] at hQ101
  obtain ⟨t_101, b_101, k_101, rfl, N101q, Kp101, p101_E_t, p101_F_value_t, p101_F_coder_t, p101_V_b, p101_gh_t, p101_gh_b⟩ := hQ101
  have Sz1 : h0.size ≤ h101.size := Kp101.1
  have CC1 : CHr Z consts_1 sS.vm h0 sS.vm h101 := CC0.trans (CHr.keep Kp101 sf0 CC0.1)
  have N101 : Fr n0 L101 := by rw [l101]; exact Fr.app N0 N101q
  obtain ⟨T102, h102, k102, X102, e102, E102, A102, st102⟩ := newP X101 hx hZ0 (wi hw 3 rfl) e101 (g := (mkF mM 173 (Lc_law_1_7 p0 p1 p2 p3 t_101) [(.int (21 : Int32))])) rfl (hb hby at_173) rfl (by decide) (cap := 21) (by decide) (by decide) (by decide) (by decide)
  obtain ⟨b102, g102⟩ : ∃ z : Nat, z = h101.size := ⟨_, rfl⟩
  rw [← g102] at A102 st102
  have Sz2 : h101.size ≤ h102.size := E102.1
  have CC2 : CHr Z consts_1 sS.vm h0 sS.vm h102 := CC1.trans (CHr.ext E102 CC1.1)
  have V_b102 : Arv Z h102 b102 k102 .char (21 : Int32) [(.int (0 : Int32)), (.int (0 : Int32)), (.int (0 : Int32)), (.int (0 : Int32)), (.int (0 : Int32)), (.int (0 : Int32)), (.int (0 : Int32)), (.int (0 : Int32)), (.int (0 : Int32)), (.int (0 : Int32)), (.int (0 : Int32)), (.int (0 : Int32)), (.int (0 : Int32)), (.int (0 : Int32)), (.int (0 : Int32)), (.int (0 : Int32)), (.int (0 : Int32)), (.int (0 : Int32)), (.int (0 : Int32)), (.int (0 : Int32)), (.int (0 : Int32))] (.int (0 : Int32)) := (Arv.new A102 (by decide)).pad (pad_rep [] (.int (0 : Int32)) 21)
  have ge104_b102 : @LE.le Nat _ n0 b102 := by omega
  obtain ⟨T103, h103, L103, X103, e103, N103, Kp103, p103_V_b, st103⟩ := sg_fill l Z a0 hw b102 k102 _ (.val (.int p0)) (.val (.int p1)) (.val (.int p2)) (.val (.int p3)) (.val (.int (0 : Int32))) (.val (.int (1 : Int32))) (.val (.int (p1 &&& (255 : Int32)))) (.val (.int (p2 &&& (255 : Int32)))) (.val (.int (p3 &&& (255 : Int32)))) (.val (.int (0 : Int32))) (.val (.ref t_101)) (.unset) (.unset) (.unset) (.unset) h102 n0 (by omega) hx hby hml hZ0 hown0 X102 e102 N101 (by decide) (by decide) V_b102 ge104_b102 (rfl)
  have Sz3 : h102.size ≤ h103.size := Kp103.1
  have sf105_b102 : Safe Z consts_1 sS.vm h102 b102 := Safe.arv (show Z.Warmed39 sS.vm from hZ0).alike V_b102 (by decide)
  have CC3 : CHr Z consts_1 sS.vm h0 sS.vm h103 := CC2.trans (CHr.keep Kp103 (sfS sf105_b102 sf0) CC2.1)
  have p103_V_b' : Arv Z h103 b102 k102 .char (21 : Int32) [(.int (78 : Int32)), (.int (111 : Int32)), (.int (32 : Int32)), (.int (114 : Int32)), (.int (111 : Int32)), (.int (111 : Int32)), (.int (109 : Int32)), (.int (32 : Int32)), (.int (104 : Int32)), (.int (97 : Int32)), (.int (115 : Int32)), (.int (32 : Int32)), (.int (105 : Int32)), (.int (100 : Int32)), (.int (32 : Int32)), (.int (39 : Int32)), (.int (0 : Int32)), (.int (0 : Int32)), (.int (0 : Int32)), (.int (0 : Int32)), (.int (0 : Int32))] (.int (0 : Int32)) := p103_V_b
  obtain ⟨T106, h106, L106, X106, e106, N106, Kp106, p106_V_b, st106⟩ := sg_fill2 l Z a0 hw b102 k102 _ (p1 &&& (255 : Int32)) (p2 &&& (255 : Int32)) (p3 &&& (255 : Int32)) (0 : Int32) (.val (.int p0)) (.val (.int p1)) (.val (.int p2)) (.val (.int p3)) (.val (.int (0 : Int32))) (.val (.int (1 : Int32))) (.val (.ref t_101)) (.unset) (.unset) (.unset) h103 n0 (by omega) hx hby hml hZ0 hown0 X103 e103 N103 (by decide) (by decide) p103_V_b' ge104_b102 (rfl) (i2c_mask p1) (i2c_mask p2) (i2c_mask p3) (by decide)
  have Sz4 : h103.size ≤ h106.size := Kp106.1
  have sf107_b102 : Safe Z consts_1 sS.vm h103 b102 := Safe.arv (show Z.Warmed39 sS.vm from hZ0).alike p103_V_b' (by decide)
  have CC4 : CHr Z consts_1 sS.vm h0 sS.vm h106 := CC3.trans (CHr.keep Kp106 (sfS sf107_b102 sf0) CC3.1)
  have p106_V_b' : Arv Z h106 b102 k102 .char (21 : Int32) [(.int (78 : Int32)), (.int (111 : Int32)), (.int (32 : Int32)), (.int (114 : Int32)), (.int (111 : Int32)), (.int (111 : Int32)), (.int (109 : Int32)), (.int (32 : Int32)), (.int (104 : Int32)), (.int (97 : Int32)), (.int (115 : Int32)), (.int (32 : Int32)), (.int (105 : Int32)), (.int (100 : Int32)), (.int (32 : Int32)), (.int (39 : Int32)), (.int (p1 &&& (255 : Int32))), (.int (p2 &&& (255 : Int32))), (.int (p3 &&& (255 : Int32))), (.int (0 : Int32)), (.int (0 : Int32))] (.int (0 : Int32)) := p106_V_b
  obtain ⟨cl108, Ar108, q108, S108, Ng108, Ha108, Ga108⟩ := id p106_V_b'
  have hin108 : ¬ ((17 : Int32) < 0 ∨ cl108.slots.size ≤ ((17 : Int32)).toNatClampNeg) := inb_of S108 ⟨by decide, by decide⟩
  obtain ⟨T109, h109, X109, e109, W109, st109⟩ := stC X106 hx hZ0 e106 Ar108 (j := (17 : Int32)) hin108 (g := (mkF mM 329 (Lc_law_1_8 p0 p1 p2 p3 t_101 b102) [(.int (39 : Int32)), (.int (17 : Int32)), (.ref b102)])) rfl rfl (hb hby at_329)
  have Sz5 : h106.size ≤ h109.size := Nat.le_of_eq (Wr.size W109).symm
  have sf110_b102 : Safe Z consts_1 sS.vm h106 b102 := Safe.arv (show Z.Warmed39 sS.vm from hZ0).alike p106_V_b' (by decide)
  have CC5 : CHr Z consts_1 sS.vm h0 sS.vm h109 := CC4.trans (CHr.wr W109 sf110_b102 CC4.1)
  have Vs109 := Arv.set Ar108 q108 S108 Ng108 Ha108 Ga108 (fits_nar_char _) W109 17 rfl (Nat.le_of_ble_eq_true rfl)
  have Vt109 : Arv Z h109 b102 k102 .char (21 : Int32) [(.int (78 : Int32)), (.int (111 : Int32)), (.int (32 : Int32)), (.int (114 : Int32)), (.int (111 : Int32)), (.int (111 : Int32)), (.int (109 : Int32)), (.int (32 : Int32)), (.int (104 : Int32)), (.int (97 : Int32)), (.int (115 : Int32)), (.int (32 : Int32)), (.int (105 : Int32)), (.int (100 : Int32)), (.int (32 : Int32)), (.int (39 : Int32)), (.int (p1 &&& (255 : Int32))), (.int (39 : Int32)), (.int (p3 &&& (255 : Int32))), (.int (0 : Int32)), (.int (0 : Int32))] (.int (0 : Int32)) := Vs109
  have N109 := Fr.snoc X109 N106 ge104_b102
  have c112_E_t_101 : Exa Z h102 t_101 "java/lang/String" := Exa.ext E102 p101_E_t
  have c113_E_t_101 : Exa Z h103 t_101 "java/lang/String" := c112_E_t_101.keep Kp103
  have c114_E_t_101 : Exa Z h106 t_101 "java/lang/String" := c113_E_t_101.keep Kp106
  have c115_E_t_101 : Exa Z h109 t_101 "java/lang/String" := Exa.wr W109 c114_E_t_101
  have c116_F_value_t_101 : Fld Z h102 t_101 "java/lang/String" "value" "[B" (.ref b_101) := Fld.ext E102 p101_F_value_t
  have lt_t_101 : @LT.lt Nat _ t_101 h101.size := p101_E_t.lt
  have lt_b102 : @LT.lt Nat _ b102 h102.size := V_b102.lt
  have ne_t_101_b102_117 : t_101 ≠ b102 := (by omega : @Ne Nat t_101 b102)
  have c118_F_value_t_101 : Fld Z h103 t_101 "java/lang/String" "value" "[B" (.ref b_101) := c116_F_value_t_101.keep Kp103 (ninS ne_t_101_b102_117 nin0)
  have c119_F_value_t_101 : Fld Z h106 t_101 "java/lang/String" "value" "[B" (.ref b_101) := c118_F_value_t_101.keep Kp106 (ninS ne_t_101_b102_117 nin0)
  have c120_F_value_t_101 : Fld Z h109 t_101 "java/lang/String" "value" "[B" (.ref b_101) := Fld.other W109 c119_F_value_t_101 (Or.inl ne_t_101_b102_117)
  have c121_F_coder_t_101 : Fld Z h102 t_101 "java/lang/String" "coder" "B" (.int (0 : Int32)) := Fld.ext E102 p101_F_coder_t
  have c122_F_coder_t_101 : Fld Z h103 t_101 "java/lang/String" "coder" "B" (.int (0 : Int32)) := c121_F_coder_t_101.keep Kp103 (ninS ne_t_101_b102_117 nin0)
  have c123_F_coder_t_101 : Fld Z h106 t_101 "java/lang/String" "coder" "B" (.int (0 : Int32)) := c122_F_coder_t_101.keep Kp106 (ninS ne_t_101_b102_117 nin0)
  have c124_F_coder_t_101 : Fld Z h109 t_101 "java/lang/String" "coder" "B" (.int (0 : Int32)) := Fld.other W109 c123_F_coder_t_101 (Or.inl ne_t_101_b102_117)
  have c125_V_b_101 : Arv Z h102 b_101 k_101 .byte (1 : Int32) [(.int (p1 &&& (255 : Int32)).toInt8.toInt32)] (.int (0 : Int32)) := p101_V_b.ext E102
  have lt_b_101 : @LT.lt Nat _ b_101 h101.size := p101_V_b.lt
  have ne_b_101_b102_126 : b_101 ≠ b102 := (by omega : @Ne Nat b_101 b102)
  have c127_V_b_101 : Arv Z h103 b_101 k_101 .byte (1 : Int32) [(.int (p1 &&& (255 : Int32)).toInt8.toInt32)] (.int (0 : Int32)) := c125_V_b_101.keep Kp103 (ninS ne_b_101_b102_126 nin0)
  have c128_V_b_101 : Arv Z h106 b_101 k_101 .byte (1 : Int32) [(.int (p1 &&& (255 : Int32)).toInt8.toInt32)] (.int (0 : Int32)) := c127_V_b_101.keep Kp106 (ninS ne_b_101_b102_126 nin0)
  have c129_V_b_101 : Arv Z h109 b_101 k_101 .byte (1 : Int32) [(.int (p1 &&& (255 : Int32)).toInt8.toInt32)] (.int (0 : Int32)) := c128_V_b_101.other W109 ne_b_101_b102_126
  have c130_OL : Old Z n0 h101 := OL.keep Kp101 all0
  have c131_OL : Old Z n0 h102 := c130_OL.ext E102
  have c132_OL : Old Z n0 h103 := c131_OL.keep Kp103 (allS ge104_b102 all0)
  have c133_OL : Old Z n0 h106 := c132_OL.keep Kp106 (allS ge104_b102 all0)
  have c134_OL : Old Z n0 h109 := c133_OL.wr W109 ge104_b102
  have c135_TH : ThS Z h101 := ThS.keep Kp101 ns0 TH
  have c136_TH : ThS Z h102 := ThS.ext E102 c135_TH
  have c137_TH : ThS Z h103 := ThS.keep Kp103 (nsS (Arv.nostat V_b102) ns0) c136_TH
  have c138_TH : ThS Z h106 := ThS.keep Kp106 (nsS (Arv.nostat p103_V_b') ns0) c137_TH
  have c139_TH : ThS Z h109 := ThS.wr W109 c138_TH
  obtain ⟨_, _, ⟨T111, L111, k111, n111⟩, -, X111, hs111, hg111, ⟨Lc111, hQ111, l111, y111, z111, Ch111⟩, st111⟩ := callSS X109 hx (y := y46_) hown0 (mvT hZ0 (wi hw 22 rfl)) (mvT hZ0 (wi hw 23 rfl)) (mvT hZ0 (wi hw 24 rfl)) (mvT hZ0 (wi hw 25 rfl)) (by decide) (backCH (W := 0) (rm_room_some l Z a0 hw [] t_101 b_101 k_101 1 [(.int (p1 &&& (255 : Int32)).toInt8.toInt32)] ua sa cs h109 n0 (by omega) c115_E_t_101 c120_F_value_t_101 c124_F_coder_t_101 c129_V_b_101 (rfl) (by decide) c134_OL c139_TH S_UNASSIGNED_STACK S_SUPPRESSED_SENTINEL hl S_COMPACT_STRINGS hcs) hZ0 (wi hw 25 rfl) (wi hw 24 rfl) (by decide) (by decide) (own_EW hw) CC5.1 cs0 (fun _ _ _ _ _ _ _ Y hg => known_frames Y hg (Vm.MethodsKnown.alikeC hS0.1.alike hTK) (Vm.FramesKnown.alikeC hS0.1.alike hBelow))) (g := (mkF mM 339 (Lc_law_1_9 p0 p1 p2 p3 t_101 b102) [(.ref t_101)])) rfl (by rw [hml]; rfl) (argsL := [(.ref t_101)]) (rest := []) (lenOf pd_3 rfl) rfl (by show 2 * 0 + _ ≤ _; exact Nat.le_of_eq rfl) (hb hby at_339) (fun _ _ => ⟨rfl, e109, ble rfl, ble rfl⟩)
  dsimp only [Pt.U, Pt.locs, Pt.cells, Pt.slots] at X111 l111 y111 z111 st111 hQ111 hs111 hg111 Ch111
  subst y111 z111
  obtain ⟨X111', hS111, hZ111, hown111⟩ := rebS hS0 (by rw [e109]; omega) X111 hs111 hg111 hZ0 hown0
  obtain ⟨h111, e111⟩ : ∃ z, T111.heap = z := ⟨_, rfl⟩
  rw [e111] at hQ111 hS111 Ch111
  obtain ⟨x_111, m_111, mb_111, mk_111, rfl, N111q, Kp111, p111_E_x, p111_F_detailMessage_x, p111_E_m, p111_F_value_m, p111_F_coder_m, p111_V_mb⟩ := hQ111
  have Sz6 : h109.size ≤ h111.size := Kp111.1
  have CC6 : CHr Z consts_1 sS.vm h0 T111.vm h111 := CC5.trans Ch111
  have N111 : Fr n0 L111 := by rw [l111]; exact Fr.app N109 N111q
  obtain ⟨cq140, kq140, q140a, q140b, q140c⟩ := isOf hZ111 e111 p111_E_x
  obtain ⟨_, _, ⟨T140, L140, k140, n140⟩, -, X140, ⟨Lc140, hQ140, l140, y140, z140⟩, st140⟩ := X111'.virtualBackUp hx (x := y47_) (y := y44_) (owner := "java/lang/Throwable") hown111 (mvT hZ111 (wi hw 215 rfl)) (mvT hZ111 (wi hw 216 rfl)) (mvT hZ111 (wi hw 217 rfl)) (by decide) (mvT hZ111 (wi hw 219 rfl)) (mvT hZ111 (wi hw 218 rfl)) (backOf (W := 0) (rm_getMsg l Z a0 hw [] x_111 m_111 h111 n0 (by omega) p111_F_detailMessage_x) hZ111 (wi hw 220 rfl) (wi hw 176 rfl) (by decide) (by decide)) q140a q140c (g := (mkF mM 353 (Lc_law_1_10 p0 p1 p2 p3 t_101 b102 x_111) [(.ref x_111)])) rfl (by rw [hml]; rfl) (Steps.refl _) (argsL := []) (rest := []) (lenOf pd_17 rfl) rfl (by show 2 * 0 + _ ≤ _; exact Nat.le_of_eq rfl) (hb hby at_353) (fun _ _ => ⟨rfl, e111, ble rfl, ble rfl⟩)
  dsimp only [Pt.U, Pt.locs, Pt.cells, Pt.slots] at X140 l140 y140 z140 st140 hQ140
  subst y140 z140
  obtain ⟨h140, e140⟩ : ∃ z, T140.heap = z := ⟨_, rfl⟩
  rw [e140] at hQ140
  obtain ⟨rfl, N140q, eq140⟩ := hQ140
  rw [eq140] at e140
  have N140 : Fr n0 L140 := by rw [l140]; exact Fr.app N111 N140q
  have c142_OL : Old Z n0 h111 := c134_OL.keep Kp111 all0
  obtain ⟨cq141, kq141, q141a, q141b, q141c⟩ := isOf hZ111 e140 p111_E_m
  obtain ⟨_, _, ⟨T141, L141, k141, n141⟩, -, X141, ⟨Lc141, hQ141, l141, y141, z141⟩, st141⟩ := X140.virtualBack hx (y := y1_) (z := y1_) hown111 (mvT hZ111 (wi hw 221 rfl)) (mvT hZ111 (wi hw 58 rfl)) (notFace_of_selects (args := #[]) (mvT hZ111 (wi hw 60 rfl))) (mvT hZ111 (wi hw 60 rfl)) (mvT hZ111 (wi hw 59 rfl)) (by decide) (backOf (W := 0) (rm_length l Z a0 hw [] m_111 mb_111 mk_111 (((0 + 16) + 1) + 1) _ cs h111 n0 (by omega) p111_E_m p111_F_value_m p111_F_coder_m p111_V_mb c142_OL S_COMPACT_STRINGS hcs) hZ111 (wi hw 61 rfl) (wi hw 2 rfl) (by decide) (by decide)) q141a q141c (g := (mkF mM 365 (Lc_law_1_11 p0 p1 p2 p3 t_101 b102 x_111 m_111) [(.ref m_111)])) rfl (by rw [hml]; rfl) (Steps.refl _) (argsL := []) (rest := []) (lenOf pd_7 rfl) rfl (by show 2 * 0 + _ ≤ _; exact Nat.le_of_eq rfl) (hb hby at_365) (fun _ _ => ⟨rfl, e140, ble rfl, ble rfl⟩)
  dsimp only [Pt.U, Pt.locs, Pt.cells, Pt.slots] at X141 l141 y141 z141 st141 hQ141
  subst y141 z141
  obtain ⟨h141, e141⟩ : ∃ z, T141.heap = z := ⟨_, rfl⟩
  rw [e141] at hQ141
  obtain ⟨rfl, N141q, eq141⟩ := hQ141
  rw [eq141] at e141
  have N141 : Fr n0 L141 := by rw [l141]; exact Fr.app N140 N141q
  have c144_V_b102 : Arv Z h111 b102 k102 .char (21 : Int32) [(.int (78 : Int32)), (.int (111 : Int32)), (.int (32 : Int32)), (.int (114 : Int32)), (.int (111 : Int32)), (.int (111 : Int32)), (.int (109 : Int32)), (.int (32 : Int32)), (.int (104 : Int32)), (.int (97 : Int32)), (.int (115 : Int32)), (.int (32 : Int32)), (.int (105 : Int32)), (.int (100 : Int32)), (.int (32 : Int32)), (.int (39 : Int32)), (.int (p1 &&& (255 : Int32))), (.int (39 : Int32)), (.int (p3 &&& (255 : Int32))), (.int (0 : Int32)), (.int (0 : Int32))] (.int (0 : Int32)) := Vt109.keep Kp111 nin0
  obtain ⟨T143, L143, X143, e143, N143, st143⟩ := sg_ats l Z a0 hw m_111 mb_111 mk_111 (iN (((0 + 16) + 1) + 1)) _ b102 k102 _ (18 : Int32) fo cs (.val (.int p0)) (.val (.int p1)) (.val (.int p2)) (.val (.int p3)) (.val (.int (0 : Int32))) (.val (.int (1 : Int32))) (.val (.int (p1 &&& (255 : Int32)))) (.val (.int (p2 &&& (255 : Int32)))) (.val (.int (p3 &&& (255 : Int32)))) (.val (.int (0 : Int32))) (.val (.ref t_101)) (.val (.ref x_111)) h111 n0 (by omega) hx hby hml hZ111 hown111 X141 e141 N141 (by decide) (by decide) p111_E_m p111_F_value_m p111_F_coder_m p111_V_mb c144_V_b102 hfo c142_OL S_SIOOBE_FORMATTER S_COMPACT_STRINGS hcs (Or.inr ⟨by decide, by decide, by decide, by decide, (78 : Int32), (78 : Int32), rfl, rfl, by decide⟩) (Or.inr ⟨by decide, by decide, by decide, by decide, (111 : Int32), (111 : Int32), rfl, rfl, by decide⟩) (Or.inr ⟨by decide, by decide, by decide, by decide, (32 : Int32), (32 : Int32), rfl, rfl, by decide⟩) (Or.inr ⟨by decide, by decide, by decide, by decide, (114 : Int32), (114 : Int32), rfl, rfl, by decide⟩) (Or.inr ⟨by decide, by decide, by decide, by decide, (111 : Int32), (111 : Int32), rfl, rfl, by decide⟩) (Or.inr ⟨by decide, by decide, by decide, by decide, (111 : Int32), (111 : Int32), rfl, rfl, by decide⟩) (Or.inr ⟨by decide, by decide, by decide, by decide, (109 : Int32), (109 : Int32), rfl, rfl, by decide⟩) (Or.inr ⟨by decide, by decide, by decide, by decide, (32 : Int32), (32 : Int32), rfl, rfl, by decide⟩) (Or.inr ⟨by decide, by decide, by decide, by decide, (104 : Int32), (104 : Int32), rfl, rfl, by decide⟩) (Or.inr ⟨by decide, by decide, by decide, by decide, (97 : Int32), (97 : Int32), rfl, rfl, by decide⟩) (Or.inr ⟨by decide, by decide, by decide, by decide, (115 : Int32), (115 : Int32), rfl, rfl, by decide⟩) (Or.inr ⟨by decide, by decide, by decide, by decide, (32 : Int32), (32 : Int32), rfl, rfl, by decide⟩) (Or.inr ⟨by decide, by decide, by decide, by decide, (105 : Int32), (105 : Int32), rfl, rfl, by decide⟩) (Or.inr ⟨by decide, by decide, by decide, by decide, (100 : Int32), (100 : Int32), rfl, rfl, by decide⟩) (Or.inr ⟨by decide, by decide, by decide, by decide, (32 : Int32), (32 : Int32), rfl, rfl, by decide⟩) (Or.inr ⟨by decide, by decide, by decide, by decide, (39 : Int32), (39 : Int32), rfl, rfl, by decide⟩) (Or.inr ⟨by decide, by decide, by decide, by decide, (p1 &&& (255 : Int32)).toInt8.toInt32, (p1 &&& (255 : Int32)), rfl, rfl, own_rt p1⟩) (Or.inr ⟨by decide, by decide, by decide, by decide, (39 : Int32), (39 : Int32), rfl, rfl, by decide⟩) (Or.inl (by decide)) (Or.inl (by decide)) (Or.inl (by decide))
  obtain ⟨fs, hr, hrun, hended, hE⟩ := Stand.leaveW (s := sS) X143 hS111 (by rw [e143]; omega) (v := some (.int (1 : Int32))) (fun h => by rw [Bd.returns] at h; cases h)
  refine ⟨_, _, castTop (ef_law_1 mM p0 p1 p2 p3 ua sa cs fo) ?_, hrun, hended, _, _, rfl, ?_, ?_, hE.1, hE.2.1, hE.2.2.1, hE.2.2.2.mono (by decide) (by decide)⟩
  · show SS pP eE bS s₁ (mkF mM 0 (Lc_law_1_0 p0 p1 p2 p3) []) _
    refine XS.iloadN X0.here hx rfl (hb hby at_0) rfl ?_
    refine XS.iconst X0.here hx rfl (hb hby at_1) ?_
    refine XS.ishr X0.here hx rfl (hb hby at_2) rfl ?_
    refine XS.iconst X0.here hx rfl (hb hby at_3) ?_
    show SS pP eE bS s₁ (mkF mM 4 (Lc_law_1_0 p0 p1 p2 p3) [(.int (1 : Int32)), (.int (p0 >>> ((2 : Int32) &&& 31)))]) _
    refine XS.iand X0.here hx rfl (hb hby at_4) rfl ?_
    show SS pP eE bS s₁ (mkF mM 5 (Lc_law_1_0 p0 p1 p2 p3) [(.int ((p0 >>> ((2 : Int32) &&& 31)) &&& (1 : Int32)))]) _
    rw [show ((p0 >>> ((2 : Int32) &&& 31)) &&& (1 : Int32)) = (0 : Int32) from hz0]
    refine XS.ifYes X0.here hx rfl (pc0 := 5) (pc' := 12) rfl (hb hby at_5) rfl ((if0 _ _).trans (teq (by decide : (0 : Int32) = (0 : Int32))).1) (by decide) (by decide) ?_
    refine XS.iconst X0.here hx rfl (hb hby at_12) ?_
    refine XS.istore X0.here hx rfl (hb hby at_13) rfl (l' := (Lc_law_1_1 p0 p1 p2 p3)) rfl ?_
    show SS pP eE bS s₁ (mkF mM 15 (Lc_law_1_1 p0 p1 p2 p3) []) _
    refine XS.iloadN X0.here hx rfl (hb hby at_15) rfl ?_
    refine XS.iconst X0.here hx rfl (hb hby at_16) ?_
    refine XS.iand X0.here hx rfl (hb hby at_17) rfl ?_
    show SS pP eE bS s₁ (mkF mM 18 (Lc_law_1_1 p0 p1 p2 p3) [(.int (p0 &&& (3 : Int32)))]) _
    rw [show (p0 &&& (3 : Int32)) = (1 : Int32) from hn0]
    refine XS.istore X0.here hx rfl (hb hby at_18) rfl (l' := (Lc_law_1_2 p0 p1 p2 p3)) rfl ?_
    refine XS.iloadN X0.here hx rfl (hb hby at_20) rfl ?_
    refine XS.sipush X0.here hx rfl (hb hby at_21) ?_
    show SS pP eE bS s₁ (mkF mM 24 (Lc_law_1_2 p0 p1 p2 p3) [(.int (255 : Int32)), (.int p1)]) _
    refine XS.iand X0.here hx rfl (hb hby at_24) rfl ?_
    refine XS.i2c X0.here hx rfl (hb hby at_25) rfl ?_
    show SS pP eE bS s₁ (mkF mM 26 (Lc_law_1_2 p0 p1 p2 p3) [(.int ((p1 &&& (255 : Int32)).toUInt32.toUInt16.toUInt32.toInt32))]) _
    rw [show ((p1 &&& (255 : Int32)).toUInt32.toUInt16.toUInt32.toInt32) = (p1 &&& (255 : Int32)) from i2c_mask p1]
    refine XS.istore X0.here hx rfl (hb hby at_26) rfl (l' := (Lc_law_1_3 p0 p1 p2 p3)) rfl ?_
    refine XS.iloadN X0.here hx rfl (hb hby at_28) rfl ?_
    refine XS.sipush X0.here hx rfl (hb hby at_29) ?_
    show SS pP eE bS s₁ (mkF mM 32 (Lc_law_1_3 p0 p1 p2 p3) [(.int (255 : Int32)), (.int p2)]) _
    refine XS.iand X0.here hx rfl (hb hby at_32) rfl ?_
    refine XS.i2c X0.here hx rfl (hb hby at_33) rfl ?_
    show SS pP eE bS s₁ (mkF mM 34 (Lc_law_1_3 p0 p1 p2 p3) [(.int ((p2 &&& (255 : Int32)).toUInt32.toUInt16.toUInt32.toInt32))]) _
    rw [show ((p2 &&& (255 : Int32)).toUInt32.toUInt16.toUInt32.toInt32) = (p2 &&& (255 : Int32)) from i2c_mask p2]
    refine XS.istore X0.here hx rfl (hb hby at_34) rfl (l' := (Lc_law_1_4 p0 p1 p2 p3)) rfl ?_
    refine XS.iloadN X0.here hx rfl (hb hby at_36) rfl ?_
    refine XS.sipush X0.here hx rfl (hb hby at_37) ?_
    show SS pP eE bS s₁ (mkF mM 40 (Lc_law_1_4 p0 p1 p2 p3) [(.int (255 : Int32)), (.int p3)]) _
    refine XS.iand X0.here hx rfl (hb hby at_40) rfl ?_
    refine XS.i2c X0.here hx rfl (hb hby at_41) rfl ?_
    show SS pP eE bS s₁ (mkF mM 42 (Lc_law_1_4 p0 p1 p2 p3) [(.int ((p3 &&& (255 : Int32)).toUInt32.toUInt16.toUInt32.toInt32))]) _
    rw [show ((p3 &&& (255 : Int32)).toUInt32.toUInt16.toUInt32.toInt32) = (p3 &&& (255 : Int32)) from i2c_mask p3]
    refine XS.istore X0.here hx rfl (hb hby at_42) rfl (l' := (Lc_law_1_5 p0 p1 p2 p3)) rfl ?_
    refine XS.iconst X0.here hx rfl (hb hby at_44) ?_
    refine XS.istore X0.here hx rfl (hb hby at_45) rfl (l' := (Lc_law_1_6 p0 p1 p2 p3)) rfl ?_
    show SS pP eE bS s₁ (mkF mM 47 (Lc_law_1_6 p0 p1 p2 p3) []) _
    refine XS.iload X0.here hx rfl (hb hby at_47) rfl ?_
    refine XS.ifYes X0.here hx rfl (pc0 := 49) (pc' := 77) rfl (hb hby at_49) rfl ((if0 _ _).trans (teq (by decide : (0 : Int32) = (0 : Int32))).1) (by decide) (by decide) ?_
    refine XS.iload X0.here hx rfl (hb hby at_77) rfl ?_
    refine XS.ifYes X0.here hx rfl (pc0 := 79) (pc' := 97) rfl (hb hby at_79) rfl ((if0 _ _).trans (feq (by decide : ¬ ((1 : Int32) = (0 : Int32)))).2) (by decide) (by decide) ?_
    show SS pP eE bS s₁ (mkF mM 97 (Lc_law_1_6 p0 p1 p2 p3) []) _
    refine XS.iload X0.here hx rfl (hb hby at_97) rfl ?_
    refine XS.iconst X0.here hx rfl (hb hby at_99) ?_
    refine XS.icmpNo X0.here hx rfl (hb hby at_100) rfl (teq (by decide : (1 : Int32) = (1 : Int32))).2 ?_
    refine XS.iload X0.here hx rfl (hb hby at_103) rfl ?_
    show SS pP eE bS s₁ (mkF mM 105 (Lc_law_1_6 p0 p1 p2 p3) [(.int (p1 &&& (255 : Int32)))]) _
    refine st101 _ ?_
    show SS pP eE bS T101 (mkF mM 108 (Lc_law_1_6 p0 p1 p2 p3) [(.ref t_101)]) _
    refine XS.astore X101.here hx rfl (hb hby at_108) rfl rfl (l' := (Lc_law_1_7 p0 p1 p2 p3 t_101)) rfl ?_
    refine XS.goto X101.here hx rfl (pc0 := 110) (pc' := 171) rfl (hb hby at_110) (by decide) (by decide) ?_
    refine XS.bipush X101.here hx rfl (hb hby at_171) ?_
    show SS pP eE bS T101 (mkF mM 173 (Lc_law_1_7 p0 p1 p2 p3 t_101) [(.int (21 : Int32))]) _
    refine st102 _ ?_
    show SS pP eE bS T102 (mkF mM 175 (Lc_law_1_7 p0 p1 p2 p3 t_101) [(.ref b102)]) _
    refine st103 _ ?_
    refine XS.astore X103.here hx rfl (hb hby at_290) rfl rfl (l' := (Lc_law_1_8 p0 p1 p2 p3 t_101 b102)) rfl ?_
    refine st106 _ ?_
    refine XS.aload X106.here hx rfl (hb hby at_320) rfl rfl ?_
    show SS pP eE bS T106 (mkF mM 322 (Lc_law_1_8 p0 p1 p2 p3 t_101 b102) [(.ref b102)]) _
    refine XS.bipush X106.here hx rfl (hb hby at_322) ?_
    refine XS.iload X106.here hx rfl (hb hby at_324) rfl ?_
    refine XS.iadd X106.here hx rfl (hb hby at_326) rfl ?_
    refine XS.bipush X106.here hx rfl (hb hby at_327) ?_
    show SS pP eE bS T106 (mkF mM 329 (Lc_law_1_8 p0 p1 p2 p3 t_101 b102) [(.int (39 : Int32)), (.int (17 : Int32)), (.ref b102)]) _
    refine st109 _ ?_
    show SS pP eE bS T109 (mkF mM 330 (Lc_law_1_8 p0 p1 p2 p3 t_101 b102) []) _
    refine XS.bipush X109.here hx rfl (hb hby at_330) ?_
    refine XS.iload X109.here hx rfl (hb hby at_332) rfl ?_
    refine XS.iadd X109.here hx rfl (hb hby at_334) rfl ?_
    refine XS.istore X109.here hx rfl (hb hby at_335) rfl (l' := (Lc_law_1_9 p0 p1 p2 p3 t_101 b102)) rfl ?_
    show SS pP eE bS T109 (mkF mM 337 (Lc_law_1_9 p0 p1 p2 p3 t_101 b102) []) _
    refine XS.aload X109.here hx rfl (hb hby at_337) rfl rfl ?_
    show SS pP eE bS T109 (mkF mM 339 (Lc_law_1_9 p0 p1 p2 p3 t_101 b102) [(.ref t_101)]) _
    refine st111.trans ?_
    show SS pP eE bS T111 (mkF mM 342 (Lc_law_1_9 p0 p1 p2 p3 t_101 b102) [(.ref x_111)]) _
    refine XS.astore X111'.here hx rfl (hb hby at_342) rfl rfl (l' := (Lc_law_1_10 p0 p1 p2 p3 t_101 b102 x_111)) rfl ?_
    refine XS.aload X111'.here hx rfl (hb hby at_344) rfl rfl ?_
    refine XS.ifnonnullYes X111'.here hx rfl (pc0 := 346) (pc' := 351) rfl (hb hby at_346) rfl (by decide) (by decide) ?_
    refine XS.aload X111'.here hx rfl (hb hby at_351) rfl rfl ?_
    show SS pP eE bS T111 (mkF mM 353 (Lc_law_1_10 p0 p1 p2 p3 t_101 b102 x_111) [(.ref x_111)]) _
    refine st140.trans ?_
    show SS pP eE bS T140 (mkF mM 356 (Lc_law_1_10 p0 p1 p2 p3 t_101 b102 x_111) [(.ref m_111)]) _
    refine XS.astore X140.here hx rfl (hb hby at_356) rfl rfl (l' := (Lc_law_1_11 p0 p1 p2 p3 t_101 b102 x_111 m_111)) rfl ?_
    refine XS.aload X140.here hx rfl (hb hby at_358) rfl rfl ?_
    refine XS.ifnullNo X140.here hx rfl (hb hby at_360) rfl ?_
    refine XS.aload X140.here hx rfl (hb hby at_363) rfl rfl ?_
    show SS pP eE bS T140 (mkF mM 365 (Lc_law_1_11 p0 p1 p2 p3 t_101 b102 x_111 m_111) [(.ref m_111)]) _
    refine st141.trans ?_
    show SS pP eE bS T141 (mkF mM 368 (Lc_law_1_11 p0 p1 p2 p3 t_101 b102 x_111 m_111) [(.int (iN (((0 + 16) + 1) + 1)))]) _
    refine XS.iload X141.here hx rfl (hb hby at_368) rfl ?_
    refine XS.icmpYes X141.here hx rfl (pc0 := 370) (pc' := 375) rfl (hb hby at_370) rfl (teq (by decide : (iN (((0 + 16) + 1) + 1)) = (18 : Int32))).1 (by decide) (by decide) ?_
    refine st143 _ ?_
    refine XS.iconst X143.here hx rfl (hb hby at_663) ?_
    show SS pP eE bS T143 (mkF mM 664 (Lc_law_1_11 p0 p1 p2 p3 t_101 b102 x_111 m_111) [(.int (1 : Int32))]) _
    refine XS.goto X143.here hx rfl (pc0 := 664) (pc' := 668) rfl (hb hby at_664) (by decide) (by decide) ?_
    show SS pP eE bS T143 (mkF mM 668 (Lc_law_1_11 p0 p1 p2 p3 t_101 b102 x_111 m_111) [(.int (1 : Int32))]) _
    exact retN X143 hx (t := .boolean) Bd.returns (by simp) (hb hby at_668) hr
  · exact ⟨rfl, N143⟩
  · show CHr Z consts_1 sS.vm sS.heap T143.vm T143.heap
    rw [hh, e143]
    exact CC6.trans (CHv.at X143 hZ111 (own_EW hw) CC6.1)
-- MARK lw2
abbrev Lc_law_2_0 (p0 : Int32) (p1 : Int32) (p2 : Int32) (p3 : Int32) : Array Slot := #[.val (.int p0), .val (.int p1), .val (.int p2), .val (.int p3), .unset, .unset, .unset, .unset, .unset, .unset, .unset, .unset, .unset, .unset, .unset]
abbrev Lc_law_2_1 (p0 : Int32) (p1 : Int32) (p2 : Int32) (p3 : Int32) : Array Slot := #[.val (.int p0), .val (.int p1), .val (.int p2), .val (.int p3), .val (.int (0 : Int32)), .unset, .unset, .unset, .unset, .unset, .unset, .unset, .unset, .unset, .unset]
abbrev Lc_law_2_2 (p0 : Int32) (p1 : Int32) (p2 : Int32) (p3 : Int32) : Array Slot := #[.val (.int p0), .val (.int p1), .val (.int p2), .val (.int p3), .val (.int (0 : Int32)), .val (.int (2 : Int32)), .unset, .unset, .unset, .unset, .unset, .unset, .unset, .unset, .unset]
abbrev Lc_law_2_3 (p0 : Int32) (p1 : Int32) (p2 : Int32) (p3 : Int32) : Array Slot := #[.val (.int p0), .val (.int p1), .val (.int p2), .val (.int p3), .val (.int (0 : Int32)), .val (.int (2 : Int32)), .val (.int (p1 &&& (255 : Int32))), .unset, .unset, .unset, .unset, .unset, .unset, .unset, .unset]
abbrev Lc_law_2_4 (p0 : Int32) (p1 : Int32) (p2 : Int32) (p3 : Int32) : Array Slot := #[.val (.int p0), .val (.int p1), .val (.int p2), .val (.int p3), .val (.int (0 : Int32)), .val (.int (2 : Int32)), .val (.int (p1 &&& (255 : Int32))), .val (.int (p2 &&& (255 : Int32))), .unset, .unset, .unset, .unset, .unset, .unset, .unset]
abbrev Lc_law_2_5 (p0 : Int32) (p1 : Int32) (p2 : Int32) (p3 : Int32) : Array Slot := #[.val (.int p0), .val (.int p1), .val (.int p2), .val (.int p3), .val (.int (0 : Int32)), .val (.int (2 : Int32)), .val (.int (p1 &&& (255 : Int32))), .val (.int (p2 &&& (255 : Int32))), .val (.int (p3 &&& (255 : Int32))), .unset, .unset, .unset, .unset, .unset, .unset]
abbrev Lc_law_2_6 (p0 : Int32) (p1 : Int32) (p2 : Int32) (p3 : Int32) : Array Slot := #[.val (.int p0), .val (.int p1), .val (.int p2), .val (.int p3), .val (.int (0 : Int32)), .val (.int (2 : Int32)), .val (.int (p1 &&& (255 : Int32))), .val (.int (p2 &&& (255 : Int32))), .val (.int (p3 &&& (255 : Int32))), .val (.int (0 : Int32)), .unset, .unset, .unset, .unset, .unset]
abbrev Lc_law_2_7 (p0 : Int32) (p1 : Int32) (p2 : Int32) (p3 : Int32) (b101 : Addr) : Array Slot := #[.val (.int p0), .val (.int p1), .val (.int p2), .val (.int p3), .val (.int (0 : Int32)), .val (.int (2 : Int32)), .val (.int (p1 &&& (255 : Int32))), .val (.int (p2 &&& (255 : Int32))), .val (.int (p3 &&& (255 : Int32))), .val (.int (0 : Int32)), .val (.ref b101), .unset, .unset, .unset, .unset]
abbrev Lc_law_2_8 (p0 : Int32) (p1 : Int32) (p2 : Int32) (p3 : Int32) (b101 : Addr) (b131 : Addr) : Array Slot := #[.val (.int p0), .val (.int p1), .val (.int p2), .val (.int p3), .val (.int (0 : Int32)), .val (.int (2 : Int32)), .val (.int (p1 &&& (255 : Int32))), .val (.int (p2 &&& (255 : Int32))), .val (.int (p3 &&& (255 : Int32))), .val (.int (0 : Int32)), .val (.ref b101), .val (.ref b131), .unset, .unset, .unset]
abbrev Lc_law_2_9 (p0 : Int32) (p1 : Int32) (p2 : Int32) (p3 : Int32) (b101 : Addr) (b131 : Addr) : Array Slot := #[.val (.int p0), .val (.int p1), .val (.int p2), .val (.int p3), .val (.int (0 : Int32)), .val (.int (2 : Int32)), .val (.int (p1 &&& (255 : Int32))), .val (.int (p2 &&& (255 : Int32))), .val (.int (p3 &&& (255 : Int32))), .val (.int (0 : Int32)), .val (.ref b101), .val (.ref b131), .val (.int (19 : Int32)), .unset, .unset]
abbrev Lc_law_2_10 (p0 : Int32) (p1 : Int32) (p2 : Int32) (p3 : Int32) (b101 : Addr) (b131 : Addr) (x_140 : Addr) : Array Slot := #[.val (.int p0), .val (.int p1), .val (.int p2), .val (.int p3), .val (.int (0 : Int32)), .val (.int (2 : Int32)), .val (.int (p1 &&& (255 : Int32))), .val (.int (p2 &&& (255 : Int32))), .val (.int (p3 &&& (255 : Int32))), .val (.int (0 : Int32)), .val (.ref b101), .val (.ref b131), .val (.int (19 : Int32)), .val (.ref x_140), .unset]
abbrev Lc_law_2_11 (p0 : Int32) (p1 : Int32) (p2 : Int32) (p3 : Int32) (b101 : Addr) (b131 : Addr) (x_140 : Addr) (m_140 : Addr) : Array Slot := #[.val (.int p0), .val (.int p1), .val (.int p2), .val (.int p3), .val (.int (0 : Int32)), .val (.int (2 : Int32)), .val (.int (p1 &&& (255 : Int32))), .val (.int (p2 &&& (255 : Int32))), .val (.int (p3 &&& (255 : Int32))), .val (.int (0 : Int32)), .val (.ref b101), .val (.ref b131), .val (.int (19 : Int32)), .val (.ref x_140), .val (.ref m_140)]
theorem ef_law_2 (mM : MethodId) (p0 : Int32) (p1 : Int32) (p2 : Int32) (p3 : Int32) (ua : Addr) (sa : Addr) (cs : Int32) (fo : Value) : entryFrame mM #[(.int p0), (.int p1), (.int p2), (.int p3)] maxLocals = mkF mM 0 #[.val (.int p0), .val (.int p1), .val (.int p2), .val (.int p3), .unset, .unset, .unset, .unset, .unset, .unset, .unset, .unset, .unset, .unset, .unset] [] := by
  first | (simp [entryFrame, mkF, argsToLocals, Value.category, maxLocals]; done) | rfl
theorem rm_law_2 (l : Launch) (Z : State) (a0 : Array Value) (hw : HW a0 Z) (ws : List Jvm.Cond) (p0 : Int32) (p1 : Int32) (p2 : Int32) (p3 : Int32) (ua : Addr) (sa : Addr) (cs : Int32) (fo : Value) (h0 : Heap) (n0 : Nat) (Z0 : n0 ≤ h0.size) (OL : Old Z n0 h0) (TH : ThS Z h0) (S_UNASSIGNED_STACK : Sta Z Z.heap "java/lang/Throwable" "UNASSIGNED_STACK" "[Ljava/lang/StackTraceElement;" (.ref ua)) (S_SUPPRESSED_SENTINEL : Sta Z Z.heap "java/lang/Throwable" "SUPPRESSED_SENTINEL" "Ljava/util/List;" (.ref sa)) (hl : l.stackTraces = true) (S_COMPACT_STRINGS : Sta Z Z.heap "java/lang/String" "COMPACT_STRINGS" "Z" (.int cs)) (hcs : ¬ (cs = (0 : Int32))) (S_SIOOBE_FORMATTER : Sta Z Z.heap "jdk/internal/util/Preconditions" "SIOOBE_FORMATTER" "Ljava/util/function/BiFunction;" fo) (hfo : (fo).isRef = true) (hz0 : ((p0 >>> ((2 : Int32) &&& 31)) &&& (1 : Int32)) = (0 : Int32)) (hn0 : (p0 &&& (3 : Int32)) = (2 : Int32)) :
    MetFree l x (head1 (Jvm.Cond.code x code maxLocals ret :: ws) room_1) (fun xa xU => xa = #[(.int p0), (.int p1), (.int p2), (.int p3)] ∧ Z.Warmed39 xU.vm ∧ xU.heap = h0 ∧ CHv Z consts_1 xU.vm h0 ∧ ∀ x ∈ ([] : List Addr), Safe Z consts_1 xU.vm h0 x) (fun _ _ bl s _ => s.vm.MethodsKnown ∧ s.vm.FramesKnown bl) (fun _ xU xo xU' => ∃ xv xL, xo = .returned xv ∧ Q_law n0 xv xL ∧ CHr Z consts_1 xU.vm xU.heap xU'.vm xU'.heap ∧ ReturnedEndW xU xo xU' xL room_1.cells room_1.slots) := by
  refine MetFree.of_bodySF (plainFor_of_name pn_com_example_dipper_dipper_store_NotFoundExceptionRoomPinLaw) hisR ?_
  intro pP eE sS mM argS bS methS cC s₁ Bd hml0 hP hK
  obtain ⟨rfl, hZ, hh, hCH, hSf⟩ := hP
  have hx := Bd.exec
  have hby := Bd.bytes
  have hml : cC.maxLocals = 15 := hml0
  have hown : sS.vm.findClass "com/example/dipper/dipper/store/NotFoundExceptionRoomPinLaw" = some mM.cls := findClass_of_methodNamed Bd.named
  have hnm := (name_of_methodNamed Bd.named Bd.method).1
  have X0 : Stand pP l eE room_1 (sS.setVm sS.vm) mM #[(.int p0), (.int p1), (.int p2), (.int p3)] bS methS cC s₁ [] 0 0 := Stand.of_body Bd
  have e0 : s₁.heap = h0 := by rw [← hh, Bd.state]; rfl
  have N0 := Fr.nil n0
  obtain ⟨hTK, hBelow⟩ := hK
  have hZ0 : Z.Warmed39 (sS.setVm sS.vm).vm := hZ
  have hown0 : (sS.setVm sS.vm).vm.findClass "com/example/dipper/dipper/store/NotFoundExceptionRoomPinLaw" = some mM.cls := hown
  have hS0 : sS.Since sS.vm 0 := (State.WarmedH.refl sS).since 0
  have CC0 : CHr Z consts_1 sS.vm h0 sS.vm h0 := CHr.refl hCH
  obtain ⟨T101, h101, X101, e101, E101, A101, D101, B101, st101⟩ := newO X0 hx hZ0 hown0 (wi hw 0 rfl) (wi hw 1 rfl) (wi hw 2 rfl) e0 (g := (mkF mM 119 (Lc_law_2_6 p0 p1 p2 p3) [])) rfl (hb hby at_119) (by decide) (by decide)
  obtain ⟨b101, g101⟩ : ∃ z : Nat, z = h0.size := ⟨_, rfl⟩
  rw [← g101] at A101 D101 B101 st101
  have Sz1 : h0.size ≤ h101.size := E101.1
  have CC1 : CHr Z consts_1 sS.vm h0 sS.vm h101 := CC0.trans (CHr.ext E101 CC0.1)
  have F101_value : Fld Z h101 b101 "java/lang/String" "value" "[B" .null := D101 (Or.inr (wi hw 16 rfl)) (ty := (.array .byte)) (by decide)
  have F101_coder : Fld Z h101 b101 "java/lang/String" "coder" "B" (.int (0 : Int32)) := D101 (Or.inr (wi hw 17 rfl)) (ty := .byte) (by decide)
  obtain ⟨T102, h102, k102, X102, e102, E102, A102, st102⟩ := newP X101 hx hZ0 (wi hw 3 rfl) e101 (g := (mkF mM 124 (Lc_law_2_6 p0 p1 p2 p3) [(.int (2 : Int32)), (.ref b101), (.ref b101)])) rfl (hb hby at_124) rfl (by decide) (cap := 2) (by decide) (by decide) (by decide) (by decide)
  obtain ⟨b102, g102⟩ : ∃ z : Nat, z = h101.size := ⟨_, rfl⟩
  rw [← g102] at A102 st102
  have Sz2 : h101.size ≤ h102.size := E102.1
  have CC2 : CHr Z consts_1 sS.vm h0 sS.vm h102 := CC1.trans (CHr.ext E102 CC1.1)
  have V_b102 : Arv Z h102 b102 k102 .char (2 : Int32) [(.int (0 : Int32)), (.int (0 : Int32))] (.int (0 : Int32)) := (Arv.new A102 (by decide)).pad (pad_rep [] (.int (0 : Int32)) 2)
  obtain ⟨cl103, Ar103, q103, S103, Ng103, Ha103, Ga103⟩ := id V_b102
  have hin103 : ¬ ((0 : Int32) < 0 ∨ cl103.slots.size ≤ ((0 : Int32)).toNatClampNeg) := inb_of S103 ⟨by decide, by decide⟩
  obtain ⟨T104, h104, X104, e104, W104, st104⟩ := stC X102 hx hZ0 e102 Ar103 (j := (0 : Int32)) hin103 (g := (mkF mM 130 (Lc_law_2_6 p0 p1 p2 p3) [(.int (p1 &&& (255 : Int32))), (.int (0 : Int32)), (.ref b102), (.ref b102), (.ref b101), (.ref b101)])) rfl rfl (hb hby at_130)
  have ge105_b102 : @LE.le Nat _ n0 b102 := by omega
  have Sz3 : h102.size ≤ h104.size := Nat.le_of_eq (Wr.size W104).symm
  have sf106_b102 : Safe Z consts_1 sS.vm h102 b102 := Safe.arv (show Z.Warmed39 sS.vm from hZ0).alike V_b102 (by decide)
  have CC3 : CHr Z consts_1 sS.vm h0 sS.vm h104 := CC2.trans (CHr.wr W104 sf106_b102 CC2.1)
  have Vs104 := Arv.set Ar103 q103 S103 Ng103 Ha103 Ga103 (fits_nar_char _) W104 0 rfl (Nat.le_of_ble_eq_true rfl)
  have Vt104 : Arv Z h104 b102 k102 .char (2 : Int32) [(.int (p1 &&& (255 : Int32))), (.int (0 : Int32))] (.int (0 : Int32)) := by
    have q : Arv Z h104 b102 k102 .char (2 : Int32) [(.int (p1 &&& (255 : Int32)).toUInt32.toUInt16.toUInt32.toInt32), (.int (0 : Int32))] (.int (0 : Int32)) := Vs104
    rw [show ((.int (p1 &&& (255 : Int32)).toUInt32.toUInt16.toUInt32.toInt32) : Value) = (.int (p1 &&& (255 : Int32))) from congrArg Value.int (i2c_mask p1)] at q
    exact q
  have N104 := Fr.snoc X104 N0 ge105_b102
  obtain ⟨cl107, Ar107, q107, S107, Ng107, Ha107, Ga107⟩ := id Vt104
  have hin107 : ¬ ((1 : Int32) < 0 ∨ cl107.slots.size ≤ ((1 : Int32)).toNatClampNeg) := inb_of S107 ⟨by decide, by decide⟩
  obtain ⟨T108, h108, X108, e108, W108, st108⟩ := stC X104 hx hZ0 e104 Ar107 (j := (1 : Int32)) hin107 (g := (mkF mM 135 (Lc_law_2_6 p0 p1 p2 p3) [(.int (p2 &&& (255 : Int32))), (.int (1 : Int32)), (.ref b102), (.ref b102), (.ref b101), (.ref b101)])) rfl rfl (hb hby at_135)
  have Sz4 : h104.size ≤ h108.size := Nat.le_of_eq (Wr.size W108).symm
  have sf109_b102 : Safe Z consts_1 sS.vm h104 b102 := Safe.arv (show Z.Warmed39 sS.vm from hZ0).alike Vt104 (by decide)
  have CC4 : CHr Z consts_1 sS.vm h0 sS.vm h108 := CC3.trans (CHr.wr W108 sf109_b102 CC3.1)
  have Vs108 := Arv.set Ar107 q107 S107 Ng107 Ha107 Ga107 (fits_nar_char _) W108 1 rfl (Nat.le_of_ble_eq_true rfl)
  have Vt108 : Arv Z h108 b102 k102 .char (2 : Int32) [(.int (p1 &&& (255 : Int32))), (.int (p2 &&& (255 : Int32)))] (.int (0 : Int32)) := by
    have q : Arv Z h108 b102 k102 .char (2 : Int32) [(.int (p1 &&& (255 : Int32))), (.int (p2 &&& (255 : Int32)).toUInt32.toUInt16.toUInt32.toInt32)] (.int (0 : Int32)) := Vs108
    rw [show ((.int (p2 &&& (255 : Int32)).toUInt32.toUInt16.toUInt32.toInt32) : Value) = (.int (p2 &&& (255 : Int32))) from congrArg Value.int (i2c_mask p2)] at q
    exact q
  have N108 := Fr.snoc X108 N104 ge105_b102
  have c111_E_b101 : Exa Z h102 b101 "java/lang/String" := Exa.ext E102 A101
  have c112_E_b101 : Exa Z h104 b101 "java/lang/String" := Exa.wr W104 c111_E_b101
  have c113_E_b101 : Exa Z h108 b101 "java/lang/String" := Exa.wr W108 c112_E_b101
  have c114_F_value_b101 : Fld Z h102 b101 "java/lang/String" "value" "[B" .null := Fld.ext E102 F101_value
  have lt_b101 : @LT.lt Nat _ b101 h101.size := A101.lt
  have lt_b102 : @LT.lt Nat _ b102 h102.size := V_b102.lt
  have ne_b101_b102_115 : b101 ≠ b102 := (by omega : @Ne Nat b101 b102)
  have c116_F_value_b101 : Fld Z h104 b101 "java/lang/String" "value" "[B" .null := Fld.other W104 c114_F_value_b101 (Or.inl ne_b101_b102_115)
  have c117_F_value_b101 : Fld Z h108 b101 "java/lang/String" "value" "[B" .null := Fld.other W108 c116_F_value_b101 (Or.inl ne_b101_b102_115)
  have c118_F_coder_b101 : Fld Z h102 b101 "java/lang/String" "coder" "B" (.int (0 : Int32)) := Fld.ext E102 F101_coder
  have c119_F_coder_b101 : Fld Z h104 b101 "java/lang/String" "coder" "B" (.int (0 : Int32)) := Fld.other W104 c118_F_coder_b101 (Or.inl ne_b101_b102_115)
  have c120_F_coder_b101 : Fld Z h108 b101 "java/lang/String" "coder" "B" (.int (0 : Int32)) := Fld.other W108 c119_F_coder_b101 (Or.inl ne_b101_b102_115)
  have c121_OL : Old Z n0 h101 := OL.ext E101
  have c122_OL : Old Z n0 h102 := c121_OL.ext E102
  have c123_OL : Old Z n0 h104 := c122_OL.wr W104 ge105_b102
  have c124_OL : Old Z n0 h108 := c123_OL.wr W108 ge105_b102
  have ge125_b101 : @LE.le Nat _ n0 b101 := by omega
  obtain ⟨_, _, ⟨T110, L110, k110, n110⟩, -, X110, ⟨Lc110, hQ110, l110, y110, z110⟩, st110⟩ := X108.specialBack hx (y := y39_) rfl hown0 (mvT hZ0 (wi hw 4 rfl)) (mvT hZ0 (wi hw 5 rfl)) (mvT hZ0 (wi hw 6 rfl)) (by decide) (backOf (W := 1) (rm_init1_s2 l Z a0 hw [] b101 b102 k102 .null (.int (0 : Int32)) cs (p1 &&& (255 : Int32)) (p2 &&& (255 : Int32)) h108 n0 (by omega) c113_E_b101 c117_F_value_b101 c120_F_coder_b101 Vt108 ge125_b101 c124_OL S_COMPACT_STRINGS hcs (own_lim _) (own_lim _)) hZ0 (wi hw 6 rfl) (wi hw 2 rfl) (by decide) (by decide)) (g := (mkF mM 136 (Lc_law_2_6 p0 p1 p2 p3) [(.ref b102), (.ref b101), (.ref b101)])) rfl (by rw [hml]; rfl) (Steps.refl _) (a := b101) (argsL := [(.ref b102)]) (rest := [(.ref b101)]) (lenOf pd_0 rfl) rfl (by show 2 * 0 + _ ≤ _; exact Nat.le_of_eq rfl) (hb hby at_136) (fun _ _ => ⟨rfl, e108, ble rfl, ble rfl⟩)
  dsimp only [Pt.U, Pt.locs, Pt.cells, Pt.slots] at X110 l110 y110 z110 st110 hQ110
  subst y110 z110
  obtain ⟨h110, e110⟩ : ∃ z, T110.heap = z := ⟨_, rfl⟩
  rw [e110] at hQ110
  obtain ⟨b_110, k2_110, rfl, N110q, Kp110, p110_E_o, p110_F_value_o, p110_F_coder_o, p110_V_b, p110_gh_b⟩ := hQ110
  have Sz5 : h108.size ≤ h110.size := Kp110.1
  have sf126_b101 : Safe Z consts_1 sS.vm h0 b101 := Safe.new (by omega)
  have sf127_b101 : Safe Z consts_1 sS.vm h101 b101 := Safe.ext E101 CC0.1 sf126_b101
  have sf128_b101 : Safe Z consts_1 sS.vm h102 b101 := Safe.ext E102 CC1.1 sf127_b101
  have sf129_b101 : Safe Z consts_1 sS.vm h104 b101 := Safe.wr W104 sf106_b102 CC2.1 sf128_b101
  have sf130_b101 : Safe Z consts_1 sS.vm h108 b101 := Safe.wr W108 sf109_b102 CC3.1 sf129_b101
  have CC5 : CHr Z consts_1 sS.vm h0 sS.vm h110 := CC4.trans (CHr.keep Kp110 (sfS sf130_b101 sf0) CC4.1)
  have N110 : Fr n0 L110 := by rw [l110]; exact Fr.app N108 N110q
  obtain ⟨T131, h131, k131, X131, e131, E131, A131, st131⟩ := newP X110 hx hZ0 (wi hw 3 rfl) e110 (g := (mkF mM 173 (Lc_law_2_7 p0 p1 p2 p3 b101) [(.int (21 : Int32))])) rfl (hb hby at_173) rfl (by decide) (cap := 21) (by decide) (by decide) (by decide) (by decide)
  obtain ⟨b131, g131⟩ : ∃ z : Nat, z = h110.size := ⟨_, rfl⟩
  rw [← g131] at A131 st131
  have Sz6 : h110.size ≤ h131.size := E131.1
  have CC6 : CHr Z consts_1 sS.vm h0 sS.vm h131 := CC5.trans (CHr.ext E131 CC5.1)
  have V_b131 : Arv Z h131 b131 k131 .char (21 : Int32) [(.int (0 : Int32)), (.int (0 : Int32)), (.int (0 : Int32)), (.int (0 : Int32)), (.int (0 : Int32)), (.int (0 : Int32)), (.int (0 : Int32)), (.int (0 : Int32)), (.int (0 : Int32)), (.int (0 : Int32)), (.int (0 : Int32)), (.int (0 : Int32)), (.int (0 : Int32)), (.int (0 : Int32)), (.int (0 : Int32)), (.int (0 : Int32)), (.int (0 : Int32)), (.int (0 : Int32)), (.int (0 : Int32)), (.int (0 : Int32)), (.int (0 : Int32))] (.int (0 : Int32)) := (Arv.new A131 (by decide)).pad (pad_rep [] (.int (0 : Int32)) 21)
  have ge133_b131 : @LE.le Nat _ n0 b131 := by omega
  obtain ⟨T132, h132, L132, X132, e132, N132, Kp132, p132_V_b, st132⟩ := sg_fill l Z a0 hw b131 k131 _ (.val (.int p0)) (.val (.int p1)) (.val (.int p2)) (.val (.int p3)) (.val (.int (0 : Int32))) (.val (.int (2 : Int32))) (.val (.int (p1 &&& (255 : Int32)))) (.val (.int (p2 &&& (255 : Int32)))) (.val (.int (p3 &&& (255 : Int32)))) (.val (.int (0 : Int32))) (.val (.ref b101)) (.unset) (.unset) (.unset) (.unset) h131 n0 (by omega) hx hby hml hZ0 hown0 X131 e131 N110 (by decide) (by decide) V_b131 ge133_b131 (rfl)
  have Sz7 : h131.size ≤ h132.size := Kp132.1
  have sf134_b131 : Safe Z consts_1 sS.vm h131 b131 := Safe.arv (show Z.Warmed39 sS.vm from hZ0).alike V_b131 (by decide)
  have CC7 : CHr Z consts_1 sS.vm h0 sS.vm h132 := CC6.trans (CHr.keep Kp132 (sfS sf134_b131 sf0) CC6.1)
  have p132_V_b' : Arv Z h132 b131 k131 .char (21 : Int32) [(.int (78 : Int32)), (.int (111 : Int32)), (.int (32 : Int32)), (.int (114 : Int32)), (.int (111 : Int32)), (.int (111 : Int32)), (.int (109 : Int32)), (.int (32 : Int32)), (.int (104 : Int32)), (.int (97 : Int32)), (.int (115 : Int32)), (.int (32 : Int32)), (.int (105 : Int32)), (.int (100 : Int32)), (.int (32 : Int32)), (.int (39 : Int32)), (.int (0 : Int32)), (.int (0 : Int32)), (.int (0 : Int32)), (.int (0 : Int32)), (.int (0 : Int32))] (.int (0 : Int32)) := p132_V_b
  obtain ⟨T135, h135, L135, X135, e135, N135, Kp135, p135_V_b, st135⟩ := sg_fill2 l Z a0 hw b131 k131 _ (p1 &&& (255 : Int32)) (p2 &&& (255 : Int32)) (p3 &&& (255 : Int32)) (0 : Int32) (.val (.int p0)) (.val (.int p1)) (.val (.int p2)) (.val (.int p3)) (.val (.int (0 : Int32))) (.val (.int (2 : Int32))) (.val (.ref b101)) (.unset) (.unset) (.unset) h132 n0 (by omega) hx hby hml hZ0 hown0 X132 e132 N132 (by decide) (by decide) p132_V_b' ge133_b131 (rfl) (i2c_mask p1) (i2c_mask p2) (i2c_mask p3) (by decide)
  have Sz8 : h132.size ≤ h135.size := Kp135.1
  have sf136_b131 : Safe Z consts_1 sS.vm h132 b131 := Safe.arv (show Z.Warmed39 sS.vm from hZ0).alike p132_V_b' (by decide)
  have CC8 : CHr Z consts_1 sS.vm h0 sS.vm h135 := CC7.trans (CHr.keep Kp135 (sfS sf136_b131 sf0) CC7.1)
  have p135_V_b' : Arv Z h135 b131 k131 .char (21 : Int32) [(.int (78 : Int32)), (.int (111 : Int32)), (.int (32 : Int32)), (.int (114 : Int32)), (.int (111 : Int32)), (.int (111 : Int32)), (.int (109 : Int32)), (.int (32 : Int32)), (.int (104 : Int32)), (.int (97 : Int32)), (.int (115 : Int32)), (.int (32 : Int32)), (.int (105 : Int32)), (.int (100 : Int32)), (.int (32 : Int32)), (.int (39 : Int32)), (.int (p1 &&& (255 : Int32))), (.int (p2 &&& (255 : Int32))), (.int (p3 &&& (255 : Int32))), (.int (0 : Int32)), (.int (0 : Int32))] (.int (0 : Int32)) := p135_V_b
  obtain ⟨cl137, Ar137, q137, S137, Ng137, Ha137, Ga137⟩ := id p135_V_b'
  have hin137 : ¬ ((18 : Int32) < 0 ∨ cl137.slots.size ≤ ((18 : Int32)).toNatClampNeg) := inb_of S137 ⟨by decide, by decide⟩
  obtain ⟨T138, h138, X138, e138, W138, st138⟩ := stC X135 hx hZ0 e135 Ar137 (j := (18 : Int32)) hin137 (g := (mkF mM 329 (Lc_law_2_8 p0 p1 p2 p3 b101 b131) [(.int (39 : Int32)), (.int (18 : Int32)), (.ref b131)])) rfl rfl (hb hby at_329)
  have Sz9 : h135.size ≤ h138.size := Nat.le_of_eq (Wr.size W138).symm
  have sf139_b131 : Safe Z consts_1 sS.vm h135 b131 := Safe.arv (show Z.Warmed39 sS.vm from hZ0).alike p135_V_b' (by decide)
  have CC9 : CHr Z consts_1 sS.vm h0 sS.vm h138 := CC8.trans (CHr.wr W138 sf139_b131 CC8.1)
  have Vs138 := Arv.set Ar137 q137 S137 Ng137 Ha137 Ga137 (fits_nar_char _) W138 18 rfl (Nat.le_of_ble_eq_true rfl)
  have Vt138 : Arv Z h138 b131 k131 .char (21 : Int32) [(.int (78 : Int32)), (.int (111 : Int32)), (.int (32 : Int32)), (.int (114 : Int32)), (.int (111 : Int32)), (.int (111 : Int32)), (.int (109 : Int32)), (.int (32 : Int32)), (.int (104 : Int32)), (.int (97 : Int32)), (.int (115 : Int32)), (.int (32 : Int32)), (.int (105 : Int32)), (.int (100 : Int32)), (.int (32 : Int32)), (.int (39 : Int32)), (.int (p1 &&& (255 : Int32))), (.int (p2 &&& (255 : Int32))), (.int (39 : Int32)), (.int (0 : Int32)), (.int (0 : Int32))] (.int (0 : Int32)) := Vs138
  have N138 := Fr.snoc X138 N135 ge133_b131
  have c141_E_b101 : Exa Z h131 b101 "java/lang/String" := Exa.ext E131 p110_E_o
  have c142_E_b101 : Exa Z h132 b101 "java/lang/String" := c141_E_b101.keep Kp132
  have c143_E_b101 : Exa Z h135 b101 "java/lang/String" := c142_E_b101.keep Kp135
  have c144_E_b101 : Exa Z h138 b101 "java/lang/String" := Exa.wr W138 c143_E_b101
  have c145_F_value_b101 : Fld Z h131 b101 "java/lang/String" "value" "[B" (.ref b_110) := Fld.ext E131 p110_F_value_o
  have lt_b131 : @LT.lt Nat _ b131 h131.size := V_b131.lt
  have ne_b101_b131_146 : b101 ≠ b131 := (by omega : @Ne Nat b101 b131)
  have c147_F_value_b101 : Fld Z h132 b101 "java/lang/String" "value" "[B" (.ref b_110) := c145_F_value_b101.keep Kp132 (ninS ne_b101_b131_146 nin0)
  have c148_F_value_b101 : Fld Z h135 b101 "java/lang/String" "value" "[B" (.ref b_110) := c147_F_value_b101.keep Kp135 (ninS ne_b101_b131_146 nin0)
  have c149_F_value_b101 : Fld Z h138 b101 "java/lang/String" "value" "[B" (.ref b_110) := Fld.other W138 c148_F_value_b101 (Or.inl ne_b101_b131_146)
  have c150_F_coder_b101 : Fld Z h131 b101 "java/lang/String" "coder" "B" (.int (0 : Int32)) := Fld.ext E131 p110_F_coder_o
  have c151_F_coder_b101 : Fld Z h132 b101 "java/lang/String" "coder" "B" (.int (0 : Int32)) := c150_F_coder_b101.keep Kp132 (ninS ne_b101_b131_146 nin0)
  have c152_F_coder_b101 : Fld Z h135 b101 "java/lang/String" "coder" "B" (.int (0 : Int32)) := c151_F_coder_b101.keep Kp135 (ninS ne_b101_b131_146 nin0)
  have c153_F_coder_b101 : Fld Z h138 b101 "java/lang/String" "coder" "B" (.int (0 : Int32)) := Fld.other W138 c152_F_coder_b101 (Or.inl ne_b101_b131_146)
  have c154_V_b_110 : Arv Z h131 b_110 k2_110 .byte (2 : Int32) [(.int (p1 &&& (255 : Int32)).toInt8.toInt32), (.int (p2 &&& (255 : Int32)).toInt8.toInt32)] (.int (0 : Int32)) := p110_V_b.ext E131
  have lt_b_110 : @LT.lt Nat _ b_110 h110.size := p110_V_b.lt
  have ne_b_110_b131_155 : b_110 ≠ b131 := (by omega : @Ne Nat b_110 b131)
  have c156_V_b_110 : Arv Z h132 b_110 k2_110 .byte (2 : Int32) [(.int (p1 &&& (255 : Int32)).toInt8.toInt32), (.int (p2 &&& (255 : Int32)).toInt8.toInt32)] (.int (0 : Int32)) := c154_V_b_110.keep Kp132 (ninS ne_b_110_b131_155 nin0)
  have c157_V_b_110 : Arv Z h135 b_110 k2_110 .byte (2 : Int32) [(.int (p1 &&& (255 : Int32)).toInt8.toInt32), (.int (p2 &&& (255 : Int32)).toInt8.toInt32)] (.int (0 : Int32)) := c156_V_b_110.keep Kp135 (ninS ne_b_110_b131_155 nin0)
  have c158_V_b_110 : Arv Z h138 b_110 k2_110 .byte (2 : Int32) [(.int (p1 &&& (255 : Int32)).toInt8.toInt32), (.int (p2 &&& (255 : Int32)).toInt8.toInt32)] (.int (0 : Int32)) := c157_V_b_110.other W138 ne_b_110_b131_155
  have c159_OL : Old Z n0 h110 := c124_OL.keep Kp110 (allS ge125_b101 all0)
  have c160_OL : Old Z n0 h131 := c159_OL.ext E131
  have c161_OL : Old Z n0 h132 := c160_OL.keep Kp132 (allS ge133_b131 all0)
  have c162_OL : Old Z n0 h135 := c161_OL.keep Kp135 (allS ge133_b131 all0)
  have c163_OL : Old Z n0 h138 := c162_OL.wr W138 ge133_b131
  have c164_TH : ThS Z h101 := ThS.ext E101 TH
  have c165_TH : ThS Z h102 := ThS.ext E102 c164_TH
  have c166_TH : ThS Z h104 := ThS.wr W104 c165_TH
  have c167_TH : ThS Z h108 := ThS.wr W108 c166_TH
  have c168_TH : ThS Z h110 := ThS.keep Kp110 (nsS (Exa.nostat c113_E_b101) ns0) c167_TH
  have c169_TH : ThS Z h131 := ThS.ext E131 c168_TH
  have c170_TH : ThS Z h132 := ThS.keep Kp132 (nsS (Arv.nostat V_b131) ns0) c169_TH
  have c171_TH : ThS Z h135 := ThS.keep Kp135 (nsS (Arv.nostat p132_V_b') ns0) c170_TH
  have c172_TH : ThS Z h138 := ThS.wr W138 c171_TH
  obtain ⟨_, _, ⟨T140, L140, k140, n140⟩, -, X140, hs140, hg140, ⟨Lc140, hQ140, l140, y140, z140, Ch140⟩, st140⟩ := callSS X138 hx (y := y46_) hown0 (mvT hZ0 (wi hw 22 rfl)) (mvT hZ0 (wi hw 23 rfl)) (mvT hZ0 (wi hw 24 rfl)) (mvT hZ0 (wi hw 25 rfl)) (by decide) (backCH (W := 0) (rm_room_some l Z a0 hw [] b101 b_110 k2_110 2 _ ua sa cs h138 n0 (by omega) c144_E_b101 c149_F_value_b101 c153_F_coder_b101 c158_V_b_110 (rfl) (by decide) c163_OL c172_TH S_UNASSIGNED_STACK S_SUPPRESSED_SENTINEL hl S_COMPACT_STRINGS hcs) hZ0 (wi hw 25 rfl) (wi hw 24 rfl) (by decide) (by decide) (own_EW hw) CC9.1 cs0 (fun _ _ _ _ _ _ _ Y hg => known_frames Y hg (Vm.MethodsKnown.alikeC hS0.1.alike hTK) (Vm.FramesKnown.alikeC hS0.1.alike hBelow))) (g := (mkF mM 339 (Lc_law_2_9 p0 p1 p2 p3 b101 b131) [(.ref b101)])) rfl (by rw [hml]; rfl) (argsL := [(.ref b101)]) (rest := []) (lenOf pd_3 rfl) rfl (by show 2 * 0 + _ ≤ _; exact Nat.le_of_eq rfl) (hb hby at_339) (fun _ _ => ⟨rfl, e138, ble rfl, ble rfl⟩)
  dsimp only [Pt.U, Pt.locs, Pt.cells, Pt.slots] at X140 l140 y140 z140 st140 hQ140 hs140 hg140 Ch140
  subst y140 z140
  obtain ⟨X140', hS140, hZ140, hown140⟩ := rebS hS0 (by rw [e138]; omega) X140 hs140 hg140 hZ0 hown0
  obtain ⟨h140, e140⟩ : ∃ z, T140.heap = z := ⟨_, rfl⟩
  rw [e140] at hQ140 hS140 Ch140
  obtain ⟨x_140, m_140, mb_140, mk_140, rfl, N140q, Kp140, p140_E_x, p140_F_detailMessage_x, p140_E_m, p140_F_value_m, p140_F_coder_m, p140_V_mb⟩ := hQ140
  have Sz10 : h138.size ≤ h140.size := Kp140.1
  have CC10 : CHr Z consts_1 sS.vm h0 T140.vm h140 := CC9.trans Ch140
  have N140 : Fr n0 L140 := by rw [l140]; exact Fr.app N138 N140q
  obtain ⟨cq173, kq173, q173a, q173b, q173c⟩ := isOf hZ140 e140 p140_E_x
  obtain ⟨_, _, ⟨T173, L173, k173, n173⟩, -, X173, ⟨Lc173, hQ173, l173, y173, z173⟩, st173⟩ := X140'.virtualBackUp hx (x := y47_) (y := y44_) (owner := "java/lang/Throwable") hown140 (mvT hZ140 (wi hw 215 rfl)) (mvT hZ140 (wi hw 216 rfl)) (mvT hZ140 (wi hw 217 rfl)) (by decide) (mvT hZ140 (wi hw 219 rfl)) (mvT hZ140 (wi hw 218 rfl)) (backOf (W := 0) (rm_getMsg l Z a0 hw [] x_140 m_140 h140 n0 (by omega) p140_F_detailMessage_x) hZ140 (wi hw 220 rfl) (wi hw 176 rfl) (by decide) (by decide)) q173a q173c (g := (mkF mM 353 (Lc_law_2_10 p0 p1 p2 p3 b101 b131 x_140) [(.ref x_140)])) rfl (by rw [hml]; rfl) (Steps.refl _) (argsL := []) (rest := []) (lenOf pd_17 rfl) rfl (by show 2 * 0 + _ ≤ _; exact Nat.le_of_eq rfl) (hb hby at_353) (fun _ _ => ⟨rfl, e140, ble rfl, ble rfl⟩)
  dsimp only [Pt.U, Pt.locs, Pt.cells, Pt.slots] at X173 l173 y173 z173 st173 hQ173
  subst y173 z173
  obtain ⟨h173, e173⟩ : ∃ z, T173.heap = z := ⟨_, rfl⟩
  rw [e173] at hQ173
  obtain ⟨rfl, N173q, eq173⟩ := hQ173
  rw [eq173] at e173
  have N173 : Fr n0 L173 := by rw [l173]; exact Fr.app N140 N173q
  have c175_OL : Old Z n0 h140 := c163_OL.keep Kp140 all0
  obtain ⟨cq174, kq174, q174a, q174b, q174c⟩ := isOf hZ140 e173 p140_E_m
  obtain ⟨_, _, ⟨T174, L174, k174, n174⟩, -, X174, ⟨Lc174, hQ174, l174, y174, z174⟩, st174⟩ := X173.virtualBack hx (y := y1_) (z := y1_) hown140 (mvT hZ140 (wi hw 221 rfl)) (mvT hZ140 (wi hw 58 rfl)) (notFace_of_selects (args := #[]) (mvT hZ140 (wi hw 60 rfl))) (mvT hZ140 (wi hw 60 rfl)) (mvT hZ140 (wi hw 59 rfl)) (by decide) (backOf (W := 0) (rm_length l Z a0 hw [] m_140 mb_140 mk_140 (((0 + 16) + 2) + 1) _ cs h140 n0 (by omega) p140_E_m p140_F_value_m p140_F_coder_m p140_V_mb c175_OL S_COMPACT_STRINGS hcs) hZ140 (wi hw 61 rfl) (wi hw 2 rfl) (by decide) (by decide)) q174a q174c (g := (mkF mM 365 (Lc_law_2_11 p0 p1 p2 p3 b101 b131 x_140 m_140) [(.ref m_140)])) rfl (by rw [hml]; rfl) (Steps.refl _) (argsL := []) (rest := []) (lenOf pd_7 rfl) rfl (by show 2 * 0 + _ ≤ _; exact Nat.le_of_eq rfl) (hb hby at_365) (fun _ _ => ⟨rfl, e173, ble rfl, ble rfl⟩)
  dsimp only [Pt.U, Pt.locs, Pt.cells, Pt.slots] at X174 l174 y174 z174 st174 hQ174
  subst y174 z174
  obtain ⟨h174, e174⟩ : ∃ z, T174.heap = z := ⟨_, rfl⟩
  rw [e174] at hQ174
  obtain ⟨rfl, N174q, eq174⟩ := hQ174
  rw [eq174] at e174
  have N174 : Fr n0 L174 := by rw [l174]; exact Fr.app N173 N174q
  have c177_V_b131 : Arv Z h140 b131 k131 .char (21 : Int32) [(.int (78 : Int32)), (.int (111 : Int32)), (.int (32 : Int32)), (.int (114 : Int32)), (.int (111 : Int32)), (.int (111 : Int32)), (.int (109 : Int32)), (.int (32 : Int32)), (.int (104 : Int32)), (.int (97 : Int32)), (.int (115 : Int32)), (.int (32 : Int32)), (.int (105 : Int32)), (.int (100 : Int32)), (.int (32 : Int32)), (.int (39 : Int32)), (.int (p1 &&& (255 : Int32))), (.int (p2 &&& (255 : Int32))), (.int (39 : Int32)), (.int (0 : Int32)), (.int (0 : Int32))] (.int (0 : Int32)) := Vt138.keep Kp140 nin0
  obtain ⟨T176, L176, X176, e176, N176, st176⟩ := sg_ats l Z a0 hw m_140 mb_140 mk_140 (iN (((0 + 16) + 2) + 1)) _ b131 k131 _ (19 : Int32) fo cs (.val (.int p0)) (.val (.int p1)) (.val (.int p2)) (.val (.int p3)) (.val (.int (0 : Int32))) (.val (.int (2 : Int32))) (.val (.int (p1 &&& (255 : Int32)))) (.val (.int (p2 &&& (255 : Int32)))) (.val (.int (p3 &&& (255 : Int32)))) (.val (.int (0 : Int32))) (.val (.ref b101)) (.val (.ref x_140)) h140 n0 (by omega) hx hby hml hZ140 hown140 X174 e174 N174 (by decide) (by decide) p140_E_m p140_F_value_m p140_F_coder_m p140_V_mb c177_V_b131 hfo c175_OL S_SIOOBE_FORMATTER S_COMPACT_STRINGS hcs (Or.inr ⟨by decide, by decide, by decide, by decide, (78 : Int32), (78 : Int32), rfl, rfl, by decide⟩) (Or.inr ⟨by decide, by decide, by decide, by decide, (111 : Int32), (111 : Int32), rfl, rfl, by decide⟩) (Or.inr ⟨by decide, by decide, by decide, by decide, (32 : Int32), (32 : Int32), rfl, rfl, by decide⟩) (Or.inr ⟨by decide, by decide, by decide, by decide, (114 : Int32), (114 : Int32), rfl, rfl, by decide⟩) (Or.inr ⟨by decide, by decide, by decide, by decide, (111 : Int32), (111 : Int32), rfl, rfl, by decide⟩) (Or.inr ⟨by decide, by decide, by decide, by decide, (111 : Int32), (111 : Int32), rfl, rfl, by decide⟩) (Or.inr ⟨by decide, by decide, by decide, by decide, (109 : Int32), (109 : Int32), rfl, rfl, by decide⟩) (Or.inr ⟨by decide, by decide, by decide, by decide, (32 : Int32), (32 : Int32), rfl, rfl, by decide⟩) (Or.inr ⟨by decide, by decide, by decide, by decide, (104 : Int32), (104 : Int32), rfl, rfl, by decide⟩) (Or.inr ⟨by decide, by decide, by decide, by decide, (97 : Int32), (97 : Int32), rfl, rfl, by decide⟩) (Or.inr ⟨by decide, by decide, by decide, by decide, (115 : Int32), (115 : Int32), rfl, rfl, by decide⟩) (Or.inr ⟨by decide, by decide, by decide, by decide, (32 : Int32), (32 : Int32), rfl, rfl, by decide⟩) (Or.inr ⟨by decide, by decide, by decide, by decide, (105 : Int32), (105 : Int32), rfl, rfl, by decide⟩) (Or.inr ⟨by decide, by decide, by decide, by decide, (100 : Int32), (100 : Int32), rfl, rfl, by decide⟩) (Or.inr ⟨by decide, by decide, by decide, by decide, (32 : Int32), (32 : Int32), rfl, rfl, by decide⟩) (Or.inr ⟨by decide, by decide, by decide, by decide, (39 : Int32), (39 : Int32), rfl, rfl, by decide⟩) (Or.inr ⟨by decide, by decide, by decide, by decide, (p1 &&& (255 : Int32)).toInt8.toInt32, (p1 &&& (255 : Int32)), rfl, rfl, own_rt p1⟩) (Or.inr ⟨by decide, by decide, by decide, by decide, (p2 &&& (255 : Int32)).toInt8.toInt32, (p2 &&& (255 : Int32)), rfl, rfl, own_rt p2⟩) (Or.inr ⟨by decide, by decide, by decide, by decide, (39 : Int32), (39 : Int32), rfl, rfl, by decide⟩) (Or.inl (by decide)) (Or.inl (by decide))
  obtain ⟨fs, hr, hrun, hended, hE⟩ := Stand.leaveW (s := sS) X176 hS140 (by rw [e176]; omega) (v := some (.int (1 : Int32))) (fun h => by rw [Bd.returns] at h; cases h)
  refine ⟨_, _, castTop (ef_law_2 mM p0 p1 p2 p3 ua sa cs fo) ?_, hrun, hended, _, _, rfl, ?_, ?_, hE.1, hE.2.1, hE.2.2.1, hE.2.2.2.mono (by decide) (by decide)⟩
  · show SS pP eE bS s₁ (mkF mM 0 (Lc_law_2_0 p0 p1 p2 p3) []) _
    refine XS.iloadN X0.here hx rfl (hb hby at_0) rfl ?_
    refine XS.iconst X0.here hx rfl (hb hby at_1) ?_
    refine XS.ishr X0.here hx rfl (hb hby at_2) rfl ?_
    refine XS.iconst X0.here hx rfl (hb hby at_3) ?_
    show SS pP eE bS s₁ (mkF mM 4 (Lc_law_2_0 p0 p1 p2 p3) [(.int (1 : Int32)), (.int (p0 >>> ((2 : Int32) &&& 31)))]) _
    refine XS.iand X0.here hx rfl (hb hby at_4) rfl ?_
    show SS pP eE bS s₁ (mkF mM 5 (Lc_law_2_0 p0 p1 p2 p3) [(.int ((p0 >>> ((2 : Int32) &&& 31)) &&& (1 : Int32)))]) _
    rw [show ((p0 >>> ((2 : Int32) &&& 31)) &&& (1 : Int32)) = (0 : Int32) from hz0]
    refine XS.ifYes X0.here hx rfl (pc0 := 5) (pc' := 12) rfl (hb hby at_5) rfl ((if0 _ _).trans (teq (by decide : (0 : Int32) = (0 : Int32))).1) (by decide) (by decide) ?_
    refine XS.iconst X0.here hx rfl (hb hby at_12) ?_
    refine XS.istore X0.here hx rfl (hb hby at_13) rfl (l' := (Lc_law_2_1 p0 p1 p2 p3)) rfl ?_
    show SS pP eE bS s₁ (mkF mM 15 (Lc_law_2_1 p0 p1 p2 p3) []) _
    refine XS.iloadN X0.here hx rfl (hb hby at_15) rfl ?_
    refine XS.iconst X0.here hx rfl (hb hby at_16) ?_
    refine XS.iand X0.here hx rfl (hb hby at_17) rfl ?_
    show SS pP eE bS s₁ (mkF mM 18 (Lc_law_2_1 p0 p1 p2 p3) [(.int (p0 &&& (3 : Int32)))]) _
    rw [show (p0 &&& (3 : Int32)) = (2 : Int32) from hn0]
    refine XS.istore X0.here hx rfl (hb hby at_18) rfl (l' := (Lc_law_2_2 p0 p1 p2 p3)) rfl ?_
    refine XS.iloadN X0.here hx rfl (hb hby at_20) rfl ?_
    refine XS.sipush X0.here hx rfl (hb hby at_21) ?_
    show SS pP eE bS s₁ (mkF mM 24 (Lc_law_2_2 p0 p1 p2 p3) [(.int (255 : Int32)), (.int p1)]) _
    refine XS.iand X0.here hx rfl (hb hby at_24) rfl ?_
    refine XS.i2c X0.here hx rfl (hb hby at_25) rfl ?_
    show SS pP eE bS s₁ (mkF mM 26 (Lc_law_2_2 p0 p1 p2 p3) [(.int ((p1 &&& (255 : Int32)).toUInt32.toUInt16.toUInt32.toInt32))]) _
    rw [show ((p1 &&& (255 : Int32)).toUInt32.toUInt16.toUInt32.toInt32) = (p1 &&& (255 : Int32)) from i2c_mask p1]
    refine XS.istore X0.here hx rfl (hb hby at_26) rfl (l' := (Lc_law_2_3 p0 p1 p2 p3)) rfl ?_
    refine XS.iloadN X0.here hx rfl (hb hby at_28) rfl ?_
    refine XS.sipush X0.here hx rfl (hb hby at_29) ?_
    show SS pP eE bS s₁ (mkF mM 32 (Lc_law_2_3 p0 p1 p2 p3) [(.int (255 : Int32)), (.int p2)]) _
    refine XS.iand X0.here hx rfl (hb hby at_32) rfl ?_
    refine XS.i2c X0.here hx rfl (hb hby at_33) rfl ?_
    show SS pP eE bS s₁ (mkF mM 34 (Lc_law_2_3 p0 p1 p2 p3) [(.int ((p2 &&& (255 : Int32)).toUInt32.toUInt16.toUInt32.toInt32))]) _
    rw [show ((p2 &&& (255 : Int32)).toUInt32.toUInt16.toUInt32.toInt32) = (p2 &&& (255 : Int32)) from i2c_mask p2]
    refine XS.istore X0.here hx rfl (hb hby at_34) rfl (l' := (Lc_law_2_4 p0 p1 p2 p3)) rfl ?_
    refine XS.iloadN X0.here hx rfl (hb hby at_36) rfl ?_
    refine XS.sipush X0.here hx rfl (hb hby at_37) ?_
    show SS pP eE bS s₁ (mkF mM 40 (Lc_law_2_4 p0 p1 p2 p3) [(.int (255 : Int32)), (.int p3)]) _
    refine XS.iand X0.here hx rfl (hb hby at_40) rfl ?_
    refine XS.i2c X0.here hx rfl (hb hby at_41) rfl ?_
    show SS pP eE bS s₁ (mkF mM 42 (Lc_law_2_4 p0 p1 p2 p3) [(.int ((p3 &&& (255 : Int32)).toUInt32.toUInt16.toUInt32.toInt32))]) _
    rw [show ((p3 &&& (255 : Int32)).toUInt32.toUInt16.toUInt32.toInt32) = (p3 &&& (255 : Int32)) from i2c_mask p3]
    refine XS.istore X0.here hx rfl (hb hby at_42) rfl (l' := (Lc_law_2_5 p0 p1 p2 p3)) rfl ?_
    refine XS.iconst X0.here hx rfl (hb hby at_44) ?_
    refine XS.istore X0.here hx rfl (hb hby at_45) rfl (l' := (Lc_law_2_6 p0 p1 p2 p3)) rfl ?_
    show SS pP eE bS s₁ (mkF mM 47 (Lc_law_2_6 p0 p1 p2 p3) []) _
    refine XS.iload X0.here hx rfl (hb hby at_47) rfl ?_
    refine XS.ifYes X0.here hx rfl (pc0 := 49) (pc' := 77) rfl (hb hby at_49) rfl ((if0 _ _).trans (teq (by decide : (0 : Int32) = (0 : Int32))).1) (by decide) (by decide) ?_
    refine XS.iload X0.here hx rfl (hb hby at_77) rfl ?_
    refine XS.ifYes X0.here hx rfl (pc0 := 79) (pc' := 97) rfl (hb hby at_79) rfl ((if0 _ _).trans (feq (by decide : ¬ ((2 : Int32) = (0 : Int32)))).2) (by decide) (by decide) ?_
    show SS pP eE bS s₁ (mkF mM 97 (Lc_law_2_6 p0 p1 p2 p3) []) _
    refine XS.iload X0.here hx rfl (hb hby at_97) rfl ?_
    refine XS.iconst X0.here hx rfl (hb hby at_99) ?_
    refine XS.icmpYes X0.here hx rfl (pc0 := 100) (pc' := 113) rfl (hb hby at_100) rfl (feq (by decide : ¬ ((2 : Int32) = (1 : Int32)))).2 (by decide) (by decide) ?_
    refine XS.iload X0.here hx rfl (hb hby at_113) rfl ?_
    show SS pP eE bS s₁ (mkF mM 115 (Lc_law_2_6 p0 p1 p2 p3) [(.int (2 : Int32))]) _
    refine XS.iconst X0.here hx rfl (hb hby at_115) ?_
    refine XS.icmpNo X0.here hx rfl (hb hby at_116) rfl (teq (by decide : (2 : Int32) = (2 : Int32))).2 ?_
    show SS pP eE bS s₁ (mkF mM 119 (Lc_law_2_6 p0 p1 p2 p3) []) _
    refine st101 _ ?_
    show SS pP eE bS T101 (mkF mM 122 (Lc_law_2_6 p0 p1 p2 p3) [(.ref b101)]) _
    refine XS.dup X101.here hx rfl (hb hby at_122) rfl rfl ?_
    refine XS.iconst X101.here hx rfl (hb hby at_123) ?_
    show SS pP eE bS T101 (mkF mM 124 (Lc_law_2_6 p0 p1 p2 p3) [(.int (2 : Int32)), (.ref b101), (.ref b101)]) _
    refine st102 _ ?_
    show SS pP eE bS T102 (mkF mM 126 (Lc_law_2_6 p0 p1 p2 p3) [(.ref b102), (.ref b101), (.ref b101)]) _
    refine XS.dup X102.here hx rfl (hb hby at_126) rfl rfl ?_
    refine XS.iconst X102.here hx rfl (hb hby at_127) ?_
    refine XS.iload X102.here hx rfl (hb hby at_128) rfl ?_
    show SS pP eE bS T102 (mkF mM 130 (Lc_law_2_6 p0 p1 p2 p3) [(.int (p1 &&& (255 : Int32))), (.int (0 : Int32)), (.ref b102), (.ref b102), (.ref b101), (.ref b101)]) _
    refine st104 _ ?_
    show SS pP eE bS T104 (mkF mM 131 (Lc_law_2_6 p0 p1 p2 p3) [(.ref b102), (.ref b101), (.ref b101)]) _
    refine XS.dup X104.here hx rfl (hb hby at_131) rfl rfl ?_
    refine XS.iconst X104.here hx rfl (hb hby at_132) ?_
    refine XS.iload X104.here hx rfl (hb hby at_133) rfl ?_
    show SS pP eE bS T104 (mkF mM 135 (Lc_law_2_6 p0 p1 p2 p3) [(.int (p2 &&& (255 : Int32))), (.int (1 : Int32)), (.ref b102), (.ref b102), (.ref b101), (.ref b101)]) _
    refine st108 _ ?_
    show SS pP eE bS T108 (mkF mM 136 (Lc_law_2_6 p0 p1 p2 p3) [(.ref b102), (.ref b101), (.ref b101)]) _
    refine st110.trans ?_
    show SS pP eE bS T110 (mkF mM 139 (Lc_law_2_6 p0 p1 p2 p3) [(.ref b101)]) _
    refine XS.astore X110.here hx rfl (hb hby at_139) rfl rfl (l' := (Lc_law_2_7 p0 p1 p2 p3 b101)) rfl ?_
    refine XS.goto X110.here hx rfl (pc0 := 141) (pc' := 171) rfl (hb hby at_141) (by decide) (by decide) ?_
    refine XS.bipush X110.here hx rfl (hb hby at_171) ?_
    show SS pP eE bS T110 (mkF mM 173 (Lc_law_2_7 p0 p1 p2 p3 b101) [(.int (21 : Int32))]) _
    refine st131 _ ?_
    show SS pP eE bS T131 (mkF mM 175 (Lc_law_2_7 p0 p1 p2 p3 b101) [(.ref b131)]) _
    refine st132 _ ?_
    refine XS.astore X132.here hx rfl (hb hby at_290) rfl rfl (l' := (Lc_law_2_8 p0 p1 p2 p3 b101 b131)) rfl ?_
    refine st135 _ ?_
    refine XS.aload X135.here hx rfl (hb hby at_320) rfl rfl ?_
    show SS pP eE bS T135 (mkF mM 322 (Lc_law_2_8 p0 p1 p2 p3 b101 b131) [(.ref b131)]) _
    refine XS.bipush X135.here hx rfl (hb hby at_322) ?_
    refine XS.iload X135.here hx rfl (hb hby at_324) rfl ?_
    refine XS.iadd X135.here hx rfl (hb hby at_326) rfl ?_
    refine XS.bipush X135.here hx rfl (hb hby at_327) ?_
    show SS pP eE bS T135 (mkF mM 329 (Lc_law_2_8 p0 p1 p2 p3 b101 b131) [(.int (39 : Int32)), (.int (18 : Int32)), (.ref b131)]) _
    refine st138 _ ?_
    show SS pP eE bS T138 (mkF mM 330 (Lc_law_2_8 p0 p1 p2 p3 b101 b131) []) _
    refine XS.bipush X138.here hx rfl (hb hby at_330) ?_
    refine XS.iload X138.here hx rfl (hb hby at_332) rfl ?_
    refine XS.iadd X138.here hx rfl (hb hby at_334) rfl ?_
    refine XS.istore X138.here hx rfl (hb hby at_335) rfl (l' := (Lc_law_2_9 p0 p1 p2 p3 b101 b131)) rfl ?_
    show SS pP eE bS T138 (mkF mM 337 (Lc_law_2_9 p0 p1 p2 p3 b101 b131) []) _
    refine XS.aload X138.here hx rfl (hb hby at_337) rfl rfl ?_
    show SS pP eE bS T138 (mkF mM 339 (Lc_law_2_9 p0 p1 p2 p3 b101 b131) [(.ref b101)]) _
    refine st140.trans ?_
    show SS pP eE bS T140 (mkF mM 342 (Lc_law_2_9 p0 p1 p2 p3 b101 b131) [(.ref x_140)]) _
    refine XS.astore X140'.here hx rfl (hb hby at_342) rfl rfl (l' := (Lc_law_2_10 p0 p1 p2 p3 b101 b131 x_140)) rfl ?_
    refine XS.aload X140'.here hx rfl (hb hby at_344) rfl rfl ?_
    refine XS.ifnonnullYes X140'.here hx rfl (pc0 := 346) (pc' := 351) rfl (hb hby at_346) rfl (by decide) (by decide) ?_
    refine XS.aload X140'.here hx rfl (hb hby at_351) rfl rfl ?_
    show SS pP eE bS T140 (mkF mM 353 (Lc_law_2_10 p0 p1 p2 p3 b101 b131 x_140) [(.ref x_140)]) _
    refine st173.trans ?_
    show SS pP eE bS T173 (mkF mM 356 (Lc_law_2_10 p0 p1 p2 p3 b101 b131 x_140) [(.ref m_140)]) _
    refine XS.astore X173.here hx rfl (hb hby at_356) rfl rfl (l' := (Lc_law_2_11 p0 p1 p2 p3 b101 b131 x_140 m_140)) rfl ?_
    refine XS.aload X173.here hx rfl (hb hby at_358) rfl rfl ?_
    refine XS.ifnullNo X173.here hx rfl (hb hby at_360) rfl ?_
    refine XS.aload X173.here hx rfl (hb hby at_363) rfl rfl ?_
    show SS pP eE bS T173 (mkF mM 365 (Lc_law_2_11 p0 p1 p2 p3 b101 b131 x_140 m_140) [(.ref m_140)]) _
    refine st174.trans ?_
    show SS pP eE bS T174 (mkF mM 368 (Lc_law_2_11 p0 p1 p2 p3 b101 b131 x_140 m_140) [(.int (iN (((0 + 16) + 2) + 1)))]) _
    refine XS.iload X174.here hx rfl (hb hby at_368) rfl ?_
    refine XS.icmpYes X174.here hx rfl (pc0 := 370) (pc' := 375) rfl (hb hby at_370) rfl (teq (by decide : (iN (((0 + 16) + 2) + 1)) = (19 : Int32))).1 (by decide) (by decide) ?_
    refine st176 _ ?_
    refine XS.iconst X176.here hx rfl (hb hby at_663) ?_
    show SS pP eE bS T176 (mkF mM 664 (Lc_law_2_11 p0 p1 p2 p3 b101 b131 x_140 m_140) [(.int (1 : Int32))]) _
    refine XS.goto X176.here hx rfl (pc0 := 664) (pc' := 668) rfl (hb hby at_664) (by decide) (by decide) ?_
    show SS pP eE bS T176 (mkF mM 668 (Lc_law_2_11 p0 p1 p2 p3 b101 b131 x_140 m_140) [(.int (1 : Int32))]) _
    exact retN X176 hx (t := .boolean) Bd.returns (by simp) (hb hby at_668) hr
  · exact ⟨rfl, N176⟩
  · show CHr Z consts_1 sS.vm sS.heap T176.vm T176.heap
    rw [hh, e176]
    exact CC10.trans (CHv.at X176 hZ140 (own_EW hw) CC10.1)
-- MARK lw3
abbrev Lc_law_3_0 (p0 : Int32) (p1 : Int32) (p2 : Int32) (p3 : Int32) : Array Slot := #[.val (.int p0), .val (.int p1), .val (.int p2), .val (.int p3), .unset, .unset, .unset, .unset, .unset, .unset, .unset, .unset, .unset, .unset, .unset]
abbrev Lc_law_3_1 (p0 : Int32) (p1 : Int32) (p2 : Int32) (p3 : Int32) : Array Slot := #[.val (.int p0), .val (.int p1), .val (.int p2), .val (.int p3), .val (.int (0 : Int32)), .unset, .unset, .unset, .unset, .unset, .unset, .unset, .unset, .unset, .unset]
abbrev Lc_law_3_2 (p0 : Int32) (p1 : Int32) (p2 : Int32) (p3 : Int32) : Array Slot := #[.val (.int p0), .val (.int p1), .val (.int p2), .val (.int p3), .val (.int (0 : Int32)), .val (.int (3 : Int32)), .unset, .unset, .unset, .unset, .unset, .unset, .unset, .unset, .unset]
abbrev Lc_law_3_3 (p0 : Int32) (p1 : Int32) (p2 : Int32) (p3 : Int32) : Array Slot := #[.val (.int p0), .val (.int p1), .val (.int p2), .val (.int p3), .val (.int (0 : Int32)), .val (.int (3 : Int32)), .val (.int (p1 &&& (255 : Int32))), .unset, .unset, .unset, .unset, .unset, .unset, .unset, .unset]
abbrev Lc_law_3_4 (p0 : Int32) (p1 : Int32) (p2 : Int32) (p3 : Int32) : Array Slot := #[.val (.int p0), .val (.int p1), .val (.int p2), .val (.int p3), .val (.int (0 : Int32)), .val (.int (3 : Int32)), .val (.int (p1 &&& (255 : Int32))), .val (.int (p2 &&& (255 : Int32))), .unset, .unset, .unset, .unset, .unset, .unset, .unset]
abbrev Lc_law_3_5 (p0 : Int32) (p1 : Int32) (p2 : Int32) (p3 : Int32) : Array Slot := #[.val (.int p0), .val (.int p1), .val (.int p2), .val (.int p3), .val (.int (0 : Int32)), .val (.int (3 : Int32)), .val (.int (p1 &&& (255 : Int32))), .val (.int (p2 &&& (255 : Int32))), .val (.int (p3 &&& (255 : Int32))), .unset, .unset, .unset, .unset, .unset, .unset]
abbrev Lc_law_3_6 (p0 : Int32) (p1 : Int32) (p2 : Int32) (p3 : Int32) : Array Slot := #[.val (.int p0), .val (.int p1), .val (.int p2), .val (.int p3), .val (.int (0 : Int32)), .val (.int (3 : Int32)), .val (.int (p1 &&& (255 : Int32))), .val (.int (p2 &&& (255 : Int32))), .val (.int (p3 &&& (255 : Int32))), .val (.int (0 : Int32)), .unset, .unset, .unset, .unset, .unset]
abbrev Lc_law_3_7 (p0 : Int32) (p1 : Int32) (p2 : Int32) (p3 : Int32) (b101 : Addr) : Array Slot := #[.val (.int p0), .val (.int p1), .val (.int p2), .val (.int p3), .val (.int (0 : Int32)), .val (.int (3 : Int32)), .val (.int (p1 &&& (255 : Int32))), .val (.int (p2 &&& (255 : Int32))), .val (.int (p3 &&& (255 : Int32))), .val (.int (0 : Int32)), .val (.ref b101), .unset, .unset, .unset, .unset]
abbrev Lc_law_3_8 (p0 : Int32) (p1 : Int32) (p2 : Int32) (p3 : Int32) (b101 : Addr) (b139 : Addr) : Array Slot := #[.val (.int p0), .val (.int p1), .val (.int p2), .val (.int p3), .val (.int (0 : Int32)), .val (.int (3 : Int32)), .val (.int (p1 &&& (255 : Int32))), .val (.int (p2 &&& (255 : Int32))), .val (.int (p3 &&& (255 : Int32))), .val (.int (0 : Int32)), .val (.ref b101), .val (.ref b139), .unset, .unset, .unset]
abbrev Lc_law_3_9 (p0 : Int32) (p1 : Int32) (p2 : Int32) (p3 : Int32) (b101 : Addr) (b139 : Addr) : Array Slot := #[.val (.int p0), .val (.int p1), .val (.int p2), .val (.int p3), .val (.int (0 : Int32)), .val (.int (3 : Int32)), .val (.int (p1 &&& (255 : Int32))), .val (.int (p2 &&& (255 : Int32))), .val (.int (p3 &&& (255 : Int32))), .val (.int (0 : Int32)), .val (.ref b101), .val (.ref b139), .val (.int (20 : Int32)), .unset, .unset]
abbrev Lc_law_3_10 (p0 : Int32) (p1 : Int32) (p2 : Int32) (p3 : Int32) (b101 : Addr) (b139 : Addr) (x_148 : Addr) : Array Slot := #[.val (.int p0), .val (.int p1), .val (.int p2), .val (.int p3), .val (.int (0 : Int32)), .val (.int (3 : Int32)), .val (.int (p1 &&& (255 : Int32))), .val (.int (p2 &&& (255 : Int32))), .val (.int (p3 &&& (255 : Int32))), .val (.int (0 : Int32)), .val (.ref b101), .val (.ref b139), .val (.int (20 : Int32)), .val (.ref x_148), .unset]
abbrev Lc_law_3_11 (p0 : Int32) (p1 : Int32) (p2 : Int32) (p3 : Int32) (b101 : Addr) (b139 : Addr) (x_148 : Addr) (m_148 : Addr) : Array Slot := #[.val (.int p0), .val (.int p1), .val (.int p2), .val (.int p3), .val (.int (0 : Int32)), .val (.int (3 : Int32)), .val (.int (p1 &&& (255 : Int32))), .val (.int (p2 &&& (255 : Int32))), .val (.int (p3 &&& (255 : Int32))), .val (.int (0 : Int32)), .val (.ref b101), .val (.ref b139), .val (.int (20 : Int32)), .val (.ref x_148), .val (.ref m_148)]
theorem ef_law_3 (mM : MethodId) (p0 : Int32) (p1 : Int32) (p2 : Int32) (p3 : Int32) (ua : Addr) (sa : Addr) (cs : Int32) (fo : Value) : entryFrame mM #[(.int p0), (.int p1), (.int p2), (.int p3)] maxLocals = mkF mM 0 #[.val (.int p0), .val (.int p1), .val (.int p2), .val (.int p3), .unset, .unset, .unset, .unset, .unset, .unset, .unset, .unset, .unset, .unset, .unset] [] := by
  first | (simp [entryFrame, mkF, argsToLocals, Value.category, maxLocals]; done) | rfl
theorem rm_law_3 (l : Launch) (Z : State) (a0 : Array Value) (hw : HW a0 Z) (ws : List Jvm.Cond) (p0 : Int32) (p1 : Int32) (p2 : Int32) (p3 : Int32) (ua : Addr) (sa : Addr) (cs : Int32) (fo : Value) (h0 : Heap) (n0 : Nat) (Z0 : n0 ≤ h0.size) (OL : Old Z n0 h0) (TH : ThS Z h0) (S_UNASSIGNED_STACK : Sta Z Z.heap "java/lang/Throwable" "UNASSIGNED_STACK" "[Ljava/lang/StackTraceElement;" (.ref ua)) (S_SUPPRESSED_SENTINEL : Sta Z Z.heap "java/lang/Throwable" "SUPPRESSED_SENTINEL" "Ljava/util/List;" (.ref sa)) (hl : l.stackTraces = true) (S_COMPACT_STRINGS : Sta Z Z.heap "java/lang/String" "COMPACT_STRINGS" "Z" (.int cs)) (hcs : ¬ (cs = (0 : Int32))) (S_SIOOBE_FORMATTER : Sta Z Z.heap "jdk/internal/util/Preconditions" "SIOOBE_FORMATTER" "Ljava/util/function/BiFunction;" fo) (hfo : (fo).isRef = true) (hz0 : ((p0 >>> ((2 : Int32) &&& 31)) &&& (1 : Int32)) = (0 : Int32)) (hn0 : (p0 &&& (3 : Int32)) = (3 : Int32)) :
    MetFree l x (head1 (Jvm.Cond.code x code maxLocals ret :: ws) room_1) (fun xa xU => xa = #[(.int p0), (.int p1), (.int p2), (.int p3)] ∧ Z.Warmed39 xU.vm ∧ xU.heap = h0 ∧ CHv Z consts_1 xU.vm h0 ∧ ∀ x ∈ ([] : List Addr), Safe Z consts_1 xU.vm h0 x) (fun _ _ bl s _ => s.vm.MethodsKnown ∧ s.vm.FramesKnown bl) (fun _ xU xo xU' => ∃ xv xL, xo = .returned xv ∧ Q_law n0 xv xL ∧ CHr Z consts_1 xU.vm xU.heap xU'.vm xU'.heap ∧ ReturnedEndW xU xo xU' xL room_1.cells room_1.slots) := by
  refine MetFree.of_bodySF (plainFor_of_name pn_com_example_dipper_dipper_store_NotFoundExceptionRoomPinLaw) hisR ?_
  intro pP eE sS mM argS bS methS cC s₁ Bd hml0 hP hK
  obtain ⟨rfl, hZ, hh, hCH, hSf⟩ := hP
  have hx := Bd.exec
  have hby := Bd.bytes
  have hml : cC.maxLocals = 15 := hml0
  have hown : sS.vm.findClass "com/example/dipper/dipper/store/NotFoundExceptionRoomPinLaw" = some mM.cls := findClass_of_methodNamed Bd.named
  have hnm := (name_of_methodNamed Bd.named Bd.method).1
  have X0 : Stand pP l eE room_1 (sS.setVm sS.vm) mM #[(.int p0), (.int p1), (.int p2), (.int p3)] bS methS cC s₁ [] 0 0 := Stand.of_body Bd
  have e0 : s₁.heap = h0 := by rw [← hh, Bd.state]; rfl
  have N0 := Fr.nil n0
  obtain ⟨hTK, hBelow⟩ := hK
  have hZ0 : Z.Warmed39 (sS.setVm sS.vm).vm := hZ
  have hown0 : (sS.setVm sS.vm).vm.findClass "com/example/dipper/dipper/store/NotFoundExceptionRoomPinLaw" = some mM.cls := hown
  have hS0 : sS.Since sS.vm 0 := (State.WarmedH.refl sS).since 0
  have CC0 : CHr Z consts_1 sS.vm h0 sS.vm h0 := CHr.refl hCH
  obtain ⟨T101, h101, X101, e101, E101, A101, D101, B101, st101⟩ := newO X0 hx hZ0 hown0 (wi hw 0 rfl) (wi hw 1 rfl) (wi hw 2 rfl) e0 (g := (mkF mM 144 (Lc_law_3_6 p0 p1 p2 p3) [])) rfl (hb hby at_144) (by decide) (by decide)
  obtain ⟨b101, g101⟩ : ∃ z : Nat, z = h0.size := ⟨_, rfl⟩
  rw [← g101] at A101 D101 B101 st101
  have Sz1 : h0.size ≤ h101.size := E101.1
  have CC1 : CHr Z consts_1 sS.vm h0 sS.vm h101 := CC0.trans (CHr.ext E101 CC0.1)
  have F101_value : Fld Z h101 b101 "java/lang/String" "value" "[B" .null := D101 (Or.inr (wi hw 16 rfl)) (ty := (.array .byte)) (by decide)
  have F101_coder : Fld Z h101 b101 "java/lang/String" "coder" "B" (.int (0 : Int32)) := D101 (Or.inr (wi hw 17 rfl)) (ty := .byte) (by decide)
  obtain ⟨T102, h102, k102, X102, e102, E102, A102, st102⟩ := newP X101 hx hZ0 (wi hw 3 rfl) e101 (g := (mkF mM 149 (Lc_law_3_6 p0 p1 p2 p3) [(.int (3 : Int32)), (.ref b101), (.ref b101)])) rfl (hb hby at_149) rfl (by decide) (cap := 3) (by decide) (by decide) (by decide) (by decide)
  obtain ⟨b102, g102⟩ : ∃ z : Nat, z = h101.size := ⟨_, rfl⟩
  rw [← g102] at A102 st102
  have Sz2 : h101.size ≤ h102.size := E102.1
  have CC2 : CHr Z consts_1 sS.vm h0 sS.vm h102 := CC1.trans (CHr.ext E102 CC1.1)
  have V_b102 : Arv Z h102 b102 k102 .char (3 : Int32) [(.int (0 : Int32)), (.int (0 : Int32)), (.int (0 : Int32))] (.int (0 : Int32)) := (Arv.new A102 (by decide)).pad (pad_rep [] (.int (0 : Int32)) 3)
  obtain ⟨cl103, Ar103, q103, S103, Ng103, Ha103, Ga103⟩ := id V_b102
  have hin103 : ¬ ((0 : Int32) < 0 ∨ cl103.slots.size ≤ ((0 : Int32)).toNatClampNeg) := inb_of S103 ⟨by decide, by decide⟩
  obtain ⟨T104, h104, X104, e104, W104, st104⟩ := stC X102 hx hZ0 e102 Ar103 (j := (0 : Int32)) hin103 (g := (mkF mM 155 (Lc_law_3_6 p0 p1 p2 p3) [(.int (p1 &&& (255 : Int32))), (.int (0 : Int32)), (.ref b102), (.ref b102), (.ref b101), (.ref b101)])) rfl rfl (hb hby at_155)
  have ge105_b102 : @LE.le Nat _ n0 b102 := by omega
  have Sz3 : h102.size ≤ h104.size := Nat.le_of_eq (Wr.size W104).symm
  have sf106_b102 : Safe Z consts_1 sS.vm h102 b102 := Safe.arv (show Z.Warmed39 sS.vm from hZ0).alike V_b102 (by decide)
  have CC3 : CHr Z consts_1 sS.vm h0 sS.vm h104 := CC2.trans (CHr.wr W104 sf106_b102 CC2.1)
  have Vs104 := Arv.set Ar103 q103 S103 Ng103 Ha103 Ga103 (fits_nar_char _) W104 0 rfl (Nat.le_of_ble_eq_true rfl)
  have Vt104 : Arv Z h104 b102 k102 .char (3 : Int32) [(.int (p1 &&& (255 : Int32))), (.int (0 : Int32)), (.int (0 : Int32))] (.int (0 : Int32)) := by
    have q : Arv Z h104 b102 k102 .char (3 : Int32) [(.int (p1 &&& (255 : Int32)).toUInt32.toUInt16.toUInt32.toInt32), (.int (0 : Int32)), (.int (0 : Int32))] (.int (0 : Int32)) := Vs104
    rw [show ((.int (p1 &&& (255 : Int32)).toUInt32.toUInt16.toUInt32.toInt32) : Value) = (.int (p1 &&& (255 : Int32))) from congrArg Value.int (i2c_mask p1)] at q
    exact q
  have N104 := Fr.snoc X104 N0 ge105_b102
  obtain ⟨cl107, Ar107, q107, S107, Ng107, Ha107, Ga107⟩ := id Vt104
  have hin107 : ¬ ((1 : Int32) < 0 ∨ cl107.slots.size ≤ ((1 : Int32)).toNatClampNeg) := inb_of S107 ⟨by decide, by decide⟩
  obtain ⟨T108, h108, X108, e108, W108, st108⟩ := stC X104 hx hZ0 e104 Ar107 (j := (1 : Int32)) hin107 (g := (mkF mM 160 (Lc_law_3_6 p0 p1 p2 p3) [(.int (p2 &&& (255 : Int32))), (.int (1 : Int32)), (.ref b102), (.ref b102), (.ref b101), (.ref b101)])) rfl rfl (hb hby at_160)
  have Sz4 : h104.size ≤ h108.size := Nat.le_of_eq (Wr.size W108).symm
  have sf109_b102 : Safe Z consts_1 sS.vm h104 b102 := Safe.arv (show Z.Warmed39 sS.vm from hZ0).alike Vt104 (by decide)
  have CC4 : CHr Z consts_1 sS.vm h0 sS.vm h108 := CC3.trans (CHr.wr W108 sf109_b102 CC3.1)
  have Vs108 := Arv.set Ar107 q107 S107 Ng107 Ha107 Ga107 (fits_nar_char _) W108 1 rfl (Nat.le_of_ble_eq_true rfl)
  have Vt108 : Arv Z h108 b102 k102 .char (3 : Int32) [(.int (p1 &&& (255 : Int32))), (.int (p2 &&& (255 : Int32))), (.int (0 : Int32))] (.int (0 : Int32)) := by
    have q : Arv Z h108 b102 k102 .char (3 : Int32) [(.int (p1 &&& (255 : Int32))), (.int (p2 &&& (255 : Int32)).toUInt32.toUInt16.toUInt32.toInt32), (.int (0 : Int32))] (.int (0 : Int32)) := Vs108
    rw [show ((.int (p2 &&& (255 : Int32)).toUInt32.toUInt16.toUInt32.toInt32) : Value) = (.int (p2 &&& (255 : Int32))) from congrArg Value.int (i2c_mask p2)] at q
    exact q
  have N108 := Fr.snoc X108 N104 ge105_b102
  obtain ⟨cl110, Ar110, q110, S110, Ng110, Ha110, Ga110⟩ := id Vt108
  have hin110 : ¬ ((2 : Int32) < 0 ∨ cl110.slots.size ≤ ((2 : Int32)).toNatClampNeg) := inb_of S110 ⟨by decide, by decide⟩
  obtain ⟨T111, h111, X111, e111, W111, st111⟩ := stC X108 hx hZ0 e108 Ar110 (j := (2 : Int32)) hin110 (g := (mkF mM 165 (Lc_law_3_6 p0 p1 p2 p3) [(.int (p3 &&& (255 : Int32))), (.int (2 : Int32)), (.ref b102), (.ref b102), (.ref b101), (.ref b101)])) rfl rfl (hb hby at_165)
  have Sz5 : h108.size ≤ h111.size := Nat.le_of_eq (Wr.size W111).symm
  have sf112_b102 : Safe Z consts_1 sS.vm h108 b102 := Safe.arv (show Z.Warmed39 sS.vm from hZ0).alike Vt108 (by decide)
  have CC5 : CHr Z consts_1 sS.vm h0 sS.vm h111 := CC4.trans (CHr.wr W111 sf112_b102 CC4.1)
  have Vs111 := Arv.set Ar110 q110 S110 Ng110 Ha110 Ga110 (fits_nar_char _) W111 2 rfl (Nat.le_of_ble_eq_true rfl)
  have Vt111 : Arv Z h111 b102 k102 .char (3 : Int32) [(.int (p1 &&& (255 : Int32))), (.int (p2 &&& (255 : Int32))), (.int (p3 &&& (255 : Int32)))] (.int (0 : Int32)) := by
    have q : Arv Z h111 b102 k102 .char (3 : Int32) [(.int (p1 &&& (255 : Int32))), (.int (p2 &&& (255 : Int32))), (.int (p3 &&& (255 : Int32)).toUInt32.toUInt16.toUInt32.toInt32)] (.int (0 : Int32)) := Vs111
    rw [show ((.int (p3 &&& (255 : Int32)).toUInt32.toUInt16.toUInt32.toInt32) : Value) = (.int (p3 &&& (255 : Int32))) from congrArg Value.int (i2c_mask p3)] at q
    exact q
  have N111 := Fr.snoc X111 N108 ge105_b102
  have c114_E_b101 : Exa Z h102 b101 "java/lang/String" := Exa.ext E102 A101
  have c115_E_b101 : Exa Z h104 b101 "java/lang/String" := Exa.wr W104 c114_E_b101
  have c116_E_b101 : Exa Z h108 b101 "java/lang/String" := Exa.wr W108 c115_E_b101
  have c117_E_b101 : Exa Z h111 b101 "java/lang/String" := Exa.wr W111 c116_E_b101
  have c118_F_value_b101 : Fld Z h102 b101 "java/lang/String" "value" "[B" .null := Fld.ext E102 F101_value
  have lt_b101 : @LT.lt Nat _ b101 h101.size := A101.lt
  have lt_b102 : @LT.lt Nat _ b102 h102.size := V_b102.lt
  have ne_b101_b102_119 : b101 ≠ b102 := (by omega : @Ne Nat b101 b102)
  have c120_F_value_b101 : Fld Z h104 b101 "java/lang/String" "value" "[B" .null := Fld.other W104 c118_F_value_b101 (Or.inl ne_b101_b102_119)
  have c121_F_value_b101 : Fld Z h108 b101 "java/lang/String" "value" "[B" .null := Fld.other W108 c120_F_value_b101 (Or.inl ne_b101_b102_119)
  have c122_F_value_b101 : Fld Z h111 b101 "java/lang/String" "value" "[B" .null := Fld.other W111 c121_F_value_b101 (Or.inl ne_b101_b102_119)
  have c123_F_coder_b101 : Fld Z h102 b101 "java/lang/String" "coder" "B" (.int (0 : Int32)) := Fld.ext E102 F101_coder
  have c124_F_coder_b101 : Fld Z h104 b101 "java/lang/String" "coder" "B" (.int (0 : Int32)) := Fld.other W104 c123_F_coder_b101 (Or.inl ne_b101_b102_119)
  have c125_F_coder_b101 : Fld Z h108 b101 "java/lang/String" "coder" "B" (.int (0 : Int32)) := Fld.other W108 c124_F_coder_b101 (Or.inl ne_b101_b102_119)
  have c126_F_coder_b101 : Fld Z h111 b101 "java/lang/String" "coder" "B" (.int (0 : Int32)) := Fld.other W111 c125_F_coder_b101 (Or.inl ne_b101_b102_119)
  have c127_OL : Old Z n0 h101 := OL.ext E101
  have c128_OL : Old Z n0 h102 := c127_OL.ext E102
  have c129_OL : Old Z n0 h104 := c128_OL.wr W104 ge105_b102
  have c130_OL : Old Z n0 h108 := c129_OL.wr W108 ge105_b102
  have c131_OL : Old Z n0 h111 := c130_OL.wr W111 ge105_b102
  have ge132_b101 : @LE.le Nat _ n0 b101 := by omega
  obtain ⟨_, _, ⟨T113, L113, k113, n113⟩, -, X113, ⟨Lc113, hQ113, l113, y113, z113⟩, st113⟩ := X111.specialBack hx (y := y39_) rfl hown0 (mvT hZ0 (wi hw 4 rfl)) (mvT hZ0 (wi hw 5 rfl)) (mvT hZ0 (wi hw 6 rfl)) (by decide) (backOf (W := 1) (rm_init1_s3 l Z a0 hw [] b101 b102 k102 .null (.int (0 : Int32)) cs (p1 &&& (255 : Int32)) (p2 &&& (255 : Int32)) (p3 &&& (255 : Int32)) h111 n0 (by omega) c117_E_b101 c122_F_value_b101 c126_F_coder_b101 Vt111 ge132_b101 c131_OL S_COMPACT_STRINGS hcs (own_lim _) (own_lim _) (own_lim _)) hZ0 (wi hw 6 rfl) (wi hw 2 rfl) (by decide) (by decide)) (g := (mkF mM 166 (Lc_law_3_6 p0 p1 p2 p3) [(.ref b102), (.ref b101), (.ref b101)])) rfl (by rw [hml]; rfl) (Steps.refl _) (a := b101) (argsL := [(.ref b102)]) (rest := [(.ref b101)]) (lenOf pd_0 rfl) rfl (by show 2 * 0 + _ ≤ _; exact Nat.le_of_eq rfl) (hb hby at_166) (fun _ _ => ⟨rfl, e111, ble rfl, ble rfl⟩)
  dsimp only [Pt.U, Pt.locs, Pt.cells, Pt.slots] at X113 l113 y113 z113 st113 hQ113
  subst y113 z113
  obtain ⟨h113, e113⟩ : ∃ z, T113.heap = z := ⟨_, rfl⟩
  rw [e113] at hQ113
  obtain ⟨b_113, k2_113, rfl, N113q, Kp113, p113_E_o, p113_F_value_o, p113_F_coder_o, p113_V_b, p113_gh_b⟩ := hQ113
  have Sz6 : h111.size ≤ h113.size := Kp113.1
  have sf133_b101 : Safe Z consts_1 sS.vm h0 b101 := Safe.new (by omega)
  have sf134_b101 : Safe Z consts_1 sS.vm h101 b101 := Safe.ext E101 CC0.1 sf133_b101
  have sf135_b101 : Safe Z consts_1 sS.vm h102 b101 := Safe.ext E102 CC1.1 sf134_b101
  have sf136_b101 : Safe Z consts_1 sS.vm h104 b101 := Safe.wr W104 sf106_b102 CC2.1 sf135_b101
  have sf137_b101 : Safe Z consts_1 sS.vm h108 b101 := Safe.wr W108 sf109_b102 CC3.1 sf136_b101
  have sf138_b101 : Safe Z consts_1 sS.vm h111 b101 := Safe.wr W111 sf112_b102 CC4.1 sf137_b101
  have CC6 : CHr Z consts_1 sS.vm h0 sS.vm h113 := CC5.trans (CHr.keep Kp113 (sfS sf138_b101 sf0) CC5.1)
  have N113 : Fr n0 L113 := by rw [l113]; exact Fr.app N111 N113q
  obtain ⟨T139, h139, k139, X139, e139, E139, A139, st139⟩ := newP X113 hx hZ0 (wi hw 3 rfl) e113 (g := (mkF mM 173 (Lc_law_3_7 p0 p1 p2 p3 b101) [(.int (21 : Int32))])) rfl (hb hby at_173) rfl (by decide) (cap := 21) (by decide) (by decide) (by decide) (by decide)
  obtain ⟨b139, g139⟩ : ∃ z : Nat, z = h113.size := ⟨_, rfl⟩
  rw [← g139] at A139 st139
  have Sz7 : h113.size ≤ h139.size := E139.1
  have CC7 : CHr Z consts_1 sS.vm h0 sS.vm h139 := CC6.trans (CHr.ext E139 CC6.1)
  have V_b139 : Arv Z h139 b139 k139 .char (21 : Int32) [(.int (0 : Int32)), (.int (0 : Int32)), (.int (0 : Int32)), (.int (0 : Int32)), (.int (0 : Int32)), (.int (0 : Int32)), (.int (0 : Int32)), (.int (0 : Int32)), (.int (0 : Int32)), (.int (0 : Int32)), (.int (0 : Int32)), (.int (0 : Int32)), (.int (0 : Int32)), (.int (0 : Int32)), (.int (0 : Int32)), (.int (0 : Int32)), (.int (0 : Int32)), (.int (0 : Int32)), (.int (0 : Int32)), (.int (0 : Int32)), (.int (0 : Int32))] (.int (0 : Int32)) := (Arv.new A139 (by decide)).pad (pad_rep [] (.int (0 : Int32)) 21)
  have ge141_b139 : @LE.le Nat _ n0 b139 := by omega
  obtain ⟨T140, h140, L140, X140, e140, N140, Kp140, p140_V_b, st140⟩ := sg_fill l Z a0 hw b139 k139 _ (.val (.int p0)) (.val (.int p1)) (.val (.int p2)) (.val (.int p3)) (.val (.int (0 : Int32))) (.val (.int (3 : Int32))) (.val (.int (p1 &&& (255 : Int32)))) (.val (.int (p2 &&& (255 : Int32)))) (.val (.int (p3 &&& (255 : Int32)))) (.val (.int (0 : Int32))) (.val (.ref b101)) (.unset) (.unset) (.unset) (.unset) h139 n0 (by omega) hx hby hml hZ0 hown0 X139 e139 N113 (by decide) (by decide) V_b139 ge141_b139 (rfl)
  have Sz8 : h139.size ≤ h140.size := Kp140.1
  have sf142_b139 : Safe Z consts_1 sS.vm h139 b139 := Safe.arv (show Z.Warmed39 sS.vm from hZ0).alike V_b139 (by decide)
  have CC8 : CHr Z consts_1 sS.vm h0 sS.vm h140 := CC7.trans (CHr.keep Kp140 (sfS sf142_b139 sf0) CC7.1)
  have p140_V_b' : Arv Z h140 b139 k139 .char (21 : Int32) [(.int (78 : Int32)), (.int (111 : Int32)), (.int (32 : Int32)), (.int (114 : Int32)), (.int (111 : Int32)), (.int (111 : Int32)), (.int (109 : Int32)), (.int (32 : Int32)), (.int (104 : Int32)), (.int (97 : Int32)), (.int (115 : Int32)), (.int (32 : Int32)), (.int (105 : Int32)), (.int (100 : Int32)), (.int (32 : Int32)), (.int (39 : Int32)), (.int (0 : Int32)), (.int (0 : Int32)), (.int (0 : Int32)), (.int (0 : Int32)), (.int (0 : Int32))] (.int (0 : Int32)) := p140_V_b
  obtain ⟨T143, h143, L143, X143, e143, N143, Kp143, p143_V_b, st143⟩ := sg_fill2 l Z a0 hw b139 k139 _ (p1 &&& (255 : Int32)) (p2 &&& (255 : Int32)) (p3 &&& (255 : Int32)) (0 : Int32) (.val (.int p0)) (.val (.int p1)) (.val (.int p2)) (.val (.int p3)) (.val (.int (0 : Int32))) (.val (.int (3 : Int32))) (.val (.ref b101)) (.unset) (.unset) (.unset) h140 n0 (by omega) hx hby hml hZ0 hown0 X140 e140 N140 (by decide) (by decide) p140_V_b' ge141_b139 (rfl) (i2c_mask p1) (i2c_mask p2) (i2c_mask p3) (by decide)
  have Sz9 : h140.size ≤ h143.size := Kp143.1
  have sf144_b139 : Safe Z consts_1 sS.vm h140 b139 := Safe.arv (show Z.Warmed39 sS.vm from hZ0).alike p140_V_b' (by decide)
  have CC9 : CHr Z consts_1 sS.vm h0 sS.vm h143 := CC8.trans (CHr.keep Kp143 (sfS sf144_b139 sf0) CC8.1)
  have p143_V_b' : Arv Z h143 b139 k139 .char (21 : Int32) [(.int (78 : Int32)), (.int (111 : Int32)), (.int (32 : Int32)), (.int (114 : Int32)), (.int (111 : Int32)), (.int (111 : Int32)), (.int (109 : Int32)), (.int (32 : Int32)), (.int (104 : Int32)), (.int (97 : Int32)), (.int (115 : Int32)), (.int (32 : Int32)), (.int (105 : Int32)), (.int (100 : Int32)), (.int (32 : Int32)), (.int (39 : Int32)), (.int (p1 &&& (255 : Int32))), (.int (p2 &&& (255 : Int32))), (.int (p3 &&& (255 : Int32))), (.int (0 : Int32)), (.int (0 : Int32))] (.int (0 : Int32)) := p143_V_b
  obtain ⟨cl145, Ar145, q145, S145, Ng145, Ha145, Ga145⟩ := id p143_V_b'
  have hin145 : ¬ ((19 : Int32) < 0 ∨ cl145.slots.size ≤ ((19 : Int32)).toNatClampNeg) := inb_of S145 ⟨by decide, by decide⟩
  obtain ⟨T146, h146, X146, e146, W146, st146⟩ := stC X143 hx hZ0 e143 Ar145 (j := (19 : Int32)) hin145 (g := (mkF mM 329 (Lc_law_3_8 p0 p1 p2 p3 b101 b139) [(.int (39 : Int32)), (.int (19 : Int32)), (.ref b139)])) rfl rfl (hb hby at_329)
  have Sz10 : h143.size ≤ h146.size := Nat.le_of_eq (Wr.size W146).symm
  have sf147_b139 : Safe Z consts_1 sS.vm h143 b139 := Safe.arv (show Z.Warmed39 sS.vm from hZ0).alike p143_V_b' (by decide)
  have CC10 : CHr Z consts_1 sS.vm h0 sS.vm h146 := CC9.trans (CHr.wr W146 sf147_b139 CC9.1)
  have Vs146 := Arv.set Ar145 q145 S145 Ng145 Ha145 Ga145 (fits_nar_char _) W146 19 rfl (Nat.le_of_ble_eq_true rfl)
  have Vt146 : Arv Z h146 b139 k139 .char (21 : Int32) [(.int (78 : Int32)), (.int (111 : Int32)), (.int (32 : Int32)), (.int (114 : Int32)), (.int (111 : Int32)), (.int (111 : Int32)), (.int (109 : Int32)), (.int (32 : Int32)), (.int (104 : Int32)), (.int (97 : Int32)), (.int (115 : Int32)), (.int (32 : Int32)), (.int (105 : Int32)), (.int (100 : Int32)), (.int (32 : Int32)), (.int (39 : Int32)), (.int (p1 &&& (255 : Int32))), (.int (p2 &&& (255 : Int32))), (.int (p3 &&& (255 : Int32))), (.int (39 : Int32)), (.int (0 : Int32))] (.int (0 : Int32)) := Vs146
  have N146 := Fr.snoc X146 N143 ge141_b139
  have c149_E_b101 : Exa Z h139 b101 "java/lang/String" := Exa.ext E139 p113_E_o
  have c150_E_b101 : Exa Z h140 b101 "java/lang/String" := c149_E_b101.keep Kp140
  have c151_E_b101 : Exa Z h143 b101 "java/lang/String" := c150_E_b101.keep Kp143
  have c152_E_b101 : Exa Z h146 b101 "java/lang/String" := Exa.wr W146 c151_E_b101
  have c153_F_value_b101 : Fld Z h139 b101 "java/lang/String" "value" "[B" (.ref b_113) := Fld.ext E139 p113_F_value_o
  have lt_b139 : @LT.lt Nat _ b139 h139.size := V_b139.lt
  have ne_b101_b139_154 : b101 ≠ b139 := (by omega : @Ne Nat b101 b139)
  have c155_F_value_b101 : Fld Z h140 b101 "java/lang/String" "value" "[B" (.ref b_113) := c153_F_value_b101.keep Kp140 (ninS ne_b101_b139_154 nin0)
  have c156_F_value_b101 : Fld Z h143 b101 "java/lang/String" "value" "[B" (.ref b_113) := c155_F_value_b101.keep Kp143 (ninS ne_b101_b139_154 nin0)
  have c157_F_value_b101 : Fld Z h146 b101 "java/lang/String" "value" "[B" (.ref b_113) := Fld.other W146 c156_F_value_b101 (Or.inl ne_b101_b139_154)
  have c158_F_coder_b101 : Fld Z h139 b101 "java/lang/String" "coder" "B" (.int (0 : Int32)) := Fld.ext E139 p113_F_coder_o
  have c159_F_coder_b101 : Fld Z h140 b101 "java/lang/String" "coder" "B" (.int (0 : Int32)) := c158_F_coder_b101.keep Kp140 (ninS ne_b101_b139_154 nin0)
  have c160_F_coder_b101 : Fld Z h143 b101 "java/lang/String" "coder" "B" (.int (0 : Int32)) := c159_F_coder_b101.keep Kp143 (ninS ne_b101_b139_154 nin0)
  have c161_F_coder_b101 : Fld Z h146 b101 "java/lang/String" "coder" "B" (.int (0 : Int32)) := Fld.other W146 c160_F_coder_b101 (Or.inl ne_b101_b139_154)
  have c162_V_b_113 : Arv Z h139 b_113 k2_113 .byte (3 : Int32) [(.int (p1 &&& (255 : Int32)).toInt8.toInt32), (.int (p2 &&& (255 : Int32)).toInt8.toInt32), (.int (p3 &&& (255 : Int32)).toInt8.toInt32)] (.int (0 : Int32)) := p113_V_b.ext E139
  have lt_b_113 : @LT.lt Nat _ b_113 h113.size := p113_V_b.lt
  have ne_b_113_b139_163 : b_113 ≠ b139 := (by omega : @Ne Nat b_113 b139)
  have c164_V_b_113 : Arv Z h140 b_113 k2_113 .byte (3 : Int32) [(.int (p1 &&& (255 : Int32)).toInt8.toInt32), (.int (p2 &&& (255 : Int32)).toInt8.toInt32), (.int (p3 &&& (255 : Int32)).toInt8.toInt32)] (.int (0 : Int32)) := c162_V_b_113.keep Kp140 (ninS ne_b_113_b139_163 nin0)
  have c165_V_b_113 : Arv Z h143 b_113 k2_113 .byte (3 : Int32) [(.int (p1 &&& (255 : Int32)).toInt8.toInt32), (.int (p2 &&& (255 : Int32)).toInt8.toInt32), (.int (p3 &&& (255 : Int32)).toInt8.toInt32)] (.int (0 : Int32)) := c164_V_b_113.keep Kp143 (ninS ne_b_113_b139_163 nin0)
  have c166_V_b_113 : Arv Z h146 b_113 k2_113 .byte (3 : Int32) [(.int (p1 &&& (255 : Int32)).toInt8.toInt32), (.int (p2 &&& (255 : Int32)).toInt8.toInt32), (.int (p3 &&& (255 : Int32)).toInt8.toInt32)] (.int (0 : Int32)) := c165_V_b_113.other W146 ne_b_113_b139_163
  have c167_OL : Old Z n0 h113 := c131_OL.keep Kp113 (allS ge132_b101 all0)
  have c168_OL : Old Z n0 h139 := c167_OL.ext E139
  have c169_OL : Old Z n0 h140 := c168_OL.keep Kp140 (allS ge141_b139 all0)
  have c170_OL : Old Z n0 h143 := c169_OL.keep Kp143 (allS ge141_b139 all0)
  have c171_OL : Old Z n0 h146 := c170_OL.wr W146 ge141_b139
  have c172_TH : ThS Z h101 := ThS.ext E101 TH
  have c173_TH : ThS Z h102 := ThS.ext E102 c172_TH
  have c174_TH : ThS Z h104 := ThS.wr W104 c173_TH
  have c175_TH : ThS Z h108 := ThS.wr W108 c174_TH
  have c176_TH : ThS Z h111 := ThS.wr W111 c175_TH
  have c177_TH : ThS Z h113 := ThS.keep Kp113 (nsS (Exa.nostat c117_E_b101) ns0) c176_TH
  have c178_TH : ThS Z h139 := ThS.ext E139 c177_TH
  have c179_TH : ThS Z h140 := ThS.keep Kp140 (nsS (Arv.nostat V_b139) ns0) c178_TH
  have c180_TH : ThS Z h143 := ThS.keep Kp143 (nsS (Arv.nostat p140_V_b') ns0) c179_TH
  have c181_TH : ThS Z h146 := ThS.wr W146 c180_TH
  obtain ⟨_, _, ⟨T148, L148, k148, n148⟩, -, X148, hs148, hg148, ⟨Lc148, hQ148, l148, y148, z148, Ch148⟩, st148⟩ := callSS X146 hx (y := y46_) hown0 (mvT hZ0 (wi hw 22 rfl)) (mvT hZ0 (wi hw 23 rfl)) (mvT hZ0 (wi hw 24 rfl)) (mvT hZ0 (wi hw 25 rfl)) (by decide) (backCH (W := 0) (rm_room_some l Z a0 hw [] b101 b_113 k2_113 3 _ ua sa cs h146 n0 (by omega) c152_E_b101 c157_F_value_b101 c161_F_coder_b101 c166_V_b_113 (rfl) (by decide) c171_OL c181_TH S_UNASSIGNED_STACK S_SUPPRESSED_SENTINEL hl S_COMPACT_STRINGS hcs) hZ0 (wi hw 25 rfl) (wi hw 24 rfl) (by decide) (by decide) (own_EW hw) CC10.1 cs0 (fun _ _ _ _ _ _ _ Y hg => known_frames Y hg (Vm.MethodsKnown.alikeC hS0.1.alike hTK) (Vm.FramesKnown.alikeC hS0.1.alike hBelow))) (g := (mkF mM 339 (Lc_law_3_9 p0 p1 p2 p3 b101 b139) [(.ref b101)])) rfl (by rw [hml]; rfl) (argsL := [(.ref b101)]) (rest := []) (lenOf pd_3 rfl) rfl (by show 2 * 0 + _ ≤ _; exact Nat.le_of_eq rfl) (hb hby at_339) (fun _ _ => ⟨rfl, e146, ble rfl, ble rfl⟩)
  dsimp only [Pt.U, Pt.locs, Pt.cells, Pt.slots] at X148 l148 y148 z148 st148 hQ148 hs148 hg148 Ch148
  subst y148 z148
  obtain ⟨X148', hS148, hZ148, hown148⟩ := rebS hS0 (by rw [e146]; omega) X148 hs148 hg148 hZ0 hown0
  obtain ⟨h148, e148⟩ : ∃ z, T148.heap = z := ⟨_, rfl⟩
  rw [e148] at hQ148 hS148 Ch148
  obtain ⟨x_148, m_148, mb_148, mk_148, rfl, N148q, Kp148, p148_E_x, p148_F_detailMessage_x, p148_E_m, p148_F_value_m, p148_F_coder_m, p148_V_mb⟩ := hQ148
  have Sz11 : h146.size ≤ h148.size := Kp148.1
  have CC11 : CHr Z consts_1 sS.vm h0 T148.vm h148 := CC10.trans Ch148
  have N148 : Fr n0 L148 := by rw [l148]; exact Fr.app N146 N148q
  obtain ⟨cq182, kq182, q182a, q182b, q182c⟩ := isOf hZ148 e148 p148_E_x
  obtain ⟨_, _, ⟨T182, L182, k182, n182⟩, -, X182, ⟨Lc182, hQ182, l182, y182, z182⟩, st182⟩ := X148'.virtualBackUp hx (x := y47_) (y := y44_) (owner := "java/lang/Throwable") hown148 (mvT hZ148 (wi hw 215 rfl)) (mvT hZ148 (wi hw 216 rfl)) (mvT hZ148 (wi hw 217 rfl)) (by decide) (mvT hZ148 (wi hw 219 rfl)) (mvT hZ148 (wi hw 218 rfl)) (backOf (W := 0) (rm_getMsg l Z a0 hw [] x_148 m_148 h148 n0 (by omega) p148_F_detailMessage_x) hZ148 (wi hw 220 rfl) (wi hw 176 rfl) (by decide) (by decide)) q182a q182c (g := (mkF mM 353 (Lc_law_3_10 p0 p1 p2 p3 b101 b139 x_148) [(.ref x_148)])) rfl (by rw [hml]; rfl) (Steps.refl _) (argsL := []) (rest := []) (lenOf pd_17 rfl) rfl (by show 2 * 0 + _ ≤ _; exact Nat.le_of_eq rfl) (hb hby at_353) (fun _ _ => ⟨rfl, e148, ble rfl, ble rfl⟩)
  dsimp only [Pt.U, Pt.locs, Pt.cells, Pt.slots] at X182 l182 y182 z182 st182 hQ182
  subst y182 z182
  obtain ⟨h182, e182⟩ : ∃ z, T182.heap = z := ⟨_, rfl⟩
  rw [e182] at hQ182
  obtain ⟨rfl, N182q, eq182⟩ := hQ182
  rw [eq182] at e182
  have N182 : Fr n0 L182 := by rw [l182]; exact Fr.app N148 N182q
  have c184_OL : Old Z n0 h148 := c171_OL.keep Kp148 all0
  obtain ⟨cq183, kq183, q183a, q183b, q183c⟩ := isOf hZ148 e182 p148_E_m
  obtain ⟨_, _, ⟨T183, L183, k183, n183⟩, -, X183, ⟨Lc183, hQ183, l183, y183, z183⟩, st183⟩ := X182.virtualBack hx (y := y1_) (z := y1_) hown148 (mvT hZ148 (wi hw 221 rfl)) (mvT hZ148 (wi hw 58 rfl)) (notFace_of_selects (args := #[]) (mvT hZ148 (wi hw 60 rfl))) (mvT hZ148 (wi hw 60 rfl)) (mvT hZ148 (wi hw 59 rfl)) (by decide) (backOf (W := 0) (rm_length l Z a0 hw [] m_148 mb_148 mk_148 (((0 + 16) + 3) + 1) _ cs h148 n0 (by omega) p148_E_m p148_F_value_m p148_F_coder_m p148_V_mb c184_OL S_COMPACT_STRINGS hcs) hZ148 (wi hw 61 rfl) (wi hw 2 rfl) (by decide) (by decide)) q183a q183c (g := (mkF mM 365 (Lc_law_3_11 p0 p1 p2 p3 b101 b139 x_148 m_148) [(.ref m_148)])) rfl (by rw [hml]; rfl) (Steps.refl _) (argsL := []) (rest := []) (lenOf pd_7 rfl) rfl (by show 2 * 0 + _ ≤ _; exact Nat.le_of_eq rfl) (hb hby at_365) (fun _ _ => ⟨rfl, e182, ble rfl, ble rfl⟩)
  dsimp only [Pt.U, Pt.locs, Pt.cells, Pt.slots] at X183 l183 y183 z183 st183 hQ183
  subst y183 z183
  obtain ⟨h183, e183⟩ : ∃ z, T183.heap = z := ⟨_, rfl⟩
  rw [e183] at hQ183
  obtain ⟨rfl, N183q, eq183⟩ := hQ183
  rw [eq183] at e183
  have N183 : Fr n0 L183 := by rw [l183]; exact Fr.app N182 N183q
  have c186_V_b139 : Arv Z h148 b139 k139 .char (21 : Int32) [(.int (78 : Int32)), (.int (111 : Int32)), (.int (32 : Int32)), (.int (114 : Int32)), (.int (111 : Int32)), (.int (111 : Int32)), (.int (109 : Int32)), (.int (32 : Int32)), (.int (104 : Int32)), (.int (97 : Int32)), (.int (115 : Int32)), (.int (32 : Int32)), (.int (105 : Int32)), (.int (100 : Int32)), (.int (32 : Int32)), (.int (39 : Int32)), (.int (p1 &&& (255 : Int32))), (.int (p2 &&& (255 : Int32))), (.int (p3 &&& (255 : Int32))), (.int (39 : Int32)), (.int (0 : Int32))] (.int (0 : Int32)) := Vt146.keep Kp148 nin0
  obtain ⟨T185, L185, X185, e185, N185, st185⟩ := sg_ats l Z a0 hw m_148 mb_148 mk_148 (iN (((0 + 16) + 3) + 1)) _ b139 k139 _ (20 : Int32) fo cs (.val (.int p0)) (.val (.int p1)) (.val (.int p2)) (.val (.int p3)) (.val (.int (0 : Int32))) (.val (.int (3 : Int32))) (.val (.int (p1 &&& (255 : Int32)))) (.val (.int (p2 &&& (255 : Int32)))) (.val (.int (p3 &&& (255 : Int32)))) (.val (.int (0 : Int32))) (.val (.ref b101)) (.val (.ref x_148)) h148 n0 (by omega) hx hby hml hZ148 hown148 X183 e183 N183 (by decide) (by decide) p148_E_m p148_F_value_m p148_F_coder_m p148_V_mb c186_V_b139 hfo c184_OL S_SIOOBE_FORMATTER S_COMPACT_STRINGS hcs (Or.inr ⟨by decide, by decide, by decide, by decide, (78 : Int32), (78 : Int32), rfl, rfl, by decide⟩) (Or.inr ⟨by decide, by decide, by decide, by decide, (111 : Int32), (111 : Int32), rfl, rfl, by decide⟩) (Or.inr ⟨by decide, by decide, by decide, by decide, (32 : Int32), (32 : Int32), rfl, rfl, by decide⟩) (Or.inr ⟨by decide, by decide, by decide, by decide, (114 : Int32), (114 : Int32), rfl, rfl, by decide⟩) (Or.inr ⟨by decide, by decide, by decide, by decide, (111 : Int32), (111 : Int32), rfl, rfl, by decide⟩) (Or.inr ⟨by decide, by decide, by decide, by decide, (111 : Int32), (111 : Int32), rfl, rfl, by decide⟩) (Or.inr ⟨by decide, by decide, by decide, by decide, (109 : Int32), (109 : Int32), rfl, rfl, by decide⟩) (Or.inr ⟨by decide, by decide, by decide, by decide, (32 : Int32), (32 : Int32), rfl, rfl, by decide⟩) (Or.inr ⟨by decide, by decide, by decide, by decide, (104 : Int32), (104 : Int32), rfl, rfl, by decide⟩) (Or.inr ⟨by decide, by decide, by decide, by decide, (97 : Int32), (97 : Int32), rfl, rfl, by decide⟩) (Or.inr ⟨by decide, by decide, by decide, by decide, (115 : Int32), (115 : Int32), rfl, rfl, by decide⟩) (Or.inr ⟨by decide, by decide, by decide, by decide, (32 : Int32), (32 : Int32), rfl, rfl, by decide⟩) (Or.inr ⟨by decide, by decide, by decide, by decide, (105 : Int32), (105 : Int32), rfl, rfl, by decide⟩) (Or.inr ⟨by decide, by decide, by decide, by decide, (100 : Int32), (100 : Int32), rfl, rfl, by decide⟩) (Or.inr ⟨by decide, by decide, by decide, by decide, (32 : Int32), (32 : Int32), rfl, rfl, by decide⟩) (Or.inr ⟨by decide, by decide, by decide, by decide, (39 : Int32), (39 : Int32), rfl, rfl, by decide⟩) (Or.inr ⟨by decide, by decide, by decide, by decide, (p1 &&& (255 : Int32)).toInt8.toInt32, (p1 &&& (255 : Int32)), rfl, rfl, own_rt p1⟩) (Or.inr ⟨by decide, by decide, by decide, by decide, (p2 &&& (255 : Int32)).toInt8.toInt32, (p2 &&& (255 : Int32)), rfl, rfl, own_rt p2⟩) (Or.inr ⟨by decide, by decide, by decide, by decide, (p3 &&& (255 : Int32)).toInt8.toInt32, (p3 &&& (255 : Int32)), rfl, rfl, own_rt p3⟩) (Or.inr ⟨by decide, by decide, by decide, by decide, (39 : Int32), (39 : Int32), rfl, rfl, by decide⟩) (Or.inl (by decide))
  obtain ⟨fs, hr, hrun, hended, hE⟩ := Stand.leaveW (s := sS) X185 hS148 (by rw [e185]; omega) (v := some (.int (1 : Int32))) (fun h => by rw [Bd.returns] at h; cases h)
  refine ⟨_, _, castTop (ef_law_3 mM p0 p1 p2 p3 ua sa cs fo) ?_, hrun, hended, _, _, rfl, ?_, ?_, hE.1, hE.2.1, hE.2.2.1, hE.2.2.2.mono (by decide) (by decide)⟩
  · show SS pP eE bS s₁ (mkF mM 0 (Lc_law_3_0 p0 p1 p2 p3) []) _
    refine XS.iloadN X0.here hx rfl (hb hby at_0) rfl ?_
    refine XS.iconst X0.here hx rfl (hb hby at_1) ?_
    refine XS.ishr X0.here hx rfl (hb hby at_2) rfl ?_
    refine XS.iconst X0.here hx rfl (hb hby at_3) ?_
    show SS pP eE bS s₁ (mkF mM 4 (Lc_law_3_0 p0 p1 p2 p3) [(.int (1 : Int32)), (.int (p0 >>> ((2 : Int32) &&& 31)))]) _
    refine XS.iand X0.here hx rfl (hb hby at_4) rfl ?_
    show SS pP eE bS s₁ (mkF mM 5 (Lc_law_3_0 p0 p1 p2 p3) [(.int ((p0 >>> ((2 : Int32) &&& 31)) &&& (1 : Int32)))]) _
    rw [show ((p0 >>> ((2 : Int32) &&& 31)) &&& (1 : Int32)) = (0 : Int32) from hz0]
    refine XS.ifYes X0.here hx rfl (pc0 := 5) (pc' := 12) rfl (hb hby at_5) rfl ((if0 _ _).trans (teq (by decide : (0 : Int32) = (0 : Int32))).1) (by decide) (by decide) ?_
    refine XS.iconst X0.here hx rfl (hb hby at_12) ?_
    refine XS.istore X0.here hx rfl (hb hby at_13) rfl (l' := (Lc_law_3_1 p0 p1 p2 p3)) rfl ?_
    show SS pP eE bS s₁ (mkF mM 15 (Lc_law_3_1 p0 p1 p2 p3) []) _
    refine XS.iloadN X0.here hx rfl (hb hby at_15) rfl ?_
    refine XS.iconst X0.here hx rfl (hb hby at_16) ?_
    refine XS.iand X0.here hx rfl (hb hby at_17) rfl ?_
    show SS pP eE bS s₁ (mkF mM 18 (Lc_law_3_1 p0 p1 p2 p3) [(.int (p0 &&& (3 : Int32)))]) _
    rw [show (p0 &&& (3 : Int32)) = (3 : Int32) from hn0]
    refine XS.istore X0.here hx rfl (hb hby at_18) rfl (l' := (Lc_law_3_2 p0 p1 p2 p3)) rfl ?_
    refine XS.iloadN X0.here hx rfl (hb hby at_20) rfl ?_
    refine XS.sipush X0.here hx rfl (hb hby at_21) ?_
    show SS pP eE bS s₁ (mkF mM 24 (Lc_law_3_2 p0 p1 p2 p3) [(.int (255 : Int32)), (.int p1)]) _
    refine XS.iand X0.here hx rfl (hb hby at_24) rfl ?_
    refine XS.i2c X0.here hx rfl (hb hby at_25) rfl ?_
    show SS pP eE bS s₁ (mkF mM 26 (Lc_law_3_2 p0 p1 p2 p3) [(.int ((p1 &&& (255 : Int32)).toUInt32.toUInt16.toUInt32.toInt32))]) _
    rw [show ((p1 &&& (255 : Int32)).toUInt32.toUInt16.toUInt32.toInt32) = (p1 &&& (255 : Int32)) from i2c_mask p1]
    refine XS.istore X0.here hx rfl (hb hby at_26) rfl (l' := (Lc_law_3_3 p0 p1 p2 p3)) rfl ?_
    refine XS.iloadN X0.here hx rfl (hb hby at_28) rfl ?_
    refine XS.sipush X0.here hx rfl (hb hby at_29) ?_
    show SS pP eE bS s₁ (mkF mM 32 (Lc_law_3_3 p0 p1 p2 p3) [(.int (255 : Int32)), (.int p2)]) _
    refine XS.iand X0.here hx rfl (hb hby at_32) rfl ?_
    refine XS.i2c X0.here hx rfl (hb hby at_33) rfl ?_
    show SS pP eE bS s₁ (mkF mM 34 (Lc_law_3_3 p0 p1 p2 p3) [(.int ((p2 &&& (255 : Int32)).toUInt32.toUInt16.toUInt32.toInt32))]) _
    rw [show ((p2 &&& (255 : Int32)).toUInt32.toUInt16.toUInt32.toInt32) = (p2 &&& (255 : Int32)) from i2c_mask p2]
    refine XS.istore X0.here hx rfl (hb hby at_34) rfl (l' := (Lc_law_3_4 p0 p1 p2 p3)) rfl ?_
    refine XS.iloadN X0.here hx rfl (hb hby at_36) rfl ?_
    refine XS.sipush X0.here hx rfl (hb hby at_37) ?_
    show SS pP eE bS s₁ (mkF mM 40 (Lc_law_3_4 p0 p1 p2 p3) [(.int (255 : Int32)), (.int p3)]) _
    refine XS.iand X0.here hx rfl (hb hby at_40) rfl ?_
    refine XS.i2c X0.here hx rfl (hb hby at_41) rfl ?_
    show SS pP eE bS s₁ (mkF mM 42 (Lc_law_3_4 p0 p1 p2 p3) [(.int ((p3 &&& (255 : Int32)).toUInt32.toUInt16.toUInt32.toInt32))]) _
    rw [show ((p3 &&& (255 : Int32)).toUInt32.toUInt16.toUInt32.toInt32) = (p3 &&& (255 : Int32)) from i2c_mask p3]
    refine XS.istore X0.here hx rfl (hb hby at_42) rfl (l' := (Lc_law_3_5 p0 p1 p2 p3)) rfl ?_
    refine XS.iconst X0.here hx rfl (hb hby at_44) ?_
    refine XS.istore X0.here hx rfl (hb hby at_45) rfl (l' := (Lc_law_3_6 p0 p1 p2 p3)) rfl ?_
    show SS pP eE bS s₁ (mkF mM 47 (Lc_law_3_6 p0 p1 p2 p3) []) _
    refine XS.iload X0.here hx rfl (hb hby at_47) rfl ?_
    refine XS.ifYes X0.here hx rfl (pc0 := 49) (pc' := 77) rfl (hb hby at_49) rfl ((if0 _ _).trans (teq (by decide : (0 : Int32) = (0 : Int32))).1) (by decide) (by decide) ?_
    refine XS.iload X0.here hx rfl (hb hby at_77) rfl ?_
    refine XS.ifYes X0.here hx rfl (pc0 := 79) (pc' := 97) rfl (hb hby at_79) rfl ((if0 _ _).trans (feq (by decide : ¬ ((3 : Int32) = (0 : Int32)))).2) (by decide) (by decide) ?_
    show SS pP eE bS s₁ (mkF mM 97 (Lc_law_3_6 p0 p1 p2 p3) []) _
    refine XS.iload X0.here hx rfl (hb hby at_97) rfl ?_
    refine XS.iconst X0.here hx rfl (hb hby at_99) ?_
    refine XS.icmpYes X0.here hx rfl (pc0 := 100) (pc' := 113) rfl (hb hby at_100) rfl (feq (by decide : ¬ ((3 : Int32) = (1 : Int32)))).2 (by decide) (by decide) ?_
    refine XS.iload X0.here hx rfl (hb hby at_113) rfl ?_
    show SS pP eE bS s₁ (mkF mM 115 (Lc_law_3_6 p0 p1 p2 p3) [(.int (3 : Int32))]) _
    refine XS.iconst X0.here hx rfl (hb hby at_115) ?_
    refine XS.icmpYes X0.here hx rfl (pc0 := 116) (pc' := 144) rfl (hb hby at_116) rfl (feq (by decide : ¬ ((3 : Int32) = (2 : Int32)))).2 (by decide) (by decide) ?_
    show SS pP eE bS s₁ (mkF mM 144 (Lc_law_3_6 p0 p1 p2 p3) []) _
    refine st101 _ ?_
    show SS pP eE bS T101 (mkF mM 147 (Lc_law_3_6 p0 p1 p2 p3) [(.ref b101)]) _
    refine XS.dup X101.here hx rfl (hb hby at_147) rfl rfl ?_
    refine XS.iconst X101.here hx rfl (hb hby at_148) ?_
    show SS pP eE bS T101 (mkF mM 149 (Lc_law_3_6 p0 p1 p2 p3) [(.int (3 : Int32)), (.ref b101), (.ref b101)]) _
    refine st102 _ ?_
    show SS pP eE bS T102 (mkF mM 151 (Lc_law_3_6 p0 p1 p2 p3) [(.ref b102), (.ref b101), (.ref b101)]) _
    refine XS.dup X102.here hx rfl (hb hby at_151) rfl rfl ?_
    refine XS.iconst X102.here hx rfl (hb hby at_152) ?_
    refine XS.iload X102.here hx rfl (hb hby at_153) rfl ?_
    show SS pP eE bS T102 (mkF mM 155 (Lc_law_3_6 p0 p1 p2 p3) [(.int (p1 &&& (255 : Int32))), (.int (0 : Int32)), (.ref b102), (.ref b102), (.ref b101), (.ref b101)]) _
    refine st104 _ ?_
    show SS pP eE bS T104 (mkF mM 156 (Lc_law_3_6 p0 p1 p2 p3) [(.ref b102), (.ref b101), (.ref b101)]) _
    refine XS.dup X104.here hx rfl (hb hby at_156) rfl rfl ?_
    refine XS.iconst X104.here hx rfl (hb hby at_157) ?_
    refine XS.iload X104.here hx rfl (hb hby at_158) rfl ?_
    show SS pP eE bS T104 (mkF mM 160 (Lc_law_3_6 p0 p1 p2 p3) [(.int (p2 &&& (255 : Int32))), (.int (1 : Int32)), (.ref b102), (.ref b102), (.ref b101), (.ref b101)]) _
    refine st108 _ ?_
    show SS pP eE bS T108 (mkF mM 161 (Lc_law_3_6 p0 p1 p2 p3) [(.ref b102), (.ref b101), (.ref b101)]) _
    refine XS.dup X108.here hx rfl (hb hby at_161) rfl rfl ?_
    refine XS.iconst X108.here hx rfl (hb hby at_162) ?_
    refine XS.iload X108.here hx rfl (hb hby at_163) rfl ?_
    show SS pP eE bS T108 (mkF mM 165 (Lc_law_3_6 p0 p1 p2 p3) [(.int (p3 &&& (255 : Int32))), (.int (2 : Int32)), (.ref b102), (.ref b102), (.ref b101), (.ref b101)]) _
    refine st111 _ ?_
    show SS pP eE bS T111 (mkF mM 166 (Lc_law_3_6 p0 p1 p2 p3) [(.ref b102), (.ref b101), (.ref b101)]) _
    refine st113.trans ?_
    show SS pP eE bS T113 (mkF mM 169 (Lc_law_3_6 p0 p1 p2 p3) [(.ref b101)]) _
    refine XS.astore X113.here hx rfl (hb hby at_169) rfl rfl (l' := (Lc_law_3_7 p0 p1 p2 p3 b101)) rfl ?_
    refine XS.bipush X113.here hx rfl (hb hby at_171) ?_
    show SS pP eE bS T113 (mkF mM 173 (Lc_law_3_7 p0 p1 p2 p3 b101) [(.int (21 : Int32))]) _
    refine st139 _ ?_
    show SS pP eE bS T139 (mkF mM 175 (Lc_law_3_7 p0 p1 p2 p3 b101) [(.ref b139)]) _
    refine st140 _ ?_
    refine XS.astore X140.here hx rfl (hb hby at_290) rfl rfl (l' := (Lc_law_3_8 p0 p1 p2 p3 b101 b139)) rfl ?_
    refine st143 _ ?_
    refine XS.aload X143.here hx rfl (hb hby at_320) rfl rfl ?_
    show SS pP eE bS T143 (mkF mM 322 (Lc_law_3_8 p0 p1 p2 p3 b101 b139) [(.ref b139)]) _
    refine XS.bipush X143.here hx rfl (hb hby at_322) ?_
    refine XS.iload X143.here hx rfl (hb hby at_324) rfl ?_
    refine XS.iadd X143.here hx rfl (hb hby at_326) rfl ?_
    refine XS.bipush X143.here hx rfl (hb hby at_327) ?_
    show SS pP eE bS T143 (mkF mM 329 (Lc_law_3_8 p0 p1 p2 p3 b101 b139) [(.int (39 : Int32)), (.int (19 : Int32)), (.ref b139)]) _
    refine st146 _ ?_
    show SS pP eE bS T146 (mkF mM 330 (Lc_law_3_8 p0 p1 p2 p3 b101 b139) []) _
    refine XS.bipush X146.here hx rfl (hb hby at_330) ?_
    refine XS.iload X146.here hx rfl (hb hby at_332) rfl ?_
    refine XS.iadd X146.here hx rfl (hb hby at_334) rfl ?_
    refine XS.istore X146.here hx rfl (hb hby at_335) rfl (l' := (Lc_law_3_9 p0 p1 p2 p3 b101 b139)) rfl ?_
    show SS pP eE bS T146 (mkF mM 337 (Lc_law_3_9 p0 p1 p2 p3 b101 b139) []) _
    refine XS.aload X146.here hx rfl (hb hby at_337) rfl rfl ?_
    show SS pP eE bS T146 (mkF mM 339 (Lc_law_3_9 p0 p1 p2 p3 b101 b139) [(.ref b101)]) _
    refine st148.trans ?_
    show SS pP eE bS T148 (mkF mM 342 (Lc_law_3_9 p0 p1 p2 p3 b101 b139) [(.ref x_148)]) _
    refine XS.astore X148'.here hx rfl (hb hby at_342) rfl rfl (l' := (Lc_law_3_10 p0 p1 p2 p3 b101 b139 x_148)) rfl ?_
    refine XS.aload X148'.here hx rfl (hb hby at_344) rfl rfl ?_
    refine XS.ifnonnullYes X148'.here hx rfl (pc0 := 346) (pc' := 351) rfl (hb hby at_346) rfl (by decide) (by decide) ?_
    refine XS.aload X148'.here hx rfl (hb hby at_351) rfl rfl ?_
    show SS pP eE bS T148 (mkF mM 353 (Lc_law_3_10 p0 p1 p2 p3 b101 b139 x_148) [(.ref x_148)]) _
    refine st182.trans ?_
    show SS pP eE bS T182 (mkF mM 356 (Lc_law_3_10 p0 p1 p2 p3 b101 b139 x_148) [(.ref m_148)]) _
    refine XS.astore X182.here hx rfl (hb hby at_356) rfl rfl (l' := (Lc_law_3_11 p0 p1 p2 p3 b101 b139 x_148 m_148)) rfl ?_
    refine XS.aload X182.here hx rfl (hb hby at_358) rfl rfl ?_
    refine XS.ifnullNo X182.here hx rfl (hb hby at_360) rfl ?_
    refine XS.aload X182.here hx rfl (hb hby at_363) rfl rfl ?_
    show SS pP eE bS T182 (mkF mM 365 (Lc_law_3_11 p0 p1 p2 p3 b101 b139 x_148 m_148) [(.ref m_148)]) _
    refine st183.trans ?_
    show SS pP eE bS T183 (mkF mM 368 (Lc_law_3_11 p0 p1 p2 p3 b101 b139 x_148 m_148) [(.int (iN (((0 + 16) + 3) + 1)))]) _
    refine XS.iload X183.here hx rfl (hb hby at_368) rfl ?_
    refine XS.icmpYes X183.here hx rfl (pc0 := 370) (pc' := 375) rfl (hb hby at_370) rfl (teq (by decide : (iN (((0 + 16) + 3) + 1)) = (20 : Int32))).1 (by decide) (by decide) ?_
    refine st185 _ ?_
    refine XS.iconst X185.here hx rfl (hb hby at_663) ?_
    show SS pP eE bS T185 (mkF mM 664 (Lc_law_3_11 p0 p1 p2 p3 b101 b139 x_148 m_148) [(.int (1 : Int32))]) _
    refine XS.goto X185.here hx rfl (pc0 := 664) (pc' := 668) rfl (hb hby at_664) (by decide) (by decide) ?_
    show SS pP eE bS T185 (mkF mM 668 (Lc_law_3_11 p0 p1 p2 p3 b101 b139 x_148 m_148) [(.int (1 : Int32))]) _
    exact retN X185 hx (t := .boolean) Bd.returns (by simp) (hb hby at_668) hr
  · exact ⟨rfl, N185⟩
  · show CHr Z consts_1 sS.vm sS.heap T185.vm T185.heap
    rw [hh, e185]
    exact CC11.trans (CHv.at X185 hZ148 (own_EW hw) CC11.1)
-- MARK lw4
abbrev Lc_law_4_0 (p0 : Int32) (p1 : Int32) (p2 : Int32) (p3 : Int32) : Array Slot := #[.val (.int p0), .val (.int p1), .val (.int p2), .val (.int p3), .unset, .unset, .unset, .unset, .unset, .unset, .unset, .unset, .unset, .unset, .unset]
abbrev Lc_law_4_1 (p0 : Int32) (p1 : Int32) (p2 : Int32) (p3 : Int32) : Array Slot := #[.val (.int p0), .val (.int p1), .val (.int p2), .val (.int p3), .val (.int (1 : Int32)), .unset, .unset, .unset, .unset, .unset, .unset, .unset, .unset, .unset, .unset]
abbrev Lc_law_4_2 (p0 : Int32) (p1 : Int32) (p2 : Int32) (p3 : Int32) : Array Slot := #[.val (.int p0), .val (.int p1), .val (.int p2), .val (.int p3), .val (.int (1 : Int32)), .val (.int (p0 &&& (3 : Int32))), .unset, .unset, .unset, .unset, .unset, .unset, .unset, .unset, .unset]
abbrev Lc_law_4_3 (p0 : Int32) (p1 : Int32) (p2 : Int32) (p3 : Int32) : Array Slot := #[.val (.int p0), .val (.int p1), .val (.int p2), .val (.int p3), .val (.int (1 : Int32)), .val (.int (p0 &&& (3 : Int32))), .val (.int (p1 &&& (255 : Int32))), .unset, .unset, .unset, .unset, .unset, .unset, .unset, .unset]
abbrev Lc_law_4_4 (p0 : Int32) (p1 : Int32) (p2 : Int32) (p3 : Int32) : Array Slot := #[.val (.int p0), .val (.int p1), .val (.int p2), .val (.int p3), .val (.int (1 : Int32)), .val (.int (p0 &&& (3 : Int32))), .val (.int (p1 &&& (255 : Int32))), .val (.int (p2 &&& (255 : Int32))), .unset, .unset, .unset, .unset, .unset, .unset, .unset]
abbrev Lc_law_4_5 (p0 : Int32) (p1 : Int32) (p2 : Int32) (p3 : Int32) : Array Slot := #[.val (.int p0), .val (.int p1), .val (.int p2), .val (.int p3), .val (.int (1 : Int32)), .val (.int (p0 &&& (3 : Int32))), .val (.int (p1 &&& (255 : Int32))), .val (.int (p2 &&& (255 : Int32))), .val (.int (p3 &&& (255 : Int32))), .unset, .unset, .unset, .unset, .unset, .unset]
abbrev Lc_law_4_6 (p0 : Int32) (p1 : Int32) (p2 : Int32) (p3 : Int32) : Array Slot := #[.val (.int p0), .val (.int p1), .val (.int p2), .val (.int p3), .val (.int (1 : Int32)), .val (.int (p0 &&& (3 : Int32))), .val (.int (p1 &&& (255 : Int32))), .val (.int (p2 &&& (255 : Int32))), .val (.int (p3 &&& (255 : Int32))), .val (.int (0 : Int32)), .unset, .unset, .unset, .unset, .unset]
abbrev Lc_law_4_7 (p0 : Int32) (p1 : Int32) (p2 : Int32) (p3 : Int32) : Array Slot := #[.val (.int p0), .val (.int p1), .val (.int p2), .val (.int p3), .val (.int (1 : Int32)), .val (.int (p0 &&& (3 : Int32))), .val (.int (p1 &&& (255 : Int32))), .val (.int (p2 &&& (255 : Int32))), .val (.int (p3 &&& (255 : Int32))), .val (.int (0 : Int32)), .val .null, .unset, .unset, .unset, .unset]
abbrev Lc_law_4_8 (p0 : Int32) (p1 : Int32) (p2 : Int32) (p3 : Int32) : Array Slot := #[.val (.int p0), .val (.int p1), .val (.int p2), .val (.int p3), .val (.int (1 : Int32)), .val (.int (4 : Int32)), .val (.int (p1 &&& (255 : Int32))), .val (.int (p2 &&& (255 : Int32))), .val (.int (p3 &&& (255 : Int32))), .val (.int (0 : Int32)), .val .null, .unset, .unset, .unset, .unset]
abbrev Lc_law_4_9 (p0 : Int32) (p1 : Int32) (p2 : Int32) (p3 : Int32) : Array Slot := #[.val (.int p0), .val (.int p1), .val (.int p2), .val (.int p3), .val (.int (1 : Int32)), .val (.int (4 : Int32)), .val (.int (110 : Int32)), .val (.int (p2 &&& (255 : Int32))), .val (.int (p3 &&& (255 : Int32))), .val (.int (0 : Int32)), .val .null, .unset, .unset, .unset, .unset]
abbrev Lc_law_4_10 (p0 : Int32) (p1 : Int32) (p2 : Int32) (p3 : Int32) : Array Slot := #[.val (.int p0), .val (.int p1), .val (.int p2), .val (.int p3), .val (.int (1 : Int32)), .val (.int (4 : Int32)), .val (.int (110 : Int32)), .val (.int (117 : Int32)), .val (.int (p3 &&& (255 : Int32))), .val (.int (0 : Int32)), .val .null, .unset, .unset, .unset, .unset]
abbrev Lc_law_4_11 (p0 : Int32) (p1 : Int32) (p2 : Int32) (p3 : Int32) : Array Slot := #[.val (.int p0), .val (.int p1), .val (.int p2), .val (.int p3), .val (.int (1 : Int32)), .val (.int (4 : Int32)), .val (.int (110 : Int32)), .val (.int (117 : Int32)), .val (.int (108 : Int32)), .val (.int (0 : Int32)), .val .null, .unset, .unset, .unset, .unset]
abbrev Lc_law_4_12 (p0 : Int32) (p1 : Int32) (p2 : Int32) (p3 : Int32) : Array Slot := #[.val (.int p0), .val (.int p1), .val (.int p2), .val (.int p3), .val (.int (1 : Int32)), .val (.int (4 : Int32)), .val (.int (110 : Int32)), .val (.int (117 : Int32)), .val (.int (108 : Int32)), .val (.int (108 : Int32)), .val .null, .unset, .unset, .unset, .unset]
abbrev Lc_law_4_13 (p0 : Int32) (p1 : Int32) (p2 : Int32) (p3 : Int32) (b101 : Addr) : Array Slot := #[.val (.int p0), .val (.int p1), .val (.int p2), .val (.int p3), .val (.int (1 : Int32)), .val (.int (4 : Int32)), .val (.int (110 : Int32)), .val (.int (117 : Int32)), .val (.int (108 : Int32)), .val (.int (108 : Int32)), .val .null, .val (.ref b101), .unset, .unset, .unset]
abbrev Lc_law_4_14 (p0 : Int32) (p1 : Int32) (p2 : Int32) (p3 : Int32) (b101 : Addr) : Array Slot := #[.val (.int p0), .val (.int p1), .val (.int p2), .val (.int p3), .val (.int (1 : Int32)), .val (.int (4 : Int32)), .val (.int (110 : Int32)), .val (.int (117 : Int32)), .val (.int (108 : Int32)), .val (.int (108 : Int32)), .val .null, .val (.ref b101), .val (.int (21 : Int32)), .unset, .unset]
abbrev Lc_law_4_15 (p0 : Int32) (p1 : Int32) (p2 : Int32) (p3 : Int32) (b101 : Addr) (x_110 : Addr) : Array Slot := #[.val (.int p0), .val (.int p1), .val (.int p2), .val (.int p3), .val (.int (1 : Int32)), .val (.int (4 : Int32)), .val (.int (110 : Int32)), .val (.int (117 : Int32)), .val (.int (108 : Int32)), .val (.int (108 : Int32)), .val .null, .val (.ref b101), .val (.int (21 : Int32)), .val (.ref x_110), .unset]
abbrev Lc_law_4_16 (p0 : Int32) (p1 : Int32) (p2 : Int32) (p3 : Int32) (b101 : Addr) (x_110 : Addr) (m_110 : Addr) : Array Slot := #[.val (.int p0), .val (.int p1), .val (.int p2), .val (.int p3), .val (.int (1 : Int32)), .val (.int (4 : Int32)), .val (.int (110 : Int32)), .val (.int (117 : Int32)), .val (.int (108 : Int32)), .val (.int (108 : Int32)), .val .null, .val (.ref b101), .val (.int (21 : Int32)), .val (.ref x_110), .val (.ref m_110)]
theorem ef_law_4 (mM : MethodId) (p0 : Int32) (p1 : Int32) (p2 : Int32) (p3 : Int32) (ua : Addr) (sa : Addr) (cs : Int32) (fo : Value) : entryFrame mM #[(.int p0), (.int p1), (.int p2), (.int p3)] maxLocals = mkF mM 0 #[.val (.int p0), .val (.int p1), .val (.int p2), .val (.int p3), .unset, .unset, .unset, .unset, .unset, .unset, .unset, .unset, .unset, .unset, .unset] [] := by
  first | (simp [entryFrame, mkF, argsToLocals, Value.category, maxLocals]; done) | rfl
theorem rm_law_4 (l : Launch) (Z : State) (a0 : Array Value) (hw : HW a0 Z) (ws : List Jvm.Cond) (p0 : Int32) (p1 : Int32) (p2 : Int32) (p3 : Int32) (ua : Addr) (sa : Addr) (cs : Int32) (fo : Value) (h0 : Heap) (n0 : Nat) (Z0 : n0 ≤ h0.size) (OL : Old Z n0 h0) (TH : ThS Z h0) (S_UNASSIGNED_STACK : Sta Z Z.heap "java/lang/Throwable" "UNASSIGNED_STACK" "[Ljava/lang/StackTraceElement;" (.ref ua)) (S_SUPPRESSED_SENTINEL : Sta Z Z.heap "java/lang/Throwable" "SUPPRESSED_SENTINEL" "Ljava/util/List;" (.ref sa)) (hl : l.stackTraces = true) (S_COMPACT_STRINGS : Sta Z Z.heap "java/lang/String" "COMPACT_STRINGS" "Z" (.int cs)) (hcs : ¬ (cs = (0 : Int32))) (S_SIOOBE_FORMATTER : Sta Z Z.heap "jdk/internal/util/Preconditions" "SIOOBE_FORMATTER" "Ljava/util/function/BiFunction;" fo) (hfo : (fo).isRef = true) (hz0 : ((p0 >>> ((2 : Int32) &&& 31)) &&& (1 : Int32)) = (1 : Int32)) :
    MetFree l x (head1 (Jvm.Cond.code x code maxLocals ret :: ws) room_1) (fun xa xU => xa = #[(.int p0), (.int p1), (.int p2), (.int p3)] ∧ Z.Warmed39 xU.vm ∧ xU.heap = h0 ∧ CHv Z consts_1 xU.vm h0 ∧ ∀ x ∈ ([] : List Addr), Safe Z consts_1 xU.vm h0 x) (fun _ _ bl s _ => s.vm.MethodsKnown ∧ s.vm.FramesKnown bl) (fun _ xU xo xU' => ∃ xv xL, xo = .returned xv ∧ Q_law n0 xv xL ∧ CHr Z consts_1 xU.vm xU.heap xU'.vm xU'.heap ∧ ReturnedEndW xU xo xU' xL room_1.cells room_1.slots) := by
  refine MetFree.of_bodySF (plainFor_of_name pn_com_example_dipper_dipper_store_NotFoundExceptionRoomPinLaw) hisR ?_
  intro pP eE sS mM argS bS methS cC s₁ Bd hml0 hP hK
  obtain ⟨rfl, hZ, hh, hCH, hSf⟩ := hP
  have hx := Bd.exec
  have hby := Bd.bytes
  have hml : cC.maxLocals = 15 := hml0
  have hown : sS.vm.findClass "com/example/dipper/dipper/store/NotFoundExceptionRoomPinLaw" = some mM.cls := findClass_of_methodNamed Bd.named
  have hnm := (name_of_methodNamed Bd.named Bd.method).1
  have X0 : Stand pP l eE room_1 (sS.setVm sS.vm) mM #[(.int p0), (.int p1), (.int p2), (.int p3)] bS methS cC s₁ [] 0 0 := Stand.of_body Bd
  have e0 : s₁.heap = h0 := by rw [← hh, Bd.state]; rfl
  have N0 := Fr.nil n0
  obtain ⟨hTK, hBelow⟩ := hK
  have hZ0 : Z.Warmed39 (sS.setVm sS.vm).vm := hZ
  have hown0 : (sS.setVm sS.vm).vm.findClass "com/example/dipper/dipper/store/NotFoundExceptionRoomPinLaw" = some mM.cls := hown
  have hS0 : sS.Since sS.vm 0 := (State.WarmedH.refl sS).since 0
  have CC0 : CHr Z consts_1 sS.vm h0 sS.vm h0 := CHr.refl hCH
  obtain ⟨T101, h101, k101, X101, e101, E101, A101, st101⟩ := newP X0 hx hZ0 (wi hw 3 rfl) e0 (g := (mkF mM 173 (Lc_law_4_12 p0 p1 p2 p3) [(.int (21 : Int32))])) rfl (hb hby at_173) rfl (by decide) (cap := 21) (by decide) (by decide) (by decide) (by decide)
  obtain ⟨b101, g101⟩ : ∃ z : Nat, z = h0.size := ⟨_, rfl⟩
  rw [← g101] at A101 st101
  have Sz1 : h0.size ≤ h101.size := E101.1
  have CC1 : CHr Z consts_1 sS.vm h0 sS.vm h101 := CC0.trans (CHr.ext E101 CC0.1)
  have V_b101 : Arv Z h101 b101 k101 .char (21 : Int32) [(.int (0 : Int32)), (.int (0 : Int32)), (.int (0 : Int32)), (.int (0 : Int32)), (.int (0 : Int32)), (.int (0 : Int32)), (.int (0 : Int32)), (.int (0 : Int32)), (.int (0 : Int32)), (.int (0 : Int32)), (.int (0 : Int32)), (.int (0 : Int32)), (.int (0 : Int32)), (.int (0 : Int32)), (.int (0 : Int32)), (.int (0 : Int32)), (.int (0 : Int32)), (.int (0 : Int32)), (.int (0 : Int32)), (.int (0 : Int32)), (.int (0 : Int32))] (.int (0 : Int32)) := (Arv.new A101 (by decide)).pad (pad_rep [] (.int (0 : Int32)) 21)
  have ge103_b101 : @LE.le Nat _ n0 b101 := by omega
  obtain ⟨T102, h102, L102, X102, e102, N102, Kp102, p102_V_b, st102⟩ := sg_fill l Z a0 hw b101 k101 _ (.val (.int p0)) (.val (.int p1)) (.val (.int p2)) (.val (.int p3)) (.val (.int (1 : Int32))) (.val (.int (4 : Int32))) (.val (.int (110 : Int32))) (.val (.int (117 : Int32))) (.val (.int (108 : Int32))) (.val (.int (108 : Int32))) (.val .null) (.unset) (.unset) (.unset) (.unset) h101 n0 (by omega) hx hby hml hZ0 hown0 X101 e101 N0 (by decide) (by decide) V_b101 ge103_b101 (rfl)
  have Sz2 : h101.size ≤ h102.size := Kp102.1
  have sf104_b101 : Safe Z consts_1 sS.vm h101 b101 := Safe.arv (show Z.Warmed39 sS.vm from hZ0).alike V_b101 (by decide)
  have CC2 : CHr Z consts_1 sS.vm h0 sS.vm h102 := CC1.trans (CHr.keep Kp102 (sfS sf104_b101 sf0) CC1.1)
  have p102_V_b' : Arv Z h102 b101 k101 .char (21 : Int32) [(.int (78 : Int32)), (.int (111 : Int32)), (.int (32 : Int32)), (.int (114 : Int32)), (.int (111 : Int32)), (.int (111 : Int32)), (.int (109 : Int32)), (.int (32 : Int32)), (.int (104 : Int32)), (.int (97 : Int32)), (.int (115 : Int32)), (.int (32 : Int32)), (.int (105 : Int32)), (.int (100 : Int32)), (.int (32 : Int32)), (.int (39 : Int32)), (.int (0 : Int32)), (.int (0 : Int32)), (.int (0 : Int32)), (.int (0 : Int32)), (.int (0 : Int32))] (.int (0 : Int32)) := p102_V_b
  obtain ⟨T105, h105, L105, X105, e105, N105, Kp105, p105_V_b, st105⟩ := sg_fill2 l Z a0 hw b101 k101 _ (110 : Int32) (117 : Int32) (108 : Int32) (108 : Int32) (.val (.int p0)) (.val (.int p1)) (.val (.int p2)) (.val (.int p3)) (.val (.int (1 : Int32))) (.val (.int (4 : Int32))) (.val .null) (.unset) (.unset) (.unset) h102 n0 (by omega) hx hby hml hZ0 hown0 X102 e102 N102 (by decide) (by decide) p102_V_b' ge103_b101 (rfl) (by decide) (by decide) (by decide) (by decide)
  have Sz3 : h102.size ≤ h105.size := Kp105.1
  have sf106_b101 : Safe Z consts_1 sS.vm h102 b101 := Safe.arv (show Z.Warmed39 sS.vm from hZ0).alike p102_V_b' (by decide)
  have CC3 : CHr Z consts_1 sS.vm h0 sS.vm h105 := CC2.trans (CHr.keep Kp105 (sfS sf106_b101 sf0) CC2.1)
  have p105_V_b' : Arv Z h105 b101 k101 .char (21 : Int32) [(.int (78 : Int32)), (.int (111 : Int32)), (.int (32 : Int32)), (.int (114 : Int32)), (.int (111 : Int32)), (.int (111 : Int32)), (.int (109 : Int32)), (.int (32 : Int32)), (.int (104 : Int32)), (.int (97 : Int32)), (.int (115 : Int32)), (.int (32 : Int32)), (.int (105 : Int32)), (.int (100 : Int32)), (.int (32 : Int32)), (.int (39 : Int32)), (.int (110 : Int32)), (.int (117 : Int32)), (.int (108 : Int32)), (.int (108 : Int32)), (.int (0 : Int32))] (.int (0 : Int32)) := p105_V_b
  obtain ⟨cl107, Ar107, q107, S107, Ng107, Ha107, Ga107⟩ := id p105_V_b'
  have hin107 : ¬ ((20 : Int32) < 0 ∨ cl107.slots.size ≤ ((20 : Int32)).toNatClampNeg) := inb_of S107 ⟨by decide, by decide⟩
  obtain ⟨T108, h108, X108, e108, W108, st108⟩ := stC X105 hx hZ0 e105 Ar107 (j := (20 : Int32)) hin107 (g := (mkF mM 329 (Lc_law_4_13 p0 p1 p2 p3 b101) [(.int (39 : Int32)), (.int (20 : Int32)), (.ref b101)])) rfl rfl (hb hby at_329)
  have Sz4 : h105.size ≤ h108.size := Nat.le_of_eq (Wr.size W108).symm
  have sf109_b101 : Safe Z consts_1 sS.vm h105 b101 := Safe.arv (show Z.Warmed39 sS.vm from hZ0).alike p105_V_b' (by decide)
  have CC4 : CHr Z consts_1 sS.vm h0 sS.vm h108 := CC3.trans (CHr.wr W108 sf109_b101 CC3.1)
  have Vs108 := Arv.set Ar107 q107 S107 Ng107 Ha107 Ga107 (fits_nar_char _) W108 20 rfl (Nat.le_of_ble_eq_true rfl)
  have Vt108 : Arv Z h108 b101 k101 .char (21 : Int32) [(.int (78 : Int32)), (.int (111 : Int32)), (.int (32 : Int32)), (.int (114 : Int32)), (.int (111 : Int32)), (.int (111 : Int32)), (.int (109 : Int32)), (.int (32 : Int32)), (.int (104 : Int32)), (.int (97 : Int32)), (.int (115 : Int32)), (.int (32 : Int32)), (.int (105 : Int32)), (.int (100 : Int32)), (.int (32 : Int32)), (.int (39 : Int32)), (.int (110 : Int32)), (.int (117 : Int32)), (.int (108 : Int32)), (.int (108 : Int32)), (.int (39 : Int32))] (.int (0 : Int32)) := Vs108
  have N108 := Fr.snoc X108 N105 ge103_b101
  have c111_OL : Old Z n0 h101 := OL.ext E101
  have c112_OL : Old Z n0 h102 := c111_OL.keep Kp102 (allS ge103_b101 all0)
  have c113_OL : Old Z n0 h105 := c112_OL.keep Kp105 (allS ge103_b101 all0)
  have c114_OL : Old Z n0 h108 := c113_OL.wr W108 ge103_b101
  have c115_TH : ThS Z h101 := ThS.ext E101 TH
  have c116_TH : ThS Z h102 := ThS.keep Kp102 (nsS (Arv.nostat V_b101) ns0) c115_TH
  have c117_TH : ThS Z h105 := ThS.keep Kp105 (nsS (Arv.nostat p102_V_b') ns0) c116_TH
  have c118_TH : ThS Z h108 := ThS.wr W108 c117_TH
  obtain ⟨_, _, ⟨T110, L110, k110, n110⟩, -, X110, hs110, hg110, ⟨Lc110, hQ110, l110, y110, z110, Ch110⟩, st110⟩ := callSS X108 hx (y := y46_) hown0 (mvT hZ0 (wi hw 22 rfl)) (mvT hZ0 (wi hw 23 rfl)) (mvT hZ0 (wi hw 24 rfl)) (mvT hZ0 (wi hw 25 rfl)) (by decide) (backCH (W := 0) (rm_room_null l Z a0 hw [] ua sa cs h108 n0 (by omega) c114_OL c118_TH S_UNASSIGNED_STACK S_SUPPRESSED_SENTINEL hl S_COMPACT_STRINGS hcs) hZ0 (wi hw 25 rfl) (wi hw 24 rfl) (by decide) (by decide) (own_EW hw) CC4.1 cs0 (fun _ _ _ _ _ _ _ Y hg => known_frames Y hg (Vm.MethodsKnown.alikeC hS0.1.alike hTK) (Vm.FramesKnown.alikeC hS0.1.alike hBelow))) (g := (mkF mM 339 (Lc_law_4_14 p0 p1 p2 p3 b101) [.null])) rfl (by rw [hml]; rfl) (argsL := [.null]) (rest := []) (lenOf pd_3 rfl) rfl (by show 2 * 0 + _ ≤ _; exact Nat.le_of_eq rfl) (hb hby at_339) (fun _ _ => ⟨rfl, e108, ble rfl, ble rfl⟩)
  dsimp only [Pt.U, Pt.locs, Pt.cells, Pt.slots] at X110 l110 y110 z110 st110 hQ110 hs110 hg110 Ch110
  subst y110 z110
  obtain ⟨X110', hS110, hZ110, hown110⟩ := rebS hS0 (by rw [e108]; omega) X110 hs110 hg110 hZ0 hown0
  obtain ⟨h110, e110⟩ : ∃ z, T110.heap = z := ⟨_, rfl⟩
  rw [e110] at hQ110 hS110 Ch110
  obtain ⟨x_110, m_110, mb_110, mk_110, rfl, N110q, Kp110, p110_E_x, p110_F_detailMessage_x, p110_E_m, p110_F_value_m, p110_F_coder_m, p110_V_mb⟩ := hQ110
  have Sz5 : h108.size ≤ h110.size := Kp110.1
  have CC5 : CHr Z consts_1 sS.vm h0 T110.vm h110 := CC4.trans Ch110
  have N110 : Fr n0 L110 := by rw [l110]; exact Fr.app N108 N110q
  obtain ⟨cq119, kq119, q119a, q119b, q119c⟩ := isOf hZ110 e110 p110_E_x
  obtain ⟨_, _, ⟨T119, L119, k119, n119⟩, -, X119, ⟨Lc119, hQ119, l119, y119, z119⟩, st119⟩ := X110'.virtualBackUp hx (x := y47_) (y := y44_) (owner := "java/lang/Throwable") hown110 (mvT hZ110 (wi hw 215 rfl)) (mvT hZ110 (wi hw 216 rfl)) (mvT hZ110 (wi hw 217 rfl)) (by decide) (mvT hZ110 (wi hw 219 rfl)) (mvT hZ110 (wi hw 218 rfl)) (backOf (W := 0) (rm_getMsg l Z a0 hw [] x_110 m_110 h110 n0 (by omega) p110_F_detailMessage_x) hZ110 (wi hw 220 rfl) (wi hw 176 rfl) (by decide) (by decide)) q119a q119c (g := (mkF mM 353 (Lc_law_4_15 p0 p1 p2 p3 b101 x_110) [(.ref x_110)])) rfl (by rw [hml]; rfl) (Steps.refl _) (argsL := []) (rest := []) (lenOf pd_17 rfl) rfl (by show 2 * 0 + _ ≤ _; exact Nat.le_of_eq rfl) (hb hby at_353) (fun _ _ => ⟨rfl, e110, ble rfl, ble rfl⟩)
  dsimp only [Pt.U, Pt.locs, Pt.cells, Pt.slots] at X119 l119 y119 z119 st119 hQ119
  subst y119 z119
  obtain ⟨h119, e119⟩ : ∃ z, T119.heap = z := ⟨_, rfl⟩
  rw [e119] at hQ119
  obtain ⟨rfl, N119q, eq119⟩ := hQ119
  rw [eq119] at e119
  have N119 : Fr n0 L119 := by rw [l119]; exact Fr.app N110 N119q
  have c121_OL : Old Z n0 h110 := c114_OL.keep Kp110 all0
  obtain ⟨cq120, kq120, q120a, q120b, q120c⟩ := isOf hZ110 e119 p110_E_m
  obtain ⟨_, _, ⟨T120, L120, k120, n120⟩, -, X120, ⟨Lc120, hQ120, l120, y120, z120⟩, st120⟩ := X119.virtualBack hx (y := y1_) (z := y1_) hown110 (mvT hZ110 (wi hw 221 rfl)) (mvT hZ110 (wi hw 58 rfl)) (notFace_of_selects (args := #[]) (mvT hZ110 (wi hw 60 rfl))) (mvT hZ110 (wi hw 60 rfl)) (mvT hZ110 (wi hw 59 rfl)) (by decide) (backOf (W := 0) (rm_length l Z a0 hw [] m_110 mb_110 mk_110 (((0 + 16) + 4) + 1) _ cs h110 n0 (by omega) p110_E_m p110_F_value_m p110_F_coder_m p110_V_mb c121_OL S_COMPACT_STRINGS hcs) hZ110 (wi hw 61 rfl) (wi hw 2 rfl) (by decide) (by decide)) q120a q120c (g := (mkF mM 365 (Lc_law_4_16 p0 p1 p2 p3 b101 x_110 m_110) [(.ref m_110)])) rfl (by rw [hml]; rfl) (Steps.refl _) (argsL := []) (rest := []) (lenOf pd_7 rfl) rfl (by show 2 * 0 + _ ≤ _; exact Nat.le_of_eq rfl) (hb hby at_365) (fun _ _ => ⟨rfl, e119, ble rfl, ble rfl⟩)
  dsimp only [Pt.U, Pt.locs, Pt.cells, Pt.slots] at X120 l120 y120 z120 st120 hQ120
  subst y120 z120
  obtain ⟨h120, e120⟩ : ∃ z, T120.heap = z := ⟨_, rfl⟩
  rw [e120] at hQ120
  obtain ⟨rfl, N120q, eq120⟩ := hQ120
  rw [eq120] at e120
  have N120 : Fr n0 L120 := by rw [l120]; exact Fr.app N119 N120q
  have c123_V_b101 : Arv Z h110 b101 k101 .char (21 : Int32) [(.int (78 : Int32)), (.int (111 : Int32)), (.int (32 : Int32)), (.int (114 : Int32)), (.int (111 : Int32)), (.int (111 : Int32)), (.int (109 : Int32)), (.int (32 : Int32)), (.int (104 : Int32)), (.int (97 : Int32)), (.int (115 : Int32)), (.int (32 : Int32)), (.int (105 : Int32)), (.int (100 : Int32)), (.int (32 : Int32)), (.int (39 : Int32)), (.int (110 : Int32)), (.int (117 : Int32)), (.int (108 : Int32)), (.int (108 : Int32)), (.int (39 : Int32))] (.int (0 : Int32)) := Vt108.keep Kp110 nin0
  obtain ⟨T122, L122, X122, e122, N122, st122⟩ := sg_ats l Z a0 hw m_110 mb_110 mk_110 (iN (((0 + 16) + 4) + 1)) _ b101 k101 _ (21 : Int32) fo cs (.val (.int p0)) (.val (.int p1)) (.val (.int p2)) (.val (.int p3)) (.val (.int (1 : Int32))) (.val (.int (4 : Int32))) (.val (.int (110 : Int32))) (.val (.int (117 : Int32))) (.val (.int (108 : Int32))) (.val (.int (108 : Int32))) (.val .null) (.val (.ref x_110)) h110 n0 (by omega) hx hby hml hZ110 hown110 X120 e120 N120 (by decide) (by decide) p110_E_m p110_F_value_m p110_F_coder_m p110_V_mb c123_V_b101 hfo c121_OL S_SIOOBE_FORMATTER S_COMPACT_STRINGS hcs (Or.inr ⟨by decide, by decide, by decide, by decide, (78 : Int32), (78 : Int32), rfl, rfl, by decide⟩) (Or.inr ⟨by decide, by decide, by decide, by decide, (111 : Int32), (111 : Int32), rfl, rfl, by decide⟩) (Or.inr ⟨by decide, by decide, by decide, by decide, (32 : Int32), (32 : Int32), rfl, rfl, by decide⟩) (Or.inr ⟨by decide, by decide, by decide, by decide, (114 : Int32), (114 : Int32), rfl, rfl, by decide⟩) (Or.inr ⟨by decide, by decide, by decide, by decide, (111 : Int32), (111 : Int32), rfl, rfl, by decide⟩) (Or.inr ⟨by decide, by decide, by decide, by decide, (111 : Int32), (111 : Int32), rfl, rfl, by decide⟩) (Or.inr ⟨by decide, by decide, by decide, by decide, (109 : Int32), (109 : Int32), rfl, rfl, by decide⟩) (Or.inr ⟨by decide, by decide, by decide, by decide, (32 : Int32), (32 : Int32), rfl, rfl, by decide⟩) (Or.inr ⟨by decide, by decide, by decide, by decide, (104 : Int32), (104 : Int32), rfl, rfl, by decide⟩) (Or.inr ⟨by decide, by decide, by decide, by decide, (97 : Int32), (97 : Int32), rfl, rfl, by decide⟩) (Or.inr ⟨by decide, by decide, by decide, by decide, (115 : Int32), (115 : Int32), rfl, rfl, by decide⟩) (Or.inr ⟨by decide, by decide, by decide, by decide, (32 : Int32), (32 : Int32), rfl, rfl, by decide⟩) (Or.inr ⟨by decide, by decide, by decide, by decide, (105 : Int32), (105 : Int32), rfl, rfl, by decide⟩) (Or.inr ⟨by decide, by decide, by decide, by decide, (100 : Int32), (100 : Int32), rfl, rfl, by decide⟩) (Or.inr ⟨by decide, by decide, by decide, by decide, (32 : Int32), (32 : Int32), rfl, rfl, by decide⟩) (Or.inr ⟨by decide, by decide, by decide, by decide, (39 : Int32), (39 : Int32), rfl, rfl, by decide⟩) (Or.inr ⟨by decide, by decide, by decide, by decide, (110 : Int32), (110 : Int32), rfl, rfl, by decide⟩) (Or.inr ⟨by decide, by decide, by decide, by decide, (117 : Int32), (117 : Int32), rfl, rfl, by decide⟩) (Or.inr ⟨by decide, by decide, by decide, by decide, (108 : Int32), (108 : Int32), rfl, rfl, by decide⟩) (Or.inr ⟨by decide, by decide, by decide, by decide, (108 : Int32), (108 : Int32), rfl, rfl, by decide⟩) (Or.inr ⟨by decide, by decide, by decide, by decide, (39 : Int32), (39 : Int32), rfl, rfl, by decide⟩)
  obtain ⟨fs, hr, hrun, hended, hE⟩ := Stand.leaveW (s := sS) X122 hS110 (by rw [e122]; omega) (v := some (.int (1 : Int32))) (fun h => by rw [Bd.returns] at h; cases h)
  refine ⟨_, _, castTop (ef_law_4 mM p0 p1 p2 p3 ua sa cs fo) ?_, hrun, hended, _, _, rfl, ?_, ?_, hE.1, hE.2.1, hE.2.2.1, hE.2.2.2.mono (by decide) (by decide)⟩
  · show SS pP eE bS s₁ (mkF mM 0 (Lc_law_4_0 p0 p1 p2 p3) []) _
    refine XS.iloadN X0.here hx rfl (hb hby at_0) rfl ?_
    refine XS.iconst X0.here hx rfl (hb hby at_1) ?_
    refine XS.ishr X0.here hx rfl (hb hby at_2) rfl ?_
    refine XS.iconst X0.here hx rfl (hb hby at_3) ?_
    show SS pP eE bS s₁ (mkF mM 4 (Lc_law_4_0 p0 p1 p2 p3) [(.int (1 : Int32)), (.int (p0 >>> ((2 : Int32) &&& 31)))]) _
    refine XS.iand X0.here hx rfl (hb hby at_4) rfl ?_
    show SS pP eE bS s₁ (mkF mM 5 (Lc_law_4_0 p0 p1 p2 p3) [(.int ((p0 >>> ((2 : Int32) &&& 31)) &&& (1 : Int32)))]) _
    rw [show ((p0 >>> ((2 : Int32) &&& 31)) &&& (1 : Int32)) = (1 : Int32) from hz0]
    refine XS.ifNo X0.here hx rfl (hb hby at_5) rfl ((if0 _ _).trans (feq (by decide : ¬ ((1 : Int32) = (0 : Int32)))).1) ?_
    refine XS.iconst X0.here hx rfl (hb hby at_8) ?_
    refine XS.goto X0.here hx rfl (pc0 := 9) (pc' := 13) rfl (hb hby at_9) (by decide) (by decide) ?_
    show SS pP eE bS s₁ (mkF mM 13 (Lc_law_4_0 p0 p1 p2 p3) [(.int (1 : Int32))]) _
    refine XS.istore X0.here hx rfl (hb hby at_13) rfl (l' := (Lc_law_4_1 p0 p1 p2 p3)) rfl ?_
    refine XS.iloadN X0.here hx rfl (hb hby at_15) rfl ?_
    refine XS.iconst X0.here hx rfl (hb hby at_16) ?_
    refine XS.iand X0.here hx rfl (hb hby at_17) rfl ?_
    show SS pP eE bS s₁ (mkF mM 18 (Lc_law_4_1 p0 p1 p2 p3) [(.int (p0 &&& (3 : Int32)))]) _
    refine XS.istore X0.here hx rfl (hb hby at_18) rfl (l' := (Lc_law_4_2 p0 p1 p2 p3)) rfl ?_
    refine XS.iloadN X0.here hx rfl (hb hby at_20) rfl ?_
    refine XS.sipush X0.here hx rfl (hb hby at_21) ?_
    refine XS.iand X0.here hx rfl (hb hby at_24) rfl ?_
    show SS pP eE bS s₁ (mkF mM 25 (Lc_law_4_2 p0 p1 p2 p3) [(.int (p1 &&& (255 : Int32)))]) _
    refine XS.i2c X0.here hx rfl (hb hby at_25) rfl ?_
    show SS pP eE bS s₁ (mkF mM 26 (Lc_law_4_2 p0 p1 p2 p3) [(.int ((p1 &&& (255 : Int32)).toUInt32.toUInt16.toUInt32.toInt32))]) _
    rw [show ((p1 &&& (255 : Int32)).toUInt32.toUInt16.toUInt32.toInt32) = (p1 &&& (255 : Int32)) from i2c_mask p1]
    refine XS.istore X0.here hx rfl (hb hby at_26) rfl (l' := (Lc_law_4_3 p0 p1 p2 p3)) rfl ?_
    refine XS.iloadN X0.here hx rfl (hb hby at_28) rfl ?_
    refine XS.sipush X0.here hx rfl (hb hby at_29) ?_
    show SS pP eE bS s₁ (mkF mM 32 (Lc_law_4_3 p0 p1 p2 p3) [(.int (255 : Int32)), (.int p2)]) _
    refine XS.iand X0.here hx rfl (hb hby at_32) rfl ?_
    refine XS.i2c X0.here hx rfl (hb hby at_33) rfl ?_
    show SS pP eE bS s₁ (mkF mM 34 (Lc_law_4_3 p0 p1 p2 p3) [(.int ((p2 &&& (255 : Int32)).toUInt32.toUInt16.toUInt32.toInt32))]) _
    rw [show ((p2 &&& (255 : Int32)).toUInt32.toUInt16.toUInt32.toInt32) = (p2 &&& (255 : Int32)) from i2c_mask p2]
    refine XS.istore X0.here hx rfl (hb hby at_34) rfl (l' := (Lc_law_4_4 p0 p1 p2 p3)) rfl ?_
    refine XS.iloadN X0.here hx rfl (hb hby at_36) rfl ?_
    refine XS.sipush X0.here hx rfl (hb hby at_37) ?_
    show SS pP eE bS s₁ (mkF mM 40 (Lc_law_4_4 p0 p1 p2 p3) [(.int (255 : Int32)), (.int p3)]) _
    refine XS.iand X0.here hx rfl (hb hby at_40) rfl ?_
    refine XS.i2c X0.here hx rfl (hb hby at_41) rfl ?_
    show SS pP eE bS s₁ (mkF mM 42 (Lc_law_4_4 p0 p1 p2 p3) [(.int ((p3 &&& (255 : Int32)).toUInt32.toUInt16.toUInt32.toInt32))]) _
    rw [show ((p3 &&& (255 : Int32)).toUInt32.toUInt16.toUInt32.toInt32) = (p3 &&& (255 : Int32)) from i2c_mask p3]
    refine XS.istore X0.here hx rfl (hb hby at_42) rfl (l' := (Lc_law_4_5 p0 p1 p2 p3)) rfl ?_
    refine XS.iconst X0.here hx rfl (hb hby at_44) ?_
    refine XS.istore X0.here hx rfl (hb hby at_45) rfl (l' := (Lc_law_4_6 p0 p1 p2 p3)) rfl ?_
    show SS pP eE bS s₁ (mkF mM 47 (Lc_law_4_6 p0 p1 p2 p3) []) _
    refine XS.iload X0.here hx rfl (hb hby at_47) rfl ?_
    refine XS.ifNo X0.here hx rfl (hb hby at_49) rfl ((if0 _ _).trans (feq (by decide : ¬ ((1 : Int32) = (0 : Int32)))).1) ?_
    refine XS.aconstNull X0.here hx rfl (hb hby at_52) ?_
    refine XS.astore X0.here hx rfl (hb hby at_53) rfl rfl (l' := (Lc_law_4_7 p0 p1 p2 p3)) rfl ?_
    show SS pP eE bS s₁ (mkF mM 55 (Lc_law_4_7 p0 p1 p2 p3) []) _
    refine XS.iconst X0.here hx rfl (hb hby at_55) ?_
    refine XS.istore X0.here hx rfl (hb hby at_56) rfl (l' := (Lc_law_4_8 p0 p1 p2 p3)) rfl ?_
    refine XS.bipush X0.here hx rfl (hb hby at_58) ?_
    refine XS.istore X0.here hx rfl (hb hby at_60) rfl (l' := (Lc_law_4_9 p0 p1 p2 p3)) rfl ?_
    show SS pP eE bS s₁ (mkF mM 62 (Lc_law_4_9 p0 p1 p2 p3) []) _
    refine XS.bipush X0.here hx rfl (hb hby at_62) ?_
    refine XS.istore X0.here hx rfl (hb hby at_64) rfl (l' := (Lc_law_4_10 p0 p1 p2 p3)) rfl ?_
    refine XS.bipush X0.here hx rfl (hb hby at_66) ?_
    refine XS.istore X0.here hx rfl (hb hby at_68) rfl (l' := (Lc_law_4_11 p0 p1 p2 p3)) rfl ?_
    show SS pP eE bS s₁ (mkF mM 70 (Lc_law_4_11 p0 p1 p2 p3) []) _
    refine XS.bipush X0.here hx rfl (hb hby at_70) ?_
    refine XS.istore X0.here hx rfl (hb hby at_72) rfl (l' := (Lc_law_4_12 p0 p1 p2 p3)) rfl ?_
    refine XS.goto X0.here hx rfl (pc0 := 74) (pc' := 171) rfl (hb hby at_74) (by decide) (by decide) ?_
    refine XS.bipush X0.here hx rfl (hb hby at_171) ?_
    show SS pP eE bS s₁ (mkF mM 173 (Lc_law_4_12 p0 p1 p2 p3) [(.int (21 : Int32))]) _
    refine st101 _ ?_
    show SS pP eE bS T101 (mkF mM 175 (Lc_law_4_12 p0 p1 p2 p3) [(.ref b101)]) _
    refine st102 _ ?_
    refine XS.astore X102.here hx rfl (hb hby at_290) rfl rfl (l' := (Lc_law_4_13 p0 p1 p2 p3 b101)) rfl ?_
    refine st105 _ ?_
    refine XS.aload X105.here hx rfl (hb hby at_320) rfl rfl ?_
    show SS pP eE bS T105 (mkF mM 322 (Lc_law_4_13 p0 p1 p2 p3 b101) [(.ref b101)]) _
    refine XS.bipush X105.here hx rfl (hb hby at_322) ?_
    refine XS.iload X105.here hx rfl (hb hby at_324) rfl ?_
    refine XS.iadd X105.here hx rfl (hb hby at_326) rfl ?_
    refine XS.bipush X105.here hx rfl (hb hby at_327) ?_
    show SS pP eE bS T105 (mkF mM 329 (Lc_law_4_13 p0 p1 p2 p3 b101) [(.int (39 : Int32)), (.int (20 : Int32)), (.ref b101)]) _
    refine st108 _ ?_
    show SS pP eE bS T108 (mkF mM 330 (Lc_law_4_13 p0 p1 p2 p3 b101) []) _
    refine XS.bipush X108.here hx rfl (hb hby at_330) ?_
    refine XS.iload X108.here hx rfl (hb hby at_332) rfl ?_
    refine XS.iadd X108.here hx rfl (hb hby at_334) rfl ?_
    refine XS.istore X108.here hx rfl (hb hby at_335) rfl (l' := (Lc_law_4_14 p0 p1 p2 p3 b101)) rfl ?_
    show SS pP eE bS T108 (mkF mM 337 (Lc_law_4_14 p0 p1 p2 p3 b101) []) _
    refine XS.aload X108.here hx rfl (hb hby at_337) rfl rfl ?_
    show SS pP eE bS T108 (mkF mM 339 (Lc_law_4_14 p0 p1 p2 p3 b101) [.null]) _
    refine st110.trans ?_
    show SS pP eE bS T110 (mkF mM 342 (Lc_law_4_14 p0 p1 p2 p3 b101) [(.ref x_110)]) _
    refine XS.astore X110'.here hx rfl (hb hby at_342) rfl rfl (l' := (Lc_law_4_15 p0 p1 p2 p3 b101 x_110)) rfl ?_
    refine XS.aload X110'.here hx rfl (hb hby at_344) rfl rfl ?_
    refine XS.ifnonnullYes X110'.here hx rfl (pc0 := 346) (pc' := 351) rfl (hb hby at_346) rfl (by decide) (by decide) ?_
    refine XS.aload X110'.here hx rfl (hb hby at_351) rfl rfl ?_
    show SS pP eE bS T110 (mkF mM 353 (Lc_law_4_15 p0 p1 p2 p3 b101 x_110) [(.ref x_110)]) _
    refine st119.trans ?_
    show SS pP eE bS T119 (mkF mM 356 (Lc_law_4_15 p0 p1 p2 p3 b101 x_110) [(.ref m_110)]) _
    refine XS.astore X119.here hx rfl (hb hby at_356) rfl rfl (l' := (Lc_law_4_16 p0 p1 p2 p3 b101 x_110 m_110)) rfl ?_
    refine XS.aload X119.here hx rfl (hb hby at_358) rfl rfl ?_
    refine XS.ifnullNo X119.here hx rfl (hb hby at_360) rfl ?_
    refine XS.aload X119.here hx rfl (hb hby at_363) rfl rfl ?_
    show SS pP eE bS T119 (mkF mM 365 (Lc_law_4_16 p0 p1 p2 p3 b101 x_110 m_110) [(.ref m_110)]) _
    refine st120.trans ?_
    show SS pP eE bS T120 (mkF mM 368 (Lc_law_4_16 p0 p1 p2 p3 b101 x_110 m_110) [(.int (iN (((0 + 16) + 4) + 1)))]) _
    refine XS.iload X120.here hx rfl (hb hby at_368) rfl ?_
    refine XS.icmpYes X120.here hx rfl (pc0 := 370) (pc' := 375) rfl (hb hby at_370) rfl (teq (by decide : (iN (((0 + 16) + 4) + 1)) = (21 : Int32))).1 (by decide) (by decide) ?_
    refine st122 _ ?_
    refine XS.iconst X122.here hx rfl (hb hby at_663) ?_
    show SS pP eE bS T122 (mkF mM 664 (Lc_law_4_16 p0 p1 p2 p3 b101 x_110 m_110) [(.int (1 : Int32))]) _
    refine XS.goto X122.here hx rfl (pc0 := 664) (pc' := 668) rfl (hb hby at_664) (by decide) (by decide) ?_
    show SS pP eE bS T122 (mkF mM 668 (Lc_law_4_16 p0 p1 p2 p3 b101 x_110 m_110) [(.int (1 : Int32))]) _
    exact retN X122 hx (t := .boolean) Bd.returns (by simp) (hb hby at_668) hr
  · exact ⟨rfl, N122⟩
  · show CHr Z consts_1 sS.vm sS.heap T122.vm T122.heap
    rw [hh, e122]
    exact CC5.trans (CHv.at X122 hZ110 (own_EW hw) CC5.1)
-- END
theorem comes_1 {Post : Tables → Env → Array Value → State → Outcome → State → Prop} (hpost : ∀ tb e args s v u, (limb_1_1.after args s (.returned v) u = true ∧ limb_1_2.after args s (.returned v) u = true ∧ True) → ReturnedEndW s (.returned v) u (Jvm.fieldLocs frame_1_writes args s ++ Jvm.arrayLocs frame_1_arrays args s ++ Jvm.staticLocs frame_1_statics s) 40 8896 → Post tb e args s (.returned v) u) :
    ArmFor flags0 classFile x code maxLocals ret World_1 tables_1 room_1 Calls_1 rest_1 Pre_1 Post := by
  intro l hfl _ _ p e ha hc hk s m args below hf hA hF happ hP
  obtain ⟨hcalls, hrest, hpre⟩ := hP
  obtain ⟨-, -, -, hnamed, -, -, -, hat⟩ := (Spec.applies_iff hf).mp happ
  obtain ⟨hg, hn⟩ := and_e (Cond.before_iff.mp (show (Jvm.Cond.and given_1 narrow_1).before args s = true from hpre))
  obtain ⟨g1, g2⟩ := and_e hg
  obtain ⟨g3, g4⟩ := and_e g2
  obtain ⟨g5, g6⟩ := and_e g4
  obtain ⟨g7, g8⟩ := and_e g6
  obtain ⟨w0, w1, w2, w3, rfl⟩ : ∃ w0 w1 w2 w3 : Value, args = #[w0, w1, w2, w3] := by
    have hs : args.size = 4 := by simpa [Cond.value, given_1] using g1
    obtain ⟨L⟩ := args
    match L, hs with
    | [w0, w1, w2, w3], _ => exact ⟨w0, w1, w2, w3, rfl⟩
  have hw := fun d (hd : d ∈ tables_1) => atoms_spec (ws := Jvm.Cond.code x code maxLocals ret :: tables_1) hat d (List.mem_cons_of_mem _ hd)
  have hfit : Fit s := fun {y c} hc i hi => by
    obtain ⟨ha, rfl⟩ := Array.getElem?_eq_some_iff.mp hc
    have q := List.all_eq_true.mp ((Array.all_eq_true_iff_forall_mem.mp hF) _ (Array.getElem_mem ha)) i (List.mem_range.mpr hi)
    simpa [Array.getElem?_eq_getElem hi] using q
  obtain ⟨hsets, hown0⟩ := atoms_of _ (rest_1_c_eq ▸ (show rest_1_c.before _ s = true from hrest))
  obtain ⟨i0, ei0⟩ := is_v g3
  obtain rfl : w0 = (.int i0) := Option.some.inj ei0
  obtain ⟨i1, ei1⟩ := is_v g5
  obtain rfl : w1 = (.int i1) := Option.some.inj ei1
  obtain ⟨i2, ei2⟩ := is_v g7
  obtain rfl : w2 = (.int i2) := Option.some.inj ei2
  obtain ⟨i3, ei3⟩ := is_v g8
  obtain rfl : w3 = (.int i3) := Option.some.inj ei3
  have hM : MetFree l x (head1 (Jvm.Cond.code x code maxLocals ret :: tables_1) room_1) (fun a U => a = #[(.int i0), (.int i1), (.int i2), (.int i3)] ∧ s.Warmed39 U.vm ∧ U.heap = s.heap ∧ CHv s consts_1 U.vm s.heap ∧ ∀ x ∈ ([] : List Addr), Safe s consts_1 U.vm s.heap x) (fun _ _ bl s _ => s.vm.MethodsKnown ∧ s.vm.FramesKnown bl) (fun _ U o U' => ∃ v L, o = .returned v ∧ Q_law s.heap.size v L ∧ CHr s consts_1 U.vm U.heap U'.vm U'.heap ∧ ReturnedEndW U o U' L room_1.cells room_1.slots) := by
    obtain ⟨cs, ecs⟩ := is_v (Cond.before_iff.mp (hsets _ (List.mem_of_getElem? (i := 1) rfl)))
    have hSc := Sta.start ecs (Or.inl (hsets _ (List.mem_of_getElem? (i := 0) rfl)))
    have hcs : ¬ (cs = (0 : Int32)) := fun q => by
      have w := not_v (Cond.before_iff.mp (hsets _ (List.mem_of_getElem? (i := 2) rfl)))
      rw [eq_i ecs (Term.int_eval 0) (by rw [q])] at w; cases w
    have hl : l.stackTraces = true := by unfold Launch.stackTraces; rw [hfl]; decide
    obtain ⟨ua, eu⟩ := arr_v (Cond.before_iff.mp (hsets _ (List.mem_of_getElem? (i := 17) rfl)))
    have hU := Sta.start eu (Or.inl (hsets _ (List.mem_of_getElem? (i := 15) rfl)))
    obtain ⟨sa, es⟩ := exa_v (Cond.before_iff.mp (hsets _ (List.mem_of_getElem? (i := 22) rfl)))
    have hV := Sta.start es (Or.inl (hsets _ (List.mem_of_getElem? (i := 20) rfl)))
    obtain ⟨fo, efo, hfo⟩ := isR_v (Cond.before_iff.mp (hsets _ (List.mem_of_getElem? (i := 8) rfl)))
    have hFo := Sta.start efo (Or.inl (hsets _ (List.mem_of_getElem? (i := 7) rfl)))
    rcases and_one (i0 >>> ((2 : Int32) &&& 31)) with hz | hz
    · rcases own_and3 i0 with hn | hn | hn | hn
      · exact rm_law_0 l s _ hw tables_1 i0 i1 i2 i3 ua sa cs fo s.heap s.heap.size (Nat.le_refl _) (Old.start s) ThS.start hU hV hl hSc hcs hFo hfo hz hn
      · exact rm_law_1 l s _ hw tables_1 i0 i1 i2 i3 ua sa cs fo s.heap s.heap.size (Nat.le_refl _) (Old.start s) ThS.start hU hV hl hSc hcs hFo hfo hz hn
      · exact rm_law_2 l s _ hw tables_1 i0 i1 i2 i3 ua sa cs fo s.heap s.heap.size (Nat.le_refl _) (Old.start s) ThS.start hU hV hl hSc hcs hFo hfo hz hn
      · exact rm_law_3 l s _ hw tables_1 i0 i1 i2 i3 ua sa cs fo s.heap s.heap.size (Nat.le_refl _) (Old.start s) ThS.start hU hV hl hSc hcs hFo hfo hz hn
    · exact rm_law_4 l s _ hw tables_1 i0 i1 i2 i3 ua sa cs fo s.heap s.heap.size (Nat.le_refl _) (Old.start s) ThS.start hU hV hl hSc hcs hFo hfo hz
  obtain ⟨n, o, h1, h2, h3, _, L, rfl, ⟨rfl, N⟩, -, hq⟩ := hM p e ha hc hk s m _ below hf ((Spec.applies_iff_loose hf).mp happ).1 ⟨rfl, State.Warmed39.refl s, rfl, CHv.start (own_EW hw) (fun p hp => hcalls.2.2.1 p hp) (hsets _ (List.mem_of_getElem? (i := 2) rfl)) (wi hw 15 rfl) (wi hw 1 rfl), sf0⟩ ⟨MethodsKnown_of_tablesKnown hcalls.2.1, FramesKnown_of_framesKnown hcalls.1 hf⟩
  refine ⟨n, _, h1, h2, h3, hpost _ _ _ _ _ _ ⟨Cond.after_iff.mpr rfl, Cond.after_iff.mpr (eq_i res_at (Term.int_eval (1)) rfl), trivial⟩ ⟨hq.1, hq.2.1, hq.2.2.1, (hq.2.2.2.sift fun y hy => Or.inr (N y hy)).mono (by decide) (by decide)⟩⟩
theorem main_1_1 : Claimed_1_1 := comes_1 fun _ _ _ _ _ _ h hF => ⟨h.1, hF⟩
theorem main_1_2 : Claimed_1_2 := comes_1 fun _ _ _ _ _ _ h hF => ⟨h.2.1, hF⟩
end Jvm.Pilot.@@N@@
namespace Jvm.Pilot.@@N@@
open Jvm Jvm.ClassFile Sem Op Lib Jvm.Free Jvm.Stand Jvm.Pilot.@@N@@.Jvm.D
/-! MADE BY PROGRAM (witnessworld.py) out of the Statement's table words and the real class files: 42 classes; the members and pool entries that the words name. The judged class is class 1, her method 1. -/
namespace start1
open Jvm.ClassFile
def u (s : String) : CpInfo := .utf8 (stringToUtf16 s)
/-- a pool by its gaps: so many unusable entries, then the entry; so many at the end -/
def gap : Nat → List CpInfo → List CpInfo
  | 0, r => r
  | n + 1, r => .unusable :: gap n r
def poolList (es : List (Nat × CpInfo)) (last : Nat) : List CpInfo := es.foldr (fun e r => gap e.1 (e.2 :: r)) (gap last [])
def pool (es : List (Nat × CpInfo)) (last : Nat) : Array CpInfo := ⟨poolList es last⟩
def fileOf (pool : Array CpInfo) (this : Nat) (attrs : Array Attribute := #[]) (ms : Array MethodInfo := #[]) (fl : Nat := 33) (sup : Nat := 0) (ifs : Array Nat := #[]) (fds : Array FieldInfo := #[]) : ClassFile where
  minorVersion := 0
  majorVersion := 65
  constantPool := pool
  accessFlags := fl
  thisClass := this
  superClass := sup
  interfaces := ifs
  fields := fds
  methods := ms
  attributes := attrs
def plain (name : String) (sup : Option ClassId) : Class where
  name := name
  kind := .ordinary
  loader := none
  accessFlags := 33
  super := sup
  interfaces := #[]
  cf := none
  fields := #[]
  methods := #[]
  instanceTypes := #[]
  staticTypes := #[]
  resolved := #[]
  callSites := []
  init := .initialized
  statics := none
  mirror := none

def pool0 : Array CpInfo := pool [(5, u "<init>"), (0, u "()V"), (1, .class_ 10), (1, u "java/lang/Object")] 113

def k0c0 : Code := { maxStack := 0, maxLocals := 1, code := object_method_1_code, exceptionTable := #[], attributes := #[] }
def k0m0 : Method := { name := "<init>", desc := "()V", sig := { parameters := [], returnType := none }, accessFlags := 1, code := some k0c0 }
/-- java/lang/Object -/
def k0 : Class := { plain "java/lang/Object" none with
  accessFlags := 33
  interfaces := #[]
  cf := some (fileOf pool0 8 #[] #[{ accessFlags := 1, nameIndex := 5, descriptorIndex := 6, attributes := #[] }] 33 0 #[] #[])
  fields := #[]
  methods := #[k0m0]
  instanceTypes := #[]
  staticTypes := #[]
  resolved := Array.replicate 124 none
  statics := none }

def pool1 : Array CpInfo := pool [(2, .class_ 4), (1, u "java/lang/Object"), (0, u "<init>"), (0, u "()V"), (0, .class_ 8), (0, u "java/lang/String"), (0, .methodref 7 10), (0, .nameAndType 5 11), (0, u "([C)V"), (0, .methodref 7 13), (0, .nameAndType 14 15), (0, u "valueOf"), (0, u "(C)Ljava/lang/String;"), (0, .methodref 17 18), (0, .class_ 19), (0, .nameAndType 20 21), (0, u "com/example/dipper/dipper/store/NotFoundException"), (0, u "room"), (0, u "(Ljava/lang/String;)Lcom/example/dipper/dipper/store/NotFoundException;"), (0, .methodref 17 23), (0, .nameAndType 24 25), (0, u "getMessage"), (0, u "()Ljava/lang/String;"), (0, .methodref 7 27), (0, .nameAndType 28 29), (0, u "length"), (0, u "()I"), (0, .methodref 31 32), (0, .class_ 33), (0, .nameAndType 34 35), (0, u "com/example/dipper/dipper/store/NotFoundExceptionRoomPinLaw"), (0, u "at"), (0, u "(Ljava/lang/String;[CII)Z"), (0, .methodref 7 37), (0, .nameAndType 38 39), (0, u "charAt"), (0, u "(I)C"), (2, u "law"), (0, u "(IIII)Z")] 5

def k1m0 : Method := { name := "<init>", desc := "()V", sig := { parameters := [], returnType := none }, accessFlags := 2, code := none }
def k1c1 : Code := { maxStack := 6, maxLocals := 15, code := code, exceptionTable := #[], attributes := #[] }
def k1m1 : Method := { name := "law", desc := "(IIII)Z", sig := { parameters := [.int, .int, .int, .int], returnType := some .boolean }, accessFlags := 9, code := some k1c1 }
def k1c2 : Code := { maxStack := 3, maxLocals := 4, code := method_3_code, exceptionTable := #[], attributes := #[] }
def k1m2 : Method := { name := "at", desc := "(Ljava/lang/String;[CII)Z", sig := { parameters := [(.object "java/lang/String"), (.array .char), .int, .int], returnType := some .boolean }, accessFlags := 10, code := some k1c2 }
/-- com/example/dipper/dipper/store/NotFoundExceptionRoomPinLaw -/
def k1 : Class := { plain "com/example/dipper/dipper/store/NotFoundExceptionRoomPinLaw" (some 0) with
  accessFlags := 49
  interfaces := #[]
  cf := some (fileOf pool1 31 #[] #[{ accessFlags := 2, nameIndex := 5, descriptorIndex := 6, attributes := #[] }, { accessFlags := 9, nameIndex := 42, descriptorIndex := 43, attributes := #[] }, { accessFlags := 10, nameIndex := 34, descriptorIndex := 35, attributes := #[] }] 49 2 #[] #[])
  fields := #[]
  methods := #[k1m0, k1m1, k1m2]
  instanceTypes := #[]
  staticTypes := #[]
  resolved := Array.replicate 49 none
  statics := none }

def pool2 : Array CpInfo := pool [(1, .class_ 2), (0, u "java/io/Serializable"), (0, .class_ 4), (0, u "java/lang/Object")] 2

/-- java/io/Serializable -/
def k2 : Class := { plain "java/io/Serializable" (some 0) with
  accessFlags := 1537
  interfaces := #[]
  cf := some (fileOf pool2 1 #[] #[] 1537 3 #[] #[])
  fields := #[]
  methods := #[]
  instanceTypes := #[]
  staticTypes := #[]
  resolved := Array.replicate 7 none
  statics := none }

def pool3 : Array CpInfo := pool [(1, .class_ 2), (0, u "java/lang/Comparable"), (0, .class_ 4), (0, u "java/lang/Object")] 7

/-- java/lang/Comparable -/
def k3 : Class := { plain "java/lang/Comparable" (some 0) with
  accessFlags := 1537
  interfaces := #[]
  cf := some (fileOf pool3 1 #[] #[] 1537 3 #[] #[])
  fields := #[]
  methods := #[]
  instanceTypes := #[]
  staticTypes := #[]
  resolved := Array.replicate 12 none
  statics := none }

def pool4 : Array CpInfo := pool [(2, .class_ 4), (1, u "java/lang/CharSequence"), (42, .class_ 48), (0, u "java/lang/CharSequence$1CodePointIterator"), (10, .class_ 60), (0, u "java/lang/CharSequence$1CharIterator"), (5, .class_ 67), (0, u "java/lang/Object")] 63

/-- java/lang/CharSequence -/
def k4 : Class := { plain "java/lang/CharSequence" (some 0) with
  accessFlags := 1537
  interfaces := #[]
  cf := some (fileOf pool4 2 #[.nestMembers #[47, 59]] #[] 1537 66 #[] #[])
  fields := #[]
  methods := #[]
  instanceTypes := #[]
  staticTypes := #[]
  resolved := Array.replicate 131 none
  statics := none }

def pool5 : Array CpInfo := pool [(1, .class_ 2), (0, u "java/lang/constant/Constable"), (0, .class_ 4), (0, u "java/lang/Object")] 6

/-- java/lang/constant/Constable -/
def k5 : Class := { plain "java/lang/constant/Constable" (some 0) with
  accessFlags := 1537
  interfaces := #[]
  cf := some (fileOf pool5 1 #[] #[] 1537 3 #[] #[])
  fields := #[]
  methods := #[]
  instanceTypes := #[]
  staticTypes := #[]
  resolved := Array.replicate 11 none
  statics := none }

def pool6 : Array CpInfo := pool [(1, .class_ 2), (0, u "java/lang/constant/ConstantDesc"), (0, .class_ 4), (0, u "java/lang/Object")] 32

/-- java/lang/constant/ConstantDesc -/
def k6 : Class := { plain "java/lang/constant/ConstantDesc" (some 0) with
  accessFlags := 1537
  interfaces := #[]
  cf := some (fileOf pool6 1 #[] #[] 1537 3 #[] #[])
  fields := #[]
  methods := #[]
  instanceTypes := #[]
  staticTypes := #[]
  resolved := Array.replicate 37 none
  statics := none }

def pool7 : Array CpInfo := pool [(1, .methodref 2 3), (0, .class_ 4), (0, .nameAndType 5 6), (0, u "java/lang/Object"), (0, u "<init>"), (0, u "()V"), (0, .string 8), (0, u ""), (0, .fieldref 10 11), (0, .class_ 12), (0, .nameAndType 13 14), (0, u "java/lang/String"), (0, u "value"), (0, u "[B"), (0, .fieldref 10 16), (0, .nameAndType 17 18), (0, u "coder"), (0, u "B"), (2, u "hash"), (0, u "I"), (2, u "hashIsZero"), (0, u "Z"), (0, .methodref 10 28), (0, .nameAndType 5 29), (0, u "([CIILjava/lang/Void;)V"), (8, .fieldref 10 39), (0, .nameAndType 40 26), (0, u "COMPACT_STRINGS"), (1, .class_ 44), (1, u "java/lang/StringUTF16"), (0, u "compress"), (1, .methodref 42 48), (0, .nameAndType 49 50), (0, u "coderFromArrayLen"), (0, u "([BI)B"), (2, u "toBytes"), (0, .methodref 55 56), (0, .class_ 57), (0, .nameAndType 58 59), (0, u "java/util/Arrays"), (0, u "copyOfRange"), (0, u "([BII)[B"), (47, .class_ 109), (1, u "java/lang/StringLatin1"), (32, u "()Z"), (34, .methodref 42 178), (0, .nameAndType 45 179), (0, u "([CII)[B"), (13, .class_ 195), (1, u "java/lang/System"), (13, .methodref 10 210), (0, .nameAndType 5 211), (0, u "([BB)V"), (0, .methodref 193 213), (0, .nameAndType 214 215), (0, u "arraycopy"), (0, u "(Ljava/lang/Object;ILjava/lang/Object;II)V"), (118, u "()I"), (0, .methodref 10 336), (0, .nameAndType 17 337), (0, u "()B"), (2, u "()[B"), (22, u "([BI)C"), (5, u "(C)Z"), (21, u "(II)V"), (35, u "(I)C"), (61, .methodref 10 490), (0, .nameAndType 5 491), (0, u "(Ljava/lang/AbstractStringBuilder;Ljava/lang/Void;)V"), (0, .methodref 10 493), (0, .nameAndType 494 142), (0, u "isLatin1"), (0, .methodref 107 496), (0, .nameAndType 497 363), (0, u "charAt"), (3, u "checkIndex"), (4, .nameAndType 507 334), (0, u "length"), (24, u "getBytes"), (16, .methodref 550 506), (0, .class_ 551), (0, u "java/lang/AbstractStringBuilder"), (0, .methodref 550 553), (0, .nameAndType 554 340), (0, u "getValue"), (20, .class_ 576), (0, u "java/lang/CharSequence"), (22, u "CASE_INSENSITIVE_ORDER"), (0, u "Ljava/util/Comparator;"), (181, u "valueOf"), (0, u "(C)Ljava/lang/String;"), (37, u "([BIB)V"), (188, u "([C)V"), (4, .methodref 107 1016), (0, .nameAndType 1017 369), (0, u "canEncode"), (0, .methodref 107 1019), (0, .nameAndType 53 1020), (0, u "(C)[B"), (26, .methodref 550 493), (5, .fieldref 1054 1055), (0, .class_ 1056), (0, .nameAndType 1057 1058), (0, u "jdk/internal/util/Preconditions"), (0, u "SIOOBE_FORMATTER"), (0, u "Ljava/util/function/BiFunction;"), (0, .methodref 1054 1060), (0, .nameAndType 501 1061), (0, u "(IILjava/util/function/BiFunction;)I"), (39, u "serialPersistentFields"), (0, u "[Ljava/io/ObjectStreamField;"), (0, .class_ 1104), (0, u "java/lang/String$CaseInsensitiveComparator"), (1, .class_ 1107), (0, u "java/io/Serializable"), (0, .class_ 1109), (0, u "java/lang/Comparable"), (0, .class_ 1111), (0, u "java/lang/constant/Constable"), (0, .class_ 1113), (0, u "java/lang/constant/ConstantDesc"), (2, u "serialVersionUID"), (0, u "J"), (3, u "REPL"), (0, u "C"), (2, u "LATIN1"), (1, u "UTF16"), (105, u "(Ljava/lang/StringBuilder;)V")] 217

def k7m0 : Method := { name := "<init>", desc := "()V", sig := { parameters := [], returnType := none }, accessFlags := 1, code := none }
def k7c1 : Code := { maxStack := 5, maxLocals := 2, code := jdk_42_method_3_code, exceptionTable := #[], attributes := #[] }
def k7m1 : Method := { name := "<init>", desc := "([C)V", sig := { parameters := [(.array .char)], returnType := none }, accessFlags := 1, code := some k7c1 }
def k7c2 : Code := { maxStack := 3, maxLocals := 2, code := jdk_42_method_53_code, exceptionTable := #[], attributes := #[] }
def k7m2 : Method := { name := "<init>", desc := "(Ljava/lang/StringBuilder;)V", sig := { parameters := [(.object "java/lang/StringBuilder")], returnType := none }, accessFlags := 1, code := some k7c2 }
def k7c3 : Code := { maxStack := 2, maxLocals := 1, code := jdk_42_method_54_code, exceptionTable := #[], attributes := #[] }
def k7m3 : Method := { name := "length", desc := "()I", sig := { parameters := [], returnType := some .int }, accessFlags := 1, code := some k7c3 }
def k7c4 : Code := { maxStack := 2, maxLocals := 2, code := jdk_42_method_56_code, exceptionTable := #[], attributes := #[] }
def k7m4 : Method := { name := "charAt", desc := "(I)C", sig := { parameters := [.int], returnType := some .char }, accessFlags := 1, code := some k7c4 }
def k7c5 : Code := { maxStack := 4, maxLocals := 1, code := jdk_42_method_139_code, exceptionTable := #[], attributes := #[] }
def k7m5 : Method := { name := "valueOf", desc := "(C)Ljava/lang/String;", sig := { parameters := [.char], returnType := some (.object "java/lang/String") }, accessFlags := 9, code := some k7c5 }
def k7c6 : Code := { maxStack := 5, maxLocals := 4, code := jdk_42_method_147_code, exceptionTable := #[], attributes := #[] }
def k7m6 : Method := { name := "getBytes", desc := "([BIB)V", sig := { parameters := [(.array .byte), .int, .byte], returnType := none }, accessFlags := 0, code := some k7c6 }
def k7c7 : Code := { maxStack := 4, maxLocals := 6, code := jdk_42_method_149_code, exceptionTable := #[], attributes := #[] }
def k7m7 : Method := { name := "<init>", desc := "([CIILjava/lang/Void;)V", sig := { parameters := [(.array .char), .int, .int, (.object "java/lang/Void")], returnType := none }, accessFlags := 2, code := some k7c7 }
def k7c8 : Code := { maxStack := 5, maxLocals := 5, code := jdk_42_method_150_code, exceptionTable := #[], attributes := #[] }
def k7m8 : Method := { name := "<init>", desc := "(Ljava/lang/AbstractStringBuilder;Ljava/lang/Void;)V", sig := { parameters := [(.object "java/lang/AbstractStringBuilder"), (.object "java/lang/Void")], returnType := none }, accessFlags := 0, code := some k7c8 }
def k7c9 : Code := { maxStack := 2, maxLocals := 3, code := jdk_42_method_151_code, exceptionTable := #[], attributes := #[] }
def k7m9 : Method := { name := "<init>", desc := "([BB)V", sig := { parameters := [(.array .byte), .byte], returnType := none }, accessFlags := 0, code := some k7c9 }
def k7c10 : Code := { maxStack := 1, maxLocals := 1, code := jdk_42_method_152_code, exceptionTable := #[], attributes := #[] }
def k7m10 : Method := { name := "coder", desc := "()B", sig := { parameters := [], returnType := some .byte }, accessFlags := 0, code := some k7c10 }
def k7c11 : Code := { maxStack := 1, maxLocals := 1, code := jdk_42_method_154_code, exceptionTable := #[], attributes := #[] }
def k7m11 : Method := { name := "isLatin1", desc := "()Z", sig := { parameters := [], returnType := some .boolean }, accessFlags := 0, code := some k7c11 }
def k7c12 : Code := { maxStack := 3, maxLocals := 2, code := jdk_42_method_155_code, exceptionTable := #[], attributes := #[] }
def k7m12 : Method := { name := "checkIndex", desc := "(II)V", sig := { parameters := [.int, .int], returnType := none }, accessFlags := 8, code := some k7c12 }
/-- java/lang/String -/
def k7 : Class := { plain "java/lang/String" (some 0) with
  accessFlags := 49
  interfaces := #[2, 3, 4, 5, 6]
  cf := some (fileOf pool7 10 #[.nestMembers #[1103]] #[{ accessFlags := 1, nameIndex := 5, descriptorIndex := 6, attributes := #[] }, { accessFlags := 1, nameIndex := 5, descriptorIndex := 1010, attributes := #[] }, { accessFlags := 1, nameIndex := 5, descriptorIndex := 1233, attributes := #[] }, { accessFlags := 1, nameIndex := 507, descriptorIndex := 334, attributes := #[] }, { accessFlags := 1, nameIndex := 497, descriptorIndex := 427, attributes := #[] }, { accessFlags := 9, nameIndex := 782, descriptorIndex := 783, attributes := #[] }, { accessFlags := 0, nameIndex := 532, descriptorIndex := 821, attributes := #[] }, { accessFlags := 2, nameIndex := 5, descriptorIndex := 29, attributes := #[] }, { accessFlags := 0, nameIndex := 5, descriptorIndex := 491, attributes := #[] }, { accessFlags := 0, nameIndex := 5, descriptorIndex := 211, attributes := #[] }, { accessFlags := 0, nameIndex := 17, descriptorIndex := 337, attributes := #[] }, { accessFlags := 0, nameIndex := 494, descriptorIndex := 142, attributes := #[] }, { accessFlags := 8, nameIndex := 501, descriptorIndex := 391, attributes := #[] }] 49 2 #[1106, 1108, 575, 1110, 1112] #[{ accessFlags := 18, nameIndex := 13, descriptorIndex := 14, attributes := #[] }, { accessFlags := 18, nameIndex := 17, descriptorIndex := 18, attributes := #[] }, { accessFlags := 2, nameIndex := 21, descriptorIndex := 22, attributes := #[] }, { accessFlags := 2, nameIndex := 25, descriptorIndex := 26, attributes := #[] }, { accessFlags := 26, nameIndex := 1116, descriptorIndex := 1117, attributes := #[] }, { accessFlags := 24, nameIndex := 40, descriptorIndex := 26, attributes := #[] }, { accessFlags := 26, nameIndex := 1101, descriptorIndex := 1102, attributes := #[] }, { accessFlags := 26, nameIndex := 1121, descriptorIndex := 1122, attributes := #[] }, { accessFlags := 25, nameIndex := 599, descriptorIndex := 600, attributes := #[] }, { accessFlags := 24, nameIndex := 1125, descriptorIndex := 18, attributes := #[] }, { accessFlags := 24, nameIndex := 1127, descriptorIndex := 18, attributes := #[] }])
  fields := #[{ name := "value", type := (.array .byte), accessFlags := 18, slot := 0, constantValue := 0 }, { name := "coder", type := .byte, accessFlags := 18, slot := 1, constantValue := 0 }, { name := "hash", type := .int, accessFlags := 2, slot := 2, constantValue := 0 }, { name := "hashIsZero", type := .boolean, accessFlags := 2, slot := 3, constantValue := 0 }, { name := "serialVersionUID", type := .long, accessFlags := 26, slot := 0, constantValue := 0 }, { name := "COMPACT_STRINGS", type := .boolean, accessFlags := 24, slot := 1, constantValue := 0 }, { name := "serialPersistentFields", type := (.array (.object "java/io/ObjectStreamField")), accessFlags := 26, slot := 2, constantValue := 0 }, { name := "REPL", type := .char, accessFlags := 26, slot := 3, constantValue := 0 }, { name := "CASE_INSENSITIVE_ORDER", type := (.object "java/util/Comparator"), accessFlags := 25, slot := 4, constantValue := 0 }, { name := "LATIN1", type := .byte, accessFlags := 24, slot := 5, constantValue := 0 }, { name := "UTF16", type := .byte, accessFlags := 24, slot := 6, constantValue := 0 }]
  methods := #[k7m0, k7m1, k7m2, k7m3, k7m4, k7m5, k7m6, k7m7, k7m8, k7m9, k7m10, k7m11, k7m12]
  instanceTypes := #[(.array .byte), .byte, .int, .boolean]
  staticTypes := #[.long, .boolean, (.array (.object "java/io/ObjectStreamField")), .char, (.object "java/util/Comparator"), .byte, .byte]
  resolved := Array.replicate 1451 none
  statics := some 0 }

def pool8 : Array CpInfo := pool [(1, .methodref 2 3), (0, .class_ 4), (0, .nameAndType 5 6), (0, u "java/lang/Object"), (0, u "<init>"), (0, u "()V"), (0, .fieldref 8 9), (0, .class_ 10), (0, .nameAndType 11 12), (0, u "java/lang/Throwable"), (0, u "cause"), (0, u "Ljava/lang/Throwable;"), (0, .fieldref 8 14), (0, .nameAndType 15 16), (0, u "UNASSIGNED_STACK"), (0, u "[Ljava/lang/StackTraceElement;"), (0, .fieldref 8 18), (0, .nameAndType 19 16), (0, u "stackTrace"), (0, .fieldref 8 21), (0, .nameAndType 22 23), (0, u "SUPPRESSED_SENTINEL"), (0, u "Ljava/util/List;"), (0, .fieldref 8 25), (0, .nameAndType 26 23), (0, u "suppressedExceptions"), (0, .methodref 8 28), (0, .nameAndType 29 30), (0, u "fillInStackTrace"), (0, u "()Ljava/lang/Throwable;"), (0, .fieldref 8 32), (0, .nameAndType 33 34), (0, u "detailMessage"), (0, u "Ljava/lang/String;"), (3, u "()Ljava/lang/String;"), (2, u "getMessage"), (51, .class_ 94), (0, u "java/lang/Throwable$WrappedPrintStream"), (6, .class_ 103), (1, u "java/lang/Throwable$PrintStreamOrWriter"), (61, u "$assertionsDisabled"), (0, u "Z"), (26, .class_ 194), (0, u "java/lang/Throwable$WrappedPrintWriter"), (3, .fieldref 8 199), (0, .nameAndType 200 201), (0, u "backtrace"), (0, u "Ljava/lang/Object;"), (0, .methodref 8 203), (0, .nameAndType 29 204), (0, u "(I)Ljava/lang/Throwable;"), (6, u "depth"), (0, u "I"), (10, u "(Ljava/lang/String;)V"), (45, .class_ 271), (1, u "java/lang/Throwable$SentinelHolder"), (32, u "EMPTY_THROWABLE_ARRAY"), (0, u "[Ljava/lang/Throwable;"), (12, .class_ 319), (0, u "java/io/Serializable"), (0, u "serialVersionUID"), (0, u "J"), (5, u "NULL_CAUSE_MESSAGE"), (0, u "SELF_SUPPRESSION_MESSAGE"), (0, u "CAUSE_CAPTION"), (0, u "SUPPRESSED_CAPTION")] 73

def k8c0 : Code := { maxStack := 2, maxLocals := 1, code := jdk_78_method_1_code, exceptionTable := #[], attributes := #[] }
def k8m0 : Method := { name := "<init>", desc := "()V", sig := { parameters := [], returnType := none }, accessFlags := 1, code := some k8c0 }
def k8c1 : Code := { maxStack := 2, maxLocals := 2, code := jdk_78_method_2_code, exceptionTable := #[], attributes := #[] }
def k8m1 : Method := { name := "<init>", desc := "(Ljava/lang/String;)V", sig := { parameters := [(.object "java/lang/String")], returnType := none }, accessFlags := 1, code := some k8c1 }
def k8c2 : Code := { maxStack := 1, maxLocals := 1, code := jdk_78_method_6_code, exceptionTable := #[], attributes := #[] }
def k8m2 : Method := { name := "getMessage", desc := "()Ljava/lang/String;", sig := { parameters := [], returnType := some (.object "java/lang/String") }, accessFlags := 1, code := some k8c2 }
def k8c3 : Code := { maxStack := 2, maxLocals := 1, code := ⟨#[0x2a, 0xb4, 0x00, 0x11, 0xc7, 0x00, 0x0a, 0x2a, 0xb4, 0x00, 0xc6, 0xc6, 0x00, 0x10, 0x2a, 0x03, 0xb6, 0x00, 0xca, 0x57, 0x2a, 0xb2, 0x00, 0x0d, 0xb5, 0x00, 0x11, 0x2a, 0xb0]⟩, exceptionTable := #[], attributes := #[] }
def k8m3 : Method := { name := "fillInStackTrace", desc := "()Ljava/lang/Throwable;", sig := { parameters := [], returnType := some (.object "java/lang/Throwable") }, accessFlags := 33, code := some k8c3 }
def k8m4 : Method := { name := "fillInStackTrace", desc := "(I)Ljava/lang/Throwable;", sig := { parameters := [.int], returnType := some (.object "java/lang/Throwable") }, accessFlags := 258, code := none }
/-- java/lang/Throwable -/
def k8 : Class := { plain "java/lang/Throwable" (some 0) with
  accessFlags := 33
  interfaces := #[2]
  cf := some (fileOf pool8 8 #[.nestMembers #[193, 93, 101, 269]] #[{ accessFlags := 1, nameIndex := 5, descriptorIndex := 6, attributes := #[] }, { accessFlags := 1, nameIndex := 5, descriptorIndex := 223, attributes := #[] }, { accessFlags := 1, nameIndex := 41, descriptorIndex := 38, attributes := #[] }, { accessFlags := 33, nameIndex := 29, descriptorIndex := 30, attributes := #[] }, { accessFlags := 258, nameIndex := 29, descriptorIndex := 204, attributes := #[] }] 33 2 #[318] #[{ accessFlags := 26, nameIndex := 320, descriptorIndex := 321, attributes := #[] }, { accessFlags := 130, nameIndex := 200, descriptorIndex := 201, attributes := #[] }, { accessFlags := 2, nameIndex := 33, descriptorIndex := 34, attributes := #[] }, { accessFlags := 26, nameIndex := 15, descriptorIndex := 16, attributes := #[] }, { accessFlags := 2, nameIndex := 11, descriptorIndex := 12, attributes := #[] }, { accessFlags := 2, nameIndex := 19, descriptorIndex := 16, attributes := #[] }, { accessFlags := 130, nameIndex := 211, descriptorIndex := 212, attributes := #[] }, { accessFlags := 26, nameIndex := 22, descriptorIndex := 23, attributes := #[] }, { accessFlags := 2, nameIndex := 26, descriptorIndex := 23, attributes := #[] }, { accessFlags := 26, nameIndex := 327, descriptorIndex := 34, attributes := #[] }, { accessFlags := 26, nameIndex := 328, descriptorIndex := 34, attributes := #[] }, { accessFlags := 26, nameIndex := 329, descriptorIndex := 34, attributes := #[] }, { accessFlags := 26, nameIndex := 330, descriptorIndex := 34, attributes := #[] }, { accessFlags := 26, nameIndex := 304, descriptorIndex := 305, attributes := #[] }, { accessFlags := 4120, nameIndex := 165, descriptorIndex := 166, attributes := #[] }])
  fields := #[{ name := "serialVersionUID", type := .long, accessFlags := 26, slot := 0, constantValue := 0 }, { name := "backtrace", type := (.object "java/lang/Object"), accessFlags := 130, slot := 0, constantValue := 0 }, { name := "detailMessage", type := (.object "java/lang/String"), accessFlags := 2, slot := 1, constantValue := 0 }, { name := "UNASSIGNED_STACK", type := (.array (.object "java/lang/StackTraceElement")), accessFlags := 26, slot := 1, constantValue := 0 }, { name := "cause", type := (.object "java/lang/Throwable"), accessFlags := 2, slot := 2, constantValue := 0 }, { name := "stackTrace", type := (.array (.object "java/lang/StackTraceElement")), accessFlags := 2, slot := 3, constantValue := 0 }, { name := "depth", type := .int, accessFlags := 130, slot := 4, constantValue := 0 }, { name := "SUPPRESSED_SENTINEL", type := (.object "java/util/List"), accessFlags := 26, slot := 2, constantValue := 0 }, { name := "suppressedExceptions", type := (.object "java/util/List"), accessFlags := 2, slot := 5, constantValue := 0 }, { name := "NULL_CAUSE_MESSAGE", type := (.object "java/lang/String"), accessFlags := 26, slot := 3, constantValue := 0 }, { name := "SELF_SUPPRESSION_MESSAGE", type := (.object "java/lang/String"), accessFlags := 26, slot := 4, constantValue := 0 }, { name := "CAUSE_CAPTION", type := (.object "java/lang/String"), accessFlags := 26, slot := 5, constantValue := 0 }, { name := "SUPPRESSED_CAPTION", type := (.object "java/lang/String"), accessFlags := 26, slot := 6, constantValue := 0 }, { name := "EMPTY_THROWABLE_ARRAY", type := (.array (.object "java/lang/Throwable")), accessFlags := 26, slot := 7, constantValue := 0 }, { name := "$assertionsDisabled", type := .boolean, accessFlags := 4120, slot := 8, constantValue := 0 }]
  methods := #[k8m0, k8m1, k8m2, k8m3, k8m4]
  instanceTypes := #[(.object "java/lang/Object"), (.object "java/lang/String"), (.object "java/lang/Throwable"), (.array (.object "java/lang/StackTraceElement")), .int, (.object "java/util/List")]
  staticTypes := #[.long, (.array (.object "java/lang/StackTraceElement")), (.object "java/util/List"), (.object "java/lang/String"), (.object "java/lang/String"), (.object "java/lang/String"), (.object "java/lang/String"), (.array (.object "java/lang/Throwable")), .boolean]
  resolved := Array.replicate 404 none
  statics := some 1 }

def pool9 : Array CpInfo := pool [(2, .class_ 4), (1, u "java/lang/Throwable"), (0, u "<init>"), (0, u "()V"), (0, .methodref 2 8), (0, .nameAndType 5 9), (0, u "(Ljava/lang/String;)V"), (9, .class_ 20), (0, u "java/lang/Exception"), (0, u "serialVersionUID"), (0, u "J")] 17

def k9m0 : Method := { name := "<init>", desc := "()V", sig := { parameters := [], returnType := none }, accessFlags := 1, code := none }
def k9c1 : Code := { maxStack := 2, maxLocals := 2, code := jdk_59_method_2_code, exceptionTable := #[], attributes := #[] }
def k9m1 : Method := { name := "<init>", desc := "(Ljava/lang/String;)V", sig := { parameters := [(.object "java/lang/String")], returnType := none }, accessFlags := 1, code := some k9c1 }
/-- java/lang/Exception -/
def k9 : Class := { plain "java/lang/Exception" (some 8) with
  accessFlags := 33
  interfaces := #[]
  cf := some (fileOf pool9 19 #[] #[{ accessFlags := 1, nameIndex := 5, descriptorIndex := 6, attributes := #[] }, { accessFlags := 1, nameIndex := 5, descriptorIndex := 9, attributes := #[] }] 33 2 #[] #[{ accessFlags := 24, nameIndex := 21, descriptorIndex := 22, attributes := #[] }])
  fields := #[{ name := "serialVersionUID", type := .long, accessFlags := 24, slot := 0, constantValue := 0 }]
  methods := #[k9m0, k9m1]
  instanceTypes := #[(.object "java/lang/Object"), (.object "java/lang/String"), (.object "java/lang/Throwable"), (.array (.object "java/lang/StackTraceElement")), .int, (.object "java/util/List")]
  staticTypes := #[.long]
  resolved := Array.replicate 40 none
  statics := none }

def pool10 : Array CpInfo := pool [(2, .class_ 4), (1, u "java/lang/Exception"), (0, u "<init>"), (0, u "()V"), (0, .methodref 2 8), (0, .nameAndType 5 9), (0, u "(Ljava/lang/String;)V"), (9, .class_ 20), (0, u "java/lang/RuntimeException"), (0, u "serialVersionUID"), (0, u "J")] 17

def k10m0 : Method := { name := "<init>", desc := "()V", sig := { parameters := [], returnType := none }, accessFlags := 1, code := none }
def k10c1 : Code := { maxStack := 2, maxLocals := 2, code := jdk_58_method_2_code, exceptionTable := #[], attributes := #[] }
def k10m1 : Method := { name := "<init>", desc := "(Ljava/lang/String;)V", sig := { parameters := [(.object "java/lang/String")], returnType := none }, accessFlags := 1, code := some k10c1 }
/-- java/lang/RuntimeException -/
def k10 : Class := { plain "java/lang/RuntimeException" (some 9) with
  accessFlags := 33
  interfaces := #[]
  cf := some (fileOf pool10 19 #[] #[{ accessFlags := 1, nameIndex := 5, descriptorIndex := 6, attributes := #[] }, { accessFlags := 1, nameIndex := 5, descriptorIndex := 9, attributes := #[] }] 33 2 #[] #[{ accessFlags := 24, nameIndex := 21, descriptorIndex := 22, attributes := #[] }])
  fields := #[{ name := "serialVersionUID", type := .long, accessFlags := 24, slot := 0, constantValue := 0 }]
  methods := #[k10m0, k10m1]
  instanceTypes := #[(.object "java/lang/Object"), (.object "java/lang/String"), (.object "java/lang/Throwable"), (.array (.object "java/lang/StackTraceElement")), .int, (.object "java/util/List")]
  staticTypes := #[.long]
  resolved := Array.replicate 40 none
  statics := none }

def pool11 : Array CpInfo := pool [(1, .methodref 2 3), (0, .class_ 4), (0, .nameAndType 5 6), (0, u "java/lang/RuntimeException"), (0, u "<init>"), (0, u "(Ljava/lang/String;)V"), (0, .class_ 8), (0, u "com/example/dipper/dipper/store/NotFoundException"), (0, .class_ 10), (0, u "java/lang/StringBuilder"), (0, .methodref 9 12), (0, .nameAndType 5 13), (0, u "()V"), (0, .string 15), (0, u "No room has id '"), (0, .methodref 9 17), (0, .nameAndType 18 19), (0, u "append"), (0, u "(Ljava/lang/String;)Ljava/lang/StringBuilder;"), (0, .string 21), (0, u "'"), (0, .methodref 9 23), (0, .nameAndType 24 25), (0, u "toString"), (0, u "()Ljava/lang/String;"), (0, .methodref 7 3), (4, u "serialVersionUID"), (0, u "J"), (5, u "room"), (0, u "(Ljava/lang/String;)Lcom/example/dipper/dipper/store/NotFoundException;")] 4

def k11c0 : Code := { maxStack := 2, maxLocals := 2, code := prog_15_method_1_code, exceptionTable := #[], attributes := #[] }
def k11m0 : Method := { name := "<init>", desc := "(Ljava/lang/String;)V", sig := { parameters := [(.object "java/lang/String")], returnType := none }, accessFlags := 1, code := some k11c0 }
def k11c1 : Code := { maxStack := 4, maxLocals := 1, code := prog_15_method_2_code, exceptionTable := #[], attributes := #[] }
def k11m1 : Method := { name := "room", desc := "(Ljava/lang/String;)Lcom/example/dipper/dipper/store/NotFoundException;", sig := { parameters := [(.object "java/lang/String")], returnType := some (.object "com/example/dipper/dipper/store/NotFoundException") }, accessFlags := 9, code := some k11c1 }
/-- com/example/dipper/dipper/store/NotFoundException -/
def k11 : Class := { plain "com/example/dipper/dipper/store/NotFoundException" (some 10) with
  accessFlags := 33
  interfaces := #[]
  cf := some (fileOf pool11 7 #[] #[{ accessFlags := 1, nameIndex := 5, descriptorIndex := 6, attributes := #[] }, { accessFlags := 9, nameIndex := 38, descriptorIndex := 39, attributes := #[] }] 33 2 #[] #[{ accessFlags := 26, nameIndex := 31, descriptorIndex := 32, attributes := #[] }])
  fields := #[{ name := "serialVersionUID", type := .long, accessFlags := 26, slot := 0, constantValue := 0 }]
  methods := #[k11m0, k11m1]
  instanceTypes := #[(.object "java/lang/Object"), (.object "java/lang/String"), (.object "java/lang/Throwable"), (.array (.object "java/lang/StackTraceElement")), .int, (.object "java/util/List")]
  staticTypes := #[.long]
  resolved := Array.replicate 44 none
  statics := none }

def pool12 : Array CpInfo := pool [(1, .class_ 2), (0, u "java/lang/Appendable"), (0, .class_ 4), (0, u "java/lang/Object")] 9

/-- java/lang/Appendable -/
def k12 : Class := { plain "java/lang/Appendable" (some 0) with
  accessFlags := 1537
  interfaces := #[]
  cf := some (fileOf pool12 1 #[] #[] 1537 3 #[] #[])
  fields := #[]
  methods := #[]
  instanceTypes := #[]
  staticTypes := #[]
  resolved := Array.replicate 14 none
  statics := none }

def pool13 : Array CpInfo := pool [(1, .class_ 2), (0, u "java/lang/String"), (0, .methodref 4 5), (0, .class_ 6), (0, .nameAndType 7 8), (0, u "java/lang/Object"), (0, u "<init>"), (0, u "()V"), (1, .class_ 12), (1, u "java/lang/AbstractStringBuilder"), (0, u "EMPTYVALUE"), (0, u "[B"), (0, .fieldref 10 16), (0, .nameAndType 17 14), (0, u "value"), (0, .fieldref 1 19), (0, .nameAndType 20 21), (0, u "COMPACT_STRINGS"), (0, u "Z"), (0, .fieldref 10 23), (0, .nameAndType 24 25), (0, u "coder"), (0, u "B"), (6, .methodref 1 33), (0, .nameAndType 34 35), (0, u "length"), (0, u "()I"), (3, .integer 2147483647), (0, .methodref 1 41), (0, .nameAndType 24 42), (0, u "()B"), (2, u "append"), (0, u "(Ljava/lang/String;)Ljava/lang/AbstractStringBuilder;"), (1, .class_ 49), (0, u "java/lang/CharSequence"), (19, u "(Ljava/lang/String;)V"), (5, u "maybeLatin1"), (3, .fieldref 10 80), (0, .nameAndType 81 82), (0, u "count"), (0, u "I"), (0, .methodref 10 84), (0, .nameAndType 85 86), (0, u "isLatin1"), (0, u "()Z"), (13, .methodref 10 101), (0, .nameAndType 102 103), (0, u "ensureCapacityInternal"), (0, u "(I)V"), (0, .methodref 10 105), (0, .nameAndType 106 107), (0, u "newCapacity"), (0, u "(I)I"), (0, .methodref 109 110), (0, .class_ 111), (0, .nameAndType 112 113), (0, u "java/util/Arrays"), (0, u "copyOf"), (0, u "([BI)[B"), (0, .methodref 115 116), (0, .class_ 117), (0, .nameAndType 118 119), (0, u "jdk/internal/util/ArraysSupport"), (0, u "newLength"), (0, u "(III)I"), (84, .methodref 10 205), (0, .nameAndType 206 207), (0, u "appendNull"), (0, u "()Ljava/lang/AbstractStringBuilder;"), (0, .methodref 10 209), (0, .nameAndType 210 211), (0, u "putStringAt"), (0, u "(ILjava/lang/String;)V"), (5, u "inflateIfNeededFor"), (2, .nameAndType 221 222), (0, u "getBytes"), (0, u "([BIB)V"), (174, .methodref 10 398), (0, .nameAndType 217 69), (0, .methodref 1 220), (3, u "()[B"), (40, .class_ 445), (0, u "java/lang/Appendable"), (106, u "getValue")] 56

def k13m0 : Method := { name := "<init>", desc := "()V", sig := { parameters := [], returnType := none }, accessFlags := 0, code := none }
def k13c1 : Code := { maxStack := 2, maxLocals := 2, code := jdk_68_method_2_code, exceptionTable := #[], attributes := #[] }
def k13m1 : Method := { name := "<init>", desc := "(I)V", sig := { parameters := [.int], returnType := none }, accessFlags := 0, code := some k13c1 }
def k13c2 : Code := { maxStack := 1, maxLocals := 1, code := jdk_68_method_6_code, exceptionTable := #[], attributes := #[] }
def k13m2 : Method := { name := "length", desc := "()I", sig := { parameters := [], returnType := some .int }, accessFlags := 1, code := some k13c2 }
def k13c3 : Code := { maxStack := 4, maxLocals := 3, code := jdk_68_method_9_code, exceptionTable := #[], attributes := #[] }
def k13m3 : Method := { name := "ensureCapacityInternal", desc := "(I)V", sig := { parameters := [.int], returnType := none }, accessFlags := 2, code := some k13c3 }
def k13c4 : Code := { maxStack := 5, maxLocals := 6, code := jdk_68_method_10_code, exceptionTable := #[], attributes := #[] }
def k13m4 : Method := { name := "newCapacity", desc := "(I)I", sig := { parameters := [.int], returnType := some .int }, accessFlags := 2, code := some k13c4 }
def k13c5 : Code := { maxStack := 3, maxLocals := 3, code := jdk_68_method_22_code, exceptionTable := #[], attributes := #[] }
def k13m5 : Method := { name := "append", desc := "(Ljava/lang/String;)Ljava/lang/AbstractStringBuilder;", sig := { parameters := [(.object "java/lang/String")], returnType := some (.object "java/lang/AbstractStringBuilder") }, accessFlags := 1, code := some k13c5 }
def k13c6 : Code := { maxStack := 6, maxLocals := 3, code := jdk_68_method_26_code, exceptionTable := #[], attributes := #[] }
def k13m6 : Method := { name := "appendNull", desc := "()Ljava/lang/AbstractStringBuilder;", sig := { parameters := [], returnType := some (.object "java/lang/AbstractStringBuilder") }, accessFlags := 2, code := some k13c6 }
def k13c7 : Code := { maxStack := 1, maxLocals := 1, code := jdk_68_method_64_code, exceptionTable := #[], attributes := #[] }
def k13m7 : Method := { name := "getValue", desc := "()[B", sig := { parameters := [], returnType := some (.array .byte) }, accessFlags := 16, code := some k13c7 }
def k13c8 : Code := { maxStack := 1, maxLocals := 1, code := jdk_68_method_68_code, exceptionTable := #[], attributes := #[] }
def k13m8 : Method := { name := "isLatin1", desc := "()Z", sig := { parameters := [], returnType := some .boolean }, accessFlags := 16, code := some k13c8 }
def k13c9 : Code := { maxStack := 2, maxLocals := 2, code := jdk_68_method_71_code, exceptionTable := #[], attributes := #[] }
def k13m9 : Method := { name := "inflateIfNeededFor", desc := "(Ljava/lang/String;)V", sig := { parameters := [(.object "java/lang/String")], returnType := none }, accessFlags := 2, code := some k13c9 }
def k13c10 : Code := { maxStack := 4, maxLocals := 3, code := jdk_68_method_73_code, exceptionTable := #[], attributes := #[] }
def k13m10 : Method := { name := "putStringAt", desc := "(ILjava/lang/String;)V", sig := { parameters := [.int, (.object "java/lang/String")], returnType := none }, accessFlags := 2, code := some k13c10 }
/-- java/lang/AbstractStringBuilder -/
def k13 : Class := { plain "java/lang/AbstractStringBuilder" (some 0) with
  accessFlags := 1056
  interfaces := #[12, 4]
  cf := some (fileOf pool13 10 #[] #[{ accessFlags := 0, nameIndex := 7, descriptorIndex := 8, attributes := #[] }, { accessFlags := 0, nameIndex := 7, descriptorIndex := 103, attributes := #[] }, { accessFlags := 1, nameIndex := 34, descriptorIndex := 35, attributes := #[] }, { accessFlags := 2, nameIndex := 102, descriptorIndex := 103, attributes := #[] }, { accessFlags := 2, nameIndex := 106, descriptorIndex := 107, attributes := #[] }, { accessFlags := 1, nameIndex := 45, descriptorIndex := 46, attributes := #[] }, { accessFlags := 2, nameIndex := 206, descriptorIndex := 207, attributes := #[] }, { accessFlags := 16, nameIndex := 552, descriptorIndex := 403, attributes := #[] }, { accessFlags := 16, nameIndex := 85, descriptorIndex := 86, attributes := #[] }, { accessFlags := 2, nameIndex := 217, descriptorIndex := 69, attributes := #[] }, { accessFlags := 2, nameIndex := 210, descriptorIndex := 211, attributes := #[] }] 1056 4 #[444, 48] #[{ accessFlags := 0, nameIndex := 17, descriptorIndex := 14, attributes := #[] }, { accessFlags := 0, nameIndex := 24, descriptorIndex := 25, attributes := #[] }, { accessFlags := 0, nameIndex := 75, descriptorIndex := 21, attributes := #[] }, { accessFlags := 0, nameIndex := 81, descriptorIndex := 82, attributes := #[] }, { accessFlags := 26, nameIndex := 13, descriptorIndex := 14, attributes := #[] }])
  fields := #[{ name := "value", type := (.array .byte), accessFlags := 0, slot := 0, constantValue := 0 }, { name := "coder", type := .byte, accessFlags := 0, slot := 1, constantValue := 0 }, { name := "maybeLatin1", type := .boolean, accessFlags := 0, slot := 2, constantValue := 0 }, { name := "count", type := .int, accessFlags := 0, slot := 3, constantValue := 0 }, { name := "EMPTYVALUE", type := (.array .byte), accessFlags := 26, slot := 0, constantValue := 0 }]
  methods := #[k13m0, k13m1, k13m2, k13m3, k13m4, k13m5, k13m6, k13m7, k13m8, k13m9, k13m10]
  instanceTypes := #[(.array .byte), .byte, .boolean, .int]
  staticTypes := #[(.array .byte)]
  resolved := Array.replicate 609 none
  statics := none }

def pool14 : Array CpInfo := pool [(1, .methodref 2 3), (0, .class_ 4), (0, .nameAndType 5 6), (0, u "java/lang/AbstractStringBuilder"), (0, u "<init>"), (0, u "(I)V"), (11, .class_ 20), (1, u "java/lang/String"), (3, .class_ 26), (1, u "java/lang/StringBuilder"), (0, u "append"), (0, u "(Ljava/lang/String;)Ljava/lang/StringBuilder;"), (0, .methodref 2 30), (0, .nameAndType 27 31), (0, u "(Ljava/lang/String;)Ljava/lang/AbstractStringBuilder;"), (105, .methodref 18 138), (0, .nameAndType 5 139), (0, u "(Ljava/lang/StringBuilder;)V"), (5, u "()V"), (10, u "()I"), (186, .methodref 2 344), (0, .nameAndType 345 156), (0, u "length"), (3, .class_ 350), (0, u "java/lang/Appendable"), (0, .class_ 352), (0, u "java/io/Serializable"), (0, .class_ 354), (0, u "java/lang/Comparable"), (0, .class_ 356), (0, u "java/lang/CharSequence"), (0, u "serialVersionUID"), (0, u "J"), (40, u "toString"), (0, u "()Ljava/lang/String;")] 21

def k14c0 : Code := { maxStack := 2, maxLocals := 1, code := jdk_67_method_1_code, exceptionTable := #[], attributes := #[] }
def k14m0 : Method := { name := "<init>", desc := "()V", sig := { parameters := [], returnType := none }, accessFlags := 1, code := some k14c0 }
def k14c1 : Code := { maxStack := 2, maxLocals := 2, code := jdk_67_method_7_code, exceptionTable := #[], attributes := #[] }
def k14m1 : Method := { name := "append", desc := "(Ljava/lang/String;)Ljava/lang/StringBuilder;", sig := { parameters := [(.object "java/lang/String")], returnType := some (.object "java/lang/StringBuilder") }, accessFlags := 1, code := some k14c1 }
def k14c2 : Code := { maxStack := 3, maxLocals := 1, code := jdk_67_method_42_code, exceptionTable := #[], attributes := #[] }
def k14m2 : Method := { name := "toString", desc := "()Ljava/lang/String;", sig := { parameters := [], returnType := some (.object "java/lang/String") }, accessFlags := 1, code := some k14c2 }
def k14c3 : Code := { maxStack := 1, maxLocals := 1, code := jdk_67_method_93_code, exceptionTable := #[], attributes := #[] }
def k14m3 : Method := { name := "length", desc := "()I", sig := { parameters := [], returnType := some .int }, accessFlags := 4161, code := some k14c3 }
/-- java/lang/StringBuilder -/
def k14 : Class := { plain "java/lang/StringBuilder" (some 13) with
  accessFlags := 49
  interfaces := #[12, 2, 3, 4]
  cf := some (fileOf pool14 24 #[] #[{ accessFlags := 1, nameIndex := 5, descriptorIndex := 145, attributes := #[] }, { accessFlags := 1, nameIndex := 27, descriptorIndex := 28, attributes := #[] }, { accessFlags := 1, nameIndex := 399, descriptorIndex := 400, attributes := #[] }, { accessFlags := 4161, nameIndex := 345, descriptorIndex := 156, attributes := #[] }] 49 2 #[349, 351, 353, 355] #[{ accessFlags := 24, nameIndex := 357, descriptorIndex := 358, attributes := #[] }])
  fields := #[{ name := "serialVersionUID", type := .long, accessFlags := 24, slot := 0, constantValue := 0 }]
  methods := #[k14m0, k14m1, k14m2, k14m3]
  instanceTypes := #[(.array .byte), .byte, .boolean, .int]
  staticTypes := #[.long]
  resolved := Array.replicate 422 none
  statics := none }

def pool15 : Array CpInfo := pool [(2, .class_ 4), (1, u "java/lang/Object"), (0, u "<init>"), (0, u "()V"), (1, .class_ 10), (1, u "java/lang/System"), (0, u "allowSecurityManager"), (0, u "I"), (16, u "cons"), (0, u "Ljava/io/Console;"), (77, .class_ 110), (1, u "java/lang/System$CallersHolder"), (43, u "initialErrStream"), (0, u "Ljava/io/PrintStream;"), (19, u "security"), (0, u "Ljava/lang/SecurityManager;"), (31, .class_ 209), (0, u "java/lang/System$1"), (7, u "props"), (0, u "Ljava/util/Properties;"), (2, u "lineSeparator"), (0, u "Ljava/lang/String;"), (96, .class_ 321), (1, u "java/lang/System$LoggerFinder"), (5, .class_ 328), (0, u "java/lang/System$Logger"), (67, u "err"), (2, u "out"), (91, u "notSupportedJnuEncoding"), (15, u "in"), (17, u "initialIn"), (0, u "Ljava/io/InputStream;"), (35, u "bootLayer"), (0, u "Ljava/lang/ModuleLayer;"), (99, .class_ 664), (0, u "java/lang/System$2"), (9, u "NEVER"), (2, u "MAYBE"), (49, u "arraycopy"), (0, u "(Ljava/lang/Object;ILjava/lang/Object;II)V"), (72, .class_ 802), (0, u "java/lang/System$Logger$Level")] 31

def k15m0 : Method := { name := "<init>", desc := "()V", sig := { parameters := [], returnType := none }, accessFlags := 2, code := none }
def k15m1 : Method := { name := "arraycopy", desc := "(Ljava/lang/Object;ILjava/lang/Object;II)V", sig := { parameters := [(.object "java/lang/Object"), .int, (.object "java/lang/Object"), .int, .int], returnType := none }, accessFlags := 265, code := none }
/-- java/lang/System -/
def k15 : Class := { plain "java/lang/System" (some 0) with
  accessFlags := 49
  interfaces := #[]
  cf := some (fileOf pool15 8 #[.nestMembers #[319, 327, 801, 108, 663, 208]] #[{ accessFlags := 2, nameIndex := 5, descriptorIndex := 6, attributes := #[] }, { accessFlags := 265, nameIndex := 727, descriptorIndex := 728, attributes := #[] }] 49 2 #[] #[{ accessFlags := 25, nameIndex := 507, descriptorIndex := 526, attributes := #[] }, { accessFlags := 25, nameIndex := 399, descriptorIndex := 155, attributes := #[] }, { accessFlags := 25, nameIndex := 396, descriptorIndex := 155, attributes := #[] }, { accessFlags := 10, nameIndex := 525, descriptorIndex := 526, attributes := #[] }, { accessFlags := 26, nameIndex := 674, descriptorIndex := 12, attributes := #[] }, { accessFlags := 26, nameIndex := 677, descriptorIndex := 12, attributes := #[] }, { accessFlags := 10, nameIndex := 11, descriptorIndex := 12, attributes := #[] }, { accessFlags := 74, nameIndex := 175, descriptorIndex := 176, attributes := #[] }, { accessFlags := 10, nameIndex := 491, descriptorIndex := 222, attributes := #[] }, { accessFlags := 74, nameIndex := 29, descriptorIndex := 30, attributes := #[] }, { accessFlags := 74, nameIndex := 154, descriptorIndex := 155, attributes := #[] }, { accessFlags := 10, nameIndex := 217, descriptorIndex := 218, attributes := #[] }, { accessFlags := 10, nameIndex := 221, descriptorIndex := 222, attributes := #[] }, { accessFlags := 8, nameIndex := 562, descriptorIndex := 563, attributes := #[] }])
  fields := #[{ name := "in", type := (.object "java/io/InputStream"), accessFlags := 25, slot := 0, constantValue := 0 }, { name := "out", type := (.object "java/io/PrintStream"), accessFlags := 25, slot := 1, constantValue := 0 }, { name := "err", type := (.object "java/io/PrintStream"), accessFlags := 25, slot := 2, constantValue := 0 }, { name := "initialIn", type := (.object "java/io/InputStream"), accessFlags := 10, slot := 3, constantValue := 0 }, { name := "NEVER", type := .int, accessFlags := 26, slot := 4, constantValue := 0 }, { name := "MAYBE", type := .int, accessFlags := 26, slot := 5, constantValue := 0 }, { name := "allowSecurityManager", type := .int, accessFlags := 10, slot := 6, constantValue := 0 }, { name := "security", type := (.object "java/lang/SecurityManager"), accessFlags := 74, slot := 7, constantValue := 0 }, { name := "notSupportedJnuEncoding", type := (.object "java/lang/String"), accessFlags := 10, slot := 8, constantValue := 0 }, { name := "cons", type := (.object "java/io/Console"), accessFlags := 74, slot := 9, constantValue := 0 }, { name := "initialErrStream", type := (.object "java/io/PrintStream"), accessFlags := 74, slot := 10, constantValue := 0 }, { name := "props", type := (.object "java/util/Properties"), accessFlags := 10, slot := 11, constantValue := 0 }, { name := "lineSeparator", type := (.object "java/lang/String"), accessFlags := 10, slot := 12, constantValue := 0 }, { name := "bootLayer", type := (.object "java/lang/ModuleLayer"), accessFlags := 8, slot := 13, constantValue := 0 }]
  methods := #[k15m0, k15m1]
  instanceTypes := #[]
  staticTypes := #[(.object "java/io/InputStream"), (.object "java/io/PrintStream"), (.object "java/io/PrintStream"), (.object "java/io/InputStream"), .int, .int, .int, (.object "java/lang/SecurityManager"), (.object "java/lang/String"), (.object "java/io/Console"), (.object "java/io/PrintStream"), (.object "java/util/Properties"), (.object "java/lang/String"), (.object "java/lang/ModuleLayer")]
  resolved := Array.replicate 834 none
  statics := none }

def pool16 : Array CpInfo := pool [(9, u "<init>"), (6, .class_ 18), (1, u "java/lang/Object"), (0, u "()V"), (1, .class_ 23), (1, u "jdk/internal/util/ArraysSupport"), (0, u "LOG2_ARRAY_LONG_INDEX_SCALE"), (0, u "I"), (2, u "U"), (0, u "Ljdk/internal/misc/Unsafe;"), (8, u "BIG_ENDIAN"), (0, u "Z"), (8, u "LOG2_BYTE_BIT_SIZE"), (4, u "LOG2_ARRAY_INT_INDEX_SCALE"), (54, u "JLA"), (0, u "Ljdk/internal/access/JavaLangAccess;"), (11, u "LOG2_ARRAY_BOOLEAN_INDEX_SCALE"), (9, u "LOG2_ARRAY_BYTE_INDEX_SCALE"), (5, u "LOG2_ARRAY_CHAR_INDEX_SCALE"), (5, u "LOG2_ARRAY_SHORT_INDEX_SCALE"), (18, u "LOG2_ARRAY_FLOAT_INDEX_SCALE"), (24, u "LOG2_ARRAY_DOUBLE_INDEX_SCALE"), (6, .methodref 195 196), (0, .class_ 197), (0, .nameAndType 198 199), (0, u "java/lang/Math"), (0, u "max"), (0, u "(II)I"), (0, .integer 2147483639), (76, u "T_BOOLEAN"), (2, u "T_CHAR"), (1, u "T_FLOAT"), (1, u "T_DOUBLE"), (1, u "T_BYTE"), (1, u "T_SHORT"), (1, u "T_INT"), (1, u "T_LONG"), (1, u "SOFT_MAX_ARRAY_LENGTH"), (56, u "newLength"), (0, u "(III)I")] 25

def k16m0 : Method := { name := "<init>", desc := "()V", sig := { parameters := [], returnType := none }, accessFlags := 2, code := none }
def k16c1 : Code := { maxStack := 3, maxLocals := 4, code := jdk_48_method_27_code, exceptionTable := #[], attributes := #[] }
def k16m1 : Method := { name := "newLength", desc := "(III)I", sig := { parameters := [.int, .int, .int], returnType := some .int }, accessFlags := 9, code := some k16c1 }
/-- jdk/internal/util/ArraysSupport -/
def k16 : Class := { plain "jdk/internal/util/ArraysSupport" (some 0) with
  accessFlags := 33
  interfaces := #[]
  cf := some (fileOf pool16 21 #[] #[{ accessFlags := 2, nameIndex := 9, descriptorIndex := 19, attributes := #[] }, { accessFlags := 9, nameIndex := 351, descriptorIndex := 352, attributes := #[] }] 33 16 #[] #[{ accessFlags := 24, nameIndex := 28, descriptorIndex := 29, attributes := #[] }, { accessFlags := 26, nameIndex := 38, descriptorIndex := 39, attributes := #[] }, { accessFlags := 25, nameIndex := 121, descriptorIndex := 25, attributes := #[] }, { accessFlags := 25, nameIndex := 131, descriptorIndex := 25, attributes := #[] }, { accessFlags := 25, nameIndex := 137, descriptorIndex := 25, attributes := #[] }, { accessFlags := 25, nameIndex := 143, descriptorIndex := 25, attributes := #[] }, { accessFlags := 25, nameIndex := 53, descriptorIndex := 25, attributes := #[] }, { accessFlags := 25, nameIndex := 24, descriptorIndex := 25, attributes := #[] }, { accessFlags := 25, nameIndex := 162, descriptorIndex := 25, attributes := #[] }, { accessFlags := 25, nameIndex := 187, descriptorIndex := 25, attributes := #[] }, { accessFlags := 26, nameIndex := 48, descriptorIndex := 25, attributes := #[] }, { accessFlags := 25, nameIndex := 277, descriptorIndex := 25, attributes := #[] }, { accessFlags := 25, nameIndex := 280, descriptorIndex := 25, attributes := #[] }, { accessFlags := 25, nameIndex := 282, descriptorIndex := 25, attributes := #[] }, { accessFlags := 25, nameIndex := 284, descriptorIndex := 25, attributes := #[] }, { accessFlags := 25, nameIndex := 286, descriptorIndex := 25, attributes := #[] }, { accessFlags := 25, nameIndex := 288, descriptorIndex := 25, attributes := #[] }, { accessFlags := 25, nameIndex := 290, descriptorIndex := 25, attributes := #[] }, { accessFlags := 25, nameIndex := 292, descriptorIndex := 25, attributes := #[] }, { accessFlags := 26, nameIndex := 108, descriptorIndex := 109, attributes := #[] }, { accessFlags := 25, nameIndex := 294, descriptorIndex := 25, attributes := #[] }])
  fields := #[{ name := "U", type := (.object "jdk/internal/misc/Unsafe"), accessFlags := 24, slot := 0, constantValue := 0 }, { name := "BIG_ENDIAN", type := .boolean, accessFlags := 26, slot := 1, constantValue := 0 }, { name := "LOG2_ARRAY_BOOLEAN_INDEX_SCALE", type := .int, accessFlags := 25, slot := 2, constantValue := 0 }, { name := "LOG2_ARRAY_BYTE_INDEX_SCALE", type := .int, accessFlags := 25, slot := 3, constantValue := 0 }, { name := "LOG2_ARRAY_CHAR_INDEX_SCALE", type := .int, accessFlags := 25, slot := 4, constantValue := 0 }, { name := "LOG2_ARRAY_SHORT_INDEX_SCALE", type := .int, accessFlags := 25, slot := 5, constantValue := 0 }, { name := "LOG2_ARRAY_INT_INDEX_SCALE", type := .int, accessFlags := 25, slot := 6, constantValue := 0 }, { name := "LOG2_ARRAY_LONG_INDEX_SCALE", type := .int, accessFlags := 25, slot := 7, constantValue := 0 }, { name := "LOG2_ARRAY_FLOAT_INDEX_SCALE", type := .int, accessFlags := 25, slot := 8, constantValue := 0 }, { name := "LOG2_ARRAY_DOUBLE_INDEX_SCALE", type := .int, accessFlags := 25, slot := 9, constantValue := 0 }, { name := "LOG2_BYTE_BIT_SIZE", type := .int, accessFlags := 26, slot := 10, constantValue := 0 }, { name := "T_BOOLEAN", type := .int, accessFlags := 25, slot := 11, constantValue := 0 }, { name := "T_CHAR", type := .int, accessFlags := 25, slot := 12, constantValue := 0 }, { name := "T_FLOAT", type := .int, accessFlags := 25, slot := 13, constantValue := 0 }, { name := "T_DOUBLE", type := .int, accessFlags := 25, slot := 14, constantValue := 0 }, { name := "T_BYTE", type := .int, accessFlags := 25, slot := 15, constantValue := 0 }, { name := "T_SHORT", type := .int, accessFlags := 25, slot := 16, constantValue := 0 }, { name := "T_INT", type := .int, accessFlags := 25, slot := 17, constantValue := 0 }, { name := "T_LONG", type := .int, accessFlags := 25, slot := 18, constantValue := 0 }, { name := "JLA", type := (.object "jdk/internal/access/JavaLangAccess"), accessFlags := 26, slot := 19, constantValue := 0 }, { name := "SOFT_MAX_ARRAY_LENGTH", type := .int, accessFlags := 25, slot := 20, constantValue := 0 }]
  methods := #[k16m0, k16m1]
  instanceTypes := #[]
  staticTypes := #[(.object "jdk/internal/misc/Unsafe"), .boolean, .int, .int, .int, .int, .int, .int, .int, .int, .int, .int, .int, .int, .int, .int, .int, .int, .int, (.object "jdk/internal/access/JavaLangAccess"), .int]
  resolved := Array.replicate 378 none
  statics := none }

def pool17 : Array CpInfo := pool [(1, .class_ 2), (0, u "java/lang/Math"), (1, .class_ 6), (1, u "java/lang/Object"), (0, u "<init>"), (0, u "()V"), (89, .class_ 100), (1, u "java/lang/Math$RandomNumberGeneratorHolder"), (71, u "negativeZeroFloatBits"), (0, u "J"), (2, u "negativeZeroDoubleBits"), (21, u "max"), (2, u "min"), (43, u "$assertionsDisabled"), (0, u "Z"), (88, u "(II)I"), (2, u "twoToTheDoubleScaleDown"), (0, u "D"), (4, u "twoToTheDoubleScaleUp"), (9, u "E"), (3, u "PI"), (2, u "TAU"), (2, u "DEGREES_TO_RADIANS"), (0, u "RADIANS_TO_DEGREES")] 94

def k17m0 : Method := { name := "<init>", desc := "()V", sig := { parameters := [], returnType := none }, accessFlags := 2, code := none }
def k17c1 : Code := { maxStack := 2, maxLocals := 2, code := jdk_29_method_65_code, exceptionTable := #[], attributes := #[] }
def k17m1 : Method := { name := "max", desc := "(II)I", sig := { parameters := [.int, .int], returnType := some .int }, accessFlags := 9, code := some k17c1 }
def k17c2 : Code := { maxStack := 2, maxLocals := 2, code := jdk_29_method_69_code, exceptionTable := #[], attributes := #[] }
def k17m2 : Method := { name := "min", desc := "(II)I", sig := { parameters := [.int, .int], returnType := some .int }, accessFlags := 9, code := some k17c2 }
/-- java/lang/Math -/
def k17 : Class := { plain "java/lang/Math" (some 0) with
  accessFlags := 49
  interfaces := #[]
  cf := some (fileOf pool17 1 #[.nestMembers #[98]] #[{ accessFlags := 2, nameIndex := 7, descriptorIndex := 8, attributes := #[] }, { accessFlags := 9, nameIndex := 198, descriptorIndex := 335, attributes := #[] }, { accessFlags := 9, nameIndex := 201, descriptorIndex := 335, attributes := #[] }] 49 4 #[] #[{ accessFlags := 25, nameIndex := 354, descriptorIndex := 339, attributes := #[] }, { accessFlags := 25, nameIndex := 358, descriptorIndex := 339, attributes := #[] }, { accessFlags := 25, nameIndex := 361, descriptorIndex := 339, attributes := #[] }, { accessFlags := 26, nameIndex := 364, descriptorIndex := 339, attributes := #[] }, { accessFlags := 26, nameIndex := 365, descriptorIndex := 339, attributes := #[] }, { accessFlags := 26, nameIndex := 172, descriptorIndex := 173, attributes := #[] }, { accessFlags := 26, nameIndex := 176, descriptorIndex := 173, attributes := #[] }, { accessFlags := 8, nameIndex := 344, descriptorIndex := 339, attributes := #[] }, { accessFlags := 8, nameIndex := 338, descriptorIndex := 339, attributes := #[] }, { accessFlags := 4120, nameIndex := 245, descriptorIndex := 246, attributes := #[] }])
  fields := #[{ name := "E", type := .double, accessFlags := 25, slot := 0, constantValue := 0 }, { name := "PI", type := .double, accessFlags := 25, slot := 1, constantValue := 0 }, { name := "TAU", type := .double, accessFlags := 25, slot := 2, constantValue := 0 }, { name := "DEGREES_TO_RADIANS", type := .double, accessFlags := 26, slot := 3, constantValue := 0 }, { name := "RADIANS_TO_DEGREES", type := .double, accessFlags := 26, slot := 4, constantValue := 0 }, { name := "negativeZeroFloatBits", type := .long, accessFlags := 26, slot := 5, constantValue := 0 }, { name := "negativeZeroDoubleBits", type := .long, accessFlags := 26, slot := 6, constantValue := 0 }, { name := "twoToTheDoubleScaleUp", type := .double, accessFlags := 8, slot := 7, constantValue := 0 }, { name := "twoToTheDoubleScaleDown", type := .double, accessFlags := 8, slot := 8, constantValue := 0 }, { name := "$assertionsDisabled", type := .boolean, accessFlags := 4120, slot := 9, constantValue := 0 }]
  methods := #[k17m0, k17m1, k17m2]
  instanceTypes := #[]
  staticTypes := #[.double, .double, .double, .double, .double, .long, .long, .double, .double, .boolean]
  resolved := Array.replicate 460 none
  statics := none }

def pool18 : Array CpInfo := pool [(2, .class_ 4), (1, u "java/lang/Object"), (0, u "<init>"), (0, u "()V"), (7, .class_ 16), (1, u "java/util/Arrays"), (57, .class_ 76), (1, u "java/util/Arrays$NaturalOrder"), (36, .class_ 115), (1, u "java/util/Arrays$LegacyMergeSort"), (1, u "Z"), (21, u "copyOfRange"), (10, .methodref 151 152), (0, .class_ 153), (0, .nameAndType 154 155), (0, u "java/lang/System"), (0, u "arraycopy"), (0, u "(Ljava/lang/Object;ILjava/lang/Object;II)V"), (146, u "copyOf"), (1, .methodref 305 306), (0, .class_ 307), (0, .nameAndType 308 309), (0, u "java/lang/Math"), (0, u "min"), (0, u "(II)I"), (29, .methodref 14 340), (0, .nameAndType 341 342), (0, u "copyOfRangeByte"), (0, u "([BII)[B"), (0, .methodref 14 344), (0, .nameAndType 345 346), (0, u "checkLength"), (0, u "(II)V"), (28, .class_ 376), (0, u "java/util/Arrays$ArrayList"), (68, u "$assertionsDisabled"), (269, u "MIN_ARRAY_SORT_GRAN"), (0, u "I"), (2, u "INSERTIONSORT_THRESHOLD"), (149, u "([BI)[B"), (105, .class_ 976), (0, u "java/util/Arrays$ArrayItr")] 52

def k18m0 : Method := { name := "<init>", desc := "()V", sig := { parameters := [], returnType := none }, accessFlags := 2, code := none }
def k18c1 : Code := { maxStack := 6, maxLocals := 3, code := jdk_65_method_121_code, exceptionTable := #[], attributes := #[] }
def k18m1 : Method := { name := "copyOf", desc := "([BI)[B", sig := { parameters := [(.array .byte), .int], returnType := some (.array .byte) }, accessFlags := 9, code := some k18c1 }
def k18c2 : Code := { maxStack := 4, maxLocals := 2, code := jdk_65_method_131_code, exceptionTable := #[], attributes := #[] }
def k18m2 : Method := { name := "checkLength", desc := "(II)V", sig := { parameters := [.int, .int], returnType := none }, accessFlags := 10, code := some k18c2 }
def k18c3 : Code := { maxStack := 3, maxLocals := 3, code := jdk_65_method_132_code, exceptionTable := #[], attributes := #[] }
def k18m3 : Method := { name := "copyOfRange", desc := "([BII)[B", sig := { parameters := [(.array .byte), .int, .int], returnType := some (.array .byte) }, accessFlags := 9, code := some k18c3 }
def k18c4 : Code := { maxStack := 6, maxLocals := 5, code := jdk_65_method_133_code, exceptionTable := #[], attributes := #[] }
def k18m4 : Method := { name := "copyOfRangeByte", desc := "([BII)[B", sig := { parameters := [(.array .byte), .int, .int], returnType := some (.array .byte) }, accessFlags := 10, code := some k18c4 }
/-- java/util/Arrays -/
def k18 : Class := { plain "java/util/Arrays" (some 0) with
  accessFlags := 49
  interfaces := #[]
  cf := some (fileOf pool18 14 #[.nestMembers #[975, 375, 113, 74]] #[{ accessFlags := 2, nameIndex := 5, descriptorIndex := 6, attributes := #[] }, { accessFlags := 9, nameIndex := 302, descriptorIndex := 869, attributes := #[] }, { accessFlags := 10, nameIndex := 345, descriptorIndex := 346, attributes := #[] }, { accessFlags := 9, nameIndex := 139, descriptorIndex := 342, attributes := #[] }, { accessFlags := 10, nameIndex := 341, descriptorIndex := 342, attributes := #[] }] 49 2 #[] #[{ accessFlags := 26, nameIndex := 715, descriptorIndex := 716, attributes := #[] }, { accessFlags := 26, nameIndex := 719, descriptorIndex := 716, attributes := #[] }, { accessFlags := 4120, nameIndex := 445, descriptorIndex := 117, attributes := #[] }])
  fields := #[{ name := "MIN_ARRAY_SORT_GRAN", type := .int, accessFlags := 26, slot := 0, constantValue := 0 }, { name := "INSERTIONSORT_THRESHOLD", type := .int, accessFlags := 26, slot := 1, constantValue := 0 }, { name := "$assertionsDisabled", type := .boolean, accessFlags := 4120, slot := 2, constantValue := 0 }]
  methods := #[k18m0, k18m1, k18m2, k18m3, k18m4]
  instanceTypes := #[]
  staticTypes := #[.int, .int, .boolean]
  resolved := Array.replicate 1029 none
  statics := none }

def pool19 : Array CpInfo := pool [(1, .class_ 2), (0, u "java/lang/String"), (1, .class_ 6), (1, u "java/lang/Object"), (0, u "<init>"), (0, u "()V"), (0, .methodref 1 10), (0, .nameAndType 11 12), (0, u "checkIndex"), (0, u "(II)V"), (1, .class_ 16), (1, u "java/lang/StringLatin1"), (36, u "([BI)C"), (36, u "canEncode"), (14, u "(C)Z"), (15, u "$assertionsDisabled"), (0, u "Z"), (98, .class_ 223), (1, u "java/lang/StringLatin1$LinesSpliterator"), (28, u "charAt"), (127, u "toBytes"), (1, u "(C)[B"), (7, .class_ 391), (0, u "java/lang/StringLatin1$CharsSpliterator")] 3

def k19m0 : Method := { name := "<init>", desc := "()V", sig := { parameters := [], returnType := none }, accessFlags := 0, code := none }
def k19c1 : Code := { maxStack := 2, maxLocals := 2, code := jdk_43_method_2_code, exceptionTable := #[], attributes := #[] }
def k19m1 : Method := { name := "charAt", desc := "([BI)C", sig := { parameters := [(.array .byte), .int], returnType := some .char }, accessFlags := 9, code := some k19c1 }
def k19c2 : Code := { maxStack := 2, maxLocals := 1, code := jdk_43_method_3_code, exceptionTable := #[], attributes := #[] }
def k19m2 : Method := { name := "canEncode", desc := "(C)Z", sig := { parameters := [.char], returnType := some .boolean }, accessFlags := 9, code := some k19c2 }
def k19c3 : Code := { maxStack := 4, maxLocals := 1, code := jdk_43_method_46_code, exceptionTable := #[], attributes := #[] }
def k19m3 : Method := { name := "toBytes", desc := "(C)[B", sig := { parameters := [.char], returnType := some (.array .byte) }, accessFlags := 9, code := some k19c3 }
/-- java/lang/StringLatin1 -/
def k19 : Class := { plain "java/lang/StringLatin1" (some 0) with
  accessFlags := 48
  interfaces := #[]
  cf := some (fileOf pool19 14 #[.nestMembers #[390, 221]] #[{ accessFlags := 0, nameIndex := 7, descriptorIndex := 8, attributes := #[] }, { accessFlags := 9, nameIndex := 252, descriptorIndex := 53, attributes := #[] }, { accessFlags := 9, nameIndex := 90, descriptorIndex := 105, attributes := #[] }, { accessFlags := 9, nameIndex := 380, descriptorIndex := 382, attributes := #[] }] 48 4 #[] #[{ accessFlags := 4120, nameIndex := 121, descriptorIndex := 122, attributes := #[] }])
  fields := #[{ name := "$assertionsDisabled", type := .boolean, accessFlags := 4120, slot := 0, constantValue := 0 }]
  methods := #[k19m0, k19m1, k19m2, k19m3]
  instanceTypes := #[]
  staticTypes := #[.boolean]
  resolved := Array.replicate 395 none
  statics := none }

def pool20 : Array CpInfo := pool [(2, .class_ 4), (1, u "java/lang/Object"), (0, u "<init>"), (0, u "()V"), (17, .class_ 26), (1, u "jdk/internal/util/Preconditions"), (6, u "checkIndex"), (21, .class_ 56), (0, u "jdk/internal/util/Preconditions$4"), (57, .class_ 115), (0, u "jdk/internal/util/Preconditions$1"), (7, u "SIOOBE_FORMATTER"), (0, u "Ljava/util/function/BiFunction;"), (0, .class_ 126), (0, u "jdk/internal/util/Preconditions$2"), (3, u "AIOOBE_FORMATTER"), (0, .class_ 132), (0, u "jdk/internal/util/Preconditions$3"), (3, u "IOOBE_FORMATTER"), (41, u "(IILjava/util/function/BiFunction;)I")] 15

def k20m0 : Method := { name := "<init>", desc := "()V", sig := { parameters := [], returnType := none }, accessFlags := 1, code := none }
def k20c1 : Code := { maxStack := 3, maxLocals := 3, code := jdk_41_method_11_code, exceptionTable := #[], attributes := #[] }
def k20m1 : Method := { name := "checkIndex", desc := "(IILjava/util/function/BiFunction;)I", sig := { parameters := [.int, .int, (.object "java/util/function/BiFunction")], returnType := some .int }, accessFlags := 9, code := some k20c1 }
/-- jdk/internal/util/Preconditions -/
def k20 : Class := { plain "jdk/internal/util/Preconditions" (some 0) with
  accessFlags := 33
  interfaces := #[]
  cf := some (fileOf pool20 24 #[.nestMembers #[55, 131, 125, 114]] #[{ accessFlags := 1, nameIndex := 5, descriptorIndex := 6, attributes := #[] }, { accessFlags := 9, nameIndex := 33, descriptorIndex := 178, attributes := #[] }] 33 2 #[] #[{ accessFlags := 25, nameIndex := 123, descriptorIndex := 124, attributes := #[] }, { accessFlags := 25, nameIndex := 130, descriptorIndex := 124, attributes := #[] }, { accessFlags := 25, nameIndex := 136, descriptorIndex := 124, attributes := #[] }])
  fields := #[{ name := "SIOOBE_FORMATTER", type := (.object "java/util/function/BiFunction"), accessFlags := 25, slot := 0, constantValue := 0 }, { name := "AIOOBE_FORMATTER", type := (.object "java/util/function/BiFunction"), accessFlags := 25, slot := 1, constantValue := 0 }, { name := "IOOBE_FORMATTER", type := (.object "java/util/function/BiFunction"), accessFlags := 25, slot := 2, constantValue := 0 }]
  methods := #[k20m0, k20m1]
  instanceTypes := #[]
  staticTypes := #[(.object "java/util/function/BiFunction"), (.object "java/util/function/BiFunction"), (.object "java/util/function/BiFunction")]
  resolved := Array.replicate 194 none
  statics := some 2 }

def pool21 : Array CpInfo := pool [(6, .class_ 8), (1, u "java/lang/Object"), (0, u "<init>"), (0, u "()V"), (1, .class_ 14), (1, u "java/lang/StringUTF16"), (31, u "$assertionsDisabled"), (0, u "Z"), (13, u "HI_BYTE_SHIFT"), (0, u "I"), (2, u "LO_BYTE_SHIFT"), (49, .methodref 12 116), (0, .nameAndType 117 118), (0, u "compress"), (0, u "([CI[BII)I"), (3, u "([CII)[B"), (138, u "coderFromArrayLen"), (0, u "([BI)B"), (106, .class_ 371), (1, u "java/lang/StringUTF16$LinesSpliterator"), (58, u "MAX_LENGTH"), (196, .class_ 628), (0, u "java/lang/StringUTF16$CodePointsSpliterator"), (0, .class_ 630), (0, u "java/lang/StringUTF16$CharsSpliterator")] 4

def k21m0 : Method := { name := "<init>", desc := "()V", sig := { parameters := [], returnType := none }, accessFlags := 0, code := none }
def k21c1 : Code := { maxStack := 2, maxLocals := 2, code := jdk_52_method_15_code, exceptionTable := #[], attributes := #[] }
def k21m1 : Method := { name := "coderFromArrayLen", desc := "([BI)B", sig := { parameters := [(.array .byte), .int], returnType := some .byte }, accessFlags := 8, code := some k21c1 }
def k21c2 : Code := { maxStack := 5, maxLocals := 6, code := jdk_52_method_16_code, exceptionTable := #[], attributes := #[] }
def k21m2 : Method := { name := "compress", desc := "([CII)[B", sig := { parameters := [(.array .char), .int, .int], returnType := some (.array .byte) }, accessFlags := 9, code := some k21c2 }
def k21c3 : Code := { maxStack := 3, maxLocals := 7, code := jdk_52_method_21_code, exceptionTable := #[], attributes := #[] }
def k21m3 : Method := { name := "compress", desc := "([CI[BII)I", sig := { parameters := [(.array .char), .int, (.array .byte), .int, .int], returnType := some .int }, accessFlags := 9, code := some k21c3 }
/-- java/lang/StringUTF16 -/
def k21 : Class := { plain "java/lang/StringUTF16" (some 0) with
  accessFlags := 48
  interfaces := #[]
  cf := some (fileOf pool21 12 #[.nestMembers #[627, 629, 369]] #[{ accessFlags := 0, nameIndex := 9, descriptorIndex := 10, attributes := #[] }, { accessFlags := 8, nameIndex := 261, descriptorIndex := 262, attributes := #[] }, { accessFlags := 9, nameIndex := 117, descriptorIndex := 122, attributes := #[] }, { accessFlags := 9, nameIndex := 117, descriptorIndex := 118, attributes := #[] }] 48 6 #[] #[{ accessFlags := 26, nameIndex := 61, descriptorIndex := 62, attributes := #[] }, { accessFlags := 26, nameIndex := 65, descriptorIndex := 62, attributes := #[] }, { accessFlags := 24, nameIndex := 430, descriptorIndex := 62, attributes := #[] }, { accessFlags := 4120, nameIndex := 46, descriptorIndex := 47, attributes := #[] }])
  fields := #[{ name := "HI_BYTE_SHIFT", type := .int, accessFlags := 26, slot := 0, constantValue := 0 }, { name := "LO_BYTE_SHIFT", type := .int, accessFlags := 26, slot := 1, constantValue := 0 }, { name := "MAX_LENGTH", type := .int, accessFlags := 24, slot := 2, constantValue := 0 }, { name := "$assertionsDisabled", type := .boolean, accessFlags := 4120, slot := 3, constantValue := 0 }]
  methods := #[k21m0, k21m1, k21m2, k21m3]
  instanceTypes := #[]
  staticTypes := #[.int, .int, .int, .boolean]
  resolved := Array.replicate 635 none
  statics := none }

def pool22 : Array CpInfo := pool [(2, .class_ 4), (1, u "java/lang/Object"), (0, u "<init>"), (0, u "()V"), (12, .class_ 20), (0, u "java/util/Collections"), (63, u "r"), (0, u "Ljava/util/Random;"), (80, .class_ 167), (0, u "java/util/Collections$UnmodifiableCollection"), (6, .class_ 175), (0, u "java/util/Collections$UnmodifiableSequencedCollection"), (6, .class_ 183), (0, u "java/util/Collections$UnmodifiableSet"), (6, .class_ 191), (0, u "java/util/Collections$UnmodifiableSequencedSet"), (6, .class_ 199), (0, u "java/util/Collections$UnmodifiableSortedSet"), (6, .class_ 207), (0, u "java/util/Collections$UnmodifiableNavigableSet"), (4, .class_ 213), (0, u "java/util/Collections$UnmodifiableList"), (1, .class_ 216), (0, u "java/util/Collections$UnmodifiableRandomAccessList"), (6, .class_ 224), (0, u "java/util/Collections$UnmodifiableMap"), (6, .class_ 232), (0, u "java/util/Collections$UnmodifiableSequencedMap"), (4, .class_ 238), (0, u "java/util/Collections$UnmodifiableSortedMap"), (6, .class_ 246), (0, u "java/util/Collections$UnmodifiableNavigableMap"), (3, .class_ 251), (0, u "java/util/Collections$SynchronizedCollection"), (4, .class_ 257), (0, u "java/util/Collections$SynchronizedSet"), (4, .class_ 263), (0, u "java/util/Collections$SynchronizedSortedSet"), (1, .class_ 266), (0, u "java/util/Collections$SynchronizedNavigableSet"), (1, .class_ 269), (0, u "java/util/Collections$SynchronizedRandomAccessList"), (1, .class_ 272), (0, u "java/util/Collections$SynchronizedList"), (5, .class_ 279), (0, u "java/util/Collections$SynchronizedMap"), (1, .class_ 282), (0, u "java/util/Collections$SynchronizedSortedMap"), (1, .class_ 285), (0, u "java/util/Collections$SynchronizedNavigableMap"), (1, .class_ 288), (0, u "java/util/Collections$CheckedCollection"), (11, .class_ 301), (0, u "java/util/Collections$CheckedQueue"), (3, .class_ 306), (0, u "java/util/Collections$CheckedSet"), (3, .class_ 311), (0, u "java/util/Collections$CheckedSortedSet"), (3, .class_ 316), (0, u "java/util/Collections$CheckedNavigableSet"), (3, .class_ 321), (0, u "java/util/Collections$CheckedRandomAccessList"), (3, .class_ 326), (0, u "java/util/Collections$CheckedList"), (1, .class_ 329), (0, u "java/util/Collections$CheckedMap"), (3, .class_ 334), (0, u "java/util/Collections$CheckedSortedMap"), (3, .class_ 339), (0, u "java/util/Collections$CheckedNavigableMap"), (4, .class_ 346), (1, u "java/util/Collections$EmptyIterator"), (3, .class_ 352), (1, u "java/util/Collections$EmptyListIterator"), (2, .class_ 357), (1, u "java/util/Collections$EmptyEnumeration"), (4, u "EMPTY_SET"), (0, u "Ljava/util/Set;"), (6, u "EMPTY_LIST"), (0, u "Ljava/util/List;"), (2, u "EMPTY_MAP"), (0, u "Ljava/util/Map;"), (4, .class_ 381), (0, u "java/util/Collections$SingletonSet"), (2, .class_ 385), (0, u "java/util/Collections$1"), (1, .class_ 388), (0, u "java/util/Collections$2"), (1, .class_ 391), (0, u "java/util/Collections$SingletonList"), (1, .class_ 394), (0, u "java/util/Collections$SingletonMap"), (22, .class_ 418), (0, u "java/util/Collections$CopiesList"), (4, .class_ 425), (1, u "java/util/Collections$ReverseComparator"), (8, .class_ 435), (0, u "java/util/Collections$ReverseComparator2"), (6, .class_ 443), (0, u "java/util/Collections$3"), (25, .class_ 470), (0, u "java/util/Collections$SetFromMap"), (2, .class_ 474), (0, u "java/util/Collections$SequencedSetFromMap"), (3, .class_ 479), (0, u "java/util/Collections$AsLIFOQueue"), (11, .class_ 492), (0, u "java/util/Collections$EmptySet"), (1, .class_ 495), (0, u "java/util/Collections$EmptyList"), (1, .class_ 498), (0, u "java/util/Collections$EmptyMap"), (1, u "BINARYSEARCH_THRESHOLD"), (0, u "I"), (2, u "REVERSE_THRESHOLD"), (1, u "SHUFFLE_THRESHOLD"), (1, u "FILL_THRESHOLD"), (1, u "ROTATE_THRESHOLD"), (1, u "COPY_THRESHOLD"), (1, u "REPLACEALL_THRESHOLD"), (1, u "INDEXOFSUBLIST_THRESHOLD"), (333, .class_ 851), (0, u "java/util/Collections$CheckedMap$CheckedEntrySet"), (0, .class_ 853), (0, u "java/util/Collections$CheckedMap$CheckedEntrySet$CheckedEntry"), (0, .class_ 855), (0, u "java/util/Collections$CheckedMap$CheckedEntrySet$1"), (0, .class_ 857), (0, u "java/util/Collections$CheckedList$1"), (0, .class_ 859), (0, u "java/util/Collections$CheckedCollection$1"), (0, .class_ 861), (0, u "java/util/Collections$UnmodifiableNavigableMap$EmptyNavigableMap"), (0, .class_ 863), (0, u "java/util/Collections$UnmodifiableMap$UnmodifiableEntrySet"), (0, .class_ 865), (0, u "java/util/Collections$UnmodifiableMap$UnmodifiableEntrySet$UnmodifiableEntry"), (0, .class_ 867), (0, u "java/util/Collections$UnmodifiableMap$UnmodifiableEntrySet$UnmodifiableEntrySetSpliterator"), (0, .class_ 869), (0, u "java/util/Collections$UnmodifiableMap$UnmodifiableEntrySet$1"), (0, .class_ 871), (0, u "java/util/Collections$UnmodifiableList$1"), (0, .class_ 873), (0, u "java/util/Collections$UnmodifiableNavigableSet$EmptyNavigableSet"), (0, .class_ 875), (0, u "java/util/Collections$UnmodifiableCollection$1")] 57

def k22m0 : Method := { name := "<init>", desc := "()V", sig := { parameters := [], returnType := none }, accessFlags := 2, code := none }
/-- java/util/Collections -/
def k22 : Class := { plain "java/util/Collections" (some 0) with
  accessFlags := 33
  interfaces := #[]
  cf := some (fileOf pool22 19 #[.nestMembers #[478, 473, 469, 434, 423, 417, 393, 390, 380, 497, 494, 491, 355, 350, 344, 338, 333, 328, 850, 852, 854, 320, 325, 856, 315, 310, 305, 300, 287, 858, 284, 281, 278, 268, 271, 265, 262, 256, 250, 245, 860, 237, 231, 223, 862, 864, 866, 868, 215, 212, 870, 206, 872, 198, 190, 182, 174, 166, 874, 442, 387, 384]] #[{ accessFlags := 2, nameIndex := 5, descriptorIndex := 6, attributes := #[] }] 33 2 #[] #[{ accessFlags := 26, nameIndex := 500, descriptorIndex := 501, attributes := #[] }, { accessFlags := 26, nameIndex := 504, descriptorIndex := 501, attributes := #[] }, { accessFlags := 26, nameIndex := 506, descriptorIndex := 501, attributes := #[] }, { accessFlags := 26, nameIndex := 508, descriptorIndex := 501, attributes := #[] }, { accessFlags := 26, nameIndex := 510, descriptorIndex := 501, attributes := #[] }, { accessFlags := 26, nameIndex := 512, descriptorIndex := 501, attributes := #[] }, { accessFlags := 26, nameIndex := 514, descriptorIndex := 501, attributes := #[] }, { accessFlags := 26, nameIndex := 516, descriptorIndex := 501, attributes := #[] }, { accessFlags := 10, nameIndex := 84, descriptorIndex := 85, attributes := #[] }, { accessFlags := 25, nameIndex := 362, descriptorIndex := 363, attributes := #[] }, { accessFlags := 25, nameIndex := 370, descriptorIndex := 371, attributes := #[] }, { accessFlags := 25, nameIndex := 374, descriptorIndex := 375, attributes := #[] }])
  fields := #[{ name := "BINARYSEARCH_THRESHOLD", type := .int, accessFlags := 26, slot := 0, constantValue := 0 }, { name := "REVERSE_THRESHOLD", type := .int, accessFlags := 26, slot := 1, constantValue := 0 }, { name := "SHUFFLE_THRESHOLD", type := .int, accessFlags := 26, slot := 2, constantValue := 0 }, { name := "FILL_THRESHOLD", type := .int, accessFlags := 26, slot := 3, constantValue := 0 }, { name := "ROTATE_THRESHOLD", type := .int, accessFlags := 26, slot := 4, constantValue := 0 }, { name := "COPY_THRESHOLD", type := .int, accessFlags := 26, slot := 5, constantValue := 0 }, { name := "REPLACEALL_THRESHOLD", type := .int, accessFlags := 26, slot := 6, constantValue := 0 }, { name := "INDEXOFSUBLIST_THRESHOLD", type := .int, accessFlags := 26, slot := 7, constantValue := 0 }, { name := "r", type := (.object "java/util/Random"), accessFlags := 10, slot := 8, constantValue := 0 }, { name := "EMPTY_SET", type := (.object "java/util/Set"), accessFlags := 25, slot := 9, constantValue := 0 }, { name := "EMPTY_LIST", type := (.object "java/util/List"), accessFlags := 25, slot := 10, constantValue := 0 }, { name := "EMPTY_MAP", type := (.object "java/util/Map"), accessFlags := 25, slot := 11, constantValue := 0 }]
  methods := #[k22m0]
  instanceTypes := #[]
  staticTypes := #[.int, .int, .int, .int, .int, .int, .int, .int, (.object "java/util/Random"), (.object "java/util/Set"), (.object "java/util/List"), (.object "java/util/Map")]
  resolved := Array.replicate 933 none
  statics := some 3 }

def pool23 : Array CpInfo := pool [(8, .class_ 10), (1, u "java/lang/Iterable"), (24, .class_ 36), (0, u "java/lang/Object")] 25

/-- java/lang/Iterable -/
def k23 : Class := { plain "java/lang/Iterable" (some 0) with
  accessFlags := 1537
  interfaces := #[]
  cf := some (fileOf pool23 8 #[] #[] 1537 35 #[] #[])
  fields := #[]
  methods := #[]
  instanceTypes := #[]
  staticTypes := #[]
  resolved := Array.replicate 62 none
  statics := none }

def pool24 : Array CpInfo := pool [(10, .class_ 12), (1, u "java/util/Collection"), (47, .class_ 61), (0, u "java/lang/Object"), (0, .class_ 63), (0, u "java/lang/Iterable")] 51

/-- java/util/Collection -/
def k24 : Class := { plain "java/util/Collection" (some 0) with
  accessFlags := 1537
  interfaces := #[23]
  cf := some (fileOf pool24 10 #[] #[] 1537 60 #[62] #[])
  fields := #[]
  methods := #[]
  instanceTypes := #[]
  staticTypes := #[]
  resolved := Array.replicate 115 none
  statics := none }

def pool25 : Array CpInfo := pool [(2, .class_ 4), (1, u "java/lang/Object"), (0, u "<init>"), (0, u "()V"), (1, .class_ 10), (1, u "java/util/AbstractCollection"), (66, .class_ 78), (0, u "java/util/Collection")] 81

def k25m0 : Method := { name := "<init>", desc := "()V", sig := { parameters := [], returnType := none }, accessFlags := 4, code := none }
/-- java/util/AbstractCollection -/
def k25 : Class := { plain "java/util/AbstractCollection" (some 0) with
  accessFlags := 1057
  interfaces := #[24]
  cf := some (fileOf pool25 8 #[] #[{ accessFlags := 4, nameIndex := 5, descriptorIndex := 6, attributes := #[] }] 1057 2 #[77] #[])
  fields := #[]
  methods := #[k25m0]
  instanceTypes := #[]
  staticTypes := #[]
  resolved := Array.replicate 160 none
  statics := none }

def pool26 : Array CpInfo := pool [(8, .class_ 10), (1, u "java/util/SequencedCollection"), (15, .class_ 27), (0, u "java/lang/Object"), (0, .class_ 29), (0, u "java/util/Collection")] 27

/-- java/util/SequencedCollection -/
def k26 : Class := { plain "java/util/SequencedCollection" (some 0) with
  accessFlags := 1537
  interfaces := #[24]
  cf := some (fileOf pool26 8 #[] #[] 1537 26 #[28] #[])
  fields := #[]
  methods := #[]
  instanceTypes := #[]
  staticTypes := #[]
  resolved := Array.replicate 57 none
  statics := none }

def pool27 : Array CpInfo := pool [(8, .class_ 10), (1, u "java/util/List"), (92, .class_ 104), (0, u "java/lang/Object"), (15, .class_ 121), (0, u "java/util/SequencedCollection")] 129

/-- java/util/List -/
def k27 : Class := { plain "java/util/List" (some 0) with
  accessFlags := 1537
  interfaces := #[26]
  cf := some (fileOf pool27 8 #[] #[] 1537 103 #[120] #[])
  fields := #[]
  methods := #[]
  instanceTypes := #[]
  staticTypes := #[]
  resolved := Array.replicate 251 none
  statics := none }

def pool28 : Array CpInfo := pool [(2, .class_ 4), (1, u "java/util/AbstractCollection"), (0, u "<init>"), (0, u "()V"), (1, .class_ 10), (1, u "java/util/AbstractList"), (0, u "modCount"), (0, u "I"), (64, .class_ 78), (0, u "java/util/AbstractList$Itr"), (3, .class_ 83), (0, u "java/util/AbstractList$ListItr"), (9, .class_ 94), (0, u "java/util/AbstractList$RandomAccessSubList"), (3, .class_ 99), (0, u "java/util/AbstractList$SubList"), (33, .class_ 134), (0, u "java/util/List"), (73, .class_ 209), (0, u "java/util/AbstractList$SubList$1"), (0, .class_ 211), (0, u "java/util/AbstractList$RandomAccessSpliterator")] 6

def k28m0 : Method := { name := "<init>", desc := "()V", sig := { parameters := [], returnType := none }, accessFlags := 4, code := none }
/-- java/util/AbstractList -/
def k28 : Class := { plain "java/util/AbstractList" (some 25) with
  accessFlags := 1057
  interfaces := #[27]
  cf := some (fileOf pool28 8 #[.nestMembers #[93, 98, 208, 210, 82, 77]] #[{ accessFlags := 4, nameIndex := 5, descriptorIndex := 6, attributes := #[] }] 1057 2 #[133] #[{ accessFlags := 132, nameIndex := 11, descriptorIndex := 12, attributes := #[] }])
  fields := #[{ name := "modCount", type := .int, accessFlags := 132, slot := 0, constantValue := 0 }]
  methods := #[k28m0]
  instanceTypes := #[.int]
  staticTypes := #[]
  resolved := Array.replicate 218 none
  statics := none }

def pool29 : Array CpInfo := pool [(1, .class_ 2), (0, u "java/util/RandomAccess"), (0, .class_ 4), (0, u "java/lang/Object")] 2

/-- java/util/RandomAccess -/
def k29 : Class := { plain "java/util/RandomAccess" (some 0) with
  accessFlags := 1537
  interfaces := #[]
  cf := some (fileOf pool29 1 #[] #[] 1537 3 #[] #[])
  fields := #[]
  methods := #[]
  instanceTypes := #[]
  staticTypes := #[]
  resolved := Array.replicate 7 none
  statics := none }

def pool30 : Array CpInfo := pool [(2, .class_ 4), (1, u "java/util/AbstractList"), (0, u "<init>"), (0, u "()V"), (1, .class_ 10), (1, u "java/util/Collections"), (54, .class_ 66), (0, u "java/util/Collections$EmptyList"), (0, .class_ 68), (0, u "java/util/RandomAccess"), (0, .class_ 70), (0, u "java/io/Serializable"), (0, u "serialVersionUID"), (0, u "J")] 77

def k30m0 : Method := { name := "<init>", desc := "()V", sig := { parameters := [], returnType := none }, accessFlags := 2, code := none }
/-- java/util/Collections$EmptyList -/
def k30 : Class := { plain "java/util/Collections$EmptyList" (some 28) with
  accessFlags := 32
  interfaces := #[29, 2]
  cf := some (fileOf pool30 65 #[.nestHost 8] #[{ accessFlags := 2, nameIndex := 5, descriptorIndex := 6, attributes := #[] }] 32 2 #[67, 69] #[{ accessFlags := 26, nameIndex := 71, descriptorIndex := 72, attributes := #[] }])
  fields := #[{ name := "serialVersionUID", type := .long, accessFlags := 26, slot := 0, constantValue := 0 }]
  methods := #[k30m0]
  instanceTypes := #[.int]
  staticTypes := #[.long]
  resolved := Array.replicate 150 none
  statics := none }

def pool31 : Array CpInfo := pool [(2, .class_ 4), (1, u "java/lang/StackTraceElement"), (0, u "<init>"), (2, .class_ 10), (1, u "java/lang/Object"), (0, u "()V"), (2, u "format"), (0, u "B"), (2, u "classLoaderName"), (0, u "Ljava/lang/String;"), (2, u "moduleName"), (2, u "moduleVersion"), (12, u "declaringClass"), (4, u "methodName"), (2, u "fileName"), (2, u "lineNumber"), (0, u "I"), (65, u "declaringClassObject"), (0, u "Ljava/lang/Class;"), (33, .class_ 153), (1, u "java/lang/StackTraceElement$HashedModules"), (17, .class_ 172), (0, u "java/io/Serializable"), (0, u "NATIVE_METHOD"), (1, u "UNKNOWN_SOURCE"), (2, u "BUILTIN_CLASS_LOADER"), (1, u "JDK_NON_UPGRADEABLE_MODULE"), (1, u "serialVersionUID"), (0, u "J")] 51

def k31m0 : Method := { name := "<init>", desc := "()V", sig := { parameters := [], returnType := none }, accessFlags := 2, code := none }
/-- java/lang/StackTraceElement -/
def k31 : Class := { plain "java/lang/StackTraceElement" (some 0) with
  accessFlags := 49
  interfaces := #[2]
  cf := some (fileOf pool31 2 #[.nestMembers #[151]] #[{ accessFlags := 2, nameIndex := 5, descriptorIndex := 11, attributes := #[] }] 49 8 #[171] #[{ accessFlags := 26, nameIndex := 173, descriptorIndex := 19, attributes := #[] }, { accessFlags := 26, nameIndex := 175, descriptorIndex := 19, attributes := #[] }, { accessFlags := 130, nameIndex := 116, descriptorIndex := 117, attributes := #[] }, { accessFlags := 2, nameIndex := 18, descriptorIndex := 19, attributes := #[] }, { accessFlags := 2, nameIndex := 22, descriptorIndex := 19, attributes := #[] }, { accessFlags := 2, nameIndex := 25, descriptorIndex := 19, attributes := #[] }, { accessFlags := 2, nameIndex := 38, descriptorIndex := 19, attributes := #[] }, { accessFlags := 2, nameIndex := 43, descriptorIndex := 19, attributes := #[] }, { accessFlags := 2, nameIndex := 46, descriptorIndex := 19, attributes := #[] }, { accessFlags := 2, nameIndex := 49, descriptorIndex := 50, attributes := #[] }, { accessFlags := 2, nameIndex := 14, descriptorIndex := 15, attributes := #[] }, { accessFlags := 26, nameIndex := 178, descriptorIndex := 15, attributes := #[] }, { accessFlags := 26, nameIndex := 180, descriptorIndex := 15, attributes := #[] }, { accessFlags := 26, nameIndex := 182, descriptorIndex := 183, attributes := #[] }])
  fields := #[{ name := "NATIVE_METHOD", type := (.object "java/lang/String"), accessFlags := 26, slot := 0, constantValue := 0 }, { name := "UNKNOWN_SOURCE", type := (.object "java/lang/String"), accessFlags := 26, slot := 1, constantValue := 0 }, { name := "declaringClassObject", type := (.object "java/lang/Class"), accessFlags := 130, slot := 0, constantValue := 0 }, { name := "classLoaderName", type := (.object "java/lang/String"), accessFlags := 2, slot := 1, constantValue := 0 }, { name := "moduleName", type := (.object "java/lang/String"), accessFlags := 2, slot := 2, constantValue := 0 }, { name := "moduleVersion", type := (.object "java/lang/String"), accessFlags := 2, slot := 3, constantValue := 0 }, { name := "declaringClass", type := (.object "java/lang/String"), accessFlags := 2, slot := 4, constantValue := 0 }, { name := "methodName", type := (.object "java/lang/String"), accessFlags := 2, slot := 5, constantValue := 0 }, { name := "fileName", type := (.object "java/lang/String"), accessFlags := 2, slot := 6, constantValue := 0 }, { name := "lineNumber", type := .int, accessFlags := 2, slot := 7, constantValue := 0 }, { name := "format", type := .byte, accessFlags := 2, slot := 8, constantValue := 0 }, { name := "BUILTIN_CLASS_LOADER", type := .byte, accessFlags := 26, slot := 2, constantValue := 0 }, { name := "JDK_NON_UPGRADEABLE_MODULE", type := .byte, accessFlags := 26, slot := 3, constantValue := 0 }, { name := "serialVersionUID", type := .long, accessFlags := 26, slot := 4, constantValue := 0 }]
  methods := #[k31m0]
  instanceTypes := #[(.object "java/lang/Class"), (.object "java/lang/String"), (.object "java/lang/String"), (.object "java/lang/String"), (.object "java/lang/String"), (.object "java/lang/String"), (.object "java/lang/String"), .int, .byte]
  staticTypes := #[(.object "java/lang/String"), (.object "java/lang/String"), .byte, .byte, .long]
  resolved := Array.replicate 235 none
  statics := none }

def pool32 : Array CpInfo := pool [(1, u "java/lang/Cloneable"), (0, .class_ 1), (0, u "java/lang/Object"), (0, .class_ 3)] 3

/-- java/lang/Cloneable -/
def k32 : Class := { plain "java/lang/Cloneable" (some 0) with
  accessFlags := 1537
  interfaces := #[]
  cf := some (fileOf pool32 2 #[] #[] 1537 4 #[] #[])
  fields := #[]
  methods := #[]
  instanceTypes := #[]
  staticTypes := #[]
  resolved := Array.replicate 8 none
  statics := none }

/-- the primitive byte -/
def k33 : Class := { plain "byte" none with kind := .primitive 'B', accessFlags := 0x411 }
/-- [B -/
def k34 : Class := { plain "[B" (some 0) with kind := .array 33 .byte, interfaces := #[32, 2], accessFlags := 1041 }

/-- the primitive char -/
def k35 : Class := { plain "char" none with kind := .primitive 'C', accessFlags := 0x411 }
/-- [C -/
def k36 : Class := { plain "[C" (some 0) with kind := .array 35 .char, interfaces := #[32, 2], accessFlags := 1041 }

/-- the primitive int -/
def k37 : Class := { plain "int" none with kind := .primitive 'I', accessFlags := 0x411 }
/-- [I -/
def k38 : Class := { plain "[I" (some 0) with kind := .array 37 .int, interfaces := #[32, 2], accessFlags := 1041 }

/-- [Ljava/lang/Object; -/
def k39 : Class := { plain "[Ljava/lang/Object;" (some 0) with kind := .array 0 (.object "java/lang/Object"), interfaces := #[32, 2], accessFlags := 1041 }

/-- [Ljava/lang/StackTraceElement; -/
def k40 : Class := { plain "[Ljava/lang/StackTraceElement;" (some 0) with kind := .array 31 (.object "java/lang/StackTraceElement"), interfaces := #[32, 2], accessFlags := 1041 }

/-- [Ljava/lang/Throwable; -/
def k41 : Class := { plain "[Ljava/lang/Throwable;" (some 0) with kind := .array 8 (.object "java/lang/Throwable"), interfaces := #[32, 2], accessFlags := 1041 }

def heap : Heap := #[{ cls := 7, slots := #[.long 0, .int 1, .null, .int 0, .null, .int 0, .int 0], vm := .statics 7 },
  { cls := 8, slots := #[.long 0, .ref 4, .ref 5, .null, .null, .null, .null, .ref 6, .int 1], vm := .statics 8 },
  { cls := 20, slots := #[.null, .null, .null], vm := .statics 20 },
  { cls := 22, slots := #[.int 0, .int 0, .int 0, .int 0, .int 0, .int 0, .int 0, .int 0, .null, .null, .ref 5, .null], vm := .statics 22 },
  { cls := 40, slots := #[], vm := .none },
  { cls := 30, slots := #[.int 0], vm := .none },
  { cls := 41, slots := #[], vm := .none }]
def classes : Array Class := #[k0, k1, k2, k3, k4, k5, k6, k7, k8, k9, k10, k11, k12, k13, k14, k15, k16, k17, k18, k19, k20, k21, k22, k23, k24, k25, k26, k27, k28, k29, k30, k31, k32, k33, k34, k35, k36, k37, k38, k39, k40, k41]
def interned : List (Array UInt16 × Addr) := []
def slotsUsed : Nat := 32
def theMethod : MethodId := ⟨1, 1⟩
def args0 : Array Value := #[.int 5, .int 65, .int 66, .int 67]
def aboutOver (below : List Frame) : State where
  vm := { classes := classes, interned := interned.toArray }
  heap := heap
  slotsUsed := slotsUsed
  threads := #[{ frames := .invoking theMethod args0 :: below }]
def below0 : List Frame := [.native { method := ⟨0, 0⟩, args := #[] }]
def about1 : State := aboutOver below0
def p0 : Program := .bare "" "" ""
def e0 : Env := launch0.env 0 0 0
theorem w_frames : about1.frames = Frame.invoking theMethod args0 :: below0 := rfl
set_option maxRecDepth 65536 in
theorem w_args : argsFit about1.vm theMethod args0 = true := by decide +kernel
set_option maxRecDepth 65536 in
theorem w_heap : heapFits about1 = true := by decide +kernel
set_option maxRecDepth 65536 in
theorem w_runnable : about1.curStatus? = some .runnable := by decide +kernel
set_option maxRecDepth 65536 in
theorem w_alone : about1.alone = true := by decide +kernel
set_option maxRecDepth 65536 in
theorem w_named : about1.methodNamed? x = some theMethod := by decide +kernel
set_option maxRecDepth 65536 in
theorem w_hears : about1.hears theMethod below0 = true := by decide +kernel
set_option maxRecDepth 65536 in
theorem w_ripe : about1.ripe theMethod args0 below0 = true := by decide +kernel
theorem w_running : about1.status = .running := rfl
set_option maxRecDepth 65536 in
theorem w_room : about1.hasRoom e0.platform room_1 = true :=
  launch0.hasRoom_least _ room_1 (by decide +kernel) (by decide +kernel) (by decide +kernel) (by decide +kernel) (by decide +kernel) (by decide +kernel)
theorem allAtoms_all (ts : List Jvm.Cond) (a : Array Jvm.Value) (st : Jvm.State) : (allAtoms ts).before a st = ts.all (fun c => c.before a st) := by
  induction ts with
  | nil => rfl
  | cons c t ih =>
    show (Jvm.Cond.and c (allAtoms t)).before a st = _
    rw [Jvm.Cond.before_and, ih, List.all_cons]
def words1 : List Jvm.Cond := Jvm.Cond.code x code maxLocals ret :: tables_1
/-- a 'code' word, met by the world's own term for the bytes: nothing is compared byte by byte -/
theorem code_word {y : MethodName} {bytes : ByteArray} {mx : Nat} {rt : Option FieldType} {a : Array Value} {s : State} {m : MethodId} {meth : Method} {c : Code} (h1 : s.methodNamed? y = some m) (h2 : s.vm.method? m = some meth) (h3 : meth.code = some c) (h4 : c.code = bytes)
    (h5 : (c.maxLocals == mx && c.exceptionTable.isEmpty && decide (c.maxStack ≤ mostOperands) && decide (meth.sig.returnType = rt) && !meth.locks && decide (parseMethodDescriptor y.desc = some meth.sig)) = true) : (Jvm.Cond.code y bytes mx rt).before a s = true := by
  simp only [Bool.and_eq_true, beq_iff_eq, Bool.not_eq_true', decide_eq_true_eq] at h5
  obtain ⟨⟨⟨⟨⟨g1, g2⟩, g3⟩, g4⟩, g5⟩, g6⟩ := h5
  simp [Cond.before, Cond.holds, Cond.value, h1, h2, h3, h4, g1, g2, g3, g4, g5, g6]
def isCode : Jvm.Cond → Bool
  | .code _ _ _ _ => true
  | _ => false
theorem all_split {L : List Jvm.Cond} {P : Jvm.Cond → Bool} (h1 : L.all (fun c => isCode c || P c) = true) (h2 : ∀ c ∈ L.filter isCode, P c = true) : L.all P = true := by
  refine List.all_eq_true.mpr fun c hc => ?_
  have h := List.all_eq_true.mp h1 c hc
  rcases Bool.eq_false_or_eq_true (isCode c) with hi | hi
  · exact h2 c (List.mem_filter.mpr ⟨hc, hi⟩)
  · simpa [hi] using h
set_option maxRecDepth 65536 in
theorem w_c0 : (Jvm.Cond.code x code maxLocals ret).before args0 about1 = true := code_word (m := ⟨1, 1⟩) (meth := k1m1) (c := k1c1) (by decide +kernel) rfl rfl rfl (by decide +kernel)
set_option maxRecDepth 65536 in
theorem w_c1 : (Jvm.Cond.code ({ cls := "java/lang/String", name := "<init>", desc := "([C)V" } : Jvm.MethodName) jdk_42_method_3_code (2 : Nat) (Option.none : Option Jvm.ClassFile.FieldType)).before args0 about1 = true := code_word (m := ⟨7, 1⟩) (meth := k7m1) (c := k7c1) (by decide +kernel) rfl rfl rfl (by decide +kernel)
set_option maxRecDepth 65536 in
theorem w_c2 : (Jvm.Cond.code ({ cls := "java/lang/String", name := "<init>", desc := "([CIILjava/lang/Void;)V" } : Jvm.MethodName) jdk_42_method_149_code (6 : Nat) (Option.none : Option Jvm.ClassFile.FieldType)).before args0 about1 = true := code_word (m := ⟨7, 7⟩) (meth := k7m7) (c := k7c7) (by decide +kernel) rfl rfl rfl (by decide +kernel)
set_option maxRecDepth 65536 in
theorem w_c3 : (Jvm.Cond.code ({ cls := "java/lang/Object", name := "<init>", desc := "()V" } : Jvm.MethodName) object_method_1_code (1 : Nat) (Option.none : Option Jvm.ClassFile.FieldType)).before args0 about1 = true := code_word (m := ⟨0, 0⟩) (meth := k0m0) (c := k0c0) (by decide +kernel) rfl rfl rfl (by decide +kernel)
set_option maxRecDepth 65536 in
theorem w_c4 : (Jvm.Cond.code ({ cls := "com/example/dipper/dipper/store/NotFoundException", name := "room", desc := "(Ljava/lang/String;)Lcom/example/dipper/dipper/store/NotFoundException;" } : Jvm.MethodName) prog_15_method_2_code (1 : Nat) (Option.some (Jvm.ClassFile.FieldType.object "com/example/dipper/dipper/store/NotFoundException"))).before args0 about1 = true := code_word (m := ⟨11, 1⟩) (meth := k11m1) (c := k11c1) (by decide +kernel) rfl rfl rfl (by decide +kernel)
set_option maxRecDepth 65536 in
theorem w_c5 : (Jvm.Cond.code ({ cls := "java/lang/StringBuilder", name := "<init>", desc := "()V" } : Jvm.MethodName) jdk_67_method_1_code (1 : Nat) (Option.none : Option Jvm.ClassFile.FieldType)).before args0 about1 = true := code_word (m := ⟨14, 0⟩) (meth := k14m0) (c := k14c0) (by decide +kernel) rfl rfl rfl (by decide +kernel)
set_option maxRecDepth 65536 in
theorem w_c6 : (Jvm.Cond.code ({ cls := "java/lang/AbstractStringBuilder", name := "<init>", desc := "(I)V" } : Jvm.MethodName) jdk_68_method_2_code (2 : Nat) (Option.none : Option Jvm.ClassFile.FieldType)).before args0 about1 = true := code_word (m := ⟨13, 1⟩) (meth := k13m1) (c := k13c1) (by decide +kernel) rfl rfl rfl (by decide +kernel)
set_option maxRecDepth 65536 in
theorem w_c7 : (Jvm.Cond.code ({ cls := "java/lang/StringBuilder", name := "append", desc := "(Ljava/lang/String;)Ljava/lang/StringBuilder;" } : Jvm.MethodName) jdk_67_method_7_code (2 : Nat) (Option.some (Jvm.ClassFile.FieldType.object "java/lang/StringBuilder"))).before args0 about1 = true := code_word (m := ⟨14, 1⟩) (meth := k14m1) (c := k14c1) (by decide +kernel) rfl rfl rfl (by decide +kernel)
set_option maxRecDepth 65536 in
theorem w_c8 : (Jvm.Cond.code ({ cls := "java/lang/AbstractStringBuilder", name := "append", desc := "(Ljava/lang/String;)Ljava/lang/AbstractStringBuilder;" } : Jvm.MethodName) jdk_68_method_22_code (3 : Nat) (Option.some (Jvm.ClassFile.FieldType.object "java/lang/AbstractStringBuilder"))).before args0 about1 = true := code_word (m := ⟨13, 5⟩) (meth := k13m5) (c := k13c5) (by decide +kernel) rfl rfl rfl (by decide +kernel)
set_option maxRecDepth 65536 in
theorem w_c9 : (Jvm.Cond.code ({ cls := "java/lang/String", name := "length", desc := "()I" } : Jvm.MethodName) jdk_42_method_54_code (1 : Nat) (Option.some Jvm.ClassFile.FieldType.int)).before args0 about1 = true := code_word (m := ⟨7, 3⟩) (meth := k7m3) (c := k7c3) (by decide +kernel) rfl rfl rfl (by decide +kernel)
set_option maxRecDepth 65536 in
theorem w_c10 : (Jvm.Cond.code ({ cls := "java/lang/String", name := "coder", desc := "()B" } : Jvm.MethodName) jdk_42_method_152_code (1 : Nat) (Option.some Jvm.ClassFile.FieldType.byte)).before args0 about1 = true := code_word (m := ⟨7, 10⟩) (meth := k7m10) (c := k7c10) (by decide +kernel) rfl rfl rfl (by decide +kernel)
set_option maxRecDepth 65536 in
theorem w_c11 : (Jvm.Cond.code ({ cls := "java/lang/AbstractStringBuilder", name := "ensureCapacityInternal", desc := "(I)V" } : Jvm.MethodName) jdk_68_method_9_code (3 : Nat) (Option.none : Option Jvm.ClassFile.FieldType)).before args0 about1 = true := code_word (m := ⟨13, 3⟩) (meth := k13m3) (c := k13c3) (by decide +kernel) rfl rfl rfl (by decide +kernel)
set_option maxRecDepth 65536 in
theorem w_c12 : (Jvm.Cond.code ({ cls := "java/lang/AbstractStringBuilder", name := "putStringAt", desc := "(ILjava/lang/String;)V" } : Jvm.MethodName) jdk_68_method_73_code (3 : Nat) (Option.none : Option Jvm.ClassFile.FieldType)).before args0 about1 = true := code_word (m := ⟨13, 10⟩) (meth := k13m10) (c := k13c10) (by decide +kernel) rfl rfl rfl (by decide +kernel)
set_option maxRecDepth 65536 in
theorem w_c13 : (Jvm.Cond.code ({ cls := "java/lang/AbstractStringBuilder", name := "inflateIfNeededFor", desc := "(Ljava/lang/String;)V" } : Jvm.MethodName) jdk_68_method_71_code (2 : Nat) (Option.none : Option Jvm.ClassFile.FieldType)).before args0 about1 = true := code_word (m := ⟨13, 9⟩) (meth := k13m9) (c := k13c9) (by decide +kernel) rfl rfl rfl (by decide +kernel)
set_option maxRecDepth 65536 in
theorem w_c14 : (Jvm.Cond.code ({ cls := "java/lang/String", name := "getBytes", desc := "([BIB)V" } : Jvm.MethodName) jdk_42_method_147_code (4 : Nat) (Option.none : Option Jvm.ClassFile.FieldType)).before args0 about1 = true := code_word (m := ⟨7, 6⟩) (meth := k7m6) (c := k7c6) (by decide +kernel) rfl rfl rfl (by decide +kernel)
set_option maxRecDepth 65536 in
theorem w_c15 : (Jvm.Cond.code ({ cls := "java/lang/AbstractStringBuilder", name := "newCapacity", desc := "(I)I" } : Jvm.MethodName) jdk_68_method_10_code (6 : Nat) (Option.some Jvm.ClassFile.FieldType.int)).before args0 about1 = true := code_word (m := ⟨13, 4⟩) (meth := k13m4) (c := k13c4) (by decide +kernel) rfl rfl rfl (by decide +kernel)
set_option maxRecDepth 65536 in
theorem w_c16 : (Jvm.Cond.code ({ cls := "jdk/internal/util/ArraysSupport", name := "newLength", desc := "(III)I" } : Jvm.MethodName) jdk_48_method_27_code (4 : Nat) (Option.some Jvm.ClassFile.FieldType.int)).before args0 about1 = true := code_word (m := ⟨16, 1⟩) (meth := k16m1) (c := k16c1) (by decide +kernel) rfl rfl rfl (by decide +kernel)
set_option maxRecDepth 65536 in
theorem w_c17 : (Jvm.Cond.code ({ cls := "java/lang/Math", name := "max", desc := "(II)I" } : Jvm.MethodName) jdk_29_method_65_code (2 : Nat) (Option.some Jvm.ClassFile.FieldType.int)).before args0 about1 = true := code_word (m := ⟨17, 1⟩) (meth := k17m1) (c := k17c1) (by decide +kernel) rfl rfl rfl (by decide +kernel)
set_option maxRecDepth 65536 in
theorem w_c18 : (Jvm.Cond.code ({ cls := "java/util/Arrays", name := "copyOf", desc := "([BI)[B" } : Jvm.MethodName) jdk_65_method_121_code (3 : Nat) (Option.some (Jvm.ClassFile.FieldType.array Jvm.ClassFile.FieldType.byte))).before args0 about1 = true := code_word (m := ⟨18, 1⟩) (meth := k18m1) (c := k18c1) (by decide +kernel) rfl rfl rfl (by decide +kernel)
set_option maxRecDepth 65536 in
theorem w_c19 : (Jvm.Cond.code ({ cls := "java/lang/Math", name := "min", desc := "(II)I" } : Jvm.MethodName) jdk_29_method_69_code (2 : Nat) (Option.some Jvm.ClassFile.FieldType.int)).before args0 about1 = true := code_word (m := ⟨17, 2⟩) (meth := k17m2) (c := k17c2) (by decide +kernel) rfl rfl rfl (by decide +kernel)
set_option maxRecDepth 65536 in
theorem w_c20 : (Jvm.Cond.code ({ cls := "java/lang/StringBuilder", name := "toString", desc := "()Ljava/lang/String;" } : Jvm.MethodName) jdk_67_method_42_code (1 : Nat) (Option.some (Jvm.ClassFile.FieldType.object "java/lang/String"))).before args0 about1 = true := code_word (m := ⟨14, 2⟩) (meth := k14m2) (c := k14c2) (by decide +kernel) rfl rfl rfl (by decide +kernel)
set_option maxRecDepth 65536 in
theorem w_c21 : (Jvm.Cond.code ({ cls := "java/lang/String", name := "<init>", desc := "(Ljava/lang/StringBuilder;)V" } : Jvm.MethodName) jdk_42_method_53_code (2 : Nat) (Option.none : Option Jvm.ClassFile.FieldType)).before args0 about1 = true := code_word (m := ⟨7, 2⟩) (meth := k7m2) (c := k7c2) (by decide +kernel) rfl rfl rfl (by decide +kernel)
set_option maxRecDepth 65536 in
theorem w_c22 : (Jvm.Cond.code ({ cls := "java/lang/String", name := "<init>", desc := "(Ljava/lang/AbstractStringBuilder;Ljava/lang/Void;)V" } : Jvm.MethodName) jdk_42_method_150_code (5 : Nat) (Option.none : Option Jvm.ClassFile.FieldType)).before args0 about1 = true := code_word (m := ⟨7, 8⟩) (meth := k7m8) (c := k7c8) (by decide +kernel) rfl rfl rfl (by decide +kernel)
set_option maxRecDepth 65536 in
theorem w_c23 : (Jvm.Cond.code ({ cls := "java/lang/AbstractStringBuilder", name := "getValue", desc := "()[B" } : Jvm.MethodName) jdk_68_method_64_code (1 : Nat) (Option.some (Jvm.ClassFile.FieldType.array Jvm.ClassFile.FieldType.byte))).before args0 about1 = true := code_word (m := ⟨13, 7⟩) (meth := k13m7) (c := k13c7) (by decide +kernel) rfl rfl rfl (by decide +kernel)
set_option maxRecDepth 65536 in
theorem w_c24 : (Jvm.Cond.code ({ cls := "java/lang/StringBuilder", name := "length", desc := "()I" } : Jvm.MethodName) jdk_67_method_93_code (1 : Nat) (Option.some Jvm.ClassFile.FieldType.int)).before args0 about1 = true := code_word (m := ⟨14, 3⟩) (meth := k14m3) (c := k14c3) (by decide +kernel) rfl rfl rfl (by decide +kernel)
set_option maxRecDepth 65536 in
theorem w_c25 : (Jvm.Cond.code ({ cls := "java/lang/AbstractStringBuilder", name := "length", desc := "()I" } : Jvm.MethodName) jdk_68_method_6_code (1 : Nat) (Option.some Jvm.ClassFile.FieldType.int)).before args0 about1 = true := code_word (m := ⟨13, 2⟩) (meth := k13m2) (c := k13c2) (by decide +kernel) rfl rfl rfl (by decide +kernel)
set_option maxRecDepth 65536 in
theorem w_c26 : (Jvm.Cond.code ({ cls := "java/lang/AbstractStringBuilder", name := "isLatin1", desc := "()Z" } : Jvm.MethodName) jdk_68_method_68_code (1 : Nat) (Option.some Jvm.ClassFile.FieldType.boolean)).before args0 about1 = true := code_word (m := ⟨13, 8⟩) (meth := k13m8) (c := k13c8) (by decide +kernel) rfl rfl rfl (by decide +kernel)
set_option maxRecDepth 65536 in
theorem w_c27 : (Jvm.Cond.code ({ cls := "java/util/Arrays", name := "copyOfRange", desc := "([BII)[B" } : Jvm.MethodName) jdk_65_method_132_code (3 : Nat) (Option.some (Jvm.ClassFile.FieldType.array Jvm.ClassFile.FieldType.byte))).before args0 about1 = true := code_word (m := ⟨18, 3⟩) (meth := k18m3) (c := k18c3) (by decide +kernel) rfl rfl rfl (by decide +kernel)
set_option maxRecDepth 65536 in
theorem w_c28 : (Jvm.Cond.code ({ cls := "java/util/Arrays", name := "copyOfRangeByte", desc := "([BII)[B" } : Jvm.MethodName) jdk_65_method_133_code (5 : Nat) (Option.some (Jvm.ClassFile.FieldType.array Jvm.ClassFile.FieldType.byte))).before args0 about1 = true := code_word (m := ⟨18, 4⟩) (meth := k18m4) (c := k18c4) (by decide +kernel) rfl rfl rfl (by decide +kernel)
set_option maxRecDepth 65536 in
theorem w_c29 : (Jvm.Cond.code ({ cls := "java/util/Arrays", name := "checkLength", desc := "(II)V" } : Jvm.MethodName) jdk_65_method_131_code (2 : Nat) (Option.none : Option Jvm.ClassFile.FieldType)).before args0 about1 = true := code_word (m := ⟨18, 2⟩) (meth := k18m2) (c := k18c2) (by decide +kernel) rfl rfl rfl (by decide +kernel)
set_option maxRecDepth 65536 in
theorem w_c30 : (Jvm.Cond.code ({ cls := "com/example/dipper/dipper/store/NotFoundException", name := "<init>", desc := "(Ljava/lang/String;)V" } : Jvm.MethodName) prog_15_method_1_code (2 : Nat) (Option.none : Option Jvm.ClassFile.FieldType)).before args0 about1 = true := code_word (m := ⟨11, 0⟩) (meth := k11m0) (c := k11c0) (by decide +kernel) rfl rfl rfl (by decide +kernel)
set_option maxRecDepth 65536 in
theorem w_c31 : (Jvm.Cond.code ({ cls := "java/lang/RuntimeException", name := "<init>", desc := "(Ljava/lang/String;)V" } : Jvm.MethodName) jdk_58_method_2_code (2 : Nat) (Option.none : Option Jvm.ClassFile.FieldType)).before args0 about1 = true := code_word (m := ⟨10, 1⟩) (meth := k10m1) (c := k10c1) (by decide +kernel) rfl rfl rfl (by decide +kernel)
set_option maxRecDepth 65536 in
theorem w_c32 : (Jvm.Cond.code ({ cls := "java/lang/Exception", name := "<init>", desc := "(Ljava/lang/String;)V" } : Jvm.MethodName) jdk_59_method_2_code (2 : Nat) (Option.none : Option Jvm.ClassFile.FieldType)).before args0 about1 = true := code_word (m := ⟨9, 1⟩) (meth := k9m1) (c := k9c1) (by decide +kernel) rfl rfl rfl (by decide +kernel)
set_option maxRecDepth 65536 in
theorem w_c33 : (Jvm.Cond.code ({ cls := "java/lang/Throwable", name := "<init>", desc := "(Ljava/lang/String;)V" } : Jvm.MethodName) jdk_78_method_2_code (2 : Nat) (Option.none : Option Jvm.ClassFile.FieldType)).before args0 about1 = true := code_word (m := ⟨8, 1⟩) (meth := k8m1) (c := k8c1) (by decide +kernel) rfl rfl rfl (by decide +kernel)
set_option maxRecDepth 65536 in
theorem w_c34 : (Jvm.Cond.code ({ cls := "java/lang/Throwable", name := "<init>", desc := "()V" } : Jvm.MethodName) jdk_78_method_1_code (1 : Nat) (Option.none : Option Jvm.ClassFile.FieldType)).before args0 about1 = true := code_word (m := ⟨8, 0⟩) (meth := k8m0) (c := k8c0) (by decide +kernel) rfl rfl rfl (by decide +kernel)
set_option maxRecDepth 65536 in
theorem w_c35 : (Jvm.Cond.code ({ cls := "java/lang/Throwable", name := "getMessage", desc := "()Ljava/lang/String;" } : Jvm.MethodName) jdk_78_method_6_code (1 : Nat) (Option.some (Jvm.ClassFile.FieldType.object "java/lang/String"))).before args0 about1 = true := code_word (m := ⟨8, 2⟩) (meth := k8m2) (c := k8c2) (by decide +kernel) rfl rfl rfl (by decide +kernel)
set_option maxRecDepth 65536 in
theorem w_c36 : (Jvm.Cond.code ({ cls := "com/example/dipper/dipper/store/NotFoundExceptionRoomPinLaw", name := "at", desc := "(Ljava/lang/String;[CII)Z" } : Jvm.MethodName) method_3_code (4 : Nat) (Option.some Jvm.ClassFile.FieldType.boolean)).before args0 about1 = true := code_word (m := ⟨1, 2⟩) (meth := k1m2) (c := k1c2) (by decide +kernel) rfl rfl rfl (by decide +kernel)
set_option maxRecDepth 65536 in
theorem w_c37 : (Jvm.Cond.code ({ cls := "java/lang/String", name := "charAt", desc := "(I)C" } : Jvm.MethodName) jdk_42_method_56_code (2 : Nat) (Option.some Jvm.ClassFile.FieldType.char)).before args0 about1 = true := code_word (m := ⟨7, 4⟩) (meth := k7m4) (c := k7c4) (by decide +kernel) rfl rfl rfl (by decide +kernel)
set_option maxRecDepth 65536 in
theorem w_c38 : (Jvm.Cond.code ({ cls := "java/lang/String", name := "isLatin1", desc := "()Z" } : Jvm.MethodName) jdk_42_method_154_code (1 : Nat) (Option.some Jvm.ClassFile.FieldType.boolean)).before args0 about1 = true := code_word (m := ⟨7, 11⟩) (meth := k7m11) (c := k7c11) (by decide +kernel) rfl rfl rfl (by decide +kernel)
set_option maxRecDepth 65536 in
theorem w_c39 : (Jvm.Cond.code ({ cls := "java/lang/StringLatin1", name := "charAt", desc := "([BI)C" } : Jvm.MethodName) jdk_43_method_2_code (2 : Nat) (Option.some Jvm.ClassFile.FieldType.char)).before args0 about1 = true := code_word (m := ⟨19, 1⟩) (meth := k19m1) (c := k19c1) (by decide +kernel) rfl rfl rfl (by decide +kernel)
set_option maxRecDepth 65536 in
theorem w_c40 : (Jvm.Cond.code ({ cls := "java/lang/String", name := "checkIndex", desc := "(II)V" } : Jvm.MethodName) jdk_42_method_155_code (2 : Nat) (Option.none : Option Jvm.ClassFile.FieldType)).before args0 about1 = true := code_word (m := ⟨7, 12⟩) (meth := k7m12) (c := k7c12) (by decide +kernel) rfl rfl rfl (by decide +kernel)
set_option maxRecDepth 65536 in
theorem w_c41 : (Jvm.Cond.code ({ cls := "jdk/internal/util/Preconditions", name := "checkIndex", desc := "(IILjava/util/function/BiFunction;)I" } : Jvm.MethodName) jdk_41_method_11_code (3 : Nat) (Option.some Jvm.ClassFile.FieldType.int)).before args0 about1 = true := code_word (m := ⟨20, 1⟩) (meth := k20m1) (c := k20c1) (by decide +kernel) rfl rfl rfl (by decide +kernel)
set_option maxRecDepth 65536 in
theorem w_c42 : (Jvm.Cond.code ({ cls := "java/lang/AbstractStringBuilder", name := "appendNull", desc := "()Ljava/lang/AbstractStringBuilder;" } : Jvm.MethodName) jdk_68_method_26_code (3 : Nat) (Option.some (Jvm.ClassFile.FieldType.object "java/lang/AbstractStringBuilder"))).before args0 about1 = true := code_word (m := ⟨13, 6⟩) (meth := k13m6) (c := k13c6) (by decide +kernel) rfl rfl rfl (by decide +kernel)
set_option maxRecDepth 65536 in
theorem w_c43 : (Jvm.Cond.code ({ cls := "java/lang/StringUTF16", name := "compress", desc := "([CII)[B" } : Jvm.MethodName) jdk_52_method_16_code (6 : Nat) (Option.some (Jvm.ClassFile.FieldType.array Jvm.ClassFile.FieldType.byte))).before args0 about1 = true := code_word (m := ⟨21, 2⟩) (meth := k21m2) (c := k21c2) (by decide +kernel) rfl rfl rfl (by decide +kernel)
set_option maxRecDepth 65536 in
theorem w_c44 : (Jvm.Cond.code ({ cls := "java/lang/StringUTF16", name := "compress", desc := "([CI[BII)I" } : Jvm.MethodName) jdk_52_method_21_code (7 : Nat) (Option.some Jvm.ClassFile.FieldType.int)).before args0 about1 = true := code_word (m := ⟨21, 3⟩) (meth := k21m3) (c := k21c3) (by decide +kernel) rfl rfl rfl (by decide +kernel)
set_option maxRecDepth 65536 in
theorem w_c45 : (Jvm.Cond.code ({ cls := "java/lang/StringUTF16", name := "coderFromArrayLen", desc := "([BI)B" } : Jvm.MethodName) jdk_52_method_15_code (2 : Nat) (Option.some Jvm.ClassFile.FieldType.byte)).before args0 about1 = true := code_word (m := ⟨21, 1⟩) (meth := k21m1) (c := k21c1) (by decide +kernel) rfl rfl rfl (by decide +kernel)
set_option maxRecDepth 65536 in
theorem w_c46 : (Jvm.Cond.code ({ cls := "java/lang/String", name := "valueOf", desc := "(C)Ljava/lang/String;" } : Jvm.MethodName) jdk_42_method_139_code (1 : Nat) (Option.some (Jvm.ClassFile.FieldType.object "java/lang/String"))).before args0 about1 = true := code_word (m := ⟨7, 5⟩) (meth := k7m5) (c := k7c5) (by decide +kernel) rfl rfl rfl (by decide +kernel)
set_option maxRecDepth 65536 in
theorem w_c47 : (Jvm.Cond.code ({ cls := "java/lang/StringLatin1", name := "canEncode", desc := "(C)Z" } : Jvm.MethodName) jdk_43_method_3_code (1 : Nat) (Option.some Jvm.ClassFile.FieldType.boolean)).before args0 about1 = true := code_word (m := ⟨19, 2⟩) (meth := k19m2) (c := k19c2) (by decide +kernel) rfl rfl rfl (by decide +kernel)
set_option maxRecDepth 65536 in
theorem w_c48 : (Jvm.Cond.code ({ cls := "java/lang/StringLatin1", name := "toBytes", desc := "(C)[B" } : Jvm.MethodName) jdk_43_method_46_code (1 : Nat) (Option.some (Jvm.ClassFile.FieldType.array Jvm.ClassFile.FieldType.byte))).before args0 about1 = true := code_word (m := ⟨19, 3⟩) (meth := k19m3) (c := k19c3) (by decide +kernel) rfl rfl rfl (by decide +kernel)
set_option maxRecDepth 65536 in
theorem w_c49 : (Jvm.Cond.code ({ cls := "java/lang/String", name := "<init>", desc := "([BB)V" } : Jvm.MethodName) jdk_42_method_151_code (3 : Nat) (Option.none : Option Jvm.ClassFile.FieldType)).before args0 about1 = true := code_word (m := ⟨7, 9⟩) (meth := k7m9) (c := k7c9) (by decide +kernel) rfl rfl rfl (by decide +kernel)
def codes1 : List Jvm.Cond := [Jvm.Cond.code x code maxLocals ret, Jvm.Cond.code ({ cls := "java/lang/String", name := "<init>", desc := "([C)V" } : Jvm.MethodName) jdk_42_method_3_code (2 : Nat) (Option.none : Option Jvm.ClassFile.FieldType), Jvm.Cond.code ({ cls := "java/lang/String", name := "<init>", desc := "([CIILjava/lang/Void;)V" } : Jvm.MethodName) jdk_42_method_149_code (6 : Nat) (Option.none : Option Jvm.ClassFile.FieldType), Jvm.Cond.code ({ cls := "java/lang/Object", name := "<init>", desc := "()V" } : Jvm.MethodName) object_method_1_code (1 : Nat) (Option.none : Option Jvm.ClassFile.FieldType), Jvm.Cond.code ({ cls := "com/example/dipper/dipper/store/NotFoundException", name := "room", desc := "(Ljava/lang/String;)Lcom/example/dipper/dipper/store/NotFoundException;" } : Jvm.MethodName) prog_15_method_2_code (1 : Nat) (Option.some (Jvm.ClassFile.FieldType.object "com/example/dipper/dipper/store/NotFoundException")), Jvm.Cond.code ({ cls := "java/lang/StringBuilder", name := "<init>", desc := "()V" } : Jvm.MethodName) jdk_67_method_1_code (1 : Nat) (Option.none : Option Jvm.ClassFile.FieldType), Jvm.Cond.code ({ cls := "java/lang/AbstractStringBuilder", name := "<init>", desc := "(I)V" } : Jvm.MethodName) jdk_68_method_2_code (2 : Nat) (Option.none : Option Jvm.ClassFile.FieldType), Jvm.Cond.code ({ cls := "java/lang/StringBuilder", name := "append", desc := "(Ljava/lang/String;)Ljava/lang/StringBuilder;" } : Jvm.MethodName) jdk_67_method_7_code (2 : Nat) (Option.some (Jvm.ClassFile.FieldType.object "java/lang/StringBuilder")), Jvm.Cond.code ({ cls := "java/lang/AbstractStringBuilder", name := "append", desc := "(Ljava/lang/String;)Ljava/lang/AbstractStringBuilder;" } : Jvm.MethodName) jdk_68_method_22_code (3 : Nat) (Option.some (Jvm.ClassFile.FieldType.object "java/lang/AbstractStringBuilder")), Jvm.Cond.code ({ cls := "java/lang/String", name := "length", desc := "()I" } : Jvm.MethodName) jdk_42_method_54_code (1 : Nat) (Option.some Jvm.ClassFile.FieldType.int), Jvm.Cond.code ({ cls := "java/lang/String", name := "coder", desc := "()B" } : Jvm.MethodName) jdk_42_method_152_code (1 : Nat) (Option.some Jvm.ClassFile.FieldType.byte), Jvm.Cond.code ({ cls := "java/lang/AbstractStringBuilder", name := "ensureCapacityInternal", desc := "(I)V" } : Jvm.MethodName) jdk_68_method_9_code (3 : Nat) (Option.none : Option Jvm.ClassFile.FieldType), Jvm.Cond.code ({ cls := "java/lang/AbstractStringBuilder", name := "putStringAt", desc := "(ILjava/lang/String;)V" } : Jvm.MethodName) jdk_68_method_73_code (3 : Nat) (Option.none : Option Jvm.ClassFile.FieldType), Jvm.Cond.code ({ cls := "java/lang/AbstractStringBuilder", name := "inflateIfNeededFor", desc := "(Ljava/lang/String;)V" } : Jvm.MethodName) jdk_68_method_71_code (2 : Nat) (Option.none : Option Jvm.ClassFile.FieldType), Jvm.Cond.code ({ cls := "java/lang/String", name := "getBytes", desc := "([BIB)V" } : Jvm.MethodName) jdk_42_method_147_code (4 : Nat) (Option.none : Option Jvm.ClassFile.FieldType), Jvm.Cond.code ({ cls := "java/lang/AbstractStringBuilder", name := "newCapacity", desc := "(I)I" } : Jvm.MethodName) jdk_68_method_10_code (6 : Nat) (Option.some Jvm.ClassFile.FieldType.int), Jvm.Cond.code ({ cls := "jdk/internal/util/ArraysSupport", name := "newLength", desc := "(III)I" } : Jvm.MethodName) jdk_48_method_27_code (4 : Nat) (Option.some Jvm.ClassFile.FieldType.int), Jvm.Cond.code ({ cls := "java/lang/Math", name := "max", desc := "(II)I" } : Jvm.MethodName) jdk_29_method_65_code (2 : Nat) (Option.some Jvm.ClassFile.FieldType.int), Jvm.Cond.code ({ cls := "java/util/Arrays", name := "copyOf", desc := "([BI)[B" } : Jvm.MethodName) jdk_65_method_121_code (3 : Nat) (Option.some (Jvm.ClassFile.FieldType.array Jvm.ClassFile.FieldType.byte)), Jvm.Cond.code ({ cls := "java/lang/Math", name := "min", desc := "(II)I" } : Jvm.MethodName) jdk_29_method_69_code (2 : Nat) (Option.some Jvm.ClassFile.FieldType.int), Jvm.Cond.code ({ cls := "java/lang/StringBuilder", name := "toString", desc := "()Ljava/lang/String;" } : Jvm.MethodName) jdk_67_method_42_code (1 : Nat) (Option.some (Jvm.ClassFile.FieldType.object "java/lang/String")), Jvm.Cond.code ({ cls := "java/lang/String", name := "<init>", desc := "(Ljava/lang/StringBuilder;)V" } : Jvm.MethodName) jdk_42_method_53_code (2 : Nat) (Option.none : Option Jvm.ClassFile.FieldType), Jvm.Cond.code ({ cls := "java/lang/String", name := "<init>", desc := "(Ljava/lang/AbstractStringBuilder;Ljava/lang/Void;)V" } : Jvm.MethodName) jdk_42_method_150_code (5 : Nat) (Option.none : Option Jvm.ClassFile.FieldType), Jvm.Cond.code ({ cls := "java/lang/AbstractStringBuilder", name := "getValue", desc := "()[B" } : Jvm.MethodName) jdk_68_method_64_code (1 : Nat) (Option.some (Jvm.ClassFile.FieldType.array Jvm.ClassFile.FieldType.byte)), Jvm.Cond.code ({ cls := "java/lang/StringBuilder", name := "length", desc := "()I" } : Jvm.MethodName) jdk_67_method_93_code (1 : Nat) (Option.some Jvm.ClassFile.FieldType.int), Jvm.Cond.code ({ cls := "java/lang/AbstractStringBuilder", name := "length", desc := "()I" } : Jvm.MethodName) jdk_68_method_6_code (1 : Nat) (Option.some Jvm.ClassFile.FieldType.int), Jvm.Cond.code ({ cls := "java/lang/AbstractStringBuilder", name := "isLatin1", desc := "()Z" } : Jvm.MethodName) jdk_68_method_68_code (1 : Nat) (Option.some Jvm.ClassFile.FieldType.boolean), Jvm.Cond.code ({ cls := "java/util/Arrays", name := "copyOfRange", desc := "([BII)[B" } : Jvm.MethodName) jdk_65_method_132_code (3 : Nat) (Option.some (Jvm.ClassFile.FieldType.array Jvm.ClassFile.FieldType.byte)), Jvm.Cond.code ({ cls := "java/util/Arrays", name := "copyOfRangeByte", desc := "([BII)[B" } : Jvm.MethodName) jdk_65_method_133_code (5 : Nat) (Option.some (Jvm.ClassFile.FieldType.array Jvm.ClassFile.FieldType.byte)), Jvm.Cond.code ({ cls := "java/util/Arrays", name := "checkLength", desc := "(II)V" } : Jvm.MethodName) jdk_65_method_131_code (2 : Nat) (Option.none : Option Jvm.ClassFile.FieldType), Jvm.Cond.code ({ cls := "com/example/dipper/dipper/store/NotFoundException", name := "<init>", desc := "(Ljava/lang/String;)V" } : Jvm.MethodName) prog_15_method_1_code (2 : Nat) (Option.none : Option Jvm.ClassFile.FieldType), Jvm.Cond.code ({ cls := "java/lang/RuntimeException", name := "<init>", desc := "(Ljava/lang/String;)V" } : Jvm.MethodName) jdk_58_method_2_code (2 : Nat) (Option.none : Option Jvm.ClassFile.FieldType), Jvm.Cond.code ({ cls := "java/lang/Exception", name := "<init>", desc := "(Ljava/lang/String;)V" } : Jvm.MethodName) jdk_59_method_2_code (2 : Nat) (Option.none : Option Jvm.ClassFile.FieldType), Jvm.Cond.code ({ cls := "java/lang/Throwable", name := "<init>", desc := "(Ljava/lang/String;)V" } : Jvm.MethodName) jdk_78_method_2_code (2 : Nat) (Option.none : Option Jvm.ClassFile.FieldType), Jvm.Cond.code ({ cls := "java/lang/Throwable", name := "<init>", desc := "()V" } : Jvm.MethodName) jdk_78_method_1_code (1 : Nat) (Option.none : Option Jvm.ClassFile.FieldType), Jvm.Cond.code ({ cls := "java/lang/Throwable", name := "getMessage", desc := "()Ljava/lang/String;" } : Jvm.MethodName) jdk_78_method_6_code (1 : Nat) (Option.some (Jvm.ClassFile.FieldType.object "java/lang/String")), Jvm.Cond.code ({ cls := "com/example/dipper/dipper/store/NotFoundExceptionRoomPinLaw", name := "at", desc := "(Ljava/lang/String;[CII)Z" } : Jvm.MethodName) method_3_code (4 : Nat) (Option.some Jvm.ClassFile.FieldType.boolean), Jvm.Cond.code ({ cls := "java/lang/String", name := "charAt", desc := "(I)C" } : Jvm.MethodName) jdk_42_method_56_code (2 : Nat) (Option.some Jvm.ClassFile.FieldType.char), Jvm.Cond.code ({ cls := "java/lang/String", name := "isLatin1", desc := "()Z" } : Jvm.MethodName) jdk_42_method_154_code (1 : Nat) (Option.some Jvm.ClassFile.FieldType.boolean), Jvm.Cond.code ({ cls := "java/lang/StringLatin1", name := "charAt", desc := "([BI)C" } : Jvm.MethodName) jdk_43_method_2_code (2 : Nat) (Option.some Jvm.ClassFile.FieldType.char), Jvm.Cond.code ({ cls := "java/lang/String", name := "checkIndex", desc := "(II)V" } : Jvm.MethodName) jdk_42_method_155_code (2 : Nat) (Option.none : Option Jvm.ClassFile.FieldType), Jvm.Cond.code ({ cls := "jdk/internal/util/Preconditions", name := "checkIndex", desc := "(IILjava/util/function/BiFunction;)I" } : Jvm.MethodName) jdk_41_method_11_code (3 : Nat) (Option.some Jvm.ClassFile.FieldType.int), Jvm.Cond.code ({ cls := "java/lang/AbstractStringBuilder", name := "appendNull", desc := "()Ljava/lang/AbstractStringBuilder;" } : Jvm.MethodName) jdk_68_method_26_code (3 : Nat) (Option.some (Jvm.ClassFile.FieldType.object "java/lang/AbstractStringBuilder")), Jvm.Cond.code ({ cls := "java/lang/StringUTF16", name := "compress", desc := "([CII)[B" } : Jvm.MethodName) jdk_52_method_16_code (6 : Nat) (Option.some (Jvm.ClassFile.FieldType.array Jvm.ClassFile.FieldType.byte)), Jvm.Cond.code ({ cls := "java/lang/StringUTF16", name := "compress", desc := "([CI[BII)I" } : Jvm.MethodName) jdk_52_method_21_code (7 : Nat) (Option.some Jvm.ClassFile.FieldType.int), Jvm.Cond.code ({ cls := "java/lang/StringUTF16", name := "coderFromArrayLen", desc := "([BI)B" } : Jvm.MethodName) jdk_52_method_15_code (2 : Nat) (Option.some Jvm.ClassFile.FieldType.byte), Jvm.Cond.code ({ cls := "java/lang/String", name := "valueOf", desc := "(C)Ljava/lang/String;" } : Jvm.MethodName) jdk_42_method_139_code (1 : Nat) (Option.some (Jvm.ClassFile.FieldType.object "java/lang/String")), Jvm.Cond.code ({ cls := "java/lang/StringLatin1", name := "canEncode", desc := "(C)Z" } : Jvm.MethodName) jdk_43_method_3_code (1 : Nat) (Option.some Jvm.ClassFile.FieldType.boolean), Jvm.Cond.code ({ cls := "java/lang/StringLatin1", name := "toBytes", desc := "(C)[B" } : Jvm.MethodName) jdk_43_method_46_code (1 : Nat) (Option.some (Jvm.ClassFile.FieldType.array Jvm.ClassFile.FieldType.byte)), Jvm.Cond.code ({ cls := "java/lang/String", name := "<init>", desc := "([BB)V" } : Jvm.MethodName) jdk_42_method_151_code (3 : Nat) (Option.none : Option Jvm.ClassFile.FieldType)]
set_option maxRecDepth 65536 in
theorem codes_eq : words1.filter isCode = codes1 := rfl
theorem w_codes : ∀ c ∈ words1.filter isCode, c.before args0 about1 = true := by
  rw [codes_eq]
  intro c hc
  simp only [codes1, List.mem_cons, List.not_mem_nil, or_false] at hc
  rcases hc with rfl | rfl | rfl | rfl | rfl | rfl | rfl | rfl | rfl | rfl | rfl | rfl | rfl | rfl | rfl | rfl | rfl | rfl | rfl | rfl | rfl | rfl | rfl | rfl | rfl | rfl | rfl | rfl | rfl | rfl | rfl | rfl | rfl | rfl | rfl | rfl | rfl | rfl | rfl | rfl | rfl | rfl | rfl | rfl | rfl | rfl | rfl | rfl | rfl | rfl
  · exact w_c0
  · exact w_c1
  · exact w_c2
  · exact w_c3
  · exact w_c4
  · exact w_c5
  · exact w_c6
  · exact w_c7
  · exact w_c8
  · exact w_c9
  · exact w_c10
  · exact w_c11
  · exact w_c12
  · exact w_c13
  · exact w_c14
  · exact w_c15
  · exact w_c16
  · exact w_c17
  · exact w_c18
  · exact w_c19
  · exact w_c20
  · exact w_c21
  · exact w_c22
  · exact w_c23
  · exact w_c24
  · exact w_c25
  · exact w_c26
  · exact w_c27
  · exact w_c28
  · exact w_c29
  · exact w_c30
  · exact w_c31
  · exact w_c32
  · exact w_c33
  · exact w_c34
  · exact w_c35
  · exact w_c36
  · exact w_c37
  · exact w_c38
  · exact w_c39
  · exact w_c40
  · exact w_c41
  · exact w_c42
  · exact w_c43
  · exact w_c44
  · exact w_c45
  · exact w_c46
  · exact w_c47
  · exact w_c48
  · exact w_c49
set_option maxRecDepth 65536 in
theorem w_t1 : (words1.take 24).all (fun c => isCode c || c.before args0 about1) = true := by decide +kernel
set_option maxRecDepth 65536 in
theorem w_t2 : ((words1.drop 24).take 24).all (fun c => isCode c || c.before args0 about1) = true := by decide +kernel
set_option maxRecDepth 65536 in
theorem w_t3 : (((words1.drop 24).drop 24).take 24).all (fun c => isCode c || c.before args0 about1) = true := by decide +kernel
set_option maxRecDepth 65536 in
theorem w_t4 : ((((words1.drop 24).drop 24).drop 24).take 24).all (fun c => isCode c || c.before args0 about1) = true := by decide +kernel
set_option maxRecDepth 65536 in
theorem w_t5 : (((((words1.drop 24).drop 24).drop 24).drop 24).take 24).all (fun c => isCode c || c.before args0 about1) = true := by decide +kernel
set_option maxRecDepth 65536 in
theorem w_t6 : ((((((words1.drop 24).drop 24).drop 24).drop 24).drop 24).take 24).all (fun c => isCode c || c.before args0 about1) = true := by decide +kernel
set_option maxRecDepth 65536 in
theorem w_t7 : (((((((words1.drop 24).drop 24).drop 24).drop 24).drop 24).drop 24).take 24).all (fun c => isCode c || c.before args0 about1) = true := by decide +kernel
set_option maxRecDepth 65536 in
theorem w_t8 : ((((((((words1.drop 24).drop 24).drop 24).drop 24).drop 24).drop 24).drop 24).take 24).all (fun c => isCode c || c.before args0 about1) = true := by decide +kernel
set_option maxRecDepth 65536 in
theorem w_t9 : (((((((((words1.drop 24).drop 24).drop 24).drop 24).drop 24).drop 24).drop 24).drop 24).take 24).all (fun c => isCode c || c.before args0 about1) = true := by decide +kernel
set_option maxRecDepth 65536 in
theorem w_t10 : ((((((((((words1.drop 24).drop 24).drop 24).drop 24).drop 24).drop 24).drop 24).drop 24).drop 24).take 24).all (fun c => isCode c || c.before args0 about1) = true := by decide +kernel
set_option maxRecDepth 65536 in
theorem w_t11 : (((((((((((words1.drop 24).drop 24).drop 24).drop 24).drop 24).drop 24).drop 24).drop 24).drop 24).drop 24).take 24).all (fun c => isCode c || c.before args0 about1) = true := by decide +kernel
set_option maxRecDepth 65536 in
theorem w_t12 : (((((((((((words1.drop 24).drop 24).drop 24).drop 24).drop 24).drop 24).drop 24).drop 24).drop 24).drop 24).drop 24).all (fun c => isCode c || c.before args0 about1) = true := by decide +kernel
theorem w_tables : (allAtoms (Jvm.Cond.code x code maxLocals ret :: tables_1)).before args0 about1 = true := by
  rw [allAtoms_all]
  show words1.all (fun c => c.before args0 about1) = true
  refine all_split ?_ w_codes
  rw [← List.take_append_drop 24 words1, List.all_append, w_t1, ← List.take_append_drop 24 (words1.drop 24), List.all_append, w_t2, ← List.take_append_drop 24 ((words1.drop 24).drop 24), List.all_append, w_t3, ← List.take_append_drop 24 (((words1.drop 24).drop 24).drop 24), List.all_append, w_t4, ← List.take_append_drop 24 ((((words1.drop 24).drop 24).drop 24).drop 24), List.all_append, w_t5, ← List.take_append_drop 24 (((((words1.drop 24).drop 24).drop 24).drop 24).drop 24), List.all_append, w_t6, ← List.take_append_drop 24 ((((((words1.drop 24).drop 24).drop 24).drop 24).drop 24).drop 24), List.all_append, w_t7, ← List.take_append_drop 24 (((((((words1.drop 24).drop 24).drop 24).drop 24).drop 24).drop 24).drop 24), List.all_append, w_t8, ← List.take_append_drop 24 ((((((((words1.drop 24).drop 24).drop 24).drop 24).drop 24).drop 24).drop 24).drop 24), List.all_append, w_t9, ← List.take_append_drop 24 (((((((((words1.drop 24).drop 24).drop 24).drop 24).drop 24).drop 24).drop 24).drop 24).drop 24), List.all_append, w_t10, ← List.take_append_drop 24 ((((((((((words1.drop 24).drop 24).drop 24).drop 24).drop 24).drop 24).drop 24).drop 24).drop 24).drop 24), List.all_append, w_t11, w_t12]
  rfl
set_option maxRecDepth 65536 in
theorem w_rest : rest_1_c.before args0 about1 = true := by decide +kernel
set_option maxRecDepth 65536 in
theorem w_case : (Jvm.Cond.and given_1 narrow_1).before args0 about1 = true := by decide +kernel
set_option maxRecDepth 65536 in
theorem w_consts : constsHeld consts_1 about1 := Jvm.Lit.constsHeldB_iff.mp (by decide +kernel)
theorem w_applies : (headSpec (Jvm.Cond.code x code maxLocals ret :: tables_1) room_1).applies x e0.platform about1 = true :=
  (Spec.applies_iff w_frames).mpr ⟨w_running, w_runnable, w_alone, w_named, w_hears, w_ripe, w_room, w_tables⟩
theorem atStart : AtStart classFile x code maxLocals ret World_1 tables_1 room_1 Calls_1 rest_1 Pre_1 launch0 p0 e0 about1 theMethod args0 below0 :=
  ⟨lists_1, trivial, launch0.admits_env _ _ _, launch0.least_env, fairChoices_fair.cas, fairChoices_fair.clock, w_frames, w_args, w_heap, w_applies, ⟨(by decide +kernel : framesKnown about1 = true), ⟨(by decide +kernel : tablesKnown about1 = true), ⟨w_consts, trivial⟩⟩⟩, w_rest, w_case⟩
end start1
theorem witness_1 : WitnessClaimed_1 := ⟨start1.p0, start1.e0, start1.about1, start1.theMethod, start1.args0, start1.below0, start1.atStart⟩
end Jvm.Pilot.@@N@@

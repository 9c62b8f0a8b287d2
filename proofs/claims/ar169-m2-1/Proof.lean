import JvmDerived
import JvmDerived.Pilot.@@N@@Statement
import JvmDerived.Pilot.@@N@@Code
set_option linter.unusedVariables false
set_option linter.unusedSimpArgs false
namespace Jvm.RoadKit
open Sem ClassFile Op Lib Jvm.Stand Jvm.Free Jvm.LawKit
section Own
variable {p : Program} {l : Launch} {e : Env} {R : Room} {s : State} {m : MethodId} {args : Array Value} {below : List Frame} {meth : Method} {c : Code} {T : State} {locs : List Loc} {cells slots : Nat} {Z : State} {h : Heap} {a b : Addr}
/-- a length as an int -/
abbrev iN (n : Nat) : Int32 := Int32.ofNat n
theorem iN_toInt {n : Nat} (h : n < 1000000) : (iN n).toInt = n := Int32.toInt_ofNat_of_lt (by omega)
theorem iN_nat {n : Nat} (h : n < 1000000) : (iN n).toNatClampNeg = n := by simp only [Int32.toNatClampNeg, iN_toInt h]; omega
theorem iN_nn {n : Nat} (h : n < 1000000) : ¬ iN n < 0 := by
  rw [Int32.lt_iff_toInt_lt, iN_toInt h]; have : (0 : Int32).toInt = 0 := rfl; omega
theorem iN_lt {a b : Nat} (ha : a < 1000000) (hb : b < 1000000) : iN a < iN b ↔ a < b := by rw [Int32.lt_iff_toInt_lt, iN_toInt ha, iN_toInt hb]; omega
theorem iN_eq {a b : Nat} (ha : a < 1000000) (hb : b < 1000000) : iN a = iN b ↔ a = b := by rw [← Int32.toInt_inj, iN_toInt ha, iN_toInt hb]; omega
theorem iN_add (a b : Nat) : iN a + iN b = iN (a + b) := (Int32.ofNat_add a b).symm
theorem iN_app (xs ys : List Value) : iN xs.length + iN ys.length = iN (xs ++ ys).length := by rw [iN_add, List.length_append]
theorem iN_sub {a b : Nat} (h : b ≤ a) (ha : a < 1000000) : iN a - iN b = iN (a - b) := by
  have q : iN a = iN (a - b) + iN b := by rw [iN_add, Nat.sub_add_cancel h]
  rw [q, Int32.add_sub_cancel]
theorem shr0 (x : Int32) : x >>> ((0 : Int32) &&& 31) = x := by
  rw [← Int32.toInt_inj, c_ishr x 0 0 (by decide)]; simp
theorem shl0 (x : Int32) : x <<< ((0 : Int32) &&& 31) = x := by
  have : (0 : Int32) &&& 31 = 0 := by decide
  rw [this]; exact Int32.shiftLeft_zero
theorem getD_rng (xs : List Value) (d : Value) (n i : Nat) : ((List.range n).map fun j => xs.getD (0 + j) d).getD i d = if i < n then xs.getD i d else d := by
  simp only [List.getD_eq_getElem?_getD, List.getElem?_map, Nat.zero_add]
  by_cases q : i < n
  · simp [List.getElem?_range q, q]
  · have q2 : (List.range n)[i]? = none := List.getElem?_eq_none (by simpa using q)
    simp [q2, q]
theorem rng_self (xs : List Value) (d : Value) : (List.range xs.length).map (fun j => xs.getD (0 + j) d) = xs := by
  apply List.ext_getElem
  · simp
  · intro i h1 h2; simp [List.getD_eq_getElem?_getD, List.getElem?_eq_getElem h2]
/-- arraycopy of a whole source behind what the other holds -/
theorem cpApp (X : Stand p l e R s m args below meth c T locs cells slots) (hx : p.tables.exec = Jvm.exec) (hZ : Z.Warmed39 s.vm) {a0 : Array Value} {own : String} {index : Nat} (hown : s.vm.findClass own = some m.cls)
    (w1 : (Cond.methodLink own index Jvm.Stand.acN).before a0 Z = true) (w2 : (Cond.native Jvm.Stand.acN).before a0 Z = true) (w3 : (Cond.static Jvm.Stand.acN).before a0 Z = true) (w4 : (Cond.initialized "java/lang/System").before a0 Z = true) (eT : T.heap = h)
    {k k' : ClassId} {ty : FieldType} {z z' : Int32} {ys xs : List Value} {dv dd : Value} (A : Arv Z h a k ty z ys dv) (B : Arv Z h b k' ty z' xs dd) (hty : refKind ty = false) {nx ny : Nat} (hnx : xs.length = nx) (hny : ys.length = ny)
    (hz : ny ≤ z.toNatClampNeg) (hz' : nx + ny ≤ z'.toNatClampNeg) (hb : nx + ny < 1000000) {n0 : Nat} (N : Fr n0 locs) (ge : n0 ≤ b)
    {g : JFrame} (hg : g.method = m) (hsize : g.locals.size = c.maxLocals) {rest : List Value} (hs : g.stack = .int (iN ny) :: .int (iN nx) :: .ref b :: .int 0 :: .ref a :: rest) (hd : decode c.code g.pc = .ok (.invokestatic index, 3))
    (hf : 1 ≤ R.frames) {W : Nat} (hW : 2 * g.monitorRoom + (rest.map fun v => v.category).sum ≤ W) (hlo : W + (nativeFrameWords "java/lang/System" "arraycopy" 5 + 11) ≤ R.locals) :
    ∃ T' h' L, Stand p l e R s m args below meth c T' L cells slots ∧ T'.heap = h' ∧ Fr n0 L ∧ Keep h h' [b] ∧ Arv Z h' b k' ty z' (xs ++ ys) dd ∧
      ∀ target, Steps p.tables e below (T'.setTop { g with pc := g.pc + 3, stack := rest }) target → Steps p.tables e below (T.setTop g) target := by
  subst hnx hny
  have n1 : (iN ys.length).toNatClampNeg = ys.length := iN_nat (by omega)
  have n2 : (iN xs.length).toNatClampNeg = xs.length := iN_nat (by omega)
  have n3 : (0 : Int32).toNatClampNeg = 0 := rfl
  obtain ⟨T', h', L, X', e', N', K, V, st⟩ := cpA X hx hZ hown w1 w2 w3 w4 eT A (B.pad (pad_rep xs dd ys.length)) (Or.inl ⟨rfl, hty⟩) (sp := 0) (dp := iN xs.length) (nn := iN ys.length) (us := ys) (by decide) (iN_nn (by omega)) (iN_nn (by omega)) (by rw [n1, n3]; omega) (by rw [n1, n2]; omega) (by rw [n1, n3]; exact (rng_self ys dv).symm) (by rw [n1, n2]; simp) N ge hg hsize hs hd hf hW hlo
  refine ⟨T', h', L, X', e', N', K, ?_, st⟩
  rw [n1, n2] at V
  have q : (xs ++ List.replicate ys.length dd).take xs.length ++ ys ++ (xs ++ List.replicate ys.length dd).drop (xs.length + ys.length) = xs ++ ys := by
    rw [List.take_left, List.drop_of_length_le (by simp)]; simp
  rw [q] at V; exact V
/-- arraycopy of the first nn places, which hold all that is known of the source, to the front of an array as it was made -/
theorem cpAll (X : Stand p l e R s m args below meth c T locs cells slots) (hx : p.tables.exec = Jvm.exec) (hZ : Z.Warmed39 s.vm) {a0 : Array Value} {own : String} {index : Nat} (hown : s.vm.findClass own = some m.cls)
    (w1 : (Cond.methodLink own index Jvm.Stand.acN).before a0 Z = true) (w2 : (Cond.native Jvm.Stand.acN).before a0 Z = true) (w3 : (Cond.static Jvm.Stand.acN).before a0 Z = true) (w4 : (Cond.initialized "java/lang/System").before a0 Z = true) (eT : T.heap = h)
    {k k' : ClassId} {ty : FieldType} {z z' : Int32} {xs : List Value} {dd : Value} {nn : Nat} (A : Arv Z h a k ty z xs dd) (B : Arv Z h b k' ty z' [] dd) (hty : refKind ty = false)
    (hx1 : xs.length ≤ nn) (hz : nn ≤ z.toNatClampNeg) (hz' : nn ≤ z'.toNatClampNeg) (hb : nn < 1000000) {n0 : Nat} (N : Fr n0 locs) (ge : n0 ≤ b)
    {g : JFrame} (hg : g.method = m) (hsize : g.locals.size = c.maxLocals) {rest : List Value} (hs : g.stack = .int (iN nn) :: .int 0 :: .ref b :: .int 0 :: .ref a :: rest) (hd : decode c.code g.pc = .ok (.invokestatic index, 3))
    (hf : 1 ≤ R.frames) {W : Nat} (hW : 2 * g.monitorRoom + (rest.map fun v => v.category).sum ≤ W) (hlo : W + (nativeFrameWords "java/lang/System" "arraycopy" 5 + 11) ≤ R.locals) :
    ∃ T' h' L, Stand p l e R s m args below meth c T' L cells slots ∧ T'.heap = h' ∧ Fr n0 L ∧ Keep h h' [b] ∧ Arv Z h' b k' ty z' xs dd ∧
      ∀ target, Steps p.tables e below (T'.setTop { g with pc := g.pc + 3, stack := rest }) target → Steps p.tables e below (T.setTop g) target := by
  have n1 : (iN nn).toNatClampNeg = nn := iN_nat hb
  have n3 : (0 : Int32).toNatClampNeg = 0 := rfl
  obtain ⟨T', h', L, X', e', N', K, V, st⟩ := cpA X hx hZ hown w1 w2 w3 w4 eT A (B.pad (pad_rep [] dd nn)) (Or.inl ⟨rfl, hty⟩) (sp := 0) (dp := 0) (nn := iN nn) (us := (List.range nn).map fun j => xs.getD (0 + j) dd) (by decide) (by decide) (iN_nn hb) (by rw [n1, n3]; omega) (by rw [n1, n3]; omega) (by rw [n1, n3]) (by rw [n1, n3]; simp) N ge hg hsize hs hd hf hW hlo
  refine ⟨T', h', L, X', e', N', K, ?_, st⟩
  rw [n1, n3] at V
  refine V.pad fun i => ?_
  have q : ([] ++ List.replicate nn dd).take 0 ++ ((List.range nn).map fun j => xs.getD (0 + j) dd) ++ ([] ++ List.replicate nn dd).drop (0 + nn) = (List.range nn).map fun j => xs.getD (0 + j) dd := by simp
  rw [q, getD_rng]
  split
  · rfl
  · rename_i q2; simp [List.getD_eq_getElem?_getD, List.getElem?_eq_none (show xs.length ≤ i by omega)]
def mx (x y : Nat) : Nat := if x < y then y else x
theorem mx_r {x y : Nat} (h : x < y) : mx x y = y := if_pos h
theorem mx_l {x y : Nat} (h : ¬ x < y) : mx x y = x := if_neg h
theorem mx_ge (x y : Nat) : x ≤ mx x y ∧ y ≤ mx x y := by unfold mx; split <;> omega
/-- the capacity of a builder once so much is to lie in it -/
def ncap (cap tot : Nat) : Nat := if tot ≤ cap then cap else cap + mx (tot - cap) (cap + 2)
theorem ncap_ge (cap tot : Nat) : cap ≤ ncap cap tot ∧ tot ≤ ncap cap tot := by
  have q := mx_ge (tot - cap) (cap + 2)
  unfold ncap; split <;> omega
theorem ncap_fit {cap tot : Nat} (h : tot ≤ cap) : ncap cap tot = cap := if_pos h
theorem ncap_grow {cap tot : Nat} (h : ¬ tot ≤ cap) : ncap cap tot = cap + mx (tot - cap) (cap + 2) := if_neg h
end Own
end Jvm.RoadKit
namespace Jvm.RoadKit
open Sem ClassFile Op Lib Bundle Jvm.Stand Jvm.Free Jvm.LawKit Jvm.Free.SB Jvm.Free.SBG
section OwnCH
variable {p : Program} {l : Launch} {e : Env} {R : Room} {s : State} {args : Array Value} {below : List Frame} {Z : State} {a0 : Array Value} {EL : List (String × Nat)} {h : Heap} {vm0 : Vm}
theorem cs0 : ∀ x ∈ ([] : List Addr), @LT.lt Nat _ x h.size ∧ Safe Z EL vm0 h x := fun _ q => nomatch q
theorem csS {x : Addr} {ss : List Addr} (n : @LT.lt Nat _ x h.size) (m : Safe Z EL vm0 h x) (r : ∀ y ∈ ss, @LT.lt Nat _ y h.size ∧ Safe Z EL vm0 h y) : ∀ y ∈ x :: ss, @LT.lt Nat _ y h.size ∧ Safe Z EL vm0 h y := fun y q => by
  rcases List.mem_cons.mp q with rfl | q
  · exact ⟨n, m⟩
  · exact r y q
/-- a callee that keeps the held constants, and is told that the addresses ss bear none of them; K: what its frames must know -/
theorem backCH {K : Program → Env → List Frame → State → Array Value → Prop} {y : MethodName} {bytes : ByteArray} {maxL : Nat} {ret : Option FieldType} {rm : Room} {len W : Nat} {as' : Array Value} {Q : Option Value → Heap → List Loc → Prop} {ss : List Addr}
    (hM : MetFree l y (head1 [Cond.code y bytes maxL ret] rm) (fun a U => a = as' ∧ Z.Warmed39 U.vm ∧ U.heap = h ∧ CHv Z EL U.vm h ∧ ∀ x ∈ ss, Safe Z EL U.vm h x) K (fun _ U o U' => ∃ v L, o = .returned v ∧ Q v U'.heap L ∧ CHr Z EL U.vm U.heap U'.vm U'.heap ∧ ReturnedEndW U o U' L rm.cells rm.slots))
    (hZ : Z.Warmed39 vm0) (wc : (Cond.code y bytes maxL ret).before a0 Z = true) (wz : (Cond.initialized y.cls).before a0 Z = true) (hf : rm.frames + 1 ≤ R.frames) (hl : W + (maxL + 11) + rm.locals ≤ R.locals) (hEL : EW Z a0 EL) (H : CHv Z EL vm0 h)
    (hs : ∀ x ∈ ss, @LT.lt Nat _ x h.size ∧ Safe Z EL vm0 h x)
    (hK : ∀ m meth c (A : Pt) a (g : JFrame) mk, Stand p l e R (s.setVm vm0) m args below meth c A.U A.locs A.cells A.slots → g.method = m → K p e (A.U.setTop g).frames (A.U.calling g mk a) a) :
    BackS l R p e below (s.setVm vm0) args y len W (fun A a => a = as' ∧ A.U.heap = h ∧ A.cells + rm.cells ≤ R.cells ∧ A.slots + rm.slots ≤ R.slots)
      (fun A _ v B => ∃ L, Q v B.U.heap L ∧ B.locs = A.locs ++ L ∧ B.cells = A.cells + rm.cells ∧ B.slots = A.slots + rm.slots ∧ CHr Z EL vm0 h B.U.vm B.U.heap) := by
  refine BackS.of_freeWG (bytes := bytes) (maxL := maxL) (ret := ret) (E := fun _ first o t L k n => k = rm.cells ∧ n = rm.slots ∧ (∃ v, o = .returned v ∧ Q v t.heap L) ∧ CHr Z EL first.vm first.heap t.vm t.heap) hM hf hl ?_ ?_ ?_ ?_ ?_
  · intro m meth c A a Y hp
    have hU : Z.Warmed39 A.U.vm := wtrans (s := s.setVm vm0) hZ Y.warmed
    exact ⟨by show (Cond.and _ .tt).before a A.U = true; rw [Cond.before_and, mv hU wc]; rfl, mv hU wc, mv hU wz, hp.2.2.1, hp.2.2.2⟩
  · intro m meth c A a g mk Y hp
    have q := CHv.at Y hZ hEL H
    exact ⟨hp.1, wtrans (s := s.setVm vm0) hZ Y.warmed, hp.2.1, q.1, fun x hx => q.safe (hs x hx).1 (hs x hx).2⟩
  · intro m meth c A a g mk Y _ hg; exact hK m meth c A a g mk Y hg
  · rintro _ _ _ _ ⟨v, L, h1, h2, h3, h4⟩; exact ⟨L, _, _, h4, rfl, rfl, ⟨v, h1, h2⟩, h3⟩
  · rintro m meth c A a g mk v t L k n Y hp _ _ ⟨e1, e2, ⟨v', e3, e4⟩, e5⟩
    cases e3; subst e1 e2
    refine ⟨L, e4, rfl, rfl, rfl, (CHv.at Y hZ hEL H).trans ?_⟩
    rw [← hp.2.1]; exact e5
end OwnCH
end Jvm.RoadKit
namespace Jvm.RoadKit
open Sem ClassFile Op Lib Bundle Jvm.Stand Jvm.Free Jvm.LawKit Jvm.Free.SB Jvm.Free.SBG
section OwnLdw
variable {p : Program} {l : Launch} {e : Env} {R : Room} {s : State} {m : MethodId} {args : Array Value} {below : List Frame} {meth : Method} {c : Code} {T : State} {locs : List Loc} {cells slots : Nat} {Z : State} {a0 : Array Value} {EL : List (String × Nat)} {h : Heap} {vm0 : Vm} {own : String} {index : Nat}
/-- one load of the empty String by a wide index: where the walk stands behind it -/
def LdE (p : Program) (l : Launch) (e : Env) (R : Room) (s : State) (m : MethodId) (args : Array Value) (below : List Frame) (meth : Method) (c : Code) (T : State) (locs : List Loc) (cells slots index : Nat) (g : JFrame) (a : Addr) (T2 : State) : Prop :=
  Stand p l e R (s.setVm T2.vm) m args below meth c T2 locs (cells + 2) (slots + 4) ∧ s.Since T2.vm T2.heap.size ∧ (∃ k2, T2.vm.classes[m.cls]? = some k2 ∧ k2.resolved[index]? = some (some (.string a))) ∧ Ext T.heap T2.heap ∧ T.Warmed39 T2.vm ∧
    (T2.vm.interned = T.vm.interned ∨ ∃ (us : Array UInt16) (b : Addr), T2.vm.interned = T.vm.interned.push (us, b) ∧ T.vm.interned.find? (fun p => p.1 == us) = none ∧ (us.all (· < 256) = true → ∃ q : SQ, q.sa = b ∧ SlB T2 q us ∧ T.heap.size ≤ q.sa ∧ T.heap.size ≤ q.sd)) ∧
    ∀ target, Steps p.tables e below (T2.setTop { g with pc := g.pc + 3, stack := .ref a :: g.stack }) target → Steps p.tables e below (T.setTop g) target
theorem extRefl (h : Heap) : Ext h h := ⟨Nat.le_refl _, fun _ _ q => q⟩
/-- the entry is resolved: nothing is done -/
theorem ldE_done (X : Stand p l e R s m args below meth c T locs cells slots) (hx : p.tables.exec = Jvm.exec) {g : JFrame} (hg : g.method = m) (hd : decode c.code g.pc = .ok (.ldc_w index, 3)) {K : Class} {cf : ClassFile} {i : Nat} {a : Addr}
    (hK : T.vm.classes[m.cls]? = some K) (hcf : K.cf = some cf) (hp : cf.constantPool[index]? = some (.string i)) (hr : K.resolved[index]? = some (some (.string a))) : LdE p l e R s m args below meth c T locs cells slots index g a T := by
  subst hg
  refine ⟨(X.mono (Nat.le_add_right _ _) (Nat.le_add_right _ _)).retabled X.warmed.wide, X.warmed.since _, ⟨K, hK, hr⟩, extRefl _, State.Warmed39.refl T, Or.inl rfl, fun target q => ?_⟩
  jvm_step X.here [hx, hd, ldc_w.wp_string (e := e) (s := T) (f := g) X.here.top hK hcf hp hr]
  exact q
/-- the entry is open and its text stands in the intern table -/
theorem ldE_found (X : Stand p l e R s m args below meth c T locs cells slots) (hx : p.tables.exec = Jvm.exec) {g : JFrame} (hg : g.method = m) (hd : decode c.code g.pc = .ok (.ldc_w index, 3)) {K : Class} {cf : ClassFile} {i : Nat} {us : Array UInt16} {a : Addr}
    (hK : T.vm.classes[m.cls]? = some K) (hcf : K.cf = some cf) (hp : cf.constantPool[index]? = some (.string i)) (hu : cf.constantPool[i]? = some (.utf8 us)) (hr : K.resolved[index]? = some none) (hf : T.vm.interned.find? (fun p => p.1 == us) = some (us, a))
    (hW : s.Warmed39 (T.vm.noted m.cls index (.string a))) (hT : T.Warmed39 (T.vm.noted m.cls index (.string a))) : LdE p l e R s m args below meth c T locs cells slots index g a (T.setVm (T.vm.noted m.cls index (.string a))) := by
  subst hg
  refine ⟨(X.mono (Nat.le_add_right _ _) (Nat.le_add_right _ _)).retabled hW, ⟨hW, ?_⟩, ⟨_, Vm.classes_note_self index (.string a) hK, Class.resolved_note_self (.string a) hr⟩, extRefl _, hT, Or.inl rfl, fun target q => ?_⟩
  · exact State.Booked.step (T := T) (X.warmed.no_new_pair _) X.same.2.1 ⟨Nat.le_refl _, Or.inl rfl⟩
  · jvm_step X.here [hx, hd, ldc_w.wp_string_found (e := e) (s := T) (f := g) X.here.top hK hcf hp hu hr hf]
    exact q
/-- the entry is open and no such text is interned: two cells are made -/
theorem ldE_new (X : Stand p l e R s m args below meth c T locs cells slots) (hx : p.tables.exec = Jvm.exec) (hA : ∀ a ∈ Bundle.stringAtoms, a.before args s = true) {g : JFrame} (hg : g.method = m) (hd : decode c.code g.pc = .ok (.ldc_w index, 3)) {K : Class} {cf : ClassFile} {i : Nat} {us : Array UInt16}
    (hK : T.vm.classes[m.cls]? = some K) (hcf : K.cf = some cf) (hp : cf.constantPool[index]? = some (.string i)) (hu : cf.constantPool[i]? = some (.utf8 us)) (hr : K.resolved[index]? = some none) (hf : T.vm.interned.find? (fun p => p.1 == us) = none) (hb : (stringBytes us).size = 0)
    (hc : cells + 2 ≤ R.cells) (hs : slots + 4 ≤ R.slots) {v1 v2 : Vm} (e1 : v1 = { T.vm with interned := T.vm.interned.push (us, T.heap.size + 1) }) (e2 : v2 = v1.noted m.cls index (.string (T.heap.size + 1)))
    (hW : s.Warmed39 v2) (hT : T.Warmed39 v2) : ∃ T2, T2.vm = v2 ∧ LdE p l e R s m args below meth c T locs cells slots index g (T.heap.size + 1) T2 := by
  subst hg
  obtain ⟨Y, LY, h4, fv, fc⟩ := StringT.of_atoms (args := args) hA
  obtain ⟨kS, kB, L, hty⟩ := LY.warmer X.warmed.alike
  have hfs : T.fitsSlot = s.fitsSlot := (show T.fitsSlot = (s.setVm T.vm).fitsSlot from rfl).trans (State.fitsSlot_setVm X.warmed.alike)
  obtain ⟨M, eM⟩ : ∃ M, M = withString T Y.cB Y.cS kS Y.fv Y.fc us := ⟨_, rfl⟩
  have hH : M.heap = (T.heap.push (bytesOf Y.cB us)).push (stringAt Y.cS kS Y.fv Y.fc us T.heap.size) := by rw [eM, withString_eq]; rfl
  have z1 : (bytesOf Y.cB us).slots.size = 0 := by rw [(Cell.writeAll_facts _ _).2.2]; simpa [bytes0] using hb
  have z2 : (stringAt Y.cS kS Y.fv Y.fc us T.heap.size).slots.size = 4 := by simp [string0, Cell.setSlot, hty, h4]
  have XM : Stand p l e R s g.method args below meth c M locs (cells + 2) (slots + 4) := by
    have q := (X.pushed (bytesOf Y.cB us)).pushed (stringAt Y.cS kS Y.fv Y.fc us T.heap.size)
    rw [← withString_eq, ← eM] at q
    exact q.mono (Nat.le_refl _) (by rw [z1, z2]; omega)
  have hsz : M.heap.size = T.heap.size + 2 := by rw [hH]; simp
  have g1 : M.heap[T.heap.size]? = some (bytesOf Y.cB us) := by rw [hH]; simp [Array.getElem?_push]
  have g2 : M.heap[T.heap.size + 1]? = some (stringAt Y.cS kS Y.fv Y.fc us T.heap.size) := by rw [hH, Array.getElem?_push, if_pos (by rw [Array.size_push])]
  have hE : Ext T.heap M.heap := ⟨by omega, fun x cl q => by
    have hlt : @LT.lt Nat _ x T.heap.size := (Array.getElem?_eq_some_iff.mp q).1
    rw [hH, Array.getElem?_push, Array.getElem?_push, Array.size_push, if_neg (Nat.ne_of_lt (Nat.lt_succ_of_lt hlt)), if_neg (Nat.ne_of_lt hlt)]; exact q⟩
  have hI : (M.setVm v2).vm.interned = T.vm.interned.push (us, T.heap.size + 1) := by subst e2 e1; rfl
  have h1 : T.Interned1 (M.setVm v2) := ⟨hE.1, Or.inr ⟨us, T.heap.size + 1, hI, Nat.le_succ _, by show T.heap.size + 1 < M.heap.size; omega⟩⟩
  have hK1 : v1.classes[g.method.cls]? = some K := by rw [e1]; exact hK
  refine ⟨M.setVm v2, rfl, XM.retabled hW, ⟨hW, State.Booked.step (X.warmed.no_new_pair _) X.same.2.1 h1⟩, ⟨_, by show v2.classes[g.method.cls]? = _; rw [e2]; exact Vm.classes_note_self index (.string (T.heap.size + 1)) hK1, Class.resolved_note_self (.string (T.heap.size + 1)) hr⟩, hE, hT,
    Or.inr ⟨us, T.heap.size + 1, hI, hf, fun hl => ?_⟩, fun target q => ?_⟩
  · obtain ⟨q, cS, r0, r1, r2, r3, r4, r5⟩ := made_sl (W := M.setVm v2) hA LY h4 hty hW.alike g1 g2 hl (by omega) 0
    refine ⟨q, r0, ⟨cS, r1, r2, r3, r4⟩, ?_⟩
    rcases r5 with r5 | r5
    · exact absurd r5.1 (Nat.not_lt_zero _)
    · exact r5
  · refine Steps.instr (c := _) (by simpa using X.here) ?_
    simp [jvm, wpRun, exec, X.here.top, hx, hd]
    refine ldc_w.wp_string_new (e := e) (s := T) (f := g) X.here.top hK hcf hp hu hr hf L.found L.cls L.initialized L.ordinary L.foundB L.clsB L.kindB L.value L.coder (by rw [Launch.admits_arrayLengthLimit X.admits]; omega) (by rw [Launch.admits_maxHeapBytes X.admits]; simp only [componentBytes]; omega) (X.cellsAbove hc) ?_
      (stringBytes_fit L.clsB L.kindB us) L.valueSlot L.coderSlot (by rw [hfs]; exact fv _) (by rw [hfs]; exact fc _) (fun d' acts' => ?_)
    · have k1 := X.slotsAbove hs
      have k2 : kS.instanceTypes.size = 4 := by rw [hty]; exact h4
      show T.slotsUsed + (stringBytes us).size + kS.instanceTypes.size ≤ _
      omega
    · intro acts''
      subst e2 e1 eM
      have t1 : (withString T Y.cB Y.cS kS Y.fv Y.fc us).topJava?.isSome := by simpa [withString] using X.here.top
      have t2 : ((withString T Y.cB Y.cS kS Y.fv Y.fc us).setVm (({ T.vm with interned := T.vm.interned.push (us, T.heap.size + 1) } : Vm).noted g.method.cls index (.string (T.heap.size + 1)))).topJava?.isSome := by simpa using t1
      simp [jvm, afterInstr, t1, t2]
      rw [State.modifyTopJava_setTop]
      exact q
/-- a wide load of the constant "", whatever the tables hold of it -/
theorem ldE (X : Stand p l e R s m args below meth c T locs cells slots) (hx : p.tables.exec = Jvm.exec) (hown : s.vm.findClass own = some m.cls) (hl : (Cond.stringLink own index "").before args s = true) (hA : ∀ a ∈ Bundle.stringAtoms, a.before args s = true) {g : JFrame} (hg : g.method = m) (hd : decode c.code g.pc = .ok (.ldc_w index, 3))
    (hc : cells + 2 ≤ R.cells) (hs : slots + 4 ≤ R.slots) : ∃ a T2, LdE p l e R s m args below meth c T locs cells slots index g a T2 := by
  obtain ⟨k, cf, i, us, hk, hcf, hp, hu, hnm, htx, hres⟩ := Cond.stringLink_spec hown hl
  obtain ⟨K, hK, eK⟩ := X.warmed.alike.2.2 _ _ hk
  have hcfK : K.cf = some cf := by rw [eK]; exact hcf
  have hb : (stringBytes us).size = 0 := Nat.le_zero.mp (text_bytes_le htx)
  have nm : ∀ {J : Class}, J.cf = some cf → J.cf.bind (namesOf? ·.constantPool index) = some (.string "") ∧ J.cf.bind (·.constantPool[index]?) = some (.string i) ∧ J.cf.bind (·.constantPool.utf8? i) = some us := fun q => by
    rw [q]; exact ⟨hnm, hp, by simp [ConstantPool.utf8?, hu]⟩
  have two : (∃ a, K.resolved[index]? = some (some (.string a))) ∨ (K.resolved[index]? = some none ∧ k.resolved[index]? = some none) := by
    rcases X.warmed.wide.entry hk hK index with q | ⟨-, r, q, z | ⟨a, t, rfl, -⟩⟩
    · rw [q]; exact hres.symm.imp id fun z => ⟨z, z⟩
    · cases r <;> simp [State.rightAt, hk, hcf, hnm] at z
    · exact Or.inl ⟨a, q⟩
  rcases two with ⟨a, q⟩ | ⟨o1, o2⟩
  · exact ⟨a, T, ldE_done X hx hg hd hK hcfK hp q⟩
  · obtain ⟨n1, n2, n3⟩ := nm hcf
    obtain ⟨m1, m2, m3⟩ := nm hcfK
    cases hf : T.vm.interned.find? (fun p => p.1 == us) with
    | some pr =>
      obtain ⟨u', a⟩ := pr
      obtain rfl : u' = us := by simpa using Array.find?_some hf
      exact ⟨a, _, ldE_found X hx hg hd hK hcfK hp hu o1 hf (X.warmed.wide.notedString hk (Or.inl o2) n1 n2 n3 hf) ((State.Warmed39.refl T).notedString hK (Or.inl o1) m1 m2 m3 hf)⟩
    | none =>
      have hf2 : (T.vm.interned.push (us, T.heap.size + 1)).find? (fun p => p.1 == us) = some (us, T.heap.size + 1) := by rw [Array.find?_push, hf]; simp
      obtain ⟨T2, -, q⟩ := ldE_new X hx hA hg hd hK hcfK hp hu o1 hf hb hc hs rfl rfl ((X.warmed.wide.interns us (T.heap.size + 1)).notedString hk (Or.inl o2) n1 n2 n3 hf2) (((State.Warmed39.refl T).interns us (T.heap.size + 1)).notedString hK (Or.inl o1) m1 m2 m3 hf2)
      exact ⟨_, T2, q⟩
/-- a String that is booked as empty, said over the start's tables -/
theorem sl_empty {vm : Vm} {a : Addr} {us : Array UInt16} (hal : Z.vm.Alike vm) (hb : (stringBytes us).size = 0) (S : SlOf (Wst Z vm h) a us) : ∃ (b : Addr) (k : ClassId), Exa Z h a "java/lang/String" ∧ Fld Z h a "java/lang/String" "coder" "B" (.int 0) ∧ Fld Z h a "java/lang/String" "value" "[B" (.ref b) ∧ Arv Z h b k .byte 0 [] (.int 0) := by
  obtain ⟨q, cS, rfl, ⟨⟨s1, s2, s3, ⟨cv, kv, iv, fv, av⟩, ⟨cc, kc, ic, fc, ac⟩, s6, s7, s8, s9, s10, ⟨hst, k9, hk9, comp, hkind⟩, s12, -⟩, hfS, hcS⟩, ⟨kS, k1, -, k3⟩, hB, hby⟩ := S
  obtain ⟨kv', fv'⟩ := ff_back (U := Wst Z vm h) hal fv
  obtain ⟨kc', fc'⟩ := ff_back (U := Wst Z vm h) hal fc
  have h0 : q.SA.slots.size = 0 := by rw [hby]; exact hb
  have clsOf : ∀ {d : ClassId} {kd : Class} {n : String}, vm.findClass n = some d → vm.classes[d]? = some kd → ∃ kz, Z.vm.findClass n = some d ∧ Z.vm.classes[d]? = some kz ∧ kz.kind = kd.kind ∧ kz.instanceTypes = kd.instanceTypes := fun {d kd n} f g => by
    have f' : Z.vm.findClass n = some d := by rw [← hal.findClass]; exact f
    obtain ⟨kz, hz, -⟩ := Vm.findClass_spec f'
    obtain ⟨ky, hy, ey⟩ := hal.2.2 _ _ hz
    cases hy.symm.trans g
    exact ⟨kz, f', hz, by rw [ey], by rw [ey]⟩
  obtain ⟨kz, x1, x2, x3, x4⟩ := clsOf (show vm.findClass "java/lang/String" = some cS from hfS) (show vm.classes[cS]? = some kS from k1)
  obtain ⟨kb, -, y2, y3, -⟩ := clsOf (show vm.findClass "[B" = some q.SA.cls from hB) (show vm.classes[q.SA.cls]? = some k9 from hk9)
  refine ⟨q.sd, q.SA.cls, ⟨q.sC, kz, s1, ?_, ?_, s3, fun _ => by rw [k3, x4]⟩, ⟨q.sC, cc, kc', ic, q.fSC, s1, fc', s7, s2, s3, by rw [← hal.assignable]; exact ac, s9⟩, ⟨q.sC, cv, kv', iv, q.fSV, s1, fv', s6, s2, s3, by rw [← hal.assignable]; exact av, s8⟩, q.SA, ⟨s10, ⟨hst, kb, y2, comp, y3.trans hkind⟩, s12⟩, rfl, h0, by decide, fun j hj => ?_, fun j hj => ?_⟩
  · rw [hcS]; exact x1
  · rw [hcS]; exact x2
  · rw [h0] at hj; exact absurd hj (Nat.not_lt_zero _)
  · rw [h0] at hj; exact absurd hj (Nat.not_lt_zero _)
/-- **ldc_w OF THE CONSTANT "", READ**, under held constants -/
theorem ldcCHW (X : Stand p l e R (s.setVm vm0) m args below meth c T locs cells slots) (hx : p.tables.exec = Jvm.exec) (hZ : Z.Warmed39 vm0) (hown : vm0.findClass own = some m.cls) (w : (Cond.stringLink own index "").before a0 Z = true) (wS : ∀ a ∈ Bundle.stringAtoms, a.before a0 Z = true)
    (eT : T.heap = h) {k0 : Nat} (hS : s.Since vm0 k0) (hk : k0 ≤ h.size) (hEL : EW Z a0 EL) (hmem : (own, index) ∈ EL) (H : CHv Z EL vm0 h)
    {g : JFrame} (hg : g.method = m) (hd : decode c.code g.pc = .ok (.ldc_w index, 3)) (hc : cells + 2 ≤ R.cells) (hl : slots + 4 ≤ R.slots) :
    ∃ (a : Addr) (T' : State) (h' : Heap) (k1 : Nat) (b : Addr) (k : ClassId), Stand p l e R (s.setVm T'.vm) m args below meth c T' locs (cells + 2) (slots + 4) ∧ T'.heap = h' ∧ Ext h h' ∧ s.Since T'.vm k1 ∧ k1 ≤ h'.size ∧ Z.Warmed39 (s.setVm T'.vm).vm ∧ (s.setVm T'.vm).vm.findClass own = some m.cls ∧
      Exa Z h' a "java/lang/String" ∧ Fld Z h' a "java/lang/String" "coder" "B" (.int 0) ∧ Fld Z h' a "java/lang/String" "value" "[B" (.ref b) ∧ Arv Z h' b k .byte 0 [] (.int 0) ∧ CHr Z EL vm0 h T'.vm h' ∧
      ∀ target, Steps p.tables e below (T'.setTop { g with pc := g.pc + 3, stack := .ref a :: g.stack }) target → Steps p.tables e below (T.setTop g) target := by
  have hA : ∀ d ∈ Bundle.stringAtoms, d.before args (s.setVm vm0) = true := fun d hd => by
    have q := wS d hd
    by_cases hb : d = Cond.arrayClass .byte
    · subst hb; exact mvA (s := s.setVm vm0) hZ q
    · simp only [Bundle.stringAtoms, List.mem_cons, List.not_mem_nil, or_false] at hd
      rcases hd with rfl | rfl | rfl | rfl | rfl | rfl | rfl <;> first | exact absurd rfl hb | exact mv (s := s.setVm vm0) hZ q
  obtain ⟨a, T', X', hS', ⟨k2, hk2, hr2⟩, E, hTW, hint, st⟩ := ldE X hx hown (mvS hZ w) hA hg hd hc hl
  subst eT
  have hW : Z.Warmed39 T'.vm := State.Warmed39.trans (t := s.setVm vm0) hZ hS'.1
  have A := CHv.at X hZ hEL H
  have B := CHv.later (vm := T.vm) (vm1 := T'.vm) (wtrans (s := s.setVm vm0) hZ X.warmed) (show (Wst Z T.vm T.heap).Warmed39 T'.vm from hTW) hEL E (hint.imp id fun ⟨us, b, e1, e2, e3⟩ => ⟨us, b, e1, e2, fun hlat => by
    obtain ⟨q, r0, r1, r2⟩ := e3 hlat
    exact ⟨q, r0, r1.carry (V := Wst Z T'.vm T'.heap) (Vm.Alike.refl _) r1.ha r1.hd, r2⟩⟩) A.1
  have hf : T'.vm.findClass own = some m.cls := by rw [hS'.1.alike.findClass]; exact hown
  have w2 : (Cond.stringLink own index "").before a0 (Wst Z T'.vm T'.heap) = true := mvS (s := { Z with heap := T'.heap }) hW w
  obtain ⟨kk, cf, i, us, q1, q2, q3, q4, -, q6, -⟩ := Cond.stringLink_spec (s := Wst Z T'.vm T'.heap) hf w2
  have q1 : T'.vm.classes[m.cls]? = some kk := q1
  cases q1.symm.trans hk2
  obtain ⟨b, k, r1, r2, r3, r4⟩ := sl_empty hW.alike (Nat.le_zero.mp (text_bytes_le q6)) (B.1 _ hmem us a ⟨m.cls, _, cf, i, hf, hk2, q2, q3, q4, Or.inl hr2⟩)
  exact ⟨a, T', _, _, b, k, X', rfl, E, hS.trans hS' (Nat.le_trans hk E.1), Nat.le_refl _, hW, hf, r1, r2, r3, r4, A.trans ⟨B.1, E.1, B.2⟩, st⟩
end OwnLdw
section OwnCp
variable {p : Program} {l : Launch} {e : Env} {R : Room} {s : State} {m : MethodId} {args : Array Value} {below : List Frame} {meth : Method} {c : Code} {T : State} {locs : List Loc} {cells slots : Nat} {Z : State} {h : Heap} {a b : Addr}
/-- arraycopy of nn places from sp on, to the front of an array as it was made -/
theorem cpSub (X : Stand p l e R s m args below meth c T locs cells slots) (hx : p.tables.exec = Jvm.exec) (hZ : Z.Warmed39 s.vm) {a0 : Array Value} {own : String} {index : Nat} (hown : s.vm.findClass own = some m.cls)
    (w1 : (Cond.methodLink own index Jvm.Stand.acN).before a0 Z = true) (w2 : (Cond.native Jvm.Stand.acN).before a0 Z = true) (w3 : (Cond.static Jvm.Stand.acN).before a0 Z = true) (w4 : (Cond.initialized "java/lang/System").before a0 Z = true) (eT : T.heap = h)
    {k k' : ClassId} {ty : FieldType} {z z' sp nn : Int32} {vs us : List Value} {dv dd : Value} (A : Arv Z h a k ty z vs dv) (B : Arv Z h b k' ty z' [] dd) (hty : refKind ty = false) (h1 : ¬ sp < 0) (h3 : ¬ nn < 0) (h4 : sp.toNatClampNeg + nn.toNatClampNeg ≤ z.toNatClampNeg) (h5 : nn.toNatClampNeg ≤ z'.toNatClampNeg)
    (hus : us = (List.range nn.toNatClampNeg).map fun i => vs.getD (sp.toNatClampNeg + i) dv) {n0 : Nat} (N : Fr n0 locs) (ge : n0 ≤ b)
    {g : JFrame} (hg : g.method = m) (hsize : g.locals.size = c.maxLocals) {rest : List Value} (hs : g.stack = .int nn :: .int 0 :: .ref b :: .int sp :: .ref a :: rest) (hd : decode c.code g.pc = .ok (.invokestatic index, 3))
    (hf : 1 ≤ R.frames) {W : Nat} (hW : 2 * g.monitorRoom + (rest.map fun v => v.category).sum ≤ W) (hlo : W + (nativeFrameWords "java/lang/System" "arraycopy" 5 + 11) ≤ R.locals) :
    ∃ T' h' L, Stand p l e R s m args below meth c T' L cells slots ∧ T'.heap = h' ∧ Fr n0 L ∧ Keep h h' [b] ∧ Arv Z h' b k' ty z' us dd ∧
      ∀ target, Steps p.tables e below (T'.setTop { g with pc := g.pc + 3, stack := rest }) target → Steps p.tables e below (T.setTop g) target := by
  have n3 : (0 : Int32).toNatClampNeg = 0 := rfl
  obtain ⟨T', h', L, X', e', N', K, V, st⟩ := cpA X hx hZ hown w1 w2 w3 w4 eT A (B.pad (pad_rep [] dd nn.toNatClampNeg)) (Or.inl ⟨rfl, hty⟩) (sp := sp) (dp := 0) (nn := nn) (us := us) h1 (by decide) h3 h4 (by rw [n3]; omega) hus (by rw [n3]; simp) N ge hg hsize hs hd hf hW hlo
  refine ⟨T', h', L, X', e', N', K, ?_, st⟩
  rw [n3] at V
  have q : ([] ++ List.replicate nn.toNatClampNeg dd).take 0 ++ us ++ ([] ++ List.replicate nn.toNatClampNeg dd).drop (0 + nn.toNatClampNeg) = us := by simp
  rw [q] at V; exact V
end OwnCp
end Jvm.RoadKit
namespace Jvm.RoadKit
open Sem ClassFile Op Lib Jvm.Stand Jvm.Free Jvm.LawKit
section New
variable {p : Program} {l : Launch} {e : Env} {R : Room} {s : State} {m : MethodId} {args : Array Value} {below : List Frame} {meth : Method} {c : Code} {T : State} {locs : List Loc} {cells slots : Nat}
theorem retI (X : Stand p l e R s m args below meth c T locs cells slots) (hx : p.tables.exec = Jvm.exec) {pc : Nat} {Ls : Array Slot} {z : Int32} {rest : List Value} (hret : meth.sig.returnType = some .int) (hd : decode c.code pc = .ok (.ireturn, 1)) {fs : List Frame}
    (hl : ∀ (f : JFrame) (acts : List Action), f.method = m → f.locked = none → f.entered = [] → (doReturn e (T.setTop f) acts (some (.int z))).1 = T.setFrames fs) : Steps p.tables e below (T.setTop (mkF m pc Ls (.int z :: rest))) (T.setFrames fs) := by
  have hm' : T.vm.method? m = some meth := X.method'
  have hn : narrow .int (.int z) = .int z := rfl
  show Steps p.tables e below (T.setTop { method := m, pc := pc, locals := Ls, stack := _ :: rest, locked := none }) _
  jvm_step X.here [X.here.top, hx, hd, hm', hret, hn]
  first | (intro acts; rw [hl _ acts rfl rfl rfl]) | rw [hl _ _ rfl rfl rfl]
  exact Steps.refl _
end New
end Jvm.RoadKit
namespace Jvm.Pilot.@@N@@
open Jvm Jvm.ClassFile Sem Op Lib Jvm.Free Jvm.Stand Jvm.LawKit Jvm.RoadKit Bundle Jvm.Pilot.@@N@@.Jvm.D
abbrev SS (p : Program) (e : Env) (below : List Frame) (T : State) (f : JFrame) (t : State) : Prop := Steps p.tables e below (T.setTop f) t
variable {pP : Program} {eE : Env} {sS : State} {mM : MethodId} {argS : Array Value} {bS : List Frame} {methS : Method} {cC : Code} {s₁ : State} {lc0 : List Loc} {cl0 sl0 : Nat}
set_option maxRecDepth 65536
set_option maxHeartbeats 40000000
theorem segle {c k a d R : Nat} (h : c + d ≤ R) (q : k + a ≤ d) : c + k + a ≤ R := by omega
theorem ble {a b : Nat} (h : Nat.ble a b = true) : a ≤ b := Nat.le_of_ble_eq_true h
abbrev HW (a0 : Array Value) (Z : State) : Prop := ∀ d ∈ tables_1, d.before a0 Z = true
theorem wi {Z : State} {a0 : Array Value} (hw : HW a0 Z) (i : Nat) {d : Jvm.Cond} (h : tables_1[i]? = some d) : d.before a0 Z = true := hw _ (List.mem_of_getElem? h)
abbrev Ch (c : Int32) : Prop := c.toUInt32.toUInt16.toUInt32.toInt32 = c
def AllL : List Int32 → Prop
  | [] => True
  | c :: r => (c.toInt8.toInt32 &&& (255 : Int32)) = c ∧ AllL r
def lowV : List Int32 → List Value
  | [] => []
  | c :: r => .int c.toInt8.toInt32 :: lowV r
def widV : List Int32 → List Value
  | [] => []
  | c :: r => .int c.toInt8.toInt32 :: .int (c >>> ((8 : Int32) &&& 31)).toInt8.toInt32 :: widV r
/-- the bytes vs (so many: z) under the coder co spell the chars ds -/
def StrC (co z : Int32) (vs : List Value) (ds : List Int32) : Prop :=
  (co = (0 : Int32) ∧ z = iN ds.length ∧ vs = lowV ds ∧ AllL ds) ∨ (co = (1 : Int32) ∧ z = iN (2 * ds.length) ∧ vs = widV ds)
def sub4 (st ln c0 c1 c2 c3 : Int32) : List Int32 := (([c0, c1, c2, c3] : List Int32).drop st.toNatClampNeg).take ln.toNatClampNeg
/-- the char at place i of UTF-16 bytes -/
def GCp (z : Int32) (vs : List Value) (i c : Int32) : Prop := Ch c ∧ ∃ j1 j2 v1 v2 : Int32, (i <<< ((1 : Int32) &&& 31)) = j1 ∧ (j1 + (1 : Int32)) = j2 ∧ ¬ (j1 < (0 : Int32)) ∧ j1 < z ∧ ¬ (j2 < (0 : Int32)) ∧ j2 < z ∧
      vs.getD (j1).toNatClampNeg (.int (0 : Int32)) = (.int v1) ∧ vs.getD (j2).toNatClampNeg (.int (0 : Int32)) = (.int v2) ∧ ((((v1 &&& (255 : Int32)) <<< ((0 : Int32) &&& 31)) ||| ((v2 &&& (255 : Int32)) <<< ((8 : Int32) &&& 31))).toUInt32.toUInt16.toUInt32.toInt32) = c
def AnyG : List Int32 → Prop
  | [] => False
  | c :: r => (255 : Int32) < c ∨ AnyG r
/-- dd, at place jj of ds, is over 255 -/
def JdL (ds : List Int32) (jj dd : Int32) : Prop := ∃ i : Nat, i < 4 ∧ ds[i]? = some dd ∧ jj = iN i ∧ (255 : Int32) < dd
def CbP (z : Int32) (vs : List Value) (s ln nn : Int32) (ds : List Int32) : Prop := (z >>> ((1 : Int32) &&& 31)) = nn ∧ ¬ (((nn ||| s) ||| ln) < (0 : Int32)) ∧ ¬ ((nn - s) < ln) ∧
  ((∃ d0, ln = (1 : Int32) ∧ ds = [d0] ∧ GCp z vs s d0) ∨ (∃ d0 d1, ln = (2 : Int32) ∧ ds = [d0, d1] ∧ GCp z vs s d0 ∧ GCp z vs (s + (1 : Int32)) d1) ∨
   (∃ d0 d1 d2, ln = (3 : Int32) ∧ ds = [d0, d1, d2] ∧ GCp z vs s d0 ∧ GCp z vs (s + (1 : Int32)) d1 ∧ GCp z vs ((s + (1 : Int32)) + (1 : Int32)) d2))
/-- us are the n places of vs from i to j, and they aren't all of them -/
def CpR (z : Int32) (vs : List Value) (i j n : Int32) (us : List Value) : Prop := ¬ (j < i) ∧ (j - i) = n ∧ ¬ (n < (0 : Int32)) ∧ n.toNatClampNeg ≤ 8 ∧ (n < (z - i) ∨ (z - i) = n) ∧ ¬ (i < (0 : Int32)) ∧ i.toNatClampNeg + n.toNatClampNeg ≤ z.toNatClampNeg ∧
  us = ((List.range n.toNatClampNeg).map fun q => vs.getD (i.toNatClampNeg + q) (.int (0 : Int32))) ∧ (¬ (i = (0 : Int32)) ∨ ¬ (j = z))
/-- what charAt asks of a String's bytes -/
def Cat (co z : Int32) (vs : List Value) (i c : Int32) : Prop := Ch c ∧
  ((co = (0 : Int32) ∧ ¬ (i < (0 : Int32)) ∧ i < z ∧ ∃ v : Int32, vs.getD (i).toNatClampNeg (.int (0 : Int32)) = (.int v) ∧ (v &&& (255 : Int32)) = c) ∨
   (co = (1 : Int32) ∧ ∃ n : Int32, (z >>> ((1 : Int32) &&& 31)) = n ∧ ¬ (i < (0 : Int32)) ∧ i < n ∧ GCp z vs i c))
theorem own_jg {ds : List Int32} {jj dd : Int32} (h : JdL ds jj dd) : (255 : Int32) < dd := by obtain ⟨_, _, _, _, h⟩ := h; exact h
theorem own_jn {ds : List Int32} {jj dd : Int32} {n : Nat} (h : JdL ds jj dd) (hn : ds.length = n) (h4 : n ≤ 4) : ¬ (jj = iN n) := by
  obtain ⟨i, hi, hd, rfl, -⟩ := h
  have q := (List.getElem?_eq_some_iff.mp hd).1
  exact fun e => absurd ((iN_eq (by omega) (by omega)).mp e) (by omega)
theorem own_cbln {z s ln nn : Int32} {vs : List Value} {ds : List Int32} (h : CbP z vs s ln nn ds) : ¬ (ln < (0 : Int32)) ∧ ln.toNatClampNeg ≤ 4 ∧ ln = iN ds.length ∧ ds.length ≤ 4 := by
  obtain ⟨-, -, -, ⟨d0, rfl, rfl, -⟩ | ⟨d0, d1, rfl, rfl, -⟩ | ⟨d0, d1, d2, rfl, rfl, -⟩⟩ := h
  · exact ⟨by decide, by decide, rfl, by simp⟩
  · exact ⟨by decide, by decide, rfl, by simp⟩
  · exact ⟨by decide, by decide, rfl, by simp⟩
theorem own_cbjn {z s ln nn : Int32} {vs : List Value} {ds : List Int32} {jj dd : Int32} (h : CbP z vs s ln nn ds) (j : JdL ds jj dd) : ¬ (jj = ln) := by
  have q := own_cbln h
  rw [q.2.2.1]
  exact own_jn j rfl q.2.2.2
theorem own_zc0 {z s ln nn : Int32} {vs : List Value} {ds : List Int32} (h : CbP z vs s ln nn ds) : ((((ln - ln).toUInt32 >>> ((31 : Int32) &&& 31).toUInt32).toInt32).toInt8.toInt32) = (0 : Int32) := by
  rw [Int32.sub_self]; decide
theorem own_retch {c : Int32} (h : Ch c) : (some (Value.int (nar .char c)) : Option Value) = some (.int c) := congrArg (fun x => some (Value.int x)) h
theorem own_retb {c : Int32} (h : c.toInt8.toInt32 = c) : (some (Value.int (nar .byte c)) : Option Value) = some (.int c) := congrArg (fun x => some (Value.int x)) h
theorem own_fitb {c : Int32} (h : c.toInt8.toInt32 = c) : fits .byte (.int c) = true := by
  have q := fits_nar_byte c
  rwa [h] at q
theorem own_ch {c : Int32} (h : Ch c) : 0 ≤ c.toInt ∧ c.toInt < 65536 := by
  have q := c_i2c c
  rw [show c.toUInt32.toUInt16.toUInt32.toInt32 = c from h] at q
  exact q.2
theorem own_cc (x : Int32) : Ch (x.toUInt32.toUInt16.toUInt32.toInt32) := by
  have q := c_i2c x
  have r := c_i2c (x.toUInt32.toUInt16.toUInt32.toInt32)
  exact Int32.toInt_inj.mp (by omega)
theorem own_lat {c : Int32} (h : Ch c) (q : ¬ ((255 : Int32) < c)) : (c.toInt8.toInt32 &&& (255 : Int32)) = c := by
  have r := own_ch h
  rw [Int32.lt_iff_toInt_lt] at q
  have e : (255 : Int32).toInt = 255 := by decide
  have e3 : ((2 ^ 8 : Nat) : Int) = 256 := by decide
  have b := c_i2b c
  rw [← Int32.toInt_inj, c_mask _ 255 8 (by decide) (by decide), e3]
  omega
theorem own_gc {c : Int32} (h : Ch c) : ((((c.toInt8.toInt32 &&& (255 : Int32)) <<< ((0 : Int32) &&& 31)) ||| (((c >>> ((8 : Int32) &&& 31)).toInt8.toInt32 &&& (255 : Int32)) <<< ((8 : Int32) &&& 31))).toUInt32.toUInt16.toUInt32.toInt32) = c := by
  have r := own_ch h
  have e3 : ((2 ^ 8 : Nat) : Int) = 256 := by decide
  rw [shl0]
  have b1 := c_i2b c
  have m1 := c_mask c.toInt8.toInt32 255 8 (by decide) (by decide)
  have s1 := c_ishr c 8 8 (by decide)
  have b2 := c_i2b (c >>> ((8 : Int32) &&& 31))
  have m2 := c_mask (c >>> ((8 : Int32) &&& 31)).toInt8.toInt32 255 8 (by decide) (by decide)
  have s2 := c_ishl ((c >>> ((8 : Int32) &&& 31)).toInt8.toInt32 &&& (255 : Int32)) 8 8 (by decide)
  rw [e3] at m1 m2 s1 s2
  generalize (c.toInt8.toInt32 &&& (255 : Int32)) = lo at *
  generalize ((c >>> ((8 : Int32) &&& 31)).toInt8.toInt32 &&& (255 : Int32)) = hi at *
  have rh := rng32 (hi <<< ((8 : Int32) &&& 31))
  generalize (hi <<< ((8 : Int32) &&& 31)) = hs at *
  have o := c_or' lo hs 8 (by decide) 256 (by decide) (by omega) (by omega) (by omega)
  have ro := rng32 (lo ||| hs)
  have w := c_i2c (lo ||| hs)
  exact Int32.toInt_inj.mp (by omega)
theorem own_jd1 {c0 : Int32} (f0 : Ch c0) : ∀ {jj dd : Int32}, JdL [c0] jj dd → GCp (2 : Int32) [(.int c0.toInt8.toInt32), (.int (c0 >>> ((8 : Int32) &&& 31)).toInt8.toInt32)] jj dd := fun {jj dd} h => by
  obtain ⟨i, hi, hd, rfl, -⟩ := h
  match i, hi, hd with
  | 0, _, hd => cases hd; exact ⟨f0, (0 : Int32), (1 : Int32), _, _, by decide, by decide, by decide, by decide, by decide, by decide, rfl, rfl, own_gc f0⟩
  | 1, _, hd => cases hd
  | 2, _, hd => cases hd
  | 3, _, hd => cases hd
theorem own_jd2 {c0 c1 : Int32} (f0 : Ch c0) (f1 : Ch c1) : ∀ {jj dd : Int32}, JdL [c0, c1] jj dd → GCp (4 : Int32) [(.int c0.toInt8.toInt32), (.int (c0 >>> ((8 : Int32) &&& 31)).toInt8.toInt32), (.int c1.toInt8.toInt32), (.int (c1 >>> ((8 : Int32) &&& 31)).toInt8.toInt32)] jj dd := fun {jj dd} h => by
  obtain ⟨i, hi, hd, rfl, -⟩ := h
  match i, hi, hd with
  | 0, _, hd => cases hd; exact ⟨f0, (0 : Int32), (1 : Int32), _, _, by decide, by decide, by decide, by decide, by decide, by decide, rfl, rfl, own_gc f0⟩
  | 1, _, hd => cases hd; exact ⟨f1, (2 : Int32), (3 : Int32), _, _, by decide, by decide, by decide, by decide, by decide, by decide, rfl, rfl, own_gc f1⟩
  | 2, _, hd => cases hd
  | 3, _, hd => cases hd
theorem own_jd3 {c0 c1 c2 : Int32} (f0 : Ch c0) (f1 : Ch c1) (f2 : Ch c2) : ∀ {jj dd : Int32}, JdL [c0, c1, c2] jj dd → GCp (6 : Int32) [(.int c0.toInt8.toInt32), (.int (c0 >>> ((8 : Int32) &&& 31)).toInt8.toInt32), (.int c1.toInt8.toInt32), (.int (c1 >>> ((8 : Int32) &&& 31)).toInt8.toInt32), (.int c2.toInt8.toInt32), (.int (c2 >>> ((8 : Int32) &&& 31)).toInt8.toInt32)] jj dd := fun {jj dd} h => by
  obtain ⟨i, hi, hd, rfl, -⟩ := h
  match i, hi, hd with
  | 0, _, hd => cases hd; exact ⟨f0, (0 : Int32), (1 : Int32), _, _, by decide, by decide, by decide, by decide, by decide, by decide, rfl, rfl, own_gc f0⟩
  | 1, _, hd => cases hd; exact ⟨f1, (2 : Int32), (3 : Int32), _, _, by decide, by decide, by decide, by decide, by decide, by decide, rfl, rfl, own_gc f1⟩
  | 2, _, hd => cases hd; exact ⟨f2, (4 : Int32), (5 : Int32), _, _, by decide, by decide, by decide, by decide, by decide, by decide, rfl, rfl, own_gc f2⟩
  | 3, _, hd => cases hd
theorem own_jd4 {c0 c1 c2 c3 : Int32} (f0 : Ch c0) (f1 : Ch c1) (f2 : Ch c2) (f3 : Ch c3) : ∀ {jj dd : Int32}, JdL [c0, c1, c2, c3] jj dd → GCp (8 : Int32) [(.int c0.toInt8.toInt32), (.int (c0 >>> ((8 : Int32) &&& 31)).toInt8.toInt32), (.int c1.toInt8.toInt32), (.int (c1 >>> ((8 : Int32) &&& 31)).toInt8.toInt32), (.int c2.toInt8.toInt32), (.int (c2 >>> ((8 : Int32) &&& 31)).toInt8.toInt32), (.int c3.toInt8.toInt32), (.int (c3 >>> ((8 : Int32) &&& 31)).toInt8.toInt32)] jj dd := fun {jj dd} h => by
  obtain ⟨i, hi, hd, rfl, -⟩ := h
  match i, hi, hd with
  | 0, _, hd => cases hd; exact ⟨f0, (0 : Int32), (1 : Int32), _, _, by decide, by decide, by decide, by decide, by decide, by decide, rfl, rfl, own_gc f0⟩
  | 1, _, hd => cases hd; exact ⟨f1, (2 : Int32), (3 : Int32), _, _, by decide, by decide, by decide, by decide, by decide, by decide, rfl, rfl, own_gc f1⟩
  | 2, _, hd => cases hd; exact ⟨f2, (4 : Int32), (5 : Int32), _, _, by decide, by decide, by decide, by decide, by decide, by decide, rfl, rfl, own_gc f2⟩
  | 3, _, hd => cases hd; exact ⟨f3, (6 : Int32), (7 : Int32), _, _, by decide, by decide, by decide, by decide, by decide, by decide, rfl, rfl, own_gc f3⟩
theorem own_asub (a b : Int32) : ((a + b) - a) = b := by rw [Int32.add_comm]; exact Int32.add_sub_cancel b a
theorem own_emp {st c0 c1 c2 c3 : Int32} : StrC (0 : Int32) (0 : Int32) [] (sub4 st (0 : Int32) c0 c1 c2 c3) := Or.inl ⟨rfl, rfl, rfl, trivial⟩
theorem own_s4 {co z c0 c1 c2 c3 : Int32} {vs : List Value} (h : StrC co z vs [c0, c1, c2, c3]) : (co = (0 : Int32) ∧ z = (4 : Int32) ∧ vs = [(.int c0.toInt8.toInt32), (.int c1.toInt8.toInt32), (.int c2.toInt8.toInt32), (.int c3.toInt8.toInt32)] ∧ (c0.toInt8.toInt32 &&& (255 : Int32)) = c0 ∧ (c1.toInt8.toInt32 &&& (255 : Int32)) = c1 ∧ (c2.toInt8.toInt32 &&& (255 : Int32)) = c2 ∧ (c3.toInt8.toInt32 &&& (255 : Int32)) = c3) ∨
    (co = (1 : Int32) ∧ z = (8 : Int32) ∧ vs = [(.int c0.toInt8.toInt32), (.int (c0 >>> ((8 : Int32) &&& 31)).toInt8.toInt32), (.int c1.toInt8.toInt32), (.int (c1 >>> ((8 : Int32) &&& 31)).toInt8.toInt32), (.int c2.toInt8.toInt32), (.int (c2 >>> ((8 : Int32) &&& 31)).toInt8.toInt32), (.int c3.toInt8.toInt32), (.int (c3 >>> ((8 : Int32) &&& 31)).toInt8.toInt32)]) := by
  rcases h with ⟨h1, h2, h3, l0, l1, l2, l3, -⟩ | ⟨h1, h2, h3⟩
  · exact Or.inl ⟨h1, h2, h3, l0, l1, l2, l3⟩
  · exact Or.inr ⟨h1, h2, h3⟩
theorem own_sh4 {co z c0 c1 c2 c3 : Int32} {vs : List Value} (h : StrC co z vs [c0, c1, c2, c3]) : (z >>> (co &&& 31)) = (4 : Int32) := by
  rcases own_s4 h with ⟨rfl, rfl, -⟩ | ⟨rfl, rfl, -⟩ <;> decide
theorem own_this {st ln co z c0 c1 c2 c3 : Int32} {vs : List Value} (h0 : st = (0 : Int32)) (h4 : (st + ln) = (4 : Int32)) (h : StrC co z vs [c0, c1, c2, c3]) : StrC co z vs (sub4 st ln c0 c1 c2 c3) := by
  subst h0
  rw [Int32.zero_add] at h4
  subst h4
  exact h
def Combo (st ln : Int32) : Prop := (st = (0 : Int32) ∧ ln = (0 : Int32)) ∨ (st = (0 : Int32) ∧ ln = (1 : Int32)) ∨ (st = (0 : Int32) ∧ ln = (2 : Int32)) ∨ (st = (0 : Int32) ∧ ln = (3 : Int32)) ∨ (st = (0 : Int32) ∧ ln = (4 : Int32)) ∨ (st = (1 : Int32) ∧ ln = (0 : Int32)) ∨ (st = (1 : Int32) ∧ ln = (1 : Int32)) ∨ (st = (1 : Int32) ∧ ln = (2 : Int32)) ∨ (st = (1 : Int32) ∧ ln = (3 : Int32)) ∨ (st = (2 : Int32) ∧ ln = (0 : Int32)) ∨ (st = (2 : Int32) ∧ ln = (1 : Int32)) ∨ (st = (2 : Int32) ∧ ln = (2 : Int32)) ∨ (st = (3 : Int32) ∧ ln = (0 : Int32)) ∨ (st = (3 : Int32) ∧ ln = (1 : Int32)) ∨ (st = (4 : Int32) ∧ ln = (0 : Int32))
def Cmb1 (st ln : Int32) : Prop := (st = (0 : Int32) ∧ ln = (0 : Int32)) ∨ (st = (1 : Int32) ∧ ln = (0 : Int32)) ∨ (st = (2 : Int32) ∧ ln = (0 : Int32)) ∨ (st = (3 : Int32) ∧ ln = (0 : Int32)) ∨ (st = (4 : Int32) ∧ ln = (0 : Int32)) ∨ (st = (0 : Int32) ∧ ln = (1 : Int32)) ∨ (st = (0 : Int32) ∧ ln = (2 : Int32)) ∨ (st = (0 : Int32) ∧ ln = (3 : Int32)) ∨ (st = (1 : Int32) ∧ ln = (1 : Int32)) ∨ (st = (1 : Int32) ∧ ln = (2 : Int32)) ∨ (st = (1 : Int32) ∧ ln = (3 : Int32)) ∨ (st = (2 : Int32) ∧ ln = (1 : Int32)) ∨ (st = (2 : Int32) ∧ ln = (2 : Int32)) ∨ (st = (3 : Int32) ∧ ln = (1 : Int32))
def Cmb2 (st ln : Int32) : Prop := (st = (0 : Int32) ∧ ln = (1 : Int32)) ∨ (st = (0 : Int32) ∧ ln = (2 : Int32)) ∨ (st = (0 : Int32) ∧ ln = (3 : Int32)) ∨ (st = (1 : Int32) ∧ ln = (1 : Int32)) ∨ (st = (1 : Int32) ∧ ln = (2 : Int32)) ∨ (st = (1 : Int32) ∧ ln = (3 : Int32)) ∨ (st = (2 : Int32) ∧ ln = (1 : Int32)) ∨ (st = (2 : Int32) ∧ ln = (2 : Int32)) ∨ (st = (3 : Int32) ∧ ln = (1 : Int32))
theorem own_b1 {st ln : Int32} (h : Combo st ln) : ¬ (st < (0 : Int32)) := by
  rcases h with ⟨rfl, rfl⟩ | ⟨rfl, rfl⟩ | ⟨rfl, rfl⟩ | ⟨rfl, rfl⟩ | ⟨rfl, rfl⟩ | ⟨rfl, rfl⟩ | ⟨rfl, rfl⟩ | ⟨rfl, rfl⟩ | ⟨rfl, rfl⟩ | ⟨rfl, rfl⟩ | ⟨rfl, rfl⟩ | ⟨rfl, rfl⟩ | ⟨rfl, rfl⟩ | ⟨rfl, rfl⟩ | ⟨rfl, rfl⟩ <;> decide
theorem own_b2 {st ln : Int32} (h : Combo st ln) : ¬ ((st + ln) < st) := by
  rcases h with ⟨rfl, rfl⟩ | ⟨rfl, rfl⟩ | ⟨rfl, rfl⟩ | ⟨rfl, rfl⟩ | ⟨rfl, rfl⟩ | ⟨rfl, rfl⟩ | ⟨rfl, rfl⟩ | ⟨rfl, rfl⟩ | ⟨rfl, rfl⟩ | ⟨rfl, rfl⟩ | ⟨rfl, rfl⟩ | ⟨rfl, rfl⟩ | ⟨rfl, rfl⟩ | ⟨rfl, rfl⟩ | ⟨rfl, rfl⟩ <;> decide
theorem own_b3 {st ln : Int32} (h : Combo st ln) : ¬ ((4 : Int32) < (st + ln)) := by
  rcases h with ⟨rfl, rfl⟩ | ⟨rfl, rfl⟩ | ⟨rfl, rfl⟩ | ⟨rfl, rfl⟩ | ⟨rfl, rfl⟩ | ⟨rfl, rfl⟩ | ⟨rfl, rfl⟩ | ⟨rfl, rfl⟩ | ⟨rfl, rfl⟩ | ⟨rfl, rfl⟩ | ⟨rfl, rfl⟩ | ⟨rfl, rfl⟩ | ⟨rfl, rfl⟩ | ⟨rfl, rfl⟩ | ⟨rfl, rfl⟩ <;> decide
theorem own_cm1a {st ln : Int32} (h : Combo st ln) (n : ¬ (st = (0 : Int32))) : Cmb1 st ln := by
  rcases h with ⟨rfl, rfl⟩ | ⟨rfl, rfl⟩ | ⟨rfl, rfl⟩ | ⟨rfl, rfl⟩ | ⟨rfl, rfl⟩ | ⟨rfl, rfl⟩ | ⟨rfl, rfl⟩ | ⟨rfl, rfl⟩ | ⟨rfl, rfl⟩ | ⟨rfl, rfl⟩ | ⟨rfl, rfl⟩ | ⟨rfl, rfl⟩ | ⟨rfl, rfl⟩ | ⟨rfl, rfl⟩ | ⟨rfl, rfl⟩ <;> first | exact absurd rfl n | (unfold Cmb1; decide)
theorem own_cm1b {st ln : Int32} (h : Combo st ln) (n : ¬ ((st + ln) = (4 : Int32))) : Cmb1 st ln := by
  rcases h with ⟨rfl, rfl⟩ | ⟨rfl, rfl⟩ | ⟨rfl, rfl⟩ | ⟨rfl, rfl⟩ | ⟨rfl, rfl⟩ | ⟨rfl, rfl⟩ | ⟨rfl, rfl⟩ | ⟨rfl, rfl⟩ | ⟨rfl, rfl⟩ | ⟨rfl, rfl⟩ | ⟨rfl, rfl⟩ | ⟨rfl, rfl⟩ | ⟨rfl, rfl⟩ | ⟨rfl, rfl⟩ | ⟨rfl, rfl⟩ <;> first | exact absurd (by decide) n | (unfold Cmb1; decide)
theorem own_slen {st ln co z c0 c1 c2 c3 : Int32} {vs : List Value} (h : Combo st ln) (k : StrC co z vs (sub4 st ln c0 c1 c2 c3)) : (z >>> (co &&& 31)) = ln := by
  rcases h with ⟨rfl, rfl⟩ | ⟨rfl, rfl⟩ | ⟨rfl, rfl⟩ | ⟨rfl, rfl⟩ | ⟨rfl, rfl⟩ | ⟨rfl, rfl⟩ | ⟨rfl, rfl⟩ | ⟨rfl, rfl⟩ | ⟨rfl, rfl⟩ | ⟨rfl, rfl⟩ | ⟨rfl, rfl⟩ | ⟨rfl, rfl⟩ | ⟨rfl, rfl⟩ | ⟨rfl, rfl⟩ | ⟨rfl, rfl⟩
  · rcases k with ⟨rfl, e, -⟩ | ⟨rfl, e, -⟩
    · rw [show z = (0 : Int32) from e]; decide
    · rw [show z = (0 : Int32) from e]; decide
  · rcases k with ⟨rfl, e, -⟩ | ⟨rfl, e, -⟩
    · rw [show z = (1 : Int32) from e]; decide
    · rw [show z = (2 : Int32) from e]; decide
  · rcases k with ⟨rfl, e, -⟩ | ⟨rfl, e, -⟩
    · rw [show z = (2 : Int32) from e]; decide
    · rw [show z = (4 : Int32) from e]; decide
  · rcases k with ⟨rfl, e, -⟩ | ⟨rfl, e, -⟩
    · rw [show z = (3 : Int32) from e]; decide
    · rw [show z = (6 : Int32) from e]; decide
  · rcases k with ⟨rfl, e, -⟩ | ⟨rfl, e, -⟩
    · rw [show z = (4 : Int32) from e]; decide
    · rw [show z = (8 : Int32) from e]; decide
  · rcases k with ⟨rfl, e, -⟩ | ⟨rfl, e, -⟩
    · rw [show z = (0 : Int32) from e]; decide
    · rw [show z = (0 : Int32) from e]; decide
  · rcases k with ⟨rfl, e, -⟩ | ⟨rfl, e, -⟩
    · rw [show z = (1 : Int32) from e]; decide
    · rw [show z = (2 : Int32) from e]; decide
  · rcases k with ⟨rfl, e, -⟩ | ⟨rfl, e, -⟩
    · rw [show z = (2 : Int32) from e]; decide
    · rw [show z = (4 : Int32) from e]; decide
  · rcases k with ⟨rfl, e, -⟩ | ⟨rfl, e, -⟩
    · rw [show z = (3 : Int32) from e]; decide
    · rw [show z = (6 : Int32) from e]; decide
  · rcases k with ⟨rfl, e, -⟩ | ⟨rfl, e, -⟩
    · rw [show z = (0 : Int32) from e]; decide
    · rw [show z = (0 : Int32) from e]; decide
  · rcases k with ⟨rfl, e, -⟩ | ⟨rfl, e, -⟩
    · rw [show z = (1 : Int32) from e]; decide
    · rw [show z = (2 : Int32) from e]; decide
  · rcases k with ⟨rfl, e, -⟩ | ⟨rfl, e, -⟩
    · rw [show z = (2 : Int32) from e]; decide
    · rw [show z = (4 : Int32) from e]; decide
  · rcases k with ⟨rfl, e, -⟩ | ⟨rfl, e, -⟩
    · rw [show z = (0 : Int32) from e]; decide
    · rw [show z = (0 : Int32) from e]; decide
  · rcases k with ⟨rfl, e, -⟩ | ⟨rfl, e, -⟩
    · rw [show z = (1 : Int32) from e]; decide
    · rw [show z = (2 : Int32) from e]; decide
  · rcases k with ⟨rfl, e, -⟩ | ⟨rfl, e, -⟩
    · rw [show z = (0 : Int32) from e]; decide
    · rw [show z = (0 : Int32) from e]; decide
theorem own_small {x : Int32} (h0 : 0 ≤ x.toInt) (h5 : x.toInt < 5) : x = 0 ∨ x = 1 ∨ x = 2 ∨ x = 3 ∨ x = 4 := by
  have q : x.toInt = 0 ∨ x.toInt = 1 ∨ x.toInt = 2 ∨ x.toInt = 3 ∨ x.toInt = 4 := by omega
  rcases q with q | q | q | q | q
  · exact Or.inl (Int32.toInt_inj.mp (by rw [q]; rfl))
  · exact Or.inr (Or.inl (Int32.toInt_inj.mp (by rw [q]; rfl)))
  · exact Or.inr (Or.inr (Or.inl (Int32.toInt_inj.mp (by rw [q]; rfl))))
  · exact Or.inr (Or.inr (Or.inr (Or.inl (Int32.toInt_inj.mp (by rw [q]; rfl)))))
  · exact Or.inr (Or.inr (Or.inr (Or.inr (Int32.toInt_inj.mp (by rw [q]; rfl)))))
theorem own_st (x : Int32) : ∀ st, (x &&& (2147483647 : Int32)) % (5 : Int32) = st → st = 0 ∨ st = 1 ∨ st = 2 ∨ st = 3 ∨ st = 4 := fun st e => by
  have h1 := c_and x 2147483647 (by decide)
  have h2 := (c_iremV (x &&& 2147483647) 5).1 h1.1 (by decide)
  rw [e] at h2
  have e5 : (5 : Int32).toInt = 5 := by decide
  exact own_small h2.1 (by omega)
theorem own_ln (y m : Int32) (M : Int) (hM : m.toInt = M) (h0 : 0 < M) : ∀ ln, (y &&& (2147483647 : Int32)) % m = ln → 0 ≤ ln.toInt ∧ ln.toInt < M := fun ln e => by
  have h1 := c_and y 2147483647 (by decide)
  have h2 := (c_iremV (y &&& 2147483647) m).1 h1.1 (by omega)
  rw [e] at h2
  omega
theorem own_nz (x : Int32) : ¬ (((5 : Int32) - ((x &&& (2147483647 : Int32)) % (5 : Int32))) = (0 : Int32)) := by
  rcases own_st x _ rfl with q | q | q | q | q <;> rw [q] <;> decide
theorem own_cmb2 (x y st ln : Int32) (e1 : (x &&& (2147483647 : Int32)) % (5 : Int32) = st) (e2 : (y &&& (2147483647 : Int32)) % ((5 : Int32) - st) = ln) : Combo st ln := by
  rcases own_st x _ e1 with rfl | rfl | rfl | rfl | rfl
  · have b := own_ln y ((5 : Int32) - (0 : Int32)) 5 (by decide) (by decide) ln e2
    rcases own_small b.1 (by omega) with rfl | rfl | rfl | rfl | rfl
    · unfold Combo; decide
    · unfold Combo; decide
    · unfold Combo; decide
    · unfold Combo; decide
    · unfold Combo; decide
  · have b := own_ln y ((5 : Int32) - (1 : Int32)) 4 (by decide) (by decide) ln e2
    rcases own_small b.1 (by omega) with rfl | rfl | rfl | rfl | rfl
    · unfold Combo; decide
    · unfold Combo; decide
    · unfold Combo; decide
    · unfold Combo; decide
    · exact absurd b.2 (by decide)
  · have b := own_ln y ((5 : Int32) - (2 : Int32)) 3 (by decide) (by decide) ln e2
    rcases own_small b.1 (by omega) with rfl | rfl | rfl | rfl | rfl
    · unfold Combo; decide
    · unfold Combo; decide
    · unfold Combo; decide
    · exact absurd b.2 (by decide)
    · exact absurd b.2 (by decide)
  · have b := own_ln y ((5 : Int32) - (3 : Int32)) 2 (by decide) (by decide) ln e2
    rcases own_small b.1 (by omega) with rfl | rfl | rfl | rfl | rfl
    · unfold Combo; decide
    · unfold Combo; decide
    · exact absurd b.2 (by decide)
    · exact absurd b.2 (by decide)
    · exact absurd b.2 (by decide)
  · have b := own_ln y ((5 : Int32) - (4 : Int32)) 1 (by decide) (by decide) ln e2
    rcases own_small b.1 (by omega) with rfl | rfl | rfl | rfl | rfl
    · unfold Combo; decide
    · exact absurd b.2 (by decide)
    · exact absurd b.2 (by decide)
    · exact absurd b.2 (by decide)
    · exact absurd b.2 (by decide)
theorem own_cmb (x : Int32) : Combo ((x &&& (2147483647 : Int32)) % (5 : Int32)) ((((x.toUInt32 >>> ((8 : Int32) &&& 31).toUInt32).toInt32) &&& (2147483647 : Int32)) % ((5 : Int32) - ((x &&& (2147483647 : Int32)) % (5 : Int32)))) := own_cmb2 x _ _ _ rfl rfl
-- MARK small
def Q_getCharG (Z : State) (c : Int32) (h0 : Heap) (n0 : Nat) (xv : Option Value) (xh : Heap) (xL : List Loc) : Prop := xv = some (.int c) ∧ Fr n0 xL ∧ xh = h0
theorem own_decl {Z : State} {a0 : Array Value} {y : MethodName} {bytes : ByteArray} {ml : Nat} {rt : Option FieldType} (w1 : (Jvm.Cond.instanceMethod y).before a0 Z = true) (w2 : (Jvm.Cond.code y bytes ml rt).before a0 Z = true) : (Jvm.Cond.declares y).before a0 Z = true := by
  obtain ⟨m, meth, hn, hm, hst, -⟩ := Cond.instanceMethod_spec w1
  obtain ⟨meth', c, q1, -, -, -, -, -, -, hsig⟩ := Cond.code_spec hn w2
  cases hm.symm.trans q1
  simp [Cond.before, Cond.holds, Cond.value, hn, hm, hst, hsig]
theorem own_nf {s : State} {y z : MethodName} (h : NotFace s y) (hy : ∃ r, s.methodNamed? y = some r) (e : y.cls = z.cls) : NotFace s z := fun r0 h0 => by
  obtain ⟨r, hr⟩ := hy
  have e1 := findClass_of_methodNamed hr
  have e2 := findClass_of_methodNamed h0
  rw [e] at e1
  obtain ⟨k, q1, q2⟩ := h r hr
  exact ⟨k, by rw [← Option.some.inj (e1.symm.trans e2)]; exact q1, q2⟩
theorem own_same {Z : State} {a0 : Array Value} {y : MethodName} (hy : y.cls ≠ "java/lang/invoke/MethodHandle" ∧ y.cls ≠ "java/lang/invoke/VarHandle") (w1 : (Jvm.Cond.instanceMethod y).before a0 Z = true) (nf : NotFace Z y) : (Jvm.Cond.sameMethod y.cls y.cls y.name y.desc).before a0 Z = true := by
  obtain ⟨m, meth, hn, hm, hst, -⟩ := Cond.instanceMethod_spec w1
  have hf := State.methodFound?_of_named hn hy
  have hc := findClass_of_methodNamed hn
  obtain ⟨k, q1, q2⟩ := nf m hn
  simp [Cond.before, Cond.holds, Cond.value, hc, hf, hn, q1, q2]
theorem own_b8 (x : Int32) : (x.toInt8.toInt32).toInt8.toInt32 = x.toInt8.toInt32 := by simp
abbrev c52_5 := jdk_52_method_5_code
theorem d52_5_0 : decode c52_5 0 = .ok (.getstatic 44, 3) := by decide +kernel
theorem d52_5_3 : decode c52_5 3 = .ok (.ifCond .ne 25, 3) := by decide +kernel
theorem d52_5_28 : decode c52_5 28 = .ok (.iload_n 1, 1) := by decide +kernel
theorem d52_5_29 : decode c52_5 29 = .ok (.iconst 1, 1) := by decide +kernel
theorem d52_5_30 : decode c52_5 30 = .ok (.ishl, 1) := by decide +kernel
theorem d52_5_31 : decode c52_5 31 = .ok (.istore_n 1, 1) := by decide +kernel
theorem d52_5_32 : decode c52_5 32 = .ok (.aload_n 0, 1) := by decide +kernel
theorem d52_5_33 : decode c52_5 33 = .ok (.iload_n 1, 1) := by decide +kernel
theorem d52_5_34 : decode c52_5 34 = .ok (.iinc 1 1, 3) := by decide +kernel
theorem d52_5_37 : decode c52_5 37 = .ok (.baload, 1) := by decide +kernel
theorem d52_5_38 : decode c52_5 38 = .ok (.sipush 255, 3) := by decide +kernel
theorem d52_5_41 : decode c52_5 41 = .ok (.iand, 1) := by decide +kernel
theorem d52_5_42 : decode c52_5 42 = .ok (.getstatic 59, 3) := by decide +kernel
theorem d52_5_45 : decode c52_5 45 = .ok (.ishl, 1) := by decide +kernel
theorem d52_5_46 : decode c52_5 46 = .ok (.aload_n 0, 1) := by decide +kernel
theorem d52_5_47 : decode c52_5 47 = .ok (.iload_n 1, 1) := by decide +kernel
theorem d52_5_48 : decode c52_5 48 = .ok (.baload, 1) := by decide +kernel
theorem d52_5_49 : decode c52_5 49 = .ok (.sipush 255, 3) := by decide +kernel
theorem d52_5_52 : decode c52_5 52 = .ok (.iand, 1) := by decide +kernel
theorem d52_5_53 : decode c52_5 53 = .ok (.getstatic 63, 3) := by decide +kernel
theorem d52_5_56 : decode c52_5 56 = .ok (.ishl, 1) := by decide +kernel
theorem d52_5_57 : decode c52_5 57 = .ok (.ior, 1) := by decide +kernel
theorem d52_5_58 : decode c52_5 58 = .ok (.i2c, 1) := by decide +kernel
theorem d52_5_59 : decode c52_5 59 = .ok (.ireturn, 1) := by decide +kernel
abbrev r0_0_0_0 : Room := { frames := 0, cells := 0, slots := 0, locals := 0 }
abbrev y0_ : MethodName := ⟨"java/lang/StringUTF16", "getChar", "([BI)C"⟩
theorem pn_java_lang_StringUTF16 : plainName "java/lang/StringUTF16" = true := by first | (simp [plainName, overriddenIn]; done) | decide +kernel
theorem ef_getChar (mM : MethodId) (a : Addr) (k : ClassId) (z : Int32) (vs : List Value) (i : Int32) (j1 : Int32) (j2 : Int32) (v1 : Int32) (v2 : Int32) (c : Int32) : entryFrame mM #[(.ref a), (.int i)] 2 = mkF mM 0 #[.val (.ref a), .val (.int i)] [] := by
  first | (simp [entryFrame, mkF, argsToLocals, Value.category]; done) | rfl
theorem rm_getChar (l : Launch) (Z : State) (a0 : Array Value) (hw : HW a0 Z) (ws : List Jvm.Cond) (a : Addr) (k : ClassId) (z : Int32) (vs : List Value) (i : Int32) (j1 : Int32) (j2 : Int32) (v1 : Int32) (v2 : Int32) (c : Int32) (h0 : Heap) (n0 : Nat) (Z0 : n0 ≤ h0.size) (V_a : Arv Z h0 a k .byte z vs (.int (0 : Int32))) (OL : Old Z n0 h0) (S__assertionsDisabled : Sta Z Z.heap "java/lang/StringUTF16" "$assertionsDisabled" "Z" (.int (1 : Int32))) (S_HI_BYTE_SHIFT : Sta Z Z.heap "java/lang/StringUTF16" "HI_BYTE_SHIFT" "I" (.int (0 : Int32))) (S_LO_BYTE_SHIFT : Sta Z Z.heap "java/lang/StringUTF16" "LO_BYTE_SHIFT" "I" (.int (8 : Int32))) (hj1 : (i <<< ((1 : Int32) &&& 31)) = j1) (hj2 : (j1 + (1 : Int32)) = j2) (h1a : ¬ (j1 < (0 : Int32))) (h1b : j1 < z) (h2a : ¬ (j2 < (0 : Int32))) (h2b : j2 < z) (e1 : vs.getD (j1).toNatClampNeg (.int (0 : Int32)) = (.int v1)) (e2 : vs.getD (j2).toNatClampNeg (.int (0 : Int32)) = (.int v2)) (hc : ((((v1 &&& (255 : Int32)) <<< ((0 : Int32) &&& 31)) ||| ((v2 &&& (255 : Int32)) <<< ((8 : Int32) &&& 31))).toUInt32.toUInt16.toUInt32.toInt32) = c) (hch : Ch c) :
    MetFree l y0_ (head1 (Jvm.Cond.code y0_ jdk_52_method_5_code 2 (some .char) :: ws) r0_0_0_0) (fun xa xU => xa = #[(.ref a), (.int i)] ∧ Z.Warmed39 xU.vm ∧ xU.heap = h0) (fun _ _ _ _ _ => True) (fun _ xU xo xU' => ∃ xv xL, xo = .returned xv ∧ Q_getCharG Z c h0 n0 xv xU'.heap xL ∧ FrameEnd xU xo xU' xL r0_0_0_0.cells r0_0_0_0.slots) := by
  refine MetFree.of_bodySF (plainFor_of_name pn_java_lang_StringUTF16) hisR ?_
  intro pP eE sS mM argS bS methS cC s₁ Bd hml0 hP hK
  obtain ⟨rfl, hZ, hh⟩ := hP
  have hx := Bd.exec
  have hby := Bd.bytes
  have hml : cC.maxLocals = 2 := hml0
  have hown : sS.vm.findClass "java/lang/StringUTF16" = some mM.cls := findClass_of_methodNamed Bd.named
  have hnm := (name_of_methodNamed Bd.named Bd.method).1
  have X0 : Stand pP l eE r0_0_0_0 sS mM #[(.ref a), (.int i)] bS methS cC s₁ [] 0 0 := Stand.of_body Bd
  have e0 : s₁.heap = h0 := by rw [← hh, Bd.state]; rfl
  have N0 := Fr.nil n0
  have c101_S__assertionsDisabled : Sta Z h0 "java/lang/StringUTF16" "$assertionsDisabled" "Z" (.int (1 : Int32)) := Sta.ext OL.2 S__assertionsDisabled
  obtain ⟨T102, X102, e102, st102⟩ := getS2 X0 hx hZ hown (host := "") (Or.inl (wi hw 137 rfl)) Via.refl e0 c101_S__assertionsDisabled (g := (mkF mM 0 #[.val (.ref a), .val (.int i)] [])) rfl (hb hby d52_5_0)
  obtain ⟨cl103, Ar103, q103, S103, Ng103, Ha103, Ga103⟩ := id V_a
  have hin103 : ¬ (j1 < 0 ∨ cl103.slots.size ≤ (j1).toNatClampNeg) := inb_of S103 ⟨h1a, h1b⟩
  have hat103 : cl103.slots[(j1).toNatClampNeg]? = some (.int v1) := Ha103.at hin103 (e1)
  have c104_S_HI_BYTE_SHIFT : Sta Z h0 "java/lang/StringUTF16" "HI_BYTE_SHIFT" "I" (.int (0 : Int32)) := Sta.ext OL.2 S_HI_BYTE_SHIFT
  obtain ⟨T105, X105, e105, st105⟩ := getS2 X102 hx hZ hown (host := "") (Or.inl (wi hw 138 rfl)) Via.refl e102 c104_S_HI_BYTE_SHIFT (g := (mkF mM 42 #[.val (.ref a), .val (.int j2)] [(.int (v1 &&& (255 : Int32)))])) rfl (hb hby d52_5_42)
  obtain ⟨cl106, Ar106, q106, S106, Ng106, Ha106, Ga106⟩ := id V_a
  have hin106 : ¬ (j2 < 0 ∨ cl106.slots.size ≤ (j2).toNatClampNeg) := inb_of S106 ⟨h2a, h2b⟩
  have hat106 : cl106.slots[(j2).toNatClampNeg]? = some (.int v2) := Ha106.at hin106 (e2)
  have c107_S_LO_BYTE_SHIFT : Sta Z h0 "java/lang/StringUTF16" "LO_BYTE_SHIFT" "I" (.int (8 : Int32)) := Sta.ext OL.2 S_LO_BYTE_SHIFT
  obtain ⟨T108, X108, e108, st108⟩ := getS2 X105 hx hZ hown (host := "") (Or.inl (wi hw 139 rfl)) Via.refl e105 c107_S_LO_BYTE_SHIFT (g := (mkF mM 53 #[.val (.ref a), .val (.int j2)] [(.int (v2 &&& (255 : Int32))), (.int ((v1 &&& (255 : Int32)) <<< ((0 : Int32) &&& 31)))])) rfl (hb hby d52_5_53)
  obtain ⟨fs, hr, hrun, hended, hW, hsame⟩ := X108.leave (v := some (.int (nar .char c))) (fun h => by rw [Bd.returns] at h; cases h)
  refine ⟨_, _, castTop (ef_getChar mM a k z vs i j1 j2 v1 v2 c) ?_, hrun, hended, _, _, rfl, ?_, ⟨_, rfl⟩, hW, hsame.mono (by decide) (by decide)⟩
  · show SS pP eE bS s₁ (mkF mM 0 #[.val (.ref a), .val (.int i)] []) _
    refine st102 _ ?_
    show SS pP eE bS T102 (mkF mM 3 #[.val (.ref a), .val (.int i)] [(.int (1 : Int32))]) _
    refine XS.ifYes X102.here hx rfl (pc0 := 3) (pc' := 28) rfl (hb hby d52_5_3) rfl ((if0 _ _).trans (feq (by decide : ¬ ((1 : Int32) = (0 : Int32)))).2) (by decide) (by decide) ?_
    refine XS.iloadN X102.here hx rfl (hb hby d52_5_28) rfl ?_
    refine XS.iconst X102.here hx rfl (hb hby d52_5_29) ?_
    refine XS.ishl X102.here hx rfl (hb hby d52_5_30) rfl ?_
    show SS pP eE bS T102 (mkF mM 31 #[.val (.ref a), .val (.int i)] [(.int (i <<< ((1 : Int32) &&& 31)))]) _
    rw [show (i <<< ((1 : Int32) &&& 31)) = j1 from hj1]
    refine XS.istoreN X102.here hx rfl (hb hby d52_5_31) rfl (l' := #[.val (.ref a), .val (.int j1)]) rfl ?_
    refine XS.aloadN X102.here hx rfl (hb hby d52_5_32) rfl rfl ?_
    refine XS.iloadN X102.here hx rfl (hb hby d52_5_33) rfl ?_
    show SS pP eE bS T102 (mkF mM 34 #[.val (.ref a), .val (.int j1)] [(.int j1), (.ref a)]) _
    refine XS.iinc X102.here hx rfl (hb hby d52_5_34) rfl (l' := #[.val (.ref a), .val (.int (j1 + (1 : Int32)))]) rfl ?_
    show SS pP eE bS T102 (mkF mM 37 #[.val (.ref a), .val (.int (j1 + (1 : Int32)))] [(.int j1), (.ref a)]) _
    rw [show (j1 + (1 : Int32)) = j2 from hj2]
    show SS pP eE bS T102 (mkF mM 37 #[.val (.ref a), .val (.int j2)] [(.int j1), (.ref a)]) _
    refine X102.baloadBytes hx (j := j1) (v := (.int v1)) (by rw [e102]; exact Ar103.1) (State.isArrayOf_alike hZ.alike Ar103.2.1) Ar103.2.2 hin103 hat103 (g := (mkF mM 37 #[.val (.ref a), .val (.int j2)] [(.int j1), (.ref a)])) rfl rfl (hb hby d52_5_37) _ ?_
    show SS pP eE bS T102 (mkF mM 38 #[.val (.ref a), .val (.int j2)] [(.int v1)]) _
    refine XS.sipush X102.here hx rfl (hb hby d52_5_38) ?_
    refine XS.iand X102.here hx rfl (hb hby d52_5_41) rfl ?_
    show SS pP eE bS T102 (mkF mM 42 #[.val (.ref a), .val (.int j2)] [(.int (v1 &&& (255 : Int32)))]) _
    refine st105 _ ?_
    show SS pP eE bS T105 (mkF mM 45 #[.val (.ref a), .val (.int j2)] [(.int (0 : Int32)), (.int (v1 &&& (255 : Int32)))]) _
    refine XS.ishl X105.here hx rfl (hb hby d52_5_45) rfl ?_
    refine XS.aloadN X105.here hx rfl (hb hby d52_5_46) rfl rfl ?_
    refine XS.iloadN X105.here hx rfl (hb hby d52_5_47) rfl ?_
    show SS pP eE bS T105 (mkF mM 48 #[.val (.ref a), .val (.int j2)] [(.int j2), (.ref a), (.int ((v1 &&& (255 : Int32)) <<< ((0 : Int32) &&& 31)))]) _
    refine X105.baloadBytes hx (j := j2) (v := (.int v2)) (by rw [e105]; exact Ar106.1) (State.isArrayOf_alike hZ.alike Ar106.2.1) Ar106.2.2 hin106 hat106 (g := (mkF mM 48 #[.val (.ref a), .val (.int j2)] [(.int j2), (.ref a), (.int ((v1 &&& (255 : Int32)) <<< ((0 : Int32) &&& 31)))])) rfl rfl (hb hby d52_5_48) _ ?_
    show SS pP eE bS T105 (mkF mM 49 #[.val (.ref a), .val (.int j2)] [(.int v2), (.int ((v1 &&& (255 : Int32)) <<< ((0 : Int32) &&& 31)))]) _
    refine XS.sipush X105.here hx rfl (hb hby d52_5_49) ?_
    refine XS.iand X105.here hx rfl (hb hby d52_5_52) rfl ?_
    show SS pP eE bS T105 (mkF mM 53 #[.val (.ref a), .val (.int j2)] [(.int (v2 &&& (255 : Int32))), (.int ((v1 &&& (255 : Int32)) <<< ((0 : Int32) &&& 31)))]) _
    refine st108 _ ?_
    show SS pP eE bS T108 (mkF mM 56 #[.val (.ref a), .val (.int j2)] [(.int (8 : Int32)), (.int (v2 &&& (255 : Int32))), (.int ((v1 &&& (255 : Int32)) <<< ((0 : Int32) &&& 31)))]) _
    refine XS.ishl X108.here hx rfl (hb hby d52_5_56) rfl ?_
    refine XS.ior X108.here hx rfl (hb hby d52_5_57) rfl ?_
    refine XS.i2c X108.here hx rfl (hb hby d52_5_58) rfl ?_
    show SS pP eE bS T108 (mkF mM 59 #[.val (.ref a), .val (.int j2)] [(.int ((((v1 &&& (255 : Int32)) <<< ((0 : Int32) &&& 31)) ||| ((v2 &&& (255 : Int32)) <<< ((8 : Int32) &&& 31))).toUInt32.toUInt16.toUInt32.toInt32))]) _
    rw [show ((((v1 &&& (255 : Int32)) <<< ((0 : Int32) &&& 31)) ||| ((v2 &&& (255 : Int32)) <<< ((8 : Int32) &&& 31))).toUInt32.toUInt16.toUInt32.toInt32) = c from hc]
    show SS pP eE bS T108 (mkF mM 59 #[.val (.ref a), .val (.int j2)] [(.int c)]) _
    exact retN X108 hx (t := .char) Bd.returns (by simp) (hb hby d52_5_59) hr
  · show Q_getCharG Z c h0 n0 _ T108.heap _
    rw [e108]
    exact ⟨own_retch hch, N0, rfl⟩
theorem rm_getCharG (l : Launch) (Z : State) (a0 : Array Value) (hw : HW a0 Z) (ws : List Jvm.Cond) (a : Addr) (k : ClassId) (z : Int32) (vs : List Value) (i : Int32) (c : Int32) (h0 : Heap) (n0 : Nat) (Z0 : n0 ≤ h0.size) (V_a : Arv Z h0 a k .byte z vs (.int (0 : Int32))) (OL : Old Z n0 h0) (S__assertionsDisabled : Sta Z Z.heap "java/lang/StringUTF16" "$assertionsDisabled" "Z" (.int (1 : Int32))) (S_HI_BYTE_SHIFT : Sta Z Z.heap "java/lang/StringUTF16" "HI_BYTE_SHIFT" "I" (.int (0 : Int32))) (S_LO_BYTE_SHIFT : Sta Z Z.heap "java/lang/StringUTF16" "LO_BYTE_SHIFT" "I" (.int (8 : Int32))) (hg : GCp z vs i c) :
    MetFree l y0_ (head1 (Jvm.Cond.code y0_ jdk_52_method_5_code 2 (some .char) :: ws) r0_0_0_0) (fun xa xU => xa = #[(.ref a), (.int i)] ∧ Z.Warmed39 xU.vm ∧ xU.heap = h0) (fun _ _ _ _ _ => True) (fun _ xU xo xU' => ∃ xv xL, xo = .returned xv ∧ Q_getCharG Z c h0 n0 xv xU'.heap xL ∧ FrameEnd xU xo xU' xL r0_0_0_0.cells r0_0_0_0.slots) := by
  obtain ⟨hch, j1, j2, v1, v2, hj1, hj2, h1a, h1b, h2a, h2b, e1, e2, hc⟩ := hg
  exact rm_getChar l Z a0 hw ws a k z vs i j1 j2 v1 v2 c h0 n0 Z0 V_a OL S__assertionsDisabled S_HI_BYTE_SHIFT S_LO_BYTE_SHIFT hj1 hj2 h1a h1b h2a h2b e1 e2 hc hch
abbrev c52_4 := jdk_52_method_4_code
theorem d52_4_0 : decode c52_4 0 = .ok (.getstatic 44, 3) := by decide +kernel
theorem d52_4_3 : decode c52_4 3 = .ok (.ifCond .ne 25, 3) := by decide +kernel
theorem d52_4_28 : decode c52_4 28 = .ok (.iload_n 1, 1) := by decide +kernel
theorem d52_4_29 : decode c52_4 29 = .ok (.iconst 1, 1) := by decide +kernel
theorem d52_4_30 : decode c52_4 30 = .ok (.ishl, 1) := by decide +kernel
theorem d52_4_31 : decode c52_4 31 = .ok (.istore_n 1, 1) := by decide +kernel
theorem d52_4_32 : decode c52_4 32 = .ok (.aload_n 0, 1) := by decide +kernel
theorem d52_4_33 : decode c52_4 33 = .ok (.iload_n 1, 1) := by decide +kernel
theorem d52_4_34 : decode c52_4 34 = .ok (.iinc 1 1, 3) := by decide +kernel
theorem d52_4_37 : decode c52_4 37 = .ok (.iload_n 2, 1) := by decide +kernel
theorem d52_4_38 : decode c52_4 38 = .ok (.getstatic 59, 3) := by decide +kernel
theorem d52_4_41 : decode c52_4 41 = .ok (.ishr, 1) := by decide +kernel
theorem d52_4_42 : decode c52_4 42 = .ok (.i2b, 1) := by decide +kernel
theorem d52_4_43 : decode c52_4 43 = .ok (.bastore, 1) := by decide +kernel
theorem d52_4_44 : decode c52_4 44 = .ok (.aload_n 0, 1) := by decide +kernel
theorem d52_4_45 : decode c52_4 45 = .ok (.iload_n 1, 1) := by decide +kernel
theorem d52_4_46 : decode c52_4 46 = .ok (.iload_n 2, 1) := by decide +kernel
theorem d52_4_47 : decode c52_4 47 = .ok (.getstatic 63, 3) := by decide +kernel
theorem d52_4_50 : decode c52_4 50 = .ok (.ishr, 1) := by decide +kernel
theorem d52_4_51 : decode c52_4 51 = .ok (.i2b, 1) := by decide +kernel
theorem d52_4_52 : decode c52_4 52 = .ok (.bastore, 1) := by decide +kernel
theorem d52_4_53 : decode c52_4 53 = .ok (.return_, 1) := by decide +kernel
abbrev y1_ : MethodName := ⟨"java/lang/StringUTF16", "putChar", "([BII)V"⟩
def Q_putChar0 (Z : State) (a : Addr) (k : ClassId) (c : Int32) (u0 : Value) (u1 : Value) (u2 : Value) (u3 : Value) (u4 : Value) (u5 : Value) (u6 : Value) (u7 : Value) (h0 : Heap) (n0 : Nat) (xv : Option Value) (xh : Heap) (xL : List Loc) : Prop := xv = none ∧ Fr n0 xL ∧ Keep h0 xh [a] ∧ Arv Z xh a k .byte (8 : Int32) [(.int c.toInt8.toInt32), (.int (c >>> ((8 : Int32) &&& 31)).toInt8.toInt32), u2, u3, u4, u5, u6, u7] (.int (0 : Int32))
theorem ef_putChar0 (mM : MethodId) (a : Addr) (k : ClassId) (c : Int32) (u0 : Value) (u1 : Value) (u2 : Value) (u3 : Value) (u4 : Value) (u5 : Value) (u6 : Value) (u7 : Value) : entryFrame mM #[(.ref a), (.int (0 : Int32)), (.int c)] 3 = mkF mM 0 #[.val (.ref a), .val (.int (0 : Int32)), .val (.int c)] [] := by
  first | (simp [entryFrame, mkF, argsToLocals, Value.category]; done) | rfl
theorem rm_putChar0 (l : Launch) (Z : State) (a0 : Array Value) (hw : HW a0 Z) (ws : List Jvm.Cond) (a : Addr) (k : ClassId) (c : Int32) (u0 : Value) (u1 : Value) (u2 : Value) (u3 : Value) (u4 : Value) (u5 : Value) (u6 : Value) (u7 : Value) (h0 : Heap) (n0 : Nat) (Z0 : n0 ≤ h0.size) (V_a : Arv Z h0 a k .byte (8 : Int32) [u0, u1, u2, u3, u4, u5, u6, u7] (.int (0 : Int32))) (g_a : @LE.le Nat _ n0 a) (OL : Old Z n0 h0) (S__assertionsDisabled : Sta Z Z.heap "java/lang/StringUTF16" "$assertionsDisabled" "Z" (.int (1 : Int32))) (S_HI_BYTE_SHIFT : Sta Z Z.heap "java/lang/StringUTF16" "HI_BYTE_SHIFT" "I" (.int (0 : Int32))) (S_LO_BYTE_SHIFT : Sta Z Z.heap "java/lang/StringUTF16" "LO_BYTE_SHIFT" "I" (.int (8 : Int32))) :
    MetFree l y1_ (head1 (Jvm.Cond.code y1_ jdk_52_method_4_code 3 none :: ws) r0_0_0_0) (fun xa xU => xa = #[(.ref a), (.int (0 : Int32)), (.int c)] ∧ Z.Warmed39 xU.vm ∧ xU.heap = h0) (fun _ _ _ _ _ => True) (fun _ xU xo xU' => ∃ xv xL, xo = .returned xv ∧ Q_putChar0 Z a k c u0 u1 u2 u3 u4 u5 u6 u7 h0 n0 xv xU'.heap xL ∧ FrameEnd xU xo xU' xL r0_0_0_0.cells r0_0_0_0.slots) := by
  refine MetFree.of_bodySF (plainFor_of_name pn_java_lang_StringUTF16) hisR ?_
  intro pP eE sS mM argS bS methS cC s₁ Bd hml0 hP hK
  obtain ⟨rfl, hZ, hh⟩ := hP
  have hx := Bd.exec
  have hby := Bd.bytes
  have hml : cC.maxLocals = 3 := hml0
  have hown : sS.vm.findClass "java/lang/StringUTF16" = some mM.cls := findClass_of_methodNamed Bd.named
  have hnm := (name_of_methodNamed Bd.named Bd.method).1
  have X0 : Stand pP l eE r0_0_0_0 sS mM #[(.ref a), (.int (0 : Int32)), (.int c)] bS methS cC s₁ [] 0 0 := Stand.of_body Bd
  have e0 : s₁.heap = h0 := by rw [← hh, Bd.state]; rfl
  have N0 := Fr.nil n0
  have c101_S__assertionsDisabled : Sta Z h0 "java/lang/StringUTF16" "$assertionsDisabled" "Z" (.int (1 : Int32)) := Sta.ext OL.2 S__assertionsDisabled
  obtain ⟨T102, X102, e102, st102⟩ := getS2 X0 hx hZ hown (host := "") (Or.inl (wi hw 137 rfl)) Via.refl e0 c101_S__assertionsDisabled (g := (mkF mM 0 #[.val (.ref a), .val (.int (0 : Int32)), .val (.int c)] [])) rfl (hb hby d52_4_0)
  have c103_S_HI_BYTE_SHIFT : Sta Z h0 "java/lang/StringUTF16" "HI_BYTE_SHIFT" "I" (.int (0 : Int32)) := Sta.ext OL.2 S_HI_BYTE_SHIFT
  obtain ⟨T104, X104, e104, st104⟩ := getS2 X102 hx hZ hown (host := "") (Or.inl (wi hw 138 rfl)) Via.refl e102 c103_S_HI_BYTE_SHIFT (g := (mkF mM 38 #[.val (.ref a), .val (.int (1 : Int32)), .val (.int c)] [(.int c), (.int (0 : Int32)), (.ref a)])) rfl (hb hby d52_4_38)
  obtain ⟨cl105, Ar105, q105, S105, Ng105, Ha105, Ga105⟩ := id V_a
  have hin105 : ¬ ((0 : Int32) < 0 ∨ cl105.slots.size ≤ ((0 : Int32)).toNatClampNeg) := inb_of S105 ⟨by decide, by decide⟩
  obtain ⟨T106, h106, X106, e106, W106, st106⟩ := stB X104 hx hZ e104 Ar105 (j := (0 : Int32)) hin105 (g := (mkF mM 43 #[.val (.ref a), .val (.int (1 : Int32)), .val (.int c)] [(.int (c.toInt8.toInt32)), (.int (0 : Int32)), (.ref a)])) rfl rfl (hb hby d52_4_43)
  have Sz1 : h0.size ≤ h106.size := Nat.le_of_eq (Wr.size W106).symm
  have Vs106 := Arv.set Ar105 q105 S105 Ng105 Ha105 Ga105 (fits_nar_byte _) W106 0 rfl (Nat.le_of_ble_eq_true rfl)
  have Vt106 : Arv Z h106 a k .byte (8 : Int32) [(.int c.toInt8.toInt32), u1, u2, u3, u4, u5, u6, u7] (.int (0 : Int32)) := by
    have q : Arv Z h106 a k .byte (8 : Int32) [(.int (c.toInt8.toInt32).toInt8.toInt32), u1, u2, u3, u4, u5, u6, u7] (.int (0 : Int32)) := Vs106
    rw [show ((.int (c.toInt8.toInt32).toInt8.toInt32) : Value) = (.int c.toInt8.toInt32) from congrArg Value.int (own_b8 c)] at q
    exact q
  have N106 := Fr.snoc X106 N0 g_a
  have c107_OL : Old Z n0 h106 := OL.wr W106 g_a
  have c108_S_LO_BYTE_SHIFT : Sta Z h106 "java/lang/StringUTF16" "LO_BYTE_SHIFT" "I" (.int (8 : Int32)) := Sta.ext c107_OL.2 S_LO_BYTE_SHIFT
  obtain ⟨T109, X109, e109, st109⟩ := getS2 X106 hx hZ hown (host := "") (Or.inl (wi hw 139 rfl)) Via.refl e106 c108_S_LO_BYTE_SHIFT (g := (mkF mM 47 #[.val (.ref a), .val (.int (1 : Int32)), .val (.int c)] [(.int c), (.int (1 : Int32)), (.ref a)])) rfl (hb hby d52_4_47)
  obtain ⟨cl110, Ar110, q110, S110, Ng110, Ha110, Ga110⟩ := id Vt106
  have hin110 : ¬ ((1 : Int32) < 0 ∨ cl110.slots.size ≤ ((1 : Int32)).toNatClampNeg) := inb_of S110 ⟨by decide, by decide⟩
  obtain ⟨T111, h111, X111, e111, W111, st111⟩ := stB X109 hx hZ e109 Ar110 (j := (1 : Int32)) hin110 (g := (mkF mM 52 #[.val (.ref a), .val (.int (1 : Int32)), .val (.int c)] [(.int ((c >>> ((8 : Int32) &&& 31)).toInt8.toInt32)), (.int (1 : Int32)), (.ref a)])) rfl rfl (hb hby d52_4_52)
  have Sz2 : h106.size ≤ h111.size := Nat.le_of_eq (Wr.size W111).symm
  have Vs111 := Arv.set Ar110 q110 S110 Ng110 Ha110 Ga110 (fits_nar_byte _) W111 1 rfl (Nat.le_of_ble_eq_true rfl)
  have Vt111 : Arv Z h111 a k .byte (8 : Int32) [(.int c.toInt8.toInt32), (.int (c >>> ((8 : Int32) &&& 31)).toInt8.toInt32), u2, u3, u4, u5, u6, u7] (.int (0 : Int32)) := by
    have q : Arv Z h111 a k .byte (8 : Int32) [(.int c.toInt8.toInt32), (.int ((c >>> ((8 : Int32) &&& 31)).toInt8.toInt32).toInt8.toInt32), u2, u3, u4, u5, u6, u7] (.int (0 : Int32)) := Vs111
    rw [show ((.int ((c >>> ((8 : Int32) &&& 31)).toInt8.toInt32).toInt8.toInt32) : Value) = (.int (c >>> ((8 : Int32) &&& 31)).toInt8.toInt32) from congrArg Value.int (own_b8 (c >>> ((8 : Int32) &&& 31)))] at q
    exact q
  have N111 := Fr.snoc X111 N106 g_a
  have K112 : Keep h0 h106 [a] := (Keep.refl h0 [a]).wr W106 (Or.inl (List.mem_of_getElem? (i := 0) rfl))
  have K113 : Keep h0 h111 [a] := K112.wr W111 (Or.inl (List.mem_of_getElem? (i := 0) rfl))
  obtain ⟨fs, hr, hrun, hended, hW, hsame⟩ := X111.leave (v := none) (fun _ => rfl)
  refine ⟨_, _, castTop (ef_putChar0 mM a k c u0 u1 u2 u3 u4 u5 u6 u7) ?_, hrun, hended, _, _, rfl, ?_, ⟨_, rfl⟩, hW, hsame.mono (by decide) (by decide)⟩
  · show SS pP eE bS s₁ (mkF mM 0 #[.val (.ref a), .val (.int (0 : Int32)), .val (.int c)] []) _
    refine st102 _ ?_
    show SS pP eE bS T102 (mkF mM 3 #[.val (.ref a), .val (.int (0 : Int32)), .val (.int c)] [(.int (1 : Int32))]) _
    refine XS.ifYes X102.here hx rfl (pc0 := 3) (pc' := 28) rfl (hb hby d52_4_3) rfl ((if0 _ _).trans (feq (by decide : ¬ ((1 : Int32) = (0 : Int32)))).2) (by decide) (by decide) ?_
    refine XS.iloadN X102.here hx rfl (hb hby d52_4_28) rfl ?_
    refine XS.iconst X102.here hx rfl (hb hby d52_4_29) ?_
    refine XS.ishl X102.here hx rfl (hb hby d52_4_30) rfl ?_
    show SS pP eE bS T102 (mkF mM 31 #[.val (.ref a), .val (.int (0 : Int32)), .val (.int c)] [(.int (0 : Int32))]) _
    refine XS.istoreN X102.here hx rfl (hb hby d52_4_31) rfl (l' := #[.val (.ref a), .val (.int (0 : Int32)), .val (.int c)]) rfl ?_
    refine XS.aloadN X102.here hx rfl (hb hby d52_4_32) rfl rfl ?_
    refine XS.iloadN X102.here hx rfl (hb hby d52_4_33) rfl ?_
    refine XS.iinc X102.here hx rfl (hb hby d52_4_34) rfl (l' := #[.val (.ref a), .val (.int (1 : Int32)), .val (.int c)]) rfl ?_
    show SS pP eE bS T102 (mkF mM 37 #[.val (.ref a), .val (.int (1 : Int32)), .val (.int c)] [(.int (0 : Int32)), (.ref a)]) _
    refine XS.iloadN X102.here hx rfl (hb hby d52_4_37) rfl ?_
    show SS pP eE bS T102 (mkF mM 38 #[.val (.ref a), .val (.int (1 : Int32)), .val (.int c)] [(.int c), (.int (0 : Int32)), (.ref a)]) _
    refine st104 _ ?_
    show SS pP eE bS T104 (mkF mM 41 #[.val (.ref a), .val (.int (1 : Int32)), .val (.int c)] [(.int (0 : Int32)), (.int c), (.int (0 : Int32)), (.ref a)]) _
    refine XS.ishr X104.here hx rfl (hb hby d52_4_41) rfl ?_
    show SS pP eE bS T104 (mkF mM 42 #[.val (.ref a), .val (.int (1 : Int32)), .val (.int c)] [(.int (c >>> ((0 : Int32) &&& 31))), (.int (0 : Int32)), (.ref a)]) _
    rw [show (c >>> ((0 : Int32) &&& 31)) = c from shr0 c]
    refine XS.i2b X104.here hx rfl (hb hby d52_4_42) rfl ?_
    show SS pP eE bS T104 (mkF mM 43 #[.val (.ref a), .val (.int (1 : Int32)), .val (.int c)] [(.int (c.toInt8.toInt32)), (.int (0 : Int32)), (.ref a)]) _
    refine st106 _ ?_
    show SS pP eE bS T106 (mkF mM 44 #[.val (.ref a), .val (.int (1 : Int32)), .val (.int c)] []) _
    refine XS.aloadN X106.here hx rfl (hb hby d52_4_44) rfl rfl ?_
    refine XS.iloadN X106.here hx rfl (hb hby d52_4_45) rfl ?_
    refine XS.iloadN X106.here hx rfl (hb hby d52_4_46) rfl ?_
    show SS pP eE bS T106 (mkF mM 47 #[.val (.ref a), .val (.int (1 : Int32)), .val (.int c)] [(.int c), (.int (1 : Int32)), (.ref a)]) _
    refine st109 _ ?_
    show SS pP eE bS T109 (mkF mM 50 #[.val (.ref a), .val (.int (1 : Int32)), .val (.int c)] [(.int (8 : Int32)), (.int c), (.int (1 : Int32)), (.ref a)]) _
    refine XS.ishr X109.here hx rfl (hb hby d52_4_50) rfl ?_
    refine XS.i2b X109.here hx rfl (hb hby d52_4_51) rfl ?_
    show SS pP eE bS T109 (mkF mM 52 #[.val (.ref a), .val (.int (1 : Int32)), .val (.int c)] [(.int ((c >>> ((8 : Int32) &&& 31)).toInt8.toInt32)), (.int (1 : Int32)), (.ref a)]) _
    refine st111 _ ?_
    show SS pP eE bS T111 (mkF mM 53 #[.val (.ref a), .val (.int (1 : Int32)), .val (.int c)] []) _
    exact X111.returnOut hx Bd.returns (hb hby d52_4_53) hr
  · show Q_putChar0 Z a k c u0 u1 u2 u3 u4 u5 u6 u7 h0 n0 _ T111.heap _
    rw [e111]
    exact ⟨rfl, N111, K113, Vt111⟩
def Q_putChar1 (Z : State) (a : Addr) (k : ClassId) (c : Int32) (u0 : Value) (u1 : Value) (u2 : Value) (u3 : Value) (u4 : Value) (u5 : Value) (u6 : Value) (u7 : Value) (h0 : Heap) (n0 : Nat) (xv : Option Value) (xh : Heap) (xL : List Loc) : Prop := xv = none ∧ Fr n0 xL ∧ Keep h0 xh [a] ∧ Arv Z xh a k .byte (8 : Int32) [u0, u1, (.int c.toInt8.toInt32), (.int (c >>> ((8 : Int32) &&& 31)).toInt8.toInt32), u4, u5, u6, u7] (.int (0 : Int32))
theorem ef_putChar1 (mM : MethodId) (a : Addr) (k : ClassId) (c : Int32) (u0 : Value) (u1 : Value) (u2 : Value) (u3 : Value) (u4 : Value) (u5 : Value) (u6 : Value) (u7 : Value) : entryFrame mM #[(.ref a), (.int (1 : Int32)), (.int c)] 3 = mkF mM 0 #[.val (.ref a), .val (.int (1 : Int32)), .val (.int c)] [] := by
  first | (simp [entryFrame, mkF, argsToLocals, Value.category]; done) | rfl
theorem rm_putChar1 (l : Launch) (Z : State) (a0 : Array Value) (hw : HW a0 Z) (ws : List Jvm.Cond) (a : Addr) (k : ClassId) (c : Int32) (u0 : Value) (u1 : Value) (u2 : Value) (u3 : Value) (u4 : Value) (u5 : Value) (u6 : Value) (u7 : Value) (h0 : Heap) (n0 : Nat) (Z0 : n0 ≤ h0.size) (V_a : Arv Z h0 a k .byte (8 : Int32) [u0, u1, u2, u3, u4, u5, u6, u7] (.int (0 : Int32))) (g_a : @LE.le Nat _ n0 a) (OL : Old Z n0 h0) (S__assertionsDisabled : Sta Z Z.heap "java/lang/StringUTF16" "$assertionsDisabled" "Z" (.int (1 : Int32))) (S_HI_BYTE_SHIFT : Sta Z Z.heap "java/lang/StringUTF16" "HI_BYTE_SHIFT" "I" (.int (0 : Int32))) (S_LO_BYTE_SHIFT : Sta Z Z.heap "java/lang/StringUTF16" "LO_BYTE_SHIFT" "I" (.int (8 : Int32))) :
    MetFree l y1_ (head1 (Jvm.Cond.code y1_ jdk_52_method_4_code 3 none :: ws) r0_0_0_0) (fun xa xU => xa = #[(.ref a), (.int (1 : Int32)), (.int c)] ∧ Z.Warmed39 xU.vm ∧ xU.heap = h0) (fun _ _ _ _ _ => True) (fun _ xU xo xU' => ∃ xv xL, xo = .returned xv ∧ Q_putChar1 Z a k c u0 u1 u2 u3 u4 u5 u6 u7 h0 n0 xv xU'.heap xL ∧ FrameEnd xU xo xU' xL r0_0_0_0.cells r0_0_0_0.slots) := by
  refine MetFree.of_bodySF (plainFor_of_name pn_java_lang_StringUTF16) hisR ?_
  intro pP eE sS mM argS bS methS cC s₁ Bd hml0 hP hK
  obtain ⟨rfl, hZ, hh⟩ := hP
  have hx := Bd.exec
  have hby := Bd.bytes
  have hml : cC.maxLocals = 3 := hml0
  have hown : sS.vm.findClass "java/lang/StringUTF16" = some mM.cls := findClass_of_methodNamed Bd.named
  have hnm := (name_of_methodNamed Bd.named Bd.method).1
  have X0 : Stand pP l eE r0_0_0_0 sS mM #[(.ref a), (.int (1 : Int32)), (.int c)] bS methS cC s₁ [] 0 0 := Stand.of_body Bd
  have e0 : s₁.heap = h0 := by rw [← hh, Bd.state]; rfl
  have N0 := Fr.nil n0
  have c101_S__assertionsDisabled : Sta Z h0 "java/lang/StringUTF16" "$assertionsDisabled" "Z" (.int (1 : Int32)) := Sta.ext OL.2 S__assertionsDisabled
  obtain ⟨T102, X102, e102, st102⟩ := getS2 X0 hx hZ hown (host := "") (Or.inl (wi hw 137 rfl)) Via.refl e0 c101_S__assertionsDisabled (g := (mkF mM 0 #[.val (.ref a), .val (.int (1 : Int32)), .val (.int c)] [])) rfl (hb hby d52_4_0)
  have c103_S_HI_BYTE_SHIFT : Sta Z h0 "java/lang/StringUTF16" "HI_BYTE_SHIFT" "I" (.int (0 : Int32)) := Sta.ext OL.2 S_HI_BYTE_SHIFT
  obtain ⟨T104, X104, e104, st104⟩ := getS2 X102 hx hZ hown (host := "") (Or.inl (wi hw 138 rfl)) Via.refl e102 c103_S_HI_BYTE_SHIFT (g := (mkF mM 38 #[.val (.ref a), .val (.int (3 : Int32)), .val (.int c)] [(.int c), (.int (2 : Int32)), (.ref a)])) rfl (hb hby d52_4_38)
  obtain ⟨cl105, Ar105, q105, S105, Ng105, Ha105, Ga105⟩ := id V_a
  have hin105 : ¬ ((2 : Int32) < 0 ∨ cl105.slots.size ≤ ((2 : Int32)).toNatClampNeg) := inb_of S105 ⟨by decide, by decide⟩
  obtain ⟨T106, h106, X106, e106, W106, st106⟩ := stB X104 hx hZ e104 Ar105 (j := (2 : Int32)) hin105 (g := (mkF mM 43 #[.val (.ref a), .val (.int (3 : Int32)), .val (.int c)] [(.int (c.toInt8.toInt32)), (.int (2 : Int32)), (.ref a)])) rfl rfl (hb hby d52_4_43)
  have Sz1 : h0.size ≤ h106.size := Nat.le_of_eq (Wr.size W106).symm
  have Vs106 := Arv.set Ar105 q105 S105 Ng105 Ha105 Ga105 (fits_nar_byte _) W106 2 rfl (Nat.le_of_ble_eq_true rfl)
  have Vt106 : Arv Z h106 a k .byte (8 : Int32) [u0, u1, (.int c.toInt8.toInt32), u3, u4, u5, u6, u7] (.int (0 : Int32)) := by
    have q : Arv Z h106 a k .byte (8 : Int32) [u0, u1, (.int (c.toInt8.toInt32).toInt8.toInt32), u3, u4, u5, u6, u7] (.int (0 : Int32)) := Vs106
    rw [show ((.int (c.toInt8.toInt32).toInt8.toInt32) : Value) = (.int c.toInt8.toInt32) from congrArg Value.int (own_b8 c)] at q
    exact q
  have N106 := Fr.snoc X106 N0 g_a
  have c107_OL : Old Z n0 h106 := OL.wr W106 g_a
  have c108_S_LO_BYTE_SHIFT : Sta Z h106 "java/lang/StringUTF16" "LO_BYTE_SHIFT" "I" (.int (8 : Int32)) := Sta.ext c107_OL.2 S_LO_BYTE_SHIFT
  obtain ⟨T109, X109, e109, st109⟩ := getS2 X106 hx hZ hown (host := "") (Or.inl (wi hw 139 rfl)) Via.refl e106 c108_S_LO_BYTE_SHIFT (g := (mkF mM 47 #[.val (.ref a), .val (.int (3 : Int32)), .val (.int c)] [(.int c), (.int (3 : Int32)), (.ref a)])) rfl (hb hby d52_4_47)
  obtain ⟨cl110, Ar110, q110, S110, Ng110, Ha110, Ga110⟩ := id Vt106
  have hin110 : ¬ ((3 : Int32) < 0 ∨ cl110.slots.size ≤ ((3 : Int32)).toNatClampNeg) := inb_of S110 ⟨by decide, by decide⟩
  obtain ⟨T111, h111, X111, e111, W111, st111⟩ := stB X109 hx hZ e109 Ar110 (j := (3 : Int32)) hin110 (g := (mkF mM 52 #[.val (.ref a), .val (.int (3 : Int32)), .val (.int c)] [(.int ((c >>> ((8 : Int32) &&& 31)).toInt8.toInt32)), (.int (3 : Int32)), (.ref a)])) rfl rfl (hb hby d52_4_52)
  have Sz2 : h106.size ≤ h111.size := Nat.le_of_eq (Wr.size W111).symm
  have Vs111 := Arv.set Ar110 q110 S110 Ng110 Ha110 Ga110 (fits_nar_byte _) W111 3 rfl (Nat.le_of_ble_eq_true rfl)
  have Vt111 : Arv Z h111 a k .byte (8 : Int32) [u0, u1, (.int c.toInt8.toInt32), (.int (c >>> ((8 : Int32) &&& 31)).toInt8.toInt32), u4, u5, u6, u7] (.int (0 : Int32)) := by
    have q : Arv Z h111 a k .byte (8 : Int32) [u0, u1, (.int c.toInt8.toInt32), (.int ((c >>> ((8 : Int32) &&& 31)).toInt8.toInt32).toInt8.toInt32), u4, u5, u6, u7] (.int (0 : Int32)) := Vs111
    rw [show ((.int ((c >>> ((8 : Int32) &&& 31)).toInt8.toInt32).toInt8.toInt32) : Value) = (.int (c >>> ((8 : Int32) &&& 31)).toInt8.toInt32) from congrArg Value.int (own_b8 (c >>> ((8 : Int32) &&& 31)))] at q
    exact q
  have N111 := Fr.snoc X111 N106 g_a
  have K112 : Keep h0 h106 [a] := (Keep.refl h0 [a]).wr W106 (Or.inl (List.mem_of_getElem? (i := 0) rfl))
  have K113 : Keep h0 h111 [a] := K112.wr W111 (Or.inl (List.mem_of_getElem? (i := 0) rfl))
  obtain ⟨fs, hr, hrun, hended, hW, hsame⟩ := X111.leave (v := none) (fun _ => rfl)
  refine ⟨_, _, castTop (ef_putChar1 mM a k c u0 u1 u2 u3 u4 u5 u6 u7) ?_, hrun, hended, _, _, rfl, ?_, ⟨_, rfl⟩, hW, hsame.mono (by decide) (by decide)⟩
  · show SS pP eE bS s₁ (mkF mM 0 #[.val (.ref a), .val (.int (1 : Int32)), .val (.int c)] []) _
    refine st102 _ ?_
    show SS pP eE bS T102 (mkF mM 3 #[.val (.ref a), .val (.int (1 : Int32)), .val (.int c)] [(.int (1 : Int32))]) _
    refine XS.ifYes X102.here hx rfl (pc0 := 3) (pc' := 28) rfl (hb hby d52_4_3) rfl ((if0 _ _).trans (feq (by decide : ¬ ((1 : Int32) = (0 : Int32)))).2) (by decide) (by decide) ?_
    refine XS.iloadN X102.here hx rfl (hb hby d52_4_28) rfl ?_
    refine XS.iconst X102.here hx rfl (hb hby d52_4_29) ?_
    refine XS.ishl X102.here hx rfl (hb hby d52_4_30) rfl ?_
    show SS pP eE bS T102 (mkF mM 31 #[.val (.ref a), .val (.int (1 : Int32)), .val (.int c)] [(.int (2 : Int32))]) _
    refine XS.istoreN X102.here hx rfl (hb hby d52_4_31) rfl (l' := #[.val (.ref a), .val (.int (2 : Int32)), .val (.int c)]) rfl ?_
    refine XS.aloadN X102.here hx rfl (hb hby d52_4_32) rfl rfl ?_
    refine XS.iloadN X102.here hx rfl (hb hby d52_4_33) rfl ?_
    refine XS.iinc X102.here hx rfl (hb hby d52_4_34) rfl (l' := #[.val (.ref a), .val (.int (3 : Int32)), .val (.int c)]) rfl ?_
    show SS pP eE bS T102 (mkF mM 37 #[.val (.ref a), .val (.int (3 : Int32)), .val (.int c)] [(.int (2 : Int32)), (.ref a)]) _
    refine XS.iloadN X102.here hx rfl (hb hby d52_4_37) rfl ?_
    show SS pP eE bS T102 (mkF mM 38 #[.val (.ref a), .val (.int (3 : Int32)), .val (.int c)] [(.int c), (.int (2 : Int32)), (.ref a)]) _
    refine st104 _ ?_
    show SS pP eE bS T104 (mkF mM 41 #[.val (.ref a), .val (.int (3 : Int32)), .val (.int c)] [(.int (0 : Int32)), (.int c), (.int (2 : Int32)), (.ref a)]) _
    refine XS.ishr X104.here hx rfl (hb hby d52_4_41) rfl ?_
    show SS pP eE bS T104 (mkF mM 42 #[.val (.ref a), .val (.int (3 : Int32)), .val (.int c)] [(.int (c >>> ((0 : Int32) &&& 31))), (.int (2 : Int32)), (.ref a)]) _
    rw [show (c >>> ((0 : Int32) &&& 31)) = c from shr0 c]
    refine XS.i2b X104.here hx rfl (hb hby d52_4_42) rfl ?_
    show SS pP eE bS T104 (mkF mM 43 #[.val (.ref a), .val (.int (3 : Int32)), .val (.int c)] [(.int (c.toInt8.toInt32)), (.int (2 : Int32)), (.ref a)]) _
    refine st106 _ ?_
    show SS pP eE bS T106 (mkF mM 44 #[.val (.ref a), .val (.int (3 : Int32)), .val (.int c)] []) _
    refine XS.aloadN X106.here hx rfl (hb hby d52_4_44) rfl rfl ?_
    refine XS.iloadN X106.here hx rfl (hb hby d52_4_45) rfl ?_
    refine XS.iloadN X106.here hx rfl (hb hby d52_4_46) rfl ?_
    show SS pP eE bS T106 (mkF mM 47 #[.val (.ref a), .val (.int (3 : Int32)), .val (.int c)] [(.int c), (.int (3 : Int32)), (.ref a)]) _
    refine st109 _ ?_
    show SS pP eE bS T109 (mkF mM 50 #[.val (.ref a), .val (.int (3 : Int32)), .val (.int c)] [(.int (8 : Int32)), (.int c), (.int (3 : Int32)), (.ref a)]) _
    refine XS.ishr X109.here hx rfl (hb hby d52_4_50) rfl ?_
    refine XS.i2b X109.here hx rfl (hb hby d52_4_51) rfl ?_
    show SS pP eE bS T109 (mkF mM 52 #[.val (.ref a), .val (.int (3 : Int32)), .val (.int c)] [(.int ((c >>> ((8 : Int32) &&& 31)).toInt8.toInt32)), (.int (3 : Int32)), (.ref a)]) _
    refine st111 _ ?_
    show SS pP eE bS T111 (mkF mM 53 #[.val (.ref a), .val (.int (3 : Int32)), .val (.int c)] []) _
    exact X111.returnOut hx Bd.returns (hb hby d52_4_53) hr
  · show Q_putChar1 Z a k c u0 u1 u2 u3 u4 u5 u6 u7 h0 n0 _ T111.heap _
    rw [e111]
    exact ⟨rfl, N111, K113, Vt111⟩
def Q_putChar2 (Z : State) (a : Addr) (k : ClassId) (c : Int32) (u0 : Value) (u1 : Value) (u2 : Value) (u3 : Value) (u4 : Value) (u5 : Value) (u6 : Value) (u7 : Value) (h0 : Heap) (n0 : Nat) (xv : Option Value) (xh : Heap) (xL : List Loc) : Prop := xv = none ∧ Fr n0 xL ∧ Keep h0 xh [a] ∧ Arv Z xh a k .byte (8 : Int32) [u0, u1, u2, u3, (.int c.toInt8.toInt32), (.int (c >>> ((8 : Int32) &&& 31)).toInt8.toInt32), u6, u7] (.int (0 : Int32))
theorem ef_putChar2 (mM : MethodId) (a : Addr) (k : ClassId) (c : Int32) (u0 : Value) (u1 : Value) (u2 : Value) (u3 : Value) (u4 : Value) (u5 : Value) (u6 : Value) (u7 : Value) : entryFrame mM #[(.ref a), (.int (2 : Int32)), (.int c)] 3 = mkF mM 0 #[.val (.ref a), .val (.int (2 : Int32)), .val (.int c)] [] := by
  first | (simp [entryFrame, mkF, argsToLocals, Value.category]; done) | rfl
theorem rm_putChar2 (l : Launch) (Z : State) (a0 : Array Value) (hw : HW a0 Z) (ws : List Jvm.Cond) (a : Addr) (k : ClassId) (c : Int32) (u0 : Value) (u1 : Value) (u2 : Value) (u3 : Value) (u4 : Value) (u5 : Value) (u6 : Value) (u7 : Value) (h0 : Heap) (n0 : Nat) (Z0 : n0 ≤ h0.size) (V_a : Arv Z h0 a k .byte (8 : Int32) [u0, u1, u2, u3, u4, u5, u6, u7] (.int (0 : Int32))) (g_a : @LE.le Nat _ n0 a) (OL : Old Z n0 h0) (S__assertionsDisabled : Sta Z Z.heap "java/lang/StringUTF16" "$assertionsDisabled" "Z" (.int (1 : Int32))) (S_HI_BYTE_SHIFT : Sta Z Z.heap "java/lang/StringUTF16" "HI_BYTE_SHIFT" "I" (.int (0 : Int32))) (S_LO_BYTE_SHIFT : Sta Z Z.heap "java/lang/StringUTF16" "LO_BYTE_SHIFT" "I" (.int (8 : Int32))) :
    MetFree l y1_ (head1 (Jvm.Cond.code y1_ jdk_52_method_4_code 3 none :: ws) r0_0_0_0) (fun xa xU => xa = #[(.ref a), (.int (2 : Int32)), (.int c)] ∧ Z.Warmed39 xU.vm ∧ xU.heap = h0) (fun _ _ _ _ _ => True) (fun _ xU xo xU' => ∃ xv xL, xo = .returned xv ∧ Q_putChar2 Z a k c u0 u1 u2 u3 u4 u5 u6 u7 h0 n0 xv xU'.heap xL ∧ FrameEnd xU xo xU' xL r0_0_0_0.cells r0_0_0_0.slots) := by
  refine MetFree.of_bodySF (plainFor_of_name pn_java_lang_StringUTF16) hisR ?_
  intro pP eE sS mM argS bS methS cC s₁ Bd hml0 hP hK
  obtain ⟨rfl, hZ, hh⟩ := hP
  have hx := Bd.exec
  have hby := Bd.bytes
  have hml : cC.maxLocals = 3 := hml0
  have hown : sS.vm.findClass "java/lang/StringUTF16" = some mM.cls := findClass_of_methodNamed Bd.named
  have hnm := (name_of_methodNamed Bd.named Bd.method).1
  have X0 : Stand pP l eE r0_0_0_0 sS mM #[(.ref a), (.int (2 : Int32)), (.int c)] bS methS cC s₁ [] 0 0 := Stand.of_body Bd
  have e0 : s₁.heap = h0 := by rw [← hh, Bd.state]; rfl
  have N0 := Fr.nil n0
  have c101_S__assertionsDisabled : Sta Z h0 "java/lang/StringUTF16" "$assertionsDisabled" "Z" (.int (1 : Int32)) := Sta.ext OL.2 S__assertionsDisabled
  obtain ⟨T102, X102, e102, st102⟩ := getS2 X0 hx hZ hown (host := "") (Or.inl (wi hw 137 rfl)) Via.refl e0 c101_S__assertionsDisabled (g := (mkF mM 0 #[.val (.ref a), .val (.int (2 : Int32)), .val (.int c)] [])) rfl (hb hby d52_4_0)
  have c103_S_HI_BYTE_SHIFT : Sta Z h0 "java/lang/StringUTF16" "HI_BYTE_SHIFT" "I" (.int (0 : Int32)) := Sta.ext OL.2 S_HI_BYTE_SHIFT
  obtain ⟨T104, X104, e104, st104⟩ := getS2 X102 hx hZ hown (host := "") (Or.inl (wi hw 138 rfl)) Via.refl e102 c103_S_HI_BYTE_SHIFT (g := (mkF mM 38 #[.val (.ref a), .val (.int (5 : Int32)), .val (.int c)] [(.int c), (.int (4 : Int32)), (.ref a)])) rfl (hb hby d52_4_38)
  obtain ⟨cl105, Ar105, q105, S105, Ng105, Ha105, Ga105⟩ := id V_a
  have hin105 : ¬ ((4 : Int32) < 0 ∨ cl105.slots.size ≤ ((4 : Int32)).toNatClampNeg) := inb_of S105 ⟨by decide, by decide⟩
  obtain ⟨T106, h106, X106, e106, W106, st106⟩ := stB X104 hx hZ e104 Ar105 (j := (4 : Int32)) hin105 (g := (mkF mM 43 #[.val (.ref a), .val (.int (5 : Int32)), .val (.int c)] [(.int (c.toInt8.toInt32)), (.int (4 : Int32)), (.ref a)])) rfl rfl (hb hby d52_4_43)
  have Sz1 : h0.size ≤ h106.size := Nat.le_of_eq (Wr.size W106).symm
  have Vs106 := Arv.set Ar105 q105 S105 Ng105 Ha105 Ga105 (fits_nar_byte _) W106 4 rfl (Nat.le_of_ble_eq_true rfl)
  have Vt106 : Arv Z h106 a k .byte (8 : Int32) [u0, u1, u2, u3, (.int c.toInt8.toInt32), u5, u6, u7] (.int (0 : Int32)) := by
    have q : Arv Z h106 a k .byte (8 : Int32) [u0, u1, u2, u3, (.int (c.toInt8.toInt32).toInt8.toInt32), u5, u6, u7] (.int (0 : Int32)) := Vs106
    rw [show ((.int (c.toInt8.toInt32).toInt8.toInt32) : Value) = (.int c.toInt8.toInt32) from congrArg Value.int (own_b8 c)] at q
    exact q
  have N106 := Fr.snoc X106 N0 g_a
  have c107_OL : Old Z n0 h106 := OL.wr W106 g_a
  have c108_S_LO_BYTE_SHIFT : Sta Z h106 "java/lang/StringUTF16" "LO_BYTE_SHIFT" "I" (.int (8 : Int32)) := Sta.ext c107_OL.2 S_LO_BYTE_SHIFT
  obtain ⟨T109, X109, e109, st109⟩ := getS2 X106 hx hZ hown (host := "") (Or.inl (wi hw 139 rfl)) Via.refl e106 c108_S_LO_BYTE_SHIFT (g := (mkF mM 47 #[.val (.ref a), .val (.int (5 : Int32)), .val (.int c)] [(.int c), (.int (5 : Int32)), (.ref a)])) rfl (hb hby d52_4_47)
  obtain ⟨cl110, Ar110, q110, S110, Ng110, Ha110, Ga110⟩ := id Vt106
  have hin110 : ¬ ((5 : Int32) < 0 ∨ cl110.slots.size ≤ ((5 : Int32)).toNatClampNeg) := inb_of S110 ⟨by decide, by decide⟩
  obtain ⟨T111, h111, X111, e111, W111, st111⟩ := stB X109 hx hZ e109 Ar110 (j := (5 : Int32)) hin110 (g := (mkF mM 52 #[.val (.ref a), .val (.int (5 : Int32)), .val (.int c)] [(.int ((c >>> ((8 : Int32) &&& 31)).toInt8.toInt32)), (.int (5 : Int32)), (.ref a)])) rfl rfl (hb hby d52_4_52)
  have Sz2 : h106.size ≤ h111.size := Nat.le_of_eq (Wr.size W111).symm
  have Vs111 := Arv.set Ar110 q110 S110 Ng110 Ha110 Ga110 (fits_nar_byte _) W111 5 rfl (Nat.le_of_ble_eq_true rfl)
  have Vt111 : Arv Z h111 a k .byte (8 : Int32) [u0, u1, u2, u3, (.int c.toInt8.toInt32), (.int (c >>> ((8 : Int32) &&& 31)).toInt8.toInt32), u6, u7] (.int (0 : Int32)) := by
    have q : Arv Z h111 a k .byte (8 : Int32) [u0, u1, u2, u3, (.int c.toInt8.toInt32), (.int ((c >>> ((8 : Int32) &&& 31)).toInt8.toInt32).toInt8.toInt32), u6, u7] (.int (0 : Int32)) := Vs111
    rw [show ((.int ((c >>> ((8 : Int32) &&& 31)).toInt8.toInt32).toInt8.toInt32) : Value) = (.int (c >>> ((8 : Int32) &&& 31)).toInt8.toInt32) from congrArg Value.int (own_b8 (c >>> ((8 : Int32) &&& 31)))] at q
    exact q
  have N111 := Fr.snoc X111 N106 g_a
  have K112 : Keep h0 h106 [a] := (Keep.refl h0 [a]).wr W106 (Or.inl (List.mem_of_getElem? (i := 0) rfl))
  have K113 : Keep h0 h111 [a] := K112.wr W111 (Or.inl (List.mem_of_getElem? (i := 0) rfl))
  obtain ⟨fs, hr, hrun, hended, hW, hsame⟩ := X111.leave (v := none) (fun _ => rfl)
  refine ⟨_, _, castTop (ef_putChar2 mM a k c u0 u1 u2 u3 u4 u5 u6 u7) ?_, hrun, hended, _, _, rfl, ?_, ⟨_, rfl⟩, hW, hsame.mono (by decide) (by decide)⟩
  · show SS pP eE bS s₁ (mkF mM 0 #[.val (.ref a), .val (.int (2 : Int32)), .val (.int c)] []) _
    refine st102 _ ?_
    show SS pP eE bS T102 (mkF mM 3 #[.val (.ref a), .val (.int (2 : Int32)), .val (.int c)] [(.int (1 : Int32))]) _
    refine XS.ifYes X102.here hx rfl (pc0 := 3) (pc' := 28) rfl (hb hby d52_4_3) rfl ((if0 _ _).trans (feq (by decide : ¬ ((1 : Int32) = (0 : Int32)))).2) (by decide) (by decide) ?_
    refine XS.iloadN X102.here hx rfl (hb hby d52_4_28) rfl ?_
    refine XS.iconst X102.here hx rfl (hb hby d52_4_29) ?_
    refine XS.ishl X102.here hx rfl (hb hby d52_4_30) rfl ?_
    show SS pP eE bS T102 (mkF mM 31 #[.val (.ref a), .val (.int (2 : Int32)), .val (.int c)] [(.int (4 : Int32))]) _
    refine XS.istoreN X102.here hx rfl (hb hby d52_4_31) rfl (l' := #[.val (.ref a), .val (.int (4 : Int32)), .val (.int c)]) rfl ?_
    refine XS.aloadN X102.here hx rfl (hb hby d52_4_32) rfl rfl ?_
    refine XS.iloadN X102.here hx rfl (hb hby d52_4_33) rfl ?_
    refine XS.iinc X102.here hx rfl (hb hby d52_4_34) rfl (l' := #[.val (.ref a), .val (.int (5 : Int32)), .val (.int c)]) rfl ?_
    show SS pP eE bS T102 (mkF mM 37 #[.val (.ref a), .val (.int (5 : Int32)), .val (.int c)] [(.int (4 : Int32)), (.ref a)]) _
    refine XS.iloadN X102.here hx rfl (hb hby d52_4_37) rfl ?_
    show SS pP eE bS T102 (mkF mM 38 #[.val (.ref a), .val (.int (5 : Int32)), .val (.int c)] [(.int c), (.int (4 : Int32)), (.ref a)]) _
    refine st104 _ ?_
    show SS pP eE bS T104 (mkF mM 41 #[.val (.ref a), .val (.int (5 : Int32)), .val (.int c)] [(.int (0 : Int32)), (.int c), (.int (4 : Int32)), (.ref a)]) _
    refine XS.ishr X104.here hx rfl (hb hby d52_4_41) rfl ?_
    show SS pP eE bS T104 (mkF mM 42 #[.val (.ref a), .val (.int (5 : Int32)), .val (.int c)] [(.int (c >>> ((0 : Int32) &&& 31))), (.int (4 : Int32)), (.ref a)]) _
    rw [show (c >>> ((0 : Int32) &&& 31)) = c from shr0 c]
    refine XS.i2b X104.here hx rfl (hb hby d52_4_42) rfl ?_
    show SS pP eE bS T104 (mkF mM 43 #[.val (.ref a), .val (.int (5 : Int32)), .val (.int c)] [(.int (c.toInt8.toInt32)), (.int (4 : Int32)), (.ref a)]) _
    refine st106 _ ?_
    show SS pP eE bS T106 (mkF mM 44 #[.val (.ref a), .val (.int (5 : Int32)), .val (.int c)] []) _
    refine XS.aloadN X106.here hx rfl (hb hby d52_4_44) rfl rfl ?_
    refine XS.iloadN X106.here hx rfl (hb hby d52_4_45) rfl ?_
    refine XS.iloadN X106.here hx rfl (hb hby d52_4_46) rfl ?_
    show SS pP eE bS T106 (mkF mM 47 #[.val (.ref a), .val (.int (5 : Int32)), .val (.int c)] [(.int c), (.int (5 : Int32)), (.ref a)]) _
    refine st109 _ ?_
    show SS pP eE bS T109 (mkF mM 50 #[.val (.ref a), .val (.int (5 : Int32)), .val (.int c)] [(.int (8 : Int32)), (.int c), (.int (5 : Int32)), (.ref a)]) _
    refine XS.ishr X109.here hx rfl (hb hby d52_4_50) rfl ?_
    refine XS.i2b X109.here hx rfl (hb hby d52_4_51) rfl ?_
    show SS pP eE bS T109 (mkF mM 52 #[.val (.ref a), .val (.int (5 : Int32)), .val (.int c)] [(.int ((c >>> ((8 : Int32) &&& 31)).toInt8.toInt32)), (.int (5 : Int32)), (.ref a)]) _
    refine st111 _ ?_
    show SS pP eE bS T111 (mkF mM 53 #[.val (.ref a), .val (.int (5 : Int32)), .val (.int c)] []) _
    exact X111.returnOut hx Bd.returns (hb hby d52_4_53) hr
  · show Q_putChar2 Z a k c u0 u1 u2 u3 u4 u5 u6 u7 h0 n0 _ T111.heap _
    rw [e111]
    exact ⟨rfl, N111, K113, Vt111⟩
def Q_putChar3 (Z : State) (a : Addr) (k : ClassId) (c : Int32) (u0 : Value) (u1 : Value) (u2 : Value) (u3 : Value) (u4 : Value) (u5 : Value) (u6 : Value) (u7 : Value) (h0 : Heap) (n0 : Nat) (xv : Option Value) (xh : Heap) (xL : List Loc) : Prop := xv = none ∧ Fr n0 xL ∧ Keep h0 xh [a] ∧ Arv Z xh a k .byte (8 : Int32) [u0, u1, u2, u3, u4, u5, (.int c.toInt8.toInt32), (.int (c >>> ((8 : Int32) &&& 31)).toInt8.toInt32)] (.int (0 : Int32))
theorem ef_putChar3 (mM : MethodId) (a : Addr) (k : ClassId) (c : Int32) (u0 : Value) (u1 : Value) (u2 : Value) (u3 : Value) (u4 : Value) (u5 : Value) (u6 : Value) (u7 : Value) : entryFrame mM #[(.ref a), (.int (3 : Int32)), (.int c)] 3 = mkF mM 0 #[.val (.ref a), .val (.int (3 : Int32)), .val (.int c)] [] := by
  first | (simp [entryFrame, mkF, argsToLocals, Value.category]; done) | rfl
theorem rm_putChar3 (l : Launch) (Z : State) (a0 : Array Value) (hw : HW a0 Z) (ws : List Jvm.Cond) (a : Addr) (k : ClassId) (c : Int32) (u0 : Value) (u1 : Value) (u2 : Value) (u3 : Value) (u4 : Value) (u5 : Value) (u6 : Value) (u7 : Value) (h0 : Heap) (n0 : Nat) (Z0 : n0 ≤ h0.size) (V_a : Arv Z h0 a k .byte (8 : Int32) [u0, u1, u2, u3, u4, u5, u6, u7] (.int (0 : Int32))) (g_a : @LE.le Nat _ n0 a) (OL : Old Z n0 h0) (S__assertionsDisabled : Sta Z Z.heap "java/lang/StringUTF16" "$assertionsDisabled" "Z" (.int (1 : Int32))) (S_HI_BYTE_SHIFT : Sta Z Z.heap "java/lang/StringUTF16" "HI_BYTE_SHIFT" "I" (.int (0 : Int32))) (S_LO_BYTE_SHIFT : Sta Z Z.heap "java/lang/StringUTF16" "LO_BYTE_SHIFT" "I" (.int (8 : Int32))) :
    MetFree l y1_ (head1 (Jvm.Cond.code y1_ jdk_52_method_4_code 3 none :: ws) r0_0_0_0) (fun xa xU => xa = #[(.ref a), (.int (3 : Int32)), (.int c)] ∧ Z.Warmed39 xU.vm ∧ xU.heap = h0) (fun _ _ _ _ _ => True) (fun _ xU xo xU' => ∃ xv xL, xo = .returned xv ∧ Q_putChar3 Z a k c u0 u1 u2 u3 u4 u5 u6 u7 h0 n0 xv xU'.heap xL ∧ FrameEnd xU xo xU' xL r0_0_0_0.cells r0_0_0_0.slots) := by
  refine MetFree.of_bodySF (plainFor_of_name pn_java_lang_StringUTF16) hisR ?_
  intro pP eE sS mM argS bS methS cC s₁ Bd hml0 hP hK
  obtain ⟨rfl, hZ, hh⟩ := hP
  have hx := Bd.exec
  have hby := Bd.bytes
  have hml : cC.maxLocals = 3 := hml0
  have hown : sS.vm.findClass "java/lang/StringUTF16" = some mM.cls := findClass_of_methodNamed Bd.named
  have hnm := (name_of_methodNamed Bd.named Bd.method).1
  have X0 : Stand pP l eE r0_0_0_0 sS mM #[(.ref a), (.int (3 : Int32)), (.int c)] bS methS cC s₁ [] 0 0 := Stand.of_body Bd
  have e0 : s₁.heap = h0 := by rw [← hh, Bd.state]; rfl
  have N0 := Fr.nil n0
  have c101_S__assertionsDisabled : Sta Z h0 "java/lang/StringUTF16" "$assertionsDisabled" "Z" (.int (1 : Int32)) := Sta.ext OL.2 S__assertionsDisabled
  obtain ⟨T102, X102, e102, st102⟩ := getS2 X0 hx hZ hown (host := "") (Or.inl (wi hw 137 rfl)) Via.refl e0 c101_S__assertionsDisabled (g := (mkF mM 0 #[.val (.ref a), .val (.int (3 : Int32)), .val (.int c)] [])) rfl (hb hby d52_4_0)
  have c103_S_HI_BYTE_SHIFT : Sta Z h0 "java/lang/StringUTF16" "HI_BYTE_SHIFT" "I" (.int (0 : Int32)) := Sta.ext OL.2 S_HI_BYTE_SHIFT
  obtain ⟨T104, X104, e104, st104⟩ := getS2 X102 hx hZ hown (host := "") (Or.inl (wi hw 138 rfl)) Via.refl e102 c103_S_HI_BYTE_SHIFT (g := (mkF mM 38 #[.val (.ref a), .val (.int (7 : Int32)), .val (.int c)] [(.int c), (.int (6 : Int32)), (.ref a)])) rfl (hb hby d52_4_38)
  obtain ⟨cl105, Ar105, q105, S105, Ng105, Ha105, Ga105⟩ := id V_a
  have hin105 : ¬ ((6 : Int32) < 0 ∨ cl105.slots.size ≤ ((6 : Int32)).toNatClampNeg) := inb_of S105 ⟨by decide, by decide⟩
  obtain ⟨T106, h106, X106, e106, W106, st106⟩ := stB X104 hx hZ e104 Ar105 (j := (6 : Int32)) hin105 (g := (mkF mM 43 #[.val (.ref a), .val (.int (7 : Int32)), .val (.int c)] [(.int (c.toInt8.toInt32)), (.int (6 : Int32)), (.ref a)])) rfl rfl (hb hby d52_4_43)
  have Sz1 : h0.size ≤ h106.size := Nat.le_of_eq (Wr.size W106).symm
  have Vs106 := Arv.set Ar105 q105 S105 Ng105 Ha105 Ga105 (fits_nar_byte _) W106 6 rfl (Nat.le_of_ble_eq_true rfl)
  have Vt106 : Arv Z h106 a k .byte (8 : Int32) [u0, u1, u2, u3, u4, u5, (.int c.toInt8.toInt32), u7] (.int (0 : Int32)) := by
    have q : Arv Z h106 a k .byte (8 : Int32) [u0, u1, u2, u3, u4, u5, (.int (c.toInt8.toInt32).toInt8.toInt32), u7] (.int (0 : Int32)) := Vs106
    rw [show ((.int (c.toInt8.toInt32).toInt8.toInt32) : Value) = (.int c.toInt8.toInt32) from congrArg Value.int (own_b8 c)] at q
    exact q
  have N106 := Fr.snoc X106 N0 g_a
  have c107_OL : Old Z n0 h106 := OL.wr W106 g_a
  have c108_S_LO_BYTE_SHIFT : Sta Z h106 "java/lang/StringUTF16" "LO_BYTE_SHIFT" "I" (.int (8 : Int32)) := Sta.ext c107_OL.2 S_LO_BYTE_SHIFT
  obtain ⟨T109, X109, e109, st109⟩ := getS2 X106 hx hZ hown (host := "") (Or.inl (wi hw 139 rfl)) Via.refl e106 c108_S_LO_BYTE_SHIFT (g := (mkF mM 47 #[.val (.ref a), .val (.int (7 : Int32)), .val (.int c)] [(.int c), (.int (7 : Int32)), (.ref a)])) rfl (hb hby d52_4_47)
  obtain ⟨cl110, Ar110, q110, S110, Ng110, Ha110, Ga110⟩ := id Vt106
  have hin110 : ¬ ((7 : Int32) < 0 ∨ cl110.slots.size ≤ ((7 : Int32)).toNatClampNeg) := inb_of S110 ⟨by decide, by decide⟩
  obtain ⟨T111, h111, X111, e111, W111, st111⟩ := stB X109 hx hZ e109 Ar110 (j := (7 : Int32)) hin110 (g := (mkF mM 52 #[.val (.ref a), .val (.int (7 : Int32)), .val (.int c)] [(.int ((c >>> ((8 : Int32) &&& 31)).toInt8.toInt32)), (.int (7 : Int32)), (.ref a)])) rfl rfl (hb hby d52_4_52)
  have Sz2 : h106.size ≤ h111.size := Nat.le_of_eq (Wr.size W111).symm
  have Vs111 := Arv.set Ar110 q110 S110 Ng110 Ha110 Ga110 (fits_nar_byte _) W111 7 rfl (Nat.le_of_ble_eq_true rfl)
  have Vt111 : Arv Z h111 a k .byte (8 : Int32) [u0, u1, u2, u3, u4, u5, (.int c.toInt8.toInt32), (.int (c >>> ((8 : Int32) &&& 31)).toInt8.toInt32)] (.int (0 : Int32)) := by
    have q : Arv Z h111 a k .byte (8 : Int32) [u0, u1, u2, u3, u4, u5, (.int c.toInt8.toInt32), (.int ((c >>> ((8 : Int32) &&& 31)).toInt8.toInt32).toInt8.toInt32)] (.int (0 : Int32)) := Vs111
    rw [show ((.int ((c >>> ((8 : Int32) &&& 31)).toInt8.toInt32).toInt8.toInt32) : Value) = (.int (c >>> ((8 : Int32) &&& 31)).toInt8.toInt32) from congrArg Value.int (own_b8 (c >>> ((8 : Int32) &&& 31)))] at q
    exact q
  have N111 := Fr.snoc X111 N106 g_a
  have K112 : Keep h0 h106 [a] := (Keep.refl h0 [a]).wr W106 (Or.inl (List.mem_of_getElem? (i := 0) rfl))
  have K113 : Keep h0 h111 [a] := K112.wr W111 (Or.inl (List.mem_of_getElem? (i := 0) rfl))
  obtain ⟨fs, hr, hrun, hended, hW, hsame⟩ := X111.leave (v := none) (fun _ => rfl)
  refine ⟨_, _, castTop (ef_putChar3 mM a k c u0 u1 u2 u3 u4 u5 u6 u7) ?_, hrun, hended, _, _, rfl, ?_, ⟨_, rfl⟩, hW, hsame.mono (by decide) (by decide)⟩
  · show SS pP eE bS s₁ (mkF mM 0 #[.val (.ref a), .val (.int (3 : Int32)), .val (.int c)] []) _
    refine st102 _ ?_
    show SS pP eE bS T102 (mkF mM 3 #[.val (.ref a), .val (.int (3 : Int32)), .val (.int c)] [(.int (1 : Int32))]) _
    refine XS.ifYes X102.here hx rfl (pc0 := 3) (pc' := 28) rfl (hb hby d52_4_3) rfl ((if0 _ _).trans (feq (by decide : ¬ ((1 : Int32) = (0 : Int32)))).2) (by decide) (by decide) ?_
    refine XS.iloadN X102.here hx rfl (hb hby d52_4_28) rfl ?_
    refine XS.iconst X102.here hx rfl (hb hby d52_4_29) ?_
    refine XS.ishl X102.here hx rfl (hb hby d52_4_30) rfl ?_
    show SS pP eE bS T102 (mkF mM 31 #[.val (.ref a), .val (.int (3 : Int32)), .val (.int c)] [(.int (6 : Int32))]) _
    refine XS.istoreN X102.here hx rfl (hb hby d52_4_31) rfl (l' := #[.val (.ref a), .val (.int (6 : Int32)), .val (.int c)]) rfl ?_
    refine XS.aloadN X102.here hx rfl (hb hby d52_4_32) rfl rfl ?_
    refine XS.iloadN X102.here hx rfl (hb hby d52_4_33) rfl ?_
    refine XS.iinc X102.here hx rfl (hb hby d52_4_34) rfl (l' := #[.val (.ref a), .val (.int (7 : Int32)), .val (.int c)]) rfl ?_
    show SS pP eE bS T102 (mkF mM 37 #[.val (.ref a), .val (.int (7 : Int32)), .val (.int c)] [(.int (6 : Int32)), (.ref a)]) _
    refine XS.iloadN X102.here hx rfl (hb hby d52_4_37) rfl ?_
    show SS pP eE bS T102 (mkF mM 38 #[.val (.ref a), .val (.int (7 : Int32)), .val (.int c)] [(.int c), (.int (6 : Int32)), (.ref a)]) _
    refine st104 _ ?_
    show SS pP eE bS T104 (mkF mM 41 #[.val (.ref a), .val (.int (7 : Int32)), .val (.int c)] [(.int (0 : Int32)), (.int c), (.int (6 : Int32)), (.ref a)]) _
    refine XS.ishr X104.here hx rfl (hb hby d52_4_41) rfl ?_
    show SS pP eE bS T104 (mkF mM 42 #[.val (.ref a), .val (.int (7 : Int32)), .val (.int c)] [(.int (c >>> ((0 : Int32) &&& 31))), (.int (6 : Int32)), (.ref a)]) _
    rw [show (c >>> ((0 : Int32) &&& 31)) = c from shr0 c]
    refine XS.i2b X104.here hx rfl (hb hby d52_4_42) rfl ?_
    show SS pP eE bS T104 (mkF mM 43 #[.val (.ref a), .val (.int (7 : Int32)), .val (.int c)] [(.int (c.toInt8.toInt32)), (.int (6 : Int32)), (.ref a)]) _
    refine st106 _ ?_
    show SS pP eE bS T106 (mkF mM 44 #[.val (.ref a), .val (.int (7 : Int32)), .val (.int c)] []) _
    refine XS.aloadN X106.here hx rfl (hb hby d52_4_44) rfl rfl ?_
    refine XS.iloadN X106.here hx rfl (hb hby d52_4_45) rfl ?_
    refine XS.iloadN X106.here hx rfl (hb hby d52_4_46) rfl ?_
    show SS pP eE bS T106 (mkF mM 47 #[.val (.ref a), .val (.int (7 : Int32)), .val (.int c)] [(.int c), (.int (7 : Int32)), (.ref a)]) _
    refine st109 _ ?_
    show SS pP eE bS T109 (mkF mM 50 #[.val (.ref a), .val (.int (7 : Int32)), .val (.int c)] [(.int (8 : Int32)), (.int c), (.int (7 : Int32)), (.ref a)]) _
    refine XS.ishr X109.here hx rfl (hb hby d52_4_50) rfl ?_
    refine XS.i2b X109.here hx rfl (hb hby d52_4_51) rfl ?_
    show SS pP eE bS T109 (mkF mM 52 #[.val (.ref a), .val (.int (7 : Int32)), .val (.int c)] [(.int ((c >>> ((8 : Int32) &&& 31)).toInt8.toInt32)), (.int (7 : Int32)), (.ref a)]) _
    refine st111 _ ?_
    show SS pP eE bS T111 (mkF mM 53 #[.val (.ref a), .val (.int (7 : Int32)), .val (.int c)] []) _
    exact X111.returnOut hx Bd.returns (hb hby d52_4_53) hr
  · show Q_putChar3 Z a k c u0 u1 u2 u3 u4 u5 u6 u7 h0 n0 _ T111.heap _
    rw [e111]
    exact ⟨rfl, N111, K113, Vt111⟩
abbrev c52_3 := jdk_52_method_3_code
theorem d52_3_0 : decode c52_3 0 = .ok (.iload_n 0, 1) := by decide +kernel
theorem d52_3_1 : decode c52_3 1 = .ok (.ifCond .ge 11, 3) := by decide +kernel
theorem d52_3_12 : decode c52_3 12 = .ok (.iload_n 0, 1) := by decide +kernel
theorem d52_3_13 : decode c52_3 13 = .ok (.ldc 20, 2) := by decide +kernel
theorem d52_3_15 : decode c52_3 15 = .ok (.if_icmp .lt 40, 3) := by decide +kernel
theorem d52_3_55 : decode c52_3 55 = .ok (.iload_n 0, 1) := by decide +kernel
theorem d52_3_56 : decode c52_3 56 = .ok (.iconst 1, 1) := by decide +kernel
theorem d52_3_57 : decode c52_3 57 = .ok (.ishl, 1) := by decide +kernel
theorem d52_3_58 : decode c52_3 58 = .ok (.ireturn, 1) := by decide +kernel
abbrev y2_ : MethodName := ⟨"java/lang/StringUTF16", "newBytesLength", "(I)I"⟩
def Q_nbl (Z : State) (n : Int32) (m : Int32) (h0 : Heap) (n0 : Nat) (xv : Option Value) (xh : Heap) (xL : List Loc) : Prop := xv = some (.int m) ∧ Fr n0 xL ∧ xh = h0
theorem ef_nbl (mM : MethodId) (n : Int32) (m : Int32) : entryFrame mM #[(.int n)] 1 = mkF mM 0 #[.val (.int n)] [] := by
  first | (simp [entryFrame, mkF, argsToLocals, Value.category]; done) | rfl
theorem rm_nbl (l : Launch) (Z : State) (a0 : Array Value) (hw : HW a0 Z) (ws : List Jvm.Cond) (n : Int32) (m : Int32) (h0 : Heap) (n0 : Nat) (Z0 : n0 ≤ h0.size) (n1 : ¬ (n < (0 : Int32))) (n2 : n < (1073741823 : Int32)) (n3 : (n <<< ((1 : Int32) &&& 31)) = m) :
    MetFree l y2_ (head1 (Jvm.Cond.code y2_ jdk_52_method_3_code 1 (some .int) :: ws) r0_0_0_0) (fun xa xU => xa = #[(.int n)] ∧ Z.Warmed39 xU.vm ∧ xU.heap = h0) (fun _ _ _ _ _ => True) (fun _ xU xo xU' => ∃ xv xL, xo = .returned xv ∧ Q_nbl Z n m h0 n0 xv xU'.heap xL ∧ FrameEnd xU xo xU' xL r0_0_0_0.cells r0_0_0_0.slots) := by
  refine MetFree.of_bodySF (plainFor_of_name pn_java_lang_StringUTF16) hisR ?_
  intro pP eE sS mM argS bS methS cC s₁ Bd hml0 hP hK
  obtain ⟨rfl, hZ, hh⟩ := hP
  have hx := Bd.exec
  have hby := Bd.bytes
  have hml : cC.maxLocals = 1 := hml0
  have hown : sS.vm.findClass "java/lang/StringUTF16" = some mM.cls := findClass_of_methodNamed Bd.named
  have hnm := (name_of_methodNamed Bd.named Bd.method).1
  have X0 : Stand pP l eE r0_0_0_0 sS mM #[(.int n)] bS methS cC s₁ [] 0 0 := Stand.of_body Bd
  have e0 : s₁.heap = h0 := by rw [← hh, Bd.state]; rfl
  have N0 := Fr.nil n0
  obtain ⟨fs, hr, hrun, hended, hW, hsame⟩ := X0.leave (v := some (.int m)) (fun h => by rw [Bd.returns] at h; cases h)
  refine ⟨_, _, castTop (ef_nbl mM n m) ?_, hrun, hended, _, _, rfl, ?_, ⟨_, rfl⟩, hW, hsame.mono (by decide) (by decide)⟩
  · show SS pP eE bS s₁ (mkF mM 0 #[.val (.int n)] []) _
    refine XS.iloadN X0.here hx rfl (hb hby d52_3_0) rfl ?_
    refine XS.ifYes X0.here hx rfl (pc0 := 1) (pc' := 12) rfl (hb hby d52_3_1) rfl ((if0 _ _).trans (flt n1).2.1) (by decide) (by decide) ?_
    refine XS.iloadN X0.here hx rfl (hb hby d52_3_12) rfl ?_
    show SS pP eE bS s₁ (mkF mM 13 #[.val (.int n)] [(.int n)]) _
    refine X0.ldcInt hx hown (mvT hZ (wi hw 133 rfl)) (g := (mkF mM 13 #[.val (.int n)] [(.int n)])) rfl (hb hby d52_3_13) _ ?_
    show SS pP eE bS s₁ (mkF mM 15 #[.val (.int n)] [(.int (1073741823 : Int32)), (.int n)]) _
    refine XS.icmpYes X0.here hx rfl (pc0 := 15) (pc' := 55) rfl (hb hby d52_3_15) rfl (tlt n2).1 (by decide) (by decide) ?_
    refine XS.iloadN X0.here hx rfl (hb hby d52_3_55) rfl ?_
    refine XS.iconst X0.here hx rfl (hb hby d52_3_56) ?_
    refine XS.ishl X0.here hx rfl (hb hby d52_3_57) rfl ?_
    show SS pP eE bS s₁ (mkF mM 58 #[.val (.int n)] [(.int (n <<< ((1 : Int32) &&& 31)))]) _
    rw [show (n <<< ((1 : Int32) &&& 31)) = m from n3]
    show SS pP eE bS s₁ (mkF mM 58 #[.val (.int n)] [(.int m)]) _
    exact retI X0 hx Bd.returns (hb hby d52_3_58) hr
  · show Q_nbl Z n m h0 n0 _ s₁.heap _
    rw [e0]
    exact ⟨rfl, N0, rfl⟩
abbrev c52_2 := jdk_52_method_2_code
theorem d52_2_0 : decode c52_2 0 = .ok (.iload_n 0, 1) := by decide +kernel
theorem d52_2_1 : decode c52_2 1 = .ok (.invokestatic 11, 3) := by decide +kernel
theorem pd_19 : parseMethodDescriptor "(I)I" = some ⟨[.int], some .int⟩ := by decide +kernel
theorem d52_2_4 : decode c52_2 4 = .ok (.newarray .byte, 2) := by decide +kernel
theorem d52_2_6 : decode c52_2 6 = .ok (.areturn, 1) := by decide +kernel
abbrev r1_1_8_12 : Room := { frames := 1, cells := 1, slots := 8, locals := 12 }
abbrev y3_ : MethodName := ⟨"java/lang/StringUTF16", "newBytesFor", "(I)[B"⟩
def Q_nbf (Z : State)  (h0 : Heap) (n0 : Nat) (xv : Option Value) (xh : Heap) (xL : List Loc) : Prop := ∃ b : Addr, ∃ k2 : ClassId, xv = some (.ref b) ∧ Fr n0 xL ∧ Keep h0 xh [] ∧ Arv Z xh b k2 .byte (8 : Int32) [(.int (0 : Int32)), (.int (0 : Int32)), (.int (0 : Int32)), (.int (0 : Int32)), (.int (0 : Int32)), (.int (0 : Int32)), (.int (0 : Int32)), (.int (0 : Int32))] (.int (0 : Int32)) ∧ @LE.le Nat _ h0.size b
theorem ef_nbf (mM : MethodId)  : entryFrame mM #[(.int (4 : Int32))] 1 = mkF mM 0 #[.val (.int (4 : Int32))] [] := by
  first | (simp [entryFrame, mkF, argsToLocals, Value.category]; done) | rfl
theorem rm_nbf (l : Launch) (Z : State) (a0 : Array Value) (hw : HW a0 Z) (ws : List Jvm.Cond)  (h0 : Heap) (n0 : Nat) (Z0 : n0 ≤ h0.size) :
    MetFree l y3_ (head1 (Jvm.Cond.code y3_ jdk_52_method_2_code 1 (some (.array .byte)) :: ws) r1_1_8_12) (fun xa xU => xa = #[(.int (4 : Int32))] ∧ Z.Warmed39 xU.vm ∧ xU.heap = h0) (fun _ _ _ _ _ => True) (fun _ xU xo xU' => ∃ xv xL, xo = .returned xv ∧ Q_nbf Z  h0 n0 xv xU'.heap xL ∧ FrameEnd xU xo xU' xL r1_1_8_12.cells r1_1_8_12.slots) := by
  refine MetFree.of_bodySF (plainFor_of_name pn_java_lang_StringUTF16) hisR ?_
  intro pP eE sS mM argS bS methS cC s₁ Bd hml0 hP hK
  obtain ⟨rfl, hZ, hh⟩ := hP
  have hx := Bd.exec
  have hby := Bd.bytes
  have hml : cC.maxLocals = 1 := hml0
  have hown : sS.vm.findClass "java/lang/StringUTF16" = some mM.cls := findClass_of_methodNamed Bd.named
  have hnm := (name_of_methodNamed Bd.named Bd.method).1
  have X0 : Stand pP l eE r1_1_8_12 sS mM #[(.int (4 : Int32))] bS methS cC s₁ [] 0 0 := Stand.of_body Bd
  have e0 : s₁.heap = h0 := by rw [← hh, Bd.state]; rfl
  have N0 := Fr.nil n0
  obtain ⟨_, _, ⟨T101, L101, k101, n101⟩, -, X101, ⟨Lc101, hQ101, l101, y101, z101⟩, st101⟩ := Jvm.LawKit.callS X0 hx (y := y2_) hown (mvT hZ (wi hw 130 rfl)) (mvT hZ (wi hw 131 rfl)) (mvT hZ (wi hw 18 rfl)) (mvT hZ (wi hw 132 rfl)) (by decide) (backOf (W := 0) (rm_nbl l Z a0 hw [] (4 : Int32) (8 : Int32) h0 n0 (by omega) (by decide) (by decide) (by decide)) hZ (wi hw 132 rfl) (wi hw 18 rfl) (by decide) (by decide)) (g := (mkF mM 1 #[.val (.int (4 : Int32))] [(.int (4 : Int32))])) rfl (by rw [hml]; rfl) (argsL := [(.int (4 : Int32))]) (rest := []) (lenOf pd_19 rfl) rfl (by show 2 * 0 + _ ≤ _; exact Nat.le_of_eq rfl) (hb hby d52_2_1) (fun _ _ => ⟨rfl, e0, ble rfl, ble rfl⟩)
  dsimp only [Pt.U, Pt.locs, Pt.cells, Pt.slots] at X101 l101 y101 z101 st101 hQ101
  subst y101 z101
  obtain ⟨h101, e101⟩ : ∃ z, T101.heap = z := ⟨_, rfl⟩
  rw [e101] at hQ101
  obtain ⟨rfl, N101q, eq101⟩ := hQ101
  rw [eq101] at e101
  have N101 : Fr n0 L101 := by rw [l101]; exact Fr.app N0 N101q
  obtain ⟨T102, h102, k102, X102, e102, E102, A102, st102⟩ := newP X101 hx hZ (wi hw 20 rfl) e101 (g := (mkF mM 4 #[.val (.int (4 : Int32))] [(.int (8 : Int32))])) rfl (hb hby d52_2_4) rfl (by decide) (cap := 8) (by decide) (by decide) (by decide) (by decide)
  obtain ⟨b102, g102⟩ : ∃ z : Nat, z = h0.size := ⟨_, rfl⟩
  rw [← g102] at A102 st102
  have Sz1 : h0.size ≤ h102.size := E102.1
  have V_b102 : Arv Z h102 b102 k102 .byte (8 : Int32) [(.int (0 : Int32)), (.int (0 : Int32)), (.int (0 : Int32)), (.int (0 : Int32)), (.int (0 : Int32)), (.int (0 : Int32)), (.int (0 : Int32)), (.int (0 : Int32))] (.int (0 : Int32)) := (Arv.new A102 (by decide)).pad (pad_rep [] (.int (0 : Int32)) 8)
  have K103 : Keep h0 h102 [] := (Keep.refl h0 []).ext E102
  obtain ⟨fs, hr, hrun, hended, hW, hsame⟩ := X102.leave (v := some (.ref b102)) (fun h => by rw [Bd.returns] at h; cases h)
  refine ⟨_, _, castTop (ef_nbf mM ) ?_, hrun, hended, _, _, rfl, ?_, ⟨_, rfl⟩, hW, hsame.mono (by decide) (by decide)⟩
  · show SS pP eE bS s₁ (mkF mM 0 #[.val (.int (4 : Int32))] []) _
    refine XS.iloadN X0.here hx rfl (hb hby d52_2_0) rfl ?_
    show SS pP eE bS s₁ (mkF mM 1 #[.val (.int (4 : Int32))] [(.int (4 : Int32))]) _
    refine st101 _ ?_
    show SS pP eE bS T101 (mkF mM 4 #[.val (.int (4 : Int32))] [(.int (8 : Int32))]) _
    refine st102 _ ?_
    show SS pP eE bS T102 (mkF mM 6 #[.val (.int (4 : Int32))] [(.ref b102)]) _
    jvm_step X102.here [X102.here.top, hx, (hb hby d52_2_6), X102.method', Bd.returns, Value.isRef, FieldType.isReference]
    first | (intro acts; rw [hr _ acts rfl rfl rfl]) | rw [hr _ _ rfl rfl rfl]
    exact Steps.refl _
  · show Q_nbf Z  h0 n0 _ T102.heap _
    rw [e102]
    exact ⟨b102, k102, rfl, N101, K103, V_b102, (by omega)⟩
abbrev c52_14 := jdk_52_method_14_code
theorem d52_14_0 : decode c52_14 0 = .ok (.iload_n 2, 1) := by decide +kernel
theorem d52_14_1 : decode c52_14 1 = .ok (.invokestatic 107, 3) := by decide +kernel
theorem pd_18 : parseMethodDescriptor "(I)[B" = some ⟨[.int], some (.array .byte)⟩ := by decide +kernel
theorem d52_14_4 : decode c52_14 4 = .ok (.astore_n 3, 1) := by decide +kernel
theorem d52_14_5 : decode c52_14 5 = .ok (.iconst 0, 1) := by decide +kernel
theorem d52_14_6 : decode c52_14 6 = .ok (.istore 4, 2) := by decide +kernel
theorem d52_14_8 : decode c52_14 8 = .ok (.iload 4, 2) := by decide +kernel
theorem d52_14_10 : decode c52_14 10 = .ok (.iload_n 2, 1) := by decide +kernel
theorem d52_14_11 : decode c52_14 11 = .ok (.if_icmp .ge 21, 3) := by decide +kernel
theorem d52_14_14 : decode c52_14 14 = .ok (.aload_n 3, 1) := by decide +kernel
theorem d52_14_15 : decode c52_14 15 = .ok (.iload 4, 2) := by decide +kernel
theorem d52_14_17 : decode c52_14 17 = .ok (.aload_n 0, 1) := by decide +kernel
theorem d52_14_18 : decode c52_14 18 = .ok (.iload_n 1, 1) := by decide +kernel
theorem d52_14_19 : decode c52_14 19 = .ok (.caload, 1) := by decide +kernel
theorem d52_14_20 : decode c52_14 20 = .ok (.invokestatic 111, 3) := by decide +kernel
theorem pd_20 : parseMethodDescriptor "([BII)V" = some ⟨[(.array .byte), .int, .int], none⟩ := by decide +kernel
theorem d52_14_23 : decode c52_14 23 = .ok (.iinc 1 1, 3) := by decide +kernel
theorem d52_14_26 : decode c52_14 26 = .ok (.iinc 4 1, 3) := by decide +kernel
theorem d52_14_29 : decode c52_14 29 = .ok (.goto (-21), 3) := by decide +kernel
theorem d52_14_32 : decode c52_14 32 = .ok (.aload_n 3, 1) := by decide +kernel
theorem d52_14_33 : decode c52_14 33 = .ok (.areturn, 1) := by decide +kernel
abbrev r2_1_8_24 : Room := { frames := 2, cells := 1, slots := 8, locals := 24 }
abbrev y4_ : MethodName := ⟨"java/lang/StringUTF16", "toBytes", "([CII)[B"⟩
def Q_toBytes (Z : State) (a1 : Addr) (k1 : ClassId) (c0 : Int32) (c1 : Int32) (c2 : Int32) (c3 : Int32) (h0 : Heap) (n0 : Nat) (xv : Option Value) (xh : Heap) (xL : List Loc) : Prop := ∃ b : Addr, ∃ k2 : ClassId, xv = some (.ref b) ∧ Fr n0 xL ∧ Keep h0 xh [] ∧ Arv Z xh b k2 .byte (8 : Int32) [(.int c0.toInt8.toInt32), (.int (c0 >>> ((8 : Int32) &&& 31)).toInt8.toInt32), (.int c1.toInt8.toInt32), (.int (c1 >>> ((8 : Int32) &&& 31)).toInt8.toInt32), (.int c2.toInt8.toInt32), (.int (c2 >>> ((8 : Int32) &&& 31)).toInt8.toInt32), (.int c3.toInt8.toInt32), (.int (c3 >>> ((8 : Int32) &&& 31)).toInt8.toInt32)] (.int (0 : Int32)) ∧ @LE.le Nat _ h0.size b
abbrev Lc_toBytes_0 (a1 : Addr) : Array Slot := #[.val (.ref a1), .val (.int (0 : Int32)), .val (.int (4 : Int32)), .unset, .unset]
abbrev Lc_toBytes_1 (a1 : Addr) (b_101 : Addr) : Array Slot := #[.val (.ref a1), .val (.int (0 : Int32)), .val (.int (4 : Int32)), .val (.ref b_101), .unset]
abbrev Lc_toBytes_2 (a1 : Addr) (b_101 : Addr) : Array Slot := #[.val (.ref a1), .val (.int (0 : Int32)), .val (.int (4 : Int32)), .val (.ref b_101), .val (.int (0 : Int32))]
abbrev Lc_toBytes_3 (a1 : Addr) (b_101 : Addr) : Array Slot := #[.val (.ref a1), .val (.int (1 : Int32)), .val (.int (4 : Int32)), .val (.ref b_101), .val (.int (0 : Int32))]
abbrev Lc_toBytes_4 (a1 : Addr) (b_101 : Addr) : Array Slot := #[.val (.ref a1), .val (.int (1 : Int32)), .val (.int (4 : Int32)), .val (.ref b_101), .val (.int (1 : Int32))]
abbrev Lc_toBytes_5 (a1 : Addr) (b_101 : Addr) : Array Slot := #[.val (.ref a1), .val (.int (2 : Int32)), .val (.int (4 : Int32)), .val (.ref b_101), .val (.int (1 : Int32))]
abbrev Lc_toBytes_6 (a1 : Addr) (b_101 : Addr) : Array Slot := #[.val (.ref a1), .val (.int (2 : Int32)), .val (.int (4 : Int32)), .val (.ref b_101), .val (.int (2 : Int32))]
abbrev Lc_toBytes_7 (a1 : Addr) (b_101 : Addr) : Array Slot := #[.val (.ref a1), .val (.int (3 : Int32)), .val (.int (4 : Int32)), .val (.ref b_101), .val (.int (2 : Int32))]
abbrev Lc_toBytes_8 (a1 : Addr) (b_101 : Addr) : Array Slot := #[.val (.ref a1), .val (.int (3 : Int32)), .val (.int (4 : Int32)), .val (.ref b_101), .val (.int (3 : Int32))]
abbrev Lc_toBytes_9 (a1 : Addr) (b_101 : Addr) : Array Slot := #[.val (.ref a1), .val (.int (4 : Int32)), .val (.int (4 : Int32)), .val (.ref b_101), .val (.int (3 : Int32))]
abbrev Lc_toBytes_10 (a1 : Addr) (b_101 : Addr) : Array Slot := #[.val (.ref a1), .val (.int (4 : Int32)), .val (.int (4 : Int32)), .val (.ref b_101), .val (.int (4 : Int32))]
theorem ef_toBytes (mM : MethodId) (a1 : Addr) (k1 : ClassId) (c0 : Int32) (c1 : Int32) (c2 : Int32) (c3 : Int32) : entryFrame mM #[(.ref a1), (.int (0 : Int32)), (.int (4 : Int32))] 5 = mkF mM 0 #[.val (.ref a1), .val (.int (0 : Int32)), .val (.int (4 : Int32)), .unset, .unset] [] := by
  first | (simp [entryFrame, mkF, argsToLocals, Value.category]; done) | rfl
theorem rm_toBytes (l : Launch) (Z : State) (a0 : Array Value) (hw : HW a0 Z) (ws : List Jvm.Cond) (a1 : Addr) (k1 : ClassId) (c0 : Int32) (c1 : Int32) (c2 : Int32) (c3 : Int32) (h0 : Heap) (n0 : Nat) (Z0 : n0 ≤ h0.size) (V_a1 : Arv Z h0 a1 k1 .char (4 : Int32) [(.int c0), (.int c1), (.int c2), (.int c3)] (.int (0 : Int32))) (OL : Old Z n0 h0) (S__assertionsDisabled : Sta Z Z.heap "java/lang/StringUTF16" "$assertionsDisabled" "Z" (.int (1 : Int32))) (S_HI_BYTE_SHIFT : Sta Z Z.heap "java/lang/StringUTF16" "HI_BYTE_SHIFT" "I" (.int (0 : Int32))) (S_LO_BYTE_SHIFT : Sta Z Z.heap "java/lang/StringUTF16" "LO_BYTE_SHIFT" "I" (.int (8 : Int32))) :
    MetFree l y4_ (head1 (Jvm.Cond.code y4_ jdk_52_method_14_code 5 (some (.array .byte)) :: ws) r2_1_8_24) (fun xa xU => xa = #[(.ref a1), (.int (0 : Int32)), (.int (4 : Int32))] ∧ Z.Warmed39 xU.vm ∧ xU.heap = h0) (fun _ _ _ _ _ => True) (fun _ xU xo xU' => ∃ xv xL, xo = .returned xv ∧ Q_toBytes Z a1 k1 c0 c1 c2 c3 h0 n0 xv xU'.heap xL ∧ FrameEnd xU xo xU' xL r2_1_8_24.cells r2_1_8_24.slots) := by
  refine MetFree.of_bodySF (plainFor_of_name pn_java_lang_StringUTF16) hisR ?_
  intro pP eE sS mM argS bS methS cC s₁ Bd hml0 hP hK
  obtain ⟨rfl, hZ, hh⟩ := hP
  have hx := Bd.exec
  have hby := Bd.bytes
  have hml : cC.maxLocals = 5 := hml0
  have hown : sS.vm.findClass "java/lang/StringUTF16" = some mM.cls := findClass_of_methodNamed Bd.named
  have hnm := (name_of_methodNamed Bd.named Bd.method).1
  have X0 : Stand pP l eE r2_1_8_24 sS mM #[(.ref a1), (.int (0 : Int32)), (.int (4 : Int32))] bS methS cC s₁ [] 0 0 := Stand.of_body Bd
  have e0 : s₁.heap = h0 := by rw [← hh, Bd.state]; rfl
  have N0 := Fr.nil n0
  obtain ⟨_, _, ⟨T101, L101, k101, n101⟩, -, X101, ⟨Lc101, hQ101, l101, y101, z101⟩, st101⟩ := Jvm.LawKit.callS X0 hx (y := y3_) hown (mvT hZ (wi hw 127 rfl)) (mvT hZ (wi hw 128 rfl)) (mvT hZ (wi hw 18 rfl)) (mvT hZ (wi hw 129 rfl)) (by decide) (backOf (W := 0) (rm_nbf l Z a0 hw []  h0 n0 (by omega) ) hZ (wi hw 129 rfl) (wi hw 18 rfl) (by decide) (by decide)) (g := (mkF mM 1 (Lc_toBytes_0 a1) [(.int (4 : Int32))])) rfl (by rw [hml]; rfl) (argsL := [(.int (4 : Int32))]) (rest := []) (lenOf pd_18 rfl) rfl (by show 2 * 0 + _ ≤ _; exact Nat.le_of_eq rfl) (hb hby d52_14_1) (fun _ _ => ⟨rfl, e0, ble rfl, ble rfl⟩)
  dsimp only [Pt.U, Pt.locs, Pt.cells, Pt.slots] at X101 l101 y101 z101 st101 hQ101
  subst y101 z101
  obtain ⟨h101, e101⟩ : ∃ z, T101.heap = z := ⟨_, rfl⟩
  rw [e101] at hQ101
  obtain ⟨b_101, k2_101, rfl, N101q, Kp101, p101_V_b, p101_gh_b⟩ := hQ101
  have Sz1 : h0.size ≤ h101.size := Kp101.1
  have N101 : Fr n0 L101 := by rw [l101]; exact Fr.app N0 N101q
  have c102_V_a1 : Arv Z h101 a1 k1 .char (4 : Int32) [(.int c0), (.int c1), (.int c2), (.int c3)] (.int (0 : Int32)) := V_a1.keep Kp101 nin0
  obtain ⟨cl103, Ar103, q103, S103, Ng103, Ha103, Ga103⟩ := id c102_V_a1
  have hin103 : ¬ ((0 : Int32) < 0 ∨ cl103.slots.size ≤ ((0 : Int32)).toNatClampNeg) := inb_of S103 ⟨by decide, by decide⟩
  have hat103 : cl103.slots[((0 : Int32)).toNatClampNeg]? = some (.int c0) := Ha103.at hin103 (rfl)
  have c105_OL : Old Z n0 h101 := OL.keep Kp101 all0
  have ge106_b_101 : @LE.le Nat _ n0 b_101 := by omega
  obtain ⟨_, _, ⟨T104, L104, k104, n104⟩, -, X104, ⟨Lc104, hQ104, l104, y104, z104⟩, st104⟩ := Jvm.LawKit.callS X101 hx (y := y1_) hown (mvT hZ (wi hw 134 rfl)) (mvT hZ (wi hw 135 rfl)) (mvT hZ (wi hw 18 rfl)) (mvT hZ (wi hw 136 rfl)) (by decide) (backOf (W := 0) (rm_putChar0 l Z a0 hw [] b_101 k2_101 c0 (.int (0 : Int32)) (.int (0 : Int32)) (.int (0 : Int32)) (.int (0 : Int32)) (.int (0 : Int32)) (.int (0 : Int32)) (.int (0 : Int32)) (.int (0 : Int32)) h101 n0 (by omega) p101_V_b ge106_b_101 c105_OL S__assertionsDisabled S_HI_BYTE_SHIFT S_LO_BYTE_SHIFT) hZ (wi hw 136 rfl) (wi hw 18 rfl) (by decide) (by decide)) (g := (mkF mM 20 (Lc_toBytes_2 a1 b_101) [(.int c0), (.int (0 : Int32)), (.ref b_101)])) rfl (by rw [hml]; rfl) (argsL := [(.ref b_101), (.int (0 : Int32)), (.int c0)]) (rest := []) (lenOf pd_20 rfl) rfl (by show 2 * 0 + _ ≤ _; exact Nat.le_of_eq rfl) (hb hby d52_14_20) (fun _ _ => ⟨rfl, e101, ble rfl, ble rfl⟩)
  dsimp only [Pt.U, Pt.locs, Pt.cells, Pt.slots] at X104 l104 y104 z104 st104 hQ104
  subst y104 z104
  obtain ⟨h104, e104⟩ : ∃ z, T104.heap = z := ⟨_, rfl⟩
  rw [e104] at hQ104
  obtain ⟨rfl, N104q, Kp104, p104_V_a⟩ := hQ104
  have Sz2 : h101.size ≤ h104.size := Kp104.1
  have N104 : Fr n0 L104 := by rw [l104]; exact Fr.app N101 N104q
  have lt_a1 : @LT.lt Nat _ a1 h0.size := V_a1.lt
  have lt_b_101 : @LT.lt Nat _ b_101 h101.size := p101_V_b.lt
  have ne_a1_b_101_107 : a1 ≠ b_101 := (by omega : @Ne Nat a1 b_101)
  have c108_V_a1 : Arv Z h104 a1 k1 .char (4 : Int32) [(.int c0), (.int c1), (.int c2), (.int c3)] (.int (0 : Int32)) := c102_V_a1.keep Kp104 (ninS ne_a1_b_101_107 nin0)
  obtain ⟨cl109, Ar109, q109, S109, Ng109, Ha109, Ga109⟩ := id c108_V_a1
  have hin109 : ¬ ((1 : Int32) < 0 ∨ cl109.slots.size ≤ ((1 : Int32)).toNatClampNeg) := inb_of S109 ⟨by decide, by decide⟩
  have hat109 : cl109.slots[((1 : Int32)).toNatClampNeg]? = some (.int c1) := Ha109.at hin109 (rfl)
  have c111_OL : Old Z n0 h104 := c105_OL.keep Kp104 (allS ge106_b_101 all0)
  obtain ⟨_, _, ⟨T110, L110, k110, n110⟩, -, X110, ⟨Lc110, hQ110, l110, y110, z110⟩, st110⟩ := Jvm.LawKit.callS X104 hx (y := y1_) hown (mvT hZ (wi hw 134 rfl)) (mvT hZ (wi hw 135 rfl)) (mvT hZ (wi hw 18 rfl)) (mvT hZ (wi hw 136 rfl)) (by decide) (backOf (W := 0) (rm_putChar1 l Z a0 hw [] b_101 k2_101 c1 (.int c0.toInt8.toInt32) (.int (c0 >>> ((8 : Int32) &&& 31)).toInt8.toInt32) (.int (0 : Int32)) (.int (0 : Int32)) (.int (0 : Int32)) (.int (0 : Int32)) (.int (0 : Int32)) (.int (0 : Int32)) h104 n0 (by omega) p104_V_a ge106_b_101 c111_OL S__assertionsDisabled S_HI_BYTE_SHIFT S_LO_BYTE_SHIFT) hZ (wi hw 136 rfl) (wi hw 18 rfl) (by decide) (by decide)) (g := (mkF mM 20 (Lc_toBytes_4 a1 b_101) [(.int c1), (.int (1 : Int32)), (.ref b_101)])) rfl (by rw [hml]; rfl) (argsL := [(.ref b_101), (.int (1 : Int32)), (.int c1)]) (rest := []) (lenOf pd_20 rfl) rfl (by show 2 * 0 + _ ≤ _; exact Nat.le_of_eq rfl) (hb hby d52_14_20) (fun _ _ => ⟨rfl, e104, ble rfl, ble rfl⟩)
  dsimp only [Pt.U, Pt.locs, Pt.cells, Pt.slots] at X110 l110 y110 z110 st110 hQ110
  subst y110 z110
  obtain ⟨h110, e110⟩ : ∃ z, T110.heap = z := ⟨_, rfl⟩
  rw [e110] at hQ110
  obtain ⟨rfl, N110q, Kp110, p110_V_a⟩ := hQ110
  have Sz3 : h104.size ≤ h110.size := Kp110.1
  have N110 : Fr n0 L110 := by rw [l110]; exact Fr.app N104 N110q
  have c112_V_a1 : Arv Z h110 a1 k1 .char (4 : Int32) [(.int c0), (.int c1), (.int c2), (.int c3)] (.int (0 : Int32)) := c108_V_a1.keep Kp110 (ninS ne_a1_b_101_107 nin0)
  obtain ⟨cl113, Ar113, q113, S113, Ng113, Ha113, Ga113⟩ := id c112_V_a1
  have hin113 : ¬ ((2 : Int32) < 0 ∨ cl113.slots.size ≤ ((2 : Int32)).toNatClampNeg) := inb_of S113 ⟨by decide, by decide⟩
  have hat113 : cl113.slots[((2 : Int32)).toNatClampNeg]? = some (.int c2) := Ha113.at hin113 (rfl)
  have c115_OL : Old Z n0 h110 := c111_OL.keep Kp110 (allS ge106_b_101 all0)
  obtain ⟨_, _, ⟨T114, L114, k114, n114⟩, -, X114, ⟨Lc114, hQ114, l114, y114, z114⟩, st114⟩ := Jvm.LawKit.callS X110 hx (y := y1_) hown (mvT hZ (wi hw 134 rfl)) (mvT hZ (wi hw 135 rfl)) (mvT hZ (wi hw 18 rfl)) (mvT hZ (wi hw 136 rfl)) (by decide) (backOf (W := 0) (rm_putChar2 l Z a0 hw [] b_101 k2_101 c2 (.int c0.toInt8.toInt32) (.int (c0 >>> ((8 : Int32) &&& 31)).toInt8.toInt32) (.int c1.toInt8.toInt32) (.int (c1 >>> ((8 : Int32) &&& 31)).toInt8.toInt32) (.int (0 : Int32)) (.int (0 : Int32)) (.int (0 : Int32)) (.int (0 : Int32)) h110 n0 (by omega) p110_V_a ge106_b_101 c115_OL S__assertionsDisabled S_HI_BYTE_SHIFT S_LO_BYTE_SHIFT) hZ (wi hw 136 rfl) (wi hw 18 rfl) (by decide) (by decide)) (g := (mkF mM 20 (Lc_toBytes_6 a1 b_101) [(.int c2), (.int (2 : Int32)), (.ref b_101)])) rfl (by rw [hml]; rfl) (argsL := [(.ref b_101), (.int (2 : Int32)), (.int c2)]) (rest := []) (lenOf pd_20 rfl) rfl (by show 2 * 0 + _ ≤ _; exact Nat.le_of_eq rfl) (hb hby d52_14_20) (fun _ _ => ⟨rfl, e110, ble rfl, ble rfl⟩)
  dsimp only [Pt.U, Pt.locs, Pt.cells, Pt.slots] at X114 l114 y114 z114 st114 hQ114
  subst y114 z114
  obtain ⟨h114, e114⟩ : ∃ z, T114.heap = z := ⟨_, rfl⟩
  rw [e114] at hQ114
  obtain ⟨rfl, N114q, Kp114, p114_V_a⟩ := hQ114
  have Sz4 : h110.size ≤ h114.size := Kp114.1
  have N114 : Fr n0 L114 := by rw [l114]; exact Fr.app N110 N114q
  have c116_V_a1 : Arv Z h114 a1 k1 .char (4 : Int32) [(.int c0), (.int c1), (.int c2), (.int c3)] (.int (0 : Int32)) := c112_V_a1.keep Kp114 (ninS ne_a1_b_101_107 nin0)
  obtain ⟨cl117, Ar117, q117, S117, Ng117, Ha117, Ga117⟩ := id c116_V_a1
  have hin117 : ¬ ((3 : Int32) < 0 ∨ cl117.slots.size ≤ ((3 : Int32)).toNatClampNeg) := inb_of S117 ⟨by decide, by decide⟩
  have hat117 : cl117.slots[((3 : Int32)).toNatClampNeg]? = some (.int c3) := Ha117.at hin117 (rfl)
  have c119_OL : Old Z n0 h114 := c115_OL.keep Kp114 (allS ge106_b_101 all0)
  obtain ⟨_, _, ⟨T118, L118, k118, n118⟩, -, X118, ⟨Lc118, hQ118, l118, y118, z118⟩, st118⟩ := Jvm.LawKit.callS X114 hx (y := y1_) hown (mvT hZ (wi hw 134 rfl)) (mvT hZ (wi hw 135 rfl)) (mvT hZ (wi hw 18 rfl)) (mvT hZ (wi hw 136 rfl)) (by decide) (backOf (W := 0) (rm_putChar3 l Z a0 hw [] b_101 k2_101 c3 (.int c0.toInt8.toInt32) (.int (c0 >>> ((8 : Int32) &&& 31)).toInt8.toInt32) (.int c1.toInt8.toInt32) (.int (c1 >>> ((8 : Int32) &&& 31)).toInt8.toInt32) (.int c2.toInt8.toInt32) (.int (c2 >>> ((8 : Int32) &&& 31)).toInt8.toInt32) (.int (0 : Int32)) (.int (0 : Int32)) h114 n0 (by omega) p114_V_a ge106_b_101 c119_OL S__assertionsDisabled S_HI_BYTE_SHIFT S_LO_BYTE_SHIFT) hZ (wi hw 136 rfl) (wi hw 18 rfl) (by decide) (by decide)) (g := (mkF mM 20 (Lc_toBytes_8 a1 b_101) [(.int c3), (.int (3 : Int32)), (.ref b_101)])) rfl (by rw [hml]; rfl) (argsL := [(.ref b_101), (.int (3 : Int32)), (.int c3)]) (rest := []) (lenOf pd_20 rfl) rfl (by show 2 * 0 + _ ≤ _; exact Nat.le_of_eq rfl) (hb hby d52_14_20) (fun _ _ => ⟨rfl, e114, ble rfl, ble rfl⟩)
  dsimp only [Pt.U, Pt.locs, Pt.cells, Pt.slots] at X118 l118 y118 z118 st118 hQ118
  subst y118 z118
  obtain ⟨h118, e118⟩ : ∃ z, T118.heap = z := ⟨_, rfl⟩
  rw [e118] at hQ118
  obtain ⟨rfl, N118q, Kp118, p118_V_a⟩ := hQ118
  have Sz5 : h114.size ≤ h118.size := Kp118.1
  have N118 : Fr n0 L118 := by rw [l118]; exact Fr.app N114 N118q
  have K120 : Keep h0 h101 [] := (Keep.refl h0 []).trans Kp101 all0
  have K121 : Keep h0 h104 [] := K120.trans Kp104 (allS (Or.inr (by omega : @LE.le Nat _ h0.size b_101)) all0)
  have K122 : Keep h0 h110 [] := K121.trans Kp110 (allS (Or.inr (by omega : @LE.le Nat _ h0.size b_101)) all0)
  have K123 : Keep h0 h114 [] := K122.trans Kp114 (allS (Or.inr (by omega : @LE.le Nat _ h0.size b_101)) all0)
  have K124 : Keep h0 h118 [] := K123.trans Kp118 (allS (Or.inr (by omega : @LE.le Nat _ h0.size b_101)) all0)
  obtain ⟨fs, hr, hrun, hended, hW, hsame⟩ := X118.leave (v := some (.ref b_101)) (fun h => by rw [Bd.returns] at h; cases h)
  refine ⟨_, _, castTop (ef_toBytes mM a1 k1 c0 c1 c2 c3) ?_, hrun, hended, _, _, rfl, ?_, ⟨_, rfl⟩, hW, hsame.mono (by decide) (by decide)⟩
  · show SS pP eE bS s₁ (mkF mM 0 (Lc_toBytes_0 a1) []) _
    refine XS.iloadN X0.here hx rfl (hb hby d52_14_0) rfl ?_
    show SS pP eE bS s₁ (mkF mM 1 (Lc_toBytes_0 a1) [(.int (4 : Int32))]) _
    refine st101 _ ?_
    show SS pP eE bS T101 (mkF mM 4 (Lc_toBytes_0 a1) [(.ref b_101)]) _
    refine XS.astoreN X101.here hx rfl (hb hby d52_14_4) rfl rfl (l' := (Lc_toBytes_1 a1 b_101)) rfl ?_
    refine XS.iconst X101.here hx rfl (hb hby d52_14_5) ?_
    refine XS.istore X101.here hx rfl (hb hby d52_14_6) rfl (l' := (Lc_toBytes_2 a1 b_101)) rfl ?_
    refine XS.iload X101.here hx rfl (hb hby d52_14_8) rfl ?_
    show SS pP eE bS T101 (mkF mM 10 (Lc_toBytes_2 a1 b_101) [(.int (0 : Int32))]) _
    refine XS.iloadN X101.here hx rfl (hb hby d52_14_10) rfl ?_
    refine XS.icmpNo X101.here hx rfl (hb hby d52_14_11) rfl (tlt (by decide : (0 : Int32) < (4 : Int32))).2.1 ?_
    refine XS.aloadN X101.here hx rfl (hb hby d52_14_14) rfl rfl ?_
    refine XS.iload X101.here hx rfl (hb hby d52_14_15) rfl ?_
    show SS pP eE bS T101 (mkF mM 17 (Lc_toBytes_2 a1 b_101) [(.int (0 : Int32)), (.ref b_101)]) _
    refine XS.aloadN X101.here hx rfl (hb hby d52_14_17) rfl rfl ?_
    refine XS.iloadN X101.here hx rfl (hb hby d52_14_18) rfl ?_
    show SS pP eE bS T101 (mkF mM 19 (Lc_toBytes_2 a1 b_101) [(.int (0 : Int32)), (.ref a1), (.int (0 : Int32)), (.ref b_101)]) _
    refine X101.caload hx (j := (0 : Int32)) (v := (.int c0)) (by rw [e101]; exact Ar103.1) (State.isArrayOf_alike hZ.alike Ar103.2.1) Ar103.2.2 hin103 hat103 (g := (mkF mM 19 (Lc_toBytes_2 a1 b_101) [(.int (0 : Int32)), (.ref a1), (.int (0 : Int32)), (.ref b_101)])) rfl rfl (hb hby d52_14_19) _ ?_
    show SS pP eE bS T101 (mkF mM 20 (Lc_toBytes_2 a1 b_101) [(.int c0), (.int (0 : Int32)), (.ref b_101)]) _
    refine st104 _ ?_
    show SS pP eE bS T104 (mkF mM 23 (Lc_toBytes_2 a1 b_101) []) _
    refine XS.iinc X104.here hx rfl (hb hby d52_14_23) rfl (l' := (Lc_toBytes_3 a1 b_101)) rfl ?_
    refine XS.iinc X104.here hx rfl (hb hby d52_14_26) rfl (l' := (Lc_toBytes_4 a1 b_101)) rfl ?_
    refine XS.goto X104.here hx rfl (pc0 := 29) (pc' := 8) rfl (hb hby d52_14_29) (by decide) (by decide) ?_
    refine XS.iload X104.here hx rfl (hb hby d52_14_8) rfl ?_
    show SS pP eE bS T104 (mkF mM 10 (Lc_toBytes_4 a1 b_101) [(.int (1 : Int32))]) _
    refine XS.iloadN X104.here hx rfl (hb hby d52_14_10) rfl ?_
    refine XS.icmpNo X104.here hx rfl (hb hby d52_14_11) rfl (tlt (by decide : (1 : Int32) < (4 : Int32))).2.1 ?_
    refine XS.aloadN X104.here hx rfl (hb hby d52_14_14) rfl rfl ?_
    refine XS.iload X104.here hx rfl (hb hby d52_14_15) rfl ?_
    show SS pP eE bS T104 (mkF mM 17 (Lc_toBytes_4 a1 b_101) [(.int (1 : Int32)), (.ref b_101)]) _
    refine XS.aloadN X104.here hx rfl (hb hby d52_14_17) rfl rfl ?_
    refine XS.iloadN X104.here hx rfl (hb hby d52_14_18) rfl ?_
    show SS pP eE bS T104 (mkF mM 19 (Lc_toBytes_4 a1 b_101) [(.int (1 : Int32)), (.ref a1), (.int (1 : Int32)), (.ref b_101)]) _
    refine X104.caload hx (j := (1 : Int32)) (v := (.int c1)) (by rw [e104]; exact Ar109.1) (State.isArrayOf_alike hZ.alike Ar109.2.1) Ar109.2.2 hin109 hat109 (g := (mkF mM 19 (Lc_toBytes_4 a1 b_101) [(.int (1 : Int32)), (.ref a1), (.int (1 : Int32)), (.ref b_101)])) rfl rfl (hb hby d52_14_19) _ ?_
    show SS pP eE bS T104 (mkF mM 20 (Lc_toBytes_4 a1 b_101) [(.int c1), (.int (1 : Int32)), (.ref b_101)]) _
    refine st110 _ ?_
    show SS pP eE bS T110 (mkF mM 23 (Lc_toBytes_4 a1 b_101) []) _
    refine XS.iinc X110.here hx rfl (hb hby d52_14_23) rfl (l' := (Lc_toBytes_5 a1 b_101)) rfl ?_
    refine XS.iinc X110.here hx rfl (hb hby d52_14_26) rfl (l' := (Lc_toBytes_6 a1 b_101)) rfl ?_
    refine XS.goto X110.here hx rfl (pc0 := 29) (pc' := 8) rfl (hb hby d52_14_29) (by decide) (by decide) ?_
    refine XS.iload X110.here hx rfl (hb hby d52_14_8) rfl ?_
    show SS pP eE bS T110 (mkF mM 10 (Lc_toBytes_6 a1 b_101) [(.int (2 : Int32))]) _
    refine XS.iloadN X110.here hx rfl (hb hby d52_14_10) rfl ?_
    refine XS.icmpNo X110.here hx rfl (hb hby d52_14_11) rfl (tlt (by decide : (2 : Int32) < (4 : Int32))).2.1 ?_
    refine XS.aloadN X110.here hx rfl (hb hby d52_14_14) rfl rfl ?_
    refine XS.iload X110.here hx rfl (hb hby d52_14_15) rfl ?_
    show SS pP eE bS T110 (mkF mM 17 (Lc_toBytes_6 a1 b_101) [(.int (2 : Int32)), (.ref b_101)]) _
    refine XS.aloadN X110.here hx rfl (hb hby d52_14_17) rfl rfl ?_
    refine XS.iloadN X110.here hx rfl (hb hby d52_14_18) rfl ?_
    show SS pP eE bS T110 (mkF mM 19 (Lc_toBytes_6 a1 b_101) [(.int (2 : Int32)), (.ref a1), (.int (2 : Int32)), (.ref b_101)]) _
    refine X110.caload hx (j := (2 : Int32)) (v := (.int c2)) (by rw [e110]; exact Ar113.1) (State.isArrayOf_alike hZ.alike Ar113.2.1) Ar113.2.2 hin113 hat113 (g := (mkF mM 19 (Lc_toBytes_6 a1 b_101) [(.int (2 : Int32)), (.ref a1), (.int (2 : Int32)), (.ref b_101)])) rfl rfl (hb hby d52_14_19) _ ?_
    show SS pP eE bS T110 (mkF mM 20 (Lc_toBytes_6 a1 b_101) [(.int c2), (.int (2 : Int32)), (.ref b_101)]) _
    refine st114 _ ?_
    show SS pP eE bS T114 (mkF mM 23 (Lc_toBytes_6 a1 b_101) []) _
    refine XS.iinc X114.here hx rfl (hb hby d52_14_23) rfl (l' := (Lc_toBytes_7 a1 b_101)) rfl ?_
    refine XS.iinc X114.here hx rfl (hb hby d52_14_26) rfl (l' := (Lc_toBytes_8 a1 b_101)) rfl ?_
    refine XS.goto X114.here hx rfl (pc0 := 29) (pc' := 8) rfl (hb hby d52_14_29) (by decide) (by decide) ?_
    refine XS.iload X114.here hx rfl (hb hby d52_14_8) rfl ?_
    show SS pP eE bS T114 (mkF mM 10 (Lc_toBytes_8 a1 b_101) [(.int (3 : Int32))]) _
    refine XS.iloadN X114.here hx rfl (hb hby d52_14_10) rfl ?_
    refine XS.icmpNo X114.here hx rfl (hb hby d52_14_11) rfl (tlt (by decide : (3 : Int32) < (4 : Int32))).2.1 ?_
    refine XS.aloadN X114.here hx rfl (hb hby d52_14_14) rfl rfl ?_
    refine XS.iload X114.here hx rfl (hb hby d52_14_15) rfl ?_
    show SS pP eE bS T114 (mkF mM 17 (Lc_toBytes_8 a1 b_101) [(.int (3 : Int32)), (.ref b_101)]) _
    refine XS.aloadN X114.here hx rfl (hb hby d52_14_17) rfl rfl ?_
    refine XS.iloadN X114.here hx rfl (hb hby d52_14_18) rfl ?_
    show SS pP eE bS T114 (mkF mM 19 (Lc_toBytes_8 a1 b_101) [(.int (3 : Int32)), (.ref a1), (.int (3 : Int32)), (.ref b_101)]) _
    refine X114.caload hx (j := (3 : Int32)) (v := (.int c3)) (by rw [e114]; exact Ar117.1) (State.isArrayOf_alike hZ.alike Ar117.2.1) Ar117.2.2 hin117 hat117 (g := (mkF mM 19 (Lc_toBytes_8 a1 b_101) [(.int (3 : Int32)), (.ref a1), (.int (3 : Int32)), (.ref b_101)])) rfl rfl (hb hby d52_14_19) _ ?_
    show SS pP eE bS T114 (mkF mM 20 (Lc_toBytes_8 a1 b_101) [(.int c3), (.int (3 : Int32)), (.ref b_101)]) _
    refine st118 _ ?_
    show SS pP eE bS T118 (mkF mM 23 (Lc_toBytes_8 a1 b_101) []) _
    refine XS.iinc X118.here hx rfl (hb hby d52_14_23) rfl (l' := (Lc_toBytes_9 a1 b_101)) rfl ?_
    refine XS.iinc X118.here hx rfl (hb hby d52_14_26) rfl (l' := (Lc_toBytes_10 a1 b_101)) rfl ?_
    refine XS.goto X118.here hx rfl (pc0 := 29) (pc' := 8) rfl (hb hby d52_14_29) (by decide) (by decide) ?_
    refine XS.iload X118.here hx rfl (hb hby d52_14_8) rfl ?_
    show SS pP eE bS T118 (mkF mM 10 (Lc_toBytes_10 a1 b_101) [(.int (4 : Int32))]) _
    refine XS.iloadN X118.here hx rfl (hb hby d52_14_10) rfl ?_
    refine XS.icmpYes X118.here hx rfl (pc0 := 11) (pc' := 32) rfl (hb hby d52_14_11) rfl (flt (by decide : ¬ ((4 : Int32) < (4 : Int32)))).2.1 (by decide) (by decide) ?_
    refine XS.aloadN X118.here hx rfl (hb hby d52_14_32) rfl rfl ?_
    show SS pP eE bS T118 (mkF mM 33 (Lc_toBytes_10 a1 b_101) [(.ref b_101)]) _
    jvm_step X118.here [X118.here.top, hx, (hb hby d52_14_33), X118.method', Bd.returns, Value.isRef, FieldType.isReference]
    first | (intro acts; rw [hr _ acts rfl rfl rfl]) | rw [hr _ _ rfl rfl rfl]
    exact Steps.refl _
  · show Q_toBytes Z a1 k1 c0 c1 c2 c3 h0 n0 _ T118.heap _
    rw [e118]
    exact ⟨b_101, k2_101, rfl, N118, K124, p118_V_a, (by omega)⟩
abbrev c52_15 := jdk_52_method_15_code
theorem d52_15_0 : decode c52_15 0 = .ok (.iload_n 1, 1) := by decide +kernel
theorem d52_15_1 : decode c52_15 1 = .ok (.aload_n 0, 1) := by decide +kernel
theorem d52_15_2 : decode c52_15 2 = .ok (.arraylength, 1) := by decide +kernel
theorem d52_15_3 : decode c52_15 3 = .ok (.isub, 1) := by decide +kernel
theorem d52_15_4 : decode c52_15 4 = .ok (.bipush 31, 2) := by decide +kernel
theorem d52_15_6 : decode c52_15 6 = .ok (.iushr, 1) := by decide +kernel
theorem d52_15_7 : decode c52_15 7 = .ok (.i2b, 1) := by decide +kernel
theorem d52_15_8 : decode c52_15 8 = .ok (.ireturn, 1) := by decide +kernel
abbrev y5_ : MethodName := ⟨"java/lang/StringUTF16", "coderFromArrayLen", "([BI)B"⟩
def Q_coderAL (Z : State) (a : Addr) (k : ClassId) (z : Int32) (vs : List Value) (n : Int32) (co : Int32) (h0 : Heap) (n0 : Nat) (xv : Option Value) (xh : Heap) (xL : List Loc) : Prop := xv = some (.int co) ∧ Fr n0 xL ∧ xh = h0
theorem ef_coderAL (mM : MethodId) (a : Addr) (k : ClassId) (z : Int32) (vs : List Value) (n : Int32) (co : Int32) : entryFrame mM #[(.ref a), (.int n)] 2 = mkF mM 0 #[.val (.ref a), .val (.int n)] [] := by
  first | (simp [entryFrame, mkF, argsToLocals, Value.category]; done) | rfl
theorem rm_coderAL (l : Launch) (Z : State) (a0 : Array Value) (hw : HW a0 Z) (ws : List Jvm.Cond) (a : Addr) (k : ClassId) (z : Int32) (vs : List Value) (n : Int32) (co : Int32) (h0 : Heap) (n0 : Nat) (Z0 : n0 ≤ h0.size) (V_a : Arv Z h0 a k .byte z vs (.int (0 : Int32))) (hzc : ((((n - z).toUInt32 >>> ((31 : Int32) &&& 31).toUInt32).toInt32).toInt8.toInt32) = co) (hcb : co.toInt8.toInt32 = co) :
    MetFree l y5_ (head1 (Jvm.Cond.code y5_ jdk_52_method_15_code 2 (some .byte) :: ws) r0_0_0_0) (fun xa xU => xa = #[(.ref a), (.int n)] ∧ Z.Warmed39 xU.vm ∧ xU.heap = h0) (fun _ _ _ _ _ => True) (fun _ xU xo xU' => ∃ xv xL, xo = .returned xv ∧ Q_coderAL Z a k z vs n co h0 n0 xv xU'.heap xL ∧ FrameEnd xU xo xU' xL r0_0_0_0.cells r0_0_0_0.slots) := by
  refine MetFree.of_bodySF (plainFor_of_name pn_java_lang_StringUTF16) hisR ?_
  intro pP eE sS mM argS bS methS cC s₁ Bd hml0 hP hK
  obtain ⟨rfl, hZ, hh⟩ := hP
  have hx := Bd.exec
  have hby := Bd.bytes
  have hml : cC.maxLocals = 2 := hml0
  have hown : sS.vm.findClass "java/lang/StringUTF16" = some mM.cls := findClass_of_methodNamed Bd.named
  have hnm := (name_of_methodNamed Bd.named Bd.method).1
  have X0 : Stand pP l eE r0_0_0_0 sS mM #[(.ref a), (.int n)] bS methS cC s₁ [] 0 0 := Stand.of_body Bd
  have e0 : s₁.heap = h0 := by rw [← hh, Bd.state]; rfl
  have N0 := Fr.nil n0
  obtain ⟨cl101, Ar101, q101, S101, Ng101, Ha101, Ga101⟩ := id V_a
  obtain ⟨fs, hr, hrun, hended, hW, hsame⟩ := X0.leave (v := some (.int (nar .byte co))) (fun h => by rw [Bd.returns] at h; cases h)
  refine ⟨_, _, castTop (ef_coderAL mM a k z vs n co) ?_, hrun, hended, _, _, rfl, ?_, ⟨_, rfl⟩, hW, hsame.mono (by decide) (by decide)⟩
  · show SS pP eE bS s₁ (mkF mM 0 #[.val (.ref a), .val (.int n)] []) _
    refine XS.iloadN X0.here hx rfl (hb hby d52_15_0) rfl ?_
    refine XS.aloadN X0.here hx rfl (hb hby d52_15_1) rfl rfl ?_
    show SS pP eE bS s₁ (mkF mM 2 #[.val (.ref a), .val (.int n)] [(.ref a), (.int n)]) _
    refine X0.arraylength hx (by rw [e0]; exact Ar101.1) (State.isArrayOf_alike hZ.alike Ar101.2.1) (g := (mkF mM 2 #[.val (.ref a), .val (.int n)] [(.ref a), (.int n)])) rfl rfl (hb hby d52_15_2) _ ?_
    rw [len_of S101 Ng101]
    show SS pP eE bS s₁ (mkF mM 3 #[.val (.ref a), .val (.int n)] [(.int z), (.int n)]) _
    refine XS.isub X0.here hx rfl (hb hby d52_15_3) rfl ?_
    refine XS.bipush X0.here hx rfl (hb hby d52_15_4) ?_
    refine XS.iushr X0.here hx rfl (hb hby d52_15_6) rfl ?_
    refine XS.i2b X0.here hx rfl (hb hby d52_15_7) rfl ?_
    show SS pP eE bS s₁ (mkF mM 8 #[.val (.ref a), .val (.int n)] [(.int ((((n - z).toUInt32 >>> ((31 : Int32) &&& 31).toUInt32).toInt32).toInt8.toInt32))]) _
    rw [show ((((n - z).toUInt32 >>> ((31 : Int32) &&& 31).toUInt32).toInt32).toInt8.toInt32) = co from hzc]
    show SS pP eE bS s₁ (mkF mM 8 #[.val (.ref a), .val (.int n)] [(.int co)]) _
    exact retN X0 hx (t := .byte) Bd.returns (by simp) (hb hby d52_15_8) hr
  · show Q_coderAL Z a k z vs n co h0 n0 _ s₁.heap _
    rw [e0]
    exact ⟨own_retb hcb, N0, rfl⟩
abbrev c52_6 := jdk_52_method_6_code
theorem d52_6_0 : decode c52_6 0 = .ok (.aload_n 0, 1) := by decide +kernel
theorem d52_6_1 : decode c52_6 1 = .ok (.arraylength, 1) := by decide +kernel
theorem d52_6_2 : decode c52_6 2 = .ok (.iconst 1, 1) := by decide +kernel
theorem d52_6_3 : decode c52_6 3 = .ok (.ishr, 1) := by decide +kernel
theorem d52_6_4 : decode c52_6 4 = .ok (.ireturn, 1) := by decide +kernel
abbrev y6_ : MethodName := ⟨"java/lang/StringUTF16", "length", "([B)I"⟩
def Q_len16 (Z : State) (a : Addr) (k : ClassId) (z : Int32) (vs : List Value) (n : Int32) (h0 : Heap) (n0 : Nat) (xv : Option Value) (xh : Heap) (xL : List Loc) : Prop := xv = some (.int n) ∧ Fr n0 xL ∧ xh = h0
theorem ef_len16 (mM : MethodId) (a : Addr) (k : ClassId) (z : Int32) (vs : List Value) (n : Int32) : entryFrame mM #[(.ref a)] 1 = mkF mM 0 #[.val (.ref a)] [] := by
  first | (simp [entryFrame, mkF, argsToLocals, Value.category]; done) | rfl
theorem rm_len16 (l : Launch) (Z : State) (a0 : Array Value) (hw : HW a0 Z) (ws : List Jvm.Cond) (a : Addr) (k : ClassId) (z : Int32) (vs : List Value) (n : Int32) (h0 : Heap) (n0 : Nat) (Z0 : n0 ≤ h0.size) (V_a : Arv Z h0 a k .byte z vs (.int (0 : Int32))) (hzn : (z >>> ((1 : Int32) &&& 31)) = n) :
    MetFree l y6_ (head1 (Jvm.Cond.code y6_ jdk_52_method_6_code 1 (some .int) :: ws) r0_0_0_0) (fun xa xU => xa = #[(.ref a)] ∧ Z.Warmed39 xU.vm ∧ xU.heap = h0) (fun _ _ _ _ _ => True) (fun _ xU xo xU' => ∃ xv xL, xo = .returned xv ∧ Q_len16 Z a k z vs n h0 n0 xv xU'.heap xL ∧ FrameEnd xU xo xU' xL r0_0_0_0.cells r0_0_0_0.slots) := by
  refine MetFree.of_bodySF (plainFor_of_name pn_java_lang_StringUTF16) hisR ?_
  intro pP eE sS mM argS bS methS cC s₁ Bd hml0 hP hK
  obtain ⟨rfl, hZ, hh⟩ := hP
  have hx := Bd.exec
  have hby := Bd.bytes
  have hml : cC.maxLocals = 1 := hml0
  have hown : sS.vm.findClass "java/lang/StringUTF16" = some mM.cls := findClass_of_methodNamed Bd.named
  have hnm := (name_of_methodNamed Bd.named Bd.method).1
  have X0 : Stand pP l eE r0_0_0_0 sS mM #[(.ref a)] bS methS cC s₁ [] 0 0 := Stand.of_body Bd
  have e0 : s₁.heap = h0 := by rw [← hh, Bd.state]; rfl
  have N0 := Fr.nil n0
  obtain ⟨cl101, Ar101, q101, S101, Ng101, Ha101, Ga101⟩ := id V_a
  obtain ⟨fs, hr, hrun, hended, hW, hsame⟩ := X0.leave (v := some (.int n)) (fun h => by rw [Bd.returns] at h; cases h)
  refine ⟨_, _, castTop (ef_len16 mM a k z vs n) ?_, hrun, hended, _, _, rfl, ?_, ⟨_, rfl⟩, hW, hsame.mono (by decide) (by decide)⟩
  · show SS pP eE bS s₁ (mkF mM 0 #[.val (.ref a)] []) _
    refine XS.aloadN X0.here hx rfl (hb hby d52_6_0) rfl rfl ?_
    show SS pP eE bS s₁ (mkF mM 1 #[.val (.ref a)] [(.ref a)]) _
    refine X0.arraylength hx (by rw [e0]; exact Ar101.1) (State.isArrayOf_alike hZ.alike Ar101.2.1) (g := (mkF mM 1 #[.val (.ref a)] [(.ref a)])) rfl rfl (hb hby d52_6_1) _ ?_
    rw [len_of S101 Ng101]
    show SS pP eE bS s₁ (mkF mM 2 #[.val (.ref a)] [(.int z)]) _
    refine XS.iconst X0.here hx rfl (hb hby d52_6_2) ?_
    refine XS.ishr X0.here hx rfl (hb hby d52_6_3) rfl ?_
    show SS pP eE bS s₁ (mkF mM 4 #[.val (.ref a)] [(.int (z >>> ((1 : Int32) &&& 31)))]) _
    rw [show (z >>> ((1 : Int32) &&& 31)) = n from hzn]
    show SS pP eE bS s₁ (mkF mM 4 #[.val (.ref a)] [(.int n)]) _
    exact retI X0 hx Bd.returns (hb hby d52_6_4) hr
  · show Q_len16 Z a k z vs n h0 n0 _ s₁.heap _
    rw [e0]
    exact ⟨rfl, N0, rfl⟩
-- MARK new
def Q_c0 (Z : State) (a2 : Addr) (ds : List Int32) (h0 : Heap) (n0 : Nat) (xv : Option Value) (xh : Heap) (xL : List Loc) : Prop := ∃ jj : Int32, ∃ dd : Int32, xv = some (.int jj) ∧ Fr n0 xL ∧ Keep h0 xh [a2] ∧ JdL ds jj dd
abbrev c52_21 := jdk_52_method_21_code
theorem d52_21_0 : decode c52_21 0 = .ok (.iconst 0, 1) := by decide +kernel
theorem d52_21_1 : decode c52_21 1 = .ok (.istore 5, 2) := by decide +kernel
theorem d52_21_3 : decode c52_21 3 = .ok (.iload 5, 2) := by decide +kernel
theorem d52_21_5 : decode c52_21 5 = .ok (.iload 4, 2) := by decide +kernel
theorem d52_21_7 : decode c52_21 7 = .ok (.if_icmp .ge 37, 3) := by decide +kernel
theorem d52_21_10 : decode c52_21 10 = .ok (.aload_n 0, 1) := by decide +kernel
theorem d52_21_11 : decode c52_21 11 = .ok (.iload_n 1, 1) := by decide +kernel
theorem d52_21_12 : decode c52_21 12 = .ok (.caload, 1) := by decide +kernel
theorem d52_21_13 : decode c52_21 13 = .ok (.istore 6, 2) := by decide +kernel
theorem d52_21_15 : decode c52_21 15 = .ok (.iload 6, 2) := by decide +kernel
theorem d52_21_17 : decode c52_21 17 = .ok (.sipush 255, 3) := by decide +kernel
theorem d52_21_20 : decode c52_21 20 = .ok (.if_icmp .le 6, 3) := by decide +kernel
theorem d52_21_23 : decode c52_21 23 = .ok (.iload 5, 2) := by decide +kernel
theorem d52_21_25 : decode c52_21 25 = .ok (.ireturn, 1) := by decide +kernel
theorem d52_21_26 : decode c52_21 26 = .ok (.aload_n 2, 1) := by decide +kernel
theorem d52_21_27 : decode c52_21 27 = .ok (.iload_n 3, 1) := by decide +kernel
theorem d52_21_28 : decode c52_21 28 = .ok (.iload 6, 2) := by decide +kernel
theorem d52_21_30 : decode c52_21 30 = .ok (.i2b, 1) := by decide +kernel
theorem d52_21_31 : decode c52_21 31 = .ok (.bastore, 1) := by decide +kernel
theorem d52_21_32 : decode c52_21 32 = .ok (.iinc 1 1, 3) := by decide +kernel
theorem d52_21_35 : decode c52_21 35 = .ok (.iinc 3 1, 3) := by decide +kernel
theorem d52_21_38 : decode c52_21 38 = .ok (.iinc 5 1, 3) := by decide +kernel
theorem d52_21_41 : decode c52_21 41 = .ok (.goto (-38), 3) := by decide +kernel
theorem d52_21_44 : decode c52_21 44 = .ok (.iload 4, 2) := by decide +kernel
theorem d52_21_46 : decode c52_21 46 = .ok (.ireturn, 1) := by decide +kernel
abbrev y7_ : MethodName := ⟨"java/lang/StringUTF16", "compress", "([CI[BII)I"⟩
def Q_cc0_4 (Z : State) (a1 : Addr) (a2 : Addr) (k1 : ClassId) (k2 : ClassId) (c0 : Int32) (c1 : Int32) (c2 : Int32) (c3 : Int32) (h0 : Heap) (n0 : Nat) (xv : Option Value) (xh : Heap) (xL : List Loc) : Prop := xv = some (.int (4 : Int32)) ∧ Fr n0 xL ∧ Keep h0 xh [a2] ∧ Arv Z xh a2 k2 .byte (4 : Int32) [(.int c0.toInt8.toInt32), (.int c1.toInt8.toInt32), (.int c2.toInt8.toInt32), (.int c3.toInt8.toInt32)] (.int (0 : Int32))
abbrev Lc_cc0_4_0 (a1 : Addr) (a2 : Addr) : Array Slot := #[.val (.ref a1), .val (.int (0 : Int32)), .val (.ref a2), .val (.int (0 : Int32)), .val (.int (4 : Int32)), .unset, .unset]
abbrev Lc_cc0_4_1 (a1 : Addr) (a2 : Addr) : Array Slot := #[.val (.ref a1), .val (.int (0 : Int32)), .val (.ref a2), .val (.int (0 : Int32)), .val (.int (4 : Int32)), .val (.int (0 : Int32)), .unset]
abbrev Lc_cc0_4_2 (a1 : Addr) (a2 : Addr) (c0 : Int32) : Array Slot := #[.val (.ref a1), .val (.int (0 : Int32)), .val (.ref a2), .val (.int (0 : Int32)), .val (.int (4 : Int32)), .val (.int (0 : Int32)), .val (.int c0)]
abbrev Lc_cc0_4_3 (a1 : Addr) (a2 : Addr) (c0 : Int32) : Array Slot := #[.val (.ref a1), .val (.int (1 : Int32)), .val (.ref a2), .val (.int (0 : Int32)), .val (.int (4 : Int32)), .val (.int (0 : Int32)), .val (.int c0)]
abbrev Lc_cc0_4_4 (a1 : Addr) (a2 : Addr) (c0 : Int32) : Array Slot := #[.val (.ref a1), .val (.int (1 : Int32)), .val (.ref a2), .val (.int (1 : Int32)), .val (.int (4 : Int32)), .val (.int (0 : Int32)), .val (.int c0)]
abbrev Lc_cc0_4_5 (a1 : Addr) (a2 : Addr) (c0 : Int32) : Array Slot := #[.val (.ref a1), .val (.int (1 : Int32)), .val (.ref a2), .val (.int (1 : Int32)), .val (.int (4 : Int32)), .val (.int (1 : Int32)), .val (.int c0)]
abbrev Lc_cc0_4_6 (a1 : Addr) (a2 : Addr) (c1 : Int32) : Array Slot := #[.val (.ref a1), .val (.int (1 : Int32)), .val (.ref a2), .val (.int (1 : Int32)), .val (.int (4 : Int32)), .val (.int (1 : Int32)), .val (.int c1)]
abbrev Lc_cc0_4_7 (a1 : Addr) (a2 : Addr) (c1 : Int32) : Array Slot := #[.val (.ref a1), .val (.int (2 : Int32)), .val (.ref a2), .val (.int (1 : Int32)), .val (.int (4 : Int32)), .val (.int (1 : Int32)), .val (.int c1)]
abbrev Lc_cc0_4_8 (a1 : Addr) (a2 : Addr) (c1 : Int32) : Array Slot := #[.val (.ref a1), .val (.int (2 : Int32)), .val (.ref a2), .val (.int (2 : Int32)), .val (.int (4 : Int32)), .val (.int (1 : Int32)), .val (.int c1)]
abbrev Lc_cc0_4_9 (a1 : Addr) (a2 : Addr) (c1 : Int32) : Array Slot := #[.val (.ref a1), .val (.int (2 : Int32)), .val (.ref a2), .val (.int (2 : Int32)), .val (.int (4 : Int32)), .val (.int (2 : Int32)), .val (.int c1)]
abbrev Lc_cc0_4_10 (a1 : Addr) (a2 : Addr) (c2 : Int32) : Array Slot := #[.val (.ref a1), .val (.int (2 : Int32)), .val (.ref a2), .val (.int (2 : Int32)), .val (.int (4 : Int32)), .val (.int (2 : Int32)), .val (.int c2)]
abbrev Lc_cc0_4_11 (a1 : Addr) (a2 : Addr) (c2 : Int32) : Array Slot := #[.val (.ref a1), .val (.int (3 : Int32)), .val (.ref a2), .val (.int (2 : Int32)), .val (.int (4 : Int32)), .val (.int (2 : Int32)), .val (.int c2)]
abbrev Lc_cc0_4_12 (a1 : Addr) (a2 : Addr) (c2 : Int32) : Array Slot := #[.val (.ref a1), .val (.int (3 : Int32)), .val (.ref a2), .val (.int (3 : Int32)), .val (.int (4 : Int32)), .val (.int (2 : Int32)), .val (.int c2)]
abbrev Lc_cc0_4_13 (a1 : Addr) (a2 : Addr) (c2 : Int32) : Array Slot := #[.val (.ref a1), .val (.int (3 : Int32)), .val (.ref a2), .val (.int (3 : Int32)), .val (.int (4 : Int32)), .val (.int (3 : Int32)), .val (.int c2)]
abbrev Lc_cc0_4_14 (a1 : Addr) (a2 : Addr) (c3 : Int32) : Array Slot := #[.val (.ref a1), .val (.int (3 : Int32)), .val (.ref a2), .val (.int (3 : Int32)), .val (.int (4 : Int32)), .val (.int (3 : Int32)), .val (.int c3)]
abbrev Lc_cc0_4_15 (a1 : Addr) (a2 : Addr) (c3 : Int32) : Array Slot := #[.val (.ref a1), .val (.int (4 : Int32)), .val (.ref a2), .val (.int (3 : Int32)), .val (.int (4 : Int32)), .val (.int (3 : Int32)), .val (.int c3)]
abbrev Lc_cc0_4_16 (a1 : Addr) (a2 : Addr) (c3 : Int32) : Array Slot := #[.val (.ref a1), .val (.int (4 : Int32)), .val (.ref a2), .val (.int (4 : Int32)), .val (.int (4 : Int32)), .val (.int (3 : Int32)), .val (.int c3)]
abbrev Lc_cc0_4_17 (a1 : Addr) (a2 : Addr) (c3 : Int32) : Array Slot := #[.val (.ref a1), .val (.int (4 : Int32)), .val (.ref a2), .val (.int (4 : Int32)), .val (.int (4 : Int32)), .val (.int (4 : Int32)), .val (.int c3)]
theorem ef_cc0_4 (mM : MethodId) (a1 : Addr) (a2 : Addr) (k1 : ClassId) (k2 : ClassId) (c0 : Int32) (c1 : Int32) (c2 : Int32) (c3 : Int32) : entryFrame mM #[(.ref a1), (.int (0 : Int32)), (.ref a2), (.int (0 : Int32)), (.int (4 : Int32))] 7 = mkF mM 0 #[.val (.ref a1), .val (.int (0 : Int32)), .val (.ref a2), .val (.int (0 : Int32)), .val (.int (4 : Int32)), .unset, .unset] [] := by
  first | (simp [entryFrame, mkF, argsToLocals, Value.category]; done) | rfl
theorem rm_cc0_4 (l : Launch) (Z : State) (a0 : Array Value) (hw : HW a0 Z) (ws : List Jvm.Cond) (a1 : Addr) (a2 : Addr) (k1 : ClassId) (k2 : ClassId) (c0 : Int32) (c1 : Int32) (c2 : Int32) (c3 : Int32) (h0 : Heap) (n0 : Nat) (Z0 : n0 ≤ h0.size) (V_a1 : Arv Z h0 a1 k1 .char (4 : Int32) [(.int c0), (.int c1), (.int c2), (.int c3)] (.int (0 : Int32))) (V_a2 : Arv Z h0 a2 k2 .byte (4 : Int32) [(.int (0 : Int32)), (.int (0 : Int32)), (.int (0 : Int32)), (.int (0 : Int32))] (.int (0 : Int32))) (ne_a1_a2 : @Ne Nat a1 a2) (g_a2 : @LE.le Nat _ n0 a2) (q0 : ¬ ((255 : Int32) < c0)) (q1 : ¬ ((255 : Int32) < c1)) (q2 : ¬ ((255 : Int32) < c2)) (q3 : ¬ ((255 : Int32) < c3)) :
    MetFree l y7_ (head1 (Jvm.Cond.code y7_ jdk_52_method_21_code 7 (some .int) :: ws) r0_0_0_0) (fun xa xU => xa = #[(.ref a1), (.int (0 : Int32)), (.ref a2), (.int (0 : Int32)), (.int (4 : Int32))] ∧ Z.Warmed39 xU.vm ∧ xU.heap = h0) (fun _ _ _ _ _ => True) (fun _ xU xo xU' => ∃ xv xL, xo = .returned xv ∧ Q_cc0_4 Z a1 a2 k1 k2 c0 c1 c2 c3 h0 n0 xv xU'.heap xL ∧ FrameEnd xU xo xU' xL r0_0_0_0.cells r0_0_0_0.slots) := by
  refine MetFree.of_bodySF (plainFor_of_name pn_java_lang_StringUTF16) hisR ?_
  intro pP eE sS mM argS bS methS cC s₁ Bd hml0 hP hK
  obtain ⟨rfl, hZ, hh⟩ := hP
  have hx := Bd.exec
  have hby := Bd.bytes
  have hml : cC.maxLocals = 7 := hml0
  have hown : sS.vm.findClass "java/lang/StringUTF16" = some mM.cls := findClass_of_methodNamed Bd.named
  have hnm := (name_of_methodNamed Bd.named Bd.method).1
  have X0 : Stand pP l eE r0_0_0_0 sS mM #[(.ref a1), (.int (0 : Int32)), (.ref a2), (.int (0 : Int32)), (.int (4 : Int32))] bS methS cC s₁ [] 0 0 := Stand.of_body Bd
  have e0 : s₁.heap = h0 := by rw [← hh, Bd.state]; rfl
  have N0 := Fr.nil n0
  obtain ⟨cl101, Ar101, q101, S101, Ng101, Ha101, Ga101⟩ := id V_a1
  have hin101 : ¬ ((0 : Int32) < 0 ∨ cl101.slots.size ≤ ((0 : Int32)).toNatClampNeg) := inb_of S101 ⟨by decide, by decide⟩
  have hat101 : cl101.slots[((0 : Int32)).toNatClampNeg]? = some (.int c0) := Ha101.at hin101 (rfl)
  obtain ⟨cl102, Ar102, q102, S102, Ng102, Ha102, Ga102⟩ := id V_a2
  have hin102 : ¬ ((0 : Int32) < 0 ∨ cl102.slots.size ≤ ((0 : Int32)).toNatClampNeg) := inb_of S102 ⟨by decide, by decide⟩
  obtain ⟨T103, h103, X103, e103, W103, st103⟩ := stB X0 hx hZ e0 Ar102 (j := (0 : Int32)) hin102 (g := (mkF mM 31 (Lc_cc0_4_2 a1 a2 c0) [(.int (c0.toInt8.toInt32)), (.int (0 : Int32)), (.ref a2)])) rfl rfl (hb hby d52_21_31)
  have Sz1 : h0.size ≤ h103.size := Nat.le_of_eq (Wr.size W103).symm
  have Vs103 := Arv.set Ar102 q102 S102 Ng102 Ha102 Ga102 (fits_nar_byte _) W103 0 rfl (Nat.le_of_ble_eq_true rfl)
  have Vt103 : Arv Z h103 a2 k2 .byte (4 : Int32) [(.int c0.toInt8.toInt32), (.int (0 : Int32)), (.int (0 : Int32)), (.int (0 : Int32))] (.int (0 : Int32)) := by
    have q : Arv Z h103 a2 k2 .byte (4 : Int32) [(.int (c0.toInt8.toInt32).toInt8.toInt32), (.int (0 : Int32)), (.int (0 : Int32)), (.int (0 : Int32))] (.int (0 : Int32)) := Vs103
    rw [show ((.int (c0.toInt8.toInt32).toInt8.toInt32) : Value) = (.int c0.toInt8.toInt32) from congrArg Value.int (own_b8 c0)] at q
    exact q
  have N103 := Fr.snoc X103 N0 g_a2
  have c104_V_a1 : Arv Z h103 a1 k1 .char (4 : Int32) [(.int c0), (.int c1), (.int c2), (.int c3)] (.int (0 : Int32)) := V_a1.other W103 ne_a1_a2
  obtain ⟨cl105, Ar105, q105, S105, Ng105, Ha105, Ga105⟩ := id c104_V_a1
  have hin105 : ¬ ((1 : Int32) < 0 ∨ cl105.slots.size ≤ ((1 : Int32)).toNatClampNeg) := inb_of S105 ⟨by decide, by decide⟩
  have hat105 : cl105.slots[((1 : Int32)).toNatClampNeg]? = some (.int c1) := Ha105.at hin105 (rfl)
  obtain ⟨cl106, Ar106, q106, S106, Ng106, Ha106, Ga106⟩ := id Vt103
  have hin106 : ¬ ((1 : Int32) < 0 ∨ cl106.slots.size ≤ ((1 : Int32)).toNatClampNeg) := inb_of S106 ⟨by decide, by decide⟩
  obtain ⟨T107, h107, X107, e107, W107, st107⟩ := stB X103 hx hZ e103 Ar106 (j := (1 : Int32)) hin106 (g := (mkF mM 31 (Lc_cc0_4_6 a1 a2 c1) [(.int (c1.toInt8.toInt32)), (.int (1 : Int32)), (.ref a2)])) rfl rfl (hb hby d52_21_31)
  have Sz2 : h103.size ≤ h107.size := Nat.le_of_eq (Wr.size W107).symm
  have Vs107 := Arv.set Ar106 q106 S106 Ng106 Ha106 Ga106 (fits_nar_byte _) W107 1 rfl (Nat.le_of_ble_eq_true rfl)
  have Vt107 : Arv Z h107 a2 k2 .byte (4 : Int32) [(.int c0.toInt8.toInt32), (.int c1.toInt8.toInt32), (.int (0 : Int32)), (.int (0 : Int32))] (.int (0 : Int32)) := by
    have q : Arv Z h107 a2 k2 .byte (4 : Int32) [(.int c0.toInt8.toInt32), (.int (c1.toInt8.toInt32).toInt8.toInt32), (.int (0 : Int32)), (.int (0 : Int32))] (.int (0 : Int32)) := Vs107
    rw [show ((.int (c1.toInt8.toInt32).toInt8.toInt32) : Value) = (.int c1.toInt8.toInt32) from congrArg Value.int (own_b8 c1)] at q
    exact q
  have N107 := Fr.snoc X107 N103 g_a2
  have c108_V_a1 : Arv Z h107 a1 k1 .char (4 : Int32) [(.int c0), (.int c1), (.int c2), (.int c3)] (.int (0 : Int32)) := c104_V_a1.other W107 ne_a1_a2
  obtain ⟨cl109, Ar109, q109, S109, Ng109, Ha109, Ga109⟩ := id c108_V_a1
  have hin109 : ¬ ((2 : Int32) < 0 ∨ cl109.slots.size ≤ ((2 : Int32)).toNatClampNeg) := inb_of S109 ⟨by decide, by decide⟩
  have hat109 : cl109.slots[((2 : Int32)).toNatClampNeg]? = some (.int c2) := Ha109.at hin109 (rfl)
  obtain ⟨cl110, Ar110, q110, S110, Ng110, Ha110, Ga110⟩ := id Vt107
  have hin110 : ¬ ((2 : Int32) < 0 ∨ cl110.slots.size ≤ ((2 : Int32)).toNatClampNeg) := inb_of S110 ⟨by decide, by decide⟩
  obtain ⟨T111, h111, X111, e111, W111, st111⟩ := stB X107 hx hZ e107 Ar110 (j := (2 : Int32)) hin110 (g := (mkF mM 31 (Lc_cc0_4_10 a1 a2 c2) [(.int (c2.toInt8.toInt32)), (.int (2 : Int32)), (.ref a2)])) rfl rfl (hb hby d52_21_31)
  have Sz3 : h107.size ≤ h111.size := Nat.le_of_eq (Wr.size W111).symm
  have Vs111 := Arv.set Ar110 q110 S110 Ng110 Ha110 Ga110 (fits_nar_byte _) W111 2 rfl (Nat.le_of_ble_eq_true rfl)
  have Vt111 : Arv Z h111 a2 k2 .byte (4 : Int32) [(.int c0.toInt8.toInt32), (.int c1.toInt8.toInt32), (.int c2.toInt8.toInt32), (.int (0 : Int32))] (.int (0 : Int32)) := by
    have q : Arv Z h111 a2 k2 .byte (4 : Int32) [(.int c0.toInt8.toInt32), (.int c1.toInt8.toInt32), (.int (c2.toInt8.toInt32).toInt8.toInt32), (.int (0 : Int32))] (.int (0 : Int32)) := Vs111
    rw [show ((.int (c2.toInt8.toInt32).toInt8.toInt32) : Value) = (.int c2.toInt8.toInt32) from congrArg Value.int (own_b8 c2)] at q
    exact q
  have N111 := Fr.snoc X111 N107 g_a2
  have c112_V_a1 : Arv Z h111 a1 k1 .char (4 : Int32) [(.int c0), (.int c1), (.int c2), (.int c3)] (.int (0 : Int32)) := c108_V_a1.other W111 ne_a1_a2
  obtain ⟨cl113, Ar113, q113, S113, Ng113, Ha113, Ga113⟩ := id c112_V_a1
  have hin113 : ¬ ((3 : Int32) < 0 ∨ cl113.slots.size ≤ ((3 : Int32)).toNatClampNeg) := inb_of S113 ⟨by decide, by decide⟩
  have hat113 : cl113.slots[((3 : Int32)).toNatClampNeg]? = some (.int c3) := Ha113.at hin113 (rfl)
  obtain ⟨cl114, Ar114, q114, S114, Ng114, Ha114, Ga114⟩ := id Vt111
  have hin114 : ¬ ((3 : Int32) < 0 ∨ cl114.slots.size ≤ ((3 : Int32)).toNatClampNeg) := inb_of S114 ⟨by decide, by decide⟩
  obtain ⟨T115, h115, X115, e115, W115, st115⟩ := stB X111 hx hZ e111 Ar114 (j := (3 : Int32)) hin114 (g := (mkF mM 31 (Lc_cc0_4_14 a1 a2 c3) [(.int (c3.toInt8.toInt32)), (.int (3 : Int32)), (.ref a2)])) rfl rfl (hb hby d52_21_31)
  have Sz4 : h111.size ≤ h115.size := Nat.le_of_eq (Wr.size W115).symm
  have Vs115 := Arv.set Ar114 q114 S114 Ng114 Ha114 Ga114 (fits_nar_byte _) W115 3 rfl (Nat.le_of_ble_eq_true rfl)
  have Vt115 : Arv Z h115 a2 k2 .byte (4 : Int32) [(.int c0.toInt8.toInt32), (.int c1.toInt8.toInt32), (.int c2.toInt8.toInt32), (.int c3.toInt8.toInt32)] (.int (0 : Int32)) := by
    have q : Arv Z h115 a2 k2 .byte (4 : Int32) [(.int c0.toInt8.toInt32), (.int c1.toInt8.toInt32), (.int c2.toInt8.toInt32), (.int (c3.toInt8.toInt32).toInt8.toInt32)] (.int (0 : Int32)) := Vs115
    rw [show ((.int (c3.toInt8.toInt32).toInt8.toInt32) : Value) = (.int c3.toInt8.toInt32) from congrArg Value.int (own_b8 c3)] at q
    exact q
  have N115 := Fr.snoc X115 N111 g_a2
  have K116 : Keep h0 h103 [a2] := (Keep.refl h0 [a2]).wr W103 (Or.inl (List.mem_of_getElem? (i := 0) rfl))
  have K117 : Keep h0 h107 [a2] := K116.wr W107 (Or.inl (List.mem_of_getElem? (i := 0) rfl))
  have K118 : Keep h0 h111 [a2] := K117.wr W111 (Or.inl (List.mem_of_getElem? (i := 0) rfl))
  have K119 : Keep h0 h115 [a2] := K118.wr W115 (Or.inl (List.mem_of_getElem? (i := 0) rfl))
  obtain ⟨fs, hr, hrun, hended, hW, hsame⟩ := X115.leave (v := some (.int (4 : Int32))) (fun h => by rw [Bd.returns] at h; cases h)
  refine ⟨_, _, castTop (ef_cc0_4 mM a1 a2 k1 k2 c0 c1 c2 c3) ?_, hrun, hended, _, _, rfl, ?_, ⟨_, rfl⟩, hW, hsame.mono (by decide) (by decide)⟩
  · show SS pP eE bS s₁ (mkF mM 0 (Lc_cc0_4_0 a1 a2) []) _
    refine XS.iconst X0.here hx rfl (hb hby d52_21_0) ?_
    refine XS.istore X0.here hx rfl (hb hby d52_21_1) rfl (l' := (Lc_cc0_4_1 a1 a2)) rfl ?_
    refine XS.iload X0.here hx rfl (hb hby d52_21_3) rfl ?_
    refine XS.iload X0.here hx rfl (hb hby d52_21_5) rfl ?_
    show SS pP eE bS s₁ (mkF mM 7 (Lc_cc0_4_1 a1 a2) [(.int (4 : Int32)), (.int (0 : Int32))]) _
    refine XS.icmpNo X0.here hx rfl (hb hby d52_21_7) rfl (tlt (by decide : (0 : Int32) < (4 : Int32))).2.1 ?_
    refine XS.aloadN X0.here hx rfl (hb hby d52_21_10) rfl rfl ?_
    refine XS.iloadN X0.here hx rfl (hb hby d52_21_11) rfl ?_
    show SS pP eE bS s₁ (mkF mM 12 (Lc_cc0_4_1 a1 a2) [(.int (0 : Int32)), (.ref a1)]) _
    refine X0.caload hx (j := (0 : Int32)) (v := (.int c0)) (by rw [e0]; exact Ar101.1) (State.isArrayOf_alike hZ.alike Ar101.2.1) Ar101.2.2 hin101 hat101 (g := (mkF mM 12 (Lc_cc0_4_1 a1 a2) [(.int (0 : Int32)), (.ref a1)])) rfl rfl (hb hby d52_21_12) _ ?_
    show SS pP eE bS s₁ (mkF mM 13 (Lc_cc0_4_1 a1 a2) [(.int c0)]) _
    refine XS.istore X0.here hx rfl (hb hby d52_21_13) rfl (l' := (Lc_cc0_4_2 a1 a2 c0)) rfl ?_
    refine XS.iload X0.here hx rfl (hb hby d52_21_15) rfl ?_
    refine XS.sipush X0.here hx rfl (hb hby d52_21_17) ?_
    refine XS.icmpYes X0.here hx rfl (pc0 := 20) (pc' := 26) rfl (hb hby d52_21_20) rfl (flt q0).2.2.2 (by decide) (by decide) ?_
    show SS pP eE bS s₁ (mkF mM 26 (Lc_cc0_4_2 a1 a2 c0) []) _
    refine XS.aloadN X0.here hx rfl (hb hby d52_21_26) rfl rfl ?_
    refine XS.iloadN X0.here hx rfl (hb hby d52_21_27) rfl ?_
    refine XS.iload X0.here hx rfl (hb hby d52_21_28) rfl ?_
    refine XS.i2b X0.here hx rfl (hb hby d52_21_30) rfl ?_
    show SS pP eE bS s₁ (mkF mM 31 (Lc_cc0_4_2 a1 a2 c0) [(.int (c0.toInt8.toInt32)), (.int (0 : Int32)), (.ref a2)]) _
    refine st103 _ ?_
    show SS pP eE bS T103 (mkF mM 32 (Lc_cc0_4_2 a1 a2 c0) []) _
    refine XS.iinc X103.here hx rfl (hb hby d52_21_32) rfl (l' := (Lc_cc0_4_3 a1 a2 c0)) rfl ?_
    refine XS.iinc X103.here hx rfl (hb hby d52_21_35) rfl (l' := (Lc_cc0_4_4 a1 a2 c0)) rfl ?_
    refine XS.iinc X103.here hx rfl (hb hby d52_21_38) rfl (l' := (Lc_cc0_4_5 a1 a2 c0)) rfl ?_
    refine XS.goto X103.here hx rfl (pc0 := 41) (pc' := 3) rfl (hb hby d52_21_41) (by decide) (by decide) ?_
    show SS pP eE bS T103 (mkF mM 3 (Lc_cc0_4_5 a1 a2 c0) []) _
    refine XS.iload X103.here hx rfl (hb hby d52_21_3) rfl ?_
    refine XS.iload X103.here hx rfl (hb hby d52_21_5) rfl ?_
    refine XS.icmpNo X103.here hx rfl (hb hby d52_21_7) rfl (tlt (by decide : (1 : Int32) < (4 : Int32))).2.1 ?_
    refine XS.aloadN X103.here hx rfl (hb hby d52_21_10) rfl rfl ?_
    show SS pP eE bS T103 (mkF mM 11 (Lc_cc0_4_5 a1 a2 c0) [(.ref a1)]) _
    refine XS.iloadN X103.here hx rfl (hb hby d52_21_11) rfl ?_
    show SS pP eE bS T103 (mkF mM 12 (Lc_cc0_4_5 a1 a2 c0) [(.int (1 : Int32)), (.ref a1)]) _
    refine X103.caload hx (j := (1 : Int32)) (v := (.int c1)) (by rw [e103]; exact Ar105.1) (State.isArrayOf_alike hZ.alike Ar105.2.1) Ar105.2.2 hin105 hat105 (g := (mkF mM 12 (Lc_cc0_4_5 a1 a2 c0) [(.int (1 : Int32)), (.ref a1)])) rfl rfl (hb hby d52_21_12) _ ?_
    show SS pP eE bS T103 (mkF mM 13 (Lc_cc0_4_5 a1 a2 c0) [(.int c1)]) _
    refine XS.istore X103.here hx rfl (hb hby d52_21_13) rfl (l' := (Lc_cc0_4_6 a1 a2 c1)) rfl ?_
    refine XS.iload X103.here hx rfl (hb hby d52_21_15) rfl ?_
    refine XS.sipush X103.here hx rfl (hb hby d52_21_17) ?_
    refine XS.icmpYes X103.here hx rfl (pc0 := 20) (pc' := 26) rfl (hb hby d52_21_20) rfl (flt q1).2.2.2 (by decide) (by decide) ?_
    show SS pP eE bS T103 (mkF mM 26 (Lc_cc0_4_6 a1 a2 c1) []) _
    refine XS.aloadN X103.here hx rfl (hb hby d52_21_26) rfl rfl ?_
    refine XS.iloadN X103.here hx rfl (hb hby d52_21_27) rfl ?_
    refine XS.iload X103.here hx rfl (hb hby d52_21_28) rfl ?_
    refine XS.i2b X103.here hx rfl (hb hby d52_21_30) rfl ?_
    show SS pP eE bS T103 (mkF mM 31 (Lc_cc0_4_6 a1 a2 c1) [(.int (c1.toInt8.toInt32)), (.int (1 : Int32)), (.ref a2)]) _
    refine st107 _ ?_
    show SS pP eE bS T107 (mkF mM 32 (Lc_cc0_4_6 a1 a2 c1) []) _
    refine XS.iinc X107.here hx rfl (hb hby d52_21_32) rfl (l' := (Lc_cc0_4_7 a1 a2 c1)) rfl ?_
    refine XS.iinc X107.here hx rfl (hb hby d52_21_35) rfl (l' := (Lc_cc0_4_8 a1 a2 c1)) rfl ?_
    refine XS.iinc X107.here hx rfl (hb hby d52_21_38) rfl (l' := (Lc_cc0_4_9 a1 a2 c1)) rfl ?_
    refine XS.goto X107.here hx rfl (pc0 := 41) (pc' := 3) rfl (hb hby d52_21_41) (by decide) (by decide) ?_
    show SS pP eE bS T107 (mkF mM 3 (Lc_cc0_4_9 a1 a2 c1) []) _
    refine XS.iload X107.here hx rfl (hb hby d52_21_3) rfl ?_
    refine XS.iload X107.here hx rfl (hb hby d52_21_5) rfl ?_
    refine XS.icmpNo X107.here hx rfl (hb hby d52_21_7) rfl (tlt (by decide : (2 : Int32) < (4 : Int32))).2.1 ?_
    refine XS.aloadN X107.here hx rfl (hb hby d52_21_10) rfl rfl ?_
    show SS pP eE bS T107 (mkF mM 11 (Lc_cc0_4_9 a1 a2 c1) [(.ref a1)]) _
    refine XS.iloadN X107.here hx rfl (hb hby d52_21_11) rfl ?_
    show SS pP eE bS T107 (mkF mM 12 (Lc_cc0_4_9 a1 a2 c1) [(.int (2 : Int32)), (.ref a1)]) _
    refine X107.caload hx (j := (2 : Int32)) (v := (.int c2)) (by rw [e107]; exact Ar109.1) (State.isArrayOf_alike hZ.alike Ar109.2.1) Ar109.2.2 hin109 hat109 (g := (mkF mM 12 (Lc_cc0_4_9 a1 a2 c1) [(.int (2 : Int32)), (.ref a1)])) rfl rfl (hb hby d52_21_12) _ ?_
    show SS pP eE bS T107 (mkF mM 13 (Lc_cc0_4_9 a1 a2 c1) [(.int c2)]) _
    refine XS.istore X107.here hx rfl (hb hby d52_21_13) rfl (l' := (Lc_cc0_4_10 a1 a2 c2)) rfl ?_
    refine XS.iload X107.here hx rfl (hb hby d52_21_15) rfl ?_
    refine XS.sipush X107.here hx rfl (hb hby d52_21_17) ?_
    refine XS.icmpYes X107.here hx rfl (pc0 := 20) (pc' := 26) rfl (hb hby d52_21_20) rfl (flt q2).2.2.2 (by decide) (by decide) ?_
    show SS pP eE bS T107 (mkF mM 26 (Lc_cc0_4_10 a1 a2 c2) []) _
    refine XS.aloadN X107.here hx rfl (hb hby d52_21_26) rfl rfl ?_
    refine XS.iloadN X107.here hx rfl (hb hby d52_21_27) rfl ?_
    refine XS.iload X107.here hx rfl (hb hby d52_21_28) rfl ?_
    refine XS.i2b X107.here hx rfl (hb hby d52_21_30) rfl ?_
    show SS pP eE bS T107 (mkF mM 31 (Lc_cc0_4_10 a1 a2 c2) [(.int (c2.toInt8.toInt32)), (.int (2 : Int32)), (.ref a2)]) _
    refine st111 _ ?_
    show SS pP eE bS T111 (mkF mM 32 (Lc_cc0_4_10 a1 a2 c2) []) _
    refine XS.iinc X111.here hx rfl (hb hby d52_21_32) rfl (l' := (Lc_cc0_4_11 a1 a2 c2)) rfl ?_
    refine XS.iinc X111.here hx rfl (hb hby d52_21_35) rfl (l' := (Lc_cc0_4_12 a1 a2 c2)) rfl ?_
    refine XS.iinc X111.here hx rfl (hb hby d52_21_38) rfl (l' := (Lc_cc0_4_13 a1 a2 c2)) rfl ?_
    refine XS.goto X111.here hx rfl (pc0 := 41) (pc' := 3) rfl (hb hby d52_21_41) (by decide) (by decide) ?_
    show SS pP eE bS T111 (mkF mM 3 (Lc_cc0_4_13 a1 a2 c2) []) _
    refine XS.iload X111.here hx rfl (hb hby d52_21_3) rfl ?_
    refine XS.iload X111.here hx rfl (hb hby d52_21_5) rfl ?_
    refine XS.icmpNo X111.here hx rfl (hb hby d52_21_7) rfl (tlt (by decide : (3 : Int32) < (4 : Int32))).2.1 ?_
    refine XS.aloadN X111.here hx rfl (hb hby d52_21_10) rfl rfl ?_
    show SS pP eE bS T111 (mkF mM 11 (Lc_cc0_4_13 a1 a2 c2) [(.ref a1)]) _
    refine XS.iloadN X111.here hx rfl (hb hby d52_21_11) rfl ?_
    show SS pP eE bS T111 (mkF mM 12 (Lc_cc0_4_13 a1 a2 c2) [(.int (3 : Int32)), (.ref a1)]) _
    refine X111.caload hx (j := (3 : Int32)) (v := (.int c3)) (by rw [e111]; exact Ar113.1) (State.isArrayOf_alike hZ.alike Ar113.2.1) Ar113.2.2 hin113 hat113 (g := (mkF mM 12 (Lc_cc0_4_13 a1 a2 c2) [(.int (3 : Int32)), (.ref a1)])) rfl rfl (hb hby d52_21_12) _ ?_
    show SS pP eE bS T111 (mkF mM 13 (Lc_cc0_4_13 a1 a2 c2) [(.int c3)]) _
    refine XS.istore X111.here hx rfl (hb hby d52_21_13) rfl (l' := (Lc_cc0_4_14 a1 a2 c3)) rfl ?_
    refine XS.iload X111.here hx rfl (hb hby d52_21_15) rfl ?_
    refine XS.sipush X111.here hx rfl (hb hby d52_21_17) ?_
    refine XS.icmpYes X111.here hx rfl (pc0 := 20) (pc' := 26) rfl (hb hby d52_21_20) rfl (flt q3).2.2.2 (by decide) (by decide) ?_
    show SS pP eE bS T111 (mkF mM 26 (Lc_cc0_4_14 a1 a2 c3) []) _
    refine XS.aloadN X111.here hx rfl (hb hby d52_21_26) rfl rfl ?_
    refine XS.iloadN X111.here hx rfl (hb hby d52_21_27) rfl ?_
    refine XS.iload X111.here hx rfl (hb hby d52_21_28) rfl ?_
    refine XS.i2b X111.here hx rfl (hb hby d52_21_30) rfl ?_
    show SS pP eE bS T111 (mkF mM 31 (Lc_cc0_4_14 a1 a2 c3) [(.int (c3.toInt8.toInt32)), (.int (3 : Int32)), (.ref a2)]) _
    refine st115 _ ?_
    show SS pP eE bS T115 (mkF mM 32 (Lc_cc0_4_14 a1 a2 c3) []) _
    refine XS.iinc X115.here hx rfl (hb hby d52_21_32) rfl (l' := (Lc_cc0_4_15 a1 a2 c3)) rfl ?_
    refine XS.iinc X115.here hx rfl (hb hby d52_21_35) rfl (l' := (Lc_cc0_4_16 a1 a2 c3)) rfl ?_
    refine XS.iinc X115.here hx rfl (hb hby d52_21_38) rfl (l' := (Lc_cc0_4_17 a1 a2 c3)) rfl ?_
    refine XS.goto X115.here hx rfl (pc0 := 41) (pc' := 3) rfl (hb hby d52_21_41) (by decide) (by decide) ?_
    show SS pP eE bS T115 (mkF mM 3 (Lc_cc0_4_17 a1 a2 c3) []) _
    refine XS.iload X115.here hx rfl (hb hby d52_21_3) rfl ?_
    refine XS.iload X115.here hx rfl (hb hby d52_21_5) rfl ?_
    refine XS.icmpYes X115.here hx rfl (pc0 := 7) (pc' := 44) rfl (hb hby d52_21_7) rfl (flt (by decide : ¬ ((4 : Int32) < (4 : Int32)))).2.1 (by decide) (by decide) ?_
    refine XS.iload X115.here hx rfl (hb hby d52_21_44) rfl ?_
    show SS pP eE bS T115 (mkF mM 46 (Lc_cc0_4_17 a1 a2 c3) [(.int (4 : Int32))]) _
    exact retI X115 hx Bd.returns (hb hby d52_21_46) hr
  · show Q_cc0_4 Z a1 a2 k1 k2 c0 c1 c2 c3 h0 n0 _ T115.heap _
    rw [e115]
    exact ⟨rfl, N115, K119, Vt115⟩
abbrev Lc_cc0_0_0 (a1 : Addr) (a2 : Addr) : Array Slot := #[.val (.ref a1), .val (.int (0 : Int32)), .val (.ref a2), .val (.int (0 : Int32)), .val (.int (4 : Int32)), .unset, .unset]
abbrev Lc_cc0_0_1 (a1 : Addr) (a2 : Addr) : Array Slot := #[.val (.ref a1), .val (.int (0 : Int32)), .val (.ref a2), .val (.int (0 : Int32)), .val (.int (4 : Int32)), .val (.int (0 : Int32)), .unset]
abbrev Lc_cc0_0_2 (a1 : Addr) (a2 : Addr) (c0 : Int32) : Array Slot := #[.val (.ref a1), .val (.int (0 : Int32)), .val (.ref a2), .val (.int (0 : Int32)), .val (.int (4 : Int32)), .val (.int (0 : Int32)), .val (.int c0)]
theorem ef_cc0_0 (mM : MethodId) (a1 : Addr) (a2 : Addr) (k1 : ClassId) (k2 : ClassId) (c0 : Int32) (c1 : Int32) (c2 : Int32) (c3 : Int32) : entryFrame mM #[(.ref a1), (.int (0 : Int32)), (.ref a2), (.int (0 : Int32)), (.int (4 : Int32))] 7 = mkF mM 0 #[.val (.ref a1), .val (.int (0 : Int32)), .val (.ref a2), .val (.int (0 : Int32)), .val (.int (4 : Int32)), .unset, .unset] [] := by
  first | (simp [entryFrame, mkF, argsToLocals, Value.category]; done) | rfl
theorem rm_cc0_0 (l : Launch) (Z : State) (a0 : Array Value) (hw : HW a0 Z) (ws : List Jvm.Cond) (a1 : Addr) (a2 : Addr) (k1 : ClassId) (k2 : ClassId) (c0 : Int32) (c1 : Int32) (c2 : Int32) (c3 : Int32) (h0 : Heap) (n0 : Nat) (Z0 : n0 ≤ h0.size) (V_a1 : Arv Z h0 a1 k1 .char (4 : Int32) [(.int c0), (.int c1), (.int c2), (.int c3)] (.int (0 : Int32))) (V_a2 : Arv Z h0 a2 k2 .byte (4 : Int32) [(.int (0 : Int32)), (.int (0 : Int32)), (.int (0 : Int32)), (.int (0 : Int32))] (.int (0 : Int32))) (ne_a1_a2 : @Ne Nat a1 a2) (g_a2 : @LE.le Nat _ n0 a2) (g0 : (255 : Int32) < c0) :
    MetFree l y7_ (head1 (Jvm.Cond.code y7_ jdk_52_method_21_code 7 (some .int) :: ws) r0_0_0_0) (fun xa xU => xa = #[(.ref a1), (.int (0 : Int32)), (.ref a2), (.int (0 : Int32)), (.int (4 : Int32))] ∧ Z.Warmed39 xU.vm ∧ xU.heap = h0) (fun _ _ _ _ _ => True) (fun _ xU xo xU' => ∃ xv xL, xo = .returned xv ∧ Q_c0 Z a2 [c0, c1, c2, c3] h0 n0 xv xU'.heap xL ∧ FrameEnd xU xo xU' xL r0_0_0_0.cells r0_0_0_0.slots) := by
  refine MetFree.of_bodySF (plainFor_of_name pn_java_lang_StringUTF16) hisR ?_
  intro pP eE sS mM argS bS methS cC s₁ Bd hml0 hP hK
  obtain ⟨rfl, hZ, hh⟩ := hP
  have hx := Bd.exec
  have hby := Bd.bytes
  have hml : cC.maxLocals = 7 := hml0
  have hown : sS.vm.findClass "java/lang/StringUTF16" = some mM.cls := findClass_of_methodNamed Bd.named
  have hnm := (name_of_methodNamed Bd.named Bd.method).1
  have X0 : Stand pP l eE r0_0_0_0 sS mM #[(.ref a1), (.int (0 : Int32)), (.ref a2), (.int (0 : Int32)), (.int (4 : Int32))] bS methS cC s₁ [] 0 0 := Stand.of_body Bd
  have e0 : s₁.heap = h0 := by rw [← hh, Bd.state]; rfl
  have N0 := Fr.nil n0
  obtain ⟨cl101, Ar101, q101, S101, Ng101, Ha101, Ga101⟩ := id V_a1
  have hin101 : ¬ ((0 : Int32) < 0 ∨ cl101.slots.size ≤ ((0 : Int32)).toNatClampNeg) := inb_of S101 ⟨by decide, by decide⟩
  have hat101 : cl101.slots[((0 : Int32)).toNatClampNeg]? = some (.int c0) := Ha101.at hin101 (rfl)
  obtain ⟨fs, hr, hrun, hended, hW, hsame⟩ := X0.leave (v := some (.int (0 : Int32))) (fun h => by rw [Bd.returns] at h; cases h)
  refine ⟨_, _, castTop (ef_cc0_0 mM a1 a2 k1 k2 c0 c1 c2 c3) ?_, hrun, hended, _, _, rfl, ?_, ⟨_, rfl⟩, hW, hsame.mono (by decide) (by decide)⟩
  · show SS pP eE bS s₁ (mkF mM 0 (Lc_cc0_0_0 a1 a2) []) _
    refine XS.iconst X0.here hx rfl (hb hby d52_21_0) ?_
    refine XS.istore X0.here hx rfl (hb hby d52_21_1) rfl (l' := (Lc_cc0_0_1 a1 a2)) rfl ?_
    refine XS.iload X0.here hx rfl (hb hby d52_21_3) rfl ?_
    refine XS.iload X0.here hx rfl (hb hby d52_21_5) rfl ?_
    show SS pP eE bS s₁ (mkF mM 7 (Lc_cc0_0_1 a1 a2) [(.int (4 : Int32)), (.int (0 : Int32))]) _
    refine XS.icmpNo X0.here hx rfl (hb hby d52_21_7) rfl (tlt (by decide : (0 : Int32) < (4 : Int32))).2.1 ?_
    refine XS.aloadN X0.here hx rfl (hb hby d52_21_10) rfl rfl ?_
    refine XS.iloadN X0.here hx rfl (hb hby d52_21_11) rfl ?_
    show SS pP eE bS s₁ (mkF mM 12 (Lc_cc0_0_1 a1 a2) [(.int (0 : Int32)), (.ref a1)]) _
    refine X0.caload hx (j := (0 : Int32)) (v := (.int c0)) (by rw [e0]; exact Ar101.1) (State.isArrayOf_alike hZ.alike Ar101.2.1) Ar101.2.2 hin101 hat101 (g := (mkF mM 12 (Lc_cc0_0_1 a1 a2) [(.int (0 : Int32)), (.ref a1)])) rfl rfl (hb hby d52_21_12) _ ?_
    show SS pP eE bS s₁ (mkF mM 13 (Lc_cc0_0_1 a1 a2) [(.int c0)]) _
    refine XS.istore X0.here hx rfl (hb hby d52_21_13) rfl (l' := (Lc_cc0_0_2 a1 a2 c0)) rfl ?_
    refine XS.iload X0.here hx rfl (hb hby d52_21_15) rfl ?_
    refine XS.sipush X0.here hx rfl (hb hby d52_21_17) ?_
    refine XS.icmpNo X0.here hx rfl (hb hby d52_21_20) rfl (tlt g0).2.2.2 ?_
    show SS pP eE bS s₁ (mkF mM 23 (Lc_cc0_0_2 a1 a2 c0) []) _
    refine XS.iload X0.here hx rfl (hb hby d52_21_23) rfl ?_
    show SS pP eE bS s₁ (mkF mM 25 (Lc_cc0_0_2 a1 a2 c0) [(.int (0 : Int32))]) _
    exact retI X0 hx Bd.returns (hb hby d52_21_25) hr
  · show Q_c0 Z a2 [c0, c1, c2, c3] h0 n0 _ s₁.heap _
    rw [e0]
    exact ⟨(0 : Int32), c0, rfl, N0, (Keep.refl h0 [a2]), (⟨0, by decide, rfl, rfl, g0⟩)⟩
abbrev Lc_cc0_1_0 (a1 : Addr) (a2 : Addr) : Array Slot := #[.val (.ref a1), .val (.int (0 : Int32)), .val (.ref a2), .val (.int (0 : Int32)), .val (.int (4 : Int32)), .unset, .unset]
abbrev Lc_cc0_1_1 (a1 : Addr) (a2 : Addr) : Array Slot := #[.val (.ref a1), .val (.int (0 : Int32)), .val (.ref a2), .val (.int (0 : Int32)), .val (.int (4 : Int32)), .val (.int (0 : Int32)), .unset]
abbrev Lc_cc0_1_2 (a1 : Addr) (a2 : Addr) (c0 : Int32) : Array Slot := #[.val (.ref a1), .val (.int (0 : Int32)), .val (.ref a2), .val (.int (0 : Int32)), .val (.int (4 : Int32)), .val (.int (0 : Int32)), .val (.int c0)]
abbrev Lc_cc0_1_3 (a1 : Addr) (a2 : Addr) (c0 : Int32) : Array Slot := #[.val (.ref a1), .val (.int (1 : Int32)), .val (.ref a2), .val (.int (0 : Int32)), .val (.int (4 : Int32)), .val (.int (0 : Int32)), .val (.int c0)]
abbrev Lc_cc0_1_4 (a1 : Addr) (a2 : Addr) (c0 : Int32) : Array Slot := #[.val (.ref a1), .val (.int (1 : Int32)), .val (.ref a2), .val (.int (1 : Int32)), .val (.int (4 : Int32)), .val (.int (0 : Int32)), .val (.int c0)]
abbrev Lc_cc0_1_5 (a1 : Addr) (a2 : Addr) (c0 : Int32) : Array Slot := #[.val (.ref a1), .val (.int (1 : Int32)), .val (.ref a2), .val (.int (1 : Int32)), .val (.int (4 : Int32)), .val (.int (1 : Int32)), .val (.int c0)]
abbrev Lc_cc0_1_6 (a1 : Addr) (a2 : Addr) (c1 : Int32) : Array Slot := #[.val (.ref a1), .val (.int (1 : Int32)), .val (.ref a2), .val (.int (1 : Int32)), .val (.int (4 : Int32)), .val (.int (1 : Int32)), .val (.int c1)]
theorem ef_cc0_1 (mM : MethodId) (a1 : Addr) (a2 : Addr) (k1 : ClassId) (k2 : ClassId) (c0 : Int32) (c1 : Int32) (c2 : Int32) (c3 : Int32) : entryFrame mM #[(.ref a1), (.int (0 : Int32)), (.ref a2), (.int (0 : Int32)), (.int (4 : Int32))] 7 = mkF mM 0 #[.val (.ref a1), .val (.int (0 : Int32)), .val (.ref a2), .val (.int (0 : Int32)), .val (.int (4 : Int32)), .unset, .unset] [] := by
  first | (simp [entryFrame, mkF, argsToLocals, Value.category]; done) | rfl
theorem rm_cc0_1 (l : Launch) (Z : State) (a0 : Array Value) (hw : HW a0 Z) (ws : List Jvm.Cond) (a1 : Addr) (a2 : Addr) (k1 : ClassId) (k2 : ClassId) (c0 : Int32) (c1 : Int32) (c2 : Int32) (c3 : Int32) (h0 : Heap) (n0 : Nat) (Z0 : n0 ≤ h0.size) (V_a1 : Arv Z h0 a1 k1 .char (4 : Int32) [(.int c0), (.int c1), (.int c2), (.int c3)] (.int (0 : Int32))) (V_a2 : Arv Z h0 a2 k2 .byte (4 : Int32) [(.int (0 : Int32)), (.int (0 : Int32)), (.int (0 : Int32)), (.int (0 : Int32))] (.int (0 : Int32))) (ne_a1_a2 : @Ne Nat a1 a2) (g_a2 : @LE.le Nat _ n0 a2) (q0 : ¬ ((255 : Int32) < c0)) (g1 : (255 : Int32) < c1) :
    MetFree l y7_ (head1 (Jvm.Cond.code y7_ jdk_52_method_21_code 7 (some .int) :: ws) r0_0_0_0) (fun xa xU => xa = #[(.ref a1), (.int (0 : Int32)), (.ref a2), (.int (0 : Int32)), (.int (4 : Int32))] ∧ Z.Warmed39 xU.vm ∧ xU.heap = h0) (fun _ _ _ _ _ => True) (fun _ xU xo xU' => ∃ xv xL, xo = .returned xv ∧ Q_c0 Z a2 [c0, c1, c2, c3] h0 n0 xv xU'.heap xL ∧ FrameEnd xU xo xU' xL r0_0_0_0.cells r0_0_0_0.slots) := by
  refine MetFree.of_bodySF (plainFor_of_name pn_java_lang_StringUTF16) hisR ?_
  intro pP eE sS mM argS bS methS cC s₁ Bd hml0 hP hK
  obtain ⟨rfl, hZ, hh⟩ := hP
  have hx := Bd.exec
  have hby := Bd.bytes
  have hml : cC.maxLocals = 7 := hml0
  have hown : sS.vm.findClass "java/lang/StringUTF16" = some mM.cls := findClass_of_methodNamed Bd.named
  have hnm := (name_of_methodNamed Bd.named Bd.method).1
  have X0 : Stand pP l eE r0_0_0_0 sS mM #[(.ref a1), (.int (0 : Int32)), (.ref a2), (.int (0 : Int32)), (.int (4 : Int32))] bS methS cC s₁ [] 0 0 := Stand.of_body Bd
  have e0 : s₁.heap = h0 := by rw [← hh, Bd.state]; rfl
  have N0 := Fr.nil n0
  obtain ⟨cl101, Ar101, q101, S101, Ng101, Ha101, Ga101⟩ := id V_a1
  have hin101 : ¬ ((0 : Int32) < 0 ∨ cl101.slots.size ≤ ((0 : Int32)).toNatClampNeg) := inb_of S101 ⟨by decide, by decide⟩
  have hat101 : cl101.slots[((0 : Int32)).toNatClampNeg]? = some (.int c0) := Ha101.at hin101 (rfl)
  obtain ⟨cl102, Ar102, q102, S102, Ng102, Ha102, Ga102⟩ := id V_a2
  have hin102 : ¬ ((0 : Int32) < 0 ∨ cl102.slots.size ≤ ((0 : Int32)).toNatClampNeg) := inb_of S102 ⟨by decide, by decide⟩
  obtain ⟨T103, h103, X103, e103, W103, st103⟩ := stB X0 hx hZ e0 Ar102 (j := (0 : Int32)) hin102 (g := (mkF mM 31 (Lc_cc0_1_2 a1 a2 c0) [(.int (c0.toInt8.toInt32)), (.int (0 : Int32)), (.ref a2)])) rfl rfl (hb hby d52_21_31)
  have Sz1 : h0.size ≤ h103.size := Nat.le_of_eq (Wr.size W103).symm
  have Vs103 := Arv.set Ar102 q102 S102 Ng102 Ha102 Ga102 (fits_nar_byte _) W103 0 rfl (Nat.le_of_ble_eq_true rfl)
  have Vt103 : Arv Z h103 a2 k2 .byte (4 : Int32) [(.int c0.toInt8.toInt32), (.int (0 : Int32)), (.int (0 : Int32)), (.int (0 : Int32))] (.int (0 : Int32)) := by
    have q : Arv Z h103 a2 k2 .byte (4 : Int32) [(.int (c0.toInt8.toInt32).toInt8.toInt32), (.int (0 : Int32)), (.int (0 : Int32)), (.int (0 : Int32))] (.int (0 : Int32)) := Vs103
    rw [show ((.int (c0.toInt8.toInt32).toInt8.toInt32) : Value) = (.int c0.toInt8.toInt32) from congrArg Value.int (own_b8 c0)] at q
    exact q
  have N103 := Fr.snoc X103 N0 g_a2
  have c104_V_a1 : Arv Z h103 a1 k1 .char (4 : Int32) [(.int c0), (.int c1), (.int c2), (.int c3)] (.int (0 : Int32)) := V_a1.other W103 ne_a1_a2
  obtain ⟨cl105, Ar105, q105, S105, Ng105, Ha105, Ga105⟩ := id c104_V_a1
  have hin105 : ¬ ((1 : Int32) < 0 ∨ cl105.slots.size ≤ ((1 : Int32)).toNatClampNeg) := inb_of S105 ⟨by decide, by decide⟩
  have hat105 : cl105.slots[((1 : Int32)).toNatClampNeg]? = some (.int c1) := Ha105.at hin105 (rfl)
  have K106 : Keep h0 h103 [a2] := (Keep.refl h0 [a2]).wr W103 (Or.inl (List.mem_of_getElem? (i := 0) rfl))
  obtain ⟨fs, hr, hrun, hended, hW, hsame⟩ := X103.leave (v := some (.int (1 : Int32))) (fun h => by rw [Bd.returns] at h; cases h)
  refine ⟨_, _, castTop (ef_cc0_1 mM a1 a2 k1 k2 c0 c1 c2 c3) ?_, hrun, hended, _, _, rfl, ?_, ⟨_, rfl⟩, hW, hsame.mono (by decide) (by decide)⟩
  · show SS pP eE bS s₁ (mkF mM 0 (Lc_cc0_1_0 a1 a2) []) _
    refine XS.iconst X0.here hx rfl (hb hby d52_21_0) ?_
    refine XS.istore X0.here hx rfl (hb hby d52_21_1) rfl (l' := (Lc_cc0_1_1 a1 a2)) rfl ?_
    refine XS.iload X0.here hx rfl (hb hby d52_21_3) rfl ?_
    refine XS.iload X0.here hx rfl (hb hby d52_21_5) rfl ?_
    show SS pP eE bS s₁ (mkF mM 7 (Lc_cc0_1_1 a1 a2) [(.int (4 : Int32)), (.int (0 : Int32))]) _
    refine XS.icmpNo X0.here hx rfl (hb hby d52_21_7) rfl (tlt (by decide : (0 : Int32) < (4 : Int32))).2.1 ?_
    refine XS.aloadN X0.here hx rfl (hb hby d52_21_10) rfl rfl ?_
    refine XS.iloadN X0.here hx rfl (hb hby d52_21_11) rfl ?_
    show SS pP eE bS s₁ (mkF mM 12 (Lc_cc0_1_1 a1 a2) [(.int (0 : Int32)), (.ref a1)]) _
    refine X0.caload hx (j := (0 : Int32)) (v := (.int c0)) (by rw [e0]; exact Ar101.1) (State.isArrayOf_alike hZ.alike Ar101.2.1) Ar101.2.2 hin101 hat101 (g := (mkF mM 12 (Lc_cc0_1_1 a1 a2) [(.int (0 : Int32)), (.ref a1)])) rfl rfl (hb hby d52_21_12) _ ?_
    show SS pP eE bS s₁ (mkF mM 13 (Lc_cc0_1_1 a1 a2) [(.int c0)]) _
    refine XS.istore X0.here hx rfl (hb hby d52_21_13) rfl (l' := (Lc_cc0_1_2 a1 a2 c0)) rfl ?_
    refine XS.iload X0.here hx rfl (hb hby d52_21_15) rfl ?_
    refine XS.sipush X0.here hx rfl (hb hby d52_21_17) ?_
    refine XS.icmpYes X0.here hx rfl (pc0 := 20) (pc' := 26) rfl (hb hby d52_21_20) rfl (flt q0).2.2.2 (by decide) (by decide) ?_
    show SS pP eE bS s₁ (mkF mM 26 (Lc_cc0_1_2 a1 a2 c0) []) _
    refine XS.aloadN X0.here hx rfl (hb hby d52_21_26) rfl rfl ?_
    refine XS.iloadN X0.here hx rfl (hb hby d52_21_27) rfl ?_
    refine XS.iload X0.here hx rfl (hb hby d52_21_28) rfl ?_
    refine XS.i2b X0.here hx rfl (hb hby d52_21_30) rfl ?_
    show SS pP eE bS s₁ (mkF mM 31 (Lc_cc0_1_2 a1 a2 c0) [(.int (c0.toInt8.toInt32)), (.int (0 : Int32)), (.ref a2)]) _
    refine st103 _ ?_
    show SS pP eE bS T103 (mkF mM 32 (Lc_cc0_1_2 a1 a2 c0) []) _
    refine XS.iinc X103.here hx rfl (hb hby d52_21_32) rfl (l' := (Lc_cc0_1_3 a1 a2 c0)) rfl ?_
    refine XS.iinc X103.here hx rfl (hb hby d52_21_35) rfl (l' := (Lc_cc0_1_4 a1 a2 c0)) rfl ?_
    refine XS.iinc X103.here hx rfl (hb hby d52_21_38) rfl (l' := (Lc_cc0_1_5 a1 a2 c0)) rfl ?_
    refine XS.goto X103.here hx rfl (pc0 := 41) (pc' := 3) rfl (hb hby d52_21_41) (by decide) (by decide) ?_
    show SS pP eE bS T103 (mkF mM 3 (Lc_cc0_1_5 a1 a2 c0) []) _
    refine XS.iload X103.here hx rfl (hb hby d52_21_3) rfl ?_
    refine XS.iload X103.here hx rfl (hb hby d52_21_5) rfl ?_
    refine XS.icmpNo X103.here hx rfl (hb hby d52_21_7) rfl (tlt (by decide : (1 : Int32) < (4 : Int32))).2.1 ?_
    refine XS.aloadN X103.here hx rfl (hb hby d52_21_10) rfl rfl ?_
    show SS pP eE bS T103 (mkF mM 11 (Lc_cc0_1_5 a1 a2 c0) [(.ref a1)]) _
    refine XS.iloadN X103.here hx rfl (hb hby d52_21_11) rfl ?_
    show SS pP eE bS T103 (mkF mM 12 (Lc_cc0_1_5 a1 a2 c0) [(.int (1 : Int32)), (.ref a1)]) _
    refine X103.caload hx (j := (1 : Int32)) (v := (.int c1)) (by rw [e103]; exact Ar105.1) (State.isArrayOf_alike hZ.alike Ar105.2.1) Ar105.2.2 hin105 hat105 (g := (mkF mM 12 (Lc_cc0_1_5 a1 a2 c0) [(.int (1 : Int32)), (.ref a1)])) rfl rfl (hb hby d52_21_12) _ ?_
    show SS pP eE bS T103 (mkF mM 13 (Lc_cc0_1_5 a1 a2 c0) [(.int c1)]) _
    refine XS.istore X103.here hx rfl (hb hby d52_21_13) rfl (l' := (Lc_cc0_1_6 a1 a2 c1)) rfl ?_
    refine XS.iload X103.here hx rfl (hb hby d52_21_15) rfl ?_
    refine XS.sipush X103.here hx rfl (hb hby d52_21_17) ?_
    refine XS.icmpNo X103.here hx rfl (hb hby d52_21_20) rfl (tlt g1).2.2.2 ?_
    show SS pP eE bS T103 (mkF mM 23 (Lc_cc0_1_6 a1 a2 c1) []) _
    refine XS.iload X103.here hx rfl (hb hby d52_21_23) rfl ?_
    show SS pP eE bS T103 (mkF mM 25 (Lc_cc0_1_6 a1 a2 c1) [(.int (1 : Int32))]) _
    exact retI X103 hx Bd.returns (hb hby d52_21_25) hr
  · show Q_c0 Z a2 [c0, c1, c2, c3] h0 n0 _ T103.heap _
    rw [e103]
    exact ⟨(1 : Int32), c1, rfl, N103, K106, (⟨1, by decide, rfl, rfl, g1⟩)⟩
abbrev Lc_cc0_2_0 (a1 : Addr) (a2 : Addr) : Array Slot := #[.val (.ref a1), .val (.int (0 : Int32)), .val (.ref a2), .val (.int (0 : Int32)), .val (.int (4 : Int32)), .unset, .unset]
abbrev Lc_cc0_2_1 (a1 : Addr) (a2 : Addr) : Array Slot := #[.val (.ref a1), .val (.int (0 : Int32)), .val (.ref a2), .val (.int (0 : Int32)), .val (.int (4 : Int32)), .val (.int (0 : Int32)), .unset]
abbrev Lc_cc0_2_2 (a1 : Addr) (a2 : Addr) (c0 : Int32) : Array Slot := #[.val (.ref a1), .val (.int (0 : Int32)), .val (.ref a2), .val (.int (0 : Int32)), .val (.int (4 : Int32)), .val (.int (0 : Int32)), .val (.int c0)]
abbrev Lc_cc0_2_3 (a1 : Addr) (a2 : Addr) (c0 : Int32) : Array Slot := #[.val (.ref a1), .val (.int (1 : Int32)), .val (.ref a2), .val (.int (0 : Int32)), .val (.int (4 : Int32)), .val (.int (0 : Int32)), .val (.int c0)]
abbrev Lc_cc0_2_4 (a1 : Addr) (a2 : Addr) (c0 : Int32) : Array Slot := #[.val (.ref a1), .val (.int (1 : Int32)), .val (.ref a2), .val (.int (1 : Int32)), .val (.int (4 : Int32)), .val (.int (0 : Int32)), .val (.int c0)]
abbrev Lc_cc0_2_5 (a1 : Addr) (a2 : Addr) (c0 : Int32) : Array Slot := #[.val (.ref a1), .val (.int (1 : Int32)), .val (.ref a2), .val (.int (1 : Int32)), .val (.int (4 : Int32)), .val (.int (1 : Int32)), .val (.int c0)]
abbrev Lc_cc0_2_6 (a1 : Addr) (a2 : Addr) (c1 : Int32) : Array Slot := #[.val (.ref a1), .val (.int (1 : Int32)), .val (.ref a2), .val (.int (1 : Int32)), .val (.int (4 : Int32)), .val (.int (1 : Int32)), .val (.int c1)]
abbrev Lc_cc0_2_7 (a1 : Addr) (a2 : Addr) (c1 : Int32) : Array Slot := #[.val (.ref a1), .val (.int (2 : Int32)), .val (.ref a2), .val (.int (1 : Int32)), .val (.int (4 : Int32)), .val (.int (1 : Int32)), .val (.int c1)]
abbrev Lc_cc0_2_8 (a1 : Addr) (a2 : Addr) (c1 : Int32) : Array Slot := #[.val (.ref a1), .val (.int (2 : Int32)), .val (.ref a2), .val (.int (2 : Int32)), .val (.int (4 : Int32)), .val (.int (1 : Int32)), .val (.int c1)]
abbrev Lc_cc0_2_9 (a1 : Addr) (a2 : Addr) (c1 : Int32) : Array Slot := #[.val (.ref a1), .val (.int (2 : Int32)), .val (.ref a2), .val (.int (2 : Int32)), .val (.int (4 : Int32)), .val (.int (2 : Int32)), .val (.int c1)]
abbrev Lc_cc0_2_10 (a1 : Addr) (a2 : Addr) (c2 : Int32) : Array Slot := #[.val (.ref a1), .val (.int (2 : Int32)), .val (.ref a2), .val (.int (2 : Int32)), .val (.int (4 : Int32)), .val (.int (2 : Int32)), .val (.int c2)]
theorem ef_cc0_2 (mM : MethodId) (a1 : Addr) (a2 : Addr) (k1 : ClassId) (k2 : ClassId) (c0 : Int32) (c1 : Int32) (c2 : Int32) (c3 : Int32) : entryFrame mM #[(.ref a1), (.int (0 : Int32)), (.ref a2), (.int (0 : Int32)), (.int (4 : Int32))] 7 = mkF mM 0 #[.val (.ref a1), .val (.int (0 : Int32)), .val (.ref a2), .val (.int (0 : Int32)), .val (.int (4 : Int32)), .unset, .unset] [] := by
  first | (simp [entryFrame, mkF, argsToLocals, Value.category]; done) | rfl
theorem rm_cc0_2 (l : Launch) (Z : State) (a0 : Array Value) (hw : HW a0 Z) (ws : List Jvm.Cond) (a1 : Addr) (a2 : Addr) (k1 : ClassId) (k2 : ClassId) (c0 : Int32) (c1 : Int32) (c2 : Int32) (c3 : Int32) (h0 : Heap) (n0 : Nat) (Z0 : n0 ≤ h0.size) (V_a1 : Arv Z h0 a1 k1 .char (4 : Int32) [(.int c0), (.int c1), (.int c2), (.int c3)] (.int (0 : Int32))) (V_a2 : Arv Z h0 a2 k2 .byte (4 : Int32) [(.int (0 : Int32)), (.int (0 : Int32)), (.int (0 : Int32)), (.int (0 : Int32))] (.int (0 : Int32))) (ne_a1_a2 : @Ne Nat a1 a2) (g_a2 : @LE.le Nat _ n0 a2) (q0 : ¬ ((255 : Int32) < c0)) (q1 : ¬ ((255 : Int32) < c1)) (g2 : (255 : Int32) < c2) :
    MetFree l y7_ (head1 (Jvm.Cond.code y7_ jdk_52_method_21_code 7 (some .int) :: ws) r0_0_0_0) (fun xa xU => xa = #[(.ref a1), (.int (0 : Int32)), (.ref a2), (.int (0 : Int32)), (.int (4 : Int32))] ∧ Z.Warmed39 xU.vm ∧ xU.heap = h0) (fun _ _ _ _ _ => True) (fun _ xU xo xU' => ∃ xv xL, xo = .returned xv ∧ Q_c0 Z a2 [c0, c1, c2, c3] h0 n0 xv xU'.heap xL ∧ FrameEnd xU xo xU' xL r0_0_0_0.cells r0_0_0_0.slots) := by
  refine MetFree.of_bodySF (plainFor_of_name pn_java_lang_StringUTF16) hisR ?_
  intro pP eE sS mM argS bS methS cC s₁ Bd hml0 hP hK
  obtain ⟨rfl, hZ, hh⟩ := hP
  have hx := Bd.exec
  have hby := Bd.bytes
  have hml : cC.maxLocals = 7 := hml0
  have hown : sS.vm.findClass "java/lang/StringUTF16" = some mM.cls := findClass_of_methodNamed Bd.named
  have hnm := (name_of_methodNamed Bd.named Bd.method).1
  have X0 : Stand pP l eE r0_0_0_0 sS mM #[(.ref a1), (.int (0 : Int32)), (.ref a2), (.int (0 : Int32)), (.int (4 : Int32))] bS methS cC s₁ [] 0 0 := Stand.of_body Bd
  have e0 : s₁.heap = h0 := by rw [← hh, Bd.state]; rfl
  have N0 := Fr.nil n0
  obtain ⟨cl101, Ar101, q101, S101, Ng101, Ha101, Ga101⟩ := id V_a1
  have hin101 : ¬ ((0 : Int32) < 0 ∨ cl101.slots.size ≤ ((0 : Int32)).toNatClampNeg) := inb_of S101 ⟨by decide, by decide⟩
  have hat101 : cl101.slots[((0 : Int32)).toNatClampNeg]? = some (.int c0) := Ha101.at hin101 (rfl)
  obtain ⟨cl102, Ar102, q102, S102, Ng102, Ha102, Ga102⟩ := id V_a2
  have hin102 : ¬ ((0 : Int32) < 0 ∨ cl102.slots.size ≤ ((0 : Int32)).toNatClampNeg) := inb_of S102 ⟨by decide, by decide⟩
  obtain ⟨T103, h103, X103, e103, W103, st103⟩ := stB X0 hx hZ e0 Ar102 (j := (0 : Int32)) hin102 (g := (mkF mM 31 (Lc_cc0_2_2 a1 a2 c0) [(.int (c0.toInt8.toInt32)), (.int (0 : Int32)), (.ref a2)])) rfl rfl (hb hby d52_21_31)
  have Sz1 : h0.size ≤ h103.size := Nat.le_of_eq (Wr.size W103).symm
  have Vs103 := Arv.set Ar102 q102 S102 Ng102 Ha102 Ga102 (fits_nar_byte _) W103 0 rfl (Nat.le_of_ble_eq_true rfl)
  have Vt103 : Arv Z h103 a2 k2 .byte (4 : Int32) [(.int c0.toInt8.toInt32), (.int (0 : Int32)), (.int (0 : Int32)), (.int (0 : Int32))] (.int (0 : Int32)) := by
    have q : Arv Z h103 a2 k2 .byte (4 : Int32) [(.int (c0.toInt8.toInt32).toInt8.toInt32), (.int (0 : Int32)), (.int (0 : Int32)), (.int (0 : Int32))] (.int (0 : Int32)) := Vs103
    rw [show ((.int (c0.toInt8.toInt32).toInt8.toInt32) : Value) = (.int c0.toInt8.toInt32) from congrArg Value.int (own_b8 c0)] at q
    exact q
  have N103 := Fr.snoc X103 N0 g_a2
  have c104_V_a1 : Arv Z h103 a1 k1 .char (4 : Int32) [(.int c0), (.int c1), (.int c2), (.int c3)] (.int (0 : Int32)) := V_a1.other W103 ne_a1_a2
  obtain ⟨cl105, Ar105, q105, S105, Ng105, Ha105, Ga105⟩ := id c104_V_a1
  have hin105 : ¬ ((1 : Int32) < 0 ∨ cl105.slots.size ≤ ((1 : Int32)).toNatClampNeg) := inb_of S105 ⟨by decide, by decide⟩
  have hat105 : cl105.slots[((1 : Int32)).toNatClampNeg]? = some (.int c1) := Ha105.at hin105 (rfl)
  obtain ⟨cl106, Ar106, q106, S106, Ng106, Ha106, Ga106⟩ := id Vt103
  have hin106 : ¬ ((1 : Int32) < 0 ∨ cl106.slots.size ≤ ((1 : Int32)).toNatClampNeg) := inb_of S106 ⟨by decide, by decide⟩
  obtain ⟨T107, h107, X107, e107, W107, st107⟩ := stB X103 hx hZ e103 Ar106 (j := (1 : Int32)) hin106 (g := (mkF mM 31 (Lc_cc0_2_6 a1 a2 c1) [(.int (c1.toInt8.toInt32)), (.int (1 : Int32)), (.ref a2)])) rfl rfl (hb hby d52_21_31)
  have Sz2 : h103.size ≤ h107.size := Nat.le_of_eq (Wr.size W107).symm
  have Vs107 := Arv.set Ar106 q106 S106 Ng106 Ha106 Ga106 (fits_nar_byte _) W107 1 rfl (Nat.le_of_ble_eq_true rfl)
  have Vt107 : Arv Z h107 a2 k2 .byte (4 : Int32) [(.int c0.toInt8.toInt32), (.int c1.toInt8.toInt32), (.int (0 : Int32)), (.int (0 : Int32))] (.int (0 : Int32)) := by
    have q : Arv Z h107 a2 k2 .byte (4 : Int32) [(.int c0.toInt8.toInt32), (.int (c1.toInt8.toInt32).toInt8.toInt32), (.int (0 : Int32)), (.int (0 : Int32))] (.int (0 : Int32)) := Vs107
    rw [show ((.int (c1.toInt8.toInt32).toInt8.toInt32) : Value) = (.int c1.toInt8.toInt32) from congrArg Value.int (own_b8 c1)] at q
    exact q
  have N107 := Fr.snoc X107 N103 g_a2
  have c108_V_a1 : Arv Z h107 a1 k1 .char (4 : Int32) [(.int c0), (.int c1), (.int c2), (.int c3)] (.int (0 : Int32)) := c104_V_a1.other W107 ne_a1_a2
  obtain ⟨cl109, Ar109, q109, S109, Ng109, Ha109, Ga109⟩ := id c108_V_a1
  have hin109 : ¬ ((2 : Int32) < 0 ∨ cl109.slots.size ≤ ((2 : Int32)).toNatClampNeg) := inb_of S109 ⟨by decide, by decide⟩
  have hat109 : cl109.slots[((2 : Int32)).toNatClampNeg]? = some (.int c2) := Ha109.at hin109 (rfl)
  have K110 : Keep h0 h103 [a2] := (Keep.refl h0 [a2]).wr W103 (Or.inl (List.mem_of_getElem? (i := 0) rfl))
  have K111 : Keep h0 h107 [a2] := K110.wr W107 (Or.inl (List.mem_of_getElem? (i := 0) rfl))
  obtain ⟨fs, hr, hrun, hended, hW, hsame⟩ := X107.leave (v := some (.int (2 : Int32))) (fun h => by rw [Bd.returns] at h; cases h)
  refine ⟨_, _, castTop (ef_cc0_2 mM a1 a2 k1 k2 c0 c1 c2 c3) ?_, hrun, hended, _, _, rfl, ?_, ⟨_, rfl⟩, hW, hsame.mono (by decide) (by decide)⟩
  · show SS pP eE bS s₁ (mkF mM 0 (Lc_cc0_2_0 a1 a2) []) _
    refine XS.iconst X0.here hx rfl (hb hby d52_21_0) ?_
    refine XS.istore X0.here hx rfl (hb hby d52_21_1) rfl (l' := (Lc_cc0_2_1 a1 a2)) rfl ?_
    refine XS.iload X0.here hx rfl (hb hby d52_21_3) rfl ?_
    refine XS.iload X0.here hx rfl (hb hby d52_21_5) rfl ?_
    show SS pP eE bS s₁ (mkF mM 7 (Lc_cc0_2_1 a1 a2) [(.int (4 : Int32)), (.int (0 : Int32))]) _
    refine XS.icmpNo X0.here hx rfl (hb hby d52_21_7) rfl (tlt (by decide : (0 : Int32) < (4 : Int32))).2.1 ?_
    refine XS.aloadN X0.here hx rfl (hb hby d52_21_10) rfl rfl ?_
    refine XS.iloadN X0.here hx rfl (hb hby d52_21_11) rfl ?_
    show SS pP eE bS s₁ (mkF mM 12 (Lc_cc0_2_1 a1 a2) [(.int (0 : Int32)), (.ref a1)]) _
    refine X0.caload hx (j := (0 : Int32)) (v := (.int c0)) (by rw [e0]; exact Ar101.1) (State.isArrayOf_alike hZ.alike Ar101.2.1) Ar101.2.2 hin101 hat101 (g := (mkF mM 12 (Lc_cc0_2_1 a1 a2) [(.int (0 : Int32)), (.ref a1)])) rfl rfl (hb hby d52_21_12) _ ?_
    show SS pP eE bS s₁ (mkF mM 13 (Lc_cc0_2_1 a1 a2) [(.int c0)]) _
    refine XS.istore X0.here hx rfl (hb hby d52_21_13) rfl (l' := (Lc_cc0_2_2 a1 a2 c0)) rfl ?_
    refine XS.iload X0.here hx rfl (hb hby d52_21_15) rfl ?_
    refine XS.sipush X0.here hx rfl (hb hby d52_21_17) ?_
    refine XS.icmpYes X0.here hx rfl (pc0 := 20) (pc' := 26) rfl (hb hby d52_21_20) rfl (flt q0).2.2.2 (by decide) (by decide) ?_
    show SS pP eE bS s₁ (mkF mM 26 (Lc_cc0_2_2 a1 a2 c0) []) _
    refine XS.aloadN X0.here hx rfl (hb hby d52_21_26) rfl rfl ?_
    refine XS.iloadN X0.here hx rfl (hb hby d52_21_27) rfl ?_
    refine XS.iload X0.here hx rfl (hb hby d52_21_28) rfl ?_
    refine XS.i2b X0.here hx rfl (hb hby d52_21_30) rfl ?_
    show SS pP eE bS s₁ (mkF mM 31 (Lc_cc0_2_2 a1 a2 c0) [(.int (c0.toInt8.toInt32)), (.int (0 : Int32)), (.ref a2)]) _
    refine st103 _ ?_
    show SS pP eE bS T103 (mkF mM 32 (Lc_cc0_2_2 a1 a2 c0) []) _
    refine XS.iinc X103.here hx rfl (hb hby d52_21_32) rfl (l' := (Lc_cc0_2_3 a1 a2 c0)) rfl ?_
    refine XS.iinc X103.here hx rfl (hb hby d52_21_35) rfl (l' := (Lc_cc0_2_4 a1 a2 c0)) rfl ?_
    refine XS.iinc X103.here hx rfl (hb hby d52_21_38) rfl (l' := (Lc_cc0_2_5 a1 a2 c0)) rfl ?_
    refine XS.goto X103.here hx rfl (pc0 := 41) (pc' := 3) rfl (hb hby d52_21_41) (by decide) (by decide) ?_
    show SS pP eE bS T103 (mkF mM 3 (Lc_cc0_2_5 a1 a2 c0) []) _
    refine XS.iload X103.here hx rfl (hb hby d52_21_3) rfl ?_
    refine XS.iload X103.here hx rfl (hb hby d52_21_5) rfl ?_
    refine XS.icmpNo X103.here hx rfl (hb hby d52_21_7) rfl (tlt (by decide : (1 : Int32) < (4 : Int32))).2.1 ?_
    refine XS.aloadN X103.here hx rfl (hb hby d52_21_10) rfl rfl ?_
    show SS pP eE bS T103 (mkF mM 11 (Lc_cc0_2_5 a1 a2 c0) [(.ref a1)]) _
    refine XS.iloadN X103.here hx rfl (hb hby d52_21_11) rfl ?_
    show SS pP eE bS T103 (mkF mM 12 (Lc_cc0_2_5 a1 a2 c0) [(.int (1 : Int32)), (.ref a1)]) _
    refine X103.caload hx (j := (1 : Int32)) (v := (.int c1)) (by rw [e103]; exact Ar105.1) (State.isArrayOf_alike hZ.alike Ar105.2.1) Ar105.2.2 hin105 hat105 (g := (mkF mM 12 (Lc_cc0_2_5 a1 a2 c0) [(.int (1 : Int32)), (.ref a1)])) rfl rfl (hb hby d52_21_12) _ ?_
    show SS pP eE bS T103 (mkF mM 13 (Lc_cc0_2_5 a1 a2 c0) [(.int c1)]) _
    refine XS.istore X103.here hx rfl (hb hby d52_21_13) rfl (l' := (Lc_cc0_2_6 a1 a2 c1)) rfl ?_
    refine XS.iload X103.here hx rfl (hb hby d52_21_15) rfl ?_
    refine XS.sipush X103.here hx rfl (hb hby d52_21_17) ?_
    refine XS.icmpYes X103.here hx rfl (pc0 := 20) (pc' := 26) rfl (hb hby d52_21_20) rfl (flt q1).2.2.2 (by decide) (by decide) ?_
    show SS pP eE bS T103 (mkF mM 26 (Lc_cc0_2_6 a1 a2 c1) []) _
    refine XS.aloadN X103.here hx rfl (hb hby d52_21_26) rfl rfl ?_
    refine XS.iloadN X103.here hx rfl (hb hby d52_21_27) rfl ?_
    refine XS.iload X103.here hx rfl (hb hby d52_21_28) rfl ?_
    refine XS.i2b X103.here hx rfl (hb hby d52_21_30) rfl ?_
    show SS pP eE bS T103 (mkF mM 31 (Lc_cc0_2_6 a1 a2 c1) [(.int (c1.toInt8.toInt32)), (.int (1 : Int32)), (.ref a2)]) _
    refine st107 _ ?_
    show SS pP eE bS T107 (mkF mM 32 (Lc_cc0_2_6 a1 a2 c1) []) _
    refine XS.iinc X107.here hx rfl (hb hby d52_21_32) rfl (l' := (Lc_cc0_2_7 a1 a2 c1)) rfl ?_
    refine XS.iinc X107.here hx rfl (hb hby d52_21_35) rfl (l' := (Lc_cc0_2_8 a1 a2 c1)) rfl ?_
    refine XS.iinc X107.here hx rfl (hb hby d52_21_38) rfl (l' := (Lc_cc0_2_9 a1 a2 c1)) rfl ?_
    refine XS.goto X107.here hx rfl (pc0 := 41) (pc' := 3) rfl (hb hby d52_21_41) (by decide) (by decide) ?_
    show SS pP eE bS T107 (mkF mM 3 (Lc_cc0_2_9 a1 a2 c1) []) _
    refine XS.iload X107.here hx rfl (hb hby d52_21_3) rfl ?_
    refine XS.iload X107.here hx rfl (hb hby d52_21_5) rfl ?_
    refine XS.icmpNo X107.here hx rfl (hb hby d52_21_7) rfl (tlt (by decide : (2 : Int32) < (4 : Int32))).2.1 ?_
    refine XS.aloadN X107.here hx rfl (hb hby d52_21_10) rfl rfl ?_
    show SS pP eE bS T107 (mkF mM 11 (Lc_cc0_2_9 a1 a2 c1) [(.ref a1)]) _
    refine XS.iloadN X107.here hx rfl (hb hby d52_21_11) rfl ?_
    show SS pP eE bS T107 (mkF mM 12 (Lc_cc0_2_9 a1 a2 c1) [(.int (2 : Int32)), (.ref a1)]) _
    refine X107.caload hx (j := (2 : Int32)) (v := (.int c2)) (by rw [e107]; exact Ar109.1) (State.isArrayOf_alike hZ.alike Ar109.2.1) Ar109.2.2 hin109 hat109 (g := (mkF mM 12 (Lc_cc0_2_9 a1 a2 c1) [(.int (2 : Int32)), (.ref a1)])) rfl rfl (hb hby d52_21_12) _ ?_
    show SS pP eE bS T107 (mkF mM 13 (Lc_cc0_2_9 a1 a2 c1) [(.int c2)]) _
    refine XS.istore X107.here hx rfl (hb hby d52_21_13) rfl (l' := (Lc_cc0_2_10 a1 a2 c2)) rfl ?_
    refine XS.iload X107.here hx rfl (hb hby d52_21_15) rfl ?_
    refine XS.sipush X107.here hx rfl (hb hby d52_21_17) ?_
    refine XS.icmpNo X107.here hx rfl (hb hby d52_21_20) rfl (tlt g2).2.2.2 ?_
    show SS pP eE bS T107 (mkF mM 23 (Lc_cc0_2_10 a1 a2 c2) []) _
    refine XS.iload X107.here hx rfl (hb hby d52_21_23) rfl ?_
    show SS pP eE bS T107 (mkF mM 25 (Lc_cc0_2_10 a1 a2 c2) [(.int (2 : Int32))]) _
    exact retI X107 hx Bd.returns (hb hby d52_21_25) hr
  · show Q_c0 Z a2 [c0, c1, c2, c3] h0 n0 _ T107.heap _
    rw [e107]
    exact ⟨(2 : Int32), c2, rfl, N107, K111, (⟨2, by decide, rfl, rfl, g2⟩)⟩
abbrev Lc_cc0_3_0 (a1 : Addr) (a2 : Addr) : Array Slot := #[.val (.ref a1), .val (.int (0 : Int32)), .val (.ref a2), .val (.int (0 : Int32)), .val (.int (4 : Int32)), .unset, .unset]
abbrev Lc_cc0_3_1 (a1 : Addr) (a2 : Addr) : Array Slot := #[.val (.ref a1), .val (.int (0 : Int32)), .val (.ref a2), .val (.int (0 : Int32)), .val (.int (4 : Int32)), .val (.int (0 : Int32)), .unset]
abbrev Lc_cc0_3_2 (a1 : Addr) (a2 : Addr) (c0 : Int32) : Array Slot := #[.val (.ref a1), .val (.int (0 : Int32)), .val (.ref a2), .val (.int (0 : Int32)), .val (.int (4 : Int32)), .val (.int (0 : Int32)), .val (.int c0)]
abbrev Lc_cc0_3_3 (a1 : Addr) (a2 : Addr) (c0 : Int32) : Array Slot := #[.val (.ref a1), .val (.int (1 : Int32)), .val (.ref a2), .val (.int (0 : Int32)), .val (.int (4 : Int32)), .val (.int (0 : Int32)), .val (.int c0)]
abbrev Lc_cc0_3_4 (a1 : Addr) (a2 : Addr) (c0 : Int32) : Array Slot := #[.val (.ref a1), .val (.int (1 : Int32)), .val (.ref a2), .val (.int (1 : Int32)), .val (.int (4 : Int32)), .val (.int (0 : Int32)), .val (.int c0)]
abbrev Lc_cc0_3_5 (a1 : Addr) (a2 : Addr) (c0 : Int32) : Array Slot := #[.val (.ref a1), .val (.int (1 : Int32)), .val (.ref a2), .val (.int (1 : Int32)), .val (.int (4 : Int32)), .val (.int (1 : Int32)), .val (.int c0)]
abbrev Lc_cc0_3_6 (a1 : Addr) (a2 : Addr) (c1 : Int32) : Array Slot := #[.val (.ref a1), .val (.int (1 : Int32)), .val (.ref a2), .val (.int (1 : Int32)), .val (.int (4 : Int32)), .val (.int (1 : Int32)), .val (.int c1)]
abbrev Lc_cc0_3_7 (a1 : Addr) (a2 : Addr) (c1 : Int32) : Array Slot := #[.val (.ref a1), .val (.int (2 : Int32)), .val (.ref a2), .val (.int (1 : Int32)), .val (.int (4 : Int32)), .val (.int (1 : Int32)), .val (.int c1)]
abbrev Lc_cc0_3_8 (a1 : Addr) (a2 : Addr) (c1 : Int32) : Array Slot := #[.val (.ref a1), .val (.int (2 : Int32)), .val (.ref a2), .val (.int (2 : Int32)), .val (.int (4 : Int32)), .val (.int (1 : Int32)), .val (.int c1)]
abbrev Lc_cc0_3_9 (a1 : Addr) (a2 : Addr) (c1 : Int32) : Array Slot := #[.val (.ref a1), .val (.int (2 : Int32)), .val (.ref a2), .val (.int (2 : Int32)), .val (.int (4 : Int32)), .val (.int (2 : Int32)), .val (.int c1)]
abbrev Lc_cc0_3_10 (a1 : Addr) (a2 : Addr) (c2 : Int32) : Array Slot := #[.val (.ref a1), .val (.int (2 : Int32)), .val (.ref a2), .val (.int (2 : Int32)), .val (.int (4 : Int32)), .val (.int (2 : Int32)), .val (.int c2)]
abbrev Lc_cc0_3_11 (a1 : Addr) (a2 : Addr) (c2 : Int32) : Array Slot := #[.val (.ref a1), .val (.int (3 : Int32)), .val (.ref a2), .val (.int (2 : Int32)), .val (.int (4 : Int32)), .val (.int (2 : Int32)), .val (.int c2)]
abbrev Lc_cc0_3_12 (a1 : Addr) (a2 : Addr) (c2 : Int32) : Array Slot := #[.val (.ref a1), .val (.int (3 : Int32)), .val (.ref a2), .val (.int (3 : Int32)), .val (.int (4 : Int32)), .val (.int (2 : Int32)), .val (.int c2)]
abbrev Lc_cc0_3_13 (a1 : Addr) (a2 : Addr) (c2 : Int32) : Array Slot := #[.val (.ref a1), .val (.int (3 : Int32)), .val (.ref a2), .val (.int (3 : Int32)), .val (.int (4 : Int32)), .val (.int (3 : Int32)), .val (.int c2)]
abbrev Lc_cc0_3_14 (a1 : Addr) (a2 : Addr) (c3 : Int32) : Array Slot := #[.val (.ref a1), .val (.int (3 : Int32)), .val (.ref a2), .val (.int (3 : Int32)), .val (.int (4 : Int32)), .val (.int (3 : Int32)), .val (.int c3)]
theorem ef_cc0_3 (mM : MethodId) (a1 : Addr) (a2 : Addr) (k1 : ClassId) (k2 : ClassId) (c0 : Int32) (c1 : Int32) (c2 : Int32) (c3 : Int32) : entryFrame mM #[(.ref a1), (.int (0 : Int32)), (.ref a2), (.int (0 : Int32)), (.int (4 : Int32))] 7 = mkF mM 0 #[.val (.ref a1), .val (.int (0 : Int32)), .val (.ref a2), .val (.int (0 : Int32)), .val (.int (4 : Int32)), .unset, .unset] [] := by
  first | (simp [entryFrame, mkF, argsToLocals, Value.category]; done) | rfl
theorem rm_cc0_3 (l : Launch) (Z : State) (a0 : Array Value) (hw : HW a0 Z) (ws : List Jvm.Cond) (a1 : Addr) (a2 : Addr) (k1 : ClassId) (k2 : ClassId) (c0 : Int32) (c1 : Int32) (c2 : Int32) (c3 : Int32) (h0 : Heap) (n0 : Nat) (Z0 : n0 ≤ h0.size) (V_a1 : Arv Z h0 a1 k1 .char (4 : Int32) [(.int c0), (.int c1), (.int c2), (.int c3)] (.int (0 : Int32))) (V_a2 : Arv Z h0 a2 k2 .byte (4 : Int32) [(.int (0 : Int32)), (.int (0 : Int32)), (.int (0 : Int32)), (.int (0 : Int32))] (.int (0 : Int32))) (ne_a1_a2 : @Ne Nat a1 a2) (g_a2 : @LE.le Nat _ n0 a2) (q0 : ¬ ((255 : Int32) < c0)) (q1 : ¬ ((255 : Int32) < c1)) (q2 : ¬ ((255 : Int32) < c2)) (g3 : (255 : Int32) < c3) :
    MetFree l y7_ (head1 (Jvm.Cond.code y7_ jdk_52_method_21_code 7 (some .int) :: ws) r0_0_0_0) (fun xa xU => xa = #[(.ref a1), (.int (0 : Int32)), (.ref a2), (.int (0 : Int32)), (.int (4 : Int32))] ∧ Z.Warmed39 xU.vm ∧ xU.heap = h0) (fun _ _ _ _ _ => True) (fun _ xU xo xU' => ∃ xv xL, xo = .returned xv ∧ Q_c0 Z a2 [c0, c1, c2, c3] h0 n0 xv xU'.heap xL ∧ FrameEnd xU xo xU' xL r0_0_0_0.cells r0_0_0_0.slots) := by
  refine MetFree.of_bodySF (plainFor_of_name pn_java_lang_StringUTF16) hisR ?_
  intro pP eE sS mM argS bS methS cC s₁ Bd hml0 hP hK
  obtain ⟨rfl, hZ, hh⟩ := hP
  have hx := Bd.exec
  have hby := Bd.bytes
  have hml : cC.maxLocals = 7 := hml0
  have hown : sS.vm.findClass "java/lang/StringUTF16" = some mM.cls := findClass_of_methodNamed Bd.named
  have hnm := (name_of_methodNamed Bd.named Bd.method).1
  have X0 : Stand pP l eE r0_0_0_0 sS mM #[(.ref a1), (.int (0 : Int32)), (.ref a2), (.int (0 : Int32)), (.int (4 : Int32))] bS methS cC s₁ [] 0 0 := Stand.of_body Bd
  have e0 : s₁.heap = h0 := by rw [← hh, Bd.state]; rfl
  have N0 := Fr.nil n0
  obtain ⟨cl101, Ar101, q101, S101, Ng101, Ha101, Ga101⟩ := id V_a1
  have hin101 : ¬ ((0 : Int32) < 0 ∨ cl101.slots.size ≤ ((0 : Int32)).toNatClampNeg) := inb_of S101 ⟨by decide, by decide⟩
  have hat101 : cl101.slots[((0 : Int32)).toNatClampNeg]? = some (.int c0) := Ha101.at hin101 (rfl)
  obtain ⟨cl102, Ar102, q102, S102, Ng102, Ha102, Ga102⟩ := id V_a2
  have hin102 : ¬ ((0 : Int32) < 0 ∨ cl102.slots.size ≤ ((0 : Int32)).toNatClampNeg) := inb_of S102 ⟨by decide, by decide⟩
  obtain ⟨T103, h103, X103, e103, W103, st103⟩ := stB X0 hx hZ e0 Ar102 (j := (0 : Int32)) hin102 (g := (mkF mM 31 (Lc_cc0_3_2 a1 a2 c0) [(.int (c0.toInt8.toInt32)), (.int (0 : Int32)), (.ref a2)])) rfl rfl (hb hby d52_21_31)
  have Sz1 : h0.size ≤ h103.size := Nat.le_of_eq (Wr.size W103).symm
  have Vs103 := Arv.set Ar102 q102 S102 Ng102 Ha102 Ga102 (fits_nar_byte _) W103 0 rfl (Nat.le_of_ble_eq_true rfl)
  have Vt103 : Arv Z h103 a2 k2 .byte (4 : Int32) [(.int c0.toInt8.toInt32), (.int (0 : Int32)), (.int (0 : Int32)), (.int (0 : Int32))] (.int (0 : Int32)) := by
    have q : Arv Z h103 a2 k2 .byte (4 : Int32) [(.int (c0.toInt8.toInt32).toInt8.toInt32), (.int (0 : Int32)), (.int (0 : Int32)), (.int (0 : Int32))] (.int (0 : Int32)) := Vs103
    rw [show ((.int (c0.toInt8.toInt32).toInt8.toInt32) : Value) = (.int c0.toInt8.toInt32) from congrArg Value.int (own_b8 c0)] at q
    exact q
  have N103 := Fr.snoc X103 N0 g_a2
  have c104_V_a1 : Arv Z h103 a1 k1 .char (4 : Int32) [(.int c0), (.int c1), (.int c2), (.int c3)] (.int (0 : Int32)) := V_a1.other W103 ne_a1_a2
  obtain ⟨cl105, Ar105, q105, S105, Ng105, Ha105, Ga105⟩ := id c104_V_a1
  have hin105 : ¬ ((1 : Int32) < 0 ∨ cl105.slots.size ≤ ((1 : Int32)).toNatClampNeg) := inb_of S105 ⟨by decide, by decide⟩
  have hat105 : cl105.slots[((1 : Int32)).toNatClampNeg]? = some (.int c1) := Ha105.at hin105 (rfl)
  obtain ⟨cl106, Ar106, q106, S106, Ng106, Ha106, Ga106⟩ := id Vt103
  have hin106 : ¬ ((1 : Int32) < 0 ∨ cl106.slots.size ≤ ((1 : Int32)).toNatClampNeg) := inb_of S106 ⟨by decide, by decide⟩
  obtain ⟨T107, h107, X107, e107, W107, st107⟩ := stB X103 hx hZ e103 Ar106 (j := (1 : Int32)) hin106 (g := (mkF mM 31 (Lc_cc0_3_6 a1 a2 c1) [(.int (c1.toInt8.toInt32)), (.int (1 : Int32)), (.ref a2)])) rfl rfl (hb hby d52_21_31)
  have Sz2 : h103.size ≤ h107.size := Nat.le_of_eq (Wr.size W107).symm
  have Vs107 := Arv.set Ar106 q106 S106 Ng106 Ha106 Ga106 (fits_nar_byte _) W107 1 rfl (Nat.le_of_ble_eq_true rfl)
  have Vt107 : Arv Z h107 a2 k2 .byte (4 : Int32) [(.int c0.toInt8.toInt32), (.int c1.toInt8.toInt32), (.int (0 : Int32)), (.int (0 : Int32))] (.int (0 : Int32)) := by
    have q : Arv Z h107 a2 k2 .byte (4 : Int32) [(.int c0.toInt8.toInt32), (.int (c1.toInt8.toInt32).toInt8.toInt32), (.int (0 : Int32)), (.int (0 : Int32))] (.int (0 : Int32)) := Vs107
    rw [show ((.int (c1.toInt8.toInt32).toInt8.toInt32) : Value) = (.int c1.toInt8.toInt32) from congrArg Value.int (own_b8 c1)] at q
    exact q
  have N107 := Fr.snoc X107 N103 g_a2
  have c108_V_a1 : Arv Z h107 a1 k1 .char (4 : Int32) [(.int c0), (.int c1), (.int c2), (.int c3)] (.int (0 : Int32)) := c104_V_a1.other W107 ne_a1_a2
  obtain ⟨cl109, Ar109, q109, S109, Ng109, Ha109, Ga109⟩ := id c108_V_a1
  have hin109 : ¬ ((2 : Int32) < 0 ∨ cl109.slots.size ≤ ((2 : Int32)).toNatClampNeg) := inb_of S109 ⟨by decide, by decide⟩
  have hat109 : cl109.slots[((2 : Int32)).toNatClampNeg]? = some (.int c2) := Ha109.at hin109 (rfl)
  obtain ⟨cl110, Ar110, q110, S110, Ng110, Ha110, Ga110⟩ := id Vt107
  have hin110 : ¬ ((2 : Int32) < 0 ∨ cl110.slots.size ≤ ((2 : Int32)).toNatClampNeg) := inb_of S110 ⟨by decide, by decide⟩
  obtain ⟨T111, h111, X111, e111, W111, st111⟩ := stB X107 hx hZ e107 Ar110 (j := (2 : Int32)) hin110 (g := (mkF mM 31 (Lc_cc0_3_10 a1 a2 c2) [(.int (c2.toInt8.toInt32)), (.int (2 : Int32)), (.ref a2)])) rfl rfl (hb hby d52_21_31)
  have Sz3 : h107.size ≤ h111.size := Nat.le_of_eq (Wr.size W111).symm
  have Vs111 := Arv.set Ar110 q110 S110 Ng110 Ha110 Ga110 (fits_nar_byte _) W111 2 rfl (Nat.le_of_ble_eq_true rfl)
  have Vt111 : Arv Z h111 a2 k2 .byte (4 : Int32) [(.int c0.toInt8.toInt32), (.int c1.toInt8.toInt32), (.int c2.toInt8.toInt32), (.int (0 : Int32))] (.int (0 : Int32)) := by
    have q : Arv Z h111 a2 k2 .byte (4 : Int32) [(.int c0.toInt8.toInt32), (.int c1.toInt8.toInt32), (.int (c2.toInt8.toInt32).toInt8.toInt32), (.int (0 : Int32))] (.int (0 : Int32)) := Vs111
    rw [show ((.int (c2.toInt8.toInt32).toInt8.toInt32) : Value) = (.int c2.toInt8.toInt32) from congrArg Value.int (own_b8 c2)] at q
    exact q
  have N111 := Fr.snoc X111 N107 g_a2
  have c112_V_a1 : Arv Z h111 a1 k1 .char (4 : Int32) [(.int c0), (.int c1), (.int c2), (.int c3)] (.int (0 : Int32)) := c108_V_a1.other W111 ne_a1_a2
  obtain ⟨cl113, Ar113, q113, S113, Ng113, Ha113, Ga113⟩ := id c112_V_a1
  have hin113 : ¬ ((3 : Int32) < 0 ∨ cl113.slots.size ≤ ((3 : Int32)).toNatClampNeg) := inb_of S113 ⟨by decide, by decide⟩
  have hat113 : cl113.slots[((3 : Int32)).toNatClampNeg]? = some (.int c3) := Ha113.at hin113 (rfl)
  have K114 : Keep h0 h103 [a2] := (Keep.refl h0 [a2]).wr W103 (Or.inl (List.mem_of_getElem? (i := 0) rfl))
  have K115 : Keep h0 h107 [a2] := K114.wr W107 (Or.inl (List.mem_of_getElem? (i := 0) rfl))
  have K116 : Keep h0 h111 [a2] := K115.wr W111 (Or.inl (List.mem_of_getElem? (i := 0) rfl))
  obtain ⟨fs, hr, hrun, hended, hW, hsame⟩ := X111.leave (v := some (.int (3 : Int32))) (fun h => by rw [Bd.returns] at h; cases h)
  refine ⟨_, _, castTop (ef_cc0_3 mM a1 a2 k1 k2 c0 c1 c2 c3) ?_, hrun, hended, _, _, rfl, ?_, ⟨_, rfl⟩, hW, hsame.mono (by decide) (by decide)⟩
  · show SS pP eE bS s₁ (mkF mM 0 (Lc_cc0_3_0 a1 a2) []) _
    refine XS.iconst X0.here hx rfl (hb hby d52_21_0) ?_
    refine XS.istore X0.here hx rfl (hb hby d52_21_1) rfl (l' := (Lc_cc0_3_1 a1 a2)) rfl ?_
    refine XS.iload X0.here hx rfl (hb hby d52_21_3) rfl ?_
    refine XS.iload X0.here hx rfl (hb hby d52_21_5) rfl ?_
    show SS pP eE bS s₁ (mkF mM 7 (Lc_cc0_3_1 a1 a2) [(.int (4 : Int32)), (.int (0 : Int32))]) _
    refine XS.icmpNo X0.here hx rfl (hb hby d52_21_7) rfl (tlt (by decide : (0 : Int32) < (4 : Int32))).2.1 ?_
    refine XS.aloadN X0.here hx rfl (hb hby d52_21_10) rfl rfl ?_
    refine XS.iloadN X0.here hx rfl (hb hby d52_21_11) rfl ?_
    show SS pP eE bS s₁ (mkF mM 12 (Lc_cc0_3_1 a1 a2) [(.int (0 : Int32)), (.ref a1)]) _
    refine X0.caload hx (j := (0 : Int32)) (v := (.int c0)) (by rw [e0]; exact Ar101.1) (State.isArrayOf_alike hZ.alike Ar101.2.1) Ar101.2.2 hin101 hat101 (g := (mkF mM 12 (Lc_cc0_3_1 a1 a2) [(.int (0 : Int32)), (.ref a1)])) rfl rfl (hb hby d52_21_12) _ ?_
    show SS pP eE bS s₁ (mkF mM 13 (Lc_cc0_3_1 a1 a2) [(.int c0)]) _
    refine XS.istore X0.here hx rfl (hb hby d52_21_13) rfl (l' := (Lc_cc0_3_2 a1 a2 c0)) rfl ?_
    refine XS.iload X0.here hx rfl (hb hby d52_21_15) rfl ?_
    refine XS.sipush X0.here hx rfl (hb hby d52_21_17) ?_
    refine XS.icmpYes X0.here hx rfl (pc0 := 20) (pc' := 26) rfl (hb hby d52_21_20) rfl (flt q0).2.2.2 (by decide) (by decide) ?_
    show SS pP eE bS s₁ (mkF mM 26 (Lc_cc0_3_2 a1 a2 c0) []) _
    refine XS.aloadN X0.here hx rfl (hb hby d52_21_26) rfl rfl ?_
    refine XS.iloadN X0.here hx rfl (hb hby d52_21_27) rfl ?_
    refine XS.iload X0.here hx rfl (hb hby d52_21_28) rfl ?_
    refine XS.i2b X0.here hx rfl (hb hby d52_21_30) rfl ?_
    show SS pP eE bS s₁ (mkF mM 31 (Lc_cc0_3_2 a1 a2 c0) [(.int (c0.toInt8.toInt32)), (.int (0 : Int32)), (.ref a2)]) _
    refine st103 _ ?_
    show SS pP eE bS T103 (mkF mM 32 (Lc_cc0_3_2 a1 a2 c0) []) _
    refine XS.iinc X103.here hx rfl (hb hby d52_21_32) rfl (l' := (Lc_cc0_3_3 a1 a2 c0)) rfl ?_
    refine XS.iinc X103.here hx rfl (hb hby d52_21_35) rfl (l' := (Lc_cc0_3_4 a1 a2 c0)) rfl ?_
    refine XS.iinc X103.here hx rfl (hb hby d52_21_38) rfl (l' := (Lc_cc0_3_5 a1 a2 c0)) rfl ?_
    refine XS.goto X103.here hx rfl (pc0 := 41) (pc' := 3) rfl (hb hby d52_21_41) (by decide) (by decide) ?_
    show SS pP eE bS T103 (mkF mM 3 (Lc_cc0_3_5 a1 a2 c0) []) _
    refine XS.iload X103.here hx rfl (hb hby d52_21_3) rfl ?_
    refine XS.iload X103.here hx rfl (hb hby d52_21_5) rfl ?_
    refine XS.icmpNo X103.here hx rfl (hb hby d52_21_7) rfl (tlt (by decide : (1 : Int32) < (4 : Int32))).2.1 ?_
    refine XS.aloadN X103.here hx rfl (hb hby d52_21_10) rfl rfl ?_
    show SS pP eE bS T103 (mkF mM 11 (Lc_cc0_3_5 a1 a2 c0) [(.ref a1)]) _
    refine XS.iloadN X103.here hx rfl (hb hby d52_21_11) rfl ?_
    show SS pP eE bS T103 (mkF mM 12 (Lc_cc0_3_5 a1 a2 c0) [(.int (1 : Int32)), (.ref a1)]) _
    refine X103.caload hx (j := (1 : Int32)) (v := (.int c1)) (by rw [e103]; exact Ar105.1) (State.isArrayOf_alike hZ.alike Ar105.2.1) Ar105.2.2 hin105 hat105 (g := (mkF mM 12 (Lc_cc0_3_5 a1 a2 c0) [(.int (1 : Int32)), (.ref a1)])) rfl rfl (hb hby d52_21_12) _ ?_
    show SS pP eE bS T103 (mkF mM 13 (Lc_cc0_3_5 a1 a2 c0) [(.int c1)]) _
    refine XS.istore X103.here hx rfl (hb hby d52_21_13) rfl (l' := (Lc_cc0_3_6 a1 a2 c1)) rfl ?_
    refine XS.iload X103.here hx rfl (hb hby d52_21_15) rfl ?_
    refine XS.sipush X103.here hx rfl (hb hby d52_21_17) ?_
    refine XS.icmpYes X103.here hx rfl (pc0 := 20) (pc' := 26) rfl (hb hby d52_21_20) rfl (flt q1).2.2.2 (by decide) (by decide) ?_
    show SS pP eE bS T103 (mkF mM 26 (Lc_cc0_3_6 a1 a2 c1) []) _
    refine XS.aloadN X103.here hx rfl (hb hby d52_21_26) rfl rfl ?_
    refine XS.iloadN X103.here hx rfl (hb hby d52_21_27) rfl ?_
    refine XS.iload X103.here hx rfl (hb hby d52_21_28) rfl ?_
    refine XS.i2b X103.here hx rfl (hb hby d52_21_30) rfl ?_
    show SS pP eE bS T103 (mkF mM 31 (Lc_cc0_3_6 a1 a2 c1) [(.int (c1.toInt8.toInt32)), (.int (1 : Int32)), (.ref a2)]) _
    refine st107 _ ?_
    show SS pP eE bS T107 (mkF mM 32 (Lc_cc0_3_6 a1 a2 c1) []) _
    refine XS.iinc X107.here hx rfl (hb hby d52_21_32) rfl (l' := (Lc_cc0_3_7 a1 a2 c1)) rfl ?_
    refine XS.iinc X107.here hx rfl (hb hby d52_21_35) rfl (l' := (Lc_cc0_3_8 a1 a2 c1)) rfl ?_
    refine XS.iinc X107.here hx rfl (hb hby d52_21_38) rfl (l' := (Lc_cc0_3_9 a1 a2 c1)) rfl ?_
    refine XS.goto X107.here hx rfl (pc0 := 41) (pc' := 3) rfl (hb hby d52_21_41) (by decide) (by decide) ?_
    show SS pP eE bS T107 (mkF mM 3 (Lc_cc0_3_9 a1 a2 c1) []) _
    refine XS.iload X107.here hx rfl (hb hby d52_21_3) rfl ?_
    refine XS.iload X107.here hx rfl (hb hby d52_21_5) rfl ?_
    refine XS.icmpNo X107.here hx rfl (hb hby d52_21_7) rfl (tlt (by decide : (2 : Int32) < (4 : Int32))).2.1 ?_
    refine XS.aloadN X107.here hx rfl (hb hby d52_21_10) rfl rfl ?_
    show SS pP eE bS T107 (mkF mM 11 (Lc_cc0_3_9 a1 a2 c1) [(.ref a1)]) _
    refine XS.iloadN X107.here hx rfl (hb hby d52_21_11) rfl ?_
    show SS pP eE bS T107 (mkF mM 12 (Lc_cc0_3_9 a1 a2 c1) [(.int (2 : Int32)), (.ref a1)]) _
    refine X107.caload hx (j := (2 : Int32)) (v := (.int c2)) (by rw [e107]; exact Ar109.1) (State.isArrayOf_alike hZ.alike Ar109.2.1) Ar109.2.2 hin109 hat109 (g := (mkF mM 12 (Lc_cc0_3_9 a1 a2 c1) [(.int (2 : Int32)), (.ref a1)])) rfl rfl (hb hby d52_21_12) _ ?_
    show SS pP eE bS T107 (mkF mM 13 (Lc_cc0_3_9 a1 a2 c1) [(.int c2)]) _
    refine XS.istore X107.here hx rfl (hb hby d52_21_13) rfl (l' := (Lc_cc0_3_10 a1 a2 c2)) rfl ?_
    refine XS.iload X107.here hx rfl (hb hby d52_21_15) rfl ?_
    refine XS.sipush X107.here hx rfl (hb hby d52_21_17) ?_
    refine XS.icmpYes X107.here hx rfl (pc0 := 20) (pc' := 26) rfl (hb hby d52_21_20) rfl (flt q2).2.2.2 (by decide) (by decide) ?_
    show SS pP eE bS T107 (mkF mM 26 (Lc_cc0_3_10 a1 a2 c2) []) _
    refine XS.aloadN X107.here hx rfl (hb hby d52_21_26) rfl rfl ?_
    refine XS.iloadN X107.here hx rfl (hb hby d52_21_27) rfl ?_
    refine XS.iload X107.here hx rfl (hb hby d52_21_28) rfl ?_
    refine XS.i2b X107.here hx rfl (hb hby d52_21_30) rfl ?_
    show SS pP eE bS T107 (mkF mM 31 (Lc_cc0_3_10 a1 a2 c2) [(.int (c2.toInt8.toInt32)), (.int (2 : Int32)), (.ref a2)]) _
    refine st111 _ ?_
    show SS pP eE bS T111 (mkF mM 32 (Lc_cc0_3_10 a1 a2 c2) []) _
    refine XS.iinc X111.here hx rfl (hb hby d52_21_32) rfl (l' := (Lc_cc0_3_11 a1 a2 c2)) rfl ?_
    refine XS.iinc X111.here hx rfl (hb hby d52_21_35) rfl (l' := (Lc_cc0_3_12 a1 a2 c2)) rfl ?_
    refine XS.iinc X111.here hx rfl (hb hby d52_21_38) rfl (l' := (Lc_cc0_3_13 a1 a2 c2)) rfl ?_
    refine XS.goto X111.here hx rfl (pc0 := 41) (pc' := 3) rfl (hb hby d52_21_41) (by decide) (by decide) ?_
    show SS pP eE bS T111 (mkF mM 3 (Lc_cc0_3_13 a1 a2 c2) []) _
    refine XS.iload X111.here hx rfl (hb hby d52_21_3) rfl ?_
    refine XS.iload X111.here hx rfl (hb hby d52_21_5) rfl ?_
    refine XS.icmpNo X111.here hx rfl (hb hby d52_21_7) rfl (tlt (by decide : (3 : Int32) < (4 : Int32))).2.1 ?_
    refine XS.aloadN X111.here hx rfl (hb hby d52_21_10) rfl rfl ?_
    show SS pP eE bS T111 (mkF mM 11 (Lc_cc0_3_13 a1 a2 c2) [(.ref a1)]) _
    refine XS.iloadN X111.here hx rfl (hb hby d52_21_11) rfl ?_
    show SS pP eE bS T111 (mkF mM 12 (Lc_cc0_3_13 a1 a2 c2) [(.int (3 : Int32)), (.ref a1)]) _
    refine X111.caload hx (j := (3 : Int32)) (v := (.int c3)) (by rw [e111]; exact Ar113.1) (State.isArrayOf_alike hZ.alike Ar113.2.1) Ar113.2.2 hin113 hat113 (g := (mkF mM 12 (Lc_cc0_3_13 a1 a2 c2) [(.int (3 : Int32)), (.ref a1)])) rfl rfl (hb hby d52_21_12) _ ?_
    show SS pP eE bS T111 (mkF mM 13 (Lc_cc0_3_13 a1 a2 c2) [(.int c3)]) _
    refine XS.istore X111.here hx rfl (hb hby d52_21_13) rfl (l' := (Lc_cc0_3_14 a1 a2 c3)) rfl ?_
    refine XS.iload X111.here hx rfl (hb hby d52_21_15) rfl ?_
    refine XS.sipush X111.here hx rfl (hb hby d52_21_17) ?_
    refine XS.icmpNo X111.here hx rfl (hb hby d52_21_20) rfl (tlt g3).2.2.2 ?_
    show SS pP eE bS T111 (mkF mM 23 (Lc_cc0_3_14 a1 a2 c3) []) _
    refine XS.iload X111.here hx rfl (hb hby d52_21_23) rfl ?_
    show SS pP eE bS T111 (mkF mM 25 (Lc_cc0_3_14 a1 a2 c3) [(.int (3 : Int32))]) _
    exact retI X111 hx Bd.returns (hb hby d52_21_25) hr
  · show Q_c0 Z a2 [c0, c1, c2, c3] h0 n0 _ T111.heap _
    rw [e111]
    exact ⟨(3 : Int32), c3, rfl, N111, K116, (⟨3, by decide, rfl, rfl, g3⟩)⟩
theorem rm_cc0F (l : Launch) (Z : State) (a0 : Array Value) (hw : HW a0 Z) (ws : List Jvm.Cond) (a1 : Addr) (a2 : Addr) (k1 : ClassId) (k2 : ClassId) (c0 : Int32) (c1 : Int32) (c2 : Int32) (c3 : Int32) (h0 : Heap) (n0 : Nat) (Z0 : n0 ≤ h0.size) (V_a1 : Arv Z h0 a1 k1 .char (4 : Int32) [(.int c0), (.int c1), (.int c2), (.int c3)] (.int (0 : Int32))) (V_a2 : Arv Z h0 a2 k2 .byte (4 : Int32) [(.int (0 : Int32)), (.int (0 : Int32)), (.int (0 : Int32)), (.int (0 : Int32))] (.int (0 : Int32))) (ne_a1_a2 : @Ne Nat a1 a2) (g_a2 : @LE.le Nat _ n0 a2) (hany : AnyG [c0, c1, c2, c3]) :
    MetFree l y7_ (head1 (Jvm.Cond.code y7_ jdk_52_method_21_code 7 (some .int) :: ws) r0_0_0_0) (fun xa xU => xa = #[(.ref a1), (.int (0 : Int32)), (.ref a2), (.int (0 : Int32)), (.int (4 : Int32))] ∧ Z.Warmed39 xU.vm ∧ xU.heap = h0) (fun _ _ _ _ _ => True) (fun _ xU xo xU' => ∃ xv xL, xo = .returned xv ∧ Q_c0 Z a2 [c0, c1, c2, c3] h0 n0 xv xU'.heap xL ∧ FrameEnd xU xo xU' xL r0_0_0_0.cells r0_0_0_0.slots) := by
  by_cases g0 : (255 : Int32) < c0
  · exact rm_cc0_0 l Z a0 hw ws a1 a2 k1 k2 c0 c1 c2 c3 h0 n0 Z0 V_a1 V_a2 ne_a1_a2 g_a2 g0
  have q0 : ¬ ((255 : Int32) < c0) := g0
  by_cases g1 : (255 : Int32) < c1
  · exact rm_cc0_1 l Z a0 hw ws a1 a2 k1 k2 c0 c1 c2 c3 h0 n0 Z0 V_a1 V_a2 ne_a1_a2 g_a2 q0 g1
  have q1 : ¬ ((255 : Int32) < c1) := g1
  by_cases g2 : (255 : Int32) < c2
  · exact rm_cc0_2 l Z a0 hw ws a1 a2 k1 k2 c0 c1 c2 c3 h0 n0 Z0 V_a1 V_a2 ne_a1_a2 g_a2 q0 q1 g2
  have q2 : ¬ ((255 : Int32) < c2) := g2
  by_cases g3 : (255 : Int32) < c3
  · exact rm_cc0_3 l Z a0 hw ws a1 a2 k1 k2 c0 c1 c2 c3 h0 n0 Z0 V_a1 V_a2 ne_a1_a2 g_a2 q0 q1 q2 g3
  have q3 : ¬ ((255 : Int32) < c3) := g3
  exact absurd hany (fun h => by rcases h with h | h | h | h | h <;> first | exact absurd h (by assumption) | exact h)
abbrev c52_16 := jdk_52_method_16_code
theorem d52_16_0 : decode c52_16 0 = .ok (.iload_n 2, 1) := by decide +kernel
theorem d52_16_1 : decode c52_16 1 = .ok (.newarray .byte, 2) := by decide +kernel
theorem d52_16_3 : decode c52_16 3 = .ok (.astore_n 3, 1) := by decide +kernel
theorem d52_16_4 : decode c52_16 4 = .ok (.aload_n 0, 1) := by decide +kernel
theorem d52_16_5 : decode c52_16 5 = .ok (.iload_n 1, 1) := by decide +kernel
theorem d52_16_6 : decode c52_16 6 = .ok (.aload_n 3, 1) := by decide +kernel
theorem d52_16_7 : decode c52_16 7 = .ok (.iconst 0, 1) := by decide +kernel
theorem d52_16_8 : decode c52_16 8 = .ok (.iload_n 2, 1) := by decide +kernel
theorem d52_16_9 : decode c52_16 9 = .ok (.invokestatic 115, 3) := by decide +kernel
theorem pd_4 : parseMethodDescriptor "([CI[BII)I" = some ⟨[(.array .char), .int, (.array .byte), .int, .int], some .int⟩ := by decide +kernel
theorem d52_16_12 : decode c52_16 12 = .ok (.istore 4, 2) := by decide +kernel
theorem d52_16_14 : decode c52_16 14 = .ok (.iload 4, 2) := by decide +kernel
theorem d52_16_16 : decode c52_16 16 = .ok (.iload_n 2, 1) := by decide +kernel
theorem d52_16_17 : decode c52_16 17 = .ok (.if_icmp .eq 40, 3) := by decide +kernel
theorem d52_16_57 : decode c52_16 57 = .ok (.aload_n 3, 1) := by decide +kernel
theorem d52_16_58 : decode c52_16 58 = .ok (.areturn, 1) := by decide +kernel
def Q_cb (Z : State) (n : Int32) (ds : List Int32) (h0 : Heap) (n0 : Nat) (xv : Option Value) (xh : Heap) (xL : List Loc) : Prop := ∃ b : Addr, ∃ k2 : ClassId, ∃ z : Int32, ∃ vs : List Value, ∃ co : Int32, xv = some (.ref b) ∧ Fr n0 xL ∧ Keep h0 xh [] ∧ Arv Z xh b k2 .byte z vs (.int (0 : Int32)) ∧ ((((n - z).toUInt32 >>> ((31 : Int32) &&& 31).toUInt32).toInt32).toInt8.toInt32) = co ∧ co.toInt8.toInt32 = co ∧ StrC co z vs ds ∧ @LE.le Nat _ h0.size b
theorem d52_16_20 : decode c52_16 20 = .ok (.aload_n 0, 1) := by decide +kernel
theorem d52_16_21 : decode c52_16 21 = .ok (.iload_n 1, 1) := by decide +kernel
theorem d52_16_22 : decode c52_16 22 = .ok (.iload_n 2, 1) := by decide +kernel
theorem d52_16_23 : decode c52_16 23 = .ok (.invokestatic 119, 3) := by decide +kernel
theorem pd_3 : parseMethodDescriptor "([CII)[B" = some ⟨[(.array .char), .int, .int], some (.array .byte)⟩ := by decide +kernel
theorem d52_16_26 : decode c52_16 26 = .ok (.astore 5, 2) := by decide +kernel
theorem d52_16_28 : decode c52_16 28 = .ok (.aload 5, 2) := by decide +kernel
theorem d52_16_30 : decode c52_16 30 = .ok (.iload 4, 2) := by decide +kernel
theorem d52_16_32 : decode c52_16 32 = .ok (.invokestatic 71, 3) := by decide +kernel
theorem pd_21 : parseMethodDescriptor "([BI)C" = some ⟨[(.array .byte), .int], some .char⟩ := by decide +kernel
theorem d52_16_35 : decode c52_16 35 = .ok (.sipush 255, 3) := by decide +kernel
theorem d52_16_38 : decode c52_16 38 = .ok (.if_icmp .gt 16, 3) := by decide +kernel
theorem d52_16_54 : decode c52_16 54 = .ok (.aload 5, 2) := by decide +kernel
theorem d52_16_56 : decode c52_16 56 = .ok (.areturn, 1) := by decide +kernel
abbrev r3_2_12_40 : Room := { frames := 3, cells := 2, slots := 12, locals := 40 }
abbrev y8_ : MethodName := ⟨"java/lang/StringUTF16", "compress", "([CII)[B"⟩
abbrev Lc_cc1_S_0 (a1 : Addr) : Array Slot := #[.val (.ref a1), .val (.int (0 : Int32)), .val (.int (4 : Int32)), .unset, .unset, .unset]
abbrev Lc_cc1_S_1 (a1 : Addr) (b101 : Addr) : Array Slot := #[.val (.ref a1), .val (.int (0 : Int32)), .val (.int (4 : Int32)), .val (.ref b101), .unset, .unset]
abbrev Lc_cc1_S_2 (a1 : Addr) (b101 : Addr) : Array Slot := #[.val (.ref a1), .val (.int (0 : Int32)), .val (.int (4 : Int32)), .val (.ref b101), .val (.int (4 : Int32)), .unset]
theorem ef_cc1_S (mM : MethodId) (a1 : Addr) (k1 : ClassId) (c0 : Int32) (c1 : Int32) (c2 : Int32) (c3 : Int32) : entryFrame mM #[(.ref a1), (.int (0 : Int32)), (.int (4 : Int32))] 6 = mkF mM 0 #[.val (.ref a1), .val (.int (0 : Int32)), .val (.int (4 : Int32)), .unset, .unset, .unset] [] := by
  first | (simp [entryFrame, mkF, argsToLocals, Value.category]; done) | rfl
theorem rm_cc1_S (l : Launch) (Z : State) (a0 : Array Value) (hw : HW a0 Z) (ws : List Jvm.Cond) (a1 : Addr) (k1 : ClassId) (c0 : Int32) (c1 : Int32) (c2 : Int32) (c3 : Int32) (h0 : Heap) (n0 : Nat) (Z0 : n0 ≤ h0.size) (V_a1 : Arv Z h0 a1 k1 .char (4 : Int32) [(.int c0), (.int c1), (.int c2), (.int c3)] (.int (0 : Int32))) (q0 : ¬ ((255 : Int32) < c0)) (q1 : ¬ ((255 : Int32) < c1)) (q2 : ¬ ((255 : Int32) < c2)) (q3 : ¬ ((255 : Int32) < c3)) (f0 : Ch c0) (f1 : Ch c1) (f2 : Ch c2) (f3 : Ch c3) (OL : Old Z n0 h0) (S__assertionsDisabled : Sta Z Z.heap "java/lang/StringUTF16" "$assertionsDisabled" "Z" (.int (1 : Int32))) (S_HI_BYTE_SHIFT : Sta Z Z.heap "java/lang/StringUTF16" "HI_BYTE_SHIFT" "I" (.int (0 : Int32))) (S_LO_BYTE_SHIFT : Sta Z Z.heap "java/lang/StringUTF16" "LO_BYTE_SHIFT" "I" (.int (8 : Int32))) :
    MetFree l y8_ (head1 (Jvm.Cond.code y8_ jdk_52_method_16_code 6 (some (.array .byte)) :: ws) r3_2_12_40) (fun xa xU => xa = #[(.ref a1), (.int (0 : Int32)), (.int (4 : Int32))] ∧ Z.Warmed39 xU.vm ∧ xU.heap = h0) (fun _ _ _ _ _ => True) (fun _ xU xo xU' => ∃ xv xL, xo = .returned xv ∧ Q_cb Z (4 : Int32) [c0, c1, c2, c3] h0 n0 xv xU'.heap xL ∧ FrameEnd xU xo xU' xL r3_2_12_40.cells r3_2_12_40.slots) := by
  refine MetFree.of_bodySF (plainFor_of_name pn_java_lang_StringUTF16) hisR ?_
  intro pP eE sS mM argS bS methS cC s₁ Bd hml0 hP hK
  obtain ⟨rfl, hZ, hh⟩ := hP
  have hx := Bd.exec
  have hby := Bd.bytes
  have hml : cC.maxLocals = 6 := hml0
  have hown : sS.vm.findClass "java/lang/StringUTF16" = some mM.cls := findClass_of_methodNamed Bd.named
  have hnm := (name_of_methodNamed Bd.named Bd.method).1
  have X0 : Stand pP l eE r3_2_12_40 sS mM #[(.ref a1), (.int (0 : Int32)), (.int (4 : Int32))] bS methS cC s₁ [] 0 0 := Stand.of_body Bd
  have e0 : s₁.heap = h0 := by rw [← hh, Bd.state]; rfl
  have N0 := Fr.nil n0
  obtain ⟨T101, h101, k101, X101, e101, E101, A101, st101⟩ := newP X0 hx hZ (wi hw 20 rfl) e0 (g := (mkF mM 1 (Lc_cc1_S_0 a1) [(.int (4 : Int32))])) rfl (hb hby d52_16_1) rfl (by decide) (cap := 4) (by decide) (by decide) (by decide) (by decide)
  obtain ⟨b101, g101⟩ : ∃ z : Nat, z = h0.size := ⟨_, rfl⟩
  rw [← g101] at A101 st101
  have Sz1 : h0.size ≤ h101.size := E101.1
  have V_b101 : Arv Z h101 b101 k101 .byte (4 : Int32) [(.int (0 : Int32)), (.int (0 : Int32)), (.int (0 : Int32)), (.int (0 : Int32))] (.int (0 : Int32)) := (Arv.new A101 (by decide)).pad (pad_rep [] (.int (0 : Int32)) 4)
  have c103_V_a1 : Arv Z h101 a1 k1 .char (4 : Int32) [(.int c0), (.int c1), (.int c2), (.int c3)] (.int (0 : Int32)) := V_a1.ext E101
  have lt_a1 : @LT.lt Nat _ a1 h0.size := V_a1.lt
  have lt_b101 : @LT.lt Nat _ b101 h101.size := V_b101.lt
  have ne_a1_b101_104 : a1 ≠ b101 := (by omega : @Ne Nat a1 b101)
  have ge105_b101 : @LE.le Nat _ n0 b101 := by omega
  obtain ⟨_, _, ⟨T102, L102, k102, n102⟩, -, X102, ⟨Lc102, hQ102, l102, y102, z102⟩, st102⟩ := Jvm.LawKit.callS X101 hx (y := y7_) hown (mvT hZ (wi hw 21 rfl)) (mvT hZ (wi hw 22 rfl)) (mvT hZ (wi hw 18 rfl)) (mvT hZ (wi hw 23 rfl)) (by decide) (backOf (W := 0) (rm_cc0_4 l Z a0 hw [] a1 b101 k1 k101 c0 c1 c2 c3 h101 n0 (by omega) c103_V_a1 V_b101 ne_a1_b101_104 ge105_b101 q0 q1 q2 q3) hZ (wi hw 23 rfl) (wi hw 18 rfl) (by decide) (by decide)) (g := (mkF mM 9 (Lc_cc1_S_1 a1 b101) [(.int (4 : Int32)), (.int (0 : Int32)), (.ref b101), (.int (0 : Int32)), (.ref a1)])) rfl (by rw [hml]; rfl) (argsL := [(.ref a1), (.int (0 : Int32)), (.ref b101), (.int (0 : Int32)), (.int (4 : Int32))]) (rest := []) (lenOf pd_4 rfl) rfl (by show 2 * 0 + _ ≤ _; exact Nat.le_of_eq rfl) (hb hby d52_16_9) (fun _ _ => ⟨rfl, e101, ble rfl, ble rfl⟩)
  dsimp only [Pt.U, Pt.locs, Pt.cells, Pt.slots] at X102 l102 y102 z102 st102 hQ102
  subst y102 z102
  obtain ⟨h102, e102⟩ : ∃ z, T102.heap = z := ⟨_, rfl⟩
  rw [e102] at hQ102
  obtain ⟨rfl, N102q, Kp102, p102_V_a2⟩ := hQ102
  have Sz2 : h101.size ≤ h102.size := Kp102.1
  have N102 : Fr n0 L102 := by rw [l102]; exact Fr.app N0 N102q
  have K106 : Keep h0 h101 [] := (Keep.refl h0 []).ext E101
  have K107 : Keep h0 h102 [] := K106.trans Kp102 (allS (Or.inr (by omega : @LE.le Nat _ h0.size b101)) all0)
  obtain ⟨fs, hr, hrun, hended, hW, hsame⟩ := X102.leave (v := some (.ref b101)) (fun h => by rw [Bd.returns] at h; cases h)
  refine ⟨_, _, castTop (ef_cc1_S mM a1 k1 c0 c1 c2 c3) ?_, hrun, hended, _, _, rfl, ?_, ⟨_, rfl⟩, hW, hsame.mono (by decide) (by decide)⟩
  · show SS pP eE bS s₁ (mkF mM 0 (Lc_cc1_S_0 a1) []) _
    refine XS.iloadN X0.here hx rfl (hb hby d52_16_0) rfl ?_
    show SS pP eE bS s₁ (mkF mM 1 (Lc_cc1_S_0 a1) [(.int (4 : Int32))]) _
    refine st101 _ ?_
    show SS pP eE bS T101 (mkF mM 3 (Lc_cc1_S_0 a1) [(.ref b101)]) _
    refine XS.astoreN X101.here hx rfl (hb hby d52_16_3) rfl rfl (l' := (Lc_cc1_S_1 a1 b101)) rfl ?_
    refine XS.aloadN X101.here hx rfl (hb hby d52_16_4) rfl rfl ?_
    refine XS.iloadN X101.here hx rfl (hb hby d52_16_5) rfl ?_
    refine XS.aloadN X101.here hx rfl (hb hby d52_16_6) rfl rfl ?_
    show SS pP eE bS T101 (mkF mM 7 (Lc_cc1_S_1 a1 b101) [(.ref b101), (.int (0 : Int32)), (.ref a1)]) _
    refine XS.iconst X101.here hx rfl (hb hby d52_16_7) ?_
    refine XS.iloadN X101.here hx rfl (hb hby d52_16_8) rfl ?_
    show SS pP eE bS T101 (mkF mM 9 (Lc_cc1_S_1 a1 b101) [(.int (4 : Int32)), (.int (0 : Int32)), (.ref b101), (.int (0 : Int32)), (.ref a1)]) _
    refine st102 _ ?_
    show SS pP eE bS T102 (mkF mM 12 (Lc_cc1_S_1 a1 b101) [(.int (4 : Int32))]) _
    refine XS.istore X102.here hx rfl (hb hby d52_16_12) rfl (l' := (Lc_cc1_S_2 a1 b101)) rfl ?_
    refine XS.iload X102.here hx rfl (hb hby d52_16_14) rfl ?_
    refine XS.iloadN X102.here hx rfl (hb hby d52_16_16) rfl ?_
    refine XS.icmpYes X102.here hx rfl (pc0 := 17) (pc' := 57) rfl (hb hby d52_16_17) rfl (teq (by decide : (4 : Int32) = (4 : Int32))).1 (by decide) (by decide) ?_
    show SS pP eE bS T102 (mkF mM 57 (Lc_cc1_S_2 a1 b101) []) _
    refine XS.aloadN X102.here hx rfl (hb hby d52_16_57) rfl rfl ?_
    show SS pP eE bS T102 (mkF mM 58 (Lc_cc1_S_2 a1 b101) [(.ref b101)]) _
    jvm_step X102.here [X102.here.top, hx, (hb hby d52_16_58), X102.method', Bd.returns, Value.isRef, FieldType.isReference]
    first | (intro acts; rw [hr _ acts rfl rfl rfl]) | rw [hr _ _ rfl rfl rfl]
    exact Steps.refl _
  · show Q_cb Z (4 : Int32) [c0, c1, c2, c3] h0 n0 _ T102.heap _
    rw [e102]
    exact ⟨b101, k101, (4 : Int32), [(.int c0.toInt8.toInt32), (.int c1.toInt8.toInt32), (.int c2.toInt8.toInt32), (.int c3.toInt8.toInt32)], (0 : Int32), rfl, N102, K107, p102_V_a2, (by decide), (by decide), (Or.inl ⟨rfl, rfl, rfl, own_lat f0 q0, own_lat f1 q1, own_lat f2 q2, own_lat f3 q3, trivial⟩), (by omega)⟩
abbrev Lc_cc1_F_0 (a1 : Addr) : Array Slot := #[.val (.ref a1), .val (.int (0 : Int32)), .val (.int (4 : Int32)), .unset, .unset, .unset]
abbrev Lc_cc1_F_1 (a1 : Addr) (b101 : Addr) : Array Slot := #[.val (.ref a1), .val (.int (0 : Int32)), .val (.int (4 : Int32)), .val (.ref b101), .unset, .unset]
abbrev Lc_cc1_F_2 (a1 : Addr) (b101 : Addr) (jj_102 : Int32) : Array Slot := #[.val (.ref a1), .val (.int (0 : Int32)), .val (.int (4 : Int32)), .val (.ref b101), .val (.int jj_102), .unset]
abbrev Lc_cc1_F_3 (a1 : Addr) (b101 : Addr) (jj_102 : Int32) (b_106 : Addr) : Array Slot := #[.val (.ref a1), .val (.int (0 : Int32)), .val (.int (4 : Int32)), .val (.ref b101), .val (.int jj_102), .val (.ref b_106)]
theorem ef_cc1_F (mM : MethodId) (a1 : Addr) (k1 : ClassId) (c0 : Int32) (c1 : Int32) (c2 : Int32) (c3 : Int32) : entryFrame mM #[(.ref a1), (.int (0 : Int32)), (.int (4 : Int32))] 6 = mkF mM 0 #[.val (.ref a1), .val (.int (0 : Int32)), .val (.int (4 : Int32)), .unset, .unset, .unset] [] := by
  first | (simp [entryFrame, mkF, argsToLocals, Value.category]; done) | rfl
theorem rm_cc1_F (l : Launch) (Z : State) (a0 : Array Value) (hw : HW a0 Z) (ws : List Jvm.Cond) (a1 : Addr) (k1 : ClassId) (c0 : Int32) (c1 : Int32) (c2 : Int32) (c3 : Int32) (h0 : Heap) (n0 : Nat) (Z0 : n0 ≤ h0.size) (V_a1 : Arv Z h0 a1 k1 .char (4 : Int32) [(.int c0), (.int c1), (.int c2), (.int c3)] (.int (0 : Int32))) (hany : AnyG [c0, c1, c2, c3]) (f0 : Ch c0) (f1 : Ch c1) (f2 : Ch c2) (f3 : Ch c3) (OL : Old Z n0 h0) (S__assertionsDisabled : Sta Z Z.heap "java/lang/StringUTF16" "$assertionsDisabled" "Z" (.int (1 : Int32))) (S_HI_BYTE_SHIFT : Sta Z Z.heap "java/lang/StringUTF16" "HI_BYTE_SHIFT" "I" (.int (0 : Int32))) (S_LO_BYTE_SHIFT : Sta Z Z.heap "java/lang/StringUTF16" "LO_BYTE_SHIFT" "I" (.int (8 : Int32))) :
    MetFree l y8_ (head1 (Jvm.Cond.code y8_ jdk_52_method_16_code 6 (some (.array .byte)) :: ws) r3_2_12_40) (fun xa xU => xa = #[(.ref a1), (.int (0 : Int32)), (.int (4 : Int32))] ∧ Z.Warmed39 xU.vm ∧ xU.heap = h0) (fun _ _ _ _ _ => True) (fun _ xU xo xU' => ∃ xv xL, xo = .returned xv ∧ Q_cb Z (4 : Int32) [c0, c1, c2, c3] h0 n0 xv xU'.heap xL ∧ FrameEnd xU xo xU' xL r3_2_12_40.cells r3_2_12_40.slots) := by
  refine MetFree.of_bodySF (plainFor_of_name pn_java_lang_StringUTF16) hisR ?_
  intro pP eE sS mM argS bS methS cC s₁ Bd hml0 hP hK
  obtain ⟨rfl, hZ, hh⟩ := hP
  have hx := Bd.exec
  have hby := Bd.bytes
  have hml : cC.maxLocals = 6 := hml0
  have hown : sS.vm.findClass "java/lang/StringUTF16" = some mM.cls := findClass_of_methodNamed Bd.named
  have hnm := (name_of_methodNamed Bd.named Bd.method).1
  have X0 : Stand pP l eE r3_2_12_40 sS mM #[(.ref a1), (.int (0 : Int32)), (.int (4 : Int32))] bS methS cC s₁ [] 0 0 := Stand.of_body Bd
  have e0 : s₁.heap = h0 := by rw [← hh, Bd.state]; rfl
  have N0 := Fr.nil n0
  obtain ⟨T101, h101, k101, X101, e101, E101, A101, st101⟩ := newP X0 hx hZ (wi hw 20 rfl) e0 (g := (mkF mM 1 (Lc_cc1_F_0 a1) [(.int (4 : Int32))])) rfl (hb hby d52_16_1) rfl (by decide) (cap := 4) (by decide) (by decide) (by decide) (by decide)
  obtain ⟨b101, g101⟩ : ∃ z : Nat, z = h0.size := ⟨_, rfl⟩
  rw [← g101] at A101 st101
  have Sz1 : h0.size ≤ h101.size := E101.1
  have V_b101 : Arv Z h101 b101 k101 .byte (4 : Int32) [(.int (0 : Int32)), (.int (0 : Int32)), (.int (0 : Int32)), (.int (0 : Int32))] (.int (0 : Int32)) := (Arv.new A101 (by decide)).pad (pad_rep [] (.int (0 : Int32)) 4)
  have c103_V_a1 : Arv Z h101 a1 k1 .char (4 : Int32) [(.int c0), (.int c1), (.int c2), (.int c3)] (.int (0 : Int32)) := V_a1.ext E101
  have lt_a1 : @LT.lt Nat _ a1 h0.size := V_a1.lt
  have lt_b101 : @LT.lt Nat _ b101 h101.size := V_b101.lt
  have ne_a1_b101_104 : a1 ≠ b101 := (by omega : @Ne Nat a1 b101)
  have ge105_b101 : @LE.le Nat _ n0 b101 := by omega
  obtain ⟨_, _, ⟨T102, L102, k102, n102⟩, -, X102, ⟨Lc102, hQ102, l102, y102, z102⟩, st102⟩ := Jvm.LawKit.callS X101 hx (y := y7_) hown (mvT hZ (wi hw 21 rfl)) (mvT hZ (wi hw 22 rfl)) (mvT hZ (wi hw 18 rfl)) (mvT hZ (wi hw 23 rfl)) (by decide) (backOf (W := 0) (rm_cc0F l Z a0 hw [] a1 b101 k1 k101 c0 c1 c2 c3 h101 n0 (by omega) c103_V_a1 V_b101 ne_a1_b101_104 ge105_b101 hany) hZ (wi hw 23 rfl) (wi hw 18 rfl) (by decide) (by decide)) (g := (mkF mM 9 (Lc_cc1_F_1 a1 b101) [(.int (4 : Int32)), (.int (0 : Int32)), (.ref b101), (.int (0 : Int32)), (.ref a1)])) rfl (by rw [hml]; rfl) (argsL := [(.ref a1), (.int (0 : Int32)), (.ref b101), (.int (0 : Int32)), (.int (4 : Int32))]) (rest := []) (lenOf pd_4 rfl) rfl (by show 2 * 0 + _ ≤ _; exact Nat.le_of_eq rfl) (hb hby d52_16_9) (fun _ _ => ⟨rfl, e101, ble rfl, ble rfl⟩)
  dsimp only [Pt.U, Pt.locs, Pt.cells, Pt.slots] at X102 l102 y102 z102 st102 hQ102
  subst y102 z102
  obtain ⟨h102, e102⟩ : ∃ z, T102.heap = z := ⟨_, rfl⟩
  rw [e102] at hQ102
  obtain ⟨jj_102, dd_102, rfl, N102q, Kp102, p102_hjd⟩ := hQ102
  have Sz2 : h101.size ≤ h102.size := Kp102.1
  have N102 : Fr n0 L102 := by rw [l102]; exact Fr.app N0 N102q
  have c107_V_a1 : Arv Z h102 a1 k1 .char (4 : Int32) [(.int c0), (.int c1), (.int c2), (.int c3)] (.int (0 : Int32)) := c103_V_a1.keep Kp102 (ninS ne_a1_b101_104 nin0)
  have c108_OL : Old Z n0 h101 := OL.ext E101
  have c109_OL : Old Z n0 h102 := c108_OL.keep Kp102 (allS ge105_b101 all0)
  obtain ⟨_, _, ⟨T106, L106, k106, n106⟩, -, X106, ⟨Lc106, hQ106, l106, y106, z106⟩, st106⟩ := Jvm.LawKit.callS X102 hx (y := y4_) hown (mvT hZ (wi hw 124 rfl)) (mvT hZ (wi hw 125 rfl)) (mvT hZ (wi hw 18 rfl)) (mvT hZ (wi hw 126 rfl)) (by decide) (backOf (W := 0) (rm_toBytes l Z a0 hw [] a1 k1 c0 c1 c2 c3 h102 n0 (by omega) c107_V_a1 c109_OL S__assertionsDisabled S_HI_BYTE_SHIFT S_LO_BYTE_SHIFT) hZ (wi hw 126 rfl) (wi hw 18 rfl) (by decide) (by decide)) (g := (mkF mM 23 (Lc_cc1_F_2 a1 b101 jj_102) [(.int (4 : Int32)), (.int (0 : Int32)), (.ref a1)])) rfl (by rw [hml]; rfl) (argsL := [(.ref a1), (.int (0 : Int32)), (.int (4 : Int32))]) (rest := []) (lenOf pd_3 rfl) rfl (by show 2 * 0 + _ ≤ _; exact Nat.le_of_eq rfl) (hb hby d52_16_23) (fun _ _ => ⟨rfl, e102, ble rfl, ble rfl⟩)
  dsimp only [Pt.U, Pt.locs, Pt.cells, Pt.slots] at X106 l106 y106 z106 st106 hQ106
  subst y106 z106
  obtain ⟨h106, e106⟩ : ∃ z, T106.heap = z := ⟨_, rfl⟩
  rw [e106] at hQ106
  obtain ⟨b_106, k2_106, rfl, N106q, Kp106, p106_V_b, p106_gh_b⟩ := hQ106
  have Sz3 : h102.size ≤ h106.size := Kp106.1
  have N106 : Fr n0 L106 := by rw [l106]; exact Fr.app N102 N106q
  have c111_OL : Old Z n0 h106 := c109_OL.keep Kp106 all0
  obtain ⟨_, _, ⟨T110, L110, k110, n110⟩, -, X110, ⟨Lc110, hQ110, l110, y110, z110⟩, st110⟩ := Jvm.LawKit.callS X106 hx (y := y0_) hown (mvT hZ (wi hw 140 rfl)) (mvT hZ (wi hw 141 rfl)) (mvT hZ (wi hw 18 rfl)) (mvT hZ (wi hw 142 rfl)) (by decide) (backOf (W := 0) (rm_getCharG l Z a0 hw [] b_106 k2_106 (8 : Int32) _ jj_102 dd_102 h106 n0 (by omega) p106_V_b c111_OL S__assertionsDisabled S_HI_BYTE_SHIFT S_LO_BYTE_SHIFT (own_jd4 f0 f1 f2 f3 p102_hjd)) hZ (wi hw 142 rfl) (wi hw 18 rfl) (by decide) (by decide)) (g := (mkF mM 32 (Lc_cc1_F_3 a1 b101 jj_102 b_106) [(.int jj_102), (.ref b_106)])) rfl (by rw [hml]; rfl) (argsL := [(.ref b_106), (.int jj_102)]) (rest := []) (lenOf pd_21 rfl) rfl (by show 2 * 0 + _ ≤ _; exact Nat.le_of_eq rfl) (hb hby d52_16_32) (fun _ _ => ⟨rfl, e106, ble rfl, ble rfl⟩)
  dsimp only [Pt.U, Pt.locs, Pt.cells, Pt.slots] at X110 l110 y110 z110 st110 hQ110
  subst y110 z110
  obtain ⟨h110, e110⟩ : ∃ z, T110.heap = z := ⟨_, rfl⟩
  rw [e110] at hQ110
  obtain ⟨rfl, N110q, eq110⟩ := hQ110
  rw [eq110] at e110
  have N110 : Fr n0 L110 := by rw [l110]; exact Fr.app N106 N110q
  have K112 : Keep h0 h101 [] := (Keep.refl h0 []).ext E101
  have K113 : Keep h0 h102 [] := K112.trans Kp102 (allS (Or.inr (by omega : @LE.le Nat _ h0.size b101)) all0)
  have K114 : Keep h0 h106 [] := K113.trans Kp106 all0
  obtain ⟨fs, hr, hrun, hended, hW, hsame⟩ := X110.leave (v := some (.ref b_106)) (fun h => by rw [Bd.returns] at h; cases h)
  refine ⟨_, _, castTop (ef_cc1_F mM a1 k1 c0 c1 c2 c3) ?_, hrun, hended, _, _, rfl, ?_, ⟨_, rfl⟩, hW, hsame.mono (by decide) (by decide)⟩
  · show SS pP eE bS s₁ (mkF mM 0 (Lc_cc1_F_0 a1) []) _
    refine XS.iloadN X0.here hx rfl (hb hby d52_16_0) rfl ?_
    show SS pP eE bS s₁ (mkF mM 1 (Lc_cc1_F_0 a1) [(.int (4 : Int32))]) _
    refine st101 _ ?_
    show SS pP eE bS T101 (mkF mM 3 (Lc_cc1_F_0 a1) [(.ref b101)]) _
    refine XS.astoreN X101.here hx rfl (hb hby d52_16_3) rfl rfl (l' := (Lc_cc1_F_1 a1 b101)) rfl ?_
    refine XS.aloadN X101.here hx rfl (hb hby d52_16_4) rfl rfl ?_
    refine XS.iloadN X101.here hx rfl (hb hby d52_16_5) rfl ?_
    refine XS.aloadN X101.here hx rfl (hb hby d52_16_6) rfl rfl ?_
    show SS pP eE bS T101 (mkF mM 7 (Lc_cc1_F_1 a1 b101) [(.ref b101), (.int (0 : Int32)), (.ref a1)]) _
    refine XS.iconst X101.here hx rfl (hb hby d52_16_7) ?_
    refine XS.iloadN X101.here hx rfl (hb hby d52_16_8) rfl ?_
    show SS pP eE bS T101 (mkF mM 9 (Lc_cc1_F_1 a1 b101) [(.int (4 : Int32)), (.int (0 : Int32)), (.ref b101), (.int (0 : Int32)), (.ref a1)]) _
    refine st102 _ ?_
    show SS pP eE bS T102 (mkF mM 12 (Lc_cc1_F_1 a1 b101) [(.int jj_102)]) _
    refine XS.istore X102.here hx rfl (hb hby d52_16_12) rfl (l' := (Lc_cc1_F_2 a1 b101 jj_102)) rfl ?_
    refine XS.iload X102.here hx rfl (hb hby d52_16_14) rfl ?_
    refine XS.iloadN X102.here hx rfl (hb hby d52_16_16) rfl ?_
    refine XS.icmpNo X102.here hx rfl (hb hby d52_16_17) rfl (feq (own_jn p102_hjd rfl (by decide) : ¬ (jj_102 = (4 : Int32)))).1 ?_
    show SS pP eE bS T102 (mkF mM 20 (Lc_cc1_F_2 a1 b101 jj_102) []) _
    refine XS.aloadN X102.here hx rfl (hb hby d52_16_20) rfl rfl ?_
    refine XS.iloadN X102.here hx rfl (hb hby d52_16_21) rfl ?_
    refine XS.iloadN X102.here hx rfl (hb hby d52_16_22) rfl ?_
    show SS pP eE bS T102 (mkF mM 23 (Lc_cc1_F_2 a1 b101 jj_102) [(.int (4 : Int32)), (.int (0 : Int32)), (.ref a1)]) _
    refine st106 _ ?_
    show SS pP eE bS T106 (mkF mM 26 (Lc_cc1_F_2 a1 b101 jj_102) [(.ref b_106)]) _
    refine XS.astore X106.here hx rfl (hb hby d52_16_26) rfl rfl (l' := (Lc_cc1_F_3 a1 b101 jj_102 b_106)) rfl ?_
    refine XS.aload X106.here hx rfl (hb hby d52_16_28) rfl rfl ?_
    refine XS.iload X106.here hx rfl (hb hby d52_16_30) rfl ?_
    show SS pP eE bS T106 (mkF mM 32 (Lc_cc1_F_3 a1 b101 jj_102 b_106) [(.int jj_102), (.ref b_106)]) _
    refine st110 _ ?_
    show SS pP eE bS T110 (mkF mM 35 (Lc_cc1_F_3 a1 b101 jj_102 b_106) [(.int dd_102)]) _
    refine XS.sipush X110.here hx rfl (hb hby d52_16_35) ?_
    refine XS.icmpYes X110.here hx rfl (pc0 := 38) (pc' := 54) rfl (hb hby d52_16_38) rfl (tlt (own_jg p102_hjd : (255 : Int32) < dd_102)).2.2.1 (by decide) (by decide) ?_
    refine XS.aload X110.here hx rfl (hb hby d52_16_54) rfl rfl ?_
    show SS pP eE bS T110 (mkF mM 56 (Lc_cc1_F_3 a1 b101 jj_102 b_106) [(.ref b_106)]) _
    jvm_step X110.here [X110.here.top, hx, (hb hby d52_16_56), X110.method', Bd.returns, Value.isRef, FieldType.isReference]
    first | (intro acts; rw [hr _ acts rfl rfl rfl]) | rw [hr _ _ rfl rfl rfl]
    exact Steps.refl _
  · show Q_cb Z (4 : Int32) [c0, c1, c2, c3] h0 n0 _ T110.heap _
    rw [e110]
    exact ⟨b_106, k2_106, (8 : Int32), [(.int c0.toInt8.toInt32), (.int (c0 >>> ((8 : Int32) &&& 31)).toInt8.toInt32), (.int c1.toInt8.toInt32), (.int (c1 >>> ((8 : Int32) &&& 31)).toInt8.toInt32), (.int c2.toInt8.toInt32), (.int (c2 >>> ((8 : Int32) &&& 31)).toInt8.toInt32), (.int c3.toInt8.toInt32), (.int (c3 >>> ((8 : Int32) &&& 31)).toInt8.toInt32)], (1 : Int32), rfl, N110, K114, p106_V_b, (by decide), (by decide), (Or.inr ⟨rfl, rfl, rfl⟩), (by omega)⟩
theorem rm_cc (l : Launch) (Z : State) (a0 : Array Value) (hw : HW a0 Z) (ws : List Jvm.Cond) (a1 : Addr) (k1 : ClassId) (c0 : Int32) (c1 : Int32) (c2 : Int32) (c3 : Int32) (h0 : Heap) (n0 : Nat) (Z0 : n0 ≤ h0.size) (V_a1 : Arv Z h0 a1 k1 .char (4 : Int32) [(.int c0), (.int c1), (.int c2), (.int c3)] (.int (0 : Int32))) (f0 : Ch c0) (f1 : Ch c1) (f2 : Ch c2) (f3 : Ch c3) (OL : Old Z n0 h0) (S__assertionsDisabled : Sta Z Z.heap "java/lang/StringUTF16" "$assertionsDisabled" "Z" (.int (1 : Int32))) (S_HI_BYTE_SHIFT : Sta Z Z.heap "java/lang/StringUTF16" "HI_BYTE_SHIFT" "I" (.int (0 : Int32))) (S_LO_BYTE_SHIFT : Sta Z Z.heap "java/lang/StringUTF16" "LO_BYTE_SHIFT" "I" (.int (8 : Int32))) :
    MetFree l y8_ (head1 (Jvm.Cond.code y8_ jdk_52_method_16_code 6 (some (.array .byte)) :: ws) r3_2_12_40) (fun xa xU => xa = #[(.ref a1), (.int (0 : Int32)), (.int (4 : Int32))] ∧ Z.Warmed39 xU.vm ∧ xU.heap = h0) (fun _ _ _ _ _ => True) (fun _ xU xo xU' => ∃ xv xL, xo = .returned xv ∧ Q_cb Z (4 : Int32) [c0, c1, c2, c3] h0 n0 xv xU'.heap xL ∧ FrameEnd xU xo xU' xL r3_2_12_40.cells r3_2_12_40.slots) := by
  by_cases hany : AnyG [c0, c1, c2, c3]
  · exact rm_cc1_F l Z a0 hw ws a1 k1 c0 c1 c2 c3 h0 n0 Z0 V_a1 hany f0 f1 f2 f3 OL S__assertionsDisabled S_HI_BYTE_SHIFT S_LO_BYTE_SHIFT
  have q0 : ¬ ((255 : Int32) < c0) := fun h => hany (Or.inl h)
  have q1 : ¬ ((255 : Int32) < c1) := fun h => hany (Or.inr (Or.inl h))
  have q2 : ¬ ((255 : Int32) < c2) := fun h => hany (Or.inr (Or.inr (Or.inl h)))
  have q3 : ¬ ((255 : Int32) < c3) := fun h => hany (Or.inr (Or.inr (Or.inr (Or.inl h))))
  exact rm_cc1_S l Z a0 hw ws a1 k1 c0 c1 c2 c3 h0 n0 Z0 V_a1 q0 q1 q2 q3 f0 f1 f2 f3 OL S__assertionsDisabled S_HI_BYTE_SHIFT S_LO_BYTE_SHIFT
abbrev c42_149 := jdk_42_method_149_code
theorem d42_149_0 : decode c42_149 0 = .ok (.aload_n 0, 1) := by decide +kernel
theorem d42_149_1 : decode c42_149 1 = .ok (.invokespecial 1, 3) := by decide +kernel
theorem d42_149_4 : decode c42_149 4 = .ok (.iload_n 3, 1) := by decide +kernel
theorem d42_149_5 : decode c42_149 5 = .ok (.ifCond .ne 22, 3) := by decide +kernel
theorem d42_149_27 : decode c42_149 27 = .ok (.getstatic 38, 3) := by decide +kernel
theorem d42_149_30 : decode c42_149 30 = .ok (.ifCond .eq 28, 3) := by decide +kernel
theorem d42_149_33 : decode c42_149 33 = .ok (.aload_n 1, 1) := by decide +kernel
theorem d42_149_34 : decode c42_149 34 = .ok (.iload_n 2, 1) := by decide +kernel
theorem d42_149_35 : decode c42_149 35 = .ok (.iload_n 3, 1) := by decide +kernel
theorem d42_149_36 : decode c42_149 36 = .ok (.invokestatic 177, 3) := by decide +kernel
theorem d42_149_39 : decode c42_149 39 = .ok (.astore 5, 2) := by decide +kernel
theorem d42_149_41 : decode c42_149 41 = .ok (.aload_n 0, 1) := by decide +kernel
theorem d42_149_42 : decode c42_149 42 = .ok (.aload 5, 2) := by decide +kernel
theorem d42_149_44 : decode c42_149 44 = .ok (.iload_n 3, 1) := by decide +kernel
theorem d42_149_45 : decode c42_149 45 = .ok (.invokestatic 47, 3) := by decide +kernel
theorem pd_5 : parseMethodDescriptor "([BI)B" = some ⟨[(.array .byte), .int], some .byte⟩ := by decide +kernel
theorem d42_149_48 : decode c42_149 48 = .ok (.putfield 15, 3) := by decide +kernel
theorem d42_149_51 : decode c42_149 51 = .ok (.aload_n 0, 1) := by decide +kernel
theorem d42_149_52 : decode c42_149 52 = .ok (.aload 5, 2) := by decide +kernel
theorem d42_149_54 : decode c42_149 54 = .ok (.putfield 9, 3) := by decide +kernel
theorem d42_149_57 : decode c42_149 57 = .ok (.return_, 1) := by decide +kernel
abbrev r4_2_12_57 : Room := { frames := 4, cells := 2, slots := 12, locals := 57 }
abbrev y9_ : MethodName := ⟨"java/lang/String", "<init>", "([CIILjava/lang/Void;)V"⟩
theorem pn_java_lang_String : plainName "java/lang/String" = true := by first | (simp [plainName, overriddenIn]; done) | decide +kernel
def Q_init4 (Z : State) (o : Addr) (a1 : Addr) (k1 : ClassId) (u1 : Value) (u2 : Value) (cs : Int32) (c0 : Int32) (c1 : Int32) (c2 : Int32) (c3 : Int32) (h0 : Heap) (n0 : Nat) (xv : Option Value) (xh : Heap) (xL : List Loc) : Prop := ∃ b : Addr, ∃ k2 : ClassId, ∃ z : Int32, ∃ vs : List Value, ∃ co : Int32, xv = none ∧ Fr n0 xL ∧ Keep h0 xh [o] ∧ Exa Z xh o "java/lang/String" ∧ Fld Z xh o "java/lang/String" "value" "[B" (.ref b) ∧ Fld Z xh o "java/lang/String" "coder" "B" (.int co) ∧ Arv Z xh b k2 .byte z vs (.int (0 : Int32)) ∧ co.toInt8.toInt32 = co ∧ StrC co z vs [c0, c1, c2, c3] ∧ @LE.le Nat _ h0.size b
abbrev Lc_init4_0 (o : Addr) (a1 : Addr) : Array Slot := #[.val (.ref o), .val (.ref a1), .val (.int (0 : Int32)), .val (.int (4 : Int32)), .val .null, .unset]
abbrev Lc_init4_1 (o : Addr) (a1 : Addr) (b_104 : Addr) : Array Slot := #[.val (.ref o), .val (.ref a1), .val (.int (0 : Int32)), .val (.int (4 : Int32)), .val .null, .val (.ref b_104)]
theorem ef_init4 (mM : MethodId) (o : Addr) (a1 : Addr) (k1 : ClassId) (u1 : Value) (u2 : Value) (cs : Int32) (c0 : Int32) (c1 : Int32) (c2 : Int32) (c3 : Int32) : entryFrame mM #[(.ref o), (.ref a1), (.int (0 : Int32)), (.int (4 : Int32)), .null] 6 = mkF mM 0 #[.val (.ref o), .val (.ref a1), .val (.int (0 : Int32)), .val (.int (4 : Int32)), .val .null, .unset] [] := by
  first | (simp [entryFrame, mkF, argsToLocals, Value.category]; done) | rfl
theorem rm_init4 (l : Launch) (Z : State) (a0 : Array Value) (hw : HW a0 Z) (ws : List Jvm.Cond) (o : Addr) (a1 : Addr) (k1 : ClassId) (u1 : Value) (u2 : Value) (cs : Int32) (c0 : Int32) (c1 : Int32) (c2 : Int32) (c3 : Int32) (h0 : Heap) (n0 : Nat) (Z0 : n0 ≤ h0.size) (E_o : Exa Z h0 o "java/lang/String") (F_value_o : Fld Z h0 o "java/lang/String" "value" "[B" u1) (F_coder_o : Fld Z h0 o "java/lang/String" "coder" "B" u2) (V_a1 : Arv Z h0 a1 k1 .char (4 : Int32) [(.int c0), (.int c1), (.int c2), (.int c3)] (.int (0 : Int32))) (g_o : @LE.le Nat _ n0 o) (OL : Old Z n0 h0) (S__assertionsDisabled : Sta Z Z.heap "java/lang/StringUTF16" "$assertionsDisabled" "Z" (.int (1 : Int32))) (S_HI_BYTE_SHIFT : Sta Z Z.heap "java/lang/StringUTF16" "HI_BYTE_SHIFT" "I" (.int (0 : Int32))) (S_LO_BYTE_SHIFT : Sta Z Z.heap "java/lang/StringUTF16" "LO_BYTE_SHIFT" "I" (.int (8 : Int32))) (S_COMPACT_STRINGS : Sta Z Z.heap "java/lang/String" "COMPACT_STRINGS" "Z" (.int cs)) (hcs : ¬ (cs = (0 : Int32))) (f0 : Ch c0) (f1 : Ch c1) (f2 : Ch c2) (f3 : Ch c3) :
    MetFree l y9_ (head1 (Jvm.Cond.code y9_ jdk_42_method_149_code 6 none :: ws) r4_2_12_57) (fun xa xU => xa = #[(.ref o), (.ref a1), (.int (0 : Int32)), (.int (4 : Int32)), .null] ∧ Z.Warmed39 xU.vm ∧ xU.heap = h0) (fun _ _ _ _ _ => True) (fun _ xU xo xU' => ∃ xv xL, xo = .returned xv ∧ Q_init4 Z o a1 k1 u1 u2 cs c0 c1 c2 c3 h0 n0 xv xU'.heap xL ∧ FrameEnd xU xo xU' xL r4_2_12_57.cells r4_2_12_57.slots) := by
  refine MetFree.of_bodySF (plainFor_of_name pn_java_lang_String) hisR ?_
  intro pP eE sS mM argS bS methS cC s₁ Bd hml0 hP hK
  obtain ⟨rfl, hZ, hh⟩ := hP
  have hx := Bd.exec
  have hby := Bd.bytes
  have hml : cC.maxLocals = 6 := hml0
  have hown : sS.vm.findClass "java/lang/String" = some mM.cls := findClass_of_methodNamed Bd.named
  have hnm := (name_of_methodNamed Bd.named Bd.method).1
  have X0 : Stand pP l eE r4_2_12_57 sS mM #[(.ref o), (.ref a1), (.int (0 : Int32)), (.int (4 : Int32)), .null] bS methS cC s₁ [] 0 0 := Stand.of_body Bd
  have e0 : s₁.heap = h0 := by rw [← hh, Bd.state]; rfl
  have N0 := Fr.nil n0
  obtain ⟨T101, X101, e101, st101⟩ := initO X0 hx hZ hown (wi hw 12 rfl) (wi hw 13 rfl) (wi hw 14 rfl) e0 (g := (mkF mM 1 (Lc_init4_0 o a1) [(.ref o)])) rfl (by rw [hml]; rfl) rfl (hb hby d42_149_1) (by decide) (W := 0) (by show 2 * 0 + _ ≤ _; exact Nat.le_of_eq rfl) (by decide)
  have c102_S_COMPACT_STRINGS : Sta Z h0 "java/lang/String" "COMPACT_STRINGS" "Z" (.int cs) := Sta.ext OL.2 S_COMPACT_STRINGS
  obtain ⟨T103, X103, e103, st103⟩ := getS2 X101 hx hZ hown (host := "") (Or.inl (wi hw 15 rfl)) Via.refl e101 c102_S_COMPACT_STRINGS (g := (mkF mM 27 (Lc_init4_0 o a1) [])) rfl (hb hby d42_149_27)
  obtain ⟨_, _, ⟨T104, L104, k104, n104⟩, -, X104, ⟨Lc104, hQ104, l104, y104, z104⟩, st104⟩ := Jvm.LawKit.callS X103 hx (y := y8_) hown (mvT hZ (wi hw 16 rfl)) (mvT hZ (wi hw 17 rfl)) (mvT hZ (wi hw 18 rfl)) (mvT hZ (wi hw 19 rfl)) (by decide) (backOf (W := 0) (rm_cc l Z a0 hw [] a1 k1 c0 c1 c2 c3 h0 n0 (by omega) V_a1 f0 f1 f2 f3 OL S__assertionsDisabled S_HI_BYTE_SHIFT S_LO_BYTE_SHIFT) hZ (wi hw 19 rfl) (wi hw 18 rfl) (by decide) (by decide)) (g := (mkF mM 36 (Lc_init4_0 o a1) [(.int (4 : Int32)), (.int (0 : Int32)), (.ref a1)])) rfl (by rw [hml]; rfl) (argsL := [(.ref a1), (.int (0 : Int32)), (.int (4 : Int32))]) (rest := []) (lenOf pd_3 rfl) rfl (by show 2 * 0 + _ ≤ _; exact Nat.le_of_eq rfl) (hb hby d42_149_36) (fun _ _ => ⟨rfl, e103, ble rfl, ble rfl⟩)
  dsimp only [Pt.U, Pt.locs, Pt.cells, Pt.slots] at X104 l104 y104 z104 st104 hQ104
  subst y104 z104
  obtain ⟨h104, e104⟩ : ∃ z, T104.heap = z := ⟨_, rfl⟩
  rw [e104] at hQ104
  obtain ⟨b_104, k2_104, z_104, vs_104, co_104, rfl, N104q, Kp104, p104_V_b, p104_hzc, p104_hcb, p104_con, p104_gh_b⟩ := hQ104
  have Sz1 : h0.size ≤ h104.size := Kp104.1
  have N104 : Fr n0 L104 := by rw [l104]; exact Fr.app N0 N104q
  obtain ⟨_, _, ⟨T105, L105, k105, n105⟩, -, X105, ⟨Lc105, hQ105, l105, y105, z105⟩, st105⟩ := Jvm.LawKit.callS X104 hx (y := y5_) hown (mvT hZ (wi hw 24 rfl)) (mvT hZ (wi hw 25 rfl)) (mvT hZ (wi hw 18 rfl)) (mvT hZ (wi hw 26 rfl)) (by decide) (backOf (W := 1) (rm_coderAL l Z a0 hw [] b_104 k2_104 z_104 vs_104 (4 : Int32) co_104 h104 n0 (by omega) p104_V_b p104_hzc p104_hcb) hZ (wi hw 26 rfl) (wi hw 18 rfl) (by decide) (by decide)) (g := (mkF mM 45 (Lc_init4_1 o a1 b_104) [(.int (4 : Int32)), (.ref b_104), (.ref o)])) rfl (by rw [hml]; rfl) (argsL := [(.ref b_104), (.int (4 : Int32))]) (rest := [(.ref o)]) (lenOf pd_5 rfl) rfl (by show 2 * 0 + _ ≤ _; exact Nat.le_of_eq rfl) (hb hby d42_149_45) (fun _ _ => ⟨rfl, e104, ble rfl, ble rfl⟩)
  dsimp only [Pt.U, Pt.locs, Pt.cells, Pt.slots] at X105 l105 y105 z105 st105 hQ105
  subst y105 z105
  obtain ⟨h105, e105⟩ : ∃ z, T105.heap = z := ⟨_, rfl⟩
  rw [e105] at hQ105
  obtain ⟨rfl, N105q, eq105⟩ := hQ105
  rw [eq105] at e105
  have N105 : Fr n0 L105 := by rw [l105]; exact Fr.app N104 N105q
  have c106_F_coder_o : Fld Z h104 o "java/lang/String" "coder" "B" u2 := F_coder_o.keep Kp104 nin0
  have c107_E_o : Exa Z h104 o "java/lang/String" := E_o.keep Kp104
  obtain ⟨T108, h108, X108, e108, W108, st108⟩ := putFN X105 hx hZ hown (wi hw 27 rfl) Via.refl e105 c106_F_coder_o c107_E_o (Or.inr ⟨(wi hw 28 rfl), rfl, hnm⟩) (wi hw 3 rfl) (ty := .byte) (v' := (.int co_104)) (by decide) (show narrow .byte (.int co_104) = .int co_104 from congrArg Value.int p104_hcb) (own_fitb p104_hcb) (g := (mkF mM 48 (Lc_init4_1 o a1 b_104) [(.int co_104), (.ref o)])) rfl rfl (hb hby d42_149_48)
  have Sz2 : h104.size ≤ h108.size := Nat.le_of_eq (Wr.size W108).symm
  have Fw108 : Fld Z h108 o "java/lang/String" "coder" "B" (.int co_104) := Fld.same W108 c106_F_coder_o
  have N108 := Fr.snoc X108 N105 g_o
  have c109_F_value_o : Fld Z h104 o "java/lang/String" "value" "[B" u1 := F_value_o.keep Kp104 nin0
  have c110_F_value_o : Fld Z h108 o "java/lang/String" "value" "[B" u1 := Fld.other W108 c109_F_value_o (Or.inr (slot_ne (Or.inr (wi hw 30 rfl)) (Or.inr (wi hw 28 rfl)) (by decide) (t := (.array .byte)) (t' := .byte) (by decide) (by decide)))
  have c111_E_o : Exa Z h108 o "java/lang/String" := Exa.wr W108 c107_E_o
  obtain ⟨T112, h112, X112, e112, W112, st112⟩ := putF X108 hx hZ hown (host := "") (Or.inl (wi hw 29 rfl)) Via.refl e108 c110_F_value_o c111_E_o (Or.inr ⟨(wi hw 30 rfl), rfl, hnm⟩) (wi hw 3 rfl) (ty := (.array .byte)) (by decide) rfl rfl (g := (mkF mM 54 (Lc_init4_1 o a1 b_104) [(.ref b_104), (.ref o)])) rfl rfl (hb hby d42_149_54)
  have Sz3 : h108.size ≤ h112.size := Nat.le_of_eq (Wr.size W112).symm
  have Fw112 : Fld Z h112 o "java/lang/String" "value" "[B" (.ref b_104) := Fld.same W112 c110_F_value_o
  have N112 := Fr.snoc X112 N108 g_o
  have lt_b_104 : @LT.lt Nat _ b_104 h104.size := p104_V_b.lt
  have lt_o : @LT.lt Nat _ o h0.size := E_o.lt
  have ne_b_104_o_113 : b_104 ≠ o := (by omega : @Ne Nat b_104 o)
  have c114_V_b_104 : Arv Z h108 b_104 k2_104 .byte z_104 vs_104 (.int (0 : Int32)) := p104_V_b.other W108 ne_b_104_o_113
  have c115_V_b_104 : Arv Z h112 b_104 k2_104 .byte z_104 vs_104 (.int (0 : Int32)) := c114_V_b_104.other W112 ne_b_104_o_113
  have c116_F_coder_o : Fld Z h112 o "java/lang/String" "coder" "B" (.int co_104) := Fld.other W112 Fw108 (Or.inr (slot_ne (Or.inr (wi hw 28 rfl)) (Or.inr (wi hw 30 rfl)) (by decide) (t := .byte) (t' := (.array .byte)) (by decide) (by decide)))
  have c117_E_o : Exa Z h112 o "java/lang/String" := Exa.wr W112 c111_E_o
  have K118 : Keep h0 h104 [o] := (Keep.refl h0 [o]).trans Kp104 all0
  have K119 : Keep h0 h108 [o] := K118.wr W108 (Or.inl (List.mem_of_getElem? (i := 0) rfl))
  have K120 : Keep h0 h112 [o] := K119.wr W112 (Or.inl (List.mem_of_getElem? (i := 0) rfl))
  obtain ⟨fs, hr, hrun, hended, hW, hsame⟩ := X112.leave (v := none) (fun _ => rfl)
  refine ⟨_, _, castTop (ef_init4 mM o a1 k1 u1 u2 cs c0 c1 c2 c3) ?_, hrun, hended, _, _, rfl, ?_, ⟨_, rfl⟩, hW, hsame.mono (by decide) (by decide)⟩
  · show SS pP eE bS s₁ (mkF mM 0 (Lc_init4_0 o a1) []) _
    refine XS.aloadN X0.here hx rfl (hb hby d42_149_0) rfl rfl ?_
    show SS pP eE bS s₁ (mkF mM 1 (Lc_init4_0 o a1) [(.ref o)]) _
    refine st101 _ ?_
    show SS pP eE bS T101 (mkF mM 4 (Lc_init4_0 o a1) []) _
    refine XS.iloadN X101.here hx rfl (hb hby d42_149_4) rfl ?_
    refine XS.ifYes X101.here hx rfl (pc0 := 5) (pc' := 27) rfl (hb hby d42_149_5) rfl ((if0 _ _).trans (feq (by decide : ¬ ((4 : Int32) = (0 : Int32)))).2) (by decide) (by decide) ?_
    show SS pP eE bS T101 (mkF mM 27 (Lc_init4_0 o a1) []) _
    refine st103 _ ?_
    show SS pP eE bS T103 (mkF mM 30 (Lc_init4_0 o a1) [(.int cs)]) _
    refine XS.ifNo X103.here hx rfl (hb hby d42_149_30) rfl ((if0 _ _).trans (feq hcs).1) ?_
    refine XS.aloadN X103.here hx rfl (hb hby d42_149_33) rfl rfl ?_
    refine XS.iloadN X103.here hx rfl (hb hby d42_149_34) rfl ?_
    refine XS.iloadN X103.here hx rfl (hb hby d42_149_35) rfl ?_
    show SS pP eE bS T103 (mkF mM 36 (Lc_init4_0 o a1) [(.int (4 : Int32)), (.int (0 : Int32)), (.ref a1)]) _
    refine st104 _ ?_
    show SS pP eE bS T104 (mkF mM 39 (Lc_init4_0 o a1) [(.ref b_104)]) _
    refine XS.astore X104.here hx rfl (hb hby d42_149_39) rfl rfl (l' := (Lc_init4_1 o a1 b_104)) rfl ?_
    refine XS.aloadN X104.here hx rfl (hb hby d42_149_41) rfl rfl ?_
    refine XS.aload X104.here hx rfl (hb hby d42_149_42) rfl rfl ?_
    refine XS.iloadN X104.here hx rfl (hb hby d42_149_44) rfl ?_
    show SS pP eE bS T104 (mkF mM 45 (Lc_init4_1 o a1 b_104) [(.int (4 : Int32)), (.ref b_104), (.ref o)]) _
    refine st105 _ ?_
    show SS pP eE bS T105 (mkF mM 48 (Lc_init4_1 o a1 b_104) [(.int co_104), (.ref o)]) _
    refine st108 _ ?_
    show SS pP eE bS T108 (mkF mM 51 (Lc_init4_1 o a1 b_104) []) _
    refine XS.aloadN X108.here hx rfl (hb hby d42_149_51) rfl rfl ?_
    refine XS.aload X108.here hx rfl (hb hby d42_149_52) rfl rfl ?_
    show SS pP eE bS T108 (mkF mM 54 (Lc_init4_1 o a1 b_104) [(.ref b_104), (.ref o)]) _
    refine st112 _ ?_
    show SS pP eE bS T112 (mkF mM 57 (Lc_init4_1 o a1 b_104) []) _
    exact X112.returnOut hx Bd.returns (hb hby d42_149_57) hr
  · show Q_init4 Z o a1 k1 u1 u2 cs c0 c1 c2 c3 h0 n0 _ T112.heap _
    rw [e112]
    exact ⟨b_104, k2_104, z_104, vs_104, co_104, rfl, N112, K120, c117_E_o, Fw112, c116_F_coder_o, c115_V_b_104, (p104_hcb), (p104_con), (by omega)⟩
abbrev c42_3 := jdk_42_method_3_code
theorem d42_3_0 : decode c42_3 0 = .ok (.aload_n 0, 1) := by decide +kernel
theorem d42_3_1 : decode c42_3 1 = .ok (.aload_n 1, 1) := by decide +kernel
theorem d42_3_2 : decode c42_3 2 = .ok (.iconst 0, 1) := by decide +kernel
theorem d42_3_3 : decode c42_3 3 = .ok (.aload_n 1, 1) := by decide +kernel
theorem d42_3_4 : decode c42_3 4 = .ok (.arraylength, 1) := by decide +kernel
theorem d42_3_5 : decode c42_3 5 = .ok (.aconst_null, 1) := by decide +kernel
theorem d42_3_6 : decode c42_3 6 = .ok (.invokespecial 27, 3) := by decide +kernel
theorem pd_1 : parseMethodDescriptor "([CIILjava/lang/Void;)V" = some ⟨[(.array .char), .int, .int, (.object "java/lang/Void")], none⟩ := by decide +kernel
theorem d42_3_9 : decode c42_3 9 = .ok (.return_, 1) := by decide +kernel
abbrev r5_2_12_74 : Room := { frames := 5, cells := 2, slots := 12, locals := 74 }
abbrev y10_ : MethodName := ⟨"java/lang/String", "<init>", "([C)V"⟩
def Q_init1 (Z : State) (o : Addr) (a1 : Addr) (k1 : ClassId) (u1 : Value) (u2 : Value) (cs : Int32) (c0 : Int32) (c1 : Int32) (c2 : Int32) (c3 : Int32) (h0 : Heap) (n0 : Nat) (xv : Option Value) (xh : Heap) (xL : List Loc) : Prop := ∃ b : Addr, ∃ k2 : ClassId, ∃ z : Int32, ∃ vs : List Value, ∃ co : Int32, xv = none ∧ Fr n0 xL ∧ Keep h0 xh [o] ∧ Exa Z xh o "java/lang/String" ∧ Fld Z xh o "java/lang/String" "value" "[B" (.ref b) ∧ Fld Z xh o "java/lang/String" "coder" "B" (.int co) ∧ Arv Z xh b k2 .byte z vs (.int (0 : Int32)) ∧ co.toInt8.toInt32 = co ∧ StrC co z vs [c0, c1, c2, c3] ∧ @LE.le Nat _ h0.size b
theorem ef_init1 (mM : MethodId) (o : Addr) (a1 : Addr) (k1 : ClassId) (u1 : Value) (u2 : Value) (cs : Int32) (c0 : Int32) (c1 : Int32) (c2 : Int32) (c3 : Int32) : entryFrame mM #[(.ref o), (.ref a1)] 2 = mkF mM 0 #[.val (.ref o), .val (.ref a1)] [] := by
  first | (simp [entryFrame, mkF, argsToLocals, Value.category]; done) | rfl
theorem rm_init1 (l : Launch) (Z : State) (a0 : Array Value) (hw : HW a0 Z) (ws : List Jvm.Cond) (o : Addr) (a1 : Addr) (k1 : ClassId) (u1 : Value) (u2 : Value) (cs : Int32) (c0 : Int32) (c1 : Int32) (c2 : Int32) (c3 : Int32) (h0 : Heap) (n0 : Nat) (Z0 : n0 ≤ h0.size) (E_o : Exa Z h0 o "java/lang/String") (F_value_o : Fld Z h0 o "java/lang/String" "value" "[B" u1) (F_coder_o : Fld Z h0 o "java/lang/String" "coder" "B" u2) (V_a1 : Arv Z h0 a1 k1 .char (4 : Int32) [(.int c0), (.int c1), (.int c2), (.int c3)] (.int (0 : Int32))) (g_o : @LE.le Nat _ n0 o) (OL : Old Z n0 h0) (S__assertionsDisabled : Sta Z Z.heap "java/lang/StringUTF16" "$assertionsDisabled" "Z" (.int (1 : Int32))) (S_HI_BYTE_SHIFT : Sta Z Z.heap "java/lang/StringUTF16" "HI_BYTE_SHIFT" "I" (.int (0 : Int32))) (S_LO_BYTE_SHIFT : Sta Z Z.heap "java/lang/StringUTF16" "LO_BYTE_SHIFT" "I" (.int (8 : Int32))) (S_COMPACT_STRINGS : Sta Z Z.heap "java/lang/String" "COMPACT_STRINGS" "Z" (.int cs)) (hcs : ¬ (cs = (0 : Int32))) (f0 : Ch c0) (f1 : Ch c1) (f2 : Ch c2) (f3 : Ch c3) :
    MetFree l y10_ (head1 (Jvm.Cond.code y10_ jdk_42_method_3_code 2 none :: ws) r5_2_12_74) (fun xa xU => xa = #[(.ref o), (.ref a1)] ∧ Z.Warmed39 xU.vm ∧ xU.heap = h0) (fun _ _ _ _ _ => True) (fun _ xU xo xU' => ∃ xv xL, xo = .returned xv ∧ Q_init1 Z o a1 k1 u1 u2 cs c0 c1 c2 c3 h0 n0 xv xU'.heap xL ∧ FrameEnd xU xo xU' xL r5_2_12_74.cells r5_2_12_74.slots) := by
  refine MetFree.of_bodySF (plainFor_of_name pn_java_lang_String) hisR ?_
  intro pP eE sS mM argS bS methS cC s₁ Bd hml0 hP hK
  obtain ⟨rfl, hZ, hh⟩ := hP
  have hx := Bd.exec
  have hby := Bd.bytes
  have hml : cC.maxLocals = 2 := hml0
  have hown : sS.vm.findClass "java/lang/String" = some mM.cls := findClass_of_methodNamed Bd.named
  have hnm := (name_of_methodNamed Bd.named Bd.method).1
  have X0 : Stand pP l eE r5_2_12_74 sS mM #[(.ref o), (.ref a1)] bS methS cC s₁ [] 0 0 := Stand.of_body Bd
  have e0 : s₁.heap = h0 := by rw [← hh, Bd.state]; rfl
  have N0 := Fr.nil n0
  obtain ⟨cl101, Ar101, q101, S101, Ng101, Ha101, Ga101⟩ := id V_a1
  obtain ⟨_, _, ⟨T102, L102, k102, n102⟩, -, X102, ⟨Lc102, hQ102, l102, y102, z102⟩, st102⟩ := X0.specialBack hx (y := y9_) rfl hown (mvT hZ (wi hw 8 rfl)) (mvT hZ (wi hw 9 rfl)) (mvT hZ (wi hw 11 rfl)) (by decide) (backOf (W := 0) (rm_init4 l Z a0 hw [] o a1 k1 u1 u2 cs c0 c1 c2 c3 h0 n0 (by omega) E_o F_value_o F_coder_o V_a1 g_o OL S__assertionsDisabled S_HI_BYTE_SHIFT S_LO_BYTE_SHIFT S_COMPACT_STRINGS hcs f0 f1 f2 f3) hZ (wi hw 11 rfl) (wi hw 4 rfl) (by decide) (by decide)) (g := (mkF mM 6 #[.val (.ref o), .val (.ref a1)] [.null, (.int (4 : Int32)), (.int (0 : Int32)), (.ref a1), (.ref o)])) rfl (by rw [hml]; rfl) (Steps.refl _) (a := o) (argsL := [(.ref a1), (.int (0 : Int32)), (.int (4 : Int32)), .null]) (rest := []) (lenOf pd_1 rfl) rfl (by show 2 * 0 + _ ≤ _; exact Nat.le_of_eq rfl) (hb hby d42_3_6) (fun _ _ => ⟨rfl, e0, ble rfl, ble rfl⟩)
  dsimp only [Pt.U, Pt.locs, Pt.cells, Pt.slots] at X102 l102 y102 z102 st102 hQ102
  subst y102 z102
  obtain ⟨h102, e102⟩ : ∃ z, T102.heap = z := ⟨_, rfl⟩
  rw [e102] at hQ102
  obtain ⟨b_102, k2_102, z_102, vs_102, co_102, rfl, N102q, Kp102, p102_E_o, p102_F_value_o, p102_F_coder_o, p102_V_b, p102_hcb, p102_con, p102_gh_b⟩ := hQ102
  have Sz1 : h0.size ≤ h102.size := Kp102.1
  have N102 : Fr n0 L102 := by rw [l102]; exact Fr.app N0 N102q
  have K103 : Keep h0 h102 [o] := (Keep.refl h0 [o]).trans Kp102 (allS (Or.inl (List.mem_of_getElem? (i := 0) rfl)) all0)
  obtain ⟨fs, hr, hrun, hended, hW, hsame⟩ := X102.leave (v := none) (fun _ => rfl)
  refine ⟨_, _, castTop (ef_init1 mM o a1 k1 u1 u2 cs c0 c1 c2 c3) ?_, hrun, hended, _, _, rfl, ?_, ⟨_, rfl⟩, hW, hsame.mono (by decide) (by decide)⟩
  · show SS pP eE bS s₁ (mkF mM 0 #[.val (.ref o), .val (.ref a1)] []) _
    refine XS.aloadN X0.here hx rfl (hb hby d42_3_0) rfl rfl ?_
    refine XS.aloadN X0.here hx rfl (hb hby d42_3_1) rfl rfl ?_
    refine XS.iconst X0.here hx rfl (hb hby d42_3_2) ?_
    refine XS.aloadN X0.here hx rfl (hb hby d42_3_3) rfl rfl ?_
    show SS pP eE bS s₁ (mkF mM 4 #[.val (.ref o), .val (.ref a1)] [(.ref a1), (.int (0 : Int32)), (.ref a1), (.ref o)]) _
    refine X0.arraylength hx (by rw [e0]; exact Ar101.1) (State.isArrayOf_alike hZ.alike Ar101.2.1) (g := (mkF mM 4 #[.val (.ref o), .val (.ref a1)] [(.ref a1), (.int (0 : Int32)), (.ref a1), (.ref o)])) rfl rfl (hb hby d42_3_4) _ ?_
    rw [len_of S101 Ng101]
    show SS pP eE bS s₁ (mkF mM 5 #[.val (.ref o), .val (.ref a1)] [(.int (4 : Int32)), (.int (0 : Int32)), (.ref a1), (.ref o)]) _
    refine XS.aconstNull X0.here hx rfl (hb hby d42_3_5) ?_
    show SS pP eE bS s₁ (mkF mM 6 #[.val (.ref o), .val (.ref a1)] [.null, (.int (4 : Int32)), (.int (0 : Int32)), (.ref a1), (.ref o)]) _
    refine st102.trans ?_
    show SS pP eE bS T102 (mkF mM 9 #[.val (.ref o), .val (.ref a1)] []) _
    exact X102.returnOut hx Bd.returns (hb hby d42_3_9) hr
  · show Q_init1 Z o a1 k1 u1 u2 cs c0 c1 c2 c3 h0 n0 _ T102.heap _
    rw [e102]
    exact ⟨b_102, k2_102, z_102, vs_102, co_102, rfl, N102, K103, p102_E_o, p102_F_value_o, p102_F_coder_o, p102_V_b, (p102_hcb), (p102_con), (by omega)⟩
-- MARK len
abbrev c42_152 := jdk_42_method_152_code
theorem d42_152_0 : decode c42_152 0 = .ok (.getstatic 38, 3) := by decide +kernel
theorem d42_152_3 : decode c42_152 3 = .ok (.ifCond .eq 10, 3) := by decide +kernel
theorem d42_152_6 : decode c42_152 6 = .ok (.aload_n 0, 1) := by decide +kernel
theorem d42_152_7 : decode c42_152 7 = .ok (.getfield 15, 3) := by decide +kernel
theorem d42_152_10 : decode c42_152 10 = .ok (.goto 4, 3) := by decide +kernel
theorem d42_152_14 : decode c42_152 14 = .ok (.ireturn, 1) := by decide +kernel
abbrev y11_ : MethodName := ⟨"java/lang/String", "coder", "()B"⟩
def Q_coder (Z : State) (t : Addr) (co : Int32) (cs : Int32) (h0 : Heap) (n0 : Nat) (xv : Option Value) (xh : Heap) (xL : List Loc) : Prop := xv = some (.int co) ∧ Fr n0 xL ∧ xh = h0
theorem ef_coder (mM : MethodId) (t : Addr) (co : Int32) (cs : Int32) : entryFrame mM #[(.ref t)] 1 = mkF mM 0 #[.val (.ref t)] [] := by
  first | (simp [entryFrame, mkF, argsToLocals, Value.category]; done) | rfl
theorem rm_coder (l : Launch) (Z : State) (a0 : Array Value) (hw : HW a0 Z) (ws : List Jvm.Cond) (t : Addr) (co : Int32) (cs : Int32) (h0 : Heap) (n0 : Nat) (Z0 : n0 ≤ h0.size) (F_coder_t : Fld Z h0 t "java/lang/String" "coder" "B" (.int co)) (hcb : co.toInt8.toInt32 = co) (OL : Old Z n0 h0) (S_COMPACT_STRINGS : Sta Z Z.heap "java/lang/String" "COMPACT_STRINGS" "Z" (.int cs)) (hcs : ¬ (cs = (0 : Int32))) :
    MetFree l y11_ (head1 (Jvm.Cond.code y11_ jdk_42_method_152_code 1 (some .byte) :: ws) r0_0_0_0) (fun xa xU => xa = #[(.ref t)] ∧ Z.Warmed39 xU.vm ∧ xU.heap = h0) (fun _ _ _ _ _ => True) (fun _ xU xo xU' => ∃ xv xL, xo = .returned xv ∧ Q_coder Z t co cs h0 n0 xv xU'.heap xL ∧ FrameEnd xU xo xU' xL r0_0_0_0.cells r0_0_0_0.slots) := by
  refine MetFree.of_bodySF (plainFor_of_name pn_java_lang_String) hisR ?_
  intro pP eE sS mM argS bS methS cC s₁ Bd hml0 hP hK
  obtain ⟨rfl, hZ, hh⟩ := hP
  have hx := Bd.exec
  have hby := Bd.bytes
  have hml : cC.maxLocals = 1 := hml0
  have hown : sS.vm.findClass "java/lang/String" = some mM.cls := findClass_of_methodNamed Bd.named
  have hnm := (name_of_methodNamed Bd.named Bd.method).1
  have X0 : Stand pP l eE r0_0_0_0 sS mM #[(.ref t)] bS methS cC s₁ [] 0 0 := Stand.of_body Bd
  have e0 : s₁.heap = h0 := by rw [← hh, Bd.state]; rfl
  have N0 := Fr.nil n0
  have c101_S_COMPACT_STRINGS : Sta Z h0 "java/lang/String" "COMPACT_STRINGS" "Z" (.int cs) := Sta.ext OL.2 S_COMPACT_STRINGS
  obtain ⟨T102, X102, e102, st102⟩ := getS2 X0 hx hZ hown (host := "") (Or.inl (wi hw 15 rfl)) Via.refl e0 c101_S_COMPACT_STRINGS (g := (mkF mM 0 #[.val (.ref t)] [])) rfl (hb hby d42_152_0)
  obtain ⟨T103, X103, e103, st103⟩ := getF X102 hx hZ hown (host := "") (Or.inl (wi hw 27 rfl)) Via.refl e102 F_coder_t (g := (mkF mM 7 #[.val (.ref t)] [(.ref t)])) rfl rfl (hb hby d42_152_7)
  obtain ⟨fs, hr, hrun, hended, hW, hsame⟩ := X103.leave (v := some (.int (nar .byte co))) (fun h => by rw [Bd.returns] at h; cases h)
  refine ⟨_, _, castTop (ef_coder mM t co cs) ?_, hrun, hended, _, _, rfl, ?_, ⟨_, rfl⟩, hW, hsame.mono (by decide) (by decide)⟩
  · show SS pP eE bS s₁ (mkF mM 0 #[.val (.ref t)] []) _
    refine st102 _ ?_
    show SS pP eE bS T102 (mkF mM 3 #[.val (.ref t)] [(.int cs)]) _
    refine XS.ifNo X102.here hx rfl (hb hby d42_152_3) rfl ((if0 _ _).trans (feq hcs).1) ?_
    refine XS.aloadN X102.here hx rfl (hb hby d42_152_6) rfl rfl ?_
    show SS pP eE bS T102 (mkF mM 7 #[.val (.ref t)] [(.ref t)]) _
    refine st103 _ ?_
    show SS pP eE bS T103 (mkF mM 10 #[.val (.ref t)] [(.int co)]) _
    refine XS.goto X103.here hx rfl (pc0 := 10) (pc' := 14) rfl (hb hby d42_152_10) (by decide) (by decide) ?_
    show SS pP eE bS T103 (mkF mM 14 #[.val (.ref t)] [(.int co)]) _
    exact retN X103 hx (t := .byte) Bd.returns (by simp) (hb hby d42_152_14) hr
  · show Q_coder Z t co cs h0 n0 _ T103.heap _
    rw [e103]
    exact ⟨own_retb hcb, N0, rfl⟩
abbrev c42_54 := jdk_42_method_54_code
theorem d42_54_0 : decode c42_54 0 = .ok (.aload_n 0, 1) := by decide +kernel
theorem d42_54_1 : decode c42_54 1 = .ok (.getfield 9, 3) := by decide +kernel
theorem d42_54_4 : decode c42_54 4 = .ok (.arraylength, 1) := by decide +kernel
theorem d42_54_5 : decode c42_54 5 = .ok (.aload_n 0, 1) := by decide +kernel
theorem d42_54_6 : decode c42_54 6 = .ok (.invokevirtual 335, 3) := by decide +kernel
theorem pd_8 : parseMethodDescriptor "()B" = some ⟨[], some .byte⟩ := by decide +kernel
theorem d42_54_9 : decode c42_54 9 = .ok (.ishr, 1) := by decide +kernel
theorem d42_54_10 : decode c42_54 10 = .ok (.ireturn, 1) := by decide +kernel
abbrev r1_0_0_13 : Room := { frames := 1, cells := 0, slots := 0, locals := 13 }
abbrev y12_ : MethodName := ⟨"java/lang/String", "length", "()I"⟩
def Q_length (Z : State) (t : Addr) (tb : Addr) (tk : ClassId) (z : Int32) (vs : List Value) (co : Int32) (n : Int32) (cs : Int32) (h0 : Heap) (n0 : Nat) (xv : Option Value) (xh : Heap) (xL : List Loc) : Prop := xv = some (.int n) ∧ Fr n0 xL ∧ xh = h0
theorem ef_length (mM : MethodId) (t : Addr) (tb : Addr) (tk : ClassId) (z : Int32) (vs : List Value) (co : Int32) (n : Int32) (cs : Int32) : entryFrame mM #[(.ref t)] 1 = mkF mM 0 #[.val (.ref t)] [] := by
  first | (simp [entryFrame, mkF, argsToLocals, Value.category]; done) | rfl
theorem rm_length (l : Launch) (Z : State) (a0 : Array Value) (hw : HW a0 Z) (ws : List Jvm.Cond) (t : Addr) (tb : Addr) (tk : ClassId) (z : Int32) (vs : List Value) (co : Int32) (n : Int32) (cs : Int32) (h0 : Heap) (n0 : Nat) (Z0 : n0 ≤ h0.size) (E_t : Exa Z h0 t "java/lang/String") (F_value_t : Fld Z h0 t "java/lang/String" "value" "[B" (.ref tb)) (F_coder_t : Fld Z h0 t "java/lang/String" "coder" "B" (.int co)) (V_tb : Arv Z h0 tb tk .byte z vs (.int (0 : Int32))) (hcb : co.toInt8.toInt32 = co) (hsh : (z >>> (co &&& 31)) = n) (OL : Old Z n0 h0) (S_COMPACT_STRINGS : Sta Z Z.heap "java/lang/String" "COMPACT_STRINGS" "Z" (.int cs)) (hcs : ¬ (cs = (0 : Int32))) :
    MetFree l y12_ (head1 (Jvm.Cond.code y12_ jdk_42_method_54_code 1 (some .int) :: ws) r1_0_0_13) (fun xa xU => xa = #[(.ref t)] ∧ Z.Warmed39 xU.vm ∧ xU.heap = h0) (fun _ _ _ _ _ => True) (fun _ xU xo xU' => ∃ xv xL, xo = .returned xv ∧ Q_length Z t tb tk z vs co n cs h0 n0 xv xU'.heap xL ∧ FrameEnd xU xo xU' xL r1_0_0_13.cells r1_0_0_13.slots) := by
  refine MetFree.of_bodySF (plainFor_of_name pn_java_lang_String) hisR ?_
  intro pP eE sS mM argS bS methS cC s₁ Bd hml0 hP hK
  obtain ⟨rfl, hZ, hh⟩ := hP
  have hx := Bd.exec
  have hby := Bd.bytes
  have hml : cC.maxLocals = 1 := hml0
  have hown : sS.vm.findClass "java/lang/String" = some mM.cls := findClass_of_methodNamed Bd.named
  have hnm := (name_of_methodNamed Bd.named Bd.method).1
  have X0 : Stand pP l eE r1_0_0_13 sS mM #[(.ref t)] bS methS cC s₁ [] 0 0 := Stand.of_body Bd
  have e0 : s₁.heap = h0 := by rw [← hh, Bd.state]; rfl
  have N0 := Fr.nil n0
  obtain ⟨T101, X101, e101, st101⟩ := getF X0 hx hZ hown (host := "") (Or.inl (wi hw 29 rfl)) Via.refl e0 F_value_t (g := (mkF mM 1 #[.val (.ref t)] [(.ref t)])) rfl rfl (hb hby d42_54_1)
  obtain ⟨cl102, Ar102, q102, S102, Ng102, Ha102, Ga102⟩ := id V_tb
  obtain ⟨cq103, kq103, q103a, q103b, q103c⟩ := isOf hZ e101 E_t
  obtain ⟨_, _, ⟨T103, L103, k103, n103⟩, -, X103, ⟨Lc103, hQ103, l103, y103, z103⟩, st103⟩ := X101.virtualBack hx (y := y11_) (z := y11_) hown (mvT hZ (wi hw 52 rfl)) (mvT hZ (wi hw 53 rfl)) (notFace_of_selects (args := #[]) (mvT hZ (wi hw 55 rfl))) (mvT hZ (wi hw 55 rfl)) (mvT hZ (wi hw 54 rfl)) (by decide) (backOf (W := 1) (rm_coder l Z a0 hw [] t co cs h0 n0 (by omega) F_coder_t hcb OL S_COMPACT_STRINGS hcs) hZ (wi hw 56 rfl) (wi hw 4 rfl) (by decide) (by decide)) q103a q103c (g := (mkF mM 6 #[.val (.ref t)] [(.ref t), (.int z)])) rfl (by rw [hml]; rfl) (Steps.refl _) (argsL := []) (rest := [(.int z)]) (lenOf pd_8 rfl) rfl (by show 2 * 0 + _ ≤ _; exact Nat.le_of_eq rfl) (hb hby d42_54_6) (fun _ _ => ⟨rfl, e101, ble rfl, ble rfl⟩)
  dsimp only [Pt.U, Pt.locs, Pt.cells, Pt.slots] at X103 l103 y103 z103 st103 hQ103
  subst y103 z103
  obtain ⟨h103, e103⟩ : ∃ z, T103.heap = z := ⟨_, rfl⟩
  rw [e103] at hQ103
  obtain ⟨rfl, N103q, eq103⟩ := hQ103
  rw [eq103] at e103
  have N103 : Fr n0 L103 := by rw [l103]; exact Fr.app N0 N103q
  obtain ⟨fs, hr, hrun, hended, hW, hsame⟩ := X103.leave (v := some (.int n)) (fun h => by rw [Bd.returns] at h; cases h)
  refine ⟨_, _, castTop (ef_length mM t tb tk z vs co n cs) ?_, hrun, hended, _, _, rfl, ?_, ⟨_, rfl⟩, hW, hsame.mono (by decide) (by decide)⟩
  · show SS pP eE bS s₁ (mkF mM 0 #[.val (.ref t)] []) _
    refine XS.aloadN X0.here hx rfl (hb hby d42_54_0) rfl rfl ?_
    show SS pP eE bS s₁ (mkF mM 1 #[.val (.ref t)] [(.ref t)]) _
    refine st101 _ ?_
    show SS pP eE bS T101 (mkF mM 4 #[.val (.ref t)] [(.ref tb)]) _
    refine X101.arraylength hx (by rw [e101]; exact Ar102.1) (State.isArrayOf_alike hZ.alike Ar102.2.1) (g := (mkF mM 4 #[.val (.ref t)] [(.ref tb)])) rfl rfl (hb hby d42_54_4) _ ?_
    rw [len_of S102 Ng102]
    show SS pP eE bS T101 (mkF mM 5 #[.val (.ref t)] [(.int z)]) _
    refine XS.aloadN X101.here hx rfl (hb hby d42_54_5) rfl rfl ?_
    show SS pP eE bS T101 (mkF mM 6 #[.val (.ref t)] [(.ref t), (.int z)]) _
    refine st103.trans ?_
    show SS pP eE bS T103 (mkF mM 9 #[.val (.ref t)] [(.int co), (.int z)]) _
    refine XS.ishr X103.here hx rfl (hb hby d42_54_9) rfl ?_
    show SS pP eE bS T103 (mkF mM 10 #[.val (.ref t)] [(.int (z >>> (co &&& 31)))]) _
    rw [show (z >>> (co &&& 31)) = n from hsh]
    show SS pP eE bS T103 (mkF mM 10 #[.val (.ref t)] [(.int n)]) _
    exact retI X103 hx Bd.returns (hb hby d42_54_10) hr
  · show Q_length Z t tb tk z vs co n cs h0 n0 _ T103.heap _
    rw [e103]
    exact ⟨rfl, N103, rfl⟩
abbrev c42_154 := jdk_42_method_154_code
theorem d42_154_0 : decode c42_154 0 = .ok (.getstatic 38, 3) := by decide +kernel
theorem d42_154_3 : decode c42_154 3 = .ok (.ifCond .eq 14, 3) := by decide +kernel
theorem d42_154_6 : decode c42_154 6 = .ok (.aload_n 0, 1) := by decide +kernel
theorem d42_154_7 : decode c42_154 7 = .ok (.getfield 15, 3) := by decide +kernel
theorem d42_154_10 : decode c42_154 10 = .ok (.ifCond .ne 7, 3) := by decide +kernel
theorem d42_154_13 : decode c42_154 13 = .ok (.iconst 1, 1) := by decide +kernel
theorem d42_154_14 : decode c42_154 14 = .ok (.goto 4, 3) := by decide +kernel
theorem d42_154_18 : decode c42_154 18 = .ok (.ireturn, 1) := by decide +kernel
abbrev y13_ : MethodName := ⟨"java/lang/String", "isLatin1", "()Z"⟩
def Q_isl0 (Z : State) (t : Addr) (cs : Int32) (h0 : Heap) (n0 : Nat) (xv : Option Value) (xh : Heap) (xL : List Loc) : Prop := xv = some (.int (1 : Int32)) ∧ Fr n0 xL ∧ xh = h0
theorem ef_isl0 (mM : MethodId) (t : Addr) (cs : Int32) : entryFrame mM #[(.ref t)] 1 = mkF mM 0 #[.val (.ref t)] [] := by
  first | (simp [entryFrame, mkF, argsToLocals, Value.category]; done) | rfl
theorem rm_isl0 (l : Launch) (Z : State) (a0 : Array Value) (hw : HW a0 Z) (ws : List Jvm.Cond) (t : Addr) (cs : Int32) (h0 : Heap) (n0 : Nat) (Z0 : n0 ≤ h0.size) (F_coder_t : Fld Z h0 t "java/lang/String" "coder" "B" (.int (0 : Int32))) (OL : Old Z n0 h0) (S_COMPACT_STRINGS : Sta Z Z.heap "java/lang/String" "COMPACT_STRINGS" "Z" (.int cs)) (hcs : ¬ (cs = (0 : Int32))) :
    MetFree l y13_ (head1 (Jvm.Cond.code y13_ jdk_42_method_154_code 1 (some .boolean) :: ws) r0_0_0_0) (fun xa xU => xa = #[(.ref t)] ∧ Z.Warmed39 xU.vm ∧ xU.heap = h0) (fun _ _ _ _ _ => True) (fun _ xU xo xU' => ∃ xv xL, xo = .returned xv ∧ Q_isl0 Z t cs h0 n0 xv xU'.heap xL ∧ FrameEnd xU xo xU' xL r0_0_0_0.cells r0_0_0_0.slots) := by
  refine MetFree.of_bodySF (plainFor_of_name pn_java_lang_String) hisR ?_
  intro pP eE sS mM argS bS methS cC s₁ Bd hml0 hP hK
  obtain ⟨rfl, hZ, hh⟩ := hP
  have hx := Bd.exec
  have hby := Bd.bytes
  have hml : cC.maxLocals = 1 := hml0
  have hown : sS.vm.findClass "java/lang/String" = some mM.cls := findClass_of_methodNamed Bd.named
  have hnm := (name_of_methodNamed Bd.named Bd.method).1
  have X0 : Stand pP l eE r0_0_0_0 sS mM #[(.ref t)] bS methS cC s₁ [] 0 0 := Stand.of_body Bd
  have e0 : s₁.heap = h0 := by rw [← hh, Bd.state]; rfl
  have N0 := Fr.nil n0
  have c101_S_COMPACT_STRINGS : Sta Z h0 "java/lang/String" "COMPACT_STRINGS" "Z" (.int cs) := Sta.ext OL.2 S_COMPACT_STRINGS
  obtain ⟨T102, X102, e102, st102⟩ := getS2 X0 hx hZ hown (host := "") (Or.inl (wi hw 15 rfl)) Via.refl e0 c101_S_COMPACT_STRINGS (g := (mkF mM 0 #[.val (.ref t)] [])) rfl (hb hby d42_154_0)
  obtain ⟨T103, X103, e103, st103⟩ := getF X102 hx hZ hown (host := "") (Or.inl (wi hw 27 rfl)) Via.refl e102 F_coder_t (g := (mkF mM 7 #[.val (.ref t)] [(.ref t)])) rfl rfl (hb hby d42_154_7)
  obtain ⟨fs, hr, hrun, hended, hW, hsame⟩ := X103.leave (v := some (.int (1 : Int32))) (fun h => by rw [Bd.returns] at h; cases h)
  refine ⟨_, _, castTop (ef_isl0 mM t cs) ?_, hrun, hended, _, _, rfl, ?_, ⟨_, rfl⟩, hW, hsame.mono (by decide) (by decide)⟩
  · show SS pP eE bS s₁ (mkF mM 0 #[.val (.ref t)] []) _
    refine st102 _ ?_
    show SS pP eE bS T102 (mkF mM 3 #[.val (.ref t)] [(.int cs)]) _
    refine XS.ifNo X102.here hx rfl (hb hby d42_154_3) rfl ((if0 _ _).trans (feq hcs).1) ?_
    refine XS.aloadN X102.here hx rfl (hb hby d42_154_6) rfl rfl ?_
    show SS pP eE bS T102 (mkF mM 7 #[.val (.ref t)] [(.ref t)]) _
    refine st103 _ ?_
    show SS pP eE bS T103 (mkF mM 10 #[.val (.ref t)] [(.int (0 : Int32))]) _
    refine XS.ifNo X103.here hx rfl (hb hby d42_154_10) rfl ((if0 _ _).trans (teq (by decide : (0 : Int32) = (0 : Int32))).2) ?_
    refine XS.iconst X103.here hx rfl (hb hby d42_154_13) ?_
    refine XS.goto X103.here hx rfl (pc0 := 14) (pc' := 18) rfl (hb hby d42_154_14) (by decide) (by decide) ?_
    show SS pP eE bS T103 (mkF mM 18 #[.val (.ref t)] [(.int (1 : Int32))]) _
    exact retN X103 hx (t := .boolean) Bd.returns (by simp) (hb hby d42_154_18) hr
  · show Q_isl0 Z t cs h0 n0 _ T103.heap _
    rw [e103]
    exact ⟨rfl, N0, rfl⟩
theorem d42_154_17 : decode c42_154 17 = .ok (.iconst 0, 1) := by decide +kernel
def Q_isl1 (Z : State) (t : Addr) (cs : Int32) (h0 : Heap) (n0 : Nat) (xv : Option Value) (xh : Heap) (xL : List Loc) : Prop := xv = some (.int (0 : Int32)) ∧ Fr n0 xL ∧ xh = h0
theorem ef_isl1 (mM : MethodId) (t : Addr) (cs : Int32) : entryFrame mM #[(.ref t)] 1 = mkF mM 0 #[.val (.ref t)] [] := by
  first | (simp [entryFrame, mkF, argsToLocals, Value.category]; done) | rfl
theorem rm_isl1 (l : Launch) (Z : State) (a0 : Array Value) (hw : HW a0 Z) (ws : List Jvm.Cond) (t : Addr) (cs : Int32) (h0 : Heap) (n0 : Nat) (Z0 : n0 ≤ h0.size) (F_coder_t : Fld Z h0 t "java/lang/String" "coder" "B" (.int (1 : Int32))) (OL : Old Z n0 h0) (S_COMPACT_STRINGS : Sta Z Z.heap "java/lang/String" "COMPACT_STRINGS" "Z" (.int cs)) (hcs : ¬ (cs = (0 : Int32))) :
    MetFree l y13_ (head1 (Jvm.Cond.code y13_ jdk_42_method_154_code 1 (some .boolean) :: ws) r0_0_0_0) (fun xa xU => xa = #[(.ref t)] ∧ Z.Warmed39 xU.vm ∧ xU.heap = h0) (fun _ _ _ _ _ => True) (fun _ xU xo xU' => ∃ xv xL, xo = .returned xv ∧ Q_isl1 Z t cs h0 n0 xv xU'.heap xL ∧ FrameEnd xU xo xU' xL r0_0_0_0.cells r0_0_0_0.slots) := by
  refine MetFree.of_bodySF (plainFor_of_name pn_java_lang_String) hisR ?_
  intro pP eE sS mM argS bS methS cC s₁ Bd hml0 hP hK
  obtain ⟨rfl, hZ, hh⟩ := hP
  have hx := Bd.exec
  have hby := Bd.bytes
  have hml : cC.maxLocals = 1 := hml0
  have hown : sS.vm.findClass "java/lang/String" = some mM.cls := findClass_of_methodNamed Bd.named
  have hnm := (name_of_methodNamed Bd.named Bd.method).1
  have X0 : Stand pP l eE r0_0_0_0 sS mM #[(.ref t)] bS methS cC s₁ [] 0 0 := Stand.of_body Bd
  have e0 : s₁.heap = h0 := by rw [← hh, Bd.state]; rfl
  have N0 := Fr.nil n0
  have c101_S_COMPACT_STRINGS : Sta Z h0 "java/lang/String" "COMPACT_STRINGS" "Z" (.int cs) := Sta.ext OL.2 S_COMPACT_STRINGS
  obtain ⟨T102, X102, e102, st102⟩ := getS2 X0 hx hZ hown (host := "") (Or.inl (wi hw 15 rfl)) Via.refl e0 c101_S_COMPACT_STRINGS (g := (mkF mM 0 #[.val (.ref t)] [])) rfl (hb hby d42_154_0)
  obtain ⟨T103, X103, e103, st103⟩ := getF X102 hx hZ hown (host := "") (Or.inl (wi hw 27 rfl)) Via.refl e102 F_coder_t (g := (mkF mM 7 #[.val (.ref t)] [(.ref t)])) rfl rfl (hb hby d42_154_7)
  obtain ⟨fs, hr, hrun, hended, hW, hsame⟩ := X103.leave (v := some (.int (0 : Int32))) (fun h => by rw [Bd.returns] at h; cases h)
  refine ⟨_, _, castTop (ef_isl1 mM t cs) ?_, hrun, hended, _, _, rfl, ?_, ⟨_, rfl⟩, hW, hsame.mono (by decide) (by decide)⟩
  · show SS pP eE bS s₁ (mkF mM 0 #[.val (.ref t)] []) _
    refine st102 _ ?_
    show SS pP eE bS T102 (mkF mM 3 #[.val (.ref t)] [(.int cs)]) _
    refine XS.ifNo X102.here hx rfl (hb hby d42_154_3) rfl ((if0 _ _).trans (feq hcs).1) ?_
    refine XS.aloadN X102.here hx rfl (hb hby d42_154_6) rfl rfl ?_
    show SS pP eE bS T102 (mkF mM 7 #[.val (.ref t)] [(.ref t)]) _
    refine st103 _ ?_
    show SS pP eE bS T103 (mkF mM 10 #[.val (.ref t)] [(.int (1 : Int32))]) _
    refine XS.ifYes X103.here hx rfl (pc0 := 10) (pc' := 17) rfl (hb hby d42_154_10) rfl ((if0 _ _).trans (feq (by decide : ¬ ((1 : Int32) = (0 : Int32)))).2) (by decide) (by decide) ?_
    refine XS.iconst X103.here hx rfl (hb hby d42_154_17) ?_
    show SS pP eE bS T103 (mkF mM 18 #[.val (.ref t)] [(.int (0 : Int32))]) _
    exact retN X103 hx (t := .boolean) Bd.returns (by simp) (hb hby d42_154_18) hr
  · show Q_isl1 Z t cs h0 n0 _ T103.heap _
    rw [e103]
    exact ⟨rfl, N0, rfl⟩
-- MARK copy
abbrev c65_131 := jdk_65_method_131_code
theorem d65_131_0 : decode c65_131 0 = .ok (.iload_n 1, 1) := by decide +kernel
theorem d65_131_1 : decode c65_131 1 = .ok (.iload_n 0, 1) := by decide +kernel
theorem d65_131_2 : decode c65_131 2 = .ok (.if_icmp .ge 35, 3) := by decide +kernel
theorem d65_131_37 : decode c65_131 37 = .ok (.return_, 1) := by decide +kernel
abbrev y14_ : MethodName := ⟨"java/util/Arrays", "checkLength", "(II)V"⟩
theorem pn_java_util_Arrays : plainName "java/util/Arrays" = true := by first | (simp [plainName, overriddenIn]; done) | decide +kernel
def Q_clen (Z : State) (i : Int32) (j : Int32) (h0 : Heap) (n0 : Nat) (xv : Option Value) (xh : Heap) (xL : List Loc) : Prop := xv = none ∧ Fr n0 xL ∧ xh = h0
theorem ef_clen (mM : MethodId) (i : Int32) (j : Int32) : entryFrame mM #[(.int i), (.int j)] 2 = mkF mM 0 #[.val (.int i), .val (.int j)] [] := by
  first | (simp [entryFrame, mkF, argsToLocals, Value.category]; done) | rfl
theorem rm_clen (l : Launch) (Z : State) (a0 : Array Value) (hw : HW a0 Z) (ws : List Jvm.Cond) (i : Int32) (j : Int32) (h0 : Heap) (n0 : Nat) (Z0 : n0 ≤ h0.size) (hji : ¬ (j < i)) :
    MetFree l y14_ (head1 (Jvm.Cond.code y14_ jdk_65_method_131_code 2 none :: ws) r0_0_0_0) (fun xa xU => xa = #[(.int i), (.int j)] ∧ Z.Warmed39 xU.vm ∧ xU.heap = h0) (fun _ _ _ _ _ => True) (fun _ xU xo xU' => ∃ xv xL, xo = .returned xv ∧ Q_clen Z i j h0 n0 xv xU'.heap xL ∧ FrameEnd xU xo xU' xL r0_0_0_0.cells r0_0_0_0.slots) := by
  refine MetFree.of_bodySF (plainFor_of_name pn_java_util_Arrays) hisR ?_
  intro pP eE sS mM argS bS methS cC s₁ Bd hml0 hP hK
  obtain ⟨rfl, hZ, hh⟩ := hP
  have hx := Bd.exec
  have hby := Bd.bytes
  have hml : cC.maxLocals = 2 := hml0
  have hown : sS.vm.findClass "java/util/Arrays" = some mM.cls := findClass_of_methodNamed Bd.named
  have hnm := (name_of_methodNamed Bd.named Bd.method).1
  have X0 : Stand pP l eE r0_0_0_0 sS mM #[(.int i), (.int j)] bS methS cC s₁ [] 0 0 := Stand.of_body Bd
  have e0 : s₁.heap = h0 := by rw [← hh, Bd.state]; rfl
  have N0 := Fr.nil n0
  obtain ⟨fs, hr, hrun, hended, hW, hsame⟩ := X0.leave (v := none) (fun _ => rfl)
  refine ⟨_, _, castTop (ef_clen mM i j) ?_, hrun, hended, _, _, rfl, ?_, ⟨_, rfl⟩, hW, hsame.mono (by decide) (by decide)⟩
  · show SS pP eE bS s₁ (mkF mM 0 #[.val (.int i), .val (.int j)] []) _
    refine XS.iloadN X0.here hx rfl (hb hby d65_131_0) rfl ?_
    refine XS.iloadN X0.here hx rfl (hb hby d65_131_1) rfl ?_
    refine XS.icmpYes X0.here hx rfl (pc0 := 2) (pc' := 37) rfl (hb hby d65_131_2) rfl (flt hji).2.1 (by decide) (by decide) ?_
    show SS pP eE bS s₁ (mkF mM 37 #[.val (.int i), .val (.int j)] []) _
    exact X0.returnOut hx Bd.returns (hb hby d65_131_37) hr
  · show Q_clen Z i j h0 n0 _ s₁.heap _
    rw [e0]
    exact ⟨rfl, N0, rfl⟩
def Q_min (Z : State) (n : Int32) (h0 : Heap) (n0 : Nat) (xv : Option Value) (xh : Heap) (xL : List Loc) : Prop := xv = some (.int n) ∧ Fr n0 xL ∧ xh = h0
abbrev c29_69 := jdk_29_method_69_code
theorem d29_69_0 : decode c29_69 0 = .ok (.iload_n 0, 1) := by decide +kernel
theorem d29_69_1 : decode c29_69 1 = .ok (.iload_n 1, 1) := by decide +kernel
theorem d29_69_2 : decode c29_69 2 = .ok (.if_icmp .gt 7, 3) := by decide +kernel
theorem d29_69_9 : decode c29_69 9 = .ok (.iload_n 1, 1) := by decide +kernel
theorem d29_69_10 : decode c29_69 10 = .ok (.ireturn, 1) := by decide +kernel
abbrev y15_ : MethodName := ⟨"java/lang/Math", "min", "(II)I"⟩
theorem ef_min_a (mM : MethodId) (d : Int32) (n : Int32) : entryFrame mM #[(.int d), (.int n)] 2 = mkF mM 0 #[.val (.int d), .val (.int n)] [] := by
  first | (simp [entryFrame, mkF, argsToLocals, Value.category]; done) | rfl
theorem rm_min_a (l : Launch) (Z : State) (a0 : Array Value) (hw : HW a0 Z) (ws : List Jvm.Cond) (d : Int32) (n : Int32) (h0 : Heap) (n0 : Nat) (Z0 : n0 ≤ h0.size) (h1 : n < d) :
    MetFree l y15_ (head1 (Jvm.Cond.code y15_ jdk_29_method_69_code 2 (some .int) :: ws) r0_0_0_0) (fun xa xU => xa = #[(.int d), (.int n)] ∧ Z.Warmed39 xU.vm ∧ xU.heap = h0) (fun _ _ _ _ _ => True) (fun _ xU xo xU' => ∃ xv xL, xo = .returned xv ∧ Q_min Z n h0 n0 xv xU'.heap xL ∧ FrameEnd xU xo xU' xL r0_0_0_0.cells r0_0_0_0.slots) := by
  refine MetFree.of_bodySF (Jvm.Free.JP.mathPlain rfl (by decide +kernel)) hisR ?_
  intro pP eE sS mM argS bS methS cC s₁ Bd hml0 hP hK
  obtain ⟨rfl, hZ, hh⟩ := hP
  have hx := Bd.exec
  have hby := Bd.bytes
  have hml : cC.maxLocals = 2 := hml0
  have hown : sS.vm.findClass "java/lang/Math" = some mM.cls := findClass_of_methodNamed Bd.named
  have hnm := (name_of_methodNamed Bd.named Bd.method).1
  have X0 : Stand pP l eE r0_0_0_0 sS mM #[(.int d), (.int n)] bS methS cC s₁ [] 0 0 := Stand.of_body Bd
  have e0 : s₁.heap = h0 := by rw [← hh, Bd.state]; rfl
  have N0 := Fr.nil n0
  obtain ⟨fs, hr, hrun, hended, hW, hsame⟩ := X0.leave (v := some (.int n)) (fun h => by rw [Bd.returns] at h; cases h)
  refine ⟨_, _, castTop (ef_min_a mM d n) ?_, hrun, hended, _, _, rfl, ?_, ⟨_, rfl⟩, hW, hsame.mono (by decide) (by decide)⟩
  · show SS pP eE bS s₁ (mkF mM 0 #[.val (.int d), .val (.int n)] []) _
    refine XS.iloadN X0.here hx rfl (hb hby d29_69_0) rfl ?_
    refine XS.iloadN X0.here hx rfl (hb hby d29_69_1) rfl ?_
    refine XS.icmpYes X0.here hx rfl (pc0 := 2) (pc' := 9) rfl (hb hby d29_69_2) rfl (tlt h1).2.2.1 (by decide) (by decide) ?_
    refine XS.iloadN X0.here hx rfl (hb hby d29_69_9) rfl ?_
    show SS pP eE bS s₁ (mkF mM 10 #[.val (.int d), .val (.int n)] [(.int n)]) _
    exact retI X0 hx Bd.returns (hb hby d29_69_10) hr
  · show Q_min Z n h0 n0 _ s₁.heap _
    rw [e0]
    exact ⟨rfl, N0, rfl⟩
theorem d29_69_5 : decode c29_69 5 = .ok (.iload_n 0, 1) := by decide +kernel
theorem d29_69_6 : decode c29_69 6 = .ok (.goto 4, 3) := by decide +kernel
theorem ef_min_b (mM : MethodId) (d : Int32) (n : Int32) : entryFrame mM #[(.int d), (.int n)] 2 = mkF mM 0 #[.val (.int d), .val (.int n)] [] := by
  first | (simp [entryFrame, mkF, argsToLocals, Value.category]; done) | rfl
theorem rm_min_b (l : Launch) (Z : State) (a0 : Array Value) (hw : HW a0 Z) (ws : List Jvm.Cond) (d : Int32) (n : Int32) (h0 : Heap) (n0 : Nat) (Z0 : n0 ≤ h0.size) (h1 : ¬ (n < d)) (h2 : d = n) :
    MetFree l y15_ (head1 (Jvm.Cond.code y15_ jdk_29_method_69_code 2 (some .int) :: ws) r0_0_0_0) (fun xa xU => xa = #[(.int d), (.int n)] ∧ Z.Warmed39 xU.vm ∧ xU.heap = h0) (fun _ _ _ _ _ => True) (fun _ xU xo xU' => ∃ xv xL, xo = .returned xv ∧ Q_min Z n h0 n0 xv xU'.heap xL ∧ FrameEnd xU xo xU' xL r0_0_0_0.cells r0_0_0_0.slots) := by
  refine MetFree.of_bodySF (Jvm.Free.JP.mathPlain rfl (by decide +kernel)) hisR ?_
  intro pP eE sS mM argS bS methS cC s₁ Bd hml0 hP hK
  obtain ⟨rfl, hZ, hh⟩ := hP
  have hx := Bd.exec
  have hby := Bd.bytes
  have hml : cC.maxLocals = 2 := hml0
  have hown : sS.vm.findClass "java/lang/Math" = some mM.cls := findClass_of_methodNamed Bd.named
  have hnm := (name_of_methodNamed Bd.named Bd.method).1
  have X0 : Stand pP l eE r0_0_0_0 sS mM #[(.int d), (.int n)] bS methS cC s₁ [] 0 0 := Stand.of_body Bd
  have e0 : s₁.heap = h0 := by rw [← hh, Bd.state]; rfl
  have N0 := Fr.nil n0
  obtain ⟨fs, hr, hrun, hended, hW, hsame⟩ := X0.leave (v := some (.int d)) (fun h => by rw [Bd.returns] at h; cases h)
  refine ⟨_, _, castTop (ef_min_b mM d n) ?_, hrun, hended, _, _, rfl, ?_, ⟨_, rfl⟩, hW, hsame.mono (by decide) (by decide)⟩
  · show SS pP eE bS s₁ (mkF mM 0 #[.val (.int d), .val (.int n)] []) _
    refine XS.iloadN X0.here hx rfl (hb hby d29_69_0) rfl ?_
    refine XS.iloadN X0.here hx rfl (hb hby d29_69_1) rfl ?_
    refine XS.icmpNo X0.here hx rfl (hb hby d29_69_2) rfl (flt h1).2.2.1 ?_
    refine XS.iloadN X0.here hx rfl (hb hby d29_69_5) rfl ?_
    show SS pP eE bS s₁ (mkF mM 6 #[.val (.int d), .val (.int n)] [(.int d)]) _
    refine XS.goto X0.here hx rfl (pc0 := 6) (pc' := 10) rfl (hb hby d29_69_6) (by decide) (by decide) ?_
    show SS pP eE bS s₁ (mkF mM 10 #[.val (.int d), .val (.int n)] [(.int d)]) _
    exact retI X0 hx Bd.returns (hb hby d29_69_10) hr
  · show Q_min Z n h0 n0 _ s₁.heap _
    rw [e0]
    exact ⟨congrArg (fun x => some (Value.int x)) h2, N0, rfl⟩
theorem rm_min (l : Launch) (Z : State) (a0 : Array Value) (hw : HW a0 Z) (ws : List Jvm.Cond) (d : Int32) (n : Int32) (h0 : Heap) (n0 : Nat) (Z0 : n0 ≤ h0.size) (hmn : n < d ∨ d = n) :
    MetFree l y15_ (head1 (Jvm.Cond.code y15_ jdk_29_method_69_code 2 (some .int) :: ws) r0_0_0_0) (fun xa xU => xa = #[(.int d), (.int n)] ∧ Z.Warmed39 xU.vm ∧ xU.heap = h0) (fun _ _ _ _ _ => True) (fun _ xU xo xU' => ∃ xv xL, xo = .returned xv ∧ Q_min Z n h0 n0 xv xU'.heap xL ∧ FrameEnd xU xo xU' xL r0_0_0_0.cells r0_0_0_0.slots) := by
  by_cases h1 : n < d
  · exact rm_min_a l Z a0 hw ws d n h0 n0 Z0 h1
  · exact rm_min_b l Z a0 hw ws d n h0 n0 Z0 h1 (hmn.resolve_left h1)
abbrev c65_133 := jdk_65_method_133_code
theorem d65_133_0 : decode c65_133 0 = .ok (.iload_n 1, 1) := by decide +kernel
theorem d65_133_1 : decode c65_133 1 = .ok (.iload_n 2, 1) := by decide +kernel
theorem d65_133_2 : decode c65_133 2 = .ok (.invokestatic 343, 3) := by decide +kernel
theorem pd_23 : parseMethodDescriptor "(II)V" = some ⟨[.int, .int], none⟩ := by decide +kernel
theorem d65_133_5 : decode c65_133 5 = .ok (.iload_n 2, 1) := by decide +kernel
theorem d65_133_6 : decode c65_133 6 = .ok (.iload_n 1, 1) := by decide +kernel
theorem d65_133_7 : decode c65_133 7 = .ok (.isub, 1) := by decide +kernel
theorem d65_133_8 : decode c65_133 8 = .ok (.istore_n 3, 1) := by decide +kernel
theorem d65_133_9 : decode c65_133 9 = .ok (.iload_n 3, 1) := by decide +kernel
theorem d65_133_10 : decode c65_133 10 = .ok (.newarray .byte, 2) := by decide +kernel
theorem d65_133_12 : decode c65_133 12 = .ok (.astore 4, 2) := by decide +kernel
theorem d65_133_14 : decode c65_133 14 = .ok (.aload_n 0, 1) := by decide +kernel
theorem d65_133_15 : decode c65_133 15 = .ok (.iload_n 1, 1) := by decide +kernel
theorem d65_133_16 : decode c65_133 16 = .ok (.aload 4, 2) := by decide +kernel
theorem d65_133_18 : decode c65_133 18 = .ok (.iconst 0, 1) := by decide +kernel
theorem d65_133_19 : decode c65_133 19 = .ok (.aload_n 0, 1) := by decide +kernel
theorem d65_133_20 : decode c65_133 20 = .ok (.arraylength, 1) := by decide +kernel
theorem d65_133_21 : decode c65_133 21 = .ok (.iload_n 1, 1) := by decide +kernel
theorem d65_133_22 : decode c65_133 22 = .ok (.isub, 1) := by decide +kernel
theorem d65_133_23 : decode c65_133 23 = .ok (.iload_n 3, 1) := by decide +kernel
theorem d65_133_24 : decode c65_133 24 = .ok (.invokestatic 304, 3) := by decide +kernel
theorem pd_24 : parseMethodDescriptor "(II)I" = some ⟨[.int, .int], some .int⟩ := by decide +kernel
theorem d65_133_27 : decode c65_133 27 = .ok (.invokestatic 150, 3) := by decide +kernel
theorem d65_133_30 : decode c65_133 30 = .ok (.aload 4, 2) := by decide +kernel
theorem d65_133_32 : decode c65_133 32 = .ok (.areturn, 1) := by decide +kernel
abbrev r1_1_8_18 : Room := { frames := 1, cells := 1, slots := 8, locals := 18 }
abbrev y16_ : MethodName := ⟨"java/util/Arrays", "copyOfRangeByte", "([BII)[B"⟩
def Q_corb (Z : State) (a1 : Addr) (k1 : ClassId) (z : Int32) (vs : List Value) (i : Int32) (j : Int32) (n : Int32) (us : List Value) (h0 : Heap) (n0 : Nat) (xv : Option Value) (xh : Heap) (xL : List Loc) : Prop := ∃ b : Addr, ∃ k2 : ClassId, xv = some (.ref b) ∧ Fr n0 xL ∧ Keep h0 xh [] ∧ Arv Z xh b k2 .byte n us (.int (0 : Int32)) ∧ @LE.le Nat _ h0.size b
abbrev Lc_corb_0 (a1 : Addr) (i : Int32) (j : Int32) (n : Int32) : Array Slot := #[.val (.ref a1), .val (.int i), .val (.int j), .val (.int n), .unset]
abbrev Lc_corb_1 (a1 : Addr) (i : Int32) (j : Int32) (n : Int32) (b102 : Addr) : Array Slot := #[.val (.ref a1), .val (.int i), .val (.int j), .val (.int n), .val (.ref b102)]
theorem ef_corb (mM : MethodId) (a1 : Addr) (k1 : ClassId) (z : Int32) (vs : List Value) (i : Int32) (j : Int32) (n : Int32) (us : List Value) : entryFrame mM #[(.ref a1), (.int i), (.int j)] 5 = mkF mM 0 #[.val (.ref a1), .val (.int i), .val (.int j), .unset, .unset] [] := by
  first | (simp [entryFrame, mkF, argsToLocals, Value.category]; done) | rfl
theorem rm_corb (l : Launch) (Z : State) (a0 : Array Value) (hw : HW a0 Z) (ws : List Jvm.Cond) (a1 : Addr) (k1 : ClassId) (z : Int32) (vs : List Value) (i : Int32) (j : Int32) (n : Int32) (us : List Value) (h0 : Heap) (n0 : Nat) (Z0 : n0 ≤ h0.size) (V_a1 : Arv Z h0 a1 k1 .byte z vs (.int (0 : Int32))) (hji : ¬ (j < i)) (hn : (j - i) = n) (hnn : ¬ (n < (0 : Int32))) (hn8 : n.toNatClampNeg ≤ 8) (hmn : n < (z - i) ∨ (z - i) = n) (hi0 : ¬ (i < (0 : Int32))) (hin : i.toNatClampNeg + n.toNatClampNeg ≤ z.toNatClampNeg) (hus : us = ((List.range n.toNatClampNeg).map fun q => vs.getD (i.toNatClampNeg + q) (.int (0 : Int32)))) :
    MetFree l y16_ (head1 (Jvm.Cond.code y16_ jdk_65_method_133_code 5 (some (.array .byte)) :: ws) r1_1_8_18) (fun xa xU => xa = #[(.ref a1), (.int i), (.int j)] ∧ Z.Warmed39 xU.vm ∧ xU.heap = h0) (fun _ _ _ _ _ => True) (fun _ xU xo xU' => ∃ xv xL, xo = .returned xv ∧ Q_corb Z a1 k1 z vs i j n us h0 n0 xv xU'.heap xL ∧ FrameEnd xU xo xU' xL r1_1_8_18.cells r1_1_8_18.slots) := by
  refine MetFree.of_bodySF (plainFor_of_name pn_java_util_Arrays) hisR ?_
  intro pP eE sS mM argS bS methS cC s₁ Bd hml0 hP hK
  obtain ⟨rfl, hZ, hh⟩ := hP
  have hx := Bd.exec
  have hby := Bd.bytes
  have hml : cC.maxLocals = 5 := hml0
  have hown : sS.vm.findClass "java/util/Arrays" = some mM.cls := findClass_of_methodNamed Bd.named
  have hnm := (name_of_methodNamed Bd.named Bd.method).1
  have X0 : Stand pP l eE r1_1_8_18 sS mM #[(.ref a1), (.int i), (.int j)] bS methS cC s₁ [] 0 0 := Stand.of_body Bd
  have e0 : s₁.heap = h0 := by rw [← hh, Bd.state]; rfl
  have N0 := Fr.nil n0
  obtain ⟨_, _, ⟨T101, L101, k101, n101⟩, -, X101, ⟨Lc101, hQ101, l101, y101, z101⟩, st101⟩ := Jvm.LawKit.callS X0 hx (y := y14_) hown (mvT hZ (wi hw 155 rfl)) (mvT hZ (wi hw 156 rfl)) (mvT hZ (wi hw 150 rfl)) (mvT hZ (wi hw 157 rfl)) (by decide) (backOf (W := 0) (rm_clen l Z a0 hw [] i j h0 n0 (by omega) hji) hZ (wi hw 157 rfl) (wi hw 150 rfl) (by decide) (by decide)) (g := (mkF mM 2 #[.val (.ref a1), .val (.int i), .val (.int j), .unset, .unset] [(.int j), (.int i)])) rfl (by rw [hml]; rfl) (argsL := [(.int i), (.int j)]) (rest := []) (lenOf pd_23 rfl) rfl (by show 2 * 0 + _ ≤ _; exact Nat.le_of_eq rfl) (hb hby d65_133_2) (fun _ _ => ⟨rfl, e0, ble rfl, ble rfl⟩)
  dsimp only [Pt.U, Pt.locs, Pt.cells, Pt.slots] at X101 l101 y101 z101 st101 hQ101
  subst y101 z101
  obtain ⟨h101, e101⟩ : ∃ z, T101.heap = z := ⟨_, rfl⟩
  rw [e101] at hQ101
  obtain ⟨rfl, N101q, eq101⟩ := hQ101
  rw [eq101] at e101
  have N101 : Fr n0 L101 := by rw [l101]; exact Fr.app N0 N101q
  obtain ⟨T102, h102, k102, X102, e102, E102, A102, st102⟩ := newP X101 hx hZ (wi hw 20 rfl) e101 (g := (mkF mM 10 (Lc_corb_0 a1 i j n) [(.int n)])) rfl (hb hby d65_133_10) rfl hnn (cap := 8) hn8 (by decide) (by decide) (by decide)
  obtain ⟨b102, g102⟩ : ∃ z : Nat, z = h0.size := ⟨_, rfl⟩
  rw [← g102] at A102 st102
  have Sz1 : h0.size ≤ h102.size := E102.1
  have V_b102 : Arv Z h102 b102 k102 .byte n [] (.int (0 : Int32)) := Arv.new A102 hnn
  have c103_V_a1 : Arv Z h102 a1 k1 .byte z vs (.int (0 : Int32)) := V_a1.ext E102
  obtain ⟨cl104, Ar104, q104, S104, Ng104, Ha104, Ga104⟩ := id c103_V_a1
  obtain ⟨_, _, ⟨T105, L105, k105, n105⟩, -, X105, ⟨Lc105, hQ105, l105, y105, z105⟩, st105⟩ := Jvm.LawKit.callS X102 hx (y := y15_) hown (mvT hZ (wi hw 158 rfl)) (mvT hZ (wi hw 159 rfl)) (mvT hZ (wi hw 160 rfl)) (mvT hZ (wi hw 161 rfl)) (by decide) (backOf (W := 4) (rm_min l Z a0 hw [] (z - i) n h102 n0 (by omega) hmn) hZ (wi hw 161 rfl) (wi hw 160 rfl) (by decide) (by decide)) (g := (mkF mM 24 (Lc_corb_1 a1 i j n b102) [(.int n), (.int (z - i)), (.int (0 : Int32)), (.ref b102), (.int i), (.ref a1)])) rfl (by rw [hml]; rfl) (argsL := [(.int (z - i)), (.int n)]) (rest := [(.int (0 : Int32)), (.ref b102), (.int i), (.ref a1)]) (lenOf pd_24 rfl) rfl (by show 2 * 0 + _ ≤ _; exact Nat.le_of_eq rfl) (hb hby d65_133_24) (fun _ _ => ⟨rfl, e102, ble rfl, ble rfl⟩)
  dsimp only [Pt.U, Pt.locs, Pt.cells, Pt.slots] at X105 l105 y105 z105 st105 hQ105
  subst y105 z105
  obtain ⟨h105, e105⟩ : ∃ z, T105.heap = z := ⟨_, rfl⟩
  rw [e105] at hQ105
  obtain ⟨rfl, N105q, eq105⟩ := hQ105
  rw [eq105] at e105
  have N105 : Fr n0 L105 := by rw [l105]; exact Fr.app N101 N105q
  have ge106_b102 : @LE.le Nat _ n0 b102 := by omega
  obtain ⟨T107, h107, L107, X107, e107, N107, Kc107, Vc107, st107⟩ := cpSub X105 hx hZ hown (wi hw 162 rfl) (wi hw 165 rfl) (wi hw 163 rfl) (wi hw 164 rfl) e105 c103_V_a1 V_b102 rfl hi0 hnn hin (Nat.le_refl _) hus N105 ge106_b102 (g := (mkF mM 27 (Lc_corb_1 a1 i j n b102) [(.int n), (.int (0 : Int32)), (.ref b102), (.int i), (.ref a1)])) rfl (by rw [hml]; rfl) rfl (hb hby d65_133_27) (by decide) (W := 0) (by show 2 * 0 + _ ≤ _; exact Nat.le_of_eq rfl) (by decide)
  have Sz2 : h102.size ≤ h107.size := Kc107.1
  have K108 : Keep h0 h102 [] := (Keep.refl h0 []).ext E102
  have K109 : Keep h0 h107 [] := K108.trans Kc107 (allS (Or.inr (by omega : @LE.le Nat _ h0.size b102)) all0)
  obtain ⟨fs, hr, hrun, hended, hW, hsame⟩ := X107.leave (v := some (.ref b102)) (fun h => by rw [Bd.returns] at h; cases h)
  refine ⟨_, _, castTop (ef_corb mM a1 k1 z vs i j n us) ?_, hrun, hended, _, _, rfl, ?_, ⟨_, rfl⟩, hW, hsame.mono (by decide) (by decide)⟩
  · show SS pP eE bS s₁ (mkF mM 0 #[.val (.ref a1), .val (.int i), .val (.int j), .unset, .unset] []) _
    refine XS.iloadN X0.here hx rfl (hb hby d65_133_0) rfl ?_
    refine XS.iloadN X0.here hx rfl (hb hby d65_133_1) rfl ?_
    show SS pP eE bS s₁ (mkF mM 2 #[.val (.ref a1), .val (.int i), .val (.int j), .unset, .unset] [(.int j), (.int i)]) _
    refine st101 _ ?_
    show SS pP eE bS T101 (mkF mM 5 #[.val (.ref a1), .val (.int i), .val (.int j), .unset, .unset] []) _
    refine XS.iloadN X101.here hx rfl (hb hby d65_133_5) rfl ?_
    refine XS.iloadN X101.here hx rfl (hb hby d65_133_6) rfl ?_
    refine XS.isub X101.here hx rfl (hb hby d65_133_7) rfl ?_
    show SS pP eE bS T101 (mkF mM 8 #[.val (.ref a1), .val (.int i), .val (.int j), .unset, .unset] [(.int (j - i))]) _
    rw [show (j - i) = n from hn]
    refine XS.istoreN X101.here hx rfl (hb hby d65_133_8) rfl (l' := (Lc_corb_0 a1 i j n)) rfl ?_
    refine XS.iloadN X101.here hx rfl (hb hby d65_133_9) rfl ?_
    show SS pP eE bS T101 (mkF mM 10 (Lc_corb_0 a1 i j n) [(.int n)]) _
    refine st102 _ ?_
    show SS pP eE bS T102 (mkF mM 12 (Lc_corb_0 a1 i j n) [(.ref b102)]) _
    refine XS.astore X102.here hx rfl (hb hby d65_133_12) rfl rfl (l' := (Lc_corb_1 a1 i j n b102)) rfl ?_
    refine XS.aloadN X102.here hx rfl (hb hby d65_133_14) rfl rfl ?_
    refine XS.iloadN X102.here hx rfl (hb hby d65_133_15) rfl ?_
    refine XS.aload X102.here hx rfl (hb hby d65_133_16) rfl rfl ?_
    show SS pP eE bS T102 (mkF mM 18 (Lc_corb_1 a1 i j n b102) [(.ref b102), (.int i), (.ref a1)]) _
    refine XS.iconst X102.here hx rfl (hb hby d65_133_18) ?_
    refine XS.aloadN X102.here hx rfl (hb hby d65_133_19) rfl rfl ?_
    show SS pP eE bS T102 (mkF mM 20 (Lc_corb_1 a1 i j n b102) [(.ref a1), (.int (0 : Int32)), (.ref b102), (.int i), (.ref a1)]) _
    refine X102.arraylength hx (by rw [e102]; exact Ar104.1) (State.isArrayOf_alike hZ.alike Ar104.2.1) (g := (mkF mM 20 (Lc_corb_1 a1 i j n b102) [(.ref a1), (.int (0 : Int32)), (.ref b102), (.int i), (.ref a1)])) rfl rfl (hb hby d65_133_20) _ ?_
    rw [len_of S104 Ng104]
    show SS pP eE bS T102 (mkF mM 21 (Lc_corb_1 a1 i j n b102) [(.int z), (.int (0 : Int32)), (.ref b102), (.int i), (.ref a1)]) _
    refine XS.iloadN X102.here hx rfl (hb hby d65_133_21) rfl ?_
    refine XS.isub X102.here hx rfl (hb hby d65_133_22) rfl ?_
    refine XS.iloadN X102.here hx rfl (hb hby d65_133_23) rfl ?_
    show SS pP eE bS T102 (mkF mM 24 (Lc_corb_1 a1 i j n b102) [(.int n), (.int (z - i)), (.int (0 : Int32)), (.ref b102), (.int i), (.ref a1)]) _
    refine st105 _ ?_
    show SS pP eE bS T105 (mkF mM 27 (Lc_corb_1 a1 i j n b102) [(.int n), (.int (0 : Int32)), (.ref b102), (.int i), (.ref a1)]) _
    refine st107 _ ?_
    show SS pP eE bS T107 (mkF mM 30 (Lc_corb_1 a1 i j n b102) []) _
    refine XS.aload X107.here hx rfl (hb hby d65_133_30) rfl rfl ?_
    show SS pP eE bS T107 (mkF mM 32 (Lc_corb_1 a1 i j n b102) [(.ref b102)]) _
    jvm_step X107.here [X107.here.top, hx, (hb hby d65_133_32), X107.method', Bd.returns, Value.isRef, FieldType.isReference]
    first | (intro acts; rw [hr _ acts rfl rfl rfl]) | rw [hr _ _ rfl rfl rfl]
    exact Steps.refl _
  · show Q_corb Z a1 k1 z vs i j n us h0 n0 _ T107.heap _
    rw [e107]
    exact ⟨b102, k102, rfl, N107, K109, Vc107, (by omega)⟩
def Q_cor (Z : State) (n : Int32) (us : List Value) (h0 : Heap) (n0 : Nat) (xv : Option Value) (xh : Heap) (xL : List Loc) : Prop := ∃ b : Addr, ∃ k2 : ClassId, xv = some (.ref b) ∧ Fr n0 xL ∧ Keep h0 xh [] ∧ Arv Z xh b k2 .byte n us (.int (0 : Int32)) ∧ @LE.le Nat _ h0.size b
abbrev c65_132 := jdk_65_method_132_code
theorem d65_132_0 : decode c65_132 0 = .ok (.iload_n 1, 1) := by decide +kernel
theorem d65_132_1 : decode c65_132 1 = .ok (.ifCond .ne 9, 3) := by decide +kernel
theorem d65_132_10 : decode c65_132 10 = .ok (.aload_n 0, 1) := by decide +kernel
theorem d65_132_11 : decode c65_132 11 = .ok (.iload_n 1, 1) := by decide +kernel
theorem d65_132_12 : decode c65_132 12 = .ok (.iload_n 2, 1) := by decide +kernel
theorem d65_132_13 : decode c65_132 13 = .ok (.invokestatic 339, 3) := by decide +kernel
theorem pd_22 : parseMethodDescriptor "([BII)[B" = some ⟨[(.array .byte), .int, .int], some (.array .byte)⟩ := by decide +kernel
theorem d65_132_16 : decode c65_132 16 = .ok (.areturn, 1) := by decide +kernel
theorem d65_132_4 : decode c65_132 4 = .ok (.iload_n 2, 1) := by decide +kernel
theorem d65_132_5 : decode c65_132 5 = .ok (.aload_n 0, 1) := by decide +kernel
theorem d65_132_6 : decode c65_132 6 = .ok (.arraylength, 1) := by decide +kernel
theorem d65_132_7 : decode c65_132 7 = .ok (.if_icmp .eq 10, 3) := by decide +kernel
abbrev r2_1_8_34 : Room := { frames := 2, cells := 1, slots := 8, locals := 34 }
abbrev y17_ : MethodName := ⟨"java/util/Arrays", "copyOfRange", "([BII)[B"⟩
theorem ef_cor_a (mM : MethodId) (a1 : Addr) (k1 : ClassId) (z : Int32) (vs : List Value) (i : Int32) (j : Int32) (n : Int32) (us : List Value) : entryFrame mM #[(.ref a1), (.int i), (.int j)] 3 = mkF mM 0 #[.val (.ref a1), .val (.int i), .val (.int j)] [] := by
  first | (simp [entryFrame, mkF, argsToLocals, Value.category]; done) | rfl
theorem rm_cor_a (l : Launch) (Z : State) (a0 : Array Value) (hw : HW a0 Z) (ws : List Jvm.Cond) (a1 : Addr) (k1 : ClassId) (z : Int32) (vs : List Value) (i : Int32) (j : Int32) (n : Int32) (us : List Value) (h0 : Heap) (n0 : Nat) (Z0 : n0 ≤ h0.size) (V_a1 : Arv Z h0 a1 k1 .byte z vs (.int (0 : Int32))) (hji : ¬ (j < i)) (hn : (j - i) = n) (hnn : ¬ (n < (0 : Int32))) (hn8 : n.toNatClampNeg ≤ 8) (hmn : n < (z - i) ∨ (z - i) = n) (hi0 : ¬ (i < (0 : Int32))) (hin : i.toNatClampNeg + n.toNatClampNeg ≤ z.toNatClampNeg) (hus : us = ((List.range n.toNatClampNeg).map fun q => vs.getD (i.toNatClampNeg + q) (.int (0 : Int32)))) (hc1 : ¬ (i = (0 : Int32))) :
    MetFree l y17_ (head1 (Jvm.Cond.code y17_ jdk_65_method_132_code 3 (some (.array .byte)) :: ws) r2_1_8_34) (fun xa xU => xa = #[(.ref a1), (.int i), (.int j)] ∧ Z.Warmed39 xU.vm ∧ xU.heap = h0) (fun _ _ _ _ _ => True) (fun _ xU xo xU' => ∃ xv xL, xo = .returned xv ∧ Q_cor Z n us h0 n0 xv xU'.heap xL ∧ FrameEnd xU xo xU' xL r2_1_8_34.cells r2_1_8_34.slots) := by
  refine MetFree.of_bodySF (plainFor_of_name pn_java_util_Arrays) hisR ?_
  intro pP eE sS mM argS bS methS cC s₁ Bd hml0 hP hK
  obtain ⟨rfl, hZ, hh⟩ := hP
  have hx := Bd.exec
  have hby := Bd.bytes
  have hml : cC.maxLocals = 3 := hml0
  have hown : sS.vm.findClass "java/util/Arrays" = some mM.cls := findClass_of_methodNamed Bd.named
  have hnm := (name_of_methodNamed Bd.named Bd.method).1
  have X0 : Stand pP l eE r2_1_8_34 sS mM #[(.ref a1), (.int i), (.int j)] bS methS cC s₁ [] 0 0 := Stand.of_body Bd
  have e0 : s₁.heap = h0 := by rw [← hh, Bd.state]; rfl
  have N0 := Fr.nil n0
  obtain ⟨_, _, ⟨T101, L101, k101, n101⟩, -, X101, ⟨Lc101, hQ101, l101, y101, z101⟩, st101⟩ := Jvm.LawKit.callS X0 hx (y := y16_) hown (mvT hZ (wi hw 152 rfl)) (mvT hZ (wi hw 153 rfl)) (mvT hZ (wi hw 150 rfl)) (mvT hZ (wi hw 154 rfl)) (by decide) (backOf (W := 0) (rm_corb l Z a0 hw [] a1 k1 z vs i j n us h0 n0 (by omega) V_a1 hji hn hnn hn8 hmn hi0 hin hus) hZ (wi hw 154 rfl) (wi hw 150 rfl) (by decide) (by decide)) (g := (mkF mM 13 #[.val (.ref a1), .val (.int i), .val (.int j)] [(.int j), (.int i), (.ref a1)])) rfl (by rw [hml]; rfl) (argsL := [(.ref a1), (.int i), (.int j)]) (rest := []) (lenOf pd_22 rfl) rfl (by show 2 * 0 + _ ≤ _; exact Nat.le_of_eq rfl) (hb hby d65_132_13) (fun _ _ => ⟨rfl, e0, ble rfl, ble rfl⟩)
  dsimp only [Pt.U, Pt.locs, Pt.cells, Pt.slots] at X101 l101 y101 z101 st101 hQ101
  subst y101 z101
  obtain ⟨h101, e101⟩ : ∃ z, T101.heap = z := ⟨_, rfl⟩
  rw [e101] at hQ101
  obtain ⟨b_101, k2_101, rfl, N101q, Kp101, p101_V_b, p101_gh_b⟩ := hQ101
  have Sz1 : h0.size ≤ h101.size := Kp101.1
  have N101 : Fr n0 L101 := by rw [l101]; exact Fr.app N0 N101q
  have K102 : Keep h0 h101 [] := (Keep.refl h0 []).trans Kp101 all0
  obtain ⟨fs, hr, hrun, hended, hW, hsame⟩ := X101.leave (v := some (.ref b_101)) (fun h => by rw [Bd.returns] at h; cases h)
  refine ⟨_, _, castTop (ef_cor_a mM a1 k1 z vs i j n us) ?_, hrun, hended, _, _, rfl, ?_, ⟨_, rfl⟩, hW, hsame.mono (by decide) (by decide)⟩
  · show SS pP eE bS s₁ (mkF mM 0 #[.val (.ref a1), .val (.int i), .val (.int j)] []) _
    refine XS.iloadN X0.here hx rfl (hb hby d65_132_0) rfl ?_
    refine XS.ifYes X0.here hx rfl (pc0 := 1) (pc' := 10) rfl (hb hby d65_132_1) rfl ((if0 _ _).trans (feq hc1).2) (by decide) (by decide) ?_
    refine XS.aloadN X0.here hx rfl (hb hby d65_132_10) rfl rfl ?_
    refine XS.iloadN X0.here hx rfl (hb hby d65_132_11) rfl ?_
    show SS pP eE bS s₁ (mkF mM 12 #[.val (.ref a1), .val (.int i), .val (.int j)] [(.int i), (.ref a1)]) _
    refine XS.iloadN X0.here hx rfl (hb hby d65_132_12) rfl ?_
    show SS pP eE bS s₁ (mkF mM 13 #[.val (.ref a1), .val (.int i), .val (.int j)] [(.int j), (.int i), (.ref a1)]) _
    refine st101 _ ?_
    show SS pP eE bS T101 (mkF mM 16 #[.val (.ref a1), .val (.int i), .val (.int j)] [(.ref b_101)]) _
    jvm_step X101.here [X101.here.top, hx, (hb hby d65_132_16), X101.method', Bd.returns, Value.isRef, FieldType.isReference]
    first | (intro acts; rw [hr _ acts rfl rfl rfl]) | rw [hr _ _ rfl rfl rfl]
    exact Steps.refl _
  · show Q_cor Z n us h0 n0 _ T101.heap _
    rw [e101]
    exact ⟨b_101, k2_101, rfl, N101, K102, p101_V_b, (by omega)⟩
theorem ef_cor_b (mM : MethodId) (a1 : Addr) (k1 : ClassId) (z : Int32) (vs : List Value) (i : Int32) (j : Int32) (n : Int32) (us : List Value) : entryFrame mM #[(.ref a1), (.int i), (.int j)] 3 = mkF mM 0 #[.val (.ref a1), .val (.int i), .val (.int j)] [] := by
  first | (simp [entryFrame, mkF, argsToLocals, Value.category]; done) | rfl
theorem rm_cor_b (l : Launch) (Z : State) (a0 : Array Value) (hw : HW a0 Z) (ws : List Jvm.Cond) (a1 : Addr) (k1 : ClassId) (z : Int32) (vs : List Value) (i : Int32) (j : Int32) (n : Int32) (us : List Value) (h0 : Heap) (n0 : Nat) (Z0 : n0 ≤ h0.size) (V_a1 : Arv Z h0 a1 k1 .byte z vs (.int (0 : Int32))) (hji : ¬ (j < i)) (hn : (j - i) = n) (hnn : ¬ (n < (0 : Int32))) (hn8 : n.toNatClampNeg ≤ 8) (hmn : n < (z - i) ∨ (z - i) = n) (hi0 : ¬ (i < (0 : Int32))) (hin : i.toNatClampNeg + n.toNatClampNeg ≤ z.toNatClampNeg) (hus : us = ((List.range n.toNatClampNeg).map fun q => vs.getD (i.toNatClampNeg + q) (.int (0 : Int32)))) (hc1 : i = (0 : Int32)) (hc7 : ¬ (j = z)) :
    MetFree l y17_ (head1 (Jvm.Cond.code y17_ jdk_65_method_132_code 3 (some (.array .byte)) :: ws) r2_1_8_34) (fun xa xU => xa = #[(.ref a1), (.int i), (.int j)] ∧ Z.Warmed39 xU.vm ∧ xU.heap = h0) (fun _ _ _ _ _ => True) (fun _ xU xo xU' => ∃ xv xL, xo = .returned xv ∧ Q_cor Z n us h0 n0 xv xU'.heap xL ∧ FrameEnd xU xo xU' xL r2_1_8_34.cells r2_1_8_34.slots) := by
  refine MetFree.of_bodySF (plainFor_of_name pn_java_util_Arrays) hisR ?_
  intro pP eE sS mM argS bS methS cC s₁ Bd hml0 hP hK
  obtain ⟨rfl, hZ, hh⟩ := hP
  have hx := Bd.exec
  have hby := Bd.bytes
  have hml : cC.maxLocals = 3 := hml0
  have hown : sS.vm.findClass "java/util/Arrays" = some mM.cls := findClass_of_methodNamed Bd.named
  have hnm := (name_of_methodNamed Bd.named Bd.method).1
  have X0 : Stand pP l eE r2_1_8_34 sS mM #[(.ref a1), (.int i), (.int j)] bS methS cC s₁ [] 0 0 := Stand.of_body Bd
  have e0 : s₁.heap = h0 := by rw [← hh, Bd.state]; rfl
  have N0 := Fr.nil n0
  obtain ⟨cl101, Ar101, q101, S101, Ng101, Ha101, Ga101⟩ := id V_a1
  obtain ⟨_, _, ⟨T102, L102, k102, n102⟩, -, X102, ⟨Lc102, hQ102, l102, y102, z102⟩, st102⟩ := Jvm.LawKit.callS X0 hx (y := y16_) hown (mvT hZ (wi hw 152 rfl)) (mvT hZ (wi hw 153 rfl)) (mvT hZ (wi hw 150 rfl)) (mvT hZ (wi hw 154 rfl)) (by decide) (backOf (W := 0) (rm_corb l Z a0 hw [] a1 k1 z vs i j n us h0 n0 (by omega) V_a1 hji hn hnn hn8 hmn hi0 hin hus) hZ (wi hw 154 rfl) (wi hw 150 rfl) (by decide) (by decide)) (g := (mkF mM 13 #[.val (.ref a1), .val (.int i), .val (.int j)] [(.int j), (.int i), (.ref a1)])) rfl (by rw [hml]; rfl) (argsL := [(.ref a1), (.int i), (.int j)]) (rest := []) (lenOf pd_22 rfl) rfl (by show 2 * 0 + _ ≤ _; exact Nat.le_of_eq rfl) (hb hby d65_132_13) (fun _ _ => ⟨rfl, e0, ble rfl, ble rfl⟩)
  dsimp only [Pt.U, Pt.locs, Pt.cells, Pt.slots] at X102 l102 y102 z102 st102 hQ102
  subst y102 z102
  obtain ⟨h102, e102⟩ : ∃ z, T102.heap = z := ⟨_, rfl⟩
  rw [e102] at hQ102
  obtain ⟨b_102, k2_102, rfl, N102q, Kp102, p102_V_b, p102_gh_b⟩ := hQ102
  have Sz1 : h0.size ≤ h102.size := Kp102.1
  have N102 : Fr n0 L102 := by rw [l102]; exact Fr.app N0 N102q
  have K103 : Keep h0 h102 [] := (Keep.refl h0 []).trans Kp102 all0
  obtain ⟨fs, hr, hrun, hended, hW, hsame⟩ := X102.leave (v := some (.ref b_102)) (fun h => by rw [Bd.returns] at h; cases h)
  refine ⟨_, _, castTop (ef_cor_b mM a1 k1 z vs i j n us) ?_, hrun, hended, _, _, rfl, ?_, ⟨_, rfl⟩, hW, hsame.mono (by decide) (by decide)⟩
  · show SS pP eE bS s₁ (mkF mM 0 #[.val (.ref a1), .val (.int i), .val (.int j)] []) _
    refine XS.iloadN X0.here hx rfl (hb hby d65_132_0) rfl ?_
    refine XS.ifNo X0.here hx rfl (hb hby d65_132_1) rfl ((if0 _ _).trans (teq hc1).2) ?_
    refine XS.iloadN X0.here hx rfl (hb hby d65_132_4) rfl ?_
    refine XS.aloadN X0.here hx rfl (hb hby d65_132_5) rfl rfl ?_
    show SS pP eE bS s₁ (mkF mM 6 #[.val (.ref a1), .val (.int i), .val (.int j)] [(.ref a1), (.int j)]) _
    refine X0.arraylength hx (by rw [e0]; exact Ar101.1) (State.isArrayOf_alike hZ.alike Ar101.2.1) (g := (mkF mM 6 #[.val (.ref a1), .val (.int i), .val (.int j)] [(.ref a1), (.int j)])) rfl rfl (hb hby d65_132_6) _ ?_
    rw [len_of S101 Ng101]
    show SS pP eE bS s₁ (mkF mM 7 #[.val (.ref a1), .val (.int i), .val (.int j)] [(.int z), (.int j)]) _
    refine XS.icmpNo X0.here hx rfl (hb hby d65_132_7) rfl (feq hc7).1 ?_
    refine XS.aloadN X0.here hx rfl (hb hby d65_132_10) rfl rfl ?_
    refine XS.iloadN X0.here hx rfl (hb hby d65_132_11) rfl ?_
    refine XS.iloadN X0.here hx rfl (hb hby d65_132_12) rfl ?_
    show SS pP eE bS s₁ (mkF mM 13 #[.val (.ref a1), .val (.int i), .val (.int j)] [(.int j), (.int i), (.ref a1)]) _
    refine st102 _ ?_
    show SS pP eE bS T102 (mkF mM 16 #[.val (.ref a1), .val (.int i), .val (.int j)] [(.ref b_102)]) _
    jvm_step X102.here [X102.here.top, hx, (hb hby d65_132_16), X102.method', Bd.returns, Value.isRef, FieldType.isReference]
    first | (intro acts; rw [hr _ acts rfl rfl rfl]) | rw [hr _ _ rfl rfl rfl]
    exact Steps.refl _
  · show Q_cor Z n us h0 n0 _ T102.heap _
    rw [e102]
    exact ⟨b_102, k2_102, rfl, N102, K103, p102_V_b, (by omega)⟩
theorem rm_cor (l : Launch) (Z : State) (a0 : Array Value) (hw : HW a0 Z) (ws : List Jvm.Cond) (a1 : Addr) (k1 : ClassId) (z : Int32) (vs : List Value) (i : Int32) (j : Int32) (n : Int32) (us : List Value) (h0 : Heap) (n0 : Nat) (Z0 : n0 ≤ h0.size) (V_a1 : Arv Z h0 a1 k1 .byte z vs (.int (0 : Int32))) (hcp : CpR z vs i j n us) :
    MetFree l y17_ (head1 (Jvm.Cond.code y17_ jdk_65_method_132_code 3 (some (.array .byte)) :: ws) r2_1_8_34) (fun xa xU => xa = #[(.ref a1), (.int i), (.int j)] ∧ Z.Warmed39 xU.vm ∧ xU.heap = h0) (fun _ _ _ _ _ => True) (fun _ xU xo xU' => ∃ xv xL, xo = .returned xv ∧ Q_cor Z n us h0 n0 xv xU'.heap xL ∧ FrameEnd xU xo xU' xL r2_1_8_34.cells r2_1_8_34.slots) := by
  obtain ⟨hji, hn, hnn, hn8, hmn, hi0, hin, hus, hor⟩ := hcp
  by_cases hc1 : i = (0 : Int32)
  · exact rm_cor_b l Z a0 hw ws a1 k1 z vs i j n us h0 n0 Z0 V_a1 hji hn hnn hn8 hmn hi0 hin hus hc1 (hor.resolve_left (fun q => q hc1))
  · exact rm_cor_a l Z a0 hw ws a1 k1 z vs i j n us h0 n0 Z0 V_a1 hji hn hnn hn8 hmn hi0 hin hus hc1
abbrev c42_151 := jdk_42_method_151_code
theorem d42_151_0 : decode c42_151 0 = .ok (.aload_n 0, 1) := by decide +kernel
theorem d42_151_1 : decode c42_151 1 = .ok (.invokespecial 1, 3) := by decide +kernel
theorem d42_151_4 : decode c42_151 4 = .ok (.aload_n 0, 1) := by decide +kernel
theorem d42_151_5 : decode c42_151 5 = .ok (.aload_n 1, 1) := by decide +kernel
theorem d42_151_6 : decode c42_151 6 = .ok (.putfield 9, 3) := by decide +kernel
theorem d42_151_9 : decode c42_151 9 = .ok (.aload_n 0, 1) := by decide +kernel
theorem d42_151_10 : decode c42_151 10 = .ok (.iload_n 2, 1) := by decide +kernel
theorem d42_151_11 : decode c42_151 11 = .ok (.putfield 15, 3) := by decide +kernel
theorem d42_151_14 : decode c42_151 14 = .ok (.return_, 1) := by decide +kernel
abbrev r1_0_0_12 : Room := { frames := 1, cells := 0, slots := 0, locals := 12 }
abbrev y18_ : MethodName := ⟨"java/lang/String", "<init>", "([BB)V"⟩
def Q_initBB (Z : State) (o : Addr) (b : Addr) (u1 : Value) (u2 : Value) (co : Int32) (h0 : Heap) (n0 : Nat) (xv : Option Value) (xh : Heap) (xL : List Loc) : Prop := xv = none ∧ Fr n0 xL ∧ Keep h0 xh [o] ∧ Exa Z xh o "java/lang/String" ∧ Fld Z xh o "java/lang/String" "value" "[B" (.ref b) ∧ Fld Z xh o "java/lang/String" "coder" "B" (.int co)
theorem ef_initBB (mM : MethodId) (o : Addr) (b : Addr) (u1 : Value) (u2 : Value) (co : Int32) : entryFrame mM #[(.ref o), (.ref b), (.int co)] 3 = mkF mM 0 #[.val (.ref o), .val (.ref b), .val (.int co)] [] := by
  first | (simp [entryFrame, mkF, argsToLocals, Value.category]; done) | rfl
theorem rm_initBB (l : Launch) (Z : State) (a0 : Array Value) (hw : HW a0 Z) (ws : List Jvm.Cond) (o : Addr) (b : Addr) (u1 : Value) (u2 : Value) (co : Int32) (h0 : Heap) (n0 : Nat) (Z0 : n0 ≤ h0.size) (E_o : Exa Z h0 o "java/lang/String") (F_value_o : Fld Z h0 o "java/lang/String" "value" "[B" u1) (F_coder_o : Fld Z h0 o "java/lang/String" "coder" "B" u2) (g_o : @LE.le Nat _ n0 o) (hcb : co.toInt8.toInt32 = co) :
    MetFree l y18_ (head1 (Jvm.Cond.code y18_ jdk_42_method_151_code 3 none :: ws) r1_0_0_12) (fun xa xU => xa = #[(.ref o), (.ref b), (.int co)] ∧ Z.Warmed39 xU.vm ∧ xU.heap = h0) (fun _ _ _ _ _ => True) (fun _ xU xo xU' => ∃ xv xL, xo = .returned xv ∧ Q_initBB Z o b u1 u2 co h0 n0 xv xU'.heap xL ∧ FrameEnd xU xo xU' xL r1_0_0_12.cells r1_0_0_12.slots) := by
  refine MetFree.of_bodySF (plainFor_of_name pn_java_lang_String) hisR ?_
  intro pP eE sS mM argS bS methS cC s₁ Bd hml0 hP hK
  obtain ⟨rfl, hZ, hh⟩ := hP
  have hx := Bd.exec
  have hby := Bd.bytes
  have hml : cC.maxLocals = 3 := hml0
  have hown : sS.vm.findClass "java/lang/String" = some mM.cls := findClass_of_methodNamed Bd.named
  have hnm := (name_of_methodNamed Bd.named Bd.method).1
  have X0 : Stand pP l eE r1_0_0_12 sS mM #[(.ref o), (.ref b), (.int co)] bS methS cC s₁ [] 0 0 := Stand.of_body Bd
  have e0 : s₁.heap = h0 := by rw [← hh, Bd.state]; rfl
  have N0 := Fr.nil n0
  obtain ⟨T101, X101, e101, st101⟩ := initO X0 hx hZ hown (wi hw 12 rfl) (wi hw 13 rfl) (wi hw 14 rfl) e0 (g := (mkF mM 1 #[.val (.ref o), .val (.ref b), .val (.int co)] [(.ref o)])) rfl (by rw [hml]; rfl) rfl (hb hby d42_151_1) (by decide) (W := 0) (by show 2 * 0 + _ ≤ _; exact Nat.le_of_eq rfl) (by decide)
  obtain ⟨T102, h102, X102, e102, W102, st102⟩ := putF X101 hx hZ hown (host := "") (Or.inl (wi hw 29 rfl)) Via.refl e101 F_value_o E_o (Or.inr ⟨(wi hw 30 rfl), rfl, hnm⟩) (wi hw 3 rfl) (ty := (.array .byte)) (by decide) rfl rfl (g := (mkF mM 6 #[.val (.ref o), .val (.ref b), .val (.int co)] [(.ref b), (.ref o)])) rfl rfl (hb hby d42_151_6)
  have Sz1 : h0.size ≤ h102.size := Nat.le_of_eq (Wr.size W102).symm
  have Fw102 : Fld Z h102 o "java/lang/String" "value" "[B" (.ref b) := Fld.same W102 F_value_o
  have N102 := Fr.snoc X102 N0 g_o
  have c103_F_coder_o : Fld Z h102 o "java/lang/String" "coder" "B" u2 := Fld.other W102 F_coder_o (Or.inr (slot_ne (Or.inr (wi hw 28 rfl)) (Or.inr (wi hw 30 rfl)) (by decide) (t := .byte) (t' := (.array .byte)) (by decide) (by decide)))
  have c104_E_o : Exa Z h102 o "java/lang/String" := Exa.wr W102 E_o
  obtain ⟨T105, h105, X105, e105, W105, st105⟩ := putFN X102 hx hZ hown (wi hw 27 rfl) Via.refl e102 c103_F_coder_o c104_E_o (Or.inr ⟨(wi hw 28 rfl), rfl, hnm⟩) (wi hw 3 rfl) (ty := .byte) (v' := (.int co)) (by decide) (show narrow .byte (.int co) = .int co from congrArg Value.int hcb) (own_fitb hcb) (g := (mkF mM 11 #[.val (.ref o), .val (.ref b), .val (.int co)] [(.int co), (.ref o)])) rfl rfl (hb hby d42_151_11)
  have Sz2 : h102.size ≤ h105.size := Nat.le_of_eq (Wr.size W105).symm
  have Fw105 : Fld Z h105 o "java/lang/String" "coder" "B" (.int co) := Fld.same W105 c103_F_coder_o
  have N105 := Fr.snoc X105 N102 g_o
  have c106_E_o : Exa Z h105 o "java/lang/String" := Exa.wr W105 c104_E_o
  have c107_F_value_o : Fld Z h105 o "java/lang/String" "value" "[B" (.ref b) := Fld.other W105 Fw102 (Or.inr (slot_ne (Or.inr (wi hw 30 rfl)) (Or.inr (wi hw 28 rfl)) (by decide) (t := (.array .byte)) (t' := .byte) (by decide) (by decide)))
  have K108 : Keep h0 h102 [o] := (Keep.refl h0 [o]).wr W102 (Or.inl (List.mem_of_getElem? (i := 0) rfl))
  have K109 : Keep h0 h105 [o] := K108.wr W105 (Or.inl (List.mem_of_getElem? (i := 0) rfl))
  obtain ⟨fs, hr, hrun, hended, hW, hsame⟩ := X105.leave (v := none) (fun _ => rfl)
  refine ⟨_, _, castTop (ef_initBB mM o b u1 u2 co) ?_, hrun, hended, _, _, rfl, ?_, ⟨_, rfl⟩, hW, hsame.mono (by decide) (by decide)⟩
  · show SS pP eE bS s₁ (mkF mM 0 #[.val (.ref o), .val (.ref b), .val (.int co)] []) _
    refine XS.aloadN X0.here hx rfl (hb hby d42_151_0) rfl rfl ?_
    show SS pP eE bS s₁ (mkF mM 1 #[.val (.ref o), .val (.ref b), .val (.int co)] [(.ref o)]) _
    refine st101 _ ?_
    show SS pP eE bS T101 (mkF mM 4 #[.val (.ref o), .val (.ref b), .val (.int co)] []) _
    refine XS.aloadN X101.here hx rfl (hb hby d42_151_4) rfl rfl ?_
    refine XS.aloadN X101.here hx rfl (hb hby d42_151_5) rfl rfl ?_
    show SS pP eE bS T101 (mkF mM 6 #[.val (.ref o), .val (.ref b), .val (.int co)] [(.ref b), (.ref o)]) _
    refine st102 _ ?_
    show SS pP eE bS T102 (mkF mM 9 #[.val (.ref o), .val (.ref b), .val (.int co)] []) _
    refine XS.aloadN X102.here hx rfl (hb hby d42_151_9) rfl rfl ?_
    refine XS.iloadN X102.here hx rfl (hb hby d42_151_10) rfl ?_
    show SS pP eE bS T102 (mkF mM 11 #[.val (.ref o), .val (.ref b), .val (.int co)] [(.int co), (.ref o)]) _
    refine st105 _ ?_
    show SS pP eE bS T105 (mkF mM 14 #[.val (.ref o), .val (.ref b), .val (.int co)] []) _
    exact X105.returnOut hx Bd.returns (hb hby d42_151_14) hr
  · show Q_initBB Z o b u1 u2 co h0 n0 _ T105.heap _
    rw [e105]
    exact ⟨rfl, N105, K109, c106_E_o, c107_F_value_o, Fw105⟩
def Q_ns (Z : State) (c0 : Int32) (c1 : Int32) (c2 : Int32) (c3 : Int32) (st : Int32) (ln : Int32) (h0 : Heap) (n0 : Nat) (xv : Option Value) (xh : Heap) (xL : List Loc) : Prop := ∃ r : Addr, ∃ rb : Addr, ∃ rk : ClassId, ∃ rz : Int32, ∃ rvs : List Value, ∃ rco : Int32, xv = some (.ref r) ∧ Fr n0 xL ∧ Keep h0 xh [] ∧ Exa Z xh r "java/lang/String" ∧ Fld Z xh r "java/lang/String" "value" "[B" (.ref rb) ∧ Fld Z xh r "java/lang/String" "coder" "B" (.int rco) ∧ Arv Z xh rb rk .byte rz rvs (.int (0 : Int32)) ∧ rco.toInt8.toInt32 = rco ∧ StrC rco rz rvs (sub4 st ln c0 c1 c2 c3)
-- MARK nl
abbrev c43_47 := jdk_43_method_47_code
theorem d43_47_0 : decode c43_47 0 = .ok (.iload_n 2, 1) := by decide +kernel
theorem d43_47_1 : decode c43_47 1 = .ok (.ifCond .ne 6, 3) := by decide +kernel
theorem own_wS {Z : State} {a0 : Array Value} (hw : HW a0 Z) : ∀ d ∈ Bundle.stringAtoms, d.before a0 Z = true := by
  intro d hd
  simp only [Bundle.stringAtoms, Bundle.sN, List.mem_cons, List.mem_append, List.not_mem_nil, or_false, false_or, or_assoc] at hd
  rcases hd with rfl | rfl | rfl | rfl | rfl | rfl | rfl
  · exact wi hw 4 rfl
  · exact wi hw 3 rfl
  · exact wi hw 20 rfl
  · exact wi hw 30 rfl
  · exact wi hw 28 rfl
  · exact wi hw 39 rfl
  · exact wi hw 40 rfl
theorem own_EW {Z : State} {a0 : Array Value} (hw : HW a0 Z) : EW Z a0 consts_1 := (EW.cons (wi hw 38 rfl) (by decide) (EW.cons (wi hw 110 rfl) (by decide) (EW.cons (wi hw 146 rfl) (by decide) EW.nil)))
theorem d43_47_4 : decode c43_47 4 = .ok (.ldc 151, 2) := by decide +kernel
theorem own_txt1 : (∀ c ∈ "".toList, c.toNat < 256) ∧ "".toList.map (fun c => Value.int (Jvm.Lit.byteI c.toNat.toUInt16)) = [] := by
  constructor
  · decide
  · first | rfl | decide
theorem d43_47_6 : decode c43_47 6 = .ok (.areturn, 1) := by decide +kernel
theorem d43_47_7 : decode c43_47 7 = .ok (.new 1, 3) := by decide +kernel
theorem d43_47_10 : decode c43_47 10 = .ok (.dup, 1) := by decide +kernel
theorem d43_47_11 : decode c43_47 11 = .ok (.aload_n 0, 1) := by decide +kernel
theorem d43_47_12 : decode c43_47 12 = .ok (.iload_n 1, 1) := by decide +kernel
theorem d43_47_13 : decode c43_47 13 = .ok (.iload_n 1, 1) := by decide +kernel
theorem d43_47_14 : decode c43_47 14 = .ok (.iload_n 2, 1) := by decide +kernel
theorem d43_47_15 : decode c43_47 15 = .ok (.iadd, 1) := by decide +kernel
theorem d43_47_16 : decode c43_47 16 = .ok (.invokestatic 232, 3) := by decide +kernel
theorem d43_47_19 : decode c43_47 19 = .ok (.iconst 0, 1) := by decide +kernel
theorem d43_47_20 : decode c43_47 20 = .ok (.invokespecial 112, 3) := by decide +kernel
theorem pd_26 : parseMethodDescriptor "([BB)V" = some ⟨[(.array .byte), .byte], none⟩ := by decide +kernel
theorem d43_47_23 : decode c43_47 23 = .ok (.areturn, 1) := by decide +kernel
abbrev r3_2_12_50 : Room := { frames := 3, cells := 2, slots := 12, locals := 50 }
abbrev y19_ : MethodName := ⟨"java/lang/StringLatin1", "newString", "([BII)Ljava/lang/String;"⟩
theorem pn_java_lang_StringLatin1 : plainName "java/lang/StringLatin1" = true := by first | (simp [plainName, overriddenIn]; done) | decide +kernel
theorem ef_nl_n (mM : MethodId) (a1 : Addr) (k1 : ClassId) (c0 : Int32) (c1 : Int32) (c2 : Int32) (c3 : Int32) (st : Int32) (ln : Int32) (us : List Value) : entryFrame mM #[(.ref a1), (.int st), (.int ln)] 3 = mkF mM 0 #[.val (.ref a1), .val (.int st), .val (.int ln)] [] := by
  first | (simp [entryFrame, mkF, argsToLocals, Value.category]; done) | rfl
theorem rm_nl_n (l : Launch) (Z : State) (a0 : Array Value) (hw : HW a0 Z) (ws : List Jvm.Cond) (a1 : Addr) (k1 : ClassId) (c0 : Int32) (c1 : Int32) (c2 : Int32) (c3 : Int32) (st : Int32) (ln : Int32) (us : List Value) (h0 : Heap) (n0 : Nat) (Z0 : n0 ≤ h0.size) (V_a1 : Arv Z h0 a1 k1 .byte (4 : Int32) [(.int c0.toInt8.toInt32), (.int c1.toInt8.toInt32), (.int c2.toInt8.toInt32), (.int c3.toInt8.toInt32)] (.int (0 : Int32))) (OL : Old Z n0 h0) (hcp : CpR (4 : Int32) [(.int c0.toInt8.toInt32), (.int c1.toInt8.toInt32), (.int c2.toInt8.toInt32), (.int c3.toInt8.toInt32)] st (st + ln) ln us) (hst : StrC (0 : Int32) ln us (sub4 st ln c0 c1 c2 c3)) (hc1 : ¬ (ln = (0 : Int32))) :
    MetFree l y19_ (head1 (Jvm.Cond.code y19_ jdk_43_method_47_code 3 (some (.object "java/lang/String")) :: ws) r3_2_12_50) (fun xa xU => xa = #[(.ref a1), (.int st), (.int ln)] ∧ Z.Warmed39 xU.vm ∧ xU.heap = h0 ∧ CHv Z consts_1 xU.vm h0 ∧ ∀ x ∈ ([] : List Addr), Safe Z consts_1 xU.vm h0 x) (fun _ _ _ _ _ => True) (fun _ xU xo xU' => ∃ xv xL, xo = .returned xv ∧ Q_ns Z c0 c1 c2 c3 st ln h0 n0 xv xU'.heap xL ∧ CHr Z consts_1 xU.vm xU.heap xU'.vm xU'.heap ∧ ReturnedEndW xU xo xU' xL r3_2_12_50.cells r3_2_12_50.slots) := by
  refine MetFree.of_bodySF (plainFor_of_name pn_java_lang_StringLatin1) hisR ?_
  intro pP eE sS mM argS bS methS cC s₁ Bd hml0 hP hK
  obtain ⟨rfl, hZ, hh, hCH, hSf⟩ := hP
  have hx := Bd.exec
  have hby := Bd.bytes
  have hml : cC.maxLocals = 3 := hml0
  have hown : sS.vm.findClass "java/lang/StringLatin1" = some mM.cls := findClass_of_methodNamed Bd.named
  have hnm := (name_of_methodNamed Bd.named Bd.method).1
  have X0 : Stand pP l eE r3_2_12_50 (sS.setVm sS.vm) mM #[(.ref a1), (.int st), (.int ln)] bS methS cC s₁ [] 0 0 := Stand.of_body Bd
  have e0 : s₁.heap = h0 := by rw [← hh, Bd.state]; rfl
  have N0 := Fr.nil n0
  have hZ0 : Z.Warmed39 (sS.setVm sS.vm).vm := hZ
  have hown0 : (sS.setVm sS.vm).vm.findClass "java/lang/StringLatin1" = some mM.cls := hown
  have hS0 : sS.Since sS.vm 0 := (State.WarmedH.refl sS).since 0
  have CC0 : CHr Z consts_1 sS.vm h0 sS.vm h0 := CHr.refl hCH
  obtain ⟨T101, h101, X101, e101, E101, A101, D101, B101, st101⟩ := newO X0 hx hZ0 hown0 (wi hw 147 rfl) (wi hw 3 rfl) (wi hw 4 rfl) e0 (g := (mkF mM 7 #[.val (.ref a1), .val (.int st), .val (.int ln)] [])) rfl (hb hby d43_47_7) (by decide) (by decide)
  obtain ⟨b101, g101⟩ : ∃ z : Nat, z = h0.size := ⟨_, rfl⟩
  rw [← g101] at A101 D101 B101 st101
  have Sz1 : h0.size ≤ h101.size := E101.1
  have CC1 : CHr Z consts_1 sS.vm h0 sS.vm h101 := CC0.trans (CHr.ext E101 CC0.1)
  have F101_coder : Fld Z h101 b101 "java/lang/String" "coder" "B" (.int (0 : Int32)) := D101 (Or.inr (wi hw 28 rfl)) (ty := .byte) (by decide)
  have F101_value : Fld Z h101 b101 "java/lang/String" "value" "[B" .null := D101 (Or.inr (wi hw 30 rfl)) (ty := (.array .byte)) (by decide)
  have c103_V_a1 : Arv Z h101 a1 k1 .byte (4 : Int32) [(.int c0.toInt8.toInt32), (.int c1.toInt8.toInt32), (.int c2.toInt8.toInt32), (.int c3.toInt8.toInt32)] (.int (0 : Int32)) := V_a1.ext E101
  obtain ⟨_, _, ⟨T102, L102, k102, n102⟩, -, X102, ⟨Lc102, hQ102, l102, y102, z102⟩, st102⟩ := Jvm.LawKit.callS X101 hx (y := y17_) hown0 (mvT hZ0 (wi hw 148 rfl)) (mvT hZ0 (wi hw 149 rfl)) (mvT hZ0 (wi hw 150 rfl)) (mvT hZ0 (wi hw 151 rfl)) (by decide) (backOf (W := 2) (rm_cor l Z a0 hw [] a1 k1 (4 : Int32) _ st (st + ln) ln us h101 n0 (by omega) c103_V_a1 hcp) hZ0 (wi hw 151 rfl) (wi hw 150 rfl) (by decide) (by decide)) (g := (mkF mM 16 #[.val (.ref a1), .val (.int st), .val (.int ln)] [(.int (st + ln)), (.int st), (.ref a1), (.ref b101), (.ref b101)])) rfl (by rw [hml]; rfl) (argsL := [(.ref a1), (.int st), (.int (st + ln))]) (rest := [(.ref b101), (.ref b101)]) (lenOf pd_22 rfl) rfl (by show 2 * 0 + _ ≤ _; exact Nat.le_of_eq rfl) (hb hby d43_47_16) (fun _ _ => ⟨rfl, e101, ble rfl, ble rfl⟩)
  dsimp only [Pt.U, Pt.locs, Pt.cells, Pt.slots] at X102 l102 y102 z102 st102 hQ102
  subst y102 z102
  obtain ⟨h102, e102⟩ : ∃ z, T102.heap = z := ⟨_, rfl⟩
  rw [e102] at hQ102
  obtain ⟨b_102, k2_102, rfl, N102q, Kp102, p102_V_b, p102_gh_b⟩ := hQ102
  have Sz2 : h101.size ≤ h102.size := Kp102.1
  have CC2 : CHr Z consts_1 sS.vm h0 sS.vm h102 := CC1.trans (CHr.keep Kp102 sf0 CC1.1)
  have N102 : Fr n0 L102 := by rw [l102]; exact Fr.app N0 N102q
  have c105_E_b101 : Exa Z h102 b101 "java/lang/String" := A101.keep Kp102
  have c106_F_value_b101 : Fld Z h102 b101 "java/lang/String" "value" "[B" .null := F101_value.keep Kp102 nin0
  have c107_F_coder_b101 : Fld Z h102 b101 "java/lang/String" "coder" "B" (.int (0 : Int32)) := F101_coder.keep Kp102 nin0
  have ge108_b101 : @LE.le Nat _ n0 b101 := by omega
  obtain ⟨_, _, ⟨T104, L104, k104, n104⟩, -, X104, ⟨Lc104, hQ104, l104, y104, z104⟩, st104⟩ := X102.specialBack hx (y := y18_) rfl hown0 (mvT hZ0 (wi hw 166 rfl)) (mvT hZ0 (wi hw 167 rfl)) (mvT hZ0 (wi hw 168 rfl)) (by decide) (backOf (W := 1) (rm_initBB l Z a0 hw [] b101 b_102 .null (.int (0 : Int32)) (0 : Int32) h102 n0 (by omega) c105_E_b101 c106_F_value_b101 c107_F_coder_b101 ge108_b101 (by decide)) hZ0 (wi hw 168 rfl) (wi hw 4 rfl) (by decide) (by decide)) (g := (mkF mM 20 #[.val (.ref a1), .val (.int st), .val (.int ln)] [(.int (0 : Int32)), (.ref b_102), (.ref b101), (.ref b101)])) rfl (by rw [hml]; rfl) (Steps.refl _) (a := b101) (argsL := [(.ref b_102), (.int (0 : Int32))]) (rest := [(.ref b101)]) (lenOf pd_26 rfl) rfl (by show 2 * 0 + _ ≤ _; exact Nat.le_of_eq rfl) (hb hby d43_47_20) (fun _ _ => ⟨rfl, e102, ble rfl, ble rfl⟩)
  dsimp only [Pt.U, Pt.locs, Pt.cells, Pt.slots] at X104 l104 y104 z104 st104 hQ104
  subst y104 z104
  obtain ⟨h104, e104⟩ : ∃ z, T104.heap = z := ⟨_, rfl⟩
  rw [e104] at hQ104
  obtain ⟨rfl, N104q, Kp104, p104_E_o, p104_F_value_o, p104_F_coder_o⟩ := hQ104
  have Sz3 : h102.size ≤ h104.size := Kp104.1
  have sf109_b101 : Safe Z consts_1 sS.vm h0 b101 := Safe.new (by omega)
  have sf110_b101 : Safe Z consts_1 sS.vm h101 b101 := Safe.ext E101 CC0.1 sf109_b101
  have sf111_b101 : Safe Z consts_1 sS.vm h102 b101 := Safe.keep Kp102 sf0 CC1.1 sf110_b101
  have CC3 : CHr Z consts_1 sS.vm h0 sS.vm h104 := CC2.trans (CHr.keep Kp104 (sfS sf111_b101 sf0) CC2.1)
  have N104 : Fr n0 L104 := by rw [l104]; exact Fr.app N102 N104q
  have lt_b_102 : @LT.lt Nat _ b_102 h102.size := p102_V_b.lt
  have lt_b101 : @LT.lt Nat _ b101 h101.size := A101.lt
  have ne_b_102_b101_112 : b_102 ≠ b101 := (by omega : @Ne Nat b_102 b101)
  have c113_V_b_102 : Arv Z h104 b_102 k2_102 .byte ln us (.int (0 : Int32)) := p102_V_b.keep Kp104 (ninS ne_b_102_b101_112 nin0)
  have K114 : Keep h0 h101 [] := (Keep.refl h0 []).ext E101
  have K115 : Keep h0 h102 [] := K114.trans Kp102 all0
  have K116 : Keep h0 h104 [] := K115.trans Kp104 (allS (Or.inr (by omega : @LE.le Nat _ h0.size b101)) all0)
  obtain ⟨fs, hr, hrun, hended, hE⟩ := Stand.leaveW (s := sS) X104 hS0 (by rw [e104]; omega) (v := some (.ref b101)) (fun h => by rw [Bd.returns] at h; cases h)
  refine ⟨_, _, castTop (ef_nl_n mM a1 k1 c0 c1 c2 c3 st ln us) ?_, hrun, hended, _, _, rfl, ?_, ?_, hE.1, hE.2.1, hE.2.2.1, hE.2.2.2.mono (by decide) (by decide)⟩
  · show SS pP eE bS s₁ (mkF mM 0 #[.val (.ref a1), .val (.int st), .val (.int ln)] []) _
    refine XS.iloadN X0.here hx rfl (hb hby d43_47_0) rfl ?_
    refine XS.ifYes X0.here hx rfl (pc0 := 1) (pc' := 7) rfl (hb hby d43_47_1) rfl ((if0 _ _).trans (feq hc1).2) (by decide) (by decide) ?_
    show SS pP eE bS s₁ (mkF mM 7 #[.val (.ref a1), .val (.int st), .val (.int ln)] []) _
    refine st101 _ ?_
    show SS pP eE bS T101 (mkF mM 10 #[.val (.ref a1), .val (.int st), .val (.int ln)] [(.ref b101)]) _
    refine XS.dup X101.here hx rfl (hb hby d43_47_10) rfl rfl ?_
    refine XS.aloadN X101.here hx rfl (hb hby d43_47_11) rfl rfl ?_
    refine XS.iloadN X101.here hx rfl (hb hby d43_47_12) rfl ?_
    refine XS.iloadN X101.here hx rfl (hb hby d43_47_13) rfl ?_
    show SS pP eE bS T101 (mkF mM 14 #[.val (.ref a1), .val (.int st), .val (.int ln)] [(.int st), (.int st), (.ref a1), (.ref b101), (.ref b101)]) _
    refine XS.iloadN X101.here hx rfl (hb hby d43_47_14) rfl ?_
    refine XS.iadd X101.here hx rfl (hb hby d43_47_15) rfl ?_
    show SS pP eE bS T101 (mkF mM 16 #[.val (.ref a1), .val (.int st), .val (.int ln)] [(.int (st + ln)), (.int st), (.ref a1), (.ref b101), (.ref b101)]) _
    refine st102 _ ?_
    show SS pP eE bS T102 (mkF mM 19 #[.val (.ref a1), .val (.int st), .val (.int ln)] [(.ref b_102), (.ref b101), (.ref b101)]) _
    refine XS.iconst X102.here hx rfl (hb hby d43_47_19) ?_
    show SS pP eE bS T102 (mkF mM 20 #[.val (.ref a1), .val (.int st), .val (.int ln)] [(.int (0 : Int32)), (.ref b_102), (.ref b101), (.ref b101)]) _
    refine st104.trans ?_
    show SS pP eE bS T104 (mkF mM 23 #[.val (.ref a1), .val (.int st), .val (.int ln)] [(.ref b101)]) _
    jvm_step X104.here [X104.here.top, hx, (hb hby d43_47_23), X104.method', Bd.returns, Value.isRef, FieldType.isReference]
    first | (intro acts; rw [hr _ acts rfl rfl rfl]) | rw [hr _ _ rfl rfl rfl]
    exact Steps.refl _
  · show Q_ns Z c0 c1 c2 c3 st ln h0 n0 _ T104.heap _
    rw [e104]
    exact ⟨b101, b_102, k2_102, ln, us, (0 : Int32), rfl, N104, K116, p104_E_o, p104_F_value_o, p104_F_coder_o, c113_V_b_102, (by decide), (hst)⟩
  · show CHr Z consts_1 sS.vm sS.heap T104.vm T104.heap
    rw [hh, e104]
    exact CC3.trans (CHv.at X104 hZ0 (own_EW hw) CC3.1)
theorem ef_nl_z (mM : MethodId) (a1 : Addr) (k1 : ClassId) (c0 : Int32) (c1 : Int32) (c2 : Int32) (c3 : Int32) (st : Int32) : entryFrame mM #[(.ref a1), (.int st), (.int (0 : Int32))] 3 = mkF mM 0 #[.val (.ref a1), .val (.int st), .val (.int (0 : Int32))] [] := by
  first | (simp [entryFrame, mkF, argsToLocals, Value.category]; done) | rfl
theorem rm_nl_z (l : Launch) (Z : State) (a0 : Array Value) (hw : HW a0 Z) (ws : List Jvm.Cond) (a1 : Addr) (k1 : ClassId) (c0 : Int32) (c1 : Int32) (c2 : Int32) (c3 : Int32) (st : Int32) (h0 : Heap) (n0 : Nat) (Z0 : n0 ≤ h0.size) (V_a1 : Arv Z h0 a1 k1 .byte (4 : Int32) [(.int c0.toInt8.toInt32), (.int c1.toInt8.toInt32), (.int c2.toInt8.toInt32), (.int c3.toInt8.toInt32)] (.int (0 : Int32))) :
    MetFree l y19_ (head1 (Jvm.Cond.code y19_ jdk_43_method_47_code 3 (some (.object "java/lang/String")) :: ws) r3_2_12_50) (fun xa xU => xa = #[(.ref a1), (.int st), (.int (0 : Int32))] ∧ Z.Warmed39 xU.vm ∧ xU.heap = h0 ∧ CHv Z consts_1 xU.vm h0 ∧ ∀ x ∈ ([] : List Addr), Safe Z consts_1 xU.vm h0 x) (fun _ _ _ _ _ => True) (fun _ xU xo xU' => ∃ xv xL, xo = .returned xv ∧ Q_ns Z c0 c1 c2 c3 st (0 : Int32) h0 n0 xv xU'.heap xL ∧ CHr Z consts_1 xU.vm xU.heap xU'.vm xU'.heap ∧ ReturnedEndW xU xo xU' xL r3_2_12_50.cells r3_2_12_50.slots) := by
  refine MetFree.of_bodySF (plainFor_of_name pn_java_lang_StringLatin1) hisR ?_
  intro pP eE sS mM argS bS methS cC s₁ Bd hml0 hP hK
  obtain ⟨rfl, hZ, hh, hCH, hSf⟩ := hP
  have hx := Bd.exec
  have hby := Bd.bytes
  have hml : cC.maxLocals = 3 := hml0
  have hown : sS.vm.findClass "java/lang/StringLatin1" = some mM.cls := findClass_of_methodNamed Bd.named
  have hnm := (name_of_methodNamed Bd.named Bd.method).1
  have X0 : Stand pP l eE r3_2_12_50 (sS.setVm sS.vm) mM #[(.ref a1), (.int st), (.int (0 : Int32))] bS methS cC s₁ [] 0 0 := Stand.of_body Bd
  have e0 : s₁.heap = h0 := by rw [← hh, Bd.state]; rfl
  have N0 := Fr.nil n0
  have hZ0 : Z.Warmed39 (sS.setVm sS.vm).vm := hZ
  have hown0 : (sS.setVm sS.vm).vm.findClass "java/lang/StringLatin1" = some mM.cls := hown
  have hS0 : sS.Since sS.vm 0 := (State.WarmedH.refl sS).since 0
  have CC0 : CHr Z consts_1 sS.vm h0 sS.vm h0 := CHr.refl hCH
  obtain ⟨b101, T101, h101, kk101, d101, q101, X101, e101, E101, hS101, hk101, hZ101, hown101, A101, Fc101, Fv101, V101, ltb101, ltd101, Ch101, -, hne101, st101⟩ := ldcCH X0 hx hZ0 hown0 (wi hw 110 rfl) (own_wS hw) e0 hS0 (by omega) (own_EW hw) (List.mem_of_getElem? (i := 1) rfl) CC0.1 (vs := []) (z := (0 : Int32)) (own_txt1) (by decide) (by rfl) (g := (mkF mM 4 #[.val (.ref a1), .val (.int st), .val (.int (0 : Int32))] [])) rfl (hb hby d43_47_4) (n := 0) (by decide) (by decide) (by decide) (by decide)
  have Sz1 : h0.size ≤ h101.size := E101.1
  have CC1 : CHr Z consts_1 sS.vm h0 T101.vm h101 := CC0.trans Ch101
  have K102 : Keep h0 h101 [] := (Keep.refl h0 []).ext E101
  obtain ⟨fs, hr, hrun, hended, hE⟩ := Stand.leaveW (s := sS) X101 hS101 (by rw [e101]; omega) (v := some (.ref b101)) (fun h => by rw [Bd.returns] at h; cases h)
  refine ⟨_, _, castTop (ef_nl_z mM a1 k1 c0 c1 c2 c3 st) ?_, hrun, hended, _, _, rfl, ?_, ?_, hE.1, hE.2.1, hE.2.2.1, hE.2.2.2.mono (by decide) (by decide)⟩
  · show SS pP eE bS s₁ (mkF mM 0 #[.val (.ref a1), .val (.int st), .val (.int (0 : Int32))] []) _
    refine XS.iloadN X0.here hx rfl (hb hby d43_47_0) rfl ?_
    refine XS.ifNo X0.here hx rfl (hb hby d43_47_1) rfl ((if0 _ _).trans (teq (by decide : (0 : Int32) = (0 : Int32))).2) ?_
    show SS pP eE bS s₁ (mkF mM 4 #[.val (.ref a1), .val (.int st), .val (.int (0 : Int32))] []) _
    refine st101 _ ?_
    show SS pP eE bS T101 (mkF mM 6 #[.val (.ref a1), .val (.int st), .val (.int (0 : Int32))] [(.ref b101)]) _
    jvm_step X101.here [X101.here.top, hx, (hb hby d43_47_6), X101.method', Bd.returns, Value.isRef, FieldType.isReference]
    first | (intro acts; rw [hr _ acts rfl rfl rfl]) | rw [hr _ _ rfl rfl rfl]
    exact Steps.refl _
  · show Q_ns Z c0 c1 c2 c3 st (0 : Int32) h0 n0 _ T101.heap _
    rw [e101]
    exact ⟨b101, d101, q101, (0 : Int32), [], (0 : Int32), rfl, N0, K102, A101, Fv101, Fc101, V101, (by decide), (own_emp)⟩
  · show CHr Z consts_1 sS.vm sS.heap T101.vm T101.heap
    rw [hh, e101]
    exact CC1.trans (CHv.at X101 hZ101 (own_EW hw) CC1.1)
theorem rm_nl (l : Launch) (Z : State) (a0 : Array Value) (hw : HW a0 Z) (ws : List Jvm.Cond) (a1 : Addr) (k1 : ClassId) (c0 : Int32) (c1 : Int32) (c2 : Int32) (c3 : Int32) (st : Int32) (ln : Int32) (h0 : Heap) (n0 : Nat) (Z0 : n0 ≤ h0.size) (V_a1 : Arv Z h0 a1 k1 .byte (4 : Int32) [(.int c0.toInt8.toInt32), (.int c1.toInt8.toInt32), (.int c2.toInt8.toInt32), (.int c3.toInt8.toInt32)] (.int (0 : Int32))) (OL : Old Z n0 h0) (l0 : (c0.toInt8.toInt32 &&& (255 : Int32)) = c0) (l1 : (c1.toInt8.toInt32 &&& (255 : Int32)) = c1) (l2 : (c2.toInt8.toInt32 &&& (255 : Int32)) = c2) (l3 : (c3.toInt8.toInt32 &&& (255 : Int32)) = c3) (hm : Cmb1 st ln) :
    MetFree l y19_ (head1 (Jvm.Cond.code y19_ jdk_43_method_47_code 3 (some (.object "java/lang/String")) :: ws) r3_2_12_50) (fun xa xU => xa = #[(.ref a1), (.int st), (.int ln)] ∧ Z.Warmed39 xU.vm ∧ xU.heap = h0 ∧ CHv Z consts_1 xU.vm h0 ∧ ∀ x ∈ ([] : List Addr), Safe Z consts_1 xU.vm h0 x) (fun _ _ _ _ _ => True) (fun _ xU xo xU' => ∃ xv xL, xo = .returned xv ∧ Q_ns Z c0 c1 c2 c3 st ln h0 n0 xv xU'.heap xL ∧ CHr Z consts_1 xU.vm xU.heap xU'.vm xU'.heap ∧ ReturnedEndW xU xo xU' xL r3_2_12_50.cells r3_2_12_50.slots) := by
  rcases hm with ⟨rfl, rfl⟩ | ⟨rfl, rfl⟩ | ⟨rfl, rfl⟩ | ⟨rfl, rfl⟩ | ⟨rfl, rfl⟩ | ⟨rfl, rfl⟩ | ⟨rfl, rfl⟩ | ⟨rfl, rfl⟩ | ⟨rfl, rfl⟩ | ⟨rfl, rfl⟩ | ⟨rfl, rfl⟩ | ⟨rfl, rfl⟩ | ⟨rfl, rfl⟩ | ⟨rfl, rfl⟩
  · exact rm_nl_z l Z a0 hw ws a1 k1 c0 c1 c2 c3 (0 : Int32) h0 n0 Z0 V_a1
  · exact rm_nl_z l Z a0 hw ws a1 k1 c0 c1 c2 c3 (1 : Int32) h0 n0 Z0 V_a1
  · exact rm_nl_z l Z a0 hw ws a1 k1 c0 c1 c2 c3 (2 : Int32) h0 n0 Z0 V_a1
  · exact rm_nl_z l Z a0 hw ws a1 k1 c0 c1 c2 c3 (3 : Int32) h0 n0 Z0 V_a1
  · exact rm_nl_z l Z a0 hw ws a1 k1 c0 c1 c2 c3 (4 : Int32) h0 n0 Z0 V_a1
  · exact rm_nl_n l Z a0 hw ws a1 k1 c0 c1 c2 c3 (0 : Int32) (1 : Int32) [(.int c0.toInt8.toInt32)] h0 n0 Z0 V_a1 OL (⟨by decide, by decide, by decide, by decide, by decide, by decide, by decide, rfl, by decide⟩) (Or.inl ⟨rfl, rfl, rfl, l0, trivial⟩) (by decide)
  · exact rm_nl_n l Z a0 hw ws a1 k1 c0 c1 c2 c3 (0 : Int32) (2 : Int32) [(.int c0.toInt8.toInt32), (.int c1.toInt8.toInt32)] h0 n0 Z0 V_a1 OL (⟨by decide, by decide, by decide, by decide, by decide, by decide, by decide, rfl, by decide⟩) (Or.inl ⟨rfl, rfl, rfl, l0, l1, trivial⟩) (by decide)
  · exact rm_nl_n l Z a0 hw ws a1 k1 c0 c1 c2 c3 (0 : Int32) (3 : Int32) [(.int c0.toInt8.toInt32), (.int c1.toInt8.toInt32), (.int c2.toInt8.toInt32)] h0 n0 Z0 V_a1 OL (⟨by decide, by decide, by decide, by decide, by decide, by decide, by decide, rfl, by decide⟩) (Or.inl ⟨rfl, rfl, rfl, l0, l1, l2, trivial⟩) (by decide)
  · exact rm_nl_n l Z a0 hw ws a1 k1 c0 c1 c2 c3 (1 : Int32) (1 : Int32) [(.int c1.toInt8.toInt32)] h0 n0 Z0 V_a1 OL (⟨by decide, by decide, by decide, by decide, by decide, by decide, by decide, rfl, by decide⟩) (Or.inl ⟨rfl, rfl, rfl, l1, trivial⟩) (by decide)
  · exact rm_nl_n l Z a0 hw ws a1 k1 c0 c1 c2 c3 (1 : Int32) (2 : Int32) [(.int c1.toInt8.toInt32), (.int c2.toInt8.toInt32)] h0 n0 Z0 V_a1 OL (⟨by decide, by decide, by decide, by decide, by decide, by decide, by decide, rfl, by decide⟩) (Or.inl ⟨rfl, rfl, rfl, l1, l2, trivial⟩) (by decide)
  · exact rm_nl_n l Z a0 hw ws a1 k1 c0 c1 c2 c3 (1 : Int32) (3 : Int32) [(.int c1.toInt8.toInt32), (.int c2.toInt8.toInt32), (.int c3.toInt8.toInt32)] h0 n0 Z0 V_a1 OL (⟨by decide, by decide, by decide, by decide, by decide, by decide, by decide, rfl, by decide⟩) (Or.inl ⟨rfl, rfl, rfl, l1, l2, l3, trivial⟩) (by decide)
  · exact rm_nl_n l Z a0 hw ws a1 k1 c0 c1 c2 c3 (2 : Int32) (1 : Int32) [(.int c2.toInt8.toInt32)] h0 n0 Z0 V_a1 OL (⟨by decide, by decide, by decide, by decide, by decide, by decide, by decide, rfl, by decide⟩) (Or.inl ⟨rfl, rfl, rfl, l2, trivial⟩) (by decide)
  · exact rm_nl_n l Z a0 hw ws a1 k1 c0 c1 c2 c3 (2 : Int32) (2 : Int32) [(.int c2.toInt8.toInt32), (.int c3.toInt8.toInt32)] h0 n0 Z0 V_a1 OL (⟨by decide, by decide, by decide, by decide, by decide, by decide, by decide, rfl, by decide⟩) (Or.inl ⟨rfl, rfl, rfl, l2, l3, trivial⟩) (by decide)
  · exact rm_nl_n l Z a0 hw ws a1 k1 c0 c1 c2 c3 (3 : Int32) (1 : Int32) [(.int c3.toInt8.toInt32)] h0 n0 Z0 V_a1 OL (⟨by decide, by decide, by decide, by decide, by decide, by decide, by decide, rfl, by decide⟩) (Or.inl ⟨rfl, rfl, rfl, l3, trivial⟩) (by decide)
-- MARK nu
abbrev c41_13 := jdk_41_method_13_code
theorem d41_13_0 : decode c41_13 0 = .ok (.iload_n 2, 1) := by decide +kernel
theorem d41_13_1 : decode c41_13 1 = .ok (.iload_n 0, 1) := by decide +kernel
theorem d41_13_2 : decode c41_13 2 = .ok (.ior, 1) := by decide +kernel
theorem d41_13_3 : decode c41_13 3 = .ok (.iload_n 1, 1) := by decide +kernel
theorem d41_13_4 : decode c41_13 4 = .ok (.ior, 1) := by decide +kernel
theorem d41_13_5 : decode c41_13 5 = .ok (.ifCond .lt 10, 3) := by decide +kernel
theorem d41_13_8 : decode c41_13 8 = .ok (.iload_n 1, 1) := by decide +kernel
theorem d41_13_9 : decode c41_13 9 = .ok (.iload_n 2, 1) := by decide +kernel
theorem d41_13_10 : decode c41_13 10 = .ok (.iload_n 0, 1) := by decide +kernel
theorem d41_13_11 : decode c41_13 11 = .ok (.isub, 1) := by decide +kernel
theorem d41_13_12 : decode c41_13 12 = .ok (.if_icmp .le 11, 3) := by decide +kernel
theorem d41_13_23 : decode c41_13 23 = .ok (.iload_n 0, 1) := by decide +kernel
theorem d41_13_24 : decode c41_13 24 = .ok (.ireturn, 1) := by decide +kernel
abbrev y20_ : MethodName := ⟨"jdk/internal/util/Preconditions", "checkFromIndexSize", "(IIILjava/util/function/BiFunction;)I"⟩
theorem pn_jdk_internal_util_Preconditions : plainName "jdk/internal/util/Preconditions" = true := by first | (simp [plainName, overriddenIn]; done) | decide +kernel
def Q_pfis (Z : State) (i : Int32) (j : Int32) (n : Int32) (fo : Value) (h0 : Heap) (n0 : Nat) (xv : Option Value) (xh : Heap) (xL : List Loc) : Prop := xv = some (.int i) ∧ Fr n0 xL ∧ xh = h0
theorem ef_pfis (mM : MethodId) (i : Int32) (j : Int32) (n : Int32) (fo : Value) (hr_fo : (fo).isRef = true) : entryFrame mM #[(.int i), (.int j), (.int n), fo] 4 = mkF mM 0 #[.val (.int i), .val (.int j), .val (.int n), .val fo] [] := by
  cases fo <;> first | (exact Bool.noConfusion (show false = true from hr_fo)) | skip
  all_goals first | (simp [entryFrame, mkF, argsToLocals, Value.category]; done) | rfl
theorem rm_pfis (l : Launch) (Z : State) (a0 : Array Value) (hw : HW a0 Z) (ws : List Jvm.Cond) (i : Int32) (j : Int32) (n : Int32) (fo : Value) (h0 : Heap) (n0 : Nat) (Z0 : n0 ≤ h0.size) (hfo : (fo).isRef = true) (hA : ¬ (((n ||| i) ||| j) < (0 : Int32))) (hB : ¬ ((n - i) < j)) :
    MetFree l y20_ (head1 (Jvm.Cond.code y20_ jdk_41_method_13_code 4 (some .int) :: ws) r0_0_0_0) (fun xa xU => xa = #[(.int i), (.int j), (.int n), fo] ∧ Z.Warmed39 xU.vm ∧ xU.heap = h0) (fun _ _ _ _ _ => True) (fun _ xU xo xU' => ∃ xv xL, xo = .returned xv ∧ Q_pfis Z i j n fo h0 n0 xv xU'.heap xL ∧ FrameEnd xU xo xU' xL r0_0_0_0.cells r0_0_0_0.slots) := by
  refine MetFree.of_bodySF (plainFor_of_name pn_jdk_internal_util_Preconditions) hisR ?_
  intro pP eE sS mM argS bS methS cC s₁ Bd hml0 hP hK
  obtain ⟨rfl, hZ, hh⟩ := hP
  have hx := Bd.exec
  have hby := Bd.bytes
  have hml : cC.maxLocals = 4 := hml0
  have hown : sS.vm.findClass "jdk/internal/util/Preconditions" = some mM.cls := findClass_of_methodNamed Bd.named
  have hnm := (name_of_methodNamed Bd.named Bd.method).1
  have X0 : Stand pP l eE r0_0_0_0 sS mM #[(.int i), (.int j), (.int n), fo] bS methS cC s₁ [] 0 0 := Stand.of_body Bd
  have e0 : s₁.heap = h0 := by rw [← hh, Bd.state]; rfl
  have N0 := Fr.nil n0
  obtain ⟨fs, hr, hrun, hended, hW, hsame⟩ := X0.leave (v := some (.int i)) (fun h => by rw [Bd.returns] at h; cases h)
  refine ⟨_, _, castTop (ef_pfis mM i j n fo hfo) ?_, hrun, hended, _, _, rfl, ?_, ⟨_, rfl⟩, hW, hsame.mono (by decide) (by decide)⟩
  · show SS pP eE bS s₁ (mkF mM 0 #[.val (.int i), .val (.int j), .val (.int n), .val fo] []) _
    refine XS.iloadN X0.here hx rfl (hb hby d41_13_0) rfl ?_
    refine XS.iloadN X0.here hx rfl (hb hby d41_13_1) rfl ?_
    refine XS.ior X0.here hx rfl (hb hby d41_13_2) rfl ?_
    refine XS.iloadN X0.here hx rfl (hb hby d41_13_3) rfl ?_
    show SS pP eE bS s₁ (mkF mM 4 #[.val (.int i), .val (.int j), .val (.int n), .val fo] [(.int j), (.int (n ||| i))]) _
    refine XS.ior X0.here hx rfl (hb hby d41_13_4) rfl ?_
    refine XS.ifNo X0.here hx rfl (hb hby d41_13_5) rfl ((if0 _ _).trans (flt hA).1) ?_
    refine XS.iloadN X0.here hx rfl (hb hby d41_13_8) rfl ?_
    refine XS.iloadN X0.here hx rfl (hb hby d41_13_9) rfl ?_
    show SS pP eE bS s₁ (mkF mM 10 #[.val (.int i), .val (.int j), .val (.int n), .val fo] [(.int n), (.int j)]) _
    refine XS.iloadN X0.here hx rfl (hb hby d41_13_10) rfl ?_
    refine XS.isub X0.here hx rfl (hb hby d41_13_11) rfl ?_
    refine XS.icmpYes X0.here hx rfl (pc0 := 12) (pc' := 23) rfl (hb hby d41_13_12) rfl (flt hB).2.2.2 (by decide) (by decide) ?_
    refine XS.iloadN X0.here hx rfl (hb hby d41_13_23) rfl ?_
    show SS pP eE bS s₁ (mkF mM 24 #[.val (.int i), .val (.int j), .val (.int n), .val fo] [(.int i)]) _
    exact retI X0 hx Bd.returns (hb hby d41_13_24) hr
  · show Q_pfis Z i j n fo h0 n0 _ s₁.heap _
    rw [e0]
    exact ⟨rfl, N0, rfl⟩
abbrev c42_157 := jdk_42_method_157_code
theorem d42_157_0 : decode c42_157 0 = .ok (.iload_n 0, 1) := by decide +kernel
theorem d42_157_1 : decode c42_157 1 = .ok (.iload_n 1, 1) := by decide +kernel
theorem d42_157_2 : decode c42_157 2 = .ok (.iload_n 2, 1) := by decide +kernel
theorem d42_157_3 : decode c42_157 3 = .ok (.getstatic 1053, 3) := by decide +kernel
theorem d42_157_6 : decode c42_157 6 = .ok (.invokestatic 1065, 3) := by decide +kernel
theorem pd_14 : parseMethodDescriptor "(IIILjava/util/function/BiFunction;)I" = some ⟨[.int, .int, .int, (.object "java/util/function/BiFunction")], some .int⟩ := by decide +kernel
theorem d42_157_9 : decode c42_157 9 = .ok (.ireturn, 1) := by decide +kernel
abbrev r1_0_0_15 : Room := { frames := 1, cells := 0, slots := 0, locals := 15 }
abbrev y21_ : MethodName := ⟨"java/lang/String", "checkBoundsOffCount", "(III)I"⟩
def Q_scbo (Z : State) (i : Int32) (j : Int32) (n : Int32) (fo : Value) (h0 : Heap) (n0 : Nat) (xv : Option Value) (xh : Heap) (xL : List Loc) : Prop := xv = some (.int i) ∧ Fr n0 xL ∧ xh = h0
theorem ef_scbo (mM : MethodId) (i : Int32) (j : Int32) (n : Int32) (fo : Value) : entryFrame mM #[(.int i), (.int j), (.int n)] 3 = mkF mM 0 #[.val (.int i), .val (.int j), .val (.int n)] [] := by
  first | (simp [entryFrame, mkF, argsToLocals, Value.category]; done) | rfl
theorem rm_scbo (l : Launch) (Z : State) (a0 : Array Value) (hw : HW a0 Z) (ws : List Jvm.Cond) (i : Int32) (j : Int32) (n : Int32) (fo : Value) (h0 : Heap) (n0 : Nat) (Z0 : n0 ≤ h0.size) (hfo : (fo).isRef = true) (hA : ¬ (((n ||| i) ||| j) < (0 : Int32))) (hB : ¬ ((n - i) < j)) (OL : Old Z n0 h0) (S_SIOOBE_FORMATTER : Sta Z Z.heap "jdk/internal/util/Preconditions" "SIOOBE_FORMATTER" "Ljava/util/function/BiFunction;" fo) :
    MetFree l y21_ (head1 (Jvm.Cond.code y21_ jdk_42_method_157_code 3 (some .int) :: ws) r1_0_0_15) (fun xa xU => xa = #[(.int i), (.int j), (.int n)] ∧ Z.Warmed39 xU.vm ∧ xU.heap = h0) (fun _ _ _ _ _ => True) (fun _ xU xo xU' => ∃ xv xL, xo = .returned xv ∧ Q_scbo Z i j n fo h0 n0 xv xU'.heap xL ∧ FrameEnd xU xo xU' xL r1_0_0_15.cells r1_0_0_15.slots) := by
  refine MetFree.of_bodySF (plainFor_of_name pn_java_lang_String) hisR ?_
  intro pP eE sS mM argS bS methS cC s₁ Bd hml0 hP hK
  obtain ⟨rfl, hZ, hh⟩ := hP
  have hx := Bd.exec
  have hby := Bd.bytes
  have hml : cC.maxLocals = 3 := hml0
  have hown : sS.vm.findClass "java/lang/String" = some mM.cls := findClass_of_methodNamed Bd.named
  have hnm := (name_of_methodNamed Bd.named Bd.method).1
  have X0 : Stand pP l eE r1_0_0_15 sS mM #[(.int i), (.int j), (.int n)] bS methS cC s₁ [] 0 0 := Stand.of_body Bd
  have e0 : s₁.heap = h0 := by rw [← hh, Bd.state]; rfl
  have N0 := Fr.nil n0
  have c101_S_SIOOBE_FORMATTER : Sta Z h0 "jdk/internal/util/Preconditions" "SIOOBE_FORMATTER" "Ljava/util/function/BiFunction;" fo := Sta.ext OL.2 S_SIOOBE_FORMATTER
  obtain ⟨T102, X102, e102, st102⟩ := getS2 X0 hx hZ hown (host := "") (Or.inl (wi hw 96 rfl)) Via.refl e0 c101_S_SIOOBE_FORMATTER (g := (mkF mM 3 #[.val (.int i), .val (.int j), .val (.int n)] [(.int n), (.int j), (.int i)])) rfl (hb hby d42_157_3)
  obtain ⟨_, _, ⟨T103, L103, k103, n103⟩, -, X103, ⟨Lc103, hQ103, l103, y103, z103⟩, st103⟩ := Jvm.LawKit.callS X102 hx (y := y20_) hown (mvT hZ (wi hw 199 rfl)) (mvT hZ (wi hw 200 rfl)) (mvT hZ (wi hw 97 rfl)) (mvT hZ (wi hw 201 rfl)) (by decide) (backOf (W := 0) (rm_pfis l Z a0 hw [] i j n fo h0 n0 (by omega) hfo hA hB) hZ (wi hw 201 rfl) (wi hw 97 rfl) (by decide) (by decide)) (g := (mkF mM 6 #[.val (.int i), .val (.int j), .val (.int n)] [fo, (.int n), (.int j), (.int i)])) rfl (by rw [hml]; rfl) (argsL := [(.int i), (.int j), (.int n), fo]) (rest := []) (lenOf pd_14 rfl) rfl (by show 2 * 0 + _ ≤ _; exact Nat.le_of_eq rfl) (hb hby d42_157_6) (fun _ _ => ⟨rfl, e102, ble rfl, ble rfl⟩)
  dsimp only [Pt.U, Pt.locs, Pt.cells, Pt.slots] at X103 l103 y103 z103 st103 hQ103
  subst y103 z103
  obtain ⟨h103, e103⟩ : ∃ z, T103.heap = z := ⟨_, rfl⟩
  rw [e103] at hQ103
  obtain ⟨rfl, N103q, eq103⟩ := hQ103
  rw [eq103] at e103
  have N103 : Fr n0 L103 := by rw [l103]; exact Fr.app N0 N103q
  obtain ⟨fs, hr, hrun, hended, hW, hsame⟩ := X103.leave (v := some (.int i)) (fun h => by rw [Bd.returns] at h; cases h)
  refine ⟨_, _, castTop (ef_scbo mM i j n fo) ?_, hrun, hended, _, _, rfl, ?_, ⟨_, rfl⟩, hW, hsame.mono (by decide) (by decide)⟩
  · show SS pP eE bS s₁ (mkF mM 0 #[.val (.int i), .val (.int j), .val (.int n)] []) _
    refine XS.iloadN X0.here hx rfl (hb hby d42_157_0) rfl ?_
    refine XS.iloadN X0.here hx rfl (hb hby d42_157_1) rfl ?_
    refine XS.iloadN X0.here hx rfl (hb hby d42_157_2) rfl ?_
    show SS pP eE bS s₁ (mkF mM 3 #[.val (.int i), .val (.int j), .val (.int n)] [(.int n), (.int j), (.int i)]) _
    refine st102 _ ?_
    show SS pP eE bS T102 (mkF mM 6 #[.val (.int i), .val (.int j), .val (.int n)] [fo, (.int n), (.int j), (.int i)]) _
    refine st103 _ ?_
    show SS pP eE bS T103 (mkF mM 9 #[.val (.int i), .val (.int j), .val (.int n)] [(.int i)]) _
    exact retI X103 hx Bd.returns (hb hby d42_157_9) hr
  · show Q_scbo Z i j n fo h0 n0 _ T103.heap _
    rw [e103]
    exact ⟨rfl, N103, rfl⟩
abbrev c52_94 := jdk_52_method_94_code
theorem d52_94_0 : decode c52_94 0 = .ok (.iload_n 0, 1) := by decide +kernel
theorem d52_94_1 : decode c52_94 1 = .ok (.iload_n 1, 1) := by decide +kernel
theorem d52_94_2 : decode c52_94 2 = .ok (.aload_n 2, 1) := by decide +kernel
theorem d52_94_3 : decode c52_94 3 = .ok (.invokestatic 48, 3) := by decide +kernel
theorem pd_31 : parseMethodDescriptor "([B)I" = some ⟨[(.array .byte)], some .int⟩ := by decide +kernel
theorem d52_94_6 : decode c52_94 6 = .ok (.invokestatic 419, 3) := by decide +kernel
theorem pd_32 : parseMethodDescriptor "(III)I" = some ⟨[.int, .int, .int], some .int⟩ := by decide +kernel
theorem d52_94_9 : decode c52_94 9 = .ok (.pop, 1) := by decide +kernel
theorem d52_94_10 : decode c52_94 10 = .ok (.return_, 1) := by decide +kernel
abbrev r2_0_0_29 : Room := { frames := 2, cells := 0, slots := 0, locals := 29 }
abbrev y22_ : MethodName := ⟨"java/lang/StringUTF16", "checkBoundsOffCount", "(II[B)V"⟩
def Q_ucbo (Z : State) (i : Int32) (j : Int32) (a : Addr) (k : ClassId) (z : Int32) (vs : List Value) (n : Int32) (fo : Value) (h0 : Heap) (n0 : Nat) (xv : Option Value) (xh : Heap) (xL : List Loc) : Prop := xv = none ∧ Fr n0 xL ∧ xh = h0
theorem ef_ucbo (mM : MethodId) (i : Int32) (j : Int32) (a : Addr) (k : ClassId) (z : Int32) (vs : List Value) (n : Int32) (fo : Value) : entryFrame mM #[(.int i), (.int j), (.ref a)] 3 = mkF mM 0 #[.val (.int i), .val (.int j), .val (.ref a)] [] := by
  first | (simp [entryFrame, mkF, argsToLocals, Value.category]; done) | rfl
theorem rm_ucbo (l : Launch) (Z : State) (a0 : Array Value) (hw : HW a0 Z) (ws : List Jvm.Cond) (i : Int32) (j : Int32) (a : Addr) (k : ClassId) (z : Int32) (vs : List Value) (n : Int32) (fo : Value) (h0 : Heap) (n0 : Nat) (Z0 : n0 ≤ h0.size) (hfo : (fo).isRef = true) (V_a : Arv Z h0 a k .byte z vs (.int (0 : Int32))) (hzn : (z >>> ((1 : Int32) &&& 31)) = n) (hA : ¬ (((n ||| i) ||| j) < (0 : Int32))) (hB : ¬ ((n - i) < j)) (OL : Old Z n0 h0) (S_SIOOBE_FORMATTER : Sta Z Z.heap "jdk/internal/util/Preconditions" "SIOOBE_FORMATTER" "Ljava/util/function/BiFunction;" fo) :
    MetFree l y22_ (head1 (Jvm.Cond.code y22_ jdk_52_method_94_code 3 none :: ws) r2_0_0_29) (fun xa xU => xa = #[(.int i), (.int j), (.ref a)] ∧ Z.Warmed39 xU.vm ∧ xU.heap = h0) (fun _ _ _ _ _ => True) (fun _ xU xo xU' => ∃ xv xL, xo = .returned xv ∧ Q_ucbo Z i j a k z vs n fo h0 n0 xv xU'.heap xL ∧ FrameEnd xU xo xU' xL r2_0_0_29.cells r2_0_0_29.slots) := by
  refine MetFree.of_bodySF (plainFor_of_name pn_java_lang_StringUTF16) hisR ?_
  intro pP eE sS mM argS bS methS cC s₁ Bd hml0 hP hK
  obtain ⟨rfl, hZ, hh⟩ := hP
  have hx := Bd.exec
  have hby := Bd.bytes
  have hml : cC.maxLocals = 3 := hml0
  have hown : sS.vm.findClass "java/lang/StringUTF16" = some mM.cls := findClass_of_methodNamed Bd.named
  have hnm := (name_of_methodNamed Bd.named Bd.method).1
  have X0 : Stand pP l eE r2_0_0_29 sS mM #[(.int i), (.int j), (.ref a)] bS methS cC s₁ [] 0 0 := Stand.of_body Bd
  have e0 : s₁.heap = h0 := by rw [← hh, Bd.state]; rfl
  have N0 := Fr.nil n0
  obtain ⟨_, _, ⟨T101, L101, k101, n101⟩, -, X101, ⟨Lc101, hQ101, l101, y101, z101⟩, st101⟩ := Jvm.LawKit.callS X0 hx (y := y6_) hown (mvT hZ (wi hw 193 rfl)) (mvT hZ (wi hw 194 rfl)) (mvT hZ (wi hw 18 rfl)) (mvT hZ (wi hw 195 rfl)) (by decide) (backOf (W := 2) (rm_len16 l Z a0 hw [] a k z vs n h0 n0 (by omega) V_a hzn) hZ (wi hw 195 rfl) (wi hw 18 rfl) (by decide) (by decide)) (g := (mkF mM 3 #[.val (.int i), .val (.int j), .val (.ref a)] [(.ref a), (.int j), (.int i)])) rfl (by rw [hml]; rfl) (argsL := [(.ref a)]) (rest := [(.int j), (.int i)]) (lenOf pd_31 rfl) rfl (by show 2 * 0 + _ ≤ _; exact Nat.le_of_eq rfl) (hb hby d52_94_3) (fun _ _ => ⟨rfl, e0, ble rfl, ble rfl⟩)
  dsimp only [Pt.U, Pt.locs, Pt.cells, Pt.slots] at X101 l101 y101 z101 st101 hQ101
  subst y101 z101
  obtain ⟨h101, e101⟩ : ∃ z, T101.heap = z := ⟨_, rfl⟩
  rw [e101] at hQ101
  obtain ⟨rfl, N101q, eq101⟩ := hQ101
  rw [eq101] at e101
  have N101 : Fr n0 L101 := by rw [l101]; exact Fr.app N0 N101q
  obtain ⟨_, _, ⟨T102, L102, k102, n102⟩, -, X102, ⟨Lc102, hQ102, l102, y102, z102⟩, st102⟩ := Jvm.LawKit.callS X101 hx (y := y21_) hown (mvT hZ (wi hw 196 rfl)) (mvT hZ (wi hw 197 rfl)) (mvT hZ (wi hw 4 rfl)) (mvT hZ (wi hw 198 rfl)) (by decide) (backOf (W := 0) (rm_scbo l Z a0 hw [] i j n fo h0 n0 (by omega) hfo hA hB OL S_SIOOBE_FORMATTER) hZ (wi hw 198 rfl) (wi hw 4 rfl) (by decide) (by decide)) (g := (mkF mM 6 #[.val (.int i), .val (.int j), .val (.ref a)] [(.int n), (.int j), (.int i)])) rfl (by rw [hml]; rfl) (argsL := [(.int i), (.int j), (.int n)]) (rest := []) (lenOf pd_32 rfl) rfl (by show 2 * 0 + _ ≤ _; exact Nat.le_of_eq rfl) (hb hby d52_94_6) (fun _ _ => ⟨rfl, e101, ble rfl, ble rfl⟩)
  dsimp only [Pt.U, Pt.locs, Pt.cells, Pt.slots] at X102 l102 y102 z102 st102 hQ102
  subst y102 z102
  obtain ⟨h102, e102⟩ : ∃ z, T102.heap = z := ⟨_, rfl⟩
  rw [e102] at hQ102
  obtain ⟨rfl, N102q, eq102⟩ := hQ102
  rw [eq102] at e102
  have N102 : Fr n0 L102 := by rw [l102]; exact Fr.app N101 N102q
  obtain ⟨fs, hr, hrun, hended, hW, hsame⟩ := X102.leave (v := none) (fun _ => rfl)
  refine ⟨_, _, castTop (ef_ucbo mM i j a k z vs n fo) ?_, hrun, hended, _, _, rfl, ?_, ⟨_, rfl⟩, hW, hsame.mono (by decide) (by decide)⟩
  · show SS pP eE bS s₁ (mkF mM 0 #[.val (.int i), .val (.int j), .val (.ref a)] []) _
    refine XS.iloadN X0.here hx rfl (hb hby d52_94_0) rfl ?_
    refine XS.iloadN X0.here hx rfl (hb hby d52_94_1) rfl ?_
    refine XS.aloadN X0.here hx rfl (hb hby d52_94_2) rfl rfl ?_
    show SS pP eE bS s₁ (mkF mM 3 #[.val (.int i), .val (.int j), .val (.ref a)] [(.ref a), (.int j), (.int i)]) _
    refine st101 _ ?_
    show SS pP eE bS T101 (mkF mM 6 #[.val (.int i), .val (.int j), .val (.ref a)] [(.int n), (.int j), (.int i)]) _
    refine st102 _ ?_
    show SS pP eE bS T102 (mkF mM 9 #[.val (.int i), .val (.int j), .val (.ref a)] [(.int i)]) _
    refine XS.pop X102.here hx rfl (hb hby d52_94_9) rfl rfl ?_
    show SS pP eE bS T102 (mkF mM 10 #[.val (.int i), .val (.int j), .val (.ref a)] []) _
    exact X102.returnOut hx Bd.returns (hb hby d52_94_10) hr
  · show Q_ucbo Z i j a k z vs n fo h0 n0 _ T102.heap _
    rw [e102]
    exact ⟨rfl, N102, rfl⟩
abbrev c52_22 := jdk_52_method_22_code
theorem d52_22_0 : decode c52_22 0 = .ok (.iload_n 1, 1) := by decide +kernel
theorem d52_22_1 : decode c52_22 1 = .ok (.iload 4, 2) := by decide +kernel
theorem d52_22_3 : decode c52_22 3 = .ok (.aload_n 0, 1) := by decide +kernel
theorem d52_22_4 : decode c52_22 4 = .ok (.invokestatic 173, 3) := by decide +kernel
theorem pd_30 : parseMethodDescriptor "(II[B)V" = some ⟨[.int, .int, (.array .byte)], none⟩ := by decide +kernel
theorem d52_22_7 : decode c52_22 7 = .ok (.iconst 0, 1) := by decide +kernel
theorem d52_22_8 : decode c52_22 8 = .ok (.istore 5, 2) := by decide +kernel
theorem d52_22_10 : decode c52_22 10 = .ok (.iload 5, 2) := by decide +kernel
theorem d52_22_12 : decode c52_22 12 = .ok (.iload 4, 2) := by decide +kernel
theorem d52_22_14 : decode c52_22 14 = .ok (.if_icmp .ge 39, 3) := by decide +kernel
theorem d52_22_17 : decode c52_22 17 = .ok (.aload_n 0, 1) := by decide +kernel
theorem d52_22_18 : decode c52_22 18 = .ok (.iload_n 1, 1) := by decide +kernel
theorem d52_22_19 : decode c52_22 19 = .ok (.invokestatic 71, 3) := by decide +kernel
theorem d52_22_22 : decode c52_22 22 = .ok (.istore 6, 2) := by decide +kernel
theorem d52_22_24 : decode c52_22 24 = .ok (.iload 6, 2) := by decide +kernel
theorem d52_22_26 : decode c52_22 26 = .ok (.sipush 255, 3) := by decide +kernel
theorem d52_22_29 : decode c52_22 29 = .ok (.if_icmp .le 6, 3) := by decide +kernel
theorem d52_22_32 : decode c52_22 32 = .ok (.iload 5, 2) := by decide +kernel
theorem d52_22_34 : decode c52_22 34 = .ok (.ireturn, 1) := by decide +kernel
theorem d52_22_35 : decode c52_22 35 = .ok (.aload_n 2, 1) := by decide +kernel
theorem d52_22_36 : decode c52_22 36 = .ok (.iload_n 3, 1) := by decide +kernel
theorem d52_22_37 : decode c52_22 37 = .ok (.iload 6, 2) := by decide +kernel
theorem d52_22_39 : decode c52_22 39 = .ok (.i2b, 1) := by decide +kernel
theorem d52_22_40 : decode c52_22 40 = .ok (.bastore, 1) := by decide +kernel
theorem d52_22_41 : decode c52_22 41 = .ok (.iinc 1 1, 3) := by decide +kernel
theorem d52_22_44 : decode c52_22 44 = .ok (.iinc 3 1, 3) := by decide +kernel
theorem d52_22_47 : decode c52_22 47 = .ok (.iinc 5 1, 3) := by decide +kernel
theorem d52_22_50 : decode c52_22 50 = .ok (.goto (-40), 3) := by decide +kernel
theorem d52_22_53 : decode c52_22 53 = .ok (.iload 4, 2) := by decide +kernel
theorem d52_22_55 : decode c52_22 55 = .ok (.ireturn, 1) := by decide +kernel
def Q_c1 (Z : State) (a2 : Addr) (k2 : ClassId) (ln : Int32) (ds : List Int32) (h0 : Heap) (n0 : Nat) (xv : Option Value) (xh : Heap) (xL : List Loc) : Prop := xv = some (.int ln) ∧ Fr n0 xL ∧ Keep h0 xh [a2] ∧ Arv Z xh a2 k2 .byte ln (lowV ds) (.int (0 : Int32))
abbrev r3_0_0_43 : Room := { frames := 3, cells := 0, slots := 0, locals := 43 }
abbrev y23_ : MethodName := ⟨"java/lang/StringUTF16", "compress", "([BI[BII)I"⟩
abbrev Lc_cb0_1_0_0 (a1 : Addr) (s : Int32) (a2 : Addr) : Array Slot := #[.val (.ref a1), .val (.int s), .val (.ref a2), .val (.int (0 : Int32)), .val (.int (1 : Int32)), .unset, .unset]
abbrev Lc_cb0_1_0_1 (a1 : Addr) (s : Int32) (a2 : Addr) : Array Slot := #[.val (.ref a1), .val (.int s), .val (.ref a2), .val (.int (0 : Int32)), .val (.int (1 : Int32)), .val (.int (0 : Int32)), .unset]
abbrev Lc_cb0_1_0_2 (a1 : Addr) (s : Int32) (a2 : Addr) (d0 : Int32) : Array Slot := #[.val (.ref a1), .val (.int s), .val (.ref a2), .val (.int (0 : Int32)), .val (.int (1 : Int32)), .val (.int (0 : Int32)), .val (.int d0)]
theorem ef_cb0_1_0 (mM : MethodId) (a1 : Addr) (a2 : Addr) (k1 : ClassId) (k2 : ClassId) (s : Int32) (nn : Int32) (z : Int32) (vs : List Value) (d0 : Int32) (fo : Value) : entryFrame mM #[(.ref a1), (.int s), (.ref a2), (.int (0 : Int32)), (.int (1 : Int32))] 7 = mkF mM 0 #[.val (.ref a1), .val (.int s), .val (.ref a2), .val (.int (0 : Int32)), .val (.int (1 : Int32)), .unset, .unset] [] := by
  first | (simp [entryFrame, mkF, argsToLocals, Value.category]; done) | rfl
theorem rm_cb0_1_0 (l : Launch) (Z : State) (a0 : Array Value) (hw : HW a0 Z) (ws : List Jvm.Cond) (a1 : Addr) (a2 : Addr) (k1 : ClassId) (k2 : ClassId) (s : Int32) (nn : Int32) (z : Int32) (vs : List Value) (d0 : Int32) (fo : Value) (h0 : Heap) (n0 : Nat) (Z0 : n0 ≤ h0.size) (V_a1 : Arv Z h0 a1 k1 .byte z vs (.int (0 : Int32))) (V_a2 : Arv Z h0 a2 k2 .byte (1 : Int32) [] (.int (0 : Int32))) (ne_a1_a2 : @Ne Nat a1 a2) (g_a2 : @LE.le Nat _ n0 a2) (hzn : (z >>> ((1 : Int32) &&& 31)) = nn) (hA : ¬ (((nn ||| s) ||| (1 : Int32)) < (0 : Int32))) (hB : ¬ ((nn - s) < (1 : Int32))) (g0 : (255 : Int32) < d0) (hg0 : GCp z vs s d0) (OL : Old Z n0 h0) (S__assertionsDisabled : Sta Z Z.heap "java/lang/StringUTF16" "$assertionsDisabled" "Z" (.int (1 : Int32))) (S_HI_BYTE_SHIFT : Sta Z Z.heap "java/lang/StringUTF16" "HI_BYTE_SHIFT" "I" (.int (0 : Int32))) (S_LO_BYTE_SHIFT : Sta Z Z.heap "java/lang/StringUTF16" "LO_BYTE_SHIFT" "I" (.int (8 : Int32))) (hfo : (fo).isRef = true) (S_SIOOBE_FORMATTER : Sta Z Z.heap "jdk/internal/util/Preconditions" "SIOOBE_FORMATTER" "Ljava/util/function/BiFunction;" fo) :
    MetFree l y23_ (head1 (Jvm.Cond.code y23_ jdk_52_method_22_code 7 (some .int) :: ws) r3_0_0_43) (fun xa xU => xa = #[(.ref a1), (.int s), (.ref a2), (.int (0 : Int32)), (.int (1 : Int32))] ∧ Z.Warmed39 xU.vm ∧ xU.heap = h0) (fun _ _ _ _ _ => True) (fun _ xU xo xU' => ∃ xv xL, xo = .returned xv ∧ Q_c0 Z a2 [d0] h0 n0 xv xU'.heap xL ∧ FrameEnd xU xo xU' xL r3_0_0_43.cells r3_0_0_43.slots) := by
  refine MetFree.of_bodySF (plainFor_of_name pn_java_lang_StringUTF16) hisR ?_
  intro pP eE sS mM argS bS methS cC s₁ Bd hml0 hP hK
  obtain ⟨rfl, hZ, hh⟩ := hP
  have hx := Bd.exec
  have hby := Bd.bytes
  have hml : cC.maxLocals = 7 := hml0
  have hown : sS.vm.findClass "java/lang/StringUTF16" = some mM.cls := findClass_of_methodNamed Bd.named
  have hnm := (name_of_methodNamed Bd.named Bd.method).1
  have X0 : Stand pP l eE r3_0_0_43 sS mM #[(.ref a1), (.int s), (.ref a2), (.int (0 : Int32)), (.int (1 : Int32))] bS methS cC s₁ [] 0 0 := Stand.of_body Bd
  have e0 : s₁.heap = h0 := by rw [← hh, Bd.state]; rfl
  have N0 := Fr.nil n0
  have Vp : Arv Z h0 a2 k2 .byte (1 : Int32) [(.int (0 : Int32))] (.int (0 : Int32)) := V_a2.pad (pad_rep [] (.int (0 : Int32)) 1)
  obtain ⟨_, _, ⟨T101, L101, k101, n101⟩, -, X101, ⟨Lc101, hQ101, l101, y101, z101⟩, st101⟩ := Jvm.LawKit.callS X0 hx (y := y22_) hown (mvT hZ (wi hw 190 rfl)) (mvT hZ (wi hw 191 rfl)) (mvT hZ (wi hw 18 rfl)) (mvT hZ (wi hw 192 rfl)) (by decide) (backOf (W := 0) (rm_ucbo l Z a0 hw [] s (1 : Int32) a1 k1 z vs nn fo h0 n0 (by omega) hfo V_a1 hzn hA hB OL S_SIOOBE_FORMATTER) hZ (wi hw 192 rfl) (wi hw 18 rfl) (by decide) (by decide)) (g := (mkF mM 4 (Lc_cb0_1_0_0 a1 s a2) [(.ref a1), (.int (1 : Int32)), (.int s)])) rfl (by rw [hml]; rfl) (argsL := [(.int s), (.int (1 : Int32)), (.ref a1)]) (rest := []) (lenOf pd_30 rfl) rfl (by show 2 * 0 + _ ≤ _; exact Nat.le_of_eq rfl) (hb hby d52_22_4) (fun _ _ => ⟨rfl, e0, ble rfl, ble rfl⟩)
  dsimp only [Pt.U, Pt.locs, Pt.cells, Pt.slots] at X101 l101 y101 z101 st101 hQ101
  subst y101 z101
  obtain ⟨h101, e101⟩ : ∃ z, T101.heap = z := ⟨_, rfl⟩
  rw [e101] at hQ101
  obtain ⟨rfl, N101q, eq101⟩ := hQ101
  rw [eq101] at e101
  have N101 : Fr n0 L101 := by rw [l101]; exact Fr.app N0 N101q
  obtain ⟨_, _, ⟨T102, L102, k102, n102⟩, -, X102, ⟨Lc102, hQ102, l102, y102, z102⟩, st102⟩ := Jvm.LawKit.callS X101 hx (y := y0_) hown (mvT hZ (wi hw 140 rfl)) (mvT hZ (wi hw 141 rfl)) (mvT hZ (wi hw 18 rfl)) (mvT hZ (wi hw 142 rfl)) (by decide) (backOf (W := 0) (rm_getCharG l Z a0 hw [] a1 k1 z vs s d0 h0 n0 (by omega) V_a1 OL S__assertionsDisabled S_HI_BYTE_SHIFT S_LO_BYTE_SHIFT hg0) hZ (wi hw 142 rfl) (wi hw 18 rfl) (by decide) (by decide)) (g := (mkF mM 19 (Lc_cb0_1_0_1 a1 s a2) [(.int s), (.ref a1)])) rfl (by rw [hml]; rfl) (argsL := [(.ref a1), (.int s)]) (rest := []) (lenOf pd_21 rfl) rfl (by show 2 * 0 + _ ≤ _; exact Nat.le_of_eq rfl) (hb hby d52_22_19) (fun _ _ => ⟨rfl, e101, ble rfl, ble rfl⟩)
  dsimp only [Pt.U, Pt.locs, Pt.cells, Pt.slots] at X102 l102 y102 z102 st102 hQ102
  subst y102 z102
  obtain ⟨h102, e102⟩ : ∃ z, T102.heap = z := ⟨_, rfl⟩
  rw [e102] at hQ102
  obtain ⟨rfl, N102q, eq102⟩ := hQ102
  rw [eq102] at e102
  have N102 : Fr n0 L102 := by rw [l102]; exact Fr.app N101 N102q
  obtain ⟨fs, hr, hrun, hended, hW, hsame⟩ := X102.leave (v := some (.int (0 : Int32))) (fun h => by rw [Bd.returns] at h; cases h)
  refine ⟨_, _, castTop (ef_cb0_1_0 mM a1 a2 k1 k2 s nn z vs d0 fo) ?_, hrun, hended, _, _, rfl, ?_, ⟨_, rfl⟩, hW, hsame.mono (by decide) (by decide)⟩
  · show SS pP eE bS s₁ (mkF mM 0 (Lc_cb0_1_0_0 a1 s a2) []) _
    refine XS.iloadN X0.here hx rfl (hb hby d52_22_0) rfl ?_
    refine XS.iload X0.here hx rfl (hb hby d52_22_1) rfl ?_
    refine XS.aloadN X0.here hx rfl (hb hby d52_22_3) rfl rfl ?_
    show SS pP eE bS s₁ (mkF mM 4 (Lc_cb0_1_0_0 a1 s a2) [(.ref a1), (.int (1 : Int32)), (.int s)]) _
    refine st101 _ ?_
    show SS pP eE bS T101 (mkF mM 7 (Lc_cb0_1_0_0 a1 s a2) []) _
    refine XS.iconst X101.here hx rfl (hb hby d52_22_7) ?_
    refine XS.istore X101.here hx rfl (hb hby d52_22_8) rfl (l' := (Lc_cb0_1_0_1 a1 s a2)) rfl ?_
    refine XS.iload X101.here hx rfl (hb hby d52_22_10) rfl ?_
    refine XS.iload X101.here hx rfl (hb hby d52_22_12) rfl ?_
    show SS pP eE bS T101 (mkF mM 14 (Lc_cb0_1_0_1 a1 s a2) [(.int (1 : Int32)), (.int (0 : Int32))]) _
    refine XS.icmpNo X101.here hx rfl (hb hby d52_22_14) rfl (tlt (by decide : (0 : Int32) < (1 : Int32))).2.1 ?_
    refine XS.aloadN X101.here hx rfl (hb hby d52_22_17) rfl rfl ?_
    refine XS.iloadN X101.here hx rfl (hb hby d52_22_18) rfl ?_
    show SS pP eE bS T101 (mkF mM 19 (Lc_cb0_1_0_1 a1 s a2) [(.int s), (.ref a1)]) _
    refine st102 _ ?_
    show SS pP eE bS T102 (mkF mM 22 (Lc_cb0_1_0_1 a1 s a2) [(.int d0)]) _
    refine XS.istore X102.here hx rfl (hb hby d52_22_22) rfl (l' := (Lc_cb0_1_0_2 a1 s a2 d0)) rfl ?_
    refine XS.iload X102.here hx rfl (hb hby d52_22_24) rfl ?_
    refine XS.sipush X102.here hx rfl (hb hby d52_22_26) ?_
    refine XS.icmpNo X102.here hx rfl (hb hby d52_22_29) rfl (tlt g0).2.2.2 ?_
    show SS pP eE bS T102 (mkF mM 32 (Lc_cb0_1_0_2 a1 s a2 d0) []) _
    refine XS.iload X102.here hx rfl (hb hby d52_22_32) rfl ?_
    show SS pP eE bS T102 (mkF mM 34 (Lc_cb0_1_0_2 a1 s a2 d0) [(.int (0 : Int32))]) _
    exact retI X102 hx Bd.returns (hb hby d52_22_34) hr
  · show Q_c0 Z a2 [d0] h0 n0 _ T102.heap _
    rw [e102]
    exact ⟨(0 : Int32), d0, rfl, N102, (Keep.refl h0 [a2]), (⟨0, by decide, rfl, rfl, g0⟩)⟩
abbrev Lc_cb0_1_1_0 (a1 : Addr) (s : Int32) (a2 : Addr) : Array Slot := #[.val (.ref a1), .val (.int s), .val (.ref a2), .val (.int (0 : Int32)), .val (.int (1 : Int32)), .unset, .unset]
abbrev Lc_cb0_1_1_1 (a1 : Addr) (s : Int32) (a2 : Addr) : Array Slot := #[.val (.ref a1), .val (.int s), .val (.ref a2), .val (.int (0 : Int32)), .val (.int (1 : Int32)), .val (.int (0 : Int32)), .unset]
abbrev Lc_cb0_1_1_2 (a1 : Addr) (s : Int32) (a2 : Addr) (d0 : Int32) : Array Slot := #[.val (.ref a1), .val (.int s), .val (.ref a2), .val (.int (0 : Int32)), .val (.int (1 : Int32)), .val (.int (0 : Int32)), .val (.int d0)]
abbrev Lc_cb0_1_1_3 (a1 : Addr) (s : Int32) (a2 : Addr) (d0 : Int32) : Array Slot := #[.val (.ref a1), .val (.int (s + (1 : Int32))), .val (.ref a2), .val (.int (0 : Int32)), .val (.int (1 : Int32)), .val (.int (0 : Int32)), .val (.int d0)]
abbrev Lc_cb0_1_1_4 (a1 : Addr) (s : Int32) (a2 : Addr) (d0 : Int32) : Array Slot := #[.val (.ref a1), .val (.int (s + (1 : Int32))), .val (.ref a2), .val (.int (1 : Int32)), .val (.int (1 : Int32)), .val (.int (0 : Int32)), .val (.int d0)]
abbrev Lc_cb0_1_1_5 (a1 : Addr) (s : Int32) (a2 : Addr) (d0 : Int32) : Array Slot := #[.val (.ref a1), .val (.int (s + (1 : Int32))), .val (.ref a2), .val (.int (1 : Int32)), .val (.int (1 : Int32)), .val (.int (1 : Int32)), .val (.int d0)]
theorem ef_cb0_1_1 (mM : MethodId) (a1 : Addr) (a2 : Addr) (k1 : ClassId) (k2 : ClassId) (s : Int32) (nn : Int32) (z : Int32) (vs : List Value) (d0 : Int32) (fo : Value) : entryFrame mM #[(.ref a1), (.int s), (.ref a2), (.int (0 : Int32)), (.int (1 : Int32))] 7 = mkF mM 0 #[.val (.ref a1), .val (.int s), .val (.ref a2), .val (.int (0 : Int32)), .val (.int (1 : Int32)), .unset, .unset] [] := by
  first | (simp [entryFrame, mkF, argsToLocals, Value.category]; done) | rfl
theorem rm_cb0_1_1 (l : Launch) (Z : State) (a0 : Array Value) (hw : HW a0 Z) (ws : List Jvm.Cond) (a1 : Addr) (a2 : Addr) (k1 : ClassId) (k2 : ClassId) (s : Int32) (nn : Int32) (z : Int32) (vs : List Value) (d0 : Int32) (fo : Value) (h0 : Heap) (n0 : Nat) (Z0 : n0 ≤ h0.size) (V_a1 : Arv Z h0 a1 k1 .byte z vs (.int (0 : Int32))) (V_a2 : Arv Z h0 a2 k2 .byte (1 : Int32) [] (.int (0 : Int32))) (ne_a1_a2 : @Ne Nat a1 a2) (g_a2 : @LE.le Nat _ n0 a2) (hzn : (z >>> ((1 : Int32) &&& 31)) = nn) (hA : ¬ (((nn ||| s) ||| (1 : Int32)) < (0 : Int32))) (hB : ¬ ((nn - s) < (1 : Int32))) (q0 : ¬ ((255 : Int32) < d0)) (hg0 : GCp z vs s d0) (OL : Old Z n0 h0) (S__assertionsDisabled : Sta Z Z.heap "java/lang/StringUTF16" "$assertionsDisabled" "Z" (.int (1 : Int32))) (S_HI_BYTE_SHIFT : Sta Z Z.heap "java/lang/StringUTF16" "HI_BYTE_SHIFT" "I" (.int (0 : Int32))) (S_LO_BYTE_SHIFT : Sta Z Z.heap "java/lang/StringUTF16" "LO_BYTE_SHIFT" "I" (.int (8 : Int32))) (hfo : (fo).isRef = true) (S_SIOOBE_FORMATTER : Sta Z Z.heap "jdk/internal/util/Preconditions" "SIOOBE_FORMATTER" "Ljava/util/function/BiFunction;" fo) :
    MetFree l y23_ (head1 (Jvm.Cond.code y23_ jdk_52_method_22_code 7 (some .int) :: ws) r3_0_0_43) (fun xa xU => xa = #[(.ref a1), (.int s), (.ref a2), (.int (0 : Int32)), (.int (1 : Int32))] ∧ Z.Warmed39 xU.vm ∧ xU.heap = h0) (fun _ _ _ _ _ => True) (fun _ xU xo xU' => ∃ xv xL, xo = .returned xv ∧ Q_c1 Z a2 k2 (1 : Int32) [d0] h0 n0 xv xU'.heap xL ∧ FrameEnd xU xo xU' xL r3_0_0_43.cells r3_0_0_43.slots) := by
  refine MetFree.of_bodySF (plainFor_of_name pn_java_lang_StringUTF16) hisR ?_
  intro pP eE sS mM argS bS methS cC s₁ Bd hml0 hP hK
  obtain ⟨rfl, hZ, hh⟩ := hP
  have hx := Bd.exec
  have hby := Bd.bytes
  have hml : cC.maxLocals = 7 := hml0
  have hown : sS.vm.findClass "java/lang/StringUTF16" = some mM.cls := findClass_of_methodNamed Bd.named
  have hnm := (name_of_methodNamed Bd.named Bd.method).1
  have X0 : Stand pP l eE r3_0_0_43 sS mM #[(.ref a1), (.int s), (.ref a2), (.int (0 : Int32)), (.int (1 : Int32))] bS methS cC s₁ [] 0 0 := Stand.of_body Bd
  have e0 : s₁.heap = h0 := by rw [← hh, Bd.state]; rfl
  have N0 := Fr.nil n0
  have Vp : Arv Z h0 a2 k2 .byte (1 : Int32) [(.int (0 : Int32))] (.int (0 : Int32)) := V_a2.pad (pad_rep [] (.int (0 : Int32)) 1)
  obtain ⟨_, _, ⟨T101, L101, k101, n101⟩, -, X101, ⟨Lc101, hQ101, l101, y101, z101⟩, st101⟩ := Jvm.LawKit.callS X0 hx (y := y22_) hown (mvT hZ (wi hw 190 rfl)) (mvT hZ (wi hw 191 rfl)) (mvT hZ (wi hw 18 rfl)) (mvT hZ (wi hw 192 rfl)) (by decide) (backOf (W := 0) (rm_ucbo l Z a0 hw [] s (1 : Int32) a1 k1 z vs nn fo h0 n0 (by omega) hfo V_a1 hzn hA hB OL S_SIOOBE_FORMATTER) hZ (wi hw 192 rfl) (wi hw 18 rfl) (by decide) (by decide)) (g := (mkF mM 4 (Lc_cb0_1_1_0 a1 s a2) [(.ref a1), (.int (1 : Int32)), (.int s)])) rfl (by rw [hml]; rfl) (argsL := [(.int s), (.int (1 : Int32)), (.ref a1)]) (rest := []) (lenOf pd_30 rfl) rfl (by show 2 * 0 + _ ≤ _; exact Nat.le_of_eq rfl) (hb hby d52_22_4) (fun _ _ => ⟨rfl, e0, ble rfl, ble rfl⟩)
  dsimp only [Pt.U, Pt.locs, Pt.cells, Pt.slots] at X101 l101 y101 z101 st101 hQ101
  subst y101 z101
  obtain ⟨h101, e101⟩ : ∃ z, T101.heap = z := ⟨_, rfl⟩
  rw [e101] at hQ101
  obtain ⟨rfl, N101q, eq101⟩ := hQ101
  rw [eq101] at e101
  have N101 : Fr n0 L101 := by rw [l101]; exact Fr.app N0 N101q
  obtain ⟨_, _, ⟨T102, L102, k102, n102⟩, -, X102, ⟨Lc102, hQ102, l102, y102, z102⟩, st102⟩ := Jvm.LawKit.callS X101 hx (y := y0_) hown (mvT hZ (wi hw 140 rfl)) (mvT hZ (wi hw 141 rfl)) (mvT hZ (wi hw 18 rfl)) (mvT hZ (wi hw 142 rfl)) (by decide) (backOf (W := 0) (rm_getCharG l Z a0 hw [] a1 k1 z vs s d0 h0 n0 (by omega) V_a1 OL S__assertionsDisabled S_HI_BYTE_SHIFT S_LO_BYTE_SHIFT hg0) hZ (wi hw 142 rfl) (wi hw 18 rfl) (by decide) (by decide)) (g := (mkF mM 19 (Lc_cb0_1_1_1 a1 s a2) [(.int s), (.ref a1)])) rfl (by rw [hml]; rfl) (argsL := [(.ref a1), (.int s)]) (rest := []) (lenOf pd_21 rfl) rfl (by show 2 * 0 + _ ≤ _; exact Nat.le_of_eq rfl) (hb hby d52_22_19) (fun _ _ => ⟨rfl, e101, ble rfl, ble rfl⟩)
  dsimp only [Pt.U, Pt.locs, Pt.cells, Pt.slots] at X102 l102 y102 z102 st102 hQ102
  subst y102 z102
  obtain ⟨h102, e102⟩ : ∃ z, T102.heap = z := ⟨_, rfl⟩
  rw [e102] at hQ102
  obtain ⟨rfl, N102q, eq102⟩ := hQ102
  rw [eq102] at e102
  have N102 : Fr n0 L102 := by rw [l102]; exact Fr.app N101 N102q
  obtain ⟨cl103, Ar103, q103, S103, Ng103, Ha103, Ga103⟩ := id Vp
  have hin103 : ¬ ((0 : Int32) < 0 ∨ cl103.slots.size ≤ ((0 : Int32)).toNatClampNeg) := inb_of S103 ⟨by decide, by decide⟩
  obtain ⟨T104, h104, X104, e104, W104, st104⟩ := stB X102 hx hZ e102 Ar103 (j := (0 : Int32)) hin103 (g := (mkF mM 40 (Lc_cb0_1_1_2 a1 s a2 d0) [(.int (d0.toInt8.toInt32)), (.int (0 : Int32)), (.ref a2)])) rfl rfl (hb hby d52_22_40)
  have Sz1 : h0.size ≤ h104.size := Nat.le_of_eq (Wr.size W104).symm
  have Vs104 := Arv.set Ar103 q103 S103 Ng103 Ha103 Ga103 (fits_nar_byte _) W104 0 rfl (Nat.le_of_ble_eq_true rfl)
  have Vt104 : Arv Z h104 a2 k2 .byte (1 : Int32) [(.int d0.toInt8.toInt32)] (.int (0 : Int32)) := by
    have q : Arv Z h104 a2 k2 .byte (1 : Int32) [(.int (d0.toInt8.toInt32).toInt8.toInt32)] (.int (0 : Int32)) := Vs104
    rw [show ((.int (d0.toInt8.toInt32).toInt8.toInt32) : Value) = (.int d0.toInt8.toInt32) from congrArg Value.int (own_b8 d0)] at q
    exact q
  have N104 := Fr.snoc X104 N102 g_a2
  have K105 : Keep h0 h104 [a2] := (Keep.refl h0 [a2]).wr W104 (Or.inl (List.mem_of_getElem? (i := 0) rfl))
  obtain ⟨fs, hr, hrun, hended, hW, hsame⟩ := X104.leave (v := some (.int (1 : Int32))) (fun h => by rw [Bd.returns] at h; cases h)
  refine ⟨_, _, castTop (ef_cb0_1_1 mM a1 a2 k1 k2 s nn z vs d0 fo) ?_, hrun, hended, _, _, rfl, ?_, ⟨_, rfl⟩, hW, hsame.mono (by decide) (by decide)⟩
  · show SS pP eE bS s₁ (mkF mM 0 (Lc_cb0_1_1_0 a1 s a2) []) _
    refine XS.iloadN X0.here hx rfl (hb hby d52_22_0) rfl ?_
    refine XS.iload X0.here hx rfl (hb hby d52_22_1) rfl ?_
    refine XS.aloadN X0.here hx rfl (hb hby d52_22_3) rfl rfl ?_
    show SS pP eE bS s₁ (mkF mM 4 (Lc_cb0_1_1_0 a1 s a2) [(.ref a1), (.int (1 : Int32)), (.int s)]) _
    refine st101 _ ?_
    show SS pP eE bS T101 (mkF mM 7 (Lc_cb0_1_1_0 a1 s a2) []) _
    refine XS.iconst X101.here hx rfl (hb hby d52_22_7) ?_
    refine XS.istore X101.here hx rfl (hb hby d52_22_8) rfl (l' := (Lc_cb0_1_1_1 a1 s a2)) rfl ?_
    refine XS.iload X101.here hx rfl (hb hby d52_22_10) rfl ?_
    refine XS.iload X101.here hx rfl (hb hby d52_22_12) rfl ?_
    show SS pP eE bS T101 (mkF mM 14 (Lc_cb0_1_1_1 a1 s a2) [(.int (1 : Int32)), (.int (0 : Int32))]) _
    refine XS.icmpNo X101.here hx rfl (hb hby d52_22_14) rfl (tlt (by decide : (0 : Int32) < (1 : Int32))).2.1 ?_
    refine XS.aloadN X101.here hx rfl (hb hby d52_22_17) rfl rfl ?_
    refine XS.iloadN X101.here hx rfl (hb hby d52_22_18) rfl ?_
    show SS pP eE bS T101 (mkF mM 19 (Lc_cb0_1_1_1 a1 s a2) [(.int s), (.ref a1)]) _
    refine st102 _ ?_
    show SS pP eE bS T102 (mkF mM 22 (Lc_cb0_1_1_1 a1 s a2) [(.int d0)]) _
    refine XS.istore X102.here hx rfl (hb hby d52_22_22) rfl (l' := (Lc_cb0_1_1_2 a1 s a2 d0)) rfl ?_
    refine XS.iload X102.here hx rfl (hb hby d52_22_24) rfl ?_
    refine XS.sipush X102.here hx rfl (hb hby d52_22_26) ?_
    refine XS.icmpYes X102.here hx rfl (pc0 := 29) (pc' := 35) rfl (hb hby d52_22_29) rfl (flt q0).2.2.2 (by decide) (by decide) ?_
    show SS pP eE bS T102 (mkF mM 35 (Lc_cb0_1_1_2 a1 s a2 d0) []) _
    refine XS.aloadN X102.here hx rfl (hb hby d52_22_35) rfl rfl ?_
    refine XS.iloadN X102.here hx rfl (hb hby d52_22_36) rfl ?_
    refine XS.iload X102.here hx rfl (hb hby d52_22_37) rfl ?_
    refine XS.i2b X102.here hx rfl (hb hby d52_22_39) rfl ?_
    show SS pP eE bS T102 (mkF mM 40 (Lc_cb0_1_1_2 a1 s a2 d0) [(.int (d0.toInt8.toInt32)), (.int (0 : Int32)), (.ref a2)]) _
    refine st104 _ ?_
    show SS pP eE bS T104 (mkF mM 41 (Lc_cb0_1_1_2 a1 s a2 d0) []) _
    refine XS.iinc X104.here hx rfl (hb hby d52_22_41) rfl (l' := (Lc_cb0_1_1_3 a1 s a2 d0)) rfl ?_
    refine XS.iinc X104.here hx rfl (hb hby d52_22_44) rfl (l' := (Lc_cb0_1_1_4 a1 s a2 d0)) rfl ?_
    refine XS.iinc X104.here hx rfl (hb hby d52_22_47) rfl (l' := (Lc_cb0_1_1_5 a1 s a2 d0)) rfl ?_
    refine XS.goto X104.here hx rfl (pc0 := 50) (pc' := 10) rfl (hb hby d52_22_50) (by decide) (by decide) ?_
    show SS pP eE bS T104 (mkF mM 10 (Lc_cb0_1_1_5 a1 s a2 d0) []) _
    refine XS.iload X104.here hx rfl (hb hby d52_22_10) rfl ?_
    refine XS.iload X104.here hx rfl (hb hby d52_22_12) rfl ?_
    refine XS.icmpYes X104.here hx rfl (pc0 := 14) (pc' := 53) rfl (hb hby d52_22_14) rfl (flt (by decide : ¬ ((1 : Int32) < (1 : Int32)))).2.1 (by decide) (by decide) ?_
    refine XS.iload X104.here hx rfl (hb hby d52_22_53) rfl ?_
    show SS pP eE bS T104 (mkF mM 55 (Lc_cb0_1_1_5 a1 s a2 d0) [(.int (1 : Int32))]) _
    exact retI X104 hx Bd.returns (hb hby d52_22_55) hr
  · show Q_c1 Z a2 k2 (1 : Int32) [d0] h0 n0 _ T104.heap _
    rw [e104]
    exact ⟨rfl, N104, K105, Vt104⟩
abbrev Lc_cb0_2_0_0 (a1 : Addr) (s : Int32) (a2 : Addr) : Array Slot := #[.val (.ref a1), .val (.int s), .val (.ref a2), .val (.int (0 : Int32)), .val (.int (2 : Int32)), .unset, .unset]
abbrev Lc_cb0_2_0_1 (a1 : Addr) (s : Int32) (a2 : Addr) : Array Slot := #[.val (.ref a1), .val (.int s), .val (.ref a2), .val (.int (0 : Int32)), .val (.int (2 : Int32)), .val (.int (0 : Int32)), .unset]
abbrev Lc_cb0_2_0_2 (a1 : Addr) (s : Int32) (a2 : Addr) (d0 : Int32) : Array Slot := #[.val (.ref a1), .val (.int s), .val (.ref a2), .val (.int (0 : Int32)), .val (.int (2 : Int32)), .val (.int (0 : Int32)), .val (.int d0)]
theorem ef_cb0_2_0 (mM : MethodId) (a1 : Addr) (a2 : Addr) (k1 : ClassId) (k2 : ClassId) (s : Int32) (nn : Int32) (z : Int32) (vs : List Value) (d0 : Int32) (d1 : Int32) (fo : Value) : entryFrame mM #[(.ref a1), (.int s), (.ref a2), (.int (0 : Int32)), (.int (2 : Int32))] 7 = mkF mM 0 #[.val (.ref a1), .val (.int s), .val (.ref a2), .val (.int (0 : Int32)), .val (.int (2 : Int32)), .unset, .unset] [] := by
  first | (simp [entryFrame, mkF, argsToLocals, Value.category]; done) | rfl
theorem rm_cb0_2_0 (l : Launch) (Z : State) (a0 : Array Value) (hw : HW a0 Z) (ws : List Jvm.Cond) (a1 : Addr) (a2 : Addr) (k1 : ClassId) (k2 : ClassId) (s : Int32) (nn : Int32) (z : Int32) (vs : List Value) (d0 : Int32) (d1 : Int32) (fo : Value) (h0 : Heap) (n0 : Nat) (Z0 : n0 ≤ h0.size) (V_a1 : Arv Z h0 a1 k1 .byte z vs (.int (0 : Int32))) (V_a2 : Arv Z h0 a2 k2 .byte (2 : Int32) [] (.int (0 : Int32))) (ne_a1_a2 : @Ne Nat a1 a2) (g_a2 : @LE.le Nat _ n0 a2) (hzn : (z >>> ((1 : Int32) &&& 31)) = nn) (hA : ¬ (((nn ||| s) ||| (2 : Int32)) < (0 : Int32))) (hB : ¬ ((nn - s) < (2 : Int32))) (g0 : (255 : Int32) < d0) (hg0 : GCp z vs s d0) (OL : Old Z n0 h0) (S__assertionsDisabled : Sta Z Z.heap "java/lang/StringUTF16" "$assertionsDisabled" "Z" (.int (1 : Int32))) (S_HI_BYTE_SHIFT : Sta Z Z.heap "java/lang/StringUTF16" "HI_BYTE_SHIFT" "I" (.int (0 : Int32))) (S_LO_BYTE_SHIFT : Sta Z Z.heap "java/lang/StringUTF16" "LO_BYTE_SHIFT" "I" (.int (8 : Int32))) (hfo : (fo).isRef = true) (S_SIOOBE_FORMATTER : Sta Z Z.heap "jdk/internal/util/Preconditions" "SIOOBE_FORMATTER" "Ljava/util/function/BiFunction;" fo) :
    MetFree l y23_ (head1 (Jvm.Cond.code y23_ jdk_52_method_22_code 7 (some .int) :: ws) r3_0_0_43) (fun xa xU => xa = #[(.ref a1), (.int s), (.ref a2), (.int (0 : Int32)), (.int (2 : Int32))] ∧ Z.Warmed39 xU.vm ∧ xU.heap = h0) (fun _ _ _ _ _ => True) (fun _ xU xo xU' => ∃ xv xL, xo = .returned xv ∧ Q_c0 Z a2 [d0, d1] h0 n0 xv xU'.heap xL ∧ FrameEnd xU xo xU' xL r3_0_0_43.cells r3_0_0_43.slots) := by
  refine MetFree.of_bodySF (plainFor_of_name pn_java_lang_StringUTF16) hisR ?_
  intro pP eE sS mM argS bS methS cC s₁ Bd hml0 hP hK
  obtain ⟨rfl, hZ, hh⟩ := hP
  have hx := Bd.exec
  have hby := Bd.bytes
  have hml : cC.maxLocals = 7 := hml0
  have hown : sS.vm.findClass "java/lang/StringUTF16" = some mM.cls := findClass_of_methodNamed Bd.named
  have hnm := (name_of_methodNamed Bd.named Bd.method).1
  have X0 : Stand pP l eE r3_0_0_43 sS mM #[(.ref a1), (.int s), (.ref a2), (.int (0 : Int32)), (.int (2 : Int32))] bS methS cC s₁ [] 0 0 := Stand.of_body Bd
  have e0 : s₁.heap = h0 := by rw [← hh, Bd.state]; rfl
  have N0 := Fr.nil n0
  have Vp : Arv Z h0 a2 k2 .byte (2 : Int32) [(.int (0 : Int32)), (.int (0 : Int32))] (.int (0 : Int32)) := V_a2.pad (pad_rep [] (.int (0 : Int32)) 2)
  obtain ⟨_, _, ⟨T101, L101, k101, n101⟩, -, X101, ⟨Lc101, hQ101, l101, y101, z101⟩, st101⟩ := Jvm.LawKit.callS X0 hx (y := y22_) hown (mvT hZ (wi hw 190 rfl)) (mvT hZ (wi hw 191 rfl)) (mvT hZ (wi hw 18 rfl)) (mvT hZ (wi hw 192 rfl)) (by decide) (backOf (W := 0) (rm_ucbo l Z a0 hw [] s (2 : Int32) a1 k1 z vs nn fo h0 n0 (by omega) hfo V_a1 hzn hA hB OL S_SIOOBE_FORMATTER) hZ (wi hw 192 rfl) (wi hw 18 rfl) (by decide) (by decide)) (g := (mkF mM 4 (Lc_cb0_2_0_0 a1 s a2) [(.ref a1), (.int (2 : Int32)), (.int s)])) rfl (by rw [hml]; rfl) (argsL := [(.int s), (.int (2 : Int32)), (.ref a1)]) (rest := []) (lenOf pd_30 rfl) rfl (by show 2 * 0 + _ ≤ _; exact Nat.le_of_eq rfl) (hb hby d52_22_4) (fun _ _ => ⟨rfl, e0, ble rfl, ble rfl⟩)
  dsimp only [Pt.U, Pt.locs, Pt.cells, Pt.slots] at X101 l101 y101 z101 st101 hQ101
  subst y101 z101
  obtain ⟨h101, e101⟩ : ∃ z, T101.heap = z := ⟨_, rfl⟩
  rw [e101] at hQ101
  obtain ⟨rfl, N101q, eq101⟩ := hQ101
  rw [eq101] at e101
  have N101 : Fr n0 L101 := by rw [l101]; exact Fr.app N0 N101q
  obtain ⟨_, _, ⟨T102, L102, k102, n102⟩, -, X102, ⟨Lc102, hQ102, l102, y102, z102⟩, st102⟩ := Jvm.LawKit.callS X101 hx (y := y0_) hown (mvT hZ (wi hw 140 rfl)) (mvT hZ (wi hw 141 rfl)) (mvT hZ (wi hw 18 rfl)) (mvT hZ (wi hw 142 rfl)) (by decide) (backOf (W := 0) (rm_getCharG l Z a0 hw [] a1 k1 z vs s d0 h0 n0 (by omega) V_a1 OL S__assertionsDisabled S_HI_BYTE_SHIFT S_LO_BYTE_SHIFT hg0) hZ (wi hw 142 rfl) (wi hw 18 rfl) (by decide) (by decide)) (g := (mkF mM 19 (Lc_cb0_2_0_1 a1 s a2) [(.int s), (.ref a1)])) rfl (by rw [hml]; rfl) (argsL := [(.ref a1), (.int s)]) (rest := []) (lenOf pd_21 rfl) rfl (by show 2 * 0 + _ ≤ _; exact Nat.le_of_eq rfl) (hb hby d52_22_19) (fun _ _ => ⟨rfl, e101, ble rfl, ble rfl⟩)
  dsimp only [Pt.U, Pt.locs, Pt.cells, Pt.slots] at X102 l102 y102 z102 st102 hQ102
  subst y102 z102
  obtain ⟨h102, e102⟩ : ∃ z, T102.heap = z := ⟨_, rfl⟩
  rw [e102] at hQ102
  obtain ⟨rfl, N102q, eq102⟩ := hQ102
  rw [eq102] at e102
  have N102 : Fr n0 L102 := by rw [l102]; exact Fr.app N101 N102q
  obtain ⟨fs, hr, hrun, hended, hW, hsame⟩ := X102.leave (v := some (.int (0 : Int32))) (fun h => by rw [Bd.returns] at h; cases h)
  refine ⟨_, _, castTop (ef_cb0_2_0 mM a1 a2 k1 k2 s nn z vs d0 d1 fo) ?_, hrun, hended, _, _, rfl, ?_, ⟨_, rfl⟩, hW, hsame.mono (by decide) (by decide)⟩
  · show SS pP eE bS s₁ (mkF mM 0 (Lc_cb0_2_0_0 a1 s a2) []) _
    refine XS.iloadN X0.here hx rfl (hb hby d52_22_0) rfl ?_
    refine XS.iload X0.here hx rfl (hb hby d52_22_1) rfl ?_
    refine XS.aloadN X0.here hx rfl (hb hby d52_22_3) rfl rfl ?_
    show SS pP eE bS s₁ (mkF mM 4 (Lc_cb0_2_0_0 a1 s a2) [(.ref a1), (.int (2 : Int32)), (.int s)]) _
    refine st101 _ ?_
    show SS pP eE bS T101 (mkF mM 7 (Lc_cb0_2_0_0 a1 s a2) []) _
    refine XS.iconst X101.here hx rfl (hb hby d52_22_7) ?_
    refine XS.istore X101.here hx rfl (hb hby d52_22_8) rfl (l' := (Lc_cb0_2_0_1 a1 s a2)) rfl ?_
    refine XS.iload X101.here hx rfl (hb hby d52_22_10) rfl ?_
    refine XS.iload X101.here hx rfl (hb hby d52_22_12) rfl ?_
    show SS pP eE bS T101 (mkF mM 14 (Lc_cb0_2_0_1 a1 s a2) [(.int (2 : Int32)), (.int (0 : Int32))]) _
    refine XS.icmpNo X101.here hx rfl (hb hby d52_22_14) rfl (tlt (by decide : (0 : Int32) < (2 : Int32))).2.1 ?_
    refine XS.aloadN X101.here hx rfl (hb hby d52_22_17) rfl rfl ?_
    refine XS.iloadN X101.here hx rfl (hb hby d52_22_18) rfl ?_
    show SS pP eE bS T101 (mkF mM 19 (Lc_cb0_2_0_1 a1 s a2) [(.int s), (.ref a1)]) _
    refine st102 _ ?_
    show SS pP eE bS T102 (mkF mM 22 (Lc_cb0_2_0_1 a1 s a2) [(.int d0)]) _
    refine XS.istore X102.here hx rfl (hb hby d52_22_22) rfl (l' := (Lc_cb0_2_0_2 a1 s a2 d0)) rfl ?_
    refine XS.iload X102.here hx rfl (hb hby d52_22_24) rfl ?_
    refine XS.sipush X102.here hx rfl (hb hby d52_22_26) ?_
    refine XS.icmpNo X102.here hx rfl (hb hby d52_22_29) rfl (tlt g0).2.2.2 ?_
    show SS pP eE bS T102 (mkF mM 32 (Lc_cb0_2_0_2 a1 s a2 d0) []) _
    refine XS.iload X102.here hx rfl (hb hby d52_22_32) rfl ?_
    show SS pP eE bS T102 (mkF mM 34 (Lc_cb0_2_0_2 a1 s a2 d0) [(.int (0 : Int32))]) _
    exact retI X102 hx Bd.returns (hb hby d52_22_34) hr
  · show Q_c0 Z a2 [d0, d1] h0 n0 _ T102.heap _
    rw [e102]
    exact ⟨(0 : Int32), d0, rfl, N102, (Keep.refl h0 [a2]), (⟨0, by decide, rfl, rfl, g0⟩)⟩
abbrev Lc_cb0_2_1_0 (a1 : Addr) (s : Int32) (a2 : Addr) : Array Slot := #[.val (.ref a1), .val (.int s), .val (.ref a2), .val (.int (0 : Int32)), .val (.int (2 : Int32)), .unset, .unset]
abbrev Lc_cb0_2_1_1 (a1 : Addr) (s : Int32) (a2 : Addr) : Array Slot := #[.val (.ref a1), .val (.int s), .val (.ref a2), .val (.int (0 : Int32)), .val (.int (2 : Int32)), .val (.int (0 : Int32)), .unset]
abbrev Lc_cb0_2_1_2 (a1 : Addr) (s : Int32) (a2 : Addr) (d0 : Int32) : Array Slot := #[.val (.ref a1), .val (.int s), .val (.ref a2), .val (.int (0 : Int32)), .val (.int (2 : Int32)), .val (.int (0 : Int32)), .val (.int d0)]
abbrev Lc_cb0_2_1_3 (a1 : Addr) (s : Int32) (a2 : Addr) (d0 : Int32) : Array Slot := #[.val (.ref a1), .val (.int (s + (1 : Int32))), .val (.ref a2), .val (.int (0 : Int32)), .val (.int (2 : Int32)), .val (.int (0 : Int32)), .val (.int d0)]
abbrev Lc_cb0_2_1_4 (a1 : Addr) (s : Int32) (a2 : Addr) (d0 : Int32) : Array Slot := #[.val (.ref a1), .val (.int (s + (1 : Int32))), .val (.ref a2), .val (.int (1 : Int32)), .val (.int (2 : Int32)), .val (.int (0 : Int32)), .val (.int d0)]
abbrev Lc_cb0_2_1_5 (a1 : Addr) (s : Int32) (a2 : Addr) (d0 : Int32) : Array Slot := #[.val (.ref a1), .val (.int (s + (1 : Int32))), .val (.ref a2), .val (.int (1 : Int32)), .val (.int (2 : Int32)), .val (.int (1 : Int32)), .val (.int d0)]
abbrev Lc_cb0_2_1_6 (a1 : Addr) (s : Int32) (a2 : Addr) (d1 : Int32) : Array Slot := #[.val (.ref a1), .val (.int (s + (1 : Int32))), .val (.ref a2), .val (.int (1 : Int32)), .val (.int (2 : Int32)), .val (.int (1 : Int32)), .val (.int d1)]
theorem ef_cb0_2_1 (mM : MethodId) (a1 : Addr) (a2 : Addr) (k1 : ClassId) (k2 : ClassId) (s : Int32) (nn : Int32) (z : Int32) (vs : List Value) (d0 : Int32) (d1 : Int32) (fo : Value) : entryFrame mM #[(.ref a1), (.int s), (.ref a2), (.int (0 : Int32)), (.int (2 : Int32))] 7 = mkF mM 0 #[.val (.ref a1), .val (.int s), .val (.ref a2), .val (.int (0 : Int32)), .val (.int (2 : Int32)), .unset, .unset] [] := by
  first | (simp [entryFrame, mkF, argsToLocals, Value.category]; done) | rfl
theorem rm_cb0_2_1 (l : Launch) (Z : State) (a0 : Array Value) (hw : HW a0 Z) (ws : List Jvm.Cond) (a1 : Addr) (a2 : Addr) (k1 : ClassId) (k2 : ClassId) (s : Int32) (nn : Int32) (z : Int32) (vs : List Value) (d0 : Int32) (d1 : Int32) (fo : Value) (h0 : Heap) (n0 : Nat) (Z0 : n0 ≤ h0.size) (V_a1 : Arv Z h0 a1 k1 .byte z vs (.int (0 : Int32))) (V_a2 : Arv Z h0 a2 k2 .byte (2 : Int32) [] (.int (0 : Int32))) (ne_a1_a2 : @Ne Nat a1 a2) (g_a2 : @LE.le Nat _ n0 a2) (hzn : (z >>> ((1 : Int32) &&& 31)) = nn) (hA : ¬ (((nn ||| s) ||| (2 : Int32)) < (0 : Int32))) (hB : ¬ ((nn - s) < (2 : Int32))) (q0 : ¬ ((255 : Int32) < d0)) (g1 : (255 : Int32) < d1) (hg0 : GCp z vs s d0) (hg1 : GCp z vs (s + (1 : Int32)) d1) (OL : Old Z n0 h0) (S__assertionsDisabled : Sta Z Z.heap "java/lang/StringUTF16" "$assertionsDisabled" "Z" (.int (1 : Int32))) (S_HI_BYTE_SHIFT : Sta Z Z.heap "java/lang/StringUTF16" "HI_BYTE_SHIFT" "I" (.int (0 : Int32))) (S_LO_BYTE_SHIFT : Sta Z Z.heap "java/lang/StringUTF16" "LO_BYTE_SHIFT" "I" (.int (8 : Int32))) (hfo : (fo).isRef = true) (S_SIOOBE_FORMATTER : Sta Z Z.heap "jdk/internal/util/Preconditions" "SIOOBE_FORMATTER" "Ljava/util/function/BiFunction;" fo) :
    MetFree l y23_ (head1 (Jvm.Cond.code y23_ jdk_52_method_22_code 7 (some .int) :: ws) r3_0_0_43) (fun xa xU => xa = #[(.ref a1), (.int s), (.ref a2), (.int (0 : Int32)), (.int (2 : Int32))] ∧ Z.Warmed39 xU.vm ∧ xU.heap = h0) (fun _ _ _ _ _ => True) (fun _ xU xo xU' => ∃ xv xL, xo = .returned xv ∧ Q_c0 Z a2 [d0, d1] h0 n0 xv xU'.heap xL ∧ FrameEnd xU xo xU' xL r3_0_0_43.cells r3_0_0_43.slots) := by
  refine MetFree.of_bodySF (plainFor_of_name pn_java_lang_StringUTF16) hisR ?_
  intro pP eE sS mM argS bS methS cC s₁ Bd hml0 hP hK
  obtain ⟨rfl, hZ, hh⟩ := hP
  have hx := Bd.exec
  have hby := Bd.bytes
  have hml : cC.maxLocals = 7 := hml0
  have hown : sS.vm.findClass "java/lang/StringUTF16" = some mM.cls := findClass_of_methodNamed Bd.named
  have hnm := (name_of_methodNamed Bd.named Bd.method).1
  have X0 : Stand pP l eE r3_0_0_43 sS mM #[(.ref a1), (.int s), (.ref a2), (.int (0 : Int32)), (.int (2 : Int32))] bS methS cC s₁ [] 0 0 := Stand.of_body Bd
  have e0 : s₁.heap = h0 := by rw [← hh, Bd.state]; rfl
  have N0 := Fr.nil n0
  have Vp : Arv Z h0 a2 k2 .byte (2 : Int32) [(.int (0 : Int32)), (.int (0 : Int32))] (.int (0 : Int32)) := V_a2.pad (pad_rep [] (.int (0 : Int32)) 2)
  obtain ⟨_, _, ⟨T101, L101, k101, n101⟩, -, X101, ⟨Lc101, hQ101, l101, y101, z101⟩, st101⟩ := Jvm.LawKit.callS X0 hx (y := y22_) hown (mvT hZ (wi hw 190 rfl)) (mvT hZ (wi hw 191 rfl)) (mvT hZ (wi hw 18 rfl)) (mvT hZ (wi hw 192 rfl)) (by decide) (backOf (W := 0) (rm_ucbo l Z a0 hw [] s (2 : Int32) a1 k1 z vs nn fo h0 n0 (by omega) hfo V_a1 hzn hA hB OL S_SIOOBE_FORMATTER) hZ (wi hw 192 rfl) (wi hw 18 rfl) (by decide) (by decide)) (g := (mkF mM 4 (Lc_cb0_2_1_0 a1 s a2) [(.ref a1), (.int (2 : Int32)), (.int s)])) rfl (by rw [hml]; rfl) (argsL := [(.int s), (.int (2 : Int32)), (.ref a1)]) (rest := []) (lenOf pd_30 rfl) rfl (by show 2 * 0 + _ ≤ _; exact Nat.le_of_eq rfl) (hb hby d52_22_4) (fun _ _ => ⟨rfl, e0, ble rfl, ble rfl⟩)
  dsimp only [Pt.U, Pt.locs, Pt.cells, Pt.slots] at X101 l101 y101 z101 st101 hQ101
  subst y101 z101
  obtain ⟨h101, e101⟩ : ∃ z, T101.heap = z := ⟨_, rfl⟩
  rw [e101] at hQ101
  obtain ⟨rfl, N101q, eq101⟩ := hQ101
  rw [eq101] at e101
  have N101 : Fr n0 L101 := by rw [l101]; exact Fr.app N0 N101q
  obtain ⟨_, _, ⟨T102, L102, k102, n102⟩, -, X102, ⟨Lc102, hQ102, l102, y102, z102⟩, st102⟩ := Jvm.LawKit.callS X101 hx (y := y0_) hown (mvT hZ (wi hw 140 rfl)) (mvT hZ (wi hw 141 rfl)) (mvT hZ (wi hw 18 rfl)) (mvT hZ (wi hw 142 rfl)) (by decide) (backOf (W := 0) (rm_getCharG l Z a0 hw [] a1 k1 z vs s d0 h0 n0 (by omega) V_a1 OL S__assertionsDisabled S_HI_BYTE_SHIFT S_LO_BYTE_SHIFT hg0) hZ (wi hw 142 rfl) (wi hw 18 rfl) (by decide) (by decide)) (g := (mkF mM 19 (Lc_cb0_2_1_1 a1 s a2) [(.int s), (.ref a1)])) rfl (by rw [hml]; rfl) (argsL := [(.ref a1), (.int s)]) (rest := []) (lenOf pd_21 rfl) rfl (by show 2 * 0 + _ ≤ _; exact Nat.le_of_eq rfl) (hb hby d52_22_19) (fun _ _ => ⟨rfl, e101, ble rfl, ble rfl⟩)
  dsimp only [Pt.U, Pt.locs, Pt.cells, Pt.slots] at X102 l102 y102 z102 st102 hQ102
  subst y102 z102
  obtain ⟨h102, e102⟩ : ∃ z, T102.heap = z := ⟨_, rfl⟩
  rw [e102] at hQ102
  obtain ⟨rfl, N102q, eq102⟩ := hQ102
  rw [eq102] at e102
  have N102 : Fr n0 L102 := by rw [l102]; exact Fr.app N101 N102q
  obtain ⟨cl103, Ar103, q103, S103, Ng103, Ha103, Ga103⟩ := id Vp
  have hin103 : ¬ ((0 : Int32) < 0 ∨ cl103.slots.size ≤ ((0 : Int32)).toNatClampNeg) := inb_of S103 ⟨by decide, by decide⟩
  obtain ⟨T104, h104, X104, e104, W104, st104⟩ := stB X102 hx hZ e102 Ar103 (j := (0 : Int32)) hin103 (g := (mkF mM 40 (Lc_cb0_2_1_2 a1 s a2 d0) [(.int (d0.toInt8.toInt32)), (.int (0 : Int32)), (.ref a2)])) rfl rfl (hb hby d52_22_40)
  have Sz1 : h0.size ≤ h104.size := Nat.le_of_eq (Wr.size W104).symm
  have Vs104 := Arv.set Ar103 q103 S103 Ng103 Ha103 Ga103 (fits_nar_byte _) W104 0 rfl (Nat.le_of_ble_eq_true rfl)
  have Vt104 : Arv Z h104 a2 k2 .byte (2 : Int32) [(.int d0.toInt8.toInt32), (.int (0 : Int32))] (.int (0 : Int32)) := by
    have q : Arv Z h104 a2 k2 .byte (2 : Int32) [(.int (d0.toInt8.toInt32).toInt8.toInt32), (.int (0 : Int32))] (.int (0 : Int32)) := Vs104
    rw [show ((.int (d0.toInt8.toInt32).toInt8.toInt32) : Value) = (.int d0.toInt8.toInt32) from congrArg Value.int (own_b8 d0)] at q
    exact q
  have N104 := Fr.snoc X104 N102 g_a2
  have c106_V_a1 : Arv Z h104 a1 k1 .byte z vs (.int (0 : Int32)) := V_a1.other W104 ne_a1_a2
  have c107_OL : Old Z n0 h104 := OL.wr W104 g_a2
  obtain ⟨_, _, ⟨T105, L105, k105, n105⟩, -, X105, ⟨Lc105, hQ105, l105, y105, z105⟩, st105⟩ := Jvm.LawKit.callS X104 hx (y := y0_) hown (mvT hZ (wi hw 140 rfl)) (mvT hZ (wi hw 141 rfl)) (mvT hZ (wi hw 18 rfl)) (mvT hZ (wi hw 142 rfl)) (by decide) (backOf (W := 0) (rm_getCharG l Z a0 hw [] a1 k1 z vs (s + (1 : Int32)) d1 h104 n0 (by omega) c106_V_a1 c107_OL S__assertionsDisabled S_HI_BYTE_SHIFT S_LO_BYTE_SHIFT hg1) hZ (wi hw 142 rfl) (wi hw 18 rfl) (by decide) (by decide)) (g := (mkF mM 19 (Lc_cb0_2_1_5 a1 s a2 d0) [(.int (s + (1 : Int32))), (.ref a1)])) rfl (by rw [hml]; rfl) (argsL := [(.ref a1), (.int (s + (1 : Int32)))]) (rest := []) (lenOf pd_21 rfl) rfl (by show 2 * 0 + _ ≤ _; exact Nat.le_of_eq rfl) (hb hby d52_22_19) (fun _ _ => ⟨rfl, e104, ble rfl, ble rfl⟩)
  dsimp only [Pt.U, Pt.locs, Pt.cells, Pt.slots] at X105 l105 y105 z105 st105 hQ105
  subst y105 z105
  obtain ⟨h105, e105⟩ : ∃ z, T105.heap = z := ⟨_, rfl⟩
  rw [e105] at hQ105
  obtain ⟨rfl, N105q, eq105⟩ := hQ105
  rw [eq105] at e105
  have N105 : Fr n0 L105 := by rw [l105]; exact Fr.app N104 N105q
  have K108 : Keep h0 h104 [a2] := (Keep.refl h0 [a2]).wr W104 (Or.inl (List.mem_of_getElem? (i := 0) rfl))
  obtain ⟨fs, hr, hrun, hended, hW, hsame⟩ := X105.leave (v := some (.int (1 : Int32))) (fun h => by rw [Bd.returns] at h; cases h)
  refine ⟨_, _, castTop (ef_cb0_2_1 mM a1 a2 k1 k2 s nn z vs d0 d1 fo) ?_, hrun, hended, _, _, rfl, ?_, ⟨_, rfl⟩, hW, hsame.mono (by decide) (by decide)⟩
  · show SS pP eE bS s₁ (mkF mM 0 (Lc_cb0_2_1_0 a1 s a2) []) _
    refine XS.iloadN X0.here hx rfl (hb hby d52_22_0) rfl ?_
    refine XS.iload X0.here hx rfl (hb hby d52_22_1) rfl ?_
    refine XS.aloadN X0.here hx rfl (hb hby d52_22_3) rfl rfl ?_
    show SS pP eE bS s₁ (mkF mM 4 (Lc_cb0_2_1_0 a1 s a2) [(.ref a1), (.int (2 : Int32)), (.int s)]) _
    refine st101 _ ?_
    show SS pP eE bS T101 (mkF mM 7 (Lc_cb0_2_1_0 a1 s a2) []) _
    refine XS.iconst X101.here hx rfl (hb hby d52_22_7) ?_
    refine XS.istore X101.here hx rfl (hb hby d52_22_8) rfl (l' := (Lc_cb0_2_1_1 a1 s a2)) rfl ?_
    refine XS.iload X101.here hx rfl (hb hby d52_22_10) rfl ?_
    refine XS.iload X101.here hx rfl (hb hby d52_22_12) rfl ?_
    show SS pP eE bS T101 (mkF mM 14 (Lc_cb0_2_1_1 a1 s a2) [(.int (2 : Int32)), (.int (0 : Int32))]) _
    refine XS.icmpNo X101.here hx rfl (hb hby d52_22_14) rfl (tlt (by decide : (0 : Int32) < (2 : Int32))).2.1 ?_
    refine XS.aloadN X101.here hx rfl (hb hby d52_22_17) rfl rfl ?_
    refine XS.iloadN X101.here hx rfl (hb hby d52_22_18) rfl ?_
    show SS pP eE bS T101 (mkF mM 19 (Lc_cb0_2_1_1 a1 s a2) [(.int s), (.ref a1)]) _
    refine st102 _ ?_
    show SS pP eE bS T102 (mkF mM 22 (Lc_cb0_2_1_1 a1 s a2) [(.int d0)]) _
    refine XS.istore X102.here hx rfl (hb hby d52_22_22) rfl (l' := (Lc_cb0_2_1_2 a1 s a2 d0)) rfl ?_
    refine XS.iload X102.here hx rfl (hb hby d52_22_24) rfl ?_
    refine XS.sipush X102.here hx rfl (hb hby d52_22_26) ?_
    refine XS.icmpYes X102.here hx rfl (pc0 := 29) (pc' := 35) rfl (hb hby d52_22_29) rfl (flt q0).2.2.2 (by decide) (by decide) ?_
    show SS pP eE bS T102 (mkF mM 35 (Lc_cb0_2_1_2 a1 s a2 d0) []) _
    refine XS.aloadN X102.here hx rfl (hb hby d52_22_35) rfl rfl ?_
    refine XS.iloadN X102.here hx rfl (hb hby d52_22_36) rfl ?_
    refine XS.iload X102.here hx rfl (hb hby d52_22_37) rfl ?_
    refine XS.i2b X102.here hx rfl (hb hby d52_22_39) rfl ?_
    show SS pP eE bS T102 (mkF mM 40 (Lc_cb0_2_1_2 a1 s a2 d0) [(.int (d0.toInt8.toInt32)), (.int (0 : Int32)), (.ref a2)]) _
    refine st104 _ ?_
    show SS pP eE bS T104 (mkF mM 41 (Lc_cb0_2_1_2 a1 s a2 d0) []) _
    refine XS.iinc X104.here hx rfl (hb hby d52_22_41) rfl (l' := (Lc_cb0_2_1_3 a1 s a2 d0)) rfl ?_
    refine XS.iinc X104.here hx rfl (hb hby d52_22_44) rfl (l' := (Lc_cb0_2_1_4 a1 s a2 d0)) rfl ?_
    refine XS.iinc X104.here hx rfl (hb hby d52_22_47) rfl (l' := (Lc_cb0_2_1_5 a1 s a2 d0)) rfl ?_
    refine XS.goto X104.here hx rfl (pc0 := 50) (pc' := 10) rfl (hb hby d52_22_50) (by decide) (by decide) ?_
    show SS pP eE bS T104 (mkF mM 10 (Lc_cb0_2_1_5 a1 s a2 d0) []) _
    refine XS.iload X104.here hx rfl (hb hby d52_22_10) rfl ?_
    refine XS.iload X104.here hx rfl (hb hby d52_22_12) rfl ?_
    refine XS.icmpNo X104.here hx rfl (hb hby d52_22_14) rfl (tlt (by decide : (1 : Int32) < (2 : Int32))).2.1 ?_
    refine XS.aloadN X104.here hx rfl (hb hby d52_22_17) rfl rfl ?_
    show SS pP eE bS T104 (mkF mM 18 (Lc_cb0_2_1_5 a1 s a2 d0) [(.ref a1)]) _
    refine XS.iloadN X104.here hx rfl (hb hby d52_22_18) rfl ?_
    show SS pP eE bS T104 (mkF mM 19 (Lc_cb0_2_1_5 a1 s a2 d0) [(.int (s + (1 : Int32))), (.ref a1)]) _
    refine st105 _ ?_
    show SS pP eE bS T105 (mkF mM 22 (Lc_cb0_2_1_5 a1 s a2 d0) [(.int d1)]) _
    refine XS.istore X105.here hx rfl (hb hby d52_22_22) rfl (l' := (Lc_cb0_2_1_6 a1 s a2 d1)) rfl ?_
    refine XS.iload X105.here hx rfl (hb hby d52_22_24) rfl ?_
    refine XS.sipush X105.here hx rfl (hb hby d52_22_26) ?_
    refine XS.icmpNo X105.here hx rfl (hb hby d52_22_29) rfl (tlt g1).2.2.2 ?_
    show SS pP eE bS T105 (mkF mM 32 (Lc_cb0_2_1_6 a1 s a2 d1) []) _
    refine XS.iload X105.here hx rfl (hb hby d52_22_32) rfl ?_
    show SS pP eE bS T105 (mkF mM 34 (Lc_cb0_2_1_6 a1 s a2 d1) [(.int (1 : Int32))]) _
    exact retI X105 hx Bd.returns (hb hby d52_22_34) hr
  · show Q_c0 Z a2 [d0, d1] h0 n0 _ T105.heap _
    rw [e105]
    exact ⟨(1 : Int32), d1, rfl, N105, K108, (⟨1, by decide, rfl, rfl, g1⟩)⟩
abbrev Lc_cb0_2_2_0 (a1 : Addr) (s : Int32) (a2 : Addr) : Array Slot := #[.val (.ref a1), .val (.int s), .val (.ref a2), .val (.int (0 : Int32)), .val (.int (2 : Int32)), .unset, .unset]
abbrev Lc_cb0_2_2_1 (a1 : Addr) (s : Int32) (a2 : Addr) : Array Slot := #[.val (.ref a1), .val (.int s), .val (.ref a2), .val (.int (0 : Int32)), .val (.int (2 : Int32)), .val (.int (0 : Int32)), .unset]
abbrev Lc_cb0_2_2_2 (a1 : Addr) (s : Int32) (a2 : Addr) (d0 : Int32) : Array Slot := #[.val (.ref a1), .val (.int s), .val (.ref a2), .val (.int (0 : Int32)), .val (.int (2 : Int32)), .val (.int (0 : Int32)), .val (.int d0)]
abbrev Lc_cb0_2_2_3 (a1 : Addr) (s : Int32) (a2 : Addr) (d0 : Int32) : Array Slot := #[.val (.ref a1), .val (.int (s + (1 : Int32))), .val (.ref a2), .val (.int (0 : Int32)), .val (.int (2 : Int32)), .val (.int (0 : Int32)), .val (.int d0)]
abbrev Lc_cb0_2_2_4 (a1 : Addr) (s : Int32) (a2 : Addr) (d0 : Int32) : Array Slot := #[.val (.ref a1), .val (.int (s + (1 : Int32))), .val (.ref a2), .val (.int (1 : Int32)), .val (.int (2 : Int32)), .val (.int (0 : Int32)), .val (.int d0)]
abbrev Lc_cb0_2_2_5 (a1 : Addr) (s : Int32) (a2 : Addr) (d0 : Int32) : Array Slot := #[.val (.ref a1), .val (.int (s + (1 : Int32))), .val (.ref a2), .val (.int (1 : Int32)), .val (.int (2 : Int32)), .val (.int (1 : Int32)), .val (.int d0)]
abbrev Lc_cb0_2_2_6 (a1 : Addr) (s : Int32) (a2 : Addr) (d1 : Int32) : Array Slot := #[.val (.ref a1), .val (.int (s + (1 : Int32))), .val (.ref a2), .val (.int (1 : Int32)), .val (.int (2 : Int32)), .val (.int (1 : Int32)), .val (.int d1)]
abbrev Lc_cb0_2_2_7 (a1 : Addr) (s : Int32) (a2 : Addr) (d1 : Int32) : Array Slot := #[.val (.ref a1), .val (.int ((s + (1 : Int32)) + (1 : Int32))), .val (.ref a2), .val (.int (1 : Int32)), .val (.int (2 : Int32)), .val (.int (1 : Int32)), .val (.int d1)]
abbrev Lc_cb0_2_2_8 (a1 : Addr) (s : Int32) (a2 : Addr) (d1 : Int32) : Array Slot := #[.val (.ref a1), .val (.int ((s + (1 : Int32)) + (1 : Int32))), .val (.ref a2), .val (.int (2 : Int32)), .val (.int (2 : Int32)), .val (.int (1 : Int32)), .val (.int d1)]
abbrev Lc_cb0_2_2_9 (a1 : Addr) (s : Int32) (a2 : Addr) (d1 : Int32) : Array Slot := #[.val (.ref a1), .val (.int ((s + (1 : Int32)) + (1 : Int32))), .val (.ref a2), .val (.int (2 : Int32)), .val (.int (2 : Int32)), .val (.int (2 : Int32)), .val (.int d1)]
theorem ef_cb0_2_2 (mM : MethodId) (a1 : Addr) (a2 : Addr) (k1 : ClassId) (k2 : ClassId) (s : Int32) (nn : Int32) (z : Int32) (vs : List Value) (d0 : Int32) (d1 : Int32) (fo : Value) : entryFrame mM #[(.ref a1), (.int s), (.ref a2), (.int (0 : Int32)), (.int (2 : Int32))] 7 = mkF mM 0 #[.val (.ref a1), .val (.int s), .val (.ref a2), .val (.int (0 : Int32)), .val (.int (2 : Int32)), .unset, .unset] [] := by
  first | (simp [entryFrame, mkF, argsToLocals, Value.category]; done) | rfl
theorem rm_cb0_2_2 (l : Launch) (Z : State) (a0 : Array Value) (hw : HW a0 Z) (ws : List Jvm.Cond) (a1 : Addr) (a2 : Addr) (k1 : ClassId) (k2 : ClassId) (s : Int32) (nn : Int32) (z : Int32) (vs : List Value) (d0 : Int32) (d1 : Int32) (fo : Value) (h0 : Heap) (n0 : Nat) (Z0 : n0 ≤ h0.size) (V_a1 : Arv Z h0 a1 k1 .byte z vs (.int (0 : Int32))) (V_a2 : Arv Z h0 a2 k2 .byte (2 : Int32) [] (.int (0 : Int32))) (ne_a1_a2 : @Ne Nat a1 a2) (g_a2 : @LE.le Nat _ n0 a2) (hzn : (z >>> ((1 : Int32) &&& 31)) = nn) (hA : ¬ (((nn ||| s) ||| (2 : Int32)) < (0 : Int32))) (hB : ¬ ((nn - s) < (2 : Int32))) (q0 : ¬ ((255 : Int32) < d0)) (q1 : ¬ ((255 : Int32) < d1)) (hg0 : GCp z vs s d0) (hg1 : GCp z vs (s + (1 : Int32)) d1) (OL : Old Z n0 h0) (S__assertionsDisabled : Sta Z Z.heap "java/lang/StringUTF16" "$assertionsDisabled" "Z" (.int (1 : Int32))) (S_HI_BYTE_SHIFT : Sta Z Z.heap "java/lang/StringUTF16" "HI_BYTE_SHIFT" "I" (.int (0 : Int32))) (S_LO_BYTE_SHIFT : Sta Z Z.heap "java/lang/StringUTF16" "LO_BYTE_SHIFT" "I" (.int (8 : Int32))) (hfo : (fo).isRef = true) (S_SIOOBE_FORMATTER : Sta Z Z.heap "jdk/internal/util/Preconditions" "SIOOBE_FORMATTER" "Ljava/util/function/BiFunction;" fo) :
    MetFree l y23_ (head1 (Jvm.Cond.code y23_ jdk_52_method_22_code 7 (some .int) :: ws) r3_0_0_43) (fun xa xU => xa = #[(.ref a1), (.int s), (.ref a2), (.int (0 : Int32)), (.int (2 : Int32))] ∧ Z.Warmed39 xU.vm ∧ xU.heap = h0) (fun _ _ _ _ _ => True) (fun _ xU xo xU' => ∃ xv xL, xo = .returned xv ∧ Q_c1 Z a2 k2 (2 : Int32) [d0, d1] h0 n0 xv xU'.heap xL ∧ FrameEnd xU xo xU' xL r3_0_0_43.cells r3_0_0_43.slots) := by
  refine MetFree.of_bodySF (plainFor_of_name pn_java_lang_StringUTF16) hisR ?_
  intro pP eE sS mM argS bS methS cC s₁ Bd hml0 hP hK
  obtain ⟨rfl, hZ, hh⟩ := hP
  have hx := Bd.exec
  have hby := Bd.bytes
  have hml : cC.maxLocals = 7 := hml0
  have hown : sS.vm.findClass "java/lang/StringUTF16" = some mM.cls := findClass_of_methodNamed Bd.named
  have hnm := (name_of_methodNamed Bd.named Bd.method).1
  have X0 : Stand pP l eE r3_0_0_43 sS mM #[(.ref a1), (.int s), (.ref a2), (.int (0 : Int32)), (.int (2 : Int32))] bS methS cC s₁ [] 0 0 := Stand.of_body Bd
  have e0 : s₁.heap = h0 := by rw [← hh, Bd.state]; rfl
  have N0 := Fr.nil n0
  have Vp : Arv Z h0 a2 k2 .byte (2 : Int32) [(.int (0 : Int32)), (.int (0 : Int32))] (.int (0 : Int32)) := V_a2.pad (pad_rep [] (.int (0 : Int32)) 2)
  obtain ⟨_, _, ⟨T101, L101, k101, n101⟩, -, X101, ⟨Lc101, hQ101, l101, y101, z101⟩, st101⟩ := Jvm.LawKit.callS X0 hx (y := y22_) hown (mvT hZ (wi hw 190 rfl)) (mvT hZ (wi hw 191 rfl)) (mvT hZ (wi hw 18 rfl)) (mvT hZ (wi hw 192 rfl)) (by decide) (backOf (W := 0) (rm_ucbo l Z a0 hw [] s (2 : Int32) a1 k1 z vs nn fo h0 n0 (by omega) hfo V_a1 hzn hA hB OL S_SIOOBE_FORMATTER) hZ (wi hw 192 rfl) (wi hw 18 rfl) (by decide) (by decide)) (g := (mkF mM 4 (Lc_cb0_2_2_0 a1 s a2) [(.ref a1), (.int (2 : Int32)), (.int s)])) rfl (by rw [hml]; rfl) (argsL := [(.int s), (.int (2 : Int32)), (.ref a1)]) (rest := []) (lenOf pd_30 rfl) rfl (by show 2 * 0 + _ ≤ _; exact Nat.le_of_eq rfl) (hb hby d52_22_4) (fun _ _ => ⟨rfl, e0, ble rfl, ble rfl⟩)
  dsimp only [Pt.U, Pt.locs, Pt.cells, Pt.slots] at X101 l101 y101 z101 st101 hQ101
  subst y101 z101
  obtain ⟨h101, e101⟩ : ∃ z, T101.heap = z := ⟨_, rfl⟩
  rw [e101] at hQ101
  obtain ⟨rfl, N101q, eq101⟩ := hQ101
  rw [eq101] at e101
  have N101 : Fr n0 L101 := by rw [l101]; exact Fr.app N0 N101q
  obtain ⟨_, _, ⟨T102, L102, k102, n102⟩, -, X102, ⟨Lc102, hQ102, l102, y102, z102⟩, st102⟩ := Jvm.LawKit.callS X101 hx (y := y0_) hown (mvT hZ (wi hw 140 rfl)) (mvT hZ (wi hw 141 rfl)) (mvT hZ (wi hw 18 rfl)) (mvT hZ (wi hw 142 rfl)) (by decide) (backOf (W := 0) (rm_getCharG l Z a0 hw [] a1 k1 z vs s d0 h0 n0 (by omega) V_a1 OL S__assertionsDisabled S_HI_BYTE_SHIFT S_LO_BYTE_SHIFT hg0) hZ (wi hw 142 rfl) (wi hw 18 rfl) (by decide) (by decide)) (g := (mkF mM 19 (Lc_cb0_2_2_1 a1 s a2) [(.int s), (.ref a1)])) rfl (by rw [hml]; rfl) (argsL := [(.ref a1), (.int s)]) (rest := []) (lenOf pd_21 rfl) rfl (by show 2 * 0 + _ ≤ _; exact Nat.le_of_eq rfl) (hb hby d52_22_19) (fun _ _ => ⟨rfl, e101, ble rfl, ble rfl⟩)
  dsimp only [Pt.U, Pt.locs, Pt.cells, Pt.slots] at X102 l102 y102 z102 st102 hQ102
  subst y102 z102
  obtain ⟨h102, e102⟩ : ∃ z, T102.heap = z := ⟨_, rfl⟩
  rw [e102] at hQ102
  obtain ⟨rfl, N102q, eq102⟩ := hQ102
  rw [eq102] at e102
  have N102 : Fr n0 L102 := by rw [l102]; exact Fr.app N101 N102q
  obtain ⟨cl103, Ar103, q103, S103, Ng103, Ha103, Ga103⟩ := id Vp
  have hin103 : ¬ ((0 : Int32) < 0 ∨ cl103.slots.size ≤ ((0 : Int32)).toNatClampNeg) := inb_of S103 ⟨by decide, by decide⟩
  obtain ⟨T104, h104, X104, e104, W104, st104⟩ := stB X102 hx hZ e102 Ar103 (j := (0 : Int32)) hin103 (g := (mkF mM 40 (Lc_cb0_2_2_2 a1 s a2 d0) [(.int (d0.toInt8.toInt32)), (.int (0 : Int32)), (.ref a2)])) rfl rfl (hb hby d52_22_40)
  have Sz1 : h0.size ≤ h104.size := Nat.le_of_eq (Wr.size W104).symm
  have Vs104 := Arv.set Ar103 q103 S103 Ng103 Ha103 Ga103 (fits_nar_byte _) W104 0 rfl (Nat.le_of_ble_eq_true rfl)
  have Vt104 : Arv Z h104 a2 k2 .byte (2 : Int32) [(.int d0.toInt8.toInt32), (.int (0 : Int32))] (.int (0 : Int32)) := by
    have q : Arv Z h104 a2 k2 .byte (2 : Int32) [(.int (d0.toInt8.toInt32).toInt8.toInt32), (.int (0 : Int32))] (.int (0 : Int32)) := Vs104
    rw [show ((.int (d0.toInt8.toInt32).toInt8.toInt32) : Value) = (.int d0.toInt8.toInt32) from congrArg Value.int (own_b8 d0)] at q
    exact q
  have N104 := Fr.snoc X104 N102 g_a2
  have c106_V_a1 : Arv Z h104 a1 k1 .byte z vs (.int (0 : Int32)) := V_a1.other W104 ne_a1_a2
  have c107_OL : Old Z n0 h104 := OL.wr W104 g_a2
  obtain ⟨_, _, ⟨T105, L105, k105, n105⟩, -, X105, ⟨Lc105, hQ105, l105, y105, z105⟩, st105⟩ := Jvm.LawKit.callS X104 hx (y := y0_) hown (mvT hZ (wi hw 140 rfl)) (mvT hZ (wi hw 141 rfl)) (mvT hZ (wi hw 18 rfl)) (mvT hZ (wi hw 142 rfl)) (by decide) (backOf (W := 0) (rm_getCharG l Z a0 hw [] a1 k1 z vs (s + (1 : Int32)) d1 h104 n0 (by omega) c106_V_a1 c107_OL S__assertionsDisabled S_HI_BYTE_SHIFT S_LO_BYTE_SHIFT hg1) hZ (wi hw 142 rfl) (wi hw 18 rfl) (by decide) (by decide)) (g := (mkF mM 19 (Lc_cb0_2_2_5 a1 s a2 d0) [(.int (s + (1 : Int32))), (.ref a1)])) rfl (by rw [hml]; rfl) (argsL := [(.ref a1), (.int (s + (1 : Int32)))]) (rest := []) (lenOf pd_21 rfl) rfl (by show 2 * 0 + _ ≤ _; exact Nat.le_of_eq rfl) (hb hby d52_22_19) (fun _ _ => ⟨rfl, e104, ble rfl, ble rfl⟩)
  dsimp only [Pt.U, Pt.locs, Pt.cells, Pt.slots] at X105 l105 y105 z105 st105 hQ105
  subst y105 z105
  obtain ⟨h105, e105⟩ : ∃ z, T105.heap = z := ⟨_, rfl⟩
  rw [e105] at hQ105
  obtain ⟨rfl, N105q, eq105⟩ := hQ105
  rw [eq105] at e105
  have N105 : Fr n0 L105 := by rw [l105]; exact Fr.app N104 N105q
  obtain ⟨cl108, Ar108, q108, S108, Ng108, Ha108, Ga108⟩ := id Vt104
  have hin108 : ¬ ((1 : Int32) < 0 ∨ cl108.slots.size ≤ ((1 : Int32)).toNatClampNeg) := inb_of S108 ⟨by decide, by decide⟩
  obtain ⟨T109, h109, X109, e109, W109, st109⟩ := stB X105 hx hZ e105 Ar108 (j := (1 : Int32)) hin108 (g := (mkF mM 40 (Lc_cb0_2_2_6 a1 s a2 d1) [(.int (d1.toInt8.toInt32)), (.int (1 : Int32)), (.ref a2)])) rfl rfl (hb hby d52_22_40)
  have Sz2 : h104.size ≤ h109.size := Nat.le_of_eq (Wr.size W109).symm
  have Vs109 := Arv.set Ar108 q108 S108 Ng108 Ha108 Ga108 (fits_nar_byte _) W109 1 rfl (Nat.le_of_ble_eq_true rfl)
  have Vt109 : Arv Z h109 a2 k2 .byte (2 : Int32) [(.int d0.toInt8.toInt32), (.int d1.toInt8.toInt32)] (.int (0 : Int32)) := by
    have q : Arv Z h109 a2 k2 .byte (2 : Int32) [(.int d0.toInt8.toInt32), (.int (d1.toInt8.toInt32).toInt8.toInt32)] (.int (0 : Int32)) := Vs109
    rw [show ((.int (d1.toInt8.toInt32).toInt8.toInt32) : Value) = (.int d1.toInt8.toInt32) from congrArg Value.int (own_b8 d1)] at q
    exact q
  have N109 := Fr.snoc X109 N105 g_a2
  have K110 : Keep h0 h104 [a2] := (Keep.refl h0 [a2]).wr W104 (Or.inl (List.mem_of_getElem? (i := 0) rfl))
  have K111 : Keep h0 h109 [a2] := K110.wr W109 (Or.inl (List.mem_of_getElem? (i := 0) rfl))
  obtain ⟨fs, hr, hrun, hended, hW, hsame⟩ := X109.leave (v := some (.int (2 : Int32))) (fun h => by rw [Bd.returns] at h; cases h)
  refine ⟨_, _, castTop (ef_cb0_2_2 mM a1 a2 k1 k2 s nn z vs d0 d1 fo) ?_, hrun, hended, _, _, rfl, ?_, ⟨_, rfl⟩, hW, hsame.mono (by decide) (by decide)⟩
  · show SS pP eE bS s₁ (mkF mM 0 (Lc_cb0_2_2_0 a1 s a2) []) _
    refine XS.iloadN X0.here hx rfl (hb hby d52_22_0) rfl ?_
    refine XS.iload X0.here hx rfl (hb hby d52_22_1) rfl ?_
    refine XS.aloadN X0.here hx rfl (hb hby d52_22_3) rfl rfl ?_
    show SS pP eE bS s₁ (mkF mM 4 (Lc_cb0_2_2_0 a1 s a2) [(.ref a1), (.int (2 : Int32)), (.int s)]) _
    refine st101 _ ?_
    show SS pP eE bS T101 (mkF mM 7 (Lc_cb0_2_2_0 a1 s a2) []) _
    refine XS.iconst X101.here hx rfl (hb hby d52_22_7) ?_
    refine XS.istore X101.here hx rfl (hb hby d52_22_8) rfl (l' := (Lc_cb0_2_2_1 a1 s a2)) rfl ?_
    refine XS.iload X101.here hx rfl (hb hby d52_22_10) rfl ?_
    refine XS.iload X101.here hx rfl (hb hby d52_22_12) rfl ?_
    show SS pP eE bS T101 (mkF mM 14 (Lc_cb0_2_2_1 a1 s a2) [(.int (2 : Int32)), (.int (0 : Int32))]) _
    refine XS.icmpNo X101.here hx rfl (hb hby d52_22_14) rfl (tlt (by decide : (0 : Int32) < (2 : Int32))).2.1 ?_
    refine XS.aloadN X101.here hx rfl (hb hby d52_22_17) rfl rfl ?_
    refine XS.iloadN X101.here hx rfl (hb hby d52_22_18) rfl ?_
    show SS pP eE bS T101 (mkF mM 19 (Lc_cb0_2_2_1 a1 s a2) [(.int s), (.ref a1)]) _
    refine st102 _ ?_
    show SS pP eE bS T102 (mkF mM 22 (Lc_cb0_2_2_1 a1 s a2) [(.int d0)]) _
    refine XS.istore X102.here hx rfl (hb hby d52_22_22) rfl (l' := (Lc_cb0_2_2_2 a1 s a2 d0)) rfl ?_
    refine XS.iload X102.here hx rfl (hb hby d52_22_24) rfl ?_
    refine XS.sipush X102.here hx rfl (hb hby d52_22_26) ?_
    refine XS.icmpYes X102.here hx rfl (pc0 := 29) (pc' := 35) rfl (hb hby d52_22_29) rfl (flt q0).2.2.2 (by decide) (by decide) ?_
    show SS pP eE bS T102 (mkF mM 35 (Lc_cb0_2_2_2 a1 s a2 d0) []) _
    refine XS.aloadN X102.here hx rfl (hb hby d52_22_35) rfl rfl ?_
    refine XS.iloadN X102.here hx rfl (hb hby d52_22_36) rfl ?_
    refine XS.iload X102.here hx rfl (hb hby d52_22_37) rfl ?_
    refine XS.i2b X102.here hx rfl (hb hby d52_22_39) rfl ?_
    show SS pP eE bS T102 (mkF mM 40 (Lc_cb0_2_2_2 a1 s a2 d0) [(.int (d0.toInt8.toInt32)), (.int (0 : Int32)), (.ref a2)]) _
    refine st104 _ ?_
    show SS pP eE bS T104 (mkF mM 41 (Lc_cb0_2_2_2 a1 s a2 d0) []) _
    refine XS.iinc X104.here hx rfl (hb hby d52_22_41) rfl (l' := (Lc_cb0_2_2_3 a1 s a2 d0)) rfl ?_
    refine XS.iinc X104.here hx rfl (hb hby d52_22_44) rfl (l' := (Lc_cb0_2_2_4 a1 s a2 d0)) rfl ?_
    refine XS.iinc X104.here hx rfl (hb hby d52_22_47) rfl (l' := (Lc_cb0_2_2_5 a1 s a2 d0)) rfl ?_
    refine XS.goto X104.here hx rfl (pc0 := 50) (pc' := 10) rfl (hb hby d52_22_50) (by decide) (by decide) ?_
    show SS pP eE bS T104 (mkF mM 10 (Lc_cb0_2_2_5 a1 s a2 d0) []) _
    refine XS.iload X104.here hx rfl (hb hby d52_22_10) rfl ?_
    refine XS.iload X104.here hx rfl (hb hby d52_22_12) rfl ?_
    refine XS.icmpNo X104.here hx rfl (hb hby d52_22_14) rfl (tlt (by decide : (1 : Int32) < (2 : Int32))).2.1 ?_
    refine XS.aloadN X104.here hx rfl (hb hby d52_22_17) rfl rfl ?_
    show SS pP eE bS T104 (mkF mM 18 (Lc_cb0_2_2_5 a1 s a2 d0) [(.ref a1)]) _
    refine XS.iloadN X104.here hx rfl (hb hby d52_22_18) rfl ?_
    show SS pP eE bS T104 (mkF mM 19 (Lc_cb0_2_2_5 a1 s a2 d0) [(.int (s + (1 : Int32))), (.ref a1)]) _
    refine st105 _ ?_
    show SS pP eE bS T105 (mkF mM 22 (Lc_cb0_2_2_5 a1 s a2 d0) [(.int d1)]) _
    refine XS.istore X105.here hx rfl (hb hby d52_22_22) rfl (l' := (Lc_cb0_2_2_6 a1 s a2 d1)) rfl ?_
    refine XS.iload X105.here hx rfl (hb hby d52_22_24) rfl ?_
    refine XS.sipush X105.here hx rfl (hb hby d52_22_26) ?_
    refine XS.icmpYes X105.here hx rfl (pc0 := 29) (pc' := 35) rfl (hb hby d52_22_29) rfl (flt q1).2.2.2 (by decide) (by decide) ?_
    show SS pP eE bS T105 (mkF mM 35 (Lc_cb0_2_2_6 a1 s a2 d1) []) _
    refine XS.aloadN X105.here hx rfl (hb hby d52_22_35) rfl rfl ?_
    refine XS.iloadN X105.here hx rfl (hb hby d52_22_36) rfl ?_
    refine XS.iload X105.here hx rfl (hb hby d52_22_37) rfl ?_
    refine XS.i2b X105.here hx rfl (hb hby d52_22_39) rfl ?_
    show SS pP eE bS T105 (mkF mM 40 (Lc_cb0_2_2_6 a1 s a2 d1) [(.int (d1.toInt8.toInt32)), (.int (1 : Int32)), (.ref a2)]) _
    refine st109 _ ?_
    show SS pP eE bS T109 (mkF mM 41 (Lc_cb0_2_2_6 a1 s a2 d1) []) _
    refine XS.iinc X109.here hx rfl (hb hby d52_22_41) rfl (l' := (Lc_cb0_2_2_7 a1 s a2 d1)) rfl ?_
    refine XS.iinc X109.here hx rfl (hb hby d52_22_44) rfl (l' := (Lc_cb0_2_2_8 a1 s a2 d1)) rfl ?_
    refine XS.iinc X109.here hx rfl (hb hby d52_22_47) rfl (l' := (Lc_cb0_2_2_9 a1 s a2 d1)) rfl ?_
    refine XS.goto X109.here hx rfl (pc0 := 50) (pc' := 10) rfl (hb hby d52_22_50) (by decide) (by decide) ?_
    show SS pP eE bS T109 (mkF mM 10 (Lc_cb0_2_2_9 a1 s a2 d1) []) _
    refine XS.iload X109.here hx rfl (hb hby d52_22_10) rfl ?_
    refine XS.iload X109.here hx rfl (hb hby d52_22_12) rfl ?_
    refine XS.icmpYes X109.here hx rfl (pc0 := 14) (pc' := 53) rfl (hb hby d52_22_14) rfl (flt (by decide : ¬ ((2 : Int32) < (2 : Int32)))).2.1 (by decide) (by decide) ?_
    refine XS.iload X109.here hx rfl (hb hby d52_22_53) rfl ?_
    show SS pP eE bS T109 (mkF mM 55 (Lc_cb0_2_2_9 a1 s a2 d1) [(.int (2 : Int32))]) _
    exact retI X109 hx Bd.returns (hb hby d52_22_55) hr
  · show Q_c1 Z a2 k2 (2 : Int32) [d0, d1] h0 n0 _ T109.heap _
    rw [e109]
    exact ⟨rfl, N109, K111, Vt109⟩
abbrev Lc_cb0_3_0_0 (a1 : Addr) (s : Int32) (a2 : Addr) : Array Slot := #[.val (.ref a1), .val (.int s), .val (.ref a2), .val (.int (0 : Int32)), .val (.int (3 : Int32)), .unset, .unset]
abbrev Lc_cb0_3_0_1 (a1 : Addr) (s : Int32) (a2 : Addr) : Array Slot := #[.val (.ref a1), .val (.int s), .val (.ref a2), .val (.int (0 : Int32)), .val (.int (3 : Int32)), .val (.int (0 : Int32)), .unset]
abbrev Lc_cb0_3_0_2 (a1 : Addr) (s : Int32) (a2 : Addr) (d0 : Int32) : Array Slot := #[.val (.ref a1), .val (.int s), .val (.ref a2), .val (.int (0 : Int32)), .val (.int (3 : Int32)), .val (.int (0 : Int32)), .val (.int d0)]
theorem ef_cb0_3_0 (mM : MethodId) (a1 : Addr) (a2 : Addr) (k1 : ClassId) (k2 : ClassId) (s : Int32) (nn : Int32) (z : Int32) (vs : List Value) (d0 : Int32) (d1 : Int32) (d2 : Int32) (fo : Value) : entryFrame mM #[(.ref a1), (.int s), (.ref a2), (.int (0 : Int32)), (.int (3 : Int32))] 7 = mkF mM 0 #[.val (.ref a1), .val (.int s), .val (.ref a2), .val (.int (0 : Int32)), .val (.int (3 : Int32)), .unset, .unset] [] := by
  first | (simp [entryFrame, mkF, argsToLocals, Value.category]; done) | rfl
theorem rm_cb0_3_0 (l : Launch) (Z : State) (a0 : Array Value) (hw : HW a0 Z) (ws : List Jvm.Cond) (a1 : Addr) (a2 : Addr) (k1 : ClassId) (k2 : ClassId) (s : Int32) (nn : Int32) (z : Int32) (vs : List Value) (d0 : Int32) (d1 : Int32) (d2 : Int32) (fo : Value) (h0 : Heap) (n0 : Nat) (Z0 : n0 ≤ h0.size) (V_a1 : Arv Z h0 a1 k1 .byte z vs (.int (0 : Int32))) (V_a2 : Arv Z h0 a2 k2 .byte (3 : Int32) [] (.int (0 : Int32))) (ne_a1_a2 : @Ne Nat a1 a2) (g_a2 : @LE.le Nat _ n0 a2) (hzn : (z >>> ((1 : Int32) &&& 31)) = nn) (hA : ¬ (((nn ||| s) ||| (3 : Int32)) < (0 : Int32))) (hB : ¬ ((nn - s) < (3 : Int32))) (g0 : (255 : Int32) < d0) (hg0 : GCp z vs s d0) (OL : Old Z n0 h0) (S__assertionsDisabled : Sta Z Z.heap "java/lang/StringUTF16" "$assertionsDisabled" "Z" (.int (1 : Int32))) (S_HI_BYTE_SHIFT : Sta Z Z.heap "java/lang/StringUTF16" "HI_BYTE_SHIFT" "I" (.int (0 : Int32))) (S_LO_BYTE_SHIFT : Sta Z Z.heap "java/lang/StringUTF16" "LO_BYTE_SHIFT" "I" (.int (8 : Int32))) (hfo : (fo).isRef = true) (S_SIOOBE_FORMATTER : Sta Z Z.heap "jdk/internal/util/Preconditions" "SIOOBE_FORMATTER" "Ljava/util/function/BiFunction;" fo) :
    MetFree l y23_ (head1 (Jvm.Cond.code y23_ jdk_52_method_22_code 7 (some .int) :: ws) r3_0_0_43) (fun xa xU => xa = #[(.ref a1), (.int s), (.ref a2), (.int (0 : Int32)), (.int (3 : Int32))] ∧ Z.Warmed39 xU.vm ∧ xU.heap = h0) (fun _ _ _ _ _ => True) (fun _ xU xo xU' => ∃ xv xL, xo = .returned xv ∧ Q_c0 Z a2 [d0, d1, d2] h0 n0 xv xU'.heap xL ∧ FrameEnd xU xo xU' xL r3_0_0_43.cells r3_0_0_43.slots) := by
  refine MetFree.of_bodySF (plainFor_of_name pn_java_lang_StringUTF16) hisR ?_
  intro pP eE sS mM argS bS methS cC s₁ Bd hml0 hP hK
  obtain ⟨rfl, hZ, hh⟩ := hP
  have hx := Bd.exec
  have hby := Bd.bytes
  have hml : cC.maxLocals = 7 := hml0
  have hown : sS.vm.findClass "java/lang/StringUTF16" = some mM.cls := findClass_of_methodNamed Bd.named
  have hnm := (name_of_methodNamed Bd.named Bd.method).1
  have X0 : Stand pP l eE r3_0_0_43 sS mM #[(.ref a1), (.int s), (.ref a2), (.int (0 : Int32)), (.int (3 : Int32))] bS methS cC s₁ [] 0 0 := Stand.of_body Bd
  have e0 : s₁.heap = h0 := by rw [← hh, Bd.state]; rfl
  have N0 := Fr.nil n0
  have Vp : Arv Z h0 a2 k2 .byte (3 : Int32) [(.int (0 : Int32)), (.int (0 : Int32)), (.int (0 : Int32))] (.int (0 : Int32)) := V_a2.pad (pad_rep [] (.int (0 : Int32)) 3)
  obtain ⟨_, _, ⟨T101, L101, k101, n101⟩, -, X101, ⟨Lc101, hQ101, l101, y101, z101⟩, st101⟩ := Jvm.LawKit.callS X0 hx (y := y22_) hown (mvT hZ (wi hw 190 rfl)) (mvT hZ (wi hw 191 rfl)) (mvT hZ (wi hw 18 rfl)) (mvT hZ (wi hw 192 rfl)) (by decide) (backOf (W := 0) (rm_ucbo l Z a0 hw [] s (3 : Int32) a1 k1 z vs nn fo h0 n0 (by omega) hfo V_a1 hzn hA hB OL S_SIOOBE_FORMATTER) hZ (wi hw 192 rfl) (wi hw 18 rfl) (by decide) (by decide)) (g := (mkF mM 4 (Lc_cb0_3_0_0 a1 s a2) [(.ref a1), (.int (3 : Int32)), (.int s)])) rfl (by rw [hml]; rfl) (argsL := [(.int s), (.int (3 : Int32)), (.ref a1)]) (rest := []) (lenOf pd_30 rfl) rfl (by show 2 * 0 + _ ≤ _; exact Nat.le_of_eq rfl) (hb hby d52_22_4) (fun _ _ => ⟨rfl, e0, ble rfl, ble rfl⟩)
  dsimp only [Pt.U, Pt.locs, Pt.cells, Pt.slots] at X101 l101 y101 z101 st101 hQ101
  subst y101 z101
  obtain ⟨h101, e101⟩ : ∃ z, T101.heap = z := ⟨_, rfl⟩
  rw [e101] at hQ101
  obtain ⟨rfl, N101q, eq101⟩ := hQ101
  rw [eq101] at e101
  have N101 : Fr n0 L101 := by rw [l101]; exact Fr.app N0 N101q
  obtain ⟨_, _, ⟨T102, L102, k102, n102⟩, -, X102, ⟨Lc102, hQ102, l102, y102, z102⟩, st102⟩ := Jvm.LawKit.callS X101 hx (y := y0_) hown (mvT hZ (wi hw 140 rfl)) (mvT hZ (wi hw 141 rfl)) (mvT hZ (wi hw 18 rfl)) (mvT hZ (wi hw 142 rfl)) (by decide) (backOf (W := 0) (rm_getCharG l Z a0 hw [] a1 k1 z vs s d0 h0 n0 (by omega) V_a1 OL S__assertionsDisabled S_HI_BYTE_SHIFT S_LO_BYTE_SHIFT hg0) hZ (wi hw 142 rfl) (wi hw 18 rfl) (by decide) (by decide)) (g := (mkF mM 19 (Lc_cb0_3_0_1 a1 s a2) [(.int s), (.ref a1)])) rfl (by rw [hml]; rfl) (argsL := [(.ref a1), (.int s)]) (rest := []) (lenOf pd_21 rfl) rfl (by show 2 * 0 + _ ≤ _; exact Nat.le_of_eq rfl) (hb hby d52_22_19) (fun _ _ => ⟨rfl, e101, ble rfl, ble rfl⟩)
  dsimp only [Pt.U, Pt.locs, Pt.cells, Pt.slots] at X102 l102 y102 z102 st102 hQ102
  subst y102 z102
  obtain ⟨h102, e102⟩ : ∃ z, T102.heap = z := ⟨_, rfl⟩
  rw [e102] at hQ102
  obtain ⟨rfl, N102q, eq102⟩ := hQ102
  rw [eq102] at e102
  have N102 : Fr n0 L102 := by rw [l102]; exact Fr.app N101 N102q
  obtain ⟨fs, hr, hrun, hended, hW, hsame⟩ := X102.leave (v := some (.int (0 : Int32))) (fun h => by rw [Bd.returns] at h; cases h)
  refine ⟨_, _, castTop (ef_cb0_3_0 mM a1 a2 k1 k2 s nn z vs d0 d1 d2 fo) ?_, hrun, hended, _, _, rfl, ?_, ⟨_, rfl⟩, hW, hsame.mono (by decide) (by decide)⟩
  · show SS pP eE bS s₁ (mkF mM 0 (Lc_cb0_3_0_0 a1 s a2) []) _
    refine XS.iloadN X0.here hx rfl (hb hby d52_22_0) rfl ?_
    refine XS.iload X0.here hx rfl (hb hby d52_22_1) rfl ?_
    refine XS.aloadN X0.here hx rfl (hb hby d52_22_3) rfl rfl ?_
    show SS pP eE bS s₁ (mkF mM 4 (Lc_cb0_3_0_0 a1 s a2) [(.ref a1), (.int (3 : Int32)), (.int s)]) _
    refine st101 _ ?_
    show SS pP eE bS T101 (mkF mM 7 (Lc_cb0_3_0_0 a1 s a2) []) _
    refine XS.iconst X101.here hx rfl (hb hby d52_22_7) ?_
    refine XS.istore X101.here hx rfl (hb hby d52_22_8) rfl (l' := (Lc_cb0_3_0_1 a1 s a2)) rfl ?_
    refine XS.iload X101.here hx rfl (hb hby d52_22_10) rfl ?_
    refine XS.iload X101.here hx rfl (hb hby d52_22_12) rfl ?_
    show SS pP eE bS T101 (mkF mM 14 (Lc_cb0_3_0_1 a1 s a2) [(.int (3 : Int32)), (.int (0 : Int32))]) _
    refine XS.icmpNo X101.here hx rfl (hb hby d52_22_14) rfl (tlt (by decide : (0 : Int32) < (3 : Int32))).2.1 ?_
    refine XS.aloadN X101.here hx rfl (hb hby d52_22_17) rfl rfl ?_
    refine XS.iloadN X101.here hx rfl (hb hby d52_22_18) rfl ?_
    show SS pP eE bS T101 (mkF mM 19 (Lc_cb0_3_0_1 a1 s a2) [(.int s), (.ref a1)]) _
    refine st102 _ ?_
    show SS pP eE bS T102 (mkF mM 22 (Lc_cb0_3_0_1 a1 s a2) [(.int d0)]) _
    refine XS.istore X102.here hx rfl (hb hby d52_22_22) rfl (l' := (Lc_cb0_3_0_2 a1 s a2 d0)) rfl ?_
    refine XS.iload X102.here hx rfl (hb hby d52_22_24) rfl ?_
    refine XS.sipush X102.here hx rfl (hb hby d52_22_26) ?_
    refine XS.icmpNo X102.here hx rfl (hb hby d52_22_29) rfl (tlt g0).2.2.2 ?_
    show SS pP eE bS T102 (mkF mM 32 (Lc_cb0_3_0_2 a1 s a2 d0) []) _
    refine XS.iload X102.here hx rfl (hb hby d52_22_32) rfl ?_
    show SS pP eE bS T102 (mkF mM 34 (Lc_cb0_3_0_2 a1 s a2 d0) [(.int (0 : Int32))]) _
    exact retI X102 hx Bd.returns (hb hby d52_22_34) hr
  · show Q_c0 Z a2 [d0, d1, d2] h0 n0 _ T102.heap _
    rw [e102]
    exact ⟨(0 : Int32), d0, rfl, N102, (Keep.refl h0 [a2]), (⟨0, by decide, rfl, rfl, g0⟩)⟩
abbrev Lc_cb0_3_1_0 (a1 : Addr) (s : Int32) (a2 : Addr) : Array Slot := #[.val (.ref a1), .val (.int s), .val (.ref a2), .val (.int (0 : Int32)), .val (.int (3 : Int32)), .unset, .unset]
abbrev Lc_cb0_3_1_1 (a1 : Addr) (s : Int32) (a2 : Addr) : Array Slot := #[.val (.ref a1), .val (.int s), .val (.ref a2), .val (.int (0 : Int32)), .val (.int (3 : Int32)), .val (.int (0 : Int32)), .unset]
abbrev Lc_cb0_3_1_2 (a1 : Addr) (s : Int32) (a2 : Addr) (d0 : Int32) : Array Slot := #[.val (.ref a1), .val (.int s), .val (.ref a2), .val (.int (0 : Int32)), .val (.int (3 : Int32)), .val (.int (0 : Int32)), .val (.int d0)]
abbrev Lc_cb0_3_1_3 (a1 : Addr) (s : Int32) (a2 : Addr) (d0 : Int32) : Array Slot := #[.val (.ref a1), .val (.int (s + (1 : Int32))), .val (.ref a2), .val (.int (0 : Int32)), .val (.int (3 : Int32)), .val (.int (0 : Int32)), .val (.int d0)]
abbrev Lc_cb0_3_1_4 (a1 : Addr) (s : Int32) (a2 : Addr) (d0 : Int32) : Array Slot := #[.val (.ref a1), .val (.int (s + (1 : Int32))), .val (.ref a2), .val (.int (1 : Int32)), .val (.int (3 : Int32)), .val (.int (0 : Int32)), .val (.int d0)]
abbrev Lc_cb0_3_1_5 (a1 : Addr) (s : Int32) (a2 : Addr) (d0 : Int32) : Array Slot := #[.val (.ref a1), .val (.int (s + (1 : Int32))), .val (.ref a2), .val (.int (1 : Int32)), .val (.int (3 : Int32)), .val (.int (1 : Int32)), .val (.int d0)]
abbrev Lc_cb0_3_1_6 (a1 : Addr) (s : Int32) (a2 : Addr) (d1 : Int32) : Array Slot := #[.val (.ref a1), .val (.int (s + (1 : Int32))), .val (.ref a2), .val (.int (1 : Int32)), .val (.int (3 : Int32)), .val (.int (1 : Int32)), .val (.int d1)]
theorem ef_cb0_3_1 (mM : MethodId) (a1 : Addr) (a2 : Addr) (k1 : ClassId) (k2 : ClassId) (s : Int32) (nn : Int32) (z : Int32) (vs : List Value) (d0 : Int32) (d1 : Int32) (d2 : Int32) (fo : Value) : entryFrame mM #[(.ref a1), (.int s), (.ref a2), (.int (0 : Int32)), (.int (3 : Int32))] 7 = mkF mM 0 #[.val (.ref a1), .val (.int s), .val (.ref a2), .val (.int (0 : Int32)), .val (.int (3 : Int32)), .unset, .unset] [] := by
  first | (simp [entryFrame, mkF, argsToLocals, Value.category]; done) | rfl
theorem rm_cb0_3_1 (l : Launch) (Z : State) (a0 : Array Value) (hw : HW a0 Z) (ws : List Jvm.Cond) (a1 : Addr) (a2 : Addr) (k1 : ClassId) (k2 : ClassId) (s : Int32) (nn : Int32) (z : Int32) (vs : List Value) (d0 : Int32) (d1 : Int32) (d2 : Int32) (fo : Value) (h0 : Heap) (n0 : Nat) (Z0 : n0 ≤ h0.size) (V_a1 : Arv Z h0 a1 k1 .byte z vs (.int (0 : Int32))) (V_a2 : Arv Z h0 a2 k2 .byte (3 : Int32) [] (.int (0 : Int32))) (ne_a1_a2 : @Ne Nat a1 a2) (g_a2 : @LE.le Nat _ n0 a2) (hzn : (z >>> ((1 : Int32) &&& 31)) = nn) (hA : ¬ (((nn ||| s) ||| (3 : Int32)) < (0 : Int32))) (hB : ¬ ((nn - s) < (3 : Int32))) (q0 : ¬ ((255 : Int32) < d0)) (g1 : (255 : Int32) < d1) (hg0 : GCp z vs s d0) (hg1 : GCp z vs (s + (1 : Int32)) d1) (OL : Old Z n0 h0) (S__assertionsDisabled : Sta Z Z.heap "java/lang/StringUTF16" "$assertionsDisabled" "Z" (.int (1 : Int32))) (S_HI_BYTE_SHIFT : Sta Z Z.heap "java/lang/StringUTF16" "HI_BYTE_SHIFT" "I" (.int (0 : Int32))) (S_LO_BYTE_SHIFT : Sta Z Z.heap "java/lang/StringUTF16" "LO_BYTE_SHIFT" "I" (.int (8 : Int32))) (hfo : (fo).isRef = true) (S_SIOOBE_FORMATTER : Sta Z Z.heap "jdk/internal/util/Preconditions" "SIOOBE_FORMATTER" "Ljava/util/function/BiFunction;" fo) :
    MetFree l y23_ (head1 (Jvm.Cond.code y23_ jdk_52_method_22_code 7 (some .int) :: ws) r3_0_0_43) (fun xa xU => xa = #[(.ref a1), (.int s), (.ref a2), (.int (0 : Int32)), (.int (3 : Int32))] ∧ Z.Warmed39 xU.vm ∧ xU.heap = h0) (fun _ _ _ _ _ => True) (fun _ xU xo xU' => ∃ xv xL, xo = .returned xv ∧ Q_c0 Z a2 [d0, d1, d2] h0 n0 xv xU'.heap xL ∧ FrameEnd xU xo xU' xL r3_0_0_43.cells r3_0_0_43.slots) := by
  refine MetFree.of_bodySF (plainFor_of_name pn_java_lang_StringUTF16) hisR ?_
  intro pP eE sS mM argS bS methS cC s₁ Bd hml0 hP hK
  obtain ⟨rfl, hZ, hh⟩ := hP
  have hx := Bd.exec
  have hby := Bd.bytes
  have hml : cC.maxLocals = 7 := hml0
  have hown : sS.vm.findClass "java/lang/StringUTF16" = some mM.cls := findClass_of_methodNamed Bd.named
  have hnm := (name_of_methodNamed Bd.named Bd.method).1
  have X0 : Stand pP l eE r3_0_0_43 sS mM #[(.ref a1), (.int s), (.ref a2), (.int (0 : Int32)), (.int (3 : Int32))] bS methS cC s₁ [] 0 0 := Stand.of_body Bd
  have e0 : s₁.heap = h0 := by rw [← hh, Bd.state]; rfl
  have N0 := Fr.nil n0
  have Vp : Arv Z h0 a2 k2 .byte (3 : Int32) [(.int (0 : Int32)), (.int (0 : Int32)), (.int (0 : Int32))] (.int (0 : Int32)) := V_a2.pad (pad_rep [] (.int (0 : Int32)) 3)
  obtain ⟨_, _, ⟨T101, L101, k101, n101⟩, -, X101, ⟨Lc101, hQ101, l101, y101, z101⟩, st101⟩ := Jvm.LawKit.callS X0 hx (y := y22_) hown (mvT hZ (wi hw 190 rfl)) (mvT hZ (wi hw 191 rfl)) (mvT hZ (wi hw 18 rfl)) (mvT hZ (wi hw 192 rfl)) (by decide) (backOf (W := 0) (rm_ucbo l Z a0 hw [] s (3 : Int32) a1 k1 z vs nn fo h0 n0 (by omega) hfo V_a1 hzn hA hB OL S_SIOOBE_FORMATTER) hZ (wi hw 192 rfl) (wi hw 18 rfl) (by decide) (by decide)) (g := (mkF mM 4 (Lc_cb0_3_1_0 a1 s a2) [(.ref a1), (.int (3 : Int32)), (.int s)])) rfl (by rw [hml]; rfl) (argsL := [(.int s), (.int (3 : Int32)), (.ref a1)]) (rest := []) (lenOf pd_30 rfl) rfl (by show 2 * 0 + _ ≤ _; exact Nat.le_of_eq rfl) (hb hby d52_22_4) (fun _ _ => ⟨rfl, e0, ble rfl, ble rfl⟩)
  dsimp only [Pt.U, Pt.locs, Pt.cells, Pt.slots] at X101 l101 y101 z101 st101 hQ101
  subst y101 z101
  obtain ⟨h101, e101⟩ : ∃ z, T101.heap = z := ⟨_, rfl⟩
  rw [e101] at hQ101
  obtain ⟨rfl, N101q, eq101⟩ := hQ101
  rw [eq101] at e101
  have N101 : Fr n0 L101 := by rw [l101]; exact Fr.app N0 N101q
  obtain ⟨_, _, ⟨T102, L102, k102, n102⟩, -, X102, ⟨Lc102, hQ102, l102, y102, z102⟩, st102⟩ := Jvm.LawKit.callS X101 hx (y := y0_) hown (mvT hZ (wi hw 140 rfl)) (mvT hZ (wi hw 141 rfl)) (mvT hZ (wi hw 18 rfl)) (mvT hZ (wi hw 142 rfl)) (by decide) (backOf (W := 0) (rm_getCharG l Z a0 hw [] a1 k1 z vs s d0 h0 n0 (by omega) V_a1 OL S__assertionsDisabled S_HI_BYTE_SHIFT S_LO_BYTE_SHIFT hg0) hZ (wi hw 142 rfl) (wi hw 18 rfl) (by decide) (by decide)) (g := (mkF mM 19 (Lc_cb0_3_1_1 a1 s a2) [(.int s), (.ref a1)])) rfl (by rw [hml]; rfl) (argsL := [(.ref a1), (.int s)]) (rest := []) (lenOf pd_21 rfl) rfl (by show 2 * 0 + _ ≤ _; exact Nat.le_of_eq rfl) (hb hby d52_22_19) (fun _ _ => ⟨rfl, e101, ble rfl, ble rfl⟩)
  dsimp only [Pt.U, Pt.locs, Pt.cells, Pt.slots] at X102 l102 y102 z102 st102 hQ102
  subst y102 z102
  obtain ⟨h102, e102⟩ : ∃ z, T102.heap = z := ⟨_, rfl⟩
  rw [e102] at hQ102
  obtain ⟨rfl, N102q, eq102⟩ := hQ102
  rw [eq102] at e102
  have N102 : Fr n0 L102 := by rw [l102]; exact Fr.app N101 N102q
  obtain ⟨cl103, Ar103, q103, S103, Ng103, Ha103, Ga103⟩ := id Vp
  have hin103 : ¬ ((0 : Int32) < 0 ∨ cl103.slots.size ≤ ((0 : Int32)).toNatClampNeg) := inb_of S103 ⟨by decide, by decide⟩
  obtain ⟨T104, h104, X104, e104, W104, st104⟩ := stB X102 hx hZ e102 Ar103 (j := (0 : Int32)) hin103 (g := (mkF mM 40 (Lc_cb0_3_1_2 a1 s a2 d0) [(.int (d0.toInt8.toInt32)), (.int (0 : Int32)), (.ref a2)])) rfl rfl (hb hby d52_22_40)
  have Sz1 : h0.size ≤ h104.size := Nat.le_of_eq (Wr.size W104).symm
  have Vs104 := Arv.set Ar103 q103 S103 Ng103 Ha103 Ga103 (fits_nar_byte _) W104 0 rfl (Nat.le_of_ble_eq_true rfl)
  have Vt104 : Arv Z h104 a2 k2 .byte (3 : Int32) [(.int d0.toInt8.toInt32), (.int (0 : Int32)), (.int (0 : Int32))] (.int (0 : Int32)) := by
    have q : Arv Z h104 a2 k2 .byte (3 : Int32) [(.int (d0.toInt8.toInt32).toInt8.toInt32), (.int (0 : Int32)), (.int (0 : Int32))] (.int (0 : Int32)) := Vs104
    rw [show ((.int (d0.toInt8.toInt32).toInt8.toInt32) : Value) = (.int d0.toInt8.toInt32) from congrArg Value.int (own_b8 d0)] at q
    exact q
  have N104 := Fr.snoc X104 N102 g_a2
  have c106_V_a1 : Arv Z h104 a1 k1 .byte z vs (.int (0 : Int32)) := V_a1.other W104 ne_a1_a2
  have c107_OL : Old Z n0 h104 := OL.wr W104 g_a2
  obtain ⟨_, _, ⟨T105, L105, k105, n105⟩, -, X105, ⟨Lc105, hQ105, l105, y105, z105⟩, st105⟩ := Jvm.LawKit.callS X104 hx (y := y0_) hown (mvT hZ (wi hw 140 rfl)) (mvT hZ (wi hw 141 rfl)) (mvT hZ (wi hw 18 rfl)) (mvT hZ (wi hw 142 rfl)) (by decide) (backOf (W := 0) (rm_getCharG l Z a0 hw [] a1 k1 z vs (s + (1 : Int32)) d1 h104 n0 (by omega) c106_V_a1 c107_OL S__assertionsDisabled S_HI_BYTE_SHIFT S_LO_BYTE_SHIFT hg1) hZ (wi hw 142 rfl) (wi hw 18 rfl) (by decide) (by decide)) (g := (mkF mM 19 (Lc_cb0_3_1_5 a1 s a2 d0) [(.int (s + (1 : Int32))), (.ref a1)])) rfl (by rw [hml]; rfl) (argsL := [(.ref a1), (.int (s + (1 : Int32)))]) (rest := []) (lenOf pd_21 rfl) rfl (by show 2 * 0 + _ ≤ _; exact Nat.le_of_eq rfl) (hb hby d52_22_19) (fun _ _ => ⟨rfl, e104, ble rfl, ble rfl⟩)
  dsimp only [Pt.U, Pt.locs, Pt.cells, Pt.slots] at X105 l105 y105 z105 st105 hQ105
  subst y105 z105
  obtain ⟨h105, e105⟩ : ∃ z, T105.heap = z := ⟨_, rfl⟩
  rw [e105] at hQ105
  obtain ⟨rfl, N105q, eq105⟩ := hQ105
  rw [eq105] at e105
  have N105 : Fr n0 L105 := by rw [l105]; exact Fr.app N104 N105q
  have K108 : Keep h0 h104 [a2] := (Keep.refl h0 [a2]).wr W104 (Or.inl (List.mem_of_getElem? (i := 0) rfl))
  obtain ⟨fs, hr, hrun, hended, hW, hsame⟩ := X105.leave (v := some (.int (1 : Int32))) (fun h => by rw [Bd.returns] at h; cases h)
  refine ⟨_, _, castTop (ef_cb0_3_1 mM a1 a2 k1 k2 s nn z vs d0 d1 d2 fo) ?_, hrun, hended, _, _, rfl, ?_, ⟨_, rfl⟩, hW, hsame.mono (by decide) (by decide)⟩
  · show SS pP eE bS s₁ (mkF mM 0 (Lc_cb0_3_1_0 a1 s a2) []) _
    refine XS.iloadN X0.here hx rfl (hb hby d52_22_0) rfl ?_
    refine XS.iload X0.here hx rfl (hb hby d52_22_1) rfl ?_
    refine XS.aloadN X0.here hx rfl (hb hby d52_22_3) rfl rfl ?_
    show SS pP eE bS s₁ (mkF mM 4 (Lc_cb0_3_1_0 a1 s a2) [(.ref a1), (.int (3 : Int32)), (.int s)]) _
    refine st101 _ ?_
    show SS pP eE bS T101 (mkF mM 7 (Lc_cb0_3_1_0 a1 s a2) []) _
    refine XS.iconst X101.here hx rfl (hb hby d52_22_7) ?_
    refine XS.istore X101.here hx rfl (hb hby d52_22_8) rfl (l' := (Lc_cb0_3_1_1 a1 s a2)) rfl ?_
    refine XS.iload X101.here hx rfl (hb hby d52_22_10) rfl ?_
    refine XS.iload X101.here hx rfl (hb hby d52_22_12) rfl ?_
    show SS pP eE bS T101 (mkF mM 14 (Lc_cb0_3_1_1 a1 s a2) [(.int (3 : Int32)), (.int (0 : Int32))]) _
    refine XS.icmpNo X101.here hx rfl (hb hby d52_22_14) rfl (tlt (by decide : (0 : Int32) < (3 : Int32))).2.1 ?_
    refine XS.aloadN X101.here hx rfl (hb hby d52_22_17) rfl rfl ?_
    refine XS.iloadN X101.here hx rfl (hb hby d52_22_18) rfl ?_
    show SS pP eE bS T101 (mkF mM 19 (Lc_cb0_3_1_1 a1 s a2) [(.int s), (.ref a1)]) _
    refine st102 _ ?_
    show SS pP eE bS T102 (mkF mM 22 (Lc_cb0_3_1_1 a1 s a2) [(.int d0)]) _
    refine XS.istore X102.here hx rfl (hb hby d52_22_22) rfl (l' := (Lc_cb0_3_1_2 a1 s a2 d0)) rfl ?_
    refine XS.iload X102.here hx rfl (hb hby d52_22_24) rfl ?_
    refine XS.sipush X102.here hx rfl (hb hby d52_22_26) ?_
    refine XS.icmpYes X102.here hx rfl (pc0 := 29) (pc' := 35) rfl (hb hby d52_22_29) rfl (flt q0).2.2.2 (by decide) (by decide) ?_
    show SS pP eE bS T102 (mkF mM 35 (Lc_cb0_3_1_2 a1 s a2 d0) []) _
    refine XS.aloadN X102.here hx rfl (hb hby d52_22_35) rfl rfl ?_
    refine XS.iloadN X102.here hx rfl (hb hby d52_22_36) rfl ?_
    refine XS.iload X102.here hx rfl (hb hby d52_22_37) rfl ?_
    refine XS.i2b X102.here hx rfl (hb hby d52_22_39) rfl ?_
    show SS pP eE bS T102 (mkF mM 40 (Lc_cb0_3_1_2 a1 s a2 d0) [(.int (d0.toInt8.toInt32)), (.int (0 : Int32)), (.ref a2)]) _
    refine st104 _ ?_
    show SS pP eE bS T104 (mkF mM 41 (Lc_cb0_3_1_2 a1 s a2 d0) []) _
    refine XS.iinc X104.here hx rfl (hb hby d52_22_41) rfl (l' := (Lc_cb0_3_1_3 a1 s a2 d0)) rfl ?_
    refine XS.iinc X104.here hx rfl (hb hby d52_22_44) rfl (l' := (Lc_cb0_3_1_4 a1 s a2 d0)) rfl ?_
    refine XS.iinc X104.here hx rfl (hb hby d52_22_47) rfl (l' := (Lc_cb0_3_1_5 a1 s a2 d0)) rfl ?_
    refine XS.goto X104.here hx rfl (pc0 := 50) (pc' := 10) rfl (hb hby d52_22_50) (by decide) (by decide) ?_
    show SS pP eE bS T104 (mkF mM 10 (Lc_cb0_3_1_5 a1 s a2 d0) []) _
    refine XS.iload X104.here hx rfl (hb hby d52_22_10) rfl ?_
    refine XS.iload X104.here hx rfl (hb hby d52_22_12) rfl ?_
    refine XS.icmpNo X104.here hx rfl (hb hby d52_22_14) rfl (tlt (by decide : (1 : Int32) < (3 : Int32))).2.1 ?_
    refine XS.aloadN X104.here hx rfl (hb hby d52_22_17) rfl rfl ?_
    show SS pP eE bS T104 (mkF mM 18 (Lc_cb0_3_1_5 a1 s a2 d0) [(.ref a1)]) _
    refine XS.iloadN X104.here hx rfl (hb hby d52_22_18) rfl ?_
    show SS pP eE bS T104 (mkF mM 19 (Lc_cb0_3_1_5 a1 s a2 d0) [(.int (s + (1 : Int32))), (.ref a1)]) _
    refine st105 _ ?_
    show SS pP eE bS T105 (mkF mM 22 (Lc_cb0_3_1_5 a1 s a2 d0) [(.int d1)]) _
    refine XS.istore X105.here hx rfl (hb hby d52_22_22) rfl (l' := (Lc_cb0_3_1_6 a1 s a2 d1)) rfl ?_
    refine XS.iload X105.here hx rfl (hb hby d52_22_24) rfl ?_
    refine XS.sipush X105.here hx rfl (hb hby d52_22_26) ?_
    refine XS.icmpNo X105.here hx rfl (hb hby d52_22_29) rfl (tlt g1).2.2.2 ?_
    show SS pP eE bS T105 (mkF mM 32 (Lc_cb0_3_1_6 a1 s a2 d1) []) _
    refine XS.iload X105.here hx rfl (hb hby d52_22_32) rfl ?_
    show SS pP eE bS T105 (mkF mM 34 (Lc_cb0_3_1_6 a1 s a2 d1) [(.int (1 : Int32))]) _
    exact retI X105 hx Bd.returns (hb hby d52_22_34) hr
  · show Q_c0 Z a2 [d0, d1, d2] h0 n0 _ T105.heap _
    rw [e105]
    exact ⟨(1 : Int32), d1, rfl, N105, K108, (⟨1, by decide, rfl, rfl, g1⟩)⟩
abbrev Lc_cb0_3_2_0 (a1 : Addr) (s : Int32) (a2 : Addr) : Array Slot := #[.val (.ref a1), .val (.int s), .val (.ref a2), .val (.int (0 : Int32)), .val (.int (3 : Int32)), .unset, .unset]
abbrev Lc_cb0_3_2_1 (a1 : Addr) (s : Int32) (a2 : Addr) : Array Slot := #[.val (.ref a1), .val (.int s), .val (.ref a2), .val (.int (0 : Int32)), .val (.int (3 : Int32)), .val (.int (0 : Int32)), .unset]
abbrev Lc_cb0_3_2_2 (a1 : Addr) (s : Int32) (a2 : Addr) (d0 : Int32) : Array Slot := #[.val (.ref a1), .val (.int s), .val (.ref a2), .val (.int (0 : Int32)), .val (.int (3 : Int32)), .val (.int (0 : Int32)), .val (.int d0)]
abbrev Lc_cb0_3_2_3 (a1 : Addr) (s : Int32) (a2 : Addr) (d0 : Int32) : Array Slot := #[.val (.ref a1), .val (.int (s + (1 : Int32))), .val (.ref a2), .val (.int (0 : Int32)), .val (.int (3 : Int32)), .val (.int (0 : Int32)), .val (.int d0)]
abbrev Lc_cb0_3_2_4 (a1 : Addr) (s : Int32) (a2 : Addr) (d0 : Int32) : Array Slot := #[.val (.ref a1), .val (.int (s + (1 : Int32))), .val (.ref a2), .val (.int (1 : Int32)), .val (.int (3 : Int32)), .val (.int (0 : Int32)), .val (.int d0)]
abbrev Lc_cb0_3_2_5 (a1 : Addr) (s : Int32) (a2 : Addr) (d0 : Int32) : Array Slot := #[.val (.ref a1), .val (.int (s + (1 : Int32))), .val (.ref a2), .val (.int (1 : Int32)), .val (.int (3 : Int32)), .val (.int (1 : Int32)), .val (.int d0)]
abbrev Lc_cb0_3_2_6 (a1 : Addr) (s : Int32) (a2 : Addr) (d1 : Int32) : Array Slot := #[.val (.ref a1), .val (.int (s + (1 : Int32))), .val (.ref a2), .val (.int (1 : Int32)), .val (.int (3 : Int32)), .val (.int (1 : Int32)), .val (.int d1)]
abbrev Lc_cb0_3_2_7 (a1 : Addr) (s : Int32) (a2 : Addr) (d1 : Int32) : Array Slot := #[.val (.ref a1), .val (.int ((s + (1 : Int32)) + (1 : Int32))), .val (.ref a2), .val (.int (1 : Int32)), .val (.int (3 : Int32)), .val (.int (1 : Int32)), .val (.int d1)]
abbrev Lc_cb0_3_2_8 (a1 : Addr) (s : Int32) (a2 : Addr) (d1 : Int32) : Array Slot := #[.val (.ref a1), .val (.int ((s + (1 : Int32)) + (1 : Int32))), .val (.ref a2), .val (.int (2 : Int32)), .val (.int (3 : Int32)), .val (.int (1 : Int32)), .val (.int d1)]
abbrev Lc_cb0_3_2_9 (a1 : Addr) (s : Int32) (a2 : Addr) (d1 : Int32) : Array Slot := #[.val (.ref a1), .val (.int ((s + (1 : Int32)) + (1 : Int32))), .val (.ref a2), .val (.int (2 : Int32)), .val (.int (3 : Int32)), .val (.int (2 : Int32)), .val (.int d1)]
abbrev Lc_cb0_3_2_10 (a1 : Addr) (s : Int32) (a2 : Addr) (d2 : Int32) : Array Slot := #[.val (.ref a1), .val (.int ((s + (1 : Int32)) + (1 : Int32))), .val (.ref a2), .val (.int (2 : Int32)), .val (.int (3 : Int32)), .val (.int (2 : Int32)), .val (.int d2)]
theorem ef_cb0_3_2 (mM : MethodId) (a1 : Addr) (a2 : Addr) (k1 : ClassId) (k2 : ClassId) (s : Int32) (nn : Int32) (z : Int32) (vs : List Value) (d0 : Int32) (d1 : Int32) (d2 : Int32) (fo : Value) : entryFrame mM #[(.ref a1), (.int s), (.ref a2), (.int (0 : Int32)), (.int (3 : Int32))] 7 = mkF mM 0 #[.val (.ref a1), .val (.int s), .val (.ref a2), .val (.int (0 : Int32)), .val (.int (3 : Int32)), .unset, .unset] [] := by
  first | (simp [entryFrame, mkF, argsToLocals, Value.category]; done) | rfl
theorem rm_cb0_3_2 (l : Launch) (Z : State) (a0 : Array Value) (hw : HW a0 Z) (ws : List Jvm.Cond) (a1 : Addr) (a2 : Addr) (k1 : ClassId) (k2 : ClassId) (s : Int32) (nn : Int32) (z : Int32) (vs : List Value) (d0 : Int32) (d1 : Int32) (d2 : Int32) (fo : Value) (h0 : Heap) (n0 : Nat) (Z0 : n0 ≤ h0.size) (V_a1 : Arv Z h0 a1 k1 .byte z vs (.int (0 : Int32))) (V_a2 : Arv Z h0 a2 k2 .byte (3 : Int32) [] (.int (0 : Int32))) (ne_a1_a2 : @Ne Nat a1 a2) (g_a2 : @LE.le Nat _ n0 a2) (hzn : (z >>> ((1 : Int32) &&& 31)) = nn) (hA : ¬ (((nn ||| s) ||| (3 : Int32)) < (0 : Int32))) (hB : ¬ ((nn - s) < (3 : Int32))) (q0 : ¬ ((255 : Int32) < d0)) (q1 : ¬ ((255 : Int32) < d1)) (g2 : (255 : Int32) < d2) (hg0 : GCp z vs s d0) (hg1 : GCp z vs (s + (1 : Int32)) d1) (hg2 : GCp z vs ((s + (1 : Int32)) + (1 : Int32)) d2) (OL : Old Z n0 h0) (S__assertionsDisabled : Sta Z Z.heap "java/lang/StringUTF16" "$assertionsDisabled" "Z" (.int (1 : Int32))) (S_HI_BYTE_SHIFT : Sta Z Z.heap "java/lang/StringUTF16" "HI_BYTE_SHIFT" "I" (.int (0 : Int32))) (S_LO_BYTE_SHIFT : Sta Z Z.heap "java/lang/StringUTF16" "LO_BYTE_SHIFT" "I" (.int (8 : Int32))) (hfo : (fo).isRef = true) (S_SIOOBE_FORMATTER : Sta Z Z.heap "jdk/internal/util/Preconditions" "SIOOBE_FORMATTER" "Ljava/util/function/BiFunction;" fo) :
    MetFree l y23_ (head1 (Jvm.Cond.code y23_ jdk_52_method_22_code 7 (some .int) :: ws) r3_0_0_43) (fun xa xU => xa = #[(.ref a1), (.int s), (.ref a2), (.int (0 : Int32)), (.int (3 : Int32))] ∧ Z.Warmed39 xU.vm ∧ xU.heap = h0) (fun _ _ _ _ _ => True) (fun _ xU xo xU' => ∃ xv xL, xo = .returned xv ∧ Q_c0 Z a2 [d0, d1, d2] h0 n0 xv xU'.heap xL ∧ FrameEnd xU xo xU' xL r3_0_0_43.cells r3_0_0_43.slots) := by
  refine MetFree.of_bodySF (plainFor_of_name pn_java_lang_StringUTF16) hisR ?_
  intro pP eE sS mM argS bS methS cC s₁ Bd hml0 hP hK
  obtain ⟨rfl, hZ, hh⟩ := hP
  have hx := Bd.exec
  have hby := Bd.bytes
  have hml : cC.maxLocals = 7 := hml0
  have hown : sS.vm.findClass "java/lang/StringUTF16" = some mM.cls := findClass_of_methodNamed Bd.named
  have hnm := (name_of_methodNamed Bd.named Bd.method).1
  have X0 : Stand pP l eE r3_0_0_43 sS mM #[(.ref a1), (.int s), (.ref a2), (.int (0 : Int32)), (.int (3 : Int32))] bS methS cC s₁ [] 0 0 := Stand.of_body Bd
  have e0 : s₁.heap = h0 := by rw [← hh, Bd.state]; rfl
  have N0 := Fr.nil n0
  have Vp : Arv Z h0 a2 k2 .byte (3 : Int32) [(.int (0 : Int32)), (.int (0 : Int32)), (.int (0 : Int32))] (.int (0 : Int32)) := V_a2.pad (pad_rep [] (.int (0 : Int32)) 3)
  obtain ⟨_, _, ⟨T101, L101, k101, n101⟩, -, X101, ⟨Lc101, hQ101, l101, y101, z101⟩, st101⟩ := Jvm.LawKit.callS X0 hx (y := y22_) hown (mvT hZ (wi hw 190 rfl)) (mvT hZ (wi hw 191 rfl)) (mvT hZ (wi hw 18 rfl)) (mvT hZ (wi hw 192 rfl)) (by decide) (backOf (W := 0) (rm_ucbo l Z a0 hw [] s (3 : Int32) a1 k1 z vs nn fo h0 n0 (by omega) hfo V_a1 hzn hA hB OL S_SIOOBE_FORMATTER) hZ (wi hw 192 rfl) (wi hw 18 rfl) (by decide) (by decide)) (g := (mkF mM 4 (Lc_cb0_3_2_0 a1 s a2) [(.ref a1), (.int (3 : Int32)), (.int s)])) rfl (by rw [hml]; rfl) (argsL := [(.int s), (.int (3 : Int32)), (.ref a1)]) (rest := []) (lenOf pd_30 rfl) rfl (by show 2 * 0 + _ ≤ _; exact Nat.le_of_eq rfl) (hb hby d52_22_4) (fun _ _ => ⟨rfl, e0, ble rfl, ble rfl⟩)
  dsimp only [Pt.U, Pt.locs, Pt.cells, Pt.slots] at X101 l101 y101 z101 st101 hQ101
  subst y101 z101
  obtain ⟨h101, e101⟩ : ∃ z, T101.heap = z := ⟨_, rfl⟩
  rw [e101] at hQ101
  obtain ⟨rfl, N101q, eq101⟩ := hQ101
  rw [eq101] at e101
  have N101 : Fr n0 L101 := by rw [l101]; exact Fr.app N0 N101q
  obtain ⟨_, _, ⟨T102, L102, k102, n102⟩, -, X102, ⟨Lc102, hQ102, l102, y102, z102⟩, st102⟩ := Jvm.LawKit.callS X101 hx (y := y0_) hown (mvT hZ (wi hw 140 rfl)) (mvT hZ (wi hw 141 rfl)) (mvT hZ (wi hw 18 rfl)) (mvT hZ (wi hw 142 rfl)) (by decide) (backOf (W := 0) (rm_getCharG l Z a0 hw [] a1 k1 z vs s d0 h0 n0 (by omega) V_a1 OL S__assertionsDisabled S_HI_BYTE_SHIFT S_LO_BYTE_SHIFT hg0) hZ (wi hw 142 rfl) (wi hw 18 rfl) (by decide) (by decide)) (g := (mkF mM 19 (Lc_cb0_3_2_1 a1 s a2) [(.int s), (.ref a1)])) rfl (by rw [hml]; rfl) (argsL := [(.ref a1), (.int s)]) (rest := []) (lenOf pd_21 rfl) rfl (by show 2 * 0 + _ ≤ _; exact Nat.le_of_eq rfl) (hb hby d52_22_19) (fun _ _ => ⟨rfl, e101, ble rfl, ble rfl⟩)
  dsimp only [Pt.U, Pt.locs, Pt.cells, Pt.slots] at X102 l102 y102 z102 st102 hQ102
  subst y102 z102
  obtain ⟨h102, e102⟩ : ∃ z, T102.heap = z := ⟨_, rfl⟩
  rw [e102] at hQ102
  obtain ⟨rfl, N102q, eq102⟩ := hQ102
  rw [eq102] at e102
  have N102 : Fr n0 L102 := by rw [l102]; exact Fr.app N101 N102q
  obtain ⟨cl103, Ar103, q103, S103, Ng103, Ha103, Ga103⟩ := id Vp
  have hin103 : ¬ ((0 : Int32) < 0 ∨ cl103.slots.size ≤ ((0 : Int32)).toNatClampNeg) := inb_of S103 ⟨by decide, by decide⟩
  obtain ⟨T104, h104, X104, e104, W104, st104⟩ := stB X102 hx hZ e102 Ar103 (j := (0 : Int32)) hin103 (g := (mkF mM 40 (Lc_cb0_3_2_2 a1 s a2 d0) [(.int (d0.toInt8.toInt32)), (.int (0 : Int32)), (.ref a2)])) rfl rfl (hb hby d52_22_40)
  have Sz1 : h0.size ≤ h104.size := Nat.le_of_eq (Wr.size W104).symm
  have Vs104 := Arv.set Ar103 q103 S103 Ng103 Ha103 Ga103 (fits_nar_byte _) W104 0 rfl (Nat.le_of_ble_eq_true rfl)
  have Vt104 : Arv Z h104 a2 k2 .byte (3 : Int32) [(.int d0.toInt8.toInt32), (.int (0 : Int32)), (.int (0 : Int32))] (.int (0 : Int32)) := by
    have q : Arv Z h104 a2 k2 .byte (3 : Int32) [(.int (d0.toInt8.toInt32).toInt8.toInt32), (.int (0 : Int32)), (.int (0 : Int32))] (.int (0 : Int32)) := Vs104
    rw [show ((.int (d0.toInt8.toInt32).toInt8.toInt32) : Value) = (.int d0.toInt8.toInt32) from congrArg Value.int (own_b8 d0)] at q
    exact q
  have N104 := Fr.snoc X104 N102 g_a2
  have c106_V_a1 : Arv Z h104 a1 k1 .byte z vs (.int (0 : Int32)) := V_a1.other W104 ne_a1_a2
  have c107_OL : Old Z n0 h104 := OL.wr W104 g_a2
  obtain ⟨_, _, ⟨T105, L105, k105, n105⟩, -, X105, ⟨Lc105, hQ105, l105, y105, z105⟩, st105⟩ := Jvm.LawKit.callS X104 hx (y := y0_) hown (mvT hZ (wi hw 140 rfl)) (mvT hZ (wi hw 141 rfl)) (mvT hZ (wi hw 18 rfl)) (mvT hZ (wi hw 142 rfl)) (by decide) (backOf (W := 0) (rm_getCharG l Z a0 hw [] a1 k1 z vs (s + (1 : Int32)) d1 h104 n0 (by omega) c106_V_a1 c107_OL S__assertionsDisabled S_HI_BYTE_SHIFT S_LO_BYTE_SHIFT hg1) hZ (wi hw 142 rfl) (wi hw 18 rfl) (by decide) (by decide)) (g := (mkF mM 19 (Lc_cb0_3_2_5 a1 s a2 d0) [(.int (s + (1 : Int32))), (.ref a1)])) rfl (by rw [hml]; rfl) (argsL := [(.ref a1), (.int (s + (1 : Int32)))]) (rest := []) (lenOf pd_21 rfl) rfl (by show 2 * 0 + _ ≤ _; exact Nat.le_of_eq rfl) (hb hby d52_22_19) (fun _ _ => ⟨rfl, e104, ble rfl, ble rfl⟩)
  dsimp only [Pt.U, Pt.locs, Pt.cells, Pt.slots] at X105 l105 y105 z105 st105 hQ105
  subst y105 z105
  obtain ⟨h105, e105⟩ : ∃ z, T105.heap = z := ⟨_, rfl⟩
  rw [e105] at hQ105
  obtain ⟨rfl, N105q, eq105⟩ := hQ105
  rw [eq105] at e105
  have N105 : Fr n0 L105 := by rw [l105]; exact Fr.app N104 N105q
  obtain ⟨cl108, Ar108, q108, S108, Ng108, Ha108, Ga108⟩ := id Vt104
  have hin108 : ¬ ((1 : Int32) < 0 ∨ cl108.slots.size ≤ ((1 : Int32)).toNatClampNeg) := inb_of S108 ⟨by decide, by decide⟩
  obtain ⟨T109, h109, X109, e109, W109, st109⟩ := stB X105 hx hZ e105 Ar108 (j := (1 : Int32)) hin108 (g := (mkF mM 40 (Lc_cb0_3_2_6 a1 s a2 d1) [(.int (d1.toInt8.toInt32)), (.int (1 : Int32)), (.ref a2)])) rfl rfl (hb hby d52_22_40)
  have Sz2 : h104.size ≤ h109.size := Nat.le_of_eq (Wr.size W109).symm
  have Vs109 := Arv.set Ar108 q108 S108 Ng108 Ha108 Ga108 (fits_nar_byte _) W109 1 rfl (Nat.le_of_ble_eq_true rfl)
  have Vt109 : Arv Z h109 a2 k2 .byte (3 : Int32) [(.int d0.toInt8.toInt32), (.int d1.toInt8.toInt32), (.int (0 : Int32))] (.int (0 : Int32)) := by
    have q : Arv Z h109 a2 k2 .byte (3 : Int32) [(.int d0.toInt8.toInt32), (.int (d1.toInt8.toInt32).toInt8.toInt32), (.int (0 : Int32))] (.int (0 : Int32)) := Vs109
    rw [show ((.int (d1.toInt8.toInt32).toInt8.toInt32) : Value) = (.int d1.toInt8.toInt32) from congrArg Value.int (own_b8 d1)] at q
    exact q
  have N109 := Fr.snoc X109 N105 g_a2
  have c111_V_a1 : Arv Z h109 a1 k1 .byte z vs (.int (0 : Int32)) := c106_V_a1.other W109 ne_a1_a2
  have c112_OL : Old Z n0 h109 := c107_OL.wr W109 g_a2
  obtain ⟨_, _, ⟨T110, L110, k110, n110⟩, -, X110, ⟨Lc110, hQ110, l110, y110, z110⟩, st110⟩ := Jvm.LawKit.callS X109 hx (y := y0_) hown (mvT hZ (wi hw 140 rfl)) (mvT hZ (wi hw 141 rfl)) (mvT hZ (wi hw 18 rfl)) (mvT hZ (wi hw 142 rfl)) (by decide) (backOf (W := 0) (rm_getCharG l Z a0 hw [] a1 k1 z vs ((s + (1 : Int32)) + (1 : Int32)) d2 h109 n0 (by omega) c111_V_a1 c112_OL S__assertionsDisabled S_HI_BYTE_SHIFT S_LO_BYTE_SHIFT hg2) hZ (wi hw 142 rfl) (wi hw 18 rfl) (by decide) (by decide)) (g := (mkF mM 19 (Lc_cb0_3_2_9 a1 s a2 d1) [(.int ((s + (1 : Int32)) + (1 : Int32))), (.ref a1)])) rfl (by rw [hml]; rfl) (argsL := [(.ref a1), (.int ((s + (1 : Int32)) + (1 : Int32)))]) (rest := []) (lenOf pd_21 rfl) rfl (by show 2 * 0 + _ ≤ _; exact Nat.le_of_eq rfl) (hb hby d52_22_19) (fun _ _ => ⟨rfl, e109, ble rfl, ble rfl⟩)
  dsimp only [Pt.U, Pt.locs, Pt.cells, Pt.slots] at X110 l110 y110 z110 st110 hQ110
  subst y110 z110
  obtain ⟨h110, e110⟩ : ∃ z, T110.heap = z := ⟨_, rfl⟩
  rw [e110] at hQ110
  obtain ⟨rfl, N110q, eq110⟩ := hQ110
  rw [eq110] at e110
  have N110 : Fr n0 L110 := by rw [l110]; exact Fr.app N109 N110q
  have K113 : Keep h0 h104 [a2] := (Keep.refl h0 [a2]).wr W104 (Or.inl (List.mem_of_getElem? (i := 0) rfl))
  have K114 : Keep h0 h109 [a2] := K113.wr W109 (Or.inl (List.mem_of_getElem? (i := 0) rfl))
  obtain ⟨fs, hr, hrun, hended, hW, hsame⟩ := X110.leave (v := some (.int (2 : Int32))) (fun h => by rw [Bd.returns] at h; cases h)
  refine ⟨_, _, castTop (ef_cb0_3_2 mM a1 a2 k1 k2 s nn z vs d0 d1 d2 fo) ?_, hrun, hended, _, _, rfl, ?_, ⟨_, rfl⟩, hW, hsame.mono (by decide) (by decide)⟩
  · show SS pP eE bS s₁ (mkF mM 0 (Lc_cb0_3_2_0 a1 s a2) []) _
    refine XS.iloadN X0.here hx rfl (hb hby d52_22_0) rfl ?_
    refine XS.iload X0.here hx rfl (hb hby d52_22_1) rfl ?_
    refine XS.aloadN X0.here hx rfl (hb hby d52_22_3) rfl rfl ?_
    show SS pP eE bS s₁ (mkF mM 4 (Lc_cb0_3_2_0 a1 s a2) [(.ref a1), (.int (3 : Int32)), (.int s)]) _
    refine st101 _ ?_
    show SS pP eE bS T101 (mkF mM 7 (Lc_cb0_3_2_0 a1 s a2) []) _
    refine XS.iconst X101.here hx rfl (hb hby d52_22_7) ?_
    refine XS.istore X101.here hx rfl (hb hby d52_22_8) rfl (l' := (Lc_cb0_3_2_1 a1 s a2)) rfl ?_
    refine XS.iload X101.here hx rfl (hb hby d52_22_10) rfl ?_
    refine XS.iload X101.here hx rfl (hb hby d52_22_12) rfl ?_
    show SS pP eE bS T101 (mkF mM 14 (Lc_cb0_3_2_1 a1 s a2) [(.int (3 : Int32)), (.int (0 : Int32))]) _
    refine XS.icmpNo X101.here hx rfl (hb hby d52_22_14) rfl (tlt (by decide : (0 : Int32) < (3 : Int32))).2.1 ?_
    refine XS.aloadN X101.here hx rfl (hb hby d52_22_17) rfl rfl ?_
    refine XS.iloadN X101.here hx rfl (hb hby d52_22_18) rfl ?_
    show SS pP eE bS T101 (mkF mM 19 (Lc_cb0_3_2_1 a1 s a2) [(.int s), (.ref a1)]) _
    refine st102 _ ?_
    show SS pP eE bS T102 (mkF mM 22 (Lc_cb0_3_2_1 a1 s a2) [(.int d0)]) _
    refine XS.istore X102.here hx rfl (hb hby d52_22_22) rfl (l' := (Lc_cb0_3_2_2 a1 s a2 d0)) rfl ?_
    refine XS.iload X102.here hx rfl (hb hby d52_22_24) rfl ?_
    refine XS.sipush X102.here hx rfl (hb hby d52_22_26) ?_
    refine XS.icmpYes X102.here hx rfl (pc0 := 29) (pc' := 35) rfl (hb hby d52_22_29) rfl (flt q0).2.2.2 (by decide) (by decide) ?_
    show SS pP eE bS T102 (mkF mM 35 (Lc_cb0_3_2_2 a1 s a2 d0) []) _
    refine XS.aloadN X102.here hx rfl (hb hby d52_22_35) rfl rfl ?_
    refine XS.iloadN X102.here hx rfl (hb hby d52_22_36) rfl ?_
    refine XS.iload X102.here hx rfl (hb hby d52_22_37) rfl ?_
    refine XS.i2b X102.here hx rfl (hb hby d52_22_39) rfl ?_
    show SS pP eE bS T102 (mkF mM 40 (Lc_cb0_3_2_2 a1 s a2 d0) [(.int (d0.toInt8.toInt32)), (.int (0 : Int32)), (.ref a2)]) _
    refine st104 _ ?_
    show SS pP eE bS T104 (mkF mM 41 (Lc_cb0_3_2_2 a1 s a2 d0) []) _
    refine XS.iinc X104.here hx rfl (hb hby d52_22_41) rfl (l' := (Lc_cb0_3_2_3 a1 s a2 d0)) rfl ?_
    refine XS.iinc X104.here hx rfl (hb hby d52_22_44) rfl (l' := (Lc_cb0_3_2_4 a1 s a2 d0)) rfl ?_
    refine XS.iinc X104.here hx rfl (hb hby d52_22_47) rfl (l' := (Lc_cb0_3_2_5 a1 s a2 d0)) rfl ?_
    refine XS.goto X104.here hx rfl (pc0 := 50) (pc' := 10) rfl (hb hby d52_22_50) (by decide) (by decide) ?_
    show SS pP eE bS T104 (mkF mM 10 (Lc_cb0_3_2_5 a1 s a2 d0) []) _
    refine XS.iload X104.here hx rfl (hb hby d52_22_10) rfl ?_
    refine XS.iload X104.here hx rfl (hb hby d52_22_12) rfl ?_
    refine XS.icmpNo X104.here hx rfl (hb hby d52_22_14) rfl (tlt (by decide : (1 : Int32) < (3 : Int32))).2.1 ?_
    refine XS.aloadN X104.here hx rfl (hb hby d52_22_17) rfl rfl ?_
    show SS pP eE bS T104 (mkF mM 18 (Lc_cb0_3_2_5 a1 s a2 d0) [(.ref a1)]) _
    refine XS.iloadN X104.here hx rfl (hb hby d52_22_18) rfl ?_
    show SS pP eE bS T104 (mkF mM 19 (Lc_cb0_3_2_5 a1 s a2 d0) [(.int (s + (1 : Int32))), (.ref a1)]) _
    refine st105 _ ?_
    show SS pP eE bS T105 (mkF mM 22 (Lc_cb0_3_2_5 a1 s a2 d0) [(.int d1)]) _
    refine XS.istore X105.here hx rfl (hb hby d52_22_22) rfl (l' := (Lc_cb0_3_2_6 a1 s a2 d1)) rfl ?_
    refine XS.iload X105.here hx rfl (hb hby d52_22_24) rfl ?_
    refine XS.sipush X105.here hx rfl (hb hby d52_22_26) ?_
    refine XS.icmpYes X105.here hx rfl (pc0 := 29) (pc' := 35) rfl (hb hby d52_22_29) rfl (flt q1).2.2.2 (by decide) (by decide) ?_
    show SS pP eE bS T105 (mkF mM 35 (Lc_cb0_3_2_6 a1 s a2 d1) []) _
    refine XS.aloadN X105.here hx rfl (hb hby d52_22_35) rfl rfl ?_
    refine XS.iloadN X105.here hx rfl (hb hby d52_22_36) rfl ?_
    refine XS.iload X105.here hx rfl (hb hby d52_22_37) rfl ?_
    refine XS.i2b X105.here hx rfl (hb hby d52_22_39) rfl ?_
    show SS pP eE bS T105 (mkF mM 40 (Lc_cb0_3_2_6 a1 s a2 d1) [(.int (d1.toInt8.toInt32)), (.int (1 : Int32)), (.ref a2)]) _
    refine st109 _ ?_
    show SS pP eE bS T109 (mkF mM 41 (Lc_cb0_3_2_6 a1 s a2 d1) []) _
    refine XS.iinc X109.here hx rfl (hb hby d52_22_41) rfl (l' := (Lc_cb0_3_2_7 a1 s a2 d1)) rfl ?_
    refine XS.iinc X109.here hx rfl (hb hby d52_22_44) rfl (l' := (Lc_cb0_3_2_8 a1 s a2 d1)) rfl ?_
    refine XS.iinc X109.here hx rfl (hb hby d52_22_47) rfl (l' := (Lc_cb0_3_2_9 a1 s a2 d1)) rfl ?_
    refine XS.goto X109.here hx rfl (pc0 := 50) (pc' := 10) rfl (hb hby d52_22_50) (by decide) (by decide) ?_
    show SS pP eE bS T109 (mkF mM 10 (Lc_cb0_3_2_9 a1 s a2 d1) []) _
    refine XS.iload X109.here hx rfl (hb hby d52_22_10) rfl ?_
    refine XS.iload X109.here hx rfl (hb hby d52_22_12) rfl ?_
    refine XS.icmpNo X109.here hx rfl (hb hby d52_22_14) rfl (tlt (by decide : (2 : Int32) < (3 : Int32))).2.1 ?_
    refine XS.aloadN X109.here hx rfl (hb hby d52_22_17) rfl rfl ?_
    show SS pP eE bS T109 (mkF mM 18 (Lc_cb0_3_2_9 a1 s a2 d1) [(.ref a1)]) _
    refine XS.iloadN X109.here hx rfl (hb hby d52_22_18) rfl ?_
    show SS pP eE bS T109 (mkF mM 19 (Lc_cb0_3_2_9 a1 s a2 d1) [(.int ((s + (1 : Int32)) + (1 : Int32))), (.ref a1)]) _
    refine st110 _ ?_
    show SS pP eE bS T110 (mkF mM 22 (Lc_cb0_3_2_9 a1 s a2 d1) [(.int d2)]) _
    refine XS.istore X110.here hx rfl (hb hby d52_22_22) rfl (l' := (Lc_cb0_3_2_10 a1 s a2 d2)) rfl ?_
    refine XS.iload X110.here hx rfl (hb hby d52_22_24) rfl ?_
    refine XS.sipush X110.here hx rfl (hb hby d52_22_26) ?_
    refine XS.icmpNo X110.here hx rfl (hb hby d52_22_29) rfl (tlt g2).2.2.2 ?_
    show SS pP eE bS T110 (mkF mM 32 (Lc_cb0_3_2_10 a1 s a2 d2) []) _
    refine XS.iload X110.here hx rfl (hb hby d52_22_32) rfl ?_
    show SS pP eE bS T110 (mkF mM 34 (Lc_cb0_3_2_10 a1 s a2 d2) [(.int (2 : Int32))]) _
    exact retI X110 hx Bd.returns (hb hby d52_22_34) hr
  · show Q_c0 Z a2 [d0, d1, d2] h0 n0 _ T110.heap _
    rw [e110]
    exact ⟨(2 : Int32), d2, rfl, N110, K114, (⟨2, by decide, rfl, rfl, g2⟩)⟩
abbrev Lc_cb0_3_3_0 (a1 : Addr) (s : Int32) (a2 : Addr) : Array Slot := #[.val (.ref a1), .val (.int s), .val (.ref a2), .val (.int (0 : Int32)), .val (.int (3 : Int32)), .unset, .unset]
abbrev Lc_cb0_3_3_1 (a1 : Addr) (s : Int32) (a2 : Addr) : Array Slot := #[.val (.ref a1), .val (.int s), .val (.ref a2), .val (.int (0 : Int32)), .val (.int (3 : Int32)), .val (.int (0 : Int32)), .unset]
abbrev Lc_cb0_3_3_2 (a1 : Addr) (s : Int32) (a2 : Addr) (d0 : Int32) : Array Slot := #[.val (.ref a1), .val (.int s), .val (.ref a2), .val (.int (0 : Int32)), .val (.int (3 : Int32)), .val (.int (0 : Int32)), .val (.int d0)]
abbrev Lc_cb0_3_3_3 (a1 : Addr) (s : Int32) (a2 : Addr) (d0 : Int32) : Array Slot := #[.val (.ref a1), .val (.int (s + (1 : Int32))), .val (.ref a2), .val (.int (0 : Int32)), .val (.int (3 : Int32)), .val (.int (0 : Int32)), .val (.int d0)]
abbrev Lc_cb0_3_3_4 (a1 : Addr) (s : Int32) (a2 : Addr) (d0 : Int32) : Array Slot := #[.val (.ref a1), .val (.int (s + (1 : Int32))), .val (.ref a2), .val (.int (1 : Int32)), .val (.int (3 : Int32)), .val (.int (0 : Int32)), .val (.int d0)]
abbrev Lc_cb0_3_3_5 (a1 : Addr) (s : Int32) (a2 : Addr) (d0 : Int32) : Array Slot := #[.val (.ref a1), .val (.int (s + (1 : Int32))), .val (.ref a2), .val (.int (1 : Int32)), .val (.int (3 : Int32)), .val (.int (1 : Int32)), .val (.int d0)]
abbrev Lc_cb0_3_3_6 (a1 : Addr) (s : Int32) (a2 : Addr) (d1 : Int32) : Array Slot := #[.val (.ref a1), .val (.int (s + (1 : Int32))), .val (.ref a2), .val (.int (1 : Int32)), .val (.int (3 : Int32)), .val (.int (1 : Int32)), .val (.int d1)]
abbrev Lc_cb0_3_3_7 (a1 : Addr) (s : Int32) (a2 : Addr) (d1 : Int32) : Array Slot := #[.val (.ref a1), .val (.int ((s + (1 : Int32)) + (1 : Int32))), .val (.ref a2), .val (.int (1 : Int32)), .val (.int (3 : Int32)), .val (.int (1 : Int32)), .val (.int d1)]
abbrev Lc_cb0_3_3_8 (a1 : Addr) (s : Int32) (a2 : Addr) (d1 : Int32) : Array Slot := #[.val (.ref a1), .val (.int ((s + (1 : Int32)) + (1 : Int32))), .val (.ref a2), .val (.int (2 : Int32)), .val (.int (3 : Int32)), .val (.int (1 : Int32)), .val (.int d1)]
abbrev Lc_cb0_3_3_9 (a1 : Addr) (s : Int32) (a2 : Addr) (d1 : Int32) : Array Slot := #[.val (.ref a1), .val (.int ((s + (1 : Int32)) + (1 : Int32))), .val (.ref a2), .val (.int (2 : Int32)), .val (.int (3 : Int32)), .val (.int (2 : Int32)), .val (.int d1)]
abbrev Lc_cb0_3_3_10 (a1 : Addr) (s : Int32) (a2 : Addr) (d2 : Int32) : Array Slot := #[.val (.ref a1), .val (.int ((s + (1 : Int32)) + (1 : Int32))), .val (.ref a2), .val (.int (2 : Int32)), .val (.int (3 : Int32)), .val (.int (2 : Int32)), .val (.int d2)]
abbrev Lc_cb0_3_3_11 (a1 : Addr) (s : Int32) (a2 : Addr) (d2 : Int32) : Array Slot := #[.val (.ref a1), .val (.int (((s + (1 : Int32)) + (1 : Int32)) + (1 : Int32))), .val (.ref a2), .val (.int (2 : Int32)), .val (.int (3 : Int32)), .val (.int (2 : Int32)), .val (.int d2)]
abbrev Lc_cb0_3_3_12 (a1 : Addr) (s : Int32) (a2 : Addr) (d2 : Int32) : Array Slot := #[.val (.ref a1), .val (.int (((s + (1 : Int32)) + (1 : Int32)) + (1 : Int32))), .val (.ref a2), .val (.int (3 : Int32)), .val (.int (3 : Int32)), .val (.int (2 : Int32)), .val (.int d2)]
abbrev Lc_cb0_3_3_13 (a1 : Addr) (s : Int32) (a2 : Addr) (d2 : Int32) : Array Slot := #[.val (.ref a1), .val (.int (((s + (1 : Int32)) + (1 : Int32)) + (1 : Int32))), .val (.ref a2), .val (.int (3 : Int32)), .val (.int (3 : Int32)), .val (.int (3 : Int32)), .val (.int d2)]
theorem ef_cb0_3_3 (mM : MethodId) (a1 : Addr) (a2 : Addr) (k1 : ClassId) (k2 : ClassId) (s : Int32) (nn : Int32) (z : Int32) (vs : List Value) (d0 : Int32) (d1 : Int32) (d2 : Int32) (fo : Value) : entryFrame mM #[(.ref a1), (.int s), (.ref a2), (.int (0 : Int32)), (.int (3 : Int32))] 7 = mkF mM 0 #[.val (.ref a1), .val (.int s), .val (.ref a2), .val (.int (0 : Int32)), .val (.int (3 : Int32)), .unset, .unset] [] := by
  first | (simp [entryFrame, mkF, argsToLocals, Value.category]; done) | rfl
theorem rm_cb0_3_3 (l : Launch) (Z : State) (a0 : Array Value) (hw : HW a0 Z) (ws : List Jvm.Cond) (a1 : Addr) (a2 : Addr) (k1 : ClassId) (k2 : ClassId) (s : Int32) (nn : Int32) (z : Int32) (vs : List Value) (d0 : Int32) (d1 : Int32) (d2 : Int32) (fo : Value) (h0 : Heap) (n0 : Nat) (Z0 : n0 ≤ h0.size) (V_a1 : Arv Z h0 a1 k1 .byte z vs (.int (0 : Int32))) (V_a2 : Arv Z h0 a2 k2 .byte (3 : Int32) [] (.int (0 : Int32))) (ne_a1_a2 : @Ne Nat a1 a2) (g_a2 : @LE.le Nat _ n0 a2) (hzn : (z >>> ((1 : Int32) &&& 31)) = nn) (hA : ¬ (((nn ||| s) ||| (3 : Int32)) < (0 : Int32))) (hB : ¬ ((nn - s) < (3 : Int32))) (q0 : ¬ ((255 : Int32) < d0)) (q1 : ¬ ((255 : Int32) < d1)) (q2 : ¬ ((255 : Int32) < d2)) (hg0 : GCp z vs s d0) (hg1 : GCp z vs (s + (1 : Int32)) d1) (hg2 : GCp z vs ((s + (1 : Int32)) + (1 : Int32)) d2) (OL : Old Z n0 h0) (S__assertionsDisabled : Sta Z Z.heap "java/lang/StringUTF16" "$assertionsDisabled" "Z" (.int (1 : Int32))) (S_HI_BYTE_SHIFT : Sta Z Z.heap "java/lang/StringUTF16" "HI_BYTE_SHIFT" "I" (.int (0 : Int32))) (S_LO_BYTE_SHIFT : Sta Z Z.heap "java/lang/StringUTF16" "LO_BYTE_SHIFT" "I" (.int (8 : Int32))) (hfo : (fo).isRef = true) (S_SIOOBE_FORMATTER : Sta Z Z.heap "jdk/internal/util/Preconditions" "SIOOBE_FORMATTER" "Ljava/util/function/BiFunction;" fo) :
    MetFree l y23_ (head1 (Jvm.Cond.code y23_ jdk_52_method_22_code 7 (some .int) :: ws) r3_0_0_43) (fun xa xU => xa = #[(.ref a1), (.int s), (.ref a2), (.int (0 : Int32)), (.int (3 : Int32))] ∧ Z.Warmed39 xU.vm ∧ xU.heap = h0) (fun _ _ _ _ _ => True) (fun _ xU xo xU' => ∃ xv xL, xo = .returned xv ∧ Q_c1 Z a2 k2 (3 : Int32) [d0, d1, d2] h0 n0 xv xU'.heap xL ∧ FrameEnd xU xo xU' xL r3_0_0_43.cells r3_0_0_43.slots) := by
  refine MetFree.of_bodySF (plainFor_of_name pn_java_lang_StringUTF16) hisR ?_
  intro pP eE sS mM argS bS methS cC s₁ Bd hml0 hP hK
  obtain ⟨rfl, hZ, hh⟩ := hP
  have hx := Bd.exec
  have hby := Bd.bytes
  have hml : cC.maxLocals = 7 := hml0
  have hown : sS.vm.findClass "java/lang/StringUTF16" = some mM.cls := findClass_of_methodNamed Bd.named
  have hnm := (name_of_methodNamed Bd.named Bd.method).1
  have X0 : Stand pP l eE r3_0_0_43 sS mM #[(.ref a1), (.int s), (.ref a2), (.int (0 : Int32)), (.int (3 : Int32))] bS methS cC s₁ [] 0 0 := Stand.of_body Bd
  have e0 : s₁.heap = h0 := by rw [← hh, Bd.state]; rfl
  have N0 := Fr.nil n0
  have Vp : Arv Z h0 a2 k2 .byte (3 : Int32) [(.int (0 : Int32)), (.int (0 : Int32)), (.int (0 : Int32))] (.int (0 : Int32)) := V_a2.pad (pad_rep [] (.int (0 : Int32)) 3)
  obtain ⟨_, _, ⟨T101, L101, k101, n101⟩, -, X101, ⟨Lc101, hQ101, l101, y101, z101⟩, st101⟩ := Jvm.LawKit.callS X0 hx (y := y22_) hown (mvT hZ (wi hw 190 rfl)) (mvT hZ (wi hw 191 rfl)) (mvT hZ (wi hw 18 rfl)) (mvT hZ (wi hw 192 rfl)) (by decide) (backOf (W := 0) (rm_ucbo l Z a0 hw [] s (3 : Int32) a1 k1 z vs nn fo h0 n0 (by omega) hfo V_a1 hzn hA hB OL S_SIOOBE_FORMATTER) hZ (wi hw 192 rfl) (wi hw 18 rfl) (by decide) (by decide)) (g := (mkF mM 4 (Lc_cb0_3_3_0 a1 s a2) [(.ref a1), (.int (3 : Int32)), (.int s)])) rfl (by rw [hml]; rfl) (argsL := [(.int s), (.int (3 : Int32)), (.ref a1)]) (rest := []) (lenOf pd_30 rfl) rfl (by show 2 * 0 + _ ≤ _; exact Nat.le_of_eq rfl) (hb hby d52_22_4) (fun _ _ => ⟨rfl, e0, ble rfl, ble rfl⟩)
  dsimp only [Pt.U, Pt.locs, Pt.cells, Pt.slots] at X101 l101 y101 z101 st101 hQ101
  subst y101 z101
  obtain ⟨h101, e101⟩ : ∃ z, T101.heap = z := ⟨_, rfl⟩
  rw [e101] at hQ101
  obtain ⟨rfl, N101q, eq101⟩ := hQ101
  rw [eq101] at e101
  have N101 : Fr n0 L101 := by rw [l101]; exact Fr.app N0 N101q
  obtain ⟨_, _, ⟨T102, L102, k102, n102⟩, -, X102, ⟨Lc102, hQ102, l102, y102, z102⟩, st102⟩ := Jvm.LawKit.callS X101 hx (y := y0_) hown (mvT hZ (wi hw 140 rfl)) (mvT hZ (wi hw 141 rfl)) (mvT hZ (wi hw 18 rfl)) (mvT hZ (wi hw 142 rfl)) (by decide) (backOf (W := 0) (rm_getCharG l Z a0 hw [] a1 k1 z vs s d0 h0 n0 (by omega) V_a1 OL S__assertionsDisabled S_HI_BYTE_SHIFT S_LO_BYTE_SHIFT hg0) hZ (wi hw 142 rfl) (wi hw 18 rfl) (by decide) (by decide)) (g := (mkF mM 19 (Lc_cb0_3_3_1 a1 s a2) [(.int s), (.ref a1)])) rfl (by rw [hml]; rfl) (argsL := [(.ref a1), (.int s)]) (rest := []) (lenOf pd_21 rfl) rfl (by show 2 * 0 + _ ≤ _; exact Nat.le_of_eq rfl) (hb hby d52_22_19) (fun _ _ => ⟨rfl, e101, ble rfl, ble rfl⟩)
  dsimp only [Pt.U, Pt.locs, Pt.cells, Pt.slots] at X102 l102 y102 z102 st102 hQ102
  subst y102 z102
  obtain ⟨h102, e102⟩ : ∃ z, T102.heap = z := ⟨_, rfl⟩
  rw [e102] at hQ102
  obtain ⟨rfl, N102q, eq102⟩ := hQ102
  rw [eq102] at e102
  have N102 : Fr n0 L102 := by rw [l102]; exact Fr.app N101 N102q
  obtain ⟨cl103, Ar103, q103, S103, Ng103, Ha103, Ga103⟩ := id Vp
  have hin103 : ¬ ((0 : Int32) < 0 ∨ cl103.slots.size ≤ ((0 : Int32)).toNatClampNeg) := inb_of S103 ⟨by decide, by decide⟩
  obtain ⟨T104, h104, X104, e104, W104, st104⟩ := stB X102 hx hZ e102 Ar103 (j := (0 : Int32)) hin103 (g := (mkF mM 40 (Lc_cb0_3_3_2 a1 s a2 d0) [(.int (d0.toInt8.toInt32)), (.int (0 : Int32)), (.ref a2)])) rfl rfl (hb hby d52_22_40)
  have Sz1 : h0.size ≤ h104.size := Nat.le_of_eq (Wr.size W104).symm
  have Vs104 := Arv.set Ar103 q103 S103 Ng103 Ha103 Ga103 (fits_nar_byte _) W104 0 rfl (Nat.le_of_ble_eq_true rfl)
  have Vt104 : Arv Z h104 a2 k2 .byte (3 : Int32) [(.int d0.toInt8.toInt32), (.int (0 : Int32)), (.int (0 : Int32))] (.int (0 : Int32)) := by
    have q : Arv Z h104 a2 k2 .byte (3 : Int32) [(.int (d0.toInt8.toInt32).toInt8.toInt32), (.int (0 : Int32)), (.int (0 : Int32))] (.int (0 : Int32)) := Vs104
    rw [show ((.int (d0.toInt8.toInt32).toInt8.toInt32) : Value) = (.int d0.toInt8.toInt32) from congrArg Value.int (own_b8 d0)] at q
    exact q
  have N104 := Fr.snoc X104 N102 g_a2
  have c106_V_a1 : Arv Z h104 a1 k1 .byte z vs (.int (0 : Int32)) := V_a1.other W104 ne_a1_a2
  have c107_OL : Old Z n0 h104 := OL.wr W104 g_a2
  obtain ⟨_, _, ⟨T105, L105, k105, n105⟩, -, X105, ⟨Lc105, hQ105, l105, y105, z105⟩, st105⟩ := Jvm.LawKit.callS X104 hx (y := y0_) hown (mvT hZ (wi hw 140 rfl)) (mvT hZ (wi hw 141 rfl)) (mvT hZ (wi hw 18 rfl)) (mvT hZ (wi hw 142 rfl)) (by decide) (backOf (W := 0) (rm_getCharG l Z a0 hw [] a1 k1 z vs (s + (1 : Int32)) d1 h104 n0 (by omega) c106_V_a1 c107_OL S__assertionsDisabled S_HI_BYTE_SHIFT S_LO_BYTE_SHIFT hg1) hZ (wi hw 142 rfl) (wi hw 18 rfl) (by decide) (by decide)) (g := (mkF mM 19 (Lc_cb0_3_3_5 a1 s a2 d0) [(.int (s + (1 : Int32))), (.ref a1)])) rfl (by rw [hml]; rfl) (argsL := [(.ref a1), (.int (s + (1 : Int32)))]) (rest := []) (lenOf pd_21 rfl) rfl (by show 2 * 0 + _ ≤ _; exact Nat.le_of_eq rfl) (hb hby d52_22_19) (fun _ _ => ⟨rfl, e104, ble rfl, ble rfl⟩)
  dsimp only [Pt.U, Pt.locs, Pt.cells, Pt.slots] at X105 l105 y105 z105 st105 hQ105
  subst y105 z105
  obtain ⟨h105, e105⟩ : ∃ z, T105.heap = z := ⟨_, rfl⟩
  rw [e105] at hQ105
  obtain ⟨rfl, N105q, eq105⟩ := hQ105
  rw [eq105] at e105
  have N105 : Fr n0 L105 := by rw [l105]; exact Fr.app N104 N105q
  obtain ⟨cl108, Ar108, q108, S108, Ng108, Ha108, Ga108⟩ := id Vt104
  have hin108 : ¬ ((1 : Int32) < 0 ∨ cl108.slots.size ≤ ((1 : Int32)).toNatClampNeg) := inb_of S108 ⟨by decide, by decide⟩
  obtain ⟨T109, h109, X109, e109, W109, st109⟩ := stB X105 hx hZ e105 Ar108 (j := (1 : Int32)) hin108 (g := (mkF mM 40 (Lc_cb0_3_3_6 a1 s a2 d1) [(.int (d1.toInt8.toInt32)), (.int (1 : Int32)), (.ref a2)])) rfl rfl (hb hby d52_22_40)
  have Sz2 : h104.size ≤ h109.size := Nat.le_of_eq (Wr.size W109).symm
  have Vs109 := Arv.set Ar108 q108 S108 Ng108 Ha108 Ga108 (fits_nar_byte _) W109 1 rfl (Nat.le_of_ble_eq_true rfl)
  have Vt109 : Arv Z h109 a2 k2 .byte (3 : Int32) [(.int d0.toInt8.toInt32), (.int d1.toInt8.toInt32), (.int (0 : Int32))] (.int (0 : Int32)) := by
    have q : Arv Z h109 a2 k2 .byte (3 : Int32) [(.int d0.toInt8.toInt32), (.int (d1.toInt8.toInt32).toInt8.toInt32), (.int (0 : Int32))] (.int (0 : Int32)) := Vs109
    rw [show ((.int (d1.toInt8.toInt32).toInt8.toInt32) : Value) = (.int d1.toInt8.toInt32) from congrArg Value.int (own_b8 d1)] at q
    exact q
  have N109 := Fr.snoc X109 N105 g_a2
  have c111_V_a1 : Arv Z h109 a1 k1 .byte z vs (.int (0 : Int32)) := c106_V_a1.other W109 ne_a1_a2
  have c112_OL : Old Z n0 h109 := c107_OL.wr W109 g_a2
  obtain ⟨_, _, ⟨T110, L110, k110, n110⟩, -, X110, ⟨Lc110, hQ110, l110, y110, z110⟩, st110⟩ := Jvm.LawKit.callS X109 hx (y := y0_) hown (mvT hZ (wi hw 140 rfl)) (mvT hZ (wi hw 141 rfl)) (mvT hZ (wi hw 18 rfl)) (mvT hZ (wi hw 142 rfl)) (by decide) (backOf (W := 0) (rm_getCharG l Z a0 hw [] a1 k1 z vs ((s + (1 : Int32)) + (1 : Int32)) d2 h109 n0 (by omega) c111_V_a1 c112_OL S__assertionsDisabled S_HI_BYTE_SHIFT S_LO_BYTE_SHIFT hg2) hZ (wi hw 142 rfl) (wi hw 18 rfl) (by decide) (by decide)) (g := (mkF mM 19 (Lc_cb0_3_3_9 a1 s a2 d1) [(.int ((s + (1 : Int32)) + (1 : Int32))), (.ref a1)])) rfl (by rw [hml]; rfl) (argsL := [(.ref a1), (.int ((s + (1 : Int32)) + (1 : Int32)))]) (rest := []) (lenOf pd_21 rfl) rfl (by show 2 * 0 + _ ≤ _; exact Nat.le_of_eq rfl) (hb hby d52_22_19) (fun _ _ => ⟨rfl, e109, ble rfl, ble rfl⟩)
  dsimp only [Pt.U, Pt.locs, Pt.cells, Pt.slots] at X110 l110 y110 z110 st110 hQ110
  subst y110 z110
  obtain ⟨h110, e110⟩ : ∃ z, T110.heap = z := ⟨_, rfl⟩
  rw [e110] at hQ110
  obtain ⟨rfl, N110q, eq110⟩ := hQ110
  rw [eq110] at e110
  have N110 : Fr n0 L110 := by rw [l110]; exact Fr.app N109 N110q
  obtain ⟨cl113, Ar113, q113, S113, Ng113, Ha113, Ga113⟩ := id Vt109
  have hin113 : ¬ ((2 : Int32) < 0 ∨ cl113.slots.size ≤ ((2 : Int32)).toNatClampNeg) := inb_of S113 ⟨by decide, by decide⟩
  obtain ⟨T114, h114, X114, e114, W114, st114⟩ := stB X110 hx hZ e110 Ar113 (j := (2 : Int32)) hin113 (g := (mkF mM 40 (Lc_cb0_3_3_10 a1 s a2 d2) [(.int (d2.toInt8.toInt32)), (.int (2 : Int32)), (.ref a2)])) rfl rfl (hb hby d52_22_40)
  have Sz3 : h109.size ≤ h114.size := Nat.le_of_eq (Wr.size W114).symm
  have Vs114 := Arv.set Ar113 q113 S113 Ng113 Ha113 Ga113 (fits_nar_byte _) W114 2 rfl (Nat.le_of_ble_eq_true rfl)
  have Vt114 : Arv Z h114 a2 k2 .byte (3 : Int32) [(.int d0.toInt8.toInt32), (.int d1.toInt8.toInt32), (.int d2.toInt8.toInt32)] (.int (0 : Int32)) := by
    have q : Arv Z h114 a2 k2 .byte (3 : Int32) [(.int d0.toInt8.toInt32), (.int d1.toInt8.toInt32), (.int (d2.toInt8.toInt32).toInt8.toInt32)] (.int (0 : Int32)) := Vs114
    rw [show ((.int (d2.toInt8.toInt32).toInt8.toInt32) : Value) = (.int d2.toInt8.toInt32) from congrArg Value.int (own_b8 d2)] at q
    exact q
  have N114 := Fr.snoc X114 N110 g_a2
  have K115 : Keep h0 h104 [a2] := (Keep.refl h0 [a2]).wr W104 (Or.inl (List.mem_of_getElem? (i := 0) rfl))
  have K116 : Keep h0 h109 [a2] := K115.wr W109 (Or.inl (List.mem_of_getElem? (i := 0) rfl))
  have K117 : Keep h0 h114 [a2] := K116.wr W114 (Or.inl (List.mem_of_getElem? (i := 0) rfl))
  obtain ⟨fs, hr, hrun, hended, hW, hsame⟩ := X114.leave (v := some (.int (3 : Int32))) (fun h => by rw [Bd.returns] at h; cases h)
  refine ⟨_, _, castTop (ef_cb0_3_3 mM a1 a2 k1 k2 s nn z vs d0 d1 d2 fo) ?_, hrun, hended, _, _, rfl, ?_, ⟨_, rfl⟩, hW, hsame.mono (by decide) (by decide)⟩
  · show SS pP eE bS s₁ (mkF mM 0 (Lc_cb0_3_3_0 a1 s a2) []) _
    refine XS.iloadN X0.here hx rfl (hb hby d52_22_0) rfl ?_
    refine XS.iload X0.here hx rfl (hb hby d52_22_1) rfl ?_
    refine XS.aloadN X0.here hx rfl (hb hby d52_22_3) rfl rfl ?_
    show SS pP eE bS s₁ (mkF mM 4 (Lc_cb0_3_3_0 a1 s a2) [(.ref a1), (.int (3 : Int32)), (.int s)]) _
    refine st101 _ ?_
    show SS pP eE bS T101 (mkF mM 7 (Lc_cb0_3_3_0 a1 s a2) []) _
    refine XS.iconst X101.here hx rfl (hb hby d52_22_7) ?_
    refine XS.istore X101.here hx rfl (hb hby d52_22_8) rfl (l' := (Lc_cb0_3_3_1 a1 s a2)) rfl ?_
    refine XS.iload X101.here hx rfl (hb hby d52_22_10) rfl ?_
    refine XS.iload X101.here hx rfl (hb hby d52_22_12) rfl ?_
    show SS pP eE bS T101 (mkF mM 14 (Lc_cb0_3_3_1 a1 s a2) [(.int (3 : Int32)), (.int (0 : Int32))]) _
    refine XS.icmpNo X101.here hx rfl (hb hby d52_22_14) rfl (tlt (by decide : (0 : Int32) < (3 : Int32))).2.1 ?_
    refine XS.aloadN X101.here hx rfl (hb hby d52_22_17) rfl rfl ?_
    refine XS.iloadN X101.here hx rfl (hb hby d52_22_18) rfl ?_
    show SS pP eE bS T101 (mkF mM 19 (Lc_cb0_3_3_1 a1 s a2) [(.int s), (.ref a1)]) _
    refine st102 _ ?_
    show SS pP eE bS T102 (mkF mM 22 (Lc_cb0_3_3_1 a1 s a2) [(.int d0)]) _
    refine XS.istore X102.here hx rfl (hb hby d52_22_22) rfl (l' := (Lc_cb0_3_3_2 a1 s a2 d0)) rfl ?_
    refine XS.iload X102.here hx rfl (hb hby d52_22_24) rfl ?_
    refine XS.sipush X102.here hx rfl (hb hby d52_22_26) ?_
    refine XS.icmpYes X102.here hx rfl (pc0 := 29) (pc' := 35) rfl (hb hby d52_22_29) rfl (flt q0).2.2.2 (by decide) (by decide) ?_
    show SS pP eE bS T102 (mkF mM 35 (Lc_cb0_3_3_2 a1 s a2 d0) []) _
    refine XS.aloadN X102.here hx rfl (hb hby d52_22_35) rfl rfl ?_
    refine XS.iloadN X102.here hx rfl (hb hby d52_22_36) rfl ?_
    refine XS.iload X102.here hx rfl (hb hby d52_22_37) rfl ?_
    refine XS.i2b X102.here hx rfl (hb hby d52_22_39) rfl ?_
    show SS pP eE bS T102 (mkF mM 40 (Lc_cb0_3_3_2 a1 s a2 d0) [(.int (d0.toInt8.toInt32)), (.int (0 : Int32)), (.ref a2)]) _
    refine st104 _ ?_
    show SS pP eE bS T104 (mkF mM 41 (Lc_cb0_3_3_2 a1 s a2 d0) []) _
    refine XS.iinc X104.here hx rfl (hb hby d52_22_41) rfl (l' := (Lc_cb0_3_3_3 a1 s a2 d0)) rfl ?_
    refine XS.iinc X104.here hx rfl (hb hby d52_22_44) rfl (l' := (Lc_cb0_3_3_4 a1 s a2 d0)) rfl ?_
    refine XS.iinc X104.here hx rfl (hb hby d52_22_47) rfl (l' := (Lc_cb0_3_3_5 a1 s a2 d0)) rfl ?_
    refine XS.goto X104.here hx rfl (pc0 := 50) (pc' := 10) rfl (hb hby d52_22_50) (by decide) (by decide) ?_
    show SS pP eE bS T104 (mkF mM 10 (Lc_cb0_3_3_5 a1 s a2 d0) []) _
    refine XS.iload X104.here hx rfl (hb hby d52_22_10) rfl ?_
    refine XS.iload X104.here hx rfl (hb hby d52_22_12) rfl ?_
    refine XS.icmpNo X104.here hx rfl (hb hby d52_22_14) rfl (tlt (by decide : (1 : Int32) < (3 : Int32))).2.1 ?_
    refine XS.aloadN X104.here hx rfl (hb hby d52_22_17) rfl rfl ?_
    show SS pP eE bS T104 (mkF mM 18 (Lc_cb0_3_3_5 a1 s a2 d0) [(.ref a1)]) _
    refine XS.iloadN X104.here hx rfl (hb hby d52_22_18) rfl ?_
    show SS pP eE bS T104 (mkF mM 19 (Lc_cb0_3_3_5 a1 s a2 d0) [(.int (s + (1 : Int32))), (.ref a1)]) _
    refine st105 _ ?_
    show SS pP eE bS T105 (mkF mM 22 (Lc_cb0_3_3_5 a1 s a2 d0) [(.int d1)]) _
    refine XS.istore X105.here hx rfl (hb hby d52_22_22) rfl (l' := (Lc_cb0_3_3_6 a1 s a2 d1)) rfl ?_
    refine XS.iload X105.here hx rfl (hb hby d52_22_24) rfl ?_
    refine XS.sipush X105.here hx rfl (hb hby d52_22_26) ?_
    refine XS.icmpYes X105.here hx rfl (pc0 := 29) (pc' := 35) rfl (hb hby d52_22_29) rfl (flt q1).2.2.2 (by decide) (by decide) ?_
    show SS pP eE bS T105 (mkF mM 35 (Lc_cb0_3_3_6 a1 s a2 d1) []) _
    refine XS.aloadN X105.here hx rfl (hb hby d52_22_35) rfl rfl ?_
    refine XS.iloadN X105.here hx rfl (hb hby d52_22_36) rfl ?_
    refine XS.iload X105.here hx rfl (hb hby d52_22_37) rfl ?_
    refine XS.i2b X105.here hx rfl (hb hby d52_22_39) rfl ?_
    show SS pP eE bS T105 (mkF mM 40 (Lc_cb0_3_3_6 a1 s a2 d1) [(.int (d1.toInt8.toInt32)), (.int (1 : Int32)), (.ref a2)]) _
    refine st109 _ ?_
    show SS pP eE bS T109 (mkF mM 41 (Lc_cb0_3_3_6 a1 s a2 d1) []) _
    refine XS.iinc X109.here hx rfl (hb hby d52_22_41) rfl (l' := (Lc_cb0_3_3_7 a1 s a2 d1)) rfl ?_
    refine XS.iinc X109.here hx rfl (hb hby d52_22_44) rfl (l' := (Lc_cb0_3_3_8 a1 s a2 d1)) rfl ?_
    refine XS.iinc X109.here hx rfl (hb hby d52_22_47) rfl (l' := (Lc_cb0_3_3_9 a1 s a2 d1)) rfl ?_
    refine XS.goto X109.here hx rfl (pc0 := 50) (pc' := 10) rfl (hb hby d52_22_50) (by decide) (by decide) ?_
    show SS pP eE bS T109 (mkF mM 10 (Lc_cb0_3_3_9 a1 s a2 d1) []) _
    refine XS.iload X109.here hx rfl (hb hby d52_22_10) rfl ?_
    refine XS.iload X109.here hx rfl (hb hby d52_22_12) rfl ?_
    refine XS.icmpNo X109.here hx rfl (hb hby d52_22_14) rfl (tlt (by decide : (2 : Int32) < (3 : Int32))).2.1 ?_
    refine XS.aloadN X109.here hx rfl (hb hby d52_22_17) rfl rfl ?_
    show SS pP eE bS T109 (mkF mM 18 (Lc_cb0_3_3_9 a1 s a2 d1) [(.ref a1)]) _
    refine XS.iloadN X109.here hx rfl (hb hby d52_22_18) rfl ?_
    show SS pP eE bS T109 (mkF mM 19 (Lc_cb0_3_3_9 a1 s a2 d1) [(.int ((s + (1 : Int32)) + (1 : Int32))), (.ref a1)]) _
    refine st110 _ ?_
    show SS pP eE bS T110 (mkF mM 22 (Lc_cb0_3_3_9 a1 s a2 d1) [(.int d2)]) _
    refine XS.istore X110.here hx rfl (hb hby d52_22_22) rfl (l' := (Lc_cb0_3_3_10 a1 s a2 d2)) rfl ?_
    refine XS.iload X110.here hx rfl (hb hby d52_22_24) rfl ?_
    refine XS.sipush X110.here hx rfl (hb hby d52_22_26) ?_
    refine XS.icmpYes X110.here hx rfl (pc0 := 29) (pc' := 35) rfl (hb hby d52_22_29) rfl (flt q2).2.2.2 (by decide) (by decide) ?_
    show SS pP eE bS T110 (mkF mM 35 (Lc_cb0_3_3_10 a1 s a2 d2) []) _
    refine XS.aloadN X110.here hx rfl (hb hby d52_22_35) rfl rfl ?_
    refine XS.iloadN X110.here hx rfl (hb hby d52_22_36) rfl ?_
    refine XS.iload X110.here hx rfl (hb hby d52_22_37) rfl ?_
    refine XS.i2b X110.here hx rfl (hb hby d52_22_39) rfl ?_
    show SS pP eE bS T110 (mkF mM 40 (Lc_cb0_3_3_10 a1 s a2 d2) [(.int (d2.toInt8.toInt32)), (.int (2 : Int32)), (.ref a2)]) _
    refine st114 _ ?_
    show SS pP eE bS T114 (mkF mM 41 (Lc_cb0_3_3_10 a1 s a2 d2) []) _
    refine XS.iinc X114.here hx rfl (hb hby d52_22_41) rfl (l' := (Lc_cb0_3_3_11 a1 s a2 d2)) rfl ?_
    refine XS.iinc X114.here hx rfl (hb hby d52_22_44) rfl (l' := (Lc_cb0_3_3_12 a1 s a2 d2)) rfl ?_
    refine XS.iinc X114.here hx rfl (hb hby d52_22_47) rfl (l' := (Lc_cb0_3_3_13 a1 s a2 d2)) rfl ?_
    refine XS.goto X114.here hx rfl (pc0 := 50) (pc' := 10) rfl (hb hby d52_22_50) (by decide) (by decide) ?_
    show SS pP eE bS T114 (mkF mM 10 (Lc_cb0_3_3_13 a1 s a2 d2) []) _
    refine XS.iload X114.here hx rfl (hb hby d52_22_10) rfl ?_
    refine XS.iload X114.here hx rfl (hb hby d52_22_12) rfl ?_
    refine XS.icmpYes X114.here hx rfl (pc0 := 14) (pc' := 53) rfl (hb hby d52_22_14) rfl (flt (by decide : ¬ ((3 : Int32) < (3 : Int32)))).2.1 (by decide) (by decide) ?_
    refine XS.iload X114.here hx rfl (hb hby d52_22_53) rfl ?_
    show SS pP eE bS T114 (mkF mM 55 (Lc_cb0_3_3_13 a1 s a2 d2) [(.int (3 : Int32))]) _
    exact retI X114 hx Bd.returns (hb hby d52_22_55) hr
  · show Q_c1 Z a2 k2 (3 : Int32) [d0, d1, d2] h0 n0 _ T114.heap _
    rw [e114]
    exact ⟨rfl, N114, K117, Vt114⟩
theorem rm_cb0F (l : Launch) (Z : State) (a0 : Array Value) (hw : HW a0 Z) (ws : List Jvm.Cond) (a1 : Addr) (a2 : Addr) (k1 : ClassId) (k2 : ClassId) (s : Int32) (nn : Int32) (z : Int32) (vs : List Value) (ln : Int32) (ds : List Int32) (fo : Value) (h0 : Heap) (n0 : Nat) (Z0 : n0 ≤ h0.size) (V_a1 : Arv Z h0 a1 k1 .byte z vs (.int (0 : Int32))) (V_a2 : Arv Z h0 a2 k2 .byte ln [] (.int (0 : Int32))) (ne_a1_a2 : @Ne Nat a1 a2) (g_a2 : @LE.le Nat _ n0 a2) (hcbp : CbP z vs s ln nn ds) (hany : AnyG ds) (OL : Old Z n0 h0) (S__assertionsDisabled : Sta Z Z.heap "java/lang/StringUTF16" "$assertionsDisabled" "Z" (.int (1 : Int32))) (S_HI_BYTE_SHIFT : Sta Z Z.heap "java/lang/StringUTF16" "HI_BYTE_SHIFT" "I" (.int (0 : Int32))) (S_LO_BYTE_SHIFT : Sta Z Z.heap "java/lang/StringUTF16" "LO_BYTE_SHIFT" "I" (.int (8 : Int32))) (hfo : (fo).isRef = true) (S_SIOOBE_FORMATTER : Sta Z Z.heap "jdk/internal/util/Preconditions" "SIOOBE_FORMATTER" "Ljava/util/function/BiFunction;" fo) :
    MetFree l y23_ (head1 (Jvm.Cond.code y23_ jdk_52_method_22_code 7 (some .int) :: ws) r3_0_0_43) (fun xa xU => xa = #[(.ref a1), (.int s), (.ref a2), (.int (0 : Int32)), (.int ln)] ∧ Z.Warmed39 xU.vm ∧ xU.heap = h0) (fun _ _ _ _ _ => True) (fun _ xU xo xU' => ∃ xv xL, xo = .returned xv ∧ Q_c0 Z a2 ds h0 n0 xv xU'.heap xL ∧ FrameEnd xU xo xU' xL r3_0_0_43.cells r3_0_0_43.slots) := by
  obtain ⟨hzn, hA, hB, hd⟩ := hcbp
  rcases hd with ⟨d0, rfl, rfl, hg0⟩ | ⟨d0, d1, rfl, rfl, hg0, hg1⟩ | ⟨d0, d1, d2, rfl, rfl, hg0, hg1, hg2⟩
  · by_cases g0 : (255 : Int32) < d0
    · exact rm_cb0_1_0 l Z a0 hw ws a1 a2 k1 k2 s nn z vs d0 fo h0 n0 Z0 V_a1 V_a2 ne_a1_a2 g_a2 hzn hA hB g0 hg0 OL S__assertionsDisabled S_HI_BYTE_SHIFT S_LO_BYTE_SHIFT hfo S_SIOOBE_FORMATTER
    have q0 : ¬ ((255 : Int32) < d0) := g0
    exact absurd hany (fun h => by rcases h with h | h <;> first | exact absurd h (by assumption) | exact h)
  · by_cases g0 : (255 : Int32) < d0
    · exact rm_cb0_2_0 l Z a0 hw ws a1 a2 k1 k2 s nn z vs d0 d1 fo h0 n0 Z0 V_a1 V_a2 ne_a1_a2 g_a2 hzn hA hB g0 hg0 OL S__assertionsDisabled S_HI_BYTE_SHIFT S_LO_BYTE_SHIFT hfo S_SIOOBE_FORMATTER
    have q0 : ¬ ((255 : Int32) < d0) := g0
    by_cases g1 : (255 : Int32) < d1
    · exact rm_cb0_2_1 l Z a0 hw ws a1 a2 k1 k2 s nn z vs d0 d1 fo h0 n0 Z0 V_a1 V_a2 ne_a1_a2 g_a2 hzn hA hB q0 g1 hg0 hg1 OL S__assertionsDisabled S_HI_BYTE_SHIFT S_LO_BYTE_SHIFT hfo S_SIOOBE_FORMATTER
    have q1 : ¬ ((255 : Int32) < d1) := g1
    exact absurd hany (fun h => by rcases h with h | h | h <;> first | exact absurd h (by assumption) | exact h)
  · by_cases g0 : (255 : Int32) < d0
    · exact rm_cb0_3_0 l Z a0 hw ws a1 a2 k1 k2 s nn z vs d0 d1 d2 fo h0 n0 Z0 V_a1 V_a2 ne_a1_a2 g_a2 hzn hA hB g0 hg0 OL S__assertionsDisabled S_HI_BYTE_SHIFT S_LO_BYTE_SHIFT hfo S_SIOOBE_FORMATTER
    have q0 : ¬ ((255 : Int32) < d0) := g0
    by_cases g1 : (255 : Int32) < d1
    · exact rm_cb0_3_1 l Z a0 hw ws a1 a2 k1 k2 s nn z vs d0 d1 d2 fo h0 n0 Z0 V_a1 V_a2 ne_a1_a2 g_a2 hzn hA hB q0 g1 hg0 hg1 OL S__assertionsDisabled S_HI_BYTE_SHIFT S_LO_BYTE_SHIFT hfo S_SIOOBE_FORMATTER
    have q1 : ¬ ((255 : Int32) < d1) := g1
    by_cases g2 : (255 : Int32) < d2
    · exact rm_cb0_3_2 l Z a0 hw ws a1 a2 k1 k2 s nn z vs d0 d1 d2 fo h0 n0 Z0 V_a1 V_a2 ne_a1_a2 g_a2 hzn hA hB q0 q1 g2 hg0 hg1 hg2 OL S__assertionsDisabled S_HI_BYTE_SHIFT S_LO_BYTE_SHIFT hfo S_SIOOBE_FORMATTER
    have q2 : ¬ ((255 : Int32) < d2) := g2
    exact absurd hany (fun h => by rcases h with h | h | h | h <;> first | exact absurd h (by assumption) | exact h)
theorem rm_cb0S (l : Launch) (Z : State) (a0 : Array Value) (hw : HW a0 Z) (ws : List Jvm.Cond) (a1 : Addr) (a2 : Addr) (k1 : ClassId) (k2 : ClassId) (s : Int32) (nn : Int32) (z : Int32) (vs : List Value) (ln : Int32) (ds : List Int32) (fo : Value) (h0 : Heap) (n0 : Nat) (Z0 : n0 ≤ h0.size) (V_a1 : Arv Z h0 a1 k1 .byte z vs (.int (0 : Int32))) (V_a2 : Arv Z h0 a2 k2 .byte ln [] (.int (0 : Int32))) (ne_a1_a2 : @Ne Nat a1 a2) (g_a2 : @LE.le Nat _ n0 a2) (hcbp : CbP z vs s ln nn ds) (hall : ¬ AnyG ds) (OL : Old Z n0 h0) (S__assertionsDisabled : Sta Z Z.heap "java/lang/StringUTF16" "$assertionsDisabled" "Z" (.int (1 : Int32))) (S_HI_BYTE_SHIFT : Sta Z Z.heap "java/lang/StringUTF16" "HI_BYTE_SHIFT" "I" (.int (0 : Int32))) (S_LO_BYTE_SHIFT : Sta Z Z.heap "java/lang/StringUTF16" "LO_BYTE_SHIFT" "I" (.int (8 : Int32))) (hfo : (fo).isRef = true) (S_SIOOBE_FORMATTER : Sta Z Z.heap "jdk/internal/util/Preconditions" "SIOOBE_FORMATTER" "Ljava/util/function/BiFunction;" fo) :
    MetFree l y23_ (head1 (Jvm.Cond.code y23_ jdk_52_method_22_code 7 (some .int) :: ws) r3_0_0_43) (fun xa xU => xa = #[(.ref a1), (.int s), (.ref a2), (.int (0 : Int32)), (.int ln)] ∧ Z.Warmed39 xU.vm ∧ xU.heap = h0) (fun _ _ _ _ _ => True) (fun _ xU xo xU' => ∃ xv xL, xo = .returned xv ∧ Q_c1 Z a2 k2 ln ds h0 n0 xv xU'.heap xL ∧ FrameEnd xU xo xU' xL r3_0_0_43.cells r3_0_0_43.slots) := by
  obtain ⟨hzn, hA, hB, hd⟩ := hcbp
  rcases hd with ⟨d0, rfl, rfl, hg0⟩ | ⟨d0, d1, rfl, rfl, hg0, hg1⟩ | ⟨d0, d1, d2, rfl, rfl, hg0, hg1, hg2⟩
  · have q0 : ¬ ((255 : Int32) < d0) := fun h => hall (Or.inl h)
    exact rm_cb0_1_1 l Z a0 hw ws a1 a2 k1 k2 s nn z vs d0 fo h0 n0 Z0 V_a1 V_a2 ne_a1_a2 g_a2 hzn hA hB q0 hg0 OL S__assertionsDisabled S_HI_BYTE_SHIFT S_LO_BYTE_SHIFT hfo S_SIOOBE_FORMATTER
  · have q0 : ¬ ((255 : Int32) < d0) := fun h => hall (Or.inl h)
    have q1 : ¬ ((255 : Int32) < d1) := fun h => hall (Or.inr (Or.inl h))
    exact rm_cb0_2_2 l Z a0 hw ws a1 a2 k1 k2 s nn z vs d0 d1 fo h0 n0 Z0 V_a1 V_a2 ne_a1_a2 g_a2 hzn hA hB q0 q1 hg0 hg1 OL S__assertionsDisabled S_HI_BYTE_SHIFT S_LO_BYTE_SHIFT hfo S_SIOOBE_FORMATTER
  · have q0 : ¬ ((255 : Int32) < d0) := fun h => hall (Or.inl h)
    have q1 : ¬ ((255 : Int32) < d1) := fun h => hall (Or.inr (Or.inl h))
    have q2 : ¬ ((255 : Int32) < d2) := fun h => hall (Or.inr (Or.inr (Or.inl h)))
    exact rm_cb0_3_3 l Z a0 hw ws a1 a2 k1 k2 s nn z vs d0 d1 d2 fo h0 n0 Z0 V_a1 V_a2 ne_a1_a2 g_a2 hzn hA hB q0 q1 q2 hg0 hg1 hg2 OL S__assertionsDisabled S_HI_BYTE_SHIFT S_LO_BYTE_SHIFT hfo S_SIOOBE_FORMATTER
abbrev c52_17 := jdk_52_method_17_code
theorem d52_17_0 : decode c52_17 0 = .ok (.iload_n 2, 1) := by decide +kernel
theorem d52_17_1 : decode c52_17 1 = .ok (.newarray .byte, 2) := by decide +kernel
theorem d52_17_3 : decode c52_17 3 = .ok (.astore_n 3, 1) := by decide +kernel
theorem d52_17_4 : decode c52_17 4 = .ok (.aload_n 0, 1) := by decide +kernel
theorem d52_17_5 : decode c52_17 5 = .ok (.iload_n 1, 1) := by decide +kernel
theorem d52_17_6 : decode c52_17 6 = .ok (.aload_n 3, 1) := by decide +kernel
theorem d52_17_7 : decode c52_17 7 = .ok (.iconst 0, 1) := by decide +kernel
theorem d52_17_8 : decode c52_17 8 = .ok (.iload_n 2, 1) := by decide +kernel
theorem d52_17_9 : decode c52_17 9 = .ok (.invokestatic 123, 3) := by decide +kernel
theorem pd_29 : parseMethodDescriptor "([BI[BII)I" = some ⟨[(.array .byte), .int, (.array .byte), .int, .int], some .int⟩ := by decide +kernel
theorem d52_17_12 : decode c52_17 12 = .ok (.istore 4, 2) := by decide +kernel
theorem d52_17_14 : decode c52_17 14 = .ok (.iload 4, 2) := by decide +kernel
theorem d52_17_16 : decode c52_17 16 = .ok (.iload_n 2, 1) := by decide +kernel
theorem d52_17_17 : decode c52_17 17 = .ok (.if_icmp .eq 47, 3) := by decide +kernel
theorem d52_17_64 : decode c52_17 64 = .ok (.aload_n 3, 1) := by decide +kernel
theorem d52_17_65 : decode c52_17 65 = .ok (.areturn, 1) := by decide +kernel
theorem d52_17_20 : decode c52_17 20 = .ok (.aload_n 0, 1) := by decide +kernel
theorem d52_17_21 : decode c52_17 21 = .ok (.iload_n 1, 1) := by decide +kernel
theorem d52_17_22 : decode c52_17 22 = .ok (.iconst 1, 1) := by decide +kernel
theorem d52_17_23 : decode c52_17 23 = .ok (.ishl, 1) := by decide +kernel
theorem d52_17_24 : decode c52_17 24 = .ok (.iload_n 1, 1) := by decide +kernel
theorem d52_17_25 : decode c52_17 25 = .ok (.iload_n 2, 1) := by decide +kernel
theorem d52_17_26 : decode c52_17 26 = .ok (.iadd, 1) := by decide +kernel
theorem d52_17_27 : decode c52_17 27 = .ok (.invokestatic 11, 3) := by decide +kernel
theorem d52_17_30 : decode c52_17 30 = .ok (.invokestatic 126, 3) := by decide +kernel
theorem d52_17_33 : decode c52_17 33 = .ok (.astore 5, 2) := by decide +kernel
theorem d52_17_35 : decode c52_17 35 = .ok (.aload 5, 2) := by decide +kernel
theorem d52_17_37 : decode c52_17 37 = .ok (.iload 4, 2) := by decide +kernel
theorem d52_17_39 : decode c52_17 39 = .ok (.invokestatic 71, 3) := by decide +kernel
theorem d52_17_42 : decode c52_17 42 = .ok (.sipush 255, 3) := by decide +kernel
theorem d52_17_45 : decode c52_17 45 = .ok (.if_icmp .gt 16, 3) := by decide +kernel
theorem d52_17_61 : decode c52_17 61 = .ok (.aload 5, 2) := by decide +kernel
theorem d52_17_63 : decode c52_17 63 = .ok (.areturn, 1) := by decide +kernel
abbrev r4_2_12_61 : Room := { frames := 4, cells := 2, slots := 12, locals := 61 }
abbrev y24_ : MethodName := ⟨"java/lang/StringUTF16", "compress", "([BII)[B"⟩
abbrev Lc_cb1_S_0 (a1 : Addr) (s : Int32) (ln : Int32) : Array Slot := #[.val (.ref a1), .val (.int s), .val (.int ln), .unset, .unset, .unset]
abbrev Lc_cb1_S_1 (a1 : Addr) (s : Int32) (ln : Int32) (b101 : Addr) : Array Slot := #[.val (.ref a1), .val (.int s), .val (.int ln), .val (.ref b101), .unset, .unset]
abbrev Lc_cb1_S_2 (a1 : Addr) (s : Int32) (ln : Int32) (b101 : Addr) : Array Slot := #[.val (.ref a1), .val (.int s), .val (.int ln), .val (.ref b101), .val (.int ln), .unset]
theorem ef_cb1_S (mM : MethodId) (a1 : Addr) (k1 : ClassId) (s : Int32) (nn : Int32) (z : Int32) (vs : List Value) (ln : Int32) (ds : List Int32) (fo : Value) : entryFrame mM #[(.ref a1), (.int s), (.int ln)] 6 = mkF mM 0 #[.val (.ref a1), .val (.int s), .val (.int ln), .unset, .unset, .unset] [] := by
  first | (simp [entryFrame, mkF, argsToLocals, Value.category]; done) | rfl
theorem rm_cb1_S (l : Launch) (Z : State) (a0 : Array Value) (hw : HW a0 Z) (ws : List Jvm.Cond) (a1 : Addr) (k1 : ClassId) (s : Int32) (nn : Int32) (z : Int32) (vs : List Value) (ln : Int32) (ds : List Int32) (fo : Value) (h0 : Heap) (n0 : Nat) (Z0 : n0 ≤ h0.size) (V_a1 : Arv Z h0 a1 k1 .byte z vs (.int (0 : Int32))) (hcbp : CbP z vs s ln nn ds) (hall : ¬ AnyG ds) (hst : StrC (0 : Int32) ln (lowV ds) ds) (OL : Old Z n0 h0) (S__assertionsDisabled : Sta Z Z.heap "java/lang/StringUTF16" "$assertionsDisabled" "Z" (.int (1 : Int32))) (S_HI_BYTE_SHIFT : Sta Z Z.heap "java/lang/StringUTF16" "HI_BYTE_SHIFT" "I" (.int (0 : Int32))) (S_LO_BYTE_SHIFT : Sta Z Z.heap "java/lang/StringUTF16" "LO_BYTE_SHIFT" "I" (.int (8 : Int32))) (hfo : (fo).isRef = true) (S_SIOOBE_FORMATTER : Sta Z Z.heap "jdk/internal/util/Preconditions" "SIOOBE_FORMATTER" "Ljava/util/function/BiFunction;" fo) :
    MetFree l y24_ (head1 (Jvm.Cond.code y24_ jdk_52_method_17_code 6 (some (.array .byte)) :: ws) r4_2_12_61) (fun xa xU => xa = #[(.ref a1), (.int s), (.int ln)] ∧ Z.Warmed39 xU.vm ∧ xU.heap = h0) (fun _ _ _ _ _ => True) (fun _ xU xo xU' => ∃ xv xL, xo = .returned xv ∧ Q_cb Z ln ds h0 n0 xv xU'.heap xL ∧ FrameEnd xU xo xU' xL r4_2_12_61.cells r4_2_12_61.slots) := by
  refine MetFree.of_bodySF (plainFor_of_name pn_java_lang_StringUTF16) hisR ?_
  intro pP eE sS mM argS bS methS cC s₁ Bd hml0 hP hK
  obtain ⟨rfl, hZ, hh⟩ := hP
  have hx := Bd.exec
  have hby := Bd.bytes
  have hml : cC.maxLocals = 6 := hml0
  have hown : sS.vm.findClass "java/lang/StringUTF16" = some mM.cls := findClass_of_methodNamed Bd.named
  have hnm := (name_of_methodNamed Bd.named Bd.method).1
  have X0 : Stand pP l eE r4_2_12_61 sS mM #[(.ref a1), (.int s), (.int ln)] bS methS cC s₁ [] 0 0 := Stand.of_body Bd
  have e0 : s₁.heap = h0 := by rw [← hh, Bd.state]; rfl
  have N0 := Fr.nil n0
  obtain ⟨T101, h101, k101, X101, e101, E101, A101, st101⟩ := newP X0 hx hZ (wi hw 20 rfl) e0 (g := (mkF mM 1 (Lc_cb1_S_0 a1 s ln) [(.int ln)])) rfl (hb hby d52_17_1) rfl (own_cbln hcbp).1 (cap := 4) (own_cbln hcbp).2.1 (by decide) (by decide) (by decide)
  obtain ⟨b101, g101⟩ : ∃ z : Nat, z = h0.size := ⟨_, rfl⟩
  rw [← g101] at A101 st101
  have Sz1 : h0.size ≤ h101.size := E101.1
  have V_b101 : Arv Z h101 b101 k101 .byte ln [] (.int (0 : Int32)) := Arv.new A101 (own_cbln hcbp).1
  have c103_V_a1 : Arv Z h101 a1 k1 .byte z vs (.int (0 : Int32)) := V_a1.ext E101
  have c104_OL : Old Z n0 h101 := OL.ext E101
  have lt_a1 : @LT.lt Nat _ a1 h0.size := V_a1.lt
  have lt_b101 : @LT.lt Nat _ b101 h101.size := V_b101.lt
  have ne_a1_b101_105 : a1 ≠ b101 := (by omega : @Ne Nat a1 b101)
  have ge106_b101 : @LE.le Nat _ n0 b101 := by omega
  obtain ⟨_, _, ⟨T102, L102, k102, n102⟩, -, X102, ⟨Lc102, hQ102, l102, y102, z102⟩, st102⟩ := Jvm.LawKit.callS X101 hx (y := y23_) hown (mvT hZ (wi hw 187 rfl)) (mvT hZ (wi hw 188 rfl)) (mvT hZ (wi hw 18 rfl)) (mvT hZ (wi hw 189 rfl)) (by decide) (backOf (W := 0) (rm_cb0S l Z a0 hw [] a1 b101 k1 k101 s nn z vs ln ds fo h101 n0 (by omega) c103_V_a1 V_b101 ne_a1_b101_105 ge106_b101 hcbp hall c104_OL S__assertionsDisabled S_HI_BYTE_SHIFT S_LO_BYTE_SHIFT hfo S_SIOOBE_FORMATTER) hZ (wi hw 189 rfl) (wi hw 18 rfl) (by decide) (by decide)) (g := (mkF mM 9 (Lc_cb1_S_1 a1 s ln b101) [(.int ln), (.int (0 : Int32)), (.ref b101), (.int s), (.ref a1)])) rfl (by rw [hml]; rfl) (argsL := [(.ref a1), (.int s), (.ref b101), (.int (0 : Int32)), (.int ln)]) (rest := []) (lenOf pd_29 rfl) rfl (by show 2 * 0 + _ ≤ _; exact Nat.le_of_eq rfl) (hb hby d52_17_9) (fun _ _ => ⟨rfl, e101, ble rfl, ble rfl⟩)
  dsimp only [Pt.U, Pt.locs, Pt.cells, Pt.slots] at X102 l102 y102 z102 st102 hQ102
  subst y102 z102
  obtain ⟨h102, e102⟩ : ∃ z, T102.heap = z := ⟨_, rfl⟩
  rw [e102] at hQ102
  obtain ⟨rfl, N102q, Kp102, p102_V_a2⟩ := hQ102
  have Sz2 : h101.size ≤ h102.size := Kp102.1
  have N102 : Fr n0 L102 := by rw [l102]; exact Fr.app N0 N102q
  have K107 : Keep h0 h101 [] := (Keep.refl h0 []).ext E101
  have K108 : Keep h0 h102 [] := K107.trans Kp102 (allS (Or.inr (by omega : @LE.le Nat _ h0.size b101)) all0)
  obtain ⟨fs, hr, hrun, hended, hW, hsame⟩ := X102.leave (v := some (.ref b101)) (fun h => by rw [Bd.returns] at h; cases h)
  refine ⟨_, _, castTop (ef_cb1_S mM a1 k1 s nn z vs ln ds fo) ?_, hrun, hended, _, _, rfl, ?_, ⟨_, rfl⟩, hW, hsame.mono (by decide) (by decide)⟩
  · show SS pP eE bS s₁ (mkF mM 0 (Lc_cb1_S_0 a1 s ln) []) _
    refine XS.iloadN X0.here hx rfl (hb hby d52_17_0) rfl ?_
    show SS pP eE bS s₁ (mkF mM 1 (Lc_cb1_S_0 a1 s ln) [(.int ln)]) _
    refine st101 _ ?_
    show SS pP eE bS T101 (mkF mM 3 (Lc_cb1_S_0 a1 s ln) [(.ref b101)]) _
    refine XS.astoreN X101.here hx rfl (hb hby d52_17_3) rfl rfl (l' := (Lc_cb1_S_1 a1 s ln b101)) rfl ?_
    refine XS.aloadN X101.here hx rfl (hb hby d52_17_4) rfl rfl ?_
    refine XS.iloadN X101.here hx rfl (hb hby d52_17_5) rfl ?_
    refine XS.aloadN X101.here hx rfl (hb hby d52_17_6) rfl rfl ?_
    show SS pP eE bS T101 (mkF mM 7 (Lc_cb1_S_1 a1 s ln b101) [(.ref b101), (.int s), (.ref a1)]) _
    refine XS.iconst X101.here hx rfl (hb hby d52_17_7) ?_
    refine XS.iloadN X101.here hx rfl (hb hby d52_17_8) rfl ?_
    show SS pP eE bS T101 (mkF mM 9 (Lc_cb1_S_1 a1 s ln b101) [(.int ln), (.int (0 : Int32)), (.ref b101), (.int s), (.ref a1)]) _
    refine st102 _ ?_
    show SS pP eE bS T102 (mkF mM 12 (Lc_cb1_S_1 a1 s ln b101) [(.int ln)]) _
    refine XS.istore X102.here hx rfl (hb hby d52_17_12) rfl (l' := (Lc_cb1_S_2 a1 s ln b101)) rfl ?_
    refine XS.iload X102.here hx rfl (hb hby d52_17_14) rfl ?_
    refine XS.iloadN X102.here hx rfl (hb hby d52_17_16) rfl ?_
    refine XS.icmpYes X102.here hx rfl (pc0 := 17) (pc' := 64) rfl (hb hby d52_17_17) rfl (teq (rfl : ln = ln)).1 (by decide) (by decide) ?_
    show SS pP eE bS T102 (mkF mM 64 (Lc_cb1_S_2 a1 s ln b101) []) _
    refine XS.aloadN X102.here hx rfl (hb hby d52_17_64) rfl rfl ?_
    show SS pP eE bS T102 (mkF mM 65 (Lc_cb1_S_2 a1 s ln b101) [(.ref b101)]) _
    jvm_step X102.here [X102.here.top, hx, (hb hby d52_17_65), X102.method', Bd.returns, Value.isRef, FieldType.isReference]
    first | (intro acts; rw [hr _ acts rfl rfl rfl]) | rw [hr _ _ rfl rfl rfl]
    exact Steps.refl _
  · show Q_cb Z ln ds h0 n0 _ T102.heap _
    rw [e102]
    exact ⟨b101, k101, ln, (lowV ds), (0 : Int32), rfl, N102, K108, p102_V_a2, (own_zc0 hcbp), (by decide), (hst), (by omega)⟩
abbrev Lc_cb1_F_0 (a1 : Addr) (s : Int32) (ln : Int32) : Array Slot := #[.val (.ref a1), .val (.int s), .val (.int ln), .unset, .unset, .unset]
abbrev Lc_cb1_F_1 (a1 : Addr) (s : Int32) (ln : Int32) (b101 : Addr) : Array Slot := #[.val (.ref a1), .val (.int s), .val (.int ln), .val (.ref b101), .unset, .unset]
abbrev Lc_cb1_F_2 (a1 : Addr) (s : Int32) (ln : Int32) (b101 : Addr) (jj_102 : Int32) : Array Slot := #[.val (.ref a1), .val (.int s), .val (.int ln), .val (.ref b101), .val (.int jj_102), .unset]
abbrev Lc_cb1_F_3 (a1 : Addr) (s : Int32) (ln : Int32) (b101 : Addr) (jj_102 : Int32) (b_108 : Addr) : Array Slot := #[.val (.ref a1), .val (.int s), .val (.int ln), .val (.ref b101), .val (.int jj_102), .val (.ref b_108)]
theorem ef_cb1_F (mM : MethodId) (a1 : Addr) (k1 : ClassId) (s : Int32) (nn : Int32) (z : Int32) (vs : List Value) (ln : Int32) (ds : List Int32) (i2 : Int32) (m2 : Int32) (wl : Int32) (us : List Value) (fo : Value) : entryFrame mM #[(.ref a1), (.int s), (.int ln)] 6 = mkF mM 0 #[.val (.ref a1), .val (.int s), .val (.int ln), .unset, .unset, .unset] [] := by
  first | (simp [entryFrame, mkF, argsToLocals, Value.category]; done) | rfl
theorem rm_cb1_F (l : Launch) (Z : State) (a0 : Array Value) (hw : HW a0 Z) (ws : List Jvm.Cond) (a1 : Addr) (k1 : ClassId) (s : Int32) (nn : Int32) (z : Int32) (vs : List Value) (ln : Int32) (ds : List Int32) (i2 : Int32) (m2 : Int32) (wl : Int32) (us : List Value) (fo : Value) (h0 : Heap) (n0 : Nat) (Z0 : n0 ≤ h0.size) (V_a1 : Arv Z h0 a1 k1 .byte z vs (.int (0 : Int32))) (hcbp : CbP z vs s ln nn ds) (hany : AnyG ds) (hi2 : (s <<< ((1 : Int32) &&& 31)) = i2) (n1 : ¬ ((s + ln) < (0 : Int32))) (n2 : (s + ln) < (1073741823 : Int32)) (n3 : ((s + ln) <<< ((1 : Int32) &&& 31)) = m2) (hcp : CpR z vs i2 m2 wl us) (hgs : ∀ {jj dd : Int32}, JdL ds jj dd → GCp wl us jj dd) (hst : StrC (1 : Int32) wl us ds) (hzw : ((((ln - wl).toUInt32 >>> ((31 : Int32) &&& 31).toUInt32).toInt32).toInt8.toInt32) = (1 : Int32)) (OL : Old Z n0 h0) (S__assertionsDisabled : Sta Z Z.heap "java/lang/StringUTF16" "$assertionsDisabled" "Z" (.int (1 : Int32))) (S_HI_BYTE_SHIFT : Sta Z Z.heap "java/lang/StringUTF16" "HI_BYTE_SHIFT" "I" (.int (0 : Int32))) (S_LO_BYTE_SHIFT : Sta Z Z.heap "java/lang/StringUTF16" "LO_BYTE_SHIFT" "I" (.int (8 : Int32))) (hfo : (fo).isRef = true) (S_SIOOBE_FORMATTER : Sta Z Z.heap "jdk/internal/util/Preconditions" "SIOOBE_FORMATTER" "Ljava/util/function/BiFunction;" fo) :
    MetFree l y24_ (head1 (Jvm.Cond.code y24_ jdk_52_method_17_code 6 (some (.array .byte)) :: ws) r4_2_12_61) (fun xa xU => xa = #[(.ref a1), (.int s), (.int ln)] ∧ Z.Warmed39 xU.vm ∧ xU.heap = h0) (fun _ _ _ _ _ => True) (fun _ xU xo xU' => ∃ xv xL, xo = .returned xv ∧ Q_cb Z ln ds h0 n0 xv xU'.heap xL ∧ FrameEnd xU xo xU' xL r4_2_12_61.cells r4_2_12_61.slots) := by
  refine MetFree.of_bodySF (plainFor_of_name pn_java_lang_StringUTF16) hisR ?_
  intro pP eE sS mM argS bS methS cC s₁ Bd hml0 hP hK
  obtain ⟨rfl, hZ, hh⟩ := hP
  have hx := Bd.exec
  have hby := Bd.bytes
  have hml : cC.maxLocals = 6 := hml0
  have hown : sS.vm.findClass "java/lang/StringUTF16" = some mM.cls := findClass_of_methodNamed Bd.named
  have hnm := (name_of_methodNamed Bd.named Bd.method).1
  have X0 : Stand pP l eE r4_2_12_61 sS mM #[(.ref a1), (.int s), (.int ln)] bS methS cC s₁ [] 0 0 := Stand.of_body Bd
  have e0 : s₁.heap = h0 := by rw [← hh, Bd.state]; rfl
  have N0 := Fr.nil n0
  obtain ⟨T101, h101, k101, X101, e101, E101, A101, st101⟩ := newP X0 hx hZ (wi hw 20 rfl) e0 (g := (mkF mM 1 (Lc_cb1_F_0 a1 s ln) [(.int ln)])) rfl (hb hby d52_17_1) rfl (own_cbln hcbp).1 (cap := 4) (own_cbln hcbp).2.1 (by decide) (by decide) (by decide)
  obtain ⟨b101, g101⟩ : ∃ z : Nat, z = h0.size := ⟨_, rfl⟩
  rw [← g101] at A101 st101
  have Sz1 : h0.size ≤ h101.size := E101.1
  have V_b101 : Arv Z h101 b101 k101 .byte ln [] (.int (0 : Int32)) := Arv.new A101 (own_cbln hcbp).1
  have c103_V_a1 : Arv Z h101 a1 k1 .byte z vs (.int (0 : Int32)) := V_a1.ext E101
  have c104_OL : Old Z n0 h101 := OL.ext E101
  have lt_a1 : @LT.lt Nat _ a1 h0.size := V_a1.lt
  have lt_b101 : @LT.lt Nat _ b101 h101.size := V_b101.lt
  have ne_a1_b101_105 : a1 ≠ b101 := (by omega : @Ne Nat a1 b101)
  have ge106_b101 : @LE.le Nat _ n0 b101 := by omega
  obtain ⟨_, _, ⟨T102, L102, k102, n102⟩, -, X102, ⟨Lc102, hQ102, l102, y102, z102⟩, st102⟩ := Jvm.LawKit.callS X101 hx (y := y23_) hown (mvT hZ (wi hw 187 rfl)) (mvT hZ (wi hw 188 rfl)) (mvT hZ (wi hw 18 rfl)) (mvT hZ (wi hw 189 rfl)) (by decide) (backOf (W := 0) (rm_cb0F l Z a0 hw [] a1 b101 k1 k101 s nn z vs ln ds fo h101 n0 (by omega) c103_V_a1 V_b101 ne_a1_b101_105 ge106_b101 hcbp hany c104_OL S__assertionsDisabled S_HI_BYTE_SHIFT S_LO_BYTE_SHIFT hfo S_SIOOBE_FORMATTER) hZ (wi hw 189 rfl) (wi hw 18 rfl) (by decide) (by decide)) (g := (mkF mM 9 (Lc_cb1_F_1 a1 s ln b101) [(.int ln), (.int (0 : Int32)), (.ref b101), (.int s), (.ref a1)])) rfl (by rw [hml]; rfl) (argsL := [(.ref a1), (.int s), (.ref b101), (.int (0 : Int32)), (.int ln)]) (rest := []) (lenOf pd_29 rfl) rfl (by show 2 * 0 + _ ≤ _; exact Nat.le_of_eq rfl) (hb hby d52_17_9) (fun _ _ => ⟨rfl, e101, ble rfl, ble rfl⟩)
  dsimp only [Pt.U, Pt.locs, Pt.cells, Pt.slots] at X102 l102 y102 z102 st102 hQ102
  subst y102 z102
  obtain ⟨h102, e102⟩ : ∃ z, T102.heap = z := ⟨_, rfl⟩
  rw [e102] at hQ102
  obtain ⟨jj_102, dd_102, rfl, N102q, Kp102, p102_hjd⟩ := hQ102
  have Sz2 : h101.size ≤ h102.size := Kp102.1
  have N102 : Fr n0 L102 := by rw [l102]; exact Fr.app N0 N102q
  obtain ⟨_, _, ⟨T107, L107, k107, n107⟩, -, X107, ⟨Lc107, hQ107, l107, y107, z107⟩, st107⟩ := Jvm.LawKit.callS X102 hx (y := y2_) hown (mvT hZ (wi hw 130 rfl)) (mvT hZ (wi hw 131 rfl)) (mvT hZ (wi hw 18 rfl)) (mvT hZ (wi hw 132 rfl)) (by decide) (backOf (W := 2) (rm_nbl l Z a0 hw [] (s + ln) m2 h102 n0 (by omega) n1 n2 n3) hZ (wi hw 132 rfl) (wi hw 18 rfl) (by decide) (by decide)) (g := (mkF mM 27 (Lc_cb1_F_2 a1 s ln b101 jj_102) [(.int (s + ln)), (.int i2), (.ref a1)])) rfl (by rw [hml]; rfl) (argsL := [(.int (s + ln))]) (rest := [(.int i2), (.ref a1)]) (lenOf pd_19 rfl) rfl (by show 2 * 0 + _ ≤ _; exact Nat.le_of_eq rfl) (hb hby d52_17_27) (fun _ _ => ⟨rfl, e102, ble rfl, ble rfl⟩)
  dsimp only [Pt.U, Pt.locs, Pt.cells, Pt.slots] at X107 l107 y107 z107 st107 hQ107
  subst y107 z107
  obtain ⟨h107, e107⟩ : ∃ z, T107.heap = z := ⟨_, rfl⟩
  rw [e107] at hQ107
  obtain ⟨rfl, N107q, eq107⟩ := hQ107
  rw [eq107] at e107
  have N107 : Fr n0 L107 := by rw [l107]; exact Fr.app N102 N107q
  have c109_V_a1 : Arv Z h102 a1 k1 .byte z vs (.int (0 : Int32)) := c103_V_a1.keep Kp102 (ninS ne_a1_b101_105 nin0)
  obtain ⟨_, _, ⟨T108, L108, k108, n108⟩, -, X108, ⟨Lc108, hQ108, l108, y108, z108⟩, st108⟩ := Jvm.LawKit.callS X107 hx (y := y17_) hown (mvT hZ (wi hw 205 rfl)) (mvT hZ (wi hw 149 rfl)) (mvT hZ (wi hw 150 rfl)) (mvT hZ (wi hw 151 rfl)) (by decide) (backOf (W := 0) (rm_cor l Z a0 hw [] a1 k1 z vs i2 m2 wl us h102 n0 (by omega) c109_V_a1 hcp) hZ (wi hw 151 rfl) (wi hw 150 rfl) (by decide) (by decide)) (g := (mkF mM 30 (Lc_cb1_F_2 a1 s ln b101 jj_102) [(.int m2), (.int i2), (.ref a1)])) rfl (by rw [hml]; rfl) (argsL := [(.ref a1), (.int i2), (.int m2)]) (rest := []) (lenOf pd_22 rfl) rfl (by show 2 * 0 + _ ≤ _; exact Nat.le_of_eq rfl) (hb hby d52_17_30) (fun _ _ => ⟨rfl, e107, ble rfl, ble rfl⟩)
  dsimp only [Pt.U, Pt.locs, Pt.cells, Pt.slots] at X108 l108 y108 z108 st108 hQ108
  subst y108 z108
  obtain ⟨h108, e108⟩ : ∃ z, T108.heap = z := ⟨_, rfl⟩
  rw [e108] at hQ108
  obtain ⟨b_108, k2_108, rfl, N108q, Kp108, p108_V_b, p108_gh_b⟩ := hQ108
  have Sz3 : h102.size ≤ h108.size := Kp108.1
  have N108 : Fr n0 L108 := by rw [l108]; exact Fr.app N107 N108q
  have c111_OL : Old Z n0 h102 := c104_OL.keep Kp102 (allS ge106_b101 all0)
  have c112_OL : Old Z n0 h108 := c111_OL.keep Kp108 all0
  obtain ⟨_, _, ⟨T110, L110, k110, n110⟩, -, X110, ⟨Lc110, hQ110, l110, y110, z110⟩, st110⟩ := Jvm.LawKit.callS X108 hx (y := y0_) hown (mvT hZ (wi hw 140 rfl)) (mvT hZ (wi hw 141 rfl)) (mvT hZ (wi hw 18 rfl)) (mvT hZ (wi hw 142 rfl)) (by decide) (backOf (W := 0) (rm_getCharG l Z a0 hw [] b_108 k2_108 wl us jj_102 dd_102 h108 n0 (by omega) p108_V_b c112_OL S__assertionsDisabled S_HI_BYTE_SHIFT S_LO_BYTE_SHIFT (hgs p102_hjd)) hZ (wi hw 142 rfl) (wi hw 18 rfl) (by decide) (by decide)) (g := (mkF mM 39 (Lc_cb1_F_3 a1 s ln b101 jj_102 b_108) [(.int jj_102), (.ref b_108)])) rfl (by rw [hml]; rfl) (argsL := [(.ref b_108), (.int jj_102)]) (rest := []) (lenOf pd_21 rfl) rfl (by show 2 * 0 + _ ≤ _; exact Nat.le_of_eq rfl) (hb hby d52_17_39) (fun _ _ => ⟨rfl, e108, ble rfl, ble rfl⟩)
  dsimp only [Pt.U, Pt.locs, Pt.cells, Pt.slots] at X110 l110 y110 z110 st110 hQ110
  subst y110 z110
  obtain ⟨h110, e110⟩ : ∃ z, T110.heap = z := ⟨_, rfl⟩
  rw [e110] at hQ110
  obtain ⟨rfl, N110q, eq110⟩ := hQ110
  rw [eq110] at e110
  have N110 : Fr n0 L110 := by rw [l110]; exact Fr.app N108 N110q
  have K113 : Keep h0 h101 [] := (Keep.refl h0 []).ext E101
  have K114 : Keep h0 h102 [] := K113.trans Kp102 (allS (Or.inr (by omega : @LE.le Nat _ h0.size b101)) all0)
  have K115 : Keep h0 h108 [] := K114.trans Kp108 all0
  obtain ⟨fs, hr, hrun, hended, hW, hsame⟩ := X110.leave (v := some (.ref b_108)) (fun h => by rw [Bd.returns] at h; cases h)
  refine ⟨_, _, castTop (ef_cb1_F mM a1 k1 s nn z vs ln ds i2 m2 wl us fo) ?_, hrun, hended, _, _, rfl, ?_, ⟨_, rfl⟩, hW, hsame.mono (by decide) (by decide)⟩
  · show SS pP eE bS s₁ (mkF mM 0 (Lc_cb1_F_0 a1 s ln) []) _
    refine XS.iloadN X0.here hx rfl (hb hby d52_17_0) rfl ?_
    show SS pP eE bS s₁ (mkF mM 1 (Lc_cb1_F_0 a1 s ln) [(.int ln)]) _
    refine st101 _ ?_
    show SS pP eE bS T101 (mkF mM 3 (Lc_cb1_F_0 a1 s ln) [(.ref b101)]) _
    refine XS.astoreN X101.here hx rfl (hb hby d52_17_3) rfl rfl (l' := (Lc_cb1_F_1 a1 s ln b101)) rfl ?_
    refine XS.aloadN X101.here hx rfl (hb hby d52_17_4) rfl rfl ?_
    refine XS.iloadN X101.here hx rfl (hb hby d52_17_5) rfl ?_
    refine XS.aloadN X101.here hx rfl (hb hby d52_17_6) rfl rfl ?_
    show SS pP eE bS T101 (mkF mM 7 (Lc_cb1_F_1 a1 s ln b101) [(.ref b101), (.int s), (.ref a1)]) _
    refine XS.iconst X101.here hx rfl (hb hby d52_17_7) ?_
    refine XS.iloadN X101.here hx rfl (hb hby d52_17_8) rfl ?_
    show SS pP eE bS T101 (mkF mM 9 (Lc_cb1_F_1 a1 s ln b101) [(.int ln), (.int (0 : Int32)), (.ref b101), (.int s), (.ref a1)]) _
    refine st102 _ ?_
    show SS pP eE bS T102 (mkF mM 12 (Lc_cb1_F_1 a1 s ln b101) [(.int jj_102)]) _
    refine XS.istore X102.here hx rfl (hb hby d52_17_12) rfl (l' := (Lc_cb1_F_2 a1 s ln b101 jj_102)) rfl ?_
    refine XS.iload X102.here hx rfl (hb hby d52_17_14) rfl ?_
    refine XS.iloadN X102.here hx rfl (hb hby d52_17_16) rfl ?_
    refine XS.icmpNo X102.here hx rfl (hb hby d52_17_17) rfl (feq (own_cbjn hcbp p102_hjd : ¬ (jj_102 = ln))).1 ?_
    show SS pP eE bS T102 (mkF mM 20 (Lc_cb1_F_2 a1 s ln b101 jj_102) []) _
    refine XS.aloadN X102.here hx rfl (hb hby d52_17_20) rfl rfl ?_
    refine XS.iloadN X102.here hx rfl (hb hby d52_17_21) rfl ?_
    refine XS.iconst X102.here hx rfl (hb hby d52_17_22) ?_
    refine XS.ishl X102.here hx rfl (hb hby d52_17_23) rfl ?_
    show SS pP eE bS T102 (mkF mM 24 (Lc_cb1_F_2 a1 s ln b101 jj_102) [(.int (s <<< ((1 : Int32) &&& 31))), (.ref a1)]) _
    rw [show (s <<< ((1 : Int32) &&& 31)) = i2 from hi2]
    refine XS.iloadN X102.here hx rfl (hb hby d52_17_24) rfl ?_
    refine XS.iloadN X102.here hx rfl (hb hby d52_17_25) rfl ?_
    refine XS.iadd X102.here hx rfl (hb hby d52_17_26) rfl ?_
    show SS pP eE bS T102 (mkF mM 27 (Lc_cb1_F_2 a1 s ln b101 jj_102) [(.int (s + ln)), (.int i2), (.ref a1)]) _
    refine st107 _ ?_
    show SS pP eE bS T107 (mkF mM 30 (Lc_cb1_F_2 a1 s ln b101 jj_102) [(.int m2), (.int i2), (.ref a1)]) _
    refine st108 _ ?_
    show SS pP eE bS T108 (mkF mM 33 (Lc_cb1_F_2 a1 s ln b101 jj_102) [(.ref b_108)]) _
    refine XS.astore X108.here hx rfl (hb hby d52_17_33) rfl rfl (l' := (Lc_cb1_F_3 a1 s ln b101 jj_102 b_108)) rfl ?_
    refine XS.aload X108.here hx rfl (hb hby d52_17_35) rfl rfl ?_
    refine XS.iload X108.here hx rfl (hb hby d52_17_37) rfl ?_
    show SS pP eE bS T108 (mkF mM 39 (Lc_cb1_F_3 a1 s ln b101 jj_102 b_108) [(.int jj_102), (.ref b_108)]) _
    refine st110 _ ?_
    show SS pP eE bS T110 (mkF mM 42 (Lc_cb1_F_3 a1 s ln b101 jj_102 b_108) [(.int dd_102)]) _
    refine XS.sipush X110.here hx rfl (hb hby d52_17_42) ?_
    refine XS.icmpYes X110.here hx rfl (pc0 := 45) (pc' := 61) rfl (hb hby d52_17_45) rfl (tlt (own_jg p102_hjd : (255 : Int32) < dd_102)).2.2.1 (by decide) (by decide) ?_
    refine XS.aload X110.here hx rfl (hb hby d52_17_61) rfl rfl ?_
    show SS pP eE bS T110 (mkF mM 63 (Lc_cb1_F_3 a1 s ln b101 jj_102 b_108) [(.ref b_108)]) _
    jvm_step X110.here [X110.here.top, hx, (hb hby d52_17_63), X110.method', Bd.returns, Value.isRef, FieldType.isReference]
    first | (intro acts; rw [hr _ acts rfl rfl rfl]) | rw [hr _ _ rfl rfl rfl]
    exact Steps.refl _
  · show Q_cb Z ln ds h0 n0 _ T110.heap _
    rw [e110]
    exact ⟨b_108, k2_108, wl, us, (1 : Int32), rfl, N110, K115, p108_V_b, (hzw), (by decide), (hst), (by omega)⟩
theorem rm_cb (l : Launch) (Z : State) (a0 : Array Value) (hw : HW a0 Z) (ws : List Jvm.Cond) (a1 : Addr) (k1 : ClassId) (c0 : Int32) (c1 : Int32) (c2 : Int32) (c3 : Int32) (fo : Value) (st : Int32) (ln : Int32) (h0 : Heap) (n0 : Nat) (Z0 : n0 ≤ h0.size) (V_a1 : Arv Z h0 a1 k1 .byte (8 : Int32) [(.int c0.toInt8.toInt32), (.int (c0 >>> ((8 : Int32) &&& 31)).toInt8.toInt32), (.int c1.toInt8.toInt32), (.int (c1 >>> ((8 : Int32) &&& 31)).toInt8.toInt32), (.int c2.toInt8.toInt32), (.int (c2 >>> ((8 : Int32) &&& 31)).toInt8.toInt32), (.int c3.toInt8.toInt32), (.int (c3 >>> ((8 : Int32) &&& 31)).toInt8.toInt32)] (.int (0 : Int32))) (f0 : Ch c0) (f1 : Ch c1) (f2 : Ch c2) (f3 : Ch c3) (OL : Old Z n0 h0) (S__assertionsDisabled : Sta Z Z.heap "java/lang/StringUTF16" "$assertionsDisabled" "Z" (.int (1 : Int32))) (S_HI_BYTE_SHIFT : Sta Z Z.heap "java/lang/StringUTF16" "HI_BYTE_SHIFT" "I" (.int (0 : Int32))) (S_LO_BYTE_SHIFT : Sta Z Z.heap "java/lang/StringUTF16" "LO_BYTE_SHIFT" "I" (.int (8 : Int32))) (hfo : (fo).isRef = true) (S_SIOOBE_FORMATTER : Sta Z Z.heap "jdk/internal/util/Preconditions" "SIOOBE_FORMATTER" "Ljava/util/function/BiFunction;" fo) (hm2 : Cmb2 st ln) :
    MetFree l y24_ (head1 (Jvm.Cond.code y24_ jdk_52_method_17_code 6 (some (.array .byte)) :: ws) r4_2_12_61) (fun xa xU => xa = #[(.ref a1), (.int st), (.int ln)] ∧ Z.Warmed39 xU.vm ∧ xU.heap = h0) (fun _ _ _ _ _ => True) (fun _ xU xo xU' => ∃ xv xL, xo = .returned xv ∧ Q_cb Z ln (sub4 st ln c0 c1 c2 c3) h0 n0 xv xU'.heap xL ∧ FrameEnd xU xo xU' xL r4_2_12_61.cells r4_2_12_61.slots) := by
  rcases hm2 with ⟨rfl, rfl⟩ | ⟨rfl, rfl⟩ | ⟨rfl, rfl⟩ | ⟨rfl, rfl⟩ | ⟨rfl, rfl⟩ | ⟨rfl, rfl⟩ | ⟨rfl, rfl⟩ | ⟨rfl, rfl⟩ | ⟨rfl, rfl⟩
  · by_cases hany : AnyG [c0]
    · exact rm_cb1_F l Z a0 hw ws a1 k1 (0 : Int32) (4 : Int32) (8 : Int32) _ (1 : Int32) [c0] (0 : Int32) (2 : Int32) (2 : Int32) [(.int c0.toInt8.toInt32), (.int (c0 >>> ((8 : Int32) &&& 31)).toInt8.toInt32)] fo h0 n0 Z0 V_a1 (⟨by decide, by decide, by decide, Or.inl ⟨_, rfl, rfl, ⟨f0, (0 : Int32), (1 : Int32), _, _, by decide, by decide, by decide, by decide, by decide, by decide, rfl, rfl, own_gc f0⟩⟩⟩) hany (by decide) (by decide) (by decide) (by decide) (⟨by decide, by decide, by decide, by decide, by decide, by decide, by decide, rfl, by decide⟩) (own_jd1 f0) (Or.inr ⟨rfl, rfl, rfl⟩) (by decide) OL S__assertionsDisabled S_HI_BYTE_SHIFT S_LO_BYTE_SHIFT hfo S_SIOOBE_FORMATTER
    have q0 : ¬ ((255 : Int32) < c0) := fun h => hany (Or.inl h)
    exact rm_cb1_S l Z a0 hw ws a1 k1 (0 : Int32) (4 : Int32) (8 : Int32) _ (1 : Int32) [c0] fo h0 n0 Z0 V_a1 (⟨by decide, by decide, by decide, Or.inl ⟨_, rfl, rfl, ⟨f0, (0 : Int32), (1 : Int32), _, _, by decide, by decide, by decide, by decide, by decide, by decide, rfl, rfl, own_gc f0⟩⟩⟩) (hany) (Or.inl ⟨rfl, rfl, rfl, own_lat f0 q0, trivial⟩) OL S__assertionsDisabled S_HI_BYTE_SHIFT S_LO_BYTE_SHIFT hfo S_SIOOBE_FORMATTER
  · by_cases hany : AnyG [c0, c1]
    · exact rm_cb1_F l Z a0 hw ws a1 k1 (0 : Int32) (4 : Int32) (8 : Int32) _ (2 : Int32) [c0, c1] (0 : Int32) (4 : Int32) (4 : Int32) [(.int c0.toInt8.toInt32), (.int (c0 >>> ((8 : Int32) &&& 31)).toInt8.toInt32), (.int c1.toInt8.toInt32), (.int (c1 >>> ((8 : Int32) &&& 31)).toInt8.toInt32)] fo h0 n0 Z0 V_a1 (⟨by decide, by decide, by decide, Or.inr (Or.inl ⟨_, _, rfl, rfl, ⟨f0, (0 : Int32), (1 : Int32), _, _, by decide, by decide, by decide, by decide, by decide, by decide, rfl, rfl, own_gc f0⟩, ⟨f1, (2 : Int32), (3 : Int32), _, _, by decide, by decide, by decide, by decide, by decide, by decide, rfl, rfl, own_gc f1⟩⟩)⟩) hany (by decide) (by decide) (by decide) (by decide) (⟨by decide, by decide, by decide, by decide, by decide, by decide, by decide, rfl, by decide⟩) (own_jd2 f0 f1) (Or.inr ⟨rfl, rfl, rfl⟩) (by decide) OL S__assertionsDisabled S_HI_BYTE_SHIFT S_LO_BYTE_SHIFT hfo S_SIOOBE_FORMATTER
    have q0 : ¬ ((255 : Int32) < c0) := fun h => hany (Or.inl h)
    have q1 : ¬ ((255 : Int32) < c1) := fun h => hany (Or.inr (Or.inl h))
    exact rm_cb1_S l Z a0 hw ws a1 k1 (0 : Int32) (4 : Int32) (8 : Int32) _ (2 : Int32) [c0, c1] fo h0 n0 Z0 V_a1 (⟨by decide, by decide, by decide, Or.inr (Or.inl ⟨_, _, rfl, rfl, ⟨f0, (0 : Int32), (1 : Int32), _, _, by decide, by decide, by decide, by decide, by decide, by decide, rfl, rfl, own_gc f0⟩, ⟨f1, (2 : Int32), (3 : Int32), _, _, by decide, by decide, by decide, by decide, by decide, by decide, rfl, rfl, own_gc f1⟩⟩)⟩) (hany) (Or.inl ⟨rfl, rfl, rfl, own_lat f0 q0, own_lat f1 q1, trivial⟩) OL S__assertionsDisabled S_HI_BYTE_SHIFT S_LO_BYTE_SHIFT hfo S_SIOOBE_FORMATTER
  · by_cases hany : AnyG [c0, c1, c2]
    · exact rm_cb1_F l Z a0 hw ws a1 k1 (0 : Int32) (4 : Int32) (8 : Int32) _ (3 : Int32) [c0, c1, c2] (0 : Int32) (6 : Int32) (6 : Int32) [(.int c0.toInt8.toInt32), (.int (c0 >>> ((8 : Int32) &&& 31)).toInt8.toInt32), (.int c1.toInt8.toInt32), (.int (c1 >>> ((8 : Int32) &&& 31)).toInt8.toInt32), (.int c2.toInt8.toInt32), (.int (c2 >>> ((8 : Int32) &&& 31)).toInt8.toInt32)] fo h0 n0 Z0 V_a1 (⟨by decide, by decide, by decide, Or.inr (Or.inr ⟨_, _, _, rfl, rfl, ⟨f0, (0 : Int32), (1 : Int32), _, _, by decide, by decide, by decide, by decide, by decide, by decide, rfl, rfl, own_gc f0⟩, ⟨f1, (2 : Int32), (3 : Int32), _, _, by decide, by decide, by decide, by decide, by decide, by decide, rfl, rfl, own_gc f1⟩, ⟨f2, (4 : Int32), (5 : Int32), _, _, by decide, by decide, by decide, by decide, by decide, by decide, rfl, rfl, own_gc f2⟩⟩)⟩) hany (by decide) (by decide) (by decide) (by decide) (⟨by decide, by decide, by decide, by decide, by decide, by decide, by decide, rfl, by decide⟩) (own_jd3 f0 f1 f2) (Or.inr ⟨rfl, rfl, rfl⟩) (by decide) OL S__assertionsDisabled S_HI_BYTE_SHIFT S_LO_BYTE_SHIFT hfo S_SIOOBE_FORMATTER
    have q0 : ¬ ((255 : Int32) < c0) := fun h => hany (Or.inl h)
    have q1 : ¬ ((255 : Int32) < c1) := fun h => hany (Or.inr (Or.inl h))
    have q2 : ¬ ((255 : Int32) < c2) := fun h => hany (Or.inr (Or.inr (Or.inl h)))
    exact rm_cb1_S l Z a0 hw ws a1 k1 (0 : Int32) (4 : Int32) (8 : Int32) _ (3 : Int32) [c0, c1, c2] fo h0 n0 Z0 V_a1 (⟨by decide, by decide, by decide, Or.inr (Or.inr ⟨_, _, _, rfl, rfl, ⟨f0, (0 : Int32), (1 : Int32), _, _, by decide, by decide, by decide, by decide, by decide, by decide, rfl, rfl, own_gc f0⟩, ⟨f1, (2 : Int32), (3 : Int32), _, _, by decide, by decide, by decide, by decide, by decide, by decide, rfl, rfl, own_gc f1⟩, ⟨f2, (4 : Int32), (5 : Int32), _, _, by decide, by decide, by decide, by decide, by decide, by decide, rfl, rfl, own_gc f2⟩⟩)⟩) (hany) (Or.inl ⟨rfl, rfl, rfl, own_lat f0 q0, own_lat f1 q1, own_lat f2 q2, trivial⟩) OL S__assertionsDisabled S_HI_BYTE_SHIFT S_LO_BYTE_SHIFT hfo S_SIOOBE_FORMATTER
  · by_cases hany : AnyG [c1]
    · exact rm_cb1_F l Z a0 hw ws a1 k1 (1 : Int32) (4 : Int32) (8 : Int32) _ (1 : Int32) [c1] (2 : Int32) (4 : Int32) (2 : Int32) [(.int c1.toInt8.toInt32), (.int (c1 >>> ((8 : Int32) &&& 31)).toInt8.toInt32)] fo h0 n0 Z0 V_a1 (⟨by decide, by decide, by decide, Or.inl ⟨_, rfl, rfl, ⟨f1, (2 : Int32), (3 : Int32), _, _, by decide, by decide, by decide, by decide, by decide, by decide, rfl, rfl, own_gc f1⟩⟩⟩) hany (by decide) (by decide) (by decide) (by decide) (⟨by decide, by decide, by decide, by decide, by decide, by decide, by decide, rfl, by decide⟩) (own_jd1 f1) (Or.inr ⟨rfl, rfl, rfl⟩) (by decide) OL S__assertionsDisabled S_HI_BYTE_SHIFT S_LO_BYTE_SHIFT hfo S_SIOOBE_FORMATTER
    have q1 : ¬ ((255 : Int32) < c1) := fun h => hany (Or.inl h)
    exact rm_cb1_S l Z a0 hw ws a1 k1 (1 : Int32) (4 : Int32) (8 : Int32) _ (1 : Int32) [c1] fo h0 n0 Z0 V_a1 (⟨by decide, by decide, by decide, Or.inl ⟨_, rfl, rfl, ⟨f1, (2 : Int32), (3 : Int32), _, _, by decide, by decide, by decide, by decide, by decide, by decide, rfl, rfl, own_gc f1⟩⟩⟩) (hany) (Or.inl ⟨rfl, rfl, rfl, own_lat f1 q1, trivial⟩) OL S__assertionsDisabled S_HI_BYTE_SHIFT S_LO_BYTE_SHIFT hfo S_SIOOBE_FORMATTER
  · by_cases hany : AnyG [c1, c2]
    · exact rm_cb1_F l Z a0 hw ws a1 k1 (1 : Int32) (4 : Int32) (8 : Int32) _ (2 : Int32) [c1, c2] (2 : Int32) (6 : Int32) (4 : Int32) [(.int c1.toInt8.toInt32), (.int (c1 >>> ((8 : Int32) &&& 31)).toInt8.toInt32), (.int c2.toInt8.toInt32), (.int (c2 >>> ((8 : Int32) &&& 31)).toInt8.toInt32)] fo h0 n0 Z0 V_a1 (⟨by decide, by decide, by decide, Or.inr (Or.inl ⟨_, _, rfl, rfl, ⟨f1, (2 : Int32), (3 : Int32), _, _, by decide, by decide, by decide, by decide, by decide, by decide, rfl, rfl, own_gc f1⟩, ⟨f2, (4 : Int32), (5 : Int32), _, _, by decide, by decide, by decide, by decide, by decide, by decide, rfl, rfl, own_gc f2⟩⟩)⟩) hany (by decide) (by decide) (by decide) (by decide) (⟨by decide, by decide, by decide, by decide, by decide, by decide, by decide, rfl, by decide⟩) (own_jd2 f1 f2) (Or.inr ⟨rfl, rfl, rfl⟩) (by decide) OL S__assertionsDisabled S_HI_BYTE_SHIFT S_LO_BYTE_SHIFT hfo S_SIOOBE_FORMATTER
    have q1 : ¬ ((255 : Int32) < c1) := fun h => hany (Or.inl h)
    have q2 : ¬ ((255 : Int32) < c2) := fun h => hany (Or.inr (Or.inl h))
    exact rm_cb1_S l Z a0 hw ws a1 k1 (1 : Int32) (4 : Int32) (8 : Int32) _ (2 : Int32) [c1, c2] fo h0 n0 Z0 V_a1 (⟨by decide, by decide, by decide, Or.inr (Or.inl ⟨_, _, rfl, rfl, ⟨f1, (2 : Int32), (3 : Int32), _, _, by decide, by decide, by decide, by decide, by decide, by decide, rfl, rfl, own_gc f1⟩, ⟨f2, (4 : Int32), (5 : Int32), _, _, by decide, by decide, by decide, by decide, by decide, by decide, rfl, rfl, own_gc f2⟩⟩)⟩) (hany) (Or.inl ⟨rfl, rfl, rfl, own_lat f1 q1, own_lat f2 q2, trivial⟩) OL S__assertionsDisabled S_HI_BYTE_SHIFT S_LO_BYTE_SHIFT hfo S_SIOOBE_FORMATTER
  · by_cases hany : AnyG [c1, c2, c3]
    · exact rm_cb1_F l Z a0 hw ws a1 k1 (1 : Int32) (4 : Int32) (8 : Int32) _ (3 : Int32) [c1, c2, c3] (2 : Int32) (8 : Int32) (6 : Int32) [(.int c1.toInt8.toInt32), (.int (c1 >>> ((8 : Int32) &&& 31)).toInt8.toInt32), (.int c2.toInt8.toInt32), (.int (c2 >>> ((8 : Int32) &&& 31)).toInt8.toInt32), (.int c3.toInt8.toInt32), (.int (c3 >>> ((8 : Int32) &&& 31)).toInt8.toInt32)] fo h0 n0 Z0 V_a1 (⟨by decide, by decide, by decide, Or.inr (Or.inr ⟨_, _, _, rfl, rfl, ⟨f1, (2 : Int32), (3 : Int32), _, _, by decide, by decide, by decide, by decide, by decide, by decide, rfl, rfl, own_gc f1⟩, ⟨f2, (4 : Int32), (5 : Int32), _, _, by decide, by decide, by decide, by decide, by decide, by decide, rfl, rfl, own_gc f2⟩, ⟨f3, (6 : Int32), (7 : Int32), _, _, by decide, by decide, by decide, by decide, by decide, by decide, rfl, rfl, own_gc f3⟩⟩)⟩) hany (by decide) (by decide) (by decide) (by decide) (⟨by decide, by decide, by decide, by decide, by decide, by decide, by decide, rfl, by decide⟩) (own_jd3 f1 f2 f3) (Or.inr ⟨rfl, rfl, rfl⟩) (by decide) OL S__assertionsDisabled S_HI_BYTE_SHIFT S_LO_BYTE_SHIFT hfo S_SIOOBE_FORMATTER
    have q1 : ¬ ((255 : Int32) < c1) := fun h => hany (Or.inl h)
    have q2 : ¬ ((255 : Int32) < c2) := fun h => hany (Or.inr (Or.inl h))
    have q3 : ¬ ((255 : Int32) < c3) := fun h => hany (Or.inr (Or.inr (Or.inl h)))
    exact rm_cb1_S l Z a0 hw ws a1 k1 (1 : Int32) (4 : Int32) (8 : Int32) _ (3 : Int32) [c1, c2, c3] fo h0 n0 Z0 V_a1 (⟨by decide, by decide, by decide, Or.inr (Or.inr ⟨_, _, _, rfl, rfl, ⟨f1, (2 : Int32), (3 : Int32), _, _, by decide, by decide, by decide, by decide, by decide, by decide, rfl, rfl, own_gc f1⟩, ⟨f2, (4 : Int32), (5 : Int32), _, _, by decide, by decide, by decide, by decide, by decide, by decide, rfl, rfl, own_gc f2⟩, ⟨f3, (6 : Int32), (7 : Int32), _, _, by decide, by decide, by decide, by decide, by decide, by decide, rfl, rfl, own_gc f3⟩⟩)⟩) (hany) (Or.inl ⟨rfl, rfl, rfl, own_lat f1 q1, own_lat f2 q2, own_lat f3 q3, trivial⟩) OL S__assertionsDisabled S_HI_BYTE_SHIFT S_LO_BYTE_SHIFT hfo S_SIOOBE_FORMATTER
  · by_cases hany : AnyG [c2]
    · exact rm_cb1_F l Z a0 hw ws a1 k1 (2 : Int32) (4 : Int32) (8 : Int32) _ (1 : Int32) [c2] (4 : Int32) (6 : Int32) (2 : Int32) [(.int c2.toInt8.toInt32), (.int (c2 >>> ((8 : Int32) &&& 31)).toInt8.toInt32)] fo h0 n0 Z0 V_a1 (⟨by decide, by decide, by decide, Or.inl ⟨_, rfl, rfl, ⟨f2, (4 : Int32), (5 : Int32), _, _, by decide, by decide, by decide, by decide, by decide, by decide, rfl, rfl, own_gc f2⟩⟩⟩) hany (by decide) (by decide) (by decide) (by decide) (⟨by decide, by decide, by decide, by decide, by decide, by decide, by decide, rfl, by decide⟩) (own_jd1 f2) (Or.inr ⟨rfl, rfl, rfl⟩) (by decide) OL S__assertionsDisabled S_HI_BYTE_SHIFT S_LO_BYTE_SHIFT hfo S_SIOOBE_FORMATTER
    have q2 : ¬ ((255 : Int32) < c2) := fun h => hany (Or.inl h)
    exact rm_cb1_S l Z a0 hw ws a1 k1 (2 : Int32) (4 : Int32) (8 : Int32) _ (1 : Int32) [c2] fo h0 n0 Z0 V_a1 (⟨by decide, by decide, by decide, Or.inl ⟨_, rfl, rfl, ⟨f2, (4 : Int32), (5 : Int32), _, _, by decide, by decide, by decide, by decide, by decide, by decide, rfl, rfl, own_gc f2⟩⟩⟩) (hany) (Or.inl ⟨rfl, rfl, rfl, own_lat f2 q2, trivial⟩) OL S__assertionsDisabled S_HI_BYTE_SHIFT S_LO_BYTE_SHIFT hfo S_SIOOBE_FORMATTER
  · by_cases hany : AnyG [c2, c3]
    · exact rm_cb1_F l Z a0 hw ws a1 k1 (2 : Int32) (4 : Int32) (8 : Int32) _ (2 : Int32) [c2, c3] (4 : Int32) (8 : Int32) (4 : Int32) [(.int c2.toInt8.toInt32), (.int (c2 >>> ((8 : Int32) &&& 31)).toInt8.toInt32), (.int c3.toInt8.toInt32), (.int (c3 >>> ((8 : Int32) &&& 31)).toInt8.toInt32)] fo h0 n0 Z0 V_a1 (⟨by decide, by decide, by decide, Or.inr (Or.inl ⟨_, _, rfl, rfl, ⟨f2, (4 : Int32), (5 : Int32), _, _, by decide, by decide, by decide, by decide, by decide, by decide, rfl, rfl, own_gc f2⟩, ⟨f3, (6 : Int32), (7 : Int32), _, _, by decide, by decide, by decide, by decide, by decide, by decide, rfl, rfl, own_gc f3⟩⟩)⟩) hany (by decide) (by decide) (by decide) (by decide) (⟨by decide, by decide, by decide, by decide, by decide, by decide, by decide, rfl, by decide⟩) (own_jd2 f2 f3) (Or.inr ⟨rfl, rfl, rfl⟩) (by decide) OL S__assertionsDisabled S_HI_BYTE_SHIFT S_LO_BYTE_SHIFT hfo S_SIOOBE_FORMATTER
    have q2 : ¬ ((255 : Int32) < c2) := fun h => hany (Or.inl h)
    have q3 : ¬ ((255 : Int32) < c3) := fun h => hany (Or.inr (Or.inl h))
    exact rm_cb1_S l Z a0 hw ws a1 k1 (2 : Int32) (4 : Int32) (8 : Int32) _ (2 : Int32) [c2, c3] fo h0 n0 Z0 V_a1 (⟨by decide, by decide, by decide, Or.inr (Or.inl ⟨_, _, rfl, rfl, ⟨f2, (4 : Int32), (5 : Int32), _, _, by decide, by decide, by decide, by decide, by decide, by decide, rfl, rfl, own_gc f2⟩, ⟨f3, (6 : Int32), (7 : Int32), _, _, by decide, by decide, by decide, by decide, by decide, by decide, rfl, rfl, own_gc f3⟩⟩)⟩) (hany) (Or.inl ⟨rfl, rfl, rfl, own_lat f2 q2, own_lat f3 q3, trivial⟩) OL S__assertionsDisabled S_HI_BYTE_SHIFT S_LO_BYTE_SHIFT hfo S_SIOOBE_FORMATTER
  · by_cases hany : AnyG [c3]
    · exact rm_cb1_F l Z a0 hw ws a1 k1 (3 : Int32) (4 : Int32) (8 : Int32) _ (1 : Int32) [c3] (6 : Int32) (8 : Int32) (2 : Int32) [(.int c3.toInt8.toInt32), (.int (c3 >>> ((8 : Int32) &&& 31)).toInt8.toInt32)] fo h0 n0 Z0 V_a1 (⟨by decide, by decide, by decide, Or.inl ⟨_, rfl, rfl, ⟨f3, (6 : Int32), (7 : Int32), _, _, by decide, by decide, by decide, by decide, by decide, by decide, rfl, rfl, own_gc f3⟩⟩⟩) hany (by decide) (by decide) (by decide) (by decide) (⟨by decide, by decide, by decide, by decide, by decide, by decide, by decide, rfl, by decide⟩) (own_jd1 f3) (Or.inr ⟨rfl, rfl, rfl⟩) (by decide) OL S__assertionsDisabled S_HI_BYTE_SHIFT S_LO_BYTE_SHIFT hfo S_SIOOBE_FORMATTER
    have q3 : ¬ ((255 : Int32) < c3) := fun h => hany (Or.inl h)
    exact rm_cb1_S l Z a0 hw ws a1 k1 (3 : Int32) (4 : Int32) (8 : Int32) _ (1 : Int32) [c3] fo h0 n0 Z0 V_a1 (⟨by decide, by decide, by decide, Or.inl ⟨_, rfl, rfl, ⟨f3, (6 : Int32), (7 : Int32), _, _, by decide, by decide, by decide, by decide, by decide, by decide, rfl, rfl, own_gc f3⟩⟩⟩) (hany) (Or.inl ⟨rfl, rfl, rfl, own_lat f3 q3, trivial⟩) OL S__assertionsDisabled S_HI_BYTE_SHIFT S_LO_BYTE_SHIFT hfo S_SIOOBE_FORMATTER
-- MARK nuj
abbrev c52_69 := jdk_52_method_69_code
theorem d52_69_0 : decode c52_69 0 = .ok (.iload_n 2, 1) := by decide +kernel
theorem d52_69_1 : decode c52_69 1 = .ok (.ifCond .ne 7, 3) := by decide +kernel
theorem d52_69_4 : decode c52_69 4 = .ok (.ldc_w 295, 3) := by decide +kernel
theorem d52_69_7 : decode c52_69 7 = .ok (.areturn, 1) := by decide +kernel
theorem d52_69_8 : decode c52_69 8 = .ok (.getstatic 251, 3) := by decide +kernel
theorem d52_69_11 : decode c52_69 11 = .ok (.ifCond .eq 28, 3) := by decide +kernel
theorem d52_69_14 : decode c52_69 14 = .ok (.aload_n 0, 1) := by decide +kernel
theorem d52_69_15 : decode c52_69 15 = .ok (.iload_n 1, 1) := by decide +kernel
theorem d52_69_16 : decode c52_69 16 = .ok (.iload_n 2, 1) := by decide +kernel
theorem d52_69_17 : decode c52_69 17 = .ok (.invokestatic 257, 3) := by decide +kernel
theorem d52_69_20 : decode c52_69 20 = .ok (.astore_n 3, 1) := by decide +kernel
theorem d52_69_21 : decode c52_69 21 = .ok (.aload_n 3, 1) := by decide +kernel
theorem d52_69_22 : decode c52_69 22 = .ok (.iload_n 2, 1) := by decide +kernel
theorem d52_69_23 : decode c52_69 23 = .ok (.invokestatic 259, 3) := by decide +kernel
theorem d52_69_26 : decode c52_69 26 = .ok (.istore 4, 2) := by decide +kernel
theorem d52_69_28 : decode c52_69 28 = .ok (.new 3, 3) := by decide +kernel
theorem d52_69_31 : decode c52_69 31 = .ok (.dup, 1) := by decide +kernel
theorem d52_69_32 : decode c52_69 32 = .ok (.aload_n 3, 1) := by decide +kernel
theorem d52_69_33 : decode c52_69 33 = .ok (.iload 4, 2) := by decide +kernel
theorem d52_69_35 : decode c52_69 35 = .ok (.invokespecial 263, 3) := by decide +kernel
theorem d52_69_38 : decode c52_69 38 = .ok (.areturn, 1) := by decide +kernel
abbrev r5_3_16_78 : Room := { frames := 5, cells := 3, slots := 16, locals := 78 }
abbrev y25_ : MethodName := ⟨"java/lang/StringUTF16", "newString", "([BII)Ljava/lang/String;"⟩
abbrev Lc_nu_n_0 (a1 : Addr) (st : Int32) (ln : Int32) (b_103 : Addr) : Array Slot := #[.val (.ref a1), .val (.int st), .val (.int ln), .val (.ref b_103), .unset]
abbrev Lc_nu_n_1 (a1 : Addr) (st : Int32) (ln : Int32) (b_103 : Addr) (co_103 : Int32) : Array Slot := #[.val (.ref a1), .val (.int st), .val (.int ln), .val (.ref b_103), .val (.int co_103)]
theorem ef_nu_n (mM : MethodId) (a1 : Addr) (k1 : ClassId) (c0 : Int32) (c1 : Int32) (c2 : Int32) (c3 : Int32) (fo : Value) (cs : Int32) (st : Int32) (ln : Int32) : entryFrame mM #[(.ref a1), (.int st), (.int ln)] 5 = mkF mM 0 #[.val (.ref a1), .val (.int st), .val (.int ln), .unset, .unset] [] := by
  first | (simp [entryFrame, mkF, argsToLocals, Value.category]; done) | rfl
theorem rm_nu_n (l : Launch) (Z : State) (a0 : Array Value) (hw : HW a0 Z) (ws : List Jvm.Cond) (a1 : Addr) (k1 : ClassId) (c0 : Int32) (c1 : Int32) (c2 : Int32) (c3 : Int32) (fo : Value) (cs : Int32) (st : Int32) (ln : Int32) (h0 : Heap) (n0 : Nat) (Z0 : n0 ≤ h0.size) (V_a1 : Arv Z h0 a1 k1 .byte (8 : Int32) [(.int c0.toInt8.toInt32), (.int (c0 >>> ((8 : Int32) &&& 31)).toInt8.toInt32), (.int c1.toInt8.toInt32), (.int (c1 >>> ((8 : Int32) &&& 31)).toInt8.toInt32), (.int c2.toInt8.toInt32), (.int (c2 >>> ((8 : Int32) &&& 31)).toInt8.toInt32), (.int c3.toInt8.toInt32), (.int (c3 >>> ((8 : Int32) &&& 31)).toInt8.toInt32)] (.int (0 : Int32))) (f0 : Ch c0) (f1 : Ch c1) (f2 : Ch c2) (f3 : Ch c3) (OL : Old Z n0 h0) (S__assertionsDisabled : Sta Z Z.heap "java/lang/StringUTF16" "$assertionsDisabled" "Z" (.int (1 : Int32))) (S_HI_BYTE_SHIFT : Sta Z Z.heap "java/lang/StringUTF16" "HI_BYTE_SHIFT" "I" (.int (0 : Int32))) (S_LO_BYTE_SHIFT : Sta Z Z.heap "java/lang/StringUTF16" "LO_BYTE_SHIFT" "I" (.int (8 : Int32))) (hfo : (fo).isRef = true) (S_SIOOBE_FORMATTER : Sta Z Z.heap "jdk/internal/util/Preconditions" "SIOOBE_FORMATTER" "Ljava/util/function/BiFunction;" fo) (S_COMPACT_STRINGS : Sta Z Z.heap "java/lang/String" "COMPACT_STRINGS" "Z" (.int cs)) (hcs : ¬ (cs = (0 : Int32))) (hm2 : Cmb2 st ln) (hc1 : ¬ (ln = (0 : Int32))) :
    MetFree l y25_ (head1 (Jvm.Cond.code y25_ jdk_52_method_69_code 5 (some (.object "java/lang/String")) :: ws) r5_3_16_78) (fun xa xU => xa = #[(.ref a1), (.int st), (.int ln)] ∧ Z.Warmed39 xU.vm ∧ xU.heap = h0 ∧ CHv Z consts_1 xU.vm h0 ∧ ∀ x ∈ ([] : List Addr), Safe Z consts_1 xU.vm h0 x) (fun _ _ _ _ _ => True) (fun _ xU xo xU' => ∃ xv xL, xo = .returned xv ∧ Q_ns Z c0 c1 c2 c3 st ln h0 n0 xv xU'.heap xL ∧ CHr Z consts_1 xU.vm xU.heap xU'.vm xU'.heap ∧ ReturnedEndW xU xo xU' xL r5_3_16_78.cells r5_3_16_78.slots) := by
  refine MetFree.of_bodySF (plainFor_of_name pn_java_lang_StringUTF16) hisR ?_
  intro pP eE sS mM argS bS methS cC s₁ Bd hml0 hP hK
  obtain ⟨rfl, hZ, hh, hCH, hSf⟩ := hP
  have hx := Bd.exec
  have hby := Bd.bytes
  have hml : cC.maxLocals = 5 := hml0
  have hown : sS.vm.findClass "java/lang/StringUTF16" = some mM.cls := findClass_of_methodNamed Bd.named
  have hnm := (name_of_methodNamed Bd.named Bd.method).1
  have X0 : Stand pP l eE r5_3_16_78 (sS.setVm sS.vm) mM #[(.ref a1), (.int st), (.int ln)] bS methS cC s₁ [] 0 0 := Stand.of_body Bd
  have e0 : s₁.heap = h0 := by rw [← hh, Bd.state]; rfl
  have N0 := Fr.nil n0
  have hZ0 : Z.Warmed39 (sS.setVm sS.vm).vm := hZ
  have hown0 : (sS.setVm sS.vm).vm.findClass "java/lang/StringUTF16" = some mM.cls := hown
  have hS0 : sS.Since sS.vm 0 := (State.WarmedH.refl sS).since 0
  have CC0 : CHr Z consts_1 sS.vm h0 sS.vm h0 := CHr.refl hCH
  have c101_S_COMPACT_STRINGS : Sta Z h0 "java/lang/String" "COMPACT_STRINGS" "Z" (.int cs) := Sta.ext OL.2 S_COMPACT_STRINGS
  obtain ⟨T102, X102, e102, st102⟩ := getS2 X0 hx hZ0 hown0 (host := "") (Or.inl (wi hw 183 rfl)) Via.refl e0 c101_S_COMPACT_STRINGS (g := (mkF mM 8 #[.val (.ref a1), .val (.int st), .val (.int ln), .unset, .unset] [])) rfl (hb hby d52_69_8)
  obtain ⟨_, _, ⟨T103, L103, k103, n103⟩, -, X103, ⟨Lc103, hQ103, l103, y103, z103⟩, st103⟩ := Jvm.LawKit.callS X102 hx (y := y24_) hown0 (mvT hZ0 (wi hw 184 rfl)) (mvT hZ0 (wi hw 185 rfl)) (mvT hZ0 (wi hw 18 rfl)) (mvT hZ0 (wi hw 186 rfl)) (by decide) (backOf (W := 0) (rm_cb l Z a0 hw [] a1 k1 c0 c1 c2 c3 fo st ln h0 n0 (by omega) V_a1 f0 f1 f2 f3 OL S__assertionsDisabled S_HI_BYTE_SHIFT S_LO_BYTE_SHIFT hfo S_SIOOBE_FORMATTER hm2) hZ0 (wi hw 186 rfl) (wi hw 18 rfl) (by decide) (by decide)) (g := (mkF mM 17 #[.val (.ref a1), .val (.int st), .val (.int ln), .unset, .unset] [(.int ln), (.int st), (.ref a1)])) rfl (by rw [hml]; rfl) (argsL := [(.ref a1), (.int st), (.int ln)]) (rest := []) (lenOf pd_22 rfl) rfl (by show 2 * 0 + _ ≤ _; exact Nat.le_of_eq rfl) (hb hby d52_69_17) (fun _ _ => ⟨rfl, e102, ble rfl, ble rfl⟩)
  dsimp only [Pt.U, Pt.locs, Pt.cells, Pt.slots] at X103 l103 y103 z103 st103 hQ103
  subst y103 z103
  obtain ⟨h103, e103⟩ : ∃ z, T103.heap = z := ⟨_, rfl⟩
  rw [e103] at hQ103
  obtain ⟨b_103, k2_103, z_103, vs_103, co_103, rfl, N103q, Kp103, p103_V_b, p103_hzc, p103_hcb, p103_con, p103_gh_b⟩ := hQ103
  have Sz1 : h0.size ≤ h103.size := Kp103.1
  have CC1 : CHr Z consts_1 sS.vm h0 sS.vm h103 := CC0.trans (CHr.keep Kp103 sf0 CC0.1)
  have N103 : Fr n0 L103 := by rw [l103]; exact Fr.app N0 N103q
  obtain ⟨_, _, ⟨T104, L104, k104, n104⟩, -, X104, ⟨Lc104, hQ104, l104, y104, z104⟩, st104⟩ := Jvm.LawKit.callS X103 hx (y := y5_) hown0 (mvT hZ0 (wi hw 202 rfl)) (mvT hZ0 (wi hw 25 rfl)) (mvT hZ0 (wi hw 18 rfl)) (mvT hZ0 (wi hw 26 rfl)) (by decide) (backOf (W := 0) (rm_coderAL l Z a0 hw [] b_103 k2_103 z_103 vs_103 ln co_103 h103 n0 (by omega) p103_V_b p103_hzc p103_hcb) hZ0 (wi hw 26 rfl) (wi hw 18 rfl) (by decide) (by decide)) (g := (mkF mM 23 (Lc_nu_n_0 a1 st ln b_103) [(.int ln), (.ref b_103)])) rfl (by rw [hml]; rfl) (argsL := [(.ref b_103), (.int ln)]) (rest := []) (lenOf pd_5 rfl) rfl (by show 2 * 0 + _ ≤ _; exact Nat.le_of_eq rfl) (hb hby d52_69_23) (fun _ _ => ⟨rfl, e103, ble rfl, ble rfl⟩)
  dsimp only [Pt.U, Pt.locs, Pt.cells, Pt.slots] at X104 l104 y104 z104 st104 hQ104
  subst y104 z104
  obtain ⟨h104, e104⟩ : ∃ z, T104.heap = z := ⟨_, rfl⟩
  rw [e104] at hQ104
  obtain ⟨rfl, N104q, eq104⟩ := hQ104
  rw [eq104] at e104
  have N104 : Fr n0 L104 := by rw [l104]; exact Fr.app N103 N104q
  obtain ⟨T105, h105, X105, e105, E105, A105, D105, B105, st105⟩ := newO X104 hx hZ0 hown0 (wi hw 203 rfl) (wi hw 3 rfl) (wi hw 4 rfl) e104 (g := (mkF mM 28 (Lc_nu_n_1 a1 st ln b_103 co_103) [])) rfl (hb hby d52_69_28) (by decide) (by decide)
  obtain ⟨b105, g105⟩ : ∃ z : Nat, z = h103.size := ⟨_, rfl⟩
  rw [← g105] at A105 D105 B105 st105
  have Sz2 : h103.size ≤ h105.size := E105.1
  have CC2 : CHr Z consts_1 sS.vm h0 sS.vm h105 := CC1.trans (CHr.ext E105 CC1.1)
  have F105_coder : Fld Z h105 b105 "java/lang/String" "coder" "B" (.int (0 : Int32)) := D105 (Or.inr (wi hw 28 rfl)) (ty := .byte) (by decide)
  have F105_value : Fld Z h105 b105 "java/lang/String" "value" "[B" .null := D105 (Or.inr (wi hw 30 rfl)) (ty := (.array .byte)) (by decide)
  have ge107_b105 : @LE.le Nat _ n0 b105 := by omega
  obtain ⟨_, _, ⟨T106, L106, k106, n106⟩, -, X106, ⟨Lc106, hQ106, l106, y106, z106⟩, st106⟩ := X105.specialBack hx (y := y18_) rfl hown0 (mvT hZ0 (wi hw 204 rfl)) (mvT hZ0 (wi hw 167 rfl)) (mvT hZ0 (wi hw 168 rfl)) (by decide) (backOf (W := 1) (rm_initBB l Z a0 hw [] b105 b_103 .null (.int (0 : Int32)) co_103 h105 n0 (by omega) A105 F105_value F105_coder ge107_b105 p103_hcb) hZ0 (wi hw 168 rfl) (wi hw 4 rfl) (by decide) (by decide)) (g := (mkF mM 35 (Lc_nu_n_1 a1 st ln b_103 co_103) [(.int co_103), (.ref b_103), (.ref b105), (.ref b105)])) rfl (by rw [hml]; rfl) (Steps.refl _) (a := b105) (argsL := [(.ref b_103), (.int co_103)]) (rest := [(.ref b105)]) (lenOf pd_26 rfl) rfl (by show 2 * 0 + _ ≤ _; exact Nat.le_of_eq rfl) (hb hby d52_69_35) (fun _ _ => ⟨rfl, e105, ble rfl, ble rfl⟩)
  dsimp only [Pt.U, Pt.locs, Pt.cells, Pt.slots] at X106 l106 y106 z106 st106 hQ106
  subst y106 z106
  obtain ⟨h106, e106⟩ : ∃ z, T106.heap = z := ⟨_, rfl⟩
  rw [e106] at hQ106
  obtain ⟨rfl, N106q, Kp106, p106_E_o, p106_F_value_o, p106_F_coder_o⟩ := hQ106
  have Sz3 : h105.size ≤ h106.size := Kp106.1
  have sf108_b105 : Safe Z consts_1 sS.vm h103 b105 := Safe.new (by omega)
  have sf109_b105 : Safe Z consts_1 sS.vm h105 b105 := Safe.ext E105 CC1.1 sf108_b105
  have CC3 : CHr Z consts_1 sS.vm h0 sS.vm h106 := CC2.trans (CHr.keep Kp106 (sfS sf109_b105 sf0) CC2.1)
  have N106 : Fr n0 L106 := by rw [l106]; exact Fr.app N104 N106q
  have c110_V_b_103 : Arv Z h105 b_103 k2_103 .byte z_103 vs_103 (.int (0 : Int32)) := p103_V_b.ext E105
  have lt_b_103 : @LT.lt Nat _ b_103 h103.size := p103_V_b.lt
  have lt_b105 : @LT.lt Nat _ b105 h105.size := A105.lt
  have ne_b_103_b105_111 : b_103 ≠ b105 := (by omega : @Ne Nat b_103 b105)
  have c112_V_b_103 : Arv Z h106 b_103 k2_103 .byte z_103 vs_103 (.int (0 : Int32)) := c110_V_b_103.keep Kp106 (ninS ne_b_103_b105_111 nin0)
  have K113 : Keep h0 h103 [] := (Keep.refl h0 []).trans Kp103 all0
  have K114 : Keep h0 h105 [] := K113.ext E105
  have K115 : Keep h0 h106 [] := K114.trans Kp106 (allS (Or.inr (by omega : @LE.le Nat _ h0.size b105)) all0)
  obtain ⟨fs, hr, hrun, hended, hE⟩ := Stand.leaveW (s := sS) X106 hS0 (by rw [e106]; omega) (v := some (.ref b105)) (fun h => by rw [Bd.returns] at h; cases h)
  refine ⟨_, _, castTop (ef_nu_n mM a1 k1 c0 c1 c2 c3 fo cs st ln) ?_, hrun, hended, _, _, rfl, ?_, ?_, hE.1, hE.2.1, hE.2.2.1, hE.2.2.2.mono (by decide) (by decide)⟩
  · show SS pP eE bS s₁ (mkF mM 0 #[.val (.ref a1), .val (.int st), .val (.int ln), .unset, .unset] []) _
    refine XS.iloadN X0.here hx rfl (hb hby d52_69_0) rfl ?_
    refine XS.ifYes X0.here hx rfl (pc0 := 1) (pc' := 8) rfl (hb hby d52_69_1) rfl ((if0 _ _).trans (feq hc1).2) (by decide) (by decide) ?_
    show SS pP eE bS s₁ (mkF mM 8 #[.val (.ref a1), .val (.int st), .val (.int ln), .unset, .unset] []) _
    refine st102 _ ?_
    show SS pP eE bS T102 (mkF mM 11 #[.val (.ref a1), .val (.int st), .val (.int ln), .unset, .unset] [(.int cs)]) _
    refine XS.ifNo X102.here hx rfl (hb hby d52_69_11) rfl ((if0 _ _).trans (feq hcs).1) ?_
    refine XS.aloadN X102.here hx rfl (hb hby d52_69_14) rfl rfl ?_
    refine XS.iloadN X102.here hx rfl (hb hby d52_69_15) rfl ?_
    refine XS.iloadN X102.here hx rfl (hb hby d52_69_16) rfl ?_
    show SS pP eE bS T102 (mkF mM 17 #[.val (.ref a1), .val (.int st), .val (.int ln), .unset, .unset] [(.int ln), (.int st), (.ref a1)]) _
    refine st103 _ ?_
    show SS pP eE bS T103 (mkF mM 20 #[.val (.ref a1), .val (.int st), .val (.int ln), .unset, .unset] [(.ref b_103)]) _
    refine XS.astoreN X103.here hx rfl (hb hby d52_69_20) rfl rfl (l' := (Lc_nu_n_0 a1 st ln b_103)) rfl ?_
    refine XS.aloadN X103.here hx rfl (hb hby d52_69_21) rfl rfl ?_
    refine XS.iloadN X103.here hx rfl (hb hby d52_69_22) rfl ?_
    show SS pP eE bS T103 (mkF mM 23 (Lc_nu_n_0 a1 st ln b_103) [(.int ln), (.ref b_103)]) _
    refine st104 _ ?_
    show SS pP eE bS T104 (mkF mM 26 (Lc_nu_n_0 a1 st ln b_103) [(.int co_103)]) _
    refine XS.istore X104.here hx rfl (hb hby d52_69_26) rfl (l' := (Lc_nu_n_1 a1 st ln b_103 co_103)) rfl ?_
    show SS pP eE bS T104 (mkF mM 28 (Lc_nu_n_1 a1 st ln b_103 co_103) []) _
    refine st105 _ ?_
    show SS pP eE bS T105 (mkF mM 31 (Lc_nu_n_1 a1 st ln b_103 co_103) [(.ref b105)]) _
    refine XS.dup X105.here hx rfl (hb hby d52_69_31) rfl rfl ?_
    refine XS.aloadN X105.here hx rfl (hb hby d52_69_32) rfl rfl ?_
    refine XS.iload X105.here hx rfl (hb hby d52_69_33) rfl ?_
    show SS pP eE bS T105 (mkF mM 35 (Lc_nu_n_1 a1 st ln b_103 co_103) [(.int co_103), (.ref b_103), (.ref b105), (.ref b105)]) _
    refine st106.trans ?_
    show SS pP eE bS T106 (mkF mM 38 (Lc_nu_n_1 a1 st ln b_103 co_103) [(.ref b105)]) _
    jvm_step X106.here [X106.here.top, hx, (hb hby d52_69_38), X106.method', Bd.returns, Value.isRef, FieldType.isReference]
    first | (intro acts; rw [hr _ acts rfl rfl rfl]) | rw [hr _ _ rfl rfl rfl]
    exact Steps.refl _
  · show Q_ns Z c0 c1 c2 c3 st ln h0 n0 _ T106.heap _
    rw [e106]
    exact ⟨b105, b_103, k2_103, z_103, vs_103, co_103, rfl, N106, K115, p106_E_o, p106_F_value_o, p106_F_coder_o, c112_V_b_103, (p103_hcb), (p103_con)⟩
  · show CHr Z consts_1 sS.vm sS.heap T106.vm T106.heap
    rw [hh, e106]
    exact CC3.trans (CHv.at X106 hZ0 (own_EW hw) CC3.1)
abbrev Lc_nu_z_0 (a1 : Addr) (st : Int32) : Array Slot := #[.val (.ref a1), .val (.int st), .val (.int (0 : Int32)), .unset, .unset]
theorem ef_nu_z (mM : MethodId) (a1 : Addr) (k1 : ClassId) (c0 : Int32) (c1 : Int32) (c2 : Int32) (c3 : Int32) (st : Int32) : entryFrame mM #[(.ref a1), (.int st), (.int (0 : Int32))] 5 = mkF mM 0 #[.val (.ref a1), .val (.int st), .val (.int (0 : Int32)), .unset, .unset] [] := by
  first | (simp [entryFrame, mkF, argsToLocals, Value.category]; done) | rfl
theorem rm_nu_z (l : Launch) (Z : State) (a0 : Array Value) (hw : HW a0 Z) (ws : List Jvm.Cond) (a1 : Addr) (k1 : ClassId) (c0 : Int32) (c1 : Int32) (c2 : Int32) (c3 : Int32) (st : Int32) (h0 : Heap) (n0 : Nat) (Z0 : n0 ≤ h0.size) (V_a1 : Arv Z h0 a1 k1 .byte (8 : Int32) [(.int c0.toInt8.toInt32), (.int (c0 >>> ((8 : Int32) &&& 31)).toInt8.toInt32), (.int c1.toInt8.toInt32), (.int (c1 >>> ((8 : Int32) &&& 31)).toInt8.toInt32), (.int c2.toInt8.toInt32), (.int (c2 >>> ((8 : Int32) &&& 31)).toInt8.toInt32), (.int c3.toInt8.toInt32), (.int (c3 >>> ((8 : Int32) &&& 31)).toInt8.toInt32)] (.int (0 : Int32))) :
    MetFree l y25_ (head1 (Jvm.Cond.code y25_ jdk_52_method_69_code 5 (some (.object "java/lang/String")) :: ws) r5_3_16_78) (fun xa xU => xa = #[(.ref a1), (.int st), (.int (0 : Int32))] ∧ Z.Warmed39 xU.vm ∧ xU.heap = h0 ∧ CHv Z consts_1 xU.vm h0 ∧ ∀ x ∈ ([] : List Addr), Safe Z consts_1 xU.vm h0 x) (fun _ _ _ _ _ => True) (fun _ xU xo xU' => ∃ xv xL, xo = .returned xv ∧ Q_ns Z c0 c1 c2 c3 st (0 : Int32) h0 n0 xv xU'.heap xL ∧ CHr Z consts_1 xU.vm xU.heap xU'.vm xU'.heap ∧ ReturnedEndW xU xo xU' xL r5_3_16_78.cells r5_3_16_78.slots) := by
  refine MetFree.of_bodySF (plainFor_of_name pn_java_lang_StringUTF16) hisR ?_
  intro pP eE sS mM argS bS methS cC s₁ Bd hml0 hP hK
  obtain ⟨rfl, hZ, hh, hCH, hSf⟩ := hP
  have hx := Bd.exec
  have hby := Bd.bytes
  have hml : cC.maxLocals = 5 := hml0
  have hown : sS.vm.findClass "java/lang/StringUTF16" = some mM.cls := findClass_of_methodNamed Bd.named
  have hnm := (name_of_methodNamed Bd.named Bd.method).1
  have X0 : Stand pP l eE r5_3_16_78 (sS.setVm sS.vm) mM #[(.ref a1), (.int st), (.int (0 : Int32))] bS methS cC s₁ [] 0 0 := Stand.of_body Bd
  have e0 : s₁.heap = h0 := by rw [← hh, Bd.state]; rfl
  have N0 := Fr.nil n0
  have hZ0 : Z.Warmed39 (sS.setVm sS.vm).vm := hZ
  have hown0 : (sS.setVm sS.vm).vm.findClass "java/lang/StringUTF16" = some mM.cls := hown
  have hS0 : sS.Since sS.vm 0 := (State.WarmedH.refl sS).since 0
  have CC0 : CHr Z consts_1 sS.vm h0 sS.vm h0 := CHr.refl hCH
  obtain ⟨b101, T101, h101, kk101, d101, q101, X101, e101, E101, hS101, hk101, hZ101, hown101, A101, Fc101, Fv101, V101, Ch101, st101⟩ := ldcCHW X0 hx hZ0 hown0 (wi hw 146 rfl) (own_wS hw) e0 hS0 (by omega) (own_EW hw) (List.mem_of_getElem? (i := 2) rfl) CC0.1 (g := (mkF mM 4 (Lc_nu_z_0 a1 st) [])) rfl (hb hby d52_69_4) (by decide) (by decide)
  have Sz1 : h0.size ≤ h101.size := E101.1
  have CC1 : CHr Z consts_1 sS.vm h0 T101.vm h101 := CC0.trans Ch101
  have K102 : Keep h0 h101 [] := (Keep.refl h0 []).ext E101
  obtain ⟨fs, hr, hrun, hended, hE⟩ := Stand.leaveW (s := sS) X101 hS101 (by rw [e101]; omega) (v := some (.ref b101)) (fun h => by rw [Bd.returns] at h; cases h)
  refine ⟨_, _, castTop (ef_nu_z mM a1 k1 c0 c1 c2 c3 st) ?_, hrun, hended, _, _, rfl, ?_, ?_, hE.1, hE.2.1, hE.2.2.1, hE.2.2.2.mono (by decide) (by decide)⟩
  · show SS pP eE bS s₁ (mkF mM 0 (Lc_nu_z_0 a1 st) []) _
    refine XS.iloadN X0.here hx rfl (hb hby d52_69_0) rfl ?_
    refine XS.ifNo X0.here hx rfl (hb hby d52_69_1) rfl ((if0 _ _).trans (teq (by decide : (0 : Int32) = (0 : Int32))).2) ?_
    show SS pP eE bS s₁ (mkF mM 4 (Lc_nu_z_0 a1 st) []) _
    refine st101 _ ?_
    show SS pP eE bS T101 (mkF mM 7 (Lc_nu_z_0 a1 st) [(.ref b101)]) _
    jvm_step X101.here [X101.here.top, hx, (hb hby d52_69_7), X101.method', Bd.returns, Value.isRef, FieldType.isReference]
    first | (intro acts; rw [hr _ acts rfl rfl rfl]) | rw [hr _ _ rfl rfl rfl]
    exact Steps.refl _
  · show Q_ns Z c0 c1 c2 c3 st (0 : Int32) h0 n0 _ T101.heap _
    rw [e101]
    exact ⟨b101, d101, q101, (0 : Int32), [], (0 : Int32), rfl, N0, K102, A101, Fv101, Fc101, V101, (by decide), (own_emp)⟩
  · show CHr Z consts_1 sS.vm sS.heap T101.vm T101.heap
    rw [hh, e101]
    exact CC1.trans (CHv.at X101 hZ101 (own_EW hw) CC1.1)
theorem rm_nu (l : Launch) (Z : State) (a0 : Array Value) (hw : HW a0 Z) (ws : List Jvm.Cond) (a1 : Addr) (k1 : ClassId) (c0 : Int32) (c1 : Int32) (c2 : Int32) (c3 : Int32) (fo : Value) (cs : Int32) (st : Int32) (ln : Int32) (h0 : Heap) (n0 : Nat) (Z0 : n0 ≤ h0.size) (V_a1 : Arv Z h0 a1 k1 .byte (8 : Int32) [(.int c0.toInt8.toInt32), (.int (c0 >>> ((8 : Int32) &&& 31)).toInt8.toInt32), (.int c1.toInt8.toInt32), (.int (c1 >>> ((8 : Int32) &&& 31)).toInt8.toInt32), (.int c2.toInt8.toInt32), (.int (c2 >>> ((8 : Int32) &&& 31)).toInt8.toInt32), (.int c3.toInt8.toInt32), (.int (c3 >>> ((8 : Int32) &&& 31)).toInt8.toInt32)] (.int (0 : Int32))) (f0 : Ch c0) (f1 : Ch c1) (f2 : Ch c2) (f3 : Ch c3) (OL : Old Z n0 h0) (S__assertionsDisabled : Sta Z Z.heap "java/lang/StringUTF16" "$assertionsDisabled" "Z" (.int (1 : Int32))) (S_HI_BYTE_SHIFT : Sta Z Z.heap "java/lang/StringUTF16" "HI_BYTE_SHIFT" "I" (.int (0 : Int32))) (S_LO_BYTE_SHIFT : Sta Z Z.heap "java/lang/StringUTF16" "LO_BYTE_SHIFT" "I" (.int (8 : Int32))) (hfo : (fo).isRef = true) (S_SIOOBE_FORMATTER : Sta Z Z.heap "jdk/internal/util/Preconditions" "SIOOBE_FORMATTER" "Ljava/util/function/BiFunction;" fo) (S_COMPACT_STRINGS : Sta Z Z.heap "java/lang/String" "COMPACT_STRINGS" "Z" (.int cs)) (hcs : ¬ (cs = (0 : Int32))) (hm : Cmb1 st ln) :
    MetFree l y25_ (head1 (Jvm.Cond.code y25_ jdk_52_method_69_code 5 (some (.object "java/lang/String")) :: ws) r5_3_16_78) (fun xa xU => xa = #[(.ref a1), (.int st), (.int ln)] ∧ Z.Warmed39 xU.vm ∧ xU.heap = h0 ∧ CHv Z consts_1 xU.vm h0 ∧ ∀ x ∈ ([] : List Addr), Safe Z consts_1 xU.vm h0 x) (fun _ _ _ _ _ => True) (fun _ xU xo xU' => ∃ xv xL, xo = .returned xv ∧ Q_ns Z c0 c1 c2 c3 st ln h0 n0 xv xU'.heap xL ∧ CHr Z consts_1 xU.vm xU.heap xU'.vm xU'.heap ∧ ReturnedEndW xU xo xU' xL r5_3_16_78.cells r5_3_16_78.slots) := by
  rcases hm with ⟨rfl, rfl⟩ | ⟨rfl, rfl⟩ | ⟨rfl, rfl⟩ | ⟨rfl, rfl⟩ | ⟨rfl, rfl⟩ | ⟨rfl, rfl⟩ | ⟨rfl, rfl⟩ | ⟨rfl, rfl⟩ | ⟨rfl, rfl⟩ | ⟨rfl, rfl⟩ | ⟨rfl, rfl⟩ | ⟨rfl, rfl⟩ | ⟨rfl, rfl⟩ | ⟨rfl, rfl⟩
  · exact rm_nu_z l Z a0 hw ws a1 k1 c0 c1 c2 c3 (0 : Int32) h0 n0 Z0 V_a1
  · exact rm_nu_z l Z a0 hw ws a1 k1 c0 c1 c2 c3 (1 : Int32) h0 n0 Z0 V_a1
  · exact rm_nu_z l Z a0 hw ws a1 k1 c0 c1 c2 c3 (2 : Int32) h0 n0 Z0 V_a1
  · exact rm_nu_z l Z a0 hw ws a1 k1 c0 c1 c2 c3 (3 : Int32) h0 n0 Z0 V_a1
  · exact rm_nu_z l Z a0 hw ws a1 k1 c0 c1 c2 c3 (4 : Int32) h0 n0 Z0 V_a1
  · exact rm_nu_n l Z a0 hw ws a1 k1 c0 c1 c2 c3 fo cs (0 : Int32) (1 : Int32) h0 n0 Z0 V_a1 f0 f1 f2 f3 OL S__assertionsDisabled S_HI_BYTE_SHIFT S_LO_BYTE_SHIFT hfo S_SIOOBE_FORMATTER S_COMPACT_STRINGS hcs (by unfold Cmb2; decide) (by decide)
  · exact rm_nu_n l Z a0 hw ws a1 k1 c0 c1 c2 c3 fo cs (0 : Int32) (2 : Int32) h0 n0 Z0 V_a1 f0 f1 f2 f3 OL S__assertionsDisabled S_HI_BYTE_SHIFT S_LO_BYTE_SHIFT hfo S_SIOOBE_FORMATTER S_COMPACT_STRINGS hcs (by unfold Cmb2; decide) (by decide)
  · exact rm_nu_n l Z a0 hw ws a1 k1 c0 c1 c2 c3 fo cs (0 : Int32) (3 : Int32) h0 n0 Z0 V_a1 f0 f1 f2 f3 OL S__assertionsDisabled S_HI_BYTE_SHIFT S_LO_BYTE_SHIFT hfo S_SIOOBE_FORMATTER S_COMPACT_STRINGS hcs (by unfold Cmb2; decide) (by decide)
  · exact rm_nu_n l Z a0 hw ws a1 k1 c0 c1 c2 c3 fo cs (1 : Int32) (1 : Int32) h0 n0 Z0 V_a1 f0 f1 f2 f3 OL S__assertionsDisabled S_HI_BYTE_SHIFT S_LO_BYTE_SHIFT hfo S_SIOOBE_FORMATTER S_COMPACT_STRINGS hcs (by unfold Cmb2; decide) (by decide)
  · exact rm_nu_n l Z a0 hw ws a1 k1 c0 c1 c2 c3 fo cs (1 : Int32) (2 : Int32) h0 n0 Z0 V_a1 f0 f1 f2 f3 OL S__assertionsDisabled S_HI_BYTE_SHIFT S_LO_BYTE_SHIFT hfo S_SIOOBE_FORMATTER S_COMPACT_STRINGS hcs (by unfold Cmb2; decide) (by decide)
  · exact rm_nu_n l Z a0 hw ws a1 k1 c0 c1 c2 c3 fo cs (1 : Int32) (3 : Int32) h0 n0 Z0 V_a1 f0 f1 f2 f3 OL S__assertionsDisabled S_HI_BYTE_SHIFT S_LO_BYTE_SHIFT hfo S_SIOOBE_FORMATTER S_COMPACT_STRINGS hcs (by unfold Cmb2; decide) (by decide)
  · exact rm_nu_n l Z a0 hw ws a1 k1 c0 c1 c2 c3 fo cs (2 : Int32) (1 : Int32) h0 n0 Z0 V_a1 f0 f1 f2 f3 OL S__assertionsDisabled S_HI_BYTE_SHIFT S_LO_BYTE_SHIFT hfo S_SIOOBE_FORMATTER S_COMPACT_STRINGS hcs (by unfold Cmb2; decide) (by decide)
  · exact rm_nu_n l Z a0 hw ws a1 k1 c0 c1 c2 c3 fo cs (2 : Int32) (2 : Int32) h0 n0 Z0 V_a1 f0 f1 f2 f3 OL S__assertionsDisabled S_HI_BYTE_SHIFT S_LO_BYTE_SHIFT hfo S_SIOOBE_FORMATTER S_COMPACT_STRINGS hcs (by unfold Cmb2; decide) (by decide)
  · exact rm_nu_n l Z a0 hw ws a1 k1 c0 c1 c2 c3 fo cs (3 : Int32) (1 : Int32) h0 n0 Z0 V_a1 f0 f1 f2 f3 OL S__assertionsDisabled S_HI_BYTE_SHIFT S_LO_BYTE_SHIFT hfo S_SIOOBE_FORMATTER S_COMPACT_STRINGS hcs (by unfold Cmb2; decide) (by decide)
-- MARK sub
abbrev c41_12 := jdk_41_method_12_code
theorem d41_12_0 : decode c41_12 0 = .ok (.iload_n 0, 1) := by decide +kernel
theorem d41_12_1 : decode c41_12 1 = .ok (.ifCond .lt 13, 3) := by decide +kernel
theorem d41_12_4 : decode c41_12 4 = .ok (.iload_n 0, 1) := by decide +kernel
theorem d41_12_5 : decode c41_12 5 = .ok (.iload_n 1, 1) := by decide +kernel
theorem d41_12_6 : decode c41_12 6 = .ok (.if_icmp .gt 8, 3) := by decide +kernel
theorem d41_12_9 : decode c41_12 9 = .ok (.iload_n 1, 1) := by decide +kernel
theorem d41_12_10 : decode c41_12 10 = .ok (.iload_n 2, 1) := by decide +kernel
theorem d41_12_11 : decode c41_12 11 = .ok (.if_icmp .le 11, 3) := by decide +kernel
theorem d41_12_22 : decode c41_12 22 = .ok (.iload_n 0, 1) := by decide +kernel
theorem d41_12_23 : decode c41_12 23 = .ok (.ireturn, 1) := by decide +kernel
abbrev y26_ : MethodName := ⟨"jdk/internal/util/Preconditions", "checkFromToIndex", "(IIILjava/util/function/BiFunction;)I"⟩
def Q_pfti (Z : State) (i : Int32) (j : Int32) (n : Int32) (fo : Value) (h0 : Heap) (n0 : Nat) (xv : Option Value) (xh : Heap) (xL : List Loc) : Prop := xv = some (.int i) ∧ Fr n0 xL ∧ xh = h0
theorem ef_pfti (mM : MethodId) (i : Int32) (j : Int32) (n : Int32) (fo : Value) (hr_fo : (fo).isRef = true) : entryFrame mM #[(.int i), (.int j), (.int n), fo] 4 = mkF mM 0 #[.val (.int i), .val (.int j), .val (.int n), .val fo] [] := by
  cases fo <;> first | (exact Bool.noConfusion (show false = true from hr_fo)) | skip
  all_goals first | (simp [entryFrame, mkF, argsToLocals, Value.category]; done) | rfl
theorem rm_pfti (l : Launch) (Z : State) (a0 : Array Value) (hw : HW a0 Z) (ws : List Jvm.Cond) (i : Int32) (j : Int32) (n : Int32) (fo : Value) (h0 : Heap) (n0 : Nat) (Z0 : n0 ≤ h0.size) (hfo : (fo).isRef = true) (b1 : ¬ (i < (0 : Int32))) (b2 : ¬ (j < i)) (b3 : ¬ (n < j)) :
    MetFree l y26_ (head1 (Jvm.Cond.code y26_ jdk_41_method_12_code 4 (some .int) :: ws) r0_0_0_0) (fun xa xU => xa = #[(.int i), (.int j), (.int n), fo] ∧ Z.Warmed39 xU.vm ∧ xU.heap = h0) (fun _ _ _ _ _ => True) (fun _ xU xo xU' => ∃ xv xL, xo = .returned xv ∧ Q_pfti Z i j n fo h0 n0 xv xU'.heap xL ∧ FrameEnd xU xo xU' xL r0_0_0_0.cells r0_0_0_0.slots) := by
  refine MetFree.of_bodySF (plainFor_of_name pn_jdk_internal_util_Preconditions) hisR ?_
  intro pP eE sS mM argS bS methS cC s₁ Bd hml0 hP hK
  obtain ⟨rfl, hZ, hh⟩ := hP
  have hx := Bd.exec
  have hby := Bd.bytes
  have hml : cC.maxLocals = 4 := hml0
  have hown : sS.vm.findClass "jdk/internal/util/Preconditions" = some mM.cls := findClass_of_methodNamed Bd.named
  have hnm := (name_of_methodNamed Bd.named Bd.method).1
  have X0 : Stand pP l eE r0_0_0_0 sS mM #[(.int i), (.int j), (.int n), fo] bS methS cC s₁ [] 0 0 := Stand.of_body Bd
  have e0 : s₁.heap = h0 := by rw [← hh, Bd.state]; rfl
  have N0 := Fr.nil n0
  obtain ⟨fs, hr, hrun, hended, hW, hsame⟩ := X0.leave (v := some (.int i)) (fun h => by rw [Bd.returns] at h; cases h)
  refine ⟨_, _, castTop (ef_pfti mM i j n fo hfo) ?_, hrun, hended, _, _, rfl, ?_, ⟨_, rfl⟩, hW, hsame.mono (by decide) (by decide)⟩
  · show SS pP eE bS s₁ (mkF mM 0 #[.val (.int i), .val (.int j), .val (.int n), .val fo] []) _
    refine XS.iloadN X0.here hx rfl (hb hby d41_12_0) rfl ?_
    refine XS.ifNo X0.here hx rfl (hb hby d41_12_1) rfl ((if0 _ _).trans (flt b1).1) ?_
    refine XS.iloadN X0.here hx rfl (hb hby d41_12_4) rfl ?_
    refine XS.iloadN X0.here hx rfl (hb hby d41_12_5) rfl ?_
    show SS pP eE bS s₁ (mkF mM 6 #[.val (.int i), .val (.int j), .val (.int n), .val fo] [(.int j), (.int i)]) _
    refine XS.icmpNo X0.here hx rfl (hb hby d41_12_6) rfl (flt b2).2.2.1 ?_
    refine XS.iloadN X0.here hx rfl (hb hby d41_12_9) rfl ?_
    refine XS.iloadN X0.here hx rfl (hb hby d41_12_10) rfl ?_
    refine XS.icmpYes X0.here hx rfl (pc0 := 11) (pc' := 22) rfl (hb hby d41_12_11) rfl (flt b3).2.2.2 (by decide) (by decide) ?_
    show SS pP eE bS s₁ (mkF mM 22 #[.val (.int i), .val (.int j), .val (.int n), .val fo] []) _
    refine XS.iloadN X0.here hx rfl (hb hby d41_12_22) rfl ?_
    show SS pP eE bS s₁ (mkF mM 23 #[.val (.int i), .val (.int j), .val (.int n), .val fo] [(.int i)]) _
    exact retI X0 hx Bd.returns (hb hby d41_12_23) hr
  · show Q_pfti Z i j n fo h0 n0 _ s₁.heap _
    rw [e0]
    exact ⟨rfl, N0, rfl⟩
abbrev c42_158 := jdk_42_method_158_code
theorem d42_158_0 : decode c42_158 0 = .ok (.iload_n 0, 1) := by decide +kernel
theorem d42_158_1 : decode c42_158 1 = .ok (.iload_n 1, 1) := by decide +kernel
theorem d42_158_2 : decode c42_158 2 = .ok (.iload_n 2, 1) := by decide +kernel
theorem d42_158_3 : decode c42_158 3 = .ok (.getstatic 1053, 3) := by decide +kernel
theorem d42_158_6 : decode c42_158 6 = .ok (.invokestatic 1062, 3) := by decide +kernel
theorem d42_158_9 : decode c42_158 9 = .ok (.pop, 1) := by decide +kernel
theorem d42_158_10 : decode c42_158 10 = .ok (.return_, 1) := by decide +kernel
abbrev y27_ : MethodName := ⟨"java/lang/String", "checkBoundsBeginEnd", "(III)V"⟩
def Q_scbe (Z : State) (i : Int32) (j : Int32) (n : Int32) (fo : Value) (h0 : Heap) (n0 : Nat) (xv : Option Value) (xh : Heap) (xL : List Loc) : Prop := xv = none ∧ Fr n0 xL ∧ xh = h0
theorem ef_scbe (mM : MethodId) (i : Int32) (j : Int32) (n : Int32) (fo : Value) : entryFrame mM #[(.int i), (.int j), (.int n)] 3 = mkF mM 0 #[.val (.int i), .val (.int j), .val (.int n)] [] := by
  first | (simp [entryFrame, mkF, argsToLocals, Value.category]; done) | rfl
theorem rm_scbe (l : Launch) (Z : State) (a0 : Array Value) (hw : HW a0 Z) (ws : List Jvm.Cond) (i : Int32) (j : Int32) (n : Int32) (fo : Value) (h0 : Heap) (n0 : Nat) (Z0 : n0 ≤ h0.size) (hfo : (fo).isRef = true) (b1 : ¬ (i < (0 : Int32))) (b2 : ¬ (j < i)) (b3 : ¬ (n < j)) (OL : Old Z n0 h0) (S_SIOOBE_FORMATTER : Sta Z Z.heap "jdk/internal/util/Preconditions" "SIOOBE_FORMATTER" "Ljava/util/function/BiFunction;" fo) :
    MetFree l y27_ (head1 (Jvm.Cond.code y27_ jdk_42_method_158_code 3 none :: ws) r1_0_0_15) (fun xa xU => xa = #[(.int i), (.int j), (.int n)] ∧ Z.Warmed39 xU.vm ∧ xU.heap = h0) (fun _ _ _ _ _ => True) (fun _ xU xo xU' => ∃ xv xL, xo = .returned xv ∧ Q_scbe Z i j n fo h0 n0 xv xU'.heap xL ∧ FrameEnd xU xo xU' xL r1_0_0_15.cells r1_0_0_15.slots) := by
  refine MetFree.of_bodySF (plainFor_of_name pn_java_lang_String) hisR ?_
  intro pP eE sS mM argS bS methS cC s₁ Bd hml0 hP hK
  obtain ⟨rfl, hZ, hh⟩ := hP
  have hx := Bd.exec
  have hby := Bd.bytes
  have hml : cC.maxLocals = 3 := hml0
  have hown : sS.vm.findClass "java/lang/String" = some mM.cls := findClass_of_methodNamed Bd.named
  have hnm := (name_of_methodNamed Bd.named Bd.method).1
  have X0 : Stand pP l eE r1_0_0_15 sS mM #[(.int i), (.int j), (.int n)] bS methS cC s₁ [] 0 0 := Stand.of_body Bd
  have e0 : s₁.heap = h0 := by rw [← hh, Bd.state]; rfl
  have N0 := Fr.nil n0
  have c101_S_SIOOBE_FORMATTER : Sta Z h0 "jdk/internal/util/Preconditions" "SIOOBE_FORMATTER" "Ljava/util/function/BiFunction;" fo := Sta.ext OL.2 S_SIOOBE_FORMATTER
  obtain ⟨T102, X102, e102, st102⟩ := getS2 X0 hx hZ hown (host := "") (Or.inl (wi hw 96 rfl)) Via.refl e0 c101_S_SIOOBE_FORMATTER (g := (mkF mM 3 #[.val (.int i), .val (.int j), .val (.int n)] [(.int n), (.int j), (.int i)])) rfl (hb hby d42_158_3)
  obtain ⟨_, _, ⟨T103, L103, k103, n103⟩, -, X103, ⟨Lc103, hQ103, l103, y103, z103⟩, st103⟩ := Jvm.LawKit.callS X102 hx (y := y26_) hown (mvT hZ (wi hw 98 rfl)) (mvT hZ (wi hw 99 rfl)) (mvT hZ (wi hw 97 rfl)) (mvT hZ (wi hw 100 rfl)) (by decide) (backOf (W := 0) (rm_pfti l Z a0 hw [] i j n fo h0 n0 (by omega) hfo b1 b2 b3) hZ (wi hw 100 rfl) (wi hw 97 rfl) (by decide) (by decide)) (g := (mkF mM 6 #[.val (.int i), .val (.int j), .val (.int n)] [fo, (.int n), (.int j), (.int i)])) rfl (by rw [hml]; rfl) (argsL := [(.int i), (.int j), (.int n), fo]) (rest := []) (lenOf pd_14 rfl) rfl (by show 2 * 0 + _ ≤ _; exact Nat.le_of_eq rfl) (hb hby d42_158_6) (fun _ _ => ⟨rfl, e102, ble rfl, ble rfl⟩)
  dsimp only [Pt.U, Pt.locs, Pt.cells, Pt.slots] at X103 l103 y103 z103 st103 hQ103
  subst y103 z103
  obtain ⟨h103, e103⟩ : ∃ z, T103.heap = z := ⟨_, rfl⟩
  rw [e103] at hQ103
  obtain ⟨rfl, N103q, eq103⟩ := hQ103
  rw [eq103] at e103
  have N103 : Fr n0 L103 := by rw [l103]; exact Fr.app N0 N103q
  obtain ⟨fs, hr, hrun, hended, hW, hsame⟩ := X103.leave (v := none) (fun _ => rfl)
  refine ⟨_, _, castTop (ef_scbe mM i j n fo) ?_, hrun, hended, _, _, rfl, ?_, ⟨_, rfl⟩, hW, hsame.mono (by decide) (by decide)⟩
  · show SS pP eE bS s₁ (mkF mM 0 #[.val (.int i), .val (.int j), .val (.int n)] []) _
    refine XS.iloadN X0.here hx rfl (hb hby d42_158_0) rfl ?_
    refine XS.iloadN X0.here hx rfl (hb hby d42_158_1) rfl ?_
    refine XS.iloadN X0.here hx rfl (hb hby d42_158_2) rfl ?_
    show SS pP eE bS s₁ (mkF mM 3 #[.val (.int i), .val (.int j), .val (.int n)] [(.int n), (.int j), (.int i)]) _
    refine st102 _ ?_
    show SS pP eE bS T102 (mkF mM 6 #[.val (.int i), .val (.int j), .val (.int n)] [fo, (.int n), (.int j), (.int i)]) _
    refine st103 _ ?_
    show SS pP eE bS T103 (mkF mM 9 #[.val (.int i), .val (.int j), .val (.int n)] [(.int i)]) _
    refine XS.pop X103.here hx rfl (hb hby d42_158_9) rfl rfl ?_
    show SS pP eE bS T103 (mkF mM 10 #[.val (.int i), .val (.int j), .val (.int n)] []) _
    exact X103.returnOut hx Bd.returns (hb hby d42_158_10) hr
  · show Q_scbe Z i j n fo h0 n0 _ T103.heap _
    rw [e103]
    exact ⟨rfl, N103, rfl⟩
abbrev c42_92 := jdk_42_method_92_code
theorem d42_92_0 : decode c42_92 0 = .ok (.aload_n 0, 1) := by decide +kernel
theorem d42_92_1 : decode c42_92 1 = .ok (.invokevirtual 505, 3) := by decide +kernel
theorem pd_7 : parseMethodDescriptor "()I" = some ⟨[], some .int⟩ := by decide +kernel
theorem d42_92_4 : decode c42_92 4 = .ok (.istore_n 3, 1) := by decide +kernel
theorem d42_92_5 : decode c42_92 5 = .ok (.iload_n 1, 1) := by decide +kernel
theorem d42_92_6 : decode c42_92 6 = .ok (.iload_n 2, 1) := by decide +kernel
theorem d42_92_7 : decode c42_92 7 = .ok (.iload_n 3, 1) := by decide +kernel
theorem d42_92_8 : decode c42_92 8 = .ok (.invokestatic 521, 3) := by decide +kernel
theorem pd_13 : parseMethodDescriptor "(III)V" = some ⟨[.int, .int, .int], none⟩ := by decide +kernel
theorem d42_92_11 : decode c42_92 11 = .ok (.iload_n 1, 1) := by decide +kernel
theorem d42_92_12 : decode c42_92 12 = .ok (.ifCond .ne 10, 3) := by decide +kernel
theorem d42_92_15 : decode c42_92 15 = .ok (.iload_n 2, 1) := by decide +kernel
theorem d42_92_16 : decode c42_92 16 = .ok (.iload_n 3, 1) := by decide +kernel
theorem d42_92_17 : decode c42_92 17 = .ok (.if_icmp .ne 5, 3) := by decide +kernel
theorem d42_92_20 : decode c42_92 20 = .ok (.aload_n 0, 1) := by decide +kernel
theorem d42_92_21 : decode c42_92 21 = .ok (.areturn, 1) := by decide +kernel
theorem d42_92_22 : decode c42_92 22 = .ok (.iload_n 2, 1) := by decide +kernel
theorem d42_92_23 : decode c42_92 23 = .ok (.iload_n 1, 1) := by decide +kernel
theorem d42_92_24 : decode c42_92 24 = .ok (.isub, 1) := by decide +kernel
theorem d42_92_25 : decode c42_92 25 = .ok (.istore 4, 2) := by decide +kernel
theorem d42_92_27 : decode c42_92 27 = .ok (.aload_n 0, 1) := by decide +kernel
theorem d42_92_28 : decode c42_92 28 = .ok (.invokevirtual 492, 3) := by decide +kernel
theorem pd_15 : parseMethodDescriptor "()Z" = some ⟨[], some .boolean⟩ := by decide +kernel
theorem d42_92_31 : decode c42_92 31 = .ok (.ifCond .eq 16, 3) := by decide +kernel
theorem d42_92_34 : decode c42_92 34 = .ok (.aload_n 0, 1) := by decide +kernel
theorem d42_92_35 : decode c42_92 35 = .ok (.getfield 9, 3) := by decide +kernel
theorem d42_92_38 : decode c42_92 38 = .ok (.iload_n 1, 1) := by decide +kernel
theorem d42_92_39 : decode c42_92 39 = .ok (.iload 4, 2) := by decide +kernel
theorem d42_92_41 : decode c42_92 41 = .ok (.invokestatic 685, 3) := by decide +kernel
theorem pd_16 : parseMethodDescriptor "([BII)Ljava/lang/String;" = some ⟨[(.array .byte), .int, .int], some (.object "java/lang/String")⟩ := by decide +kernel
theorem d42_92_44 : decode c42_92 44 = .ok (.goto 13, 3) := by decide +kernel
theorem d42_92_57 : decode c42_92 57 = .ok (.areturn, 1) := by decide +kernel
theorem d42_92_47 : decode c42_92 47 = .ok (.aload_n 0, 1) := by decide +kernel
theorem d42_92_48 : decode c42_92 48 = .ok (.getfield 9, 3) := by decide +kernel
theorem d42_92_51 : decode c42_92 51 = .ok (.iload_n 1, 1) := by decide +kernel
theorem d42_92_52 : decode c42_92 52 = .ok (.iload 4, 2) := by decide +kernel
theorem d42_92_54 : decode c42_92 54 = .ok (.invokestatic 689, 3) := by decide +kernel
abbrev r6_3_16_94 : Room := { frames := 6, cells := 3, slots := 16, locals := 94 }
abbrev y28_ : MethodName := ⟨"java/lang/String", "substring", "(II)Ljava/lang/String;"⟩
abbrev Lc_sub_this_0 (t : Addr) (st : Int32) (ln : Int32) : Array Slot := #[.val (.ref t), .val (.int st), .val (.int (st + ln)), .unset, .unset]
abbrev Lc_sub_this_1 (t : Addr) (st : Int32) (ln : Int32) : Array Slot := #[.val (.ref t), .val (.int st), .val (.int (st + ln)), .val (.int (4 : Int32)), .unset]
theorem ef_sub_this (mM : MethodId) (t : Addr) (a1 : Addr) (k1 : ClassId) (z : Int32) (vs : List Value) (co : Int32) (c0 : Int32) (c1 : Int32) (c2 : Int32) (c3 : Int32) (fo : Value) (cs : Int32) (st : Int32) (ln : Int32) : entryFrame mM #[(.ref t), (.int st), (.int (st + ln))] 5 = mkF mM 0 #[.val (.ref t), .val (.int st), .val (.int (st + ln)), .unset, .unset] [] := by
  first | (simp [entryFrame, mkF, argsToLocals, Value.category]; done) | rfl
theorem rm_sub_this (l : Launch) (Z : State) (a0 : Array Value) (hw : HW a0 Z) (ws : List Jvm.Cond) (t : Addr) (a1 : Addr) (k1 : ClassId) (z : Int32) (vs : List Value) (co : Int32) (c0 : Int32) (c1 : Int32) (c2 : Int32) (c3 : Int32) (fo : Value) (cs : Int32) (st : Int32) (ln : Int32) (h0 : Heap) (n0 : Nat) (Z0 : n0 ≤ h0.size) (E_t : Exa Z h0 t "java/lang/String") (F_value_t : Fld Z h0 t "java/lang/String" "value" "[B" (.ref a1)) (F_coder_t : Fld Z h0 t "java/lang/String" "coder" "B" (.int co)) (V_a1 : Arv Z h0 a1 k1 .byte z vs (.int (0 : Int32))) (hcb : co.toInt8.toInt32 = co) (hsh : (z >>> (co &&& 31)) = (4 : Int32)) (con : StrC co z vs [c0, c1, c2, c3]) (hcm : Combo st ln) (f0 : Ch c0) (f1 : Ch c1) (f2 : Ch c2) (f3 : Ch c3) (OL : Old Z n0 h0) (S__assertionsDisabled : Sta Z Z.heap "java/lang/StringUTF16" "$assertionsDisabled" "Z" (.int (1 : Int32))) (S_HI_BYTE_SHIFT : Sta Z Z.heap "java/lang/StringUTF16" "HI_BYTE_SHIFT" "I" (.int (0 : Int32))) (S_LO_BYTE_SHIFT : Sta Z Z.heap "java/lang/StringUTF16" "LO_BYTE_SHIFT" "I" (.int (8 : Int32))) (hfo : (fo).isRef = true) (S_SIOOBE_FORMATTER : Sta Z Z.heap "jdk/internal/util/Preconditions" "SIOOBE_FORMATTER" "Ljava/util/function/BiFunction;" fo) (S_COMPACT_STRINGS : Sta Z Z.heap "java/lang/String" "COMPACT_STRINGS" "Z" (.int cs)) (hcs : ¬ (cs = (0 : Int32))) (hc12 : st = (0 : Int32)) (hc17 : (st + ln) = (4 : Int32)) :
    MetFree l y28_ (head1 (Jvm.Cond.code y28_ jdk_42_method_92_code 5 (some (.object "java/lang/String")) :: ws) r6_3_16_94) (fun xa xU => xa = #[(.ref t), (.int st), (.int (st + ln))] ∧ Z.Warmed39 xU.vm ∧ xU.heap = h0 ∧ CHv Z consts_1 xU.vm h0 ∧ ∀ x ∈ ([] : List Addr), Safe Z consts_1 xU.vm h0 x) (fun _ _ _ _ _ => True) (fun _ xU xo xU' => ∃ xv xL, xo = .returned xv ∧ Q_ns Z c0 c1 c2 c3 st ln h0 n0 xv xU'.heap xL ∧ CHr Z consts_1 xU.vm xU.heap xU'.vm xU'.heap ∧ ReturnedEndW xU xo xU' xL r6_3_16_94.cells r6_3_16_94.slots) := by
  refine MetFree.of_bodySF (plainFor_of_name pn_java_lang_String) hisR ?_
  intro pP eE sS mM argS bS methS cC s₁ Bd hml0 hP hK
  obtain ⟨rfl, hZ, hh, hCH, hSf⟩ := hP
  have hx := Bd.exec
  have hby := Bd.bytes
  have hml : cC.maxLocals = 5 := hml0
  have hown : sS.vm.findClass "java/lang/String" = some mM.cls := findClass_of_methodNamed Bd.named
  have hnm := (name_of_methodNamed Bd.named Bd.method).1
  have X0 : Stand pP l eE r6_3_16_94 (sS.setVm sS.vm) mM #[(.ref t), (.int st), (.int (st + ln))] bS methS cC s₁ [] 0 0 := Stand.of_body Bd
  have e0 : s₁.heap = h0 := by rw [← hh, Bd.state]; rfl
  have N0 := Fr.nil n0
  have hZ0 : Z.Warmed39 (sS.setVm sS.vm).vm := hZ
  have hown0 : (sS.setVm sS.vm).vm.findClass "java/lang/String" = some mM.cls := hown
  have hS0 : sS.Since sS.vm 0 := (State.WarmedH.refl sS).since 0
  have CC0 : CHr Z consts_1 sS.vm h0 sS.vm h0 := CHr.refl hCH
  obtain ⟨cq101, kq101, q101a, q101b, q101c⟩ := isOf hZ0 e0 E_t
  obtain ⟨_, _, ⟨T101, L101, k101, n101⟩, -, X101, ⟨Lc101, hQ101, l101, y101, z101⟩, st101⟩ := X0.virtualBack hx (y := y12_) (z := y12_) hown0 (mvT hZ0 (wi hw 92 rfl)) (mvT hZ0 (wi hw 48 rfl)) (notFace_of_selects (args := #[]) (mvT hZ0 (wi hw 50 rfl))) (mvT hZ0 (wi hw 50 rfl)) (mvT hZ0 (wi hw 49 rfl)) (by decide) (backOf (W := 0) (rm_length l Z a0 hw [] t a1 k1 z vs co (4 : Int32) cs h0 n0 (by omega) E_t F_value_t F_coder_t V_a1 hcb hsh OL S_COMPACT_STRINGS hcs) hZ0 (wi hw 51 rfl) (wi hw 4 rfl) (by decide) (by decide)) q101a q101c (g := (mkF mM 1 (Lc_sub_this_0 t st ln) [(.ref t)])) rfl (by rw [hml]; rfl) (Steps.refl _) (argsL := []) (rest := []) (lenOf pd_7 rfl) rfl (by show 2 * 0 + _ ≤ _; exact Nat.le_of_eq rfl) (hb hby d42_92_1) (fun _ _ => ⟨rfl, e0, ble rfl, ble rfl⟩)
  dsimp only [Pt.U, Pt.locs, Pt.cells, Pt.slots] at X101 l101 y101 z101 st101 hQ101
  subst y101 z101
  obtain ⟨h101, e101⟩ : ∃ z, T101.heap = z := ⟨_, rfl⟩
  rw [e101] at hQ101
  obtain ⟨rfl, N101q, eq101⟩ := hQ101
  rw [eq101] at e101
  have N101 : Fr n0 L101 := by rw [l101]; exact Fr.app N0 N101q
  obtain ⟨_, _, ⟨T102, L102, k102, n102⟩, -, X102, ⟨Lc102, hQ102, l102, y102, z102⟩, st102⟩ := Jvm.LawKit.callS X101 hx (y := y27_) hown0 (mvT hZ0 (wi hw 93 rfl)) (mvT hZ0 (wi hw 94 rfl)) (mvT hZ0 (wi hw 4 rfl)) (mvT hZ0 (wi hw 95 rfl)) (by decide) (backOf (W := 0) (rm_scbe l Z a0 hw [] st (st + ln) (4 : Int32) fo h0 n0 (by omega) hfo (own_b1 hcm) (own_b2 hcm) (own_b3 hcm) OL S_SIOOBE_FORMATTER) hZ0 (wi hw 95 rfl) (wi hw 4 rfl) (by decide) (by decide)) (g := (mkF mM 8 (Lc_sub_this_1 t st ln) [(.int (4 : Int32)), (.int (st + ln)), (.int st)])) rfl (by rw [hml]; rfl) (argsL := [(.int st), (.int (st + ln)), (.int (4 : Int32))]) (rest := []) (lenOf pd_13 rfl) rfl (by show 2 * 0 + _ ≤ _; exact Nat.le_of_eq rfl) (hb hby d42_92_8) (fun _ _ => ⟨rfl, e101, ble rfl, ble rfl⟩)
  dsimp only [Pt.U, Pt.locs, Pt.cells, Pt.slots] at X102 l102 y102 z102 st102 hQ102
  subst y102 z102
  obtain ⟨h102, e102⟩ : ∃ z, T102.heap = z := ⟨_, rfl⟩
  rw [e102] at hQ102
  obtain ⟨rfl, N102q, eq102⟩ := hQ102
  rw [eq102] at e102
  have N102 : Fr n0 L102 := by rw [l102]; exact Fr.app N101 N102q
  obtain ⟨fs, hr, hrun, hended, hE⟩ := Stand.leaveW (s := sS) X102 hS0 (by rw [e102]; omega) (v := some (.ref t)) (fun h => by rw [Bd.returns] at h; cases h)
  refine ⟨_, _, castTop (ef_sub_this mM t a1 k1 z vs co c0 c1 c2 c3 fo cs st ln) ?_, hrun, hended, _, _, rfl, ?_, ?_, hE.1, hE.2.1, hE.2.2.1, hE.2.2.2.mono (by decide) (by decide)⟩
  · show SS pP eE bS s₁ (mkF mM 0 (Lc_sub_this_0 t st ln) []) _
    refine XS.aloadN X0.here hx rfl (hb hby d42_92_0) rfl rfl ?_
    show SS pP eE bS s₁ (mkF mM 1 (Lc_sub_this_0 t st ln) [(.ref t)]) _
    refine st101.trans ?_
    show SS pP eE bS T101 (mkF mM 4 (Lc_sub_this_0 t st ln) [(.int (4 : Int32))]) _
    refine XS.istoreN X101.here hx rfl (hb hby d42_92_4) rfl (l' := (Lc_sub_this_1 t st ln)) rfl ?_
    refine XS.iloadN X101.here hx rfl (hb hby d42_92_5) rfl ?_
    refine XS.iloadN X101.here hx rfl (hb hby d42_92_6) rfl ?_
    refine XS.iloadN X101.here hx rfl (hb hby d42_92_7) rfl ?_
    show SS pP eE bS T101 (mkF mM 8 (Lc_sub_this_1 t st ln) [(.int (4 : Int32)), (.int (st + ln)), (.int st)]) _
    refine st102 _ ?_
    show SS pP eE bS T102 (mkF mM 11 (Lc_sub_this_1 t st ln) []) _
    refine XS.iloadN X102.here hx rfl (hb hby d42_92_11) rfl ?_
    refine XS.ifNo X102.here hx rfl (hb hby d42_92_12) rfl ((if0 _ _).trans (teq hc12).2) ?_
    refine XS.iloadN X102.here hx rfl (hb hby d42_92_15) rfl ?_
    refine XS.iloadN X102.here hx rfl (hb hby d42_92_16) rfl ?_
    show SS pP eE bS T102 (mkF mM 17 (Lc_sub_this_1 t st ln) [(.int (4 : Int32)), (.int (st + ln))]) _
    refine XS.icmpNo X102.here hx rfl (hb hby d42_92_17) rfl (teq hc17).2 ?_
    refine XS.aloadN X102.here hx rfl (hb hby d42_92_20) rfl rfl ?_
    show SS pP eE bS T102 (mkF mM 21 (Lc_sub_this_1 t st ln) [(.ref t)]) _
    jvm_step X102.here [X102.here.top, hx, (hb hby d42_92_21), X102.method', Bd.returns, Value.isRef, FieldType.isReference]
    first | (intro acts; rw [hr _ acts rfl rfl rfl]) | rw [hr _ _ rfl rfl rfl]
    exact Steps.refl _
  · show Q_ns Z c0 c1 c2 c3 st ln h0 n0 _ T102.heap _
    rw [e102]
    exact ⟨t, a1, k1, z, vs, co, rfl, N102, (Keep.refl h0 []), E_t, F_value_t, F_coder_t, V_a1, (hcb), (own_this hc12 hc17 con)⟩
  · show CHr Z consts_1 sS.vm sS.heap T102.vm T102.heap
    rw [hh, e102]
    exact CC0.trans (CHv.at X102 hZ0 (own_EW hw) CC0.1)
abbrev Lc_sub_l1_0 (t : Addr) (st : Int32) (ln : Int32) : Array Slot := #[.val (.ref t), .val (.int st), .val (.int (st + ln)), .unset, .unset]
abbrev Lc_sub_l1_1 (t : Addr) (st : Int32) (ln : Int32) : Array Slot := #[.val (.ref t), .val (.int st), .val (.int (st + ln)), .val (.int (4 : Int32)), .unset]
abbrev Lc_sub_l1_2 (t : Addr) (st : Int32) (ln : Int32) : Array Slot := #[.val (.ref t), .val (.int st), .val (.int (st + ln)), .val (.int (4 : Int32)), .val (.int ln)]
theorem ef_sub_l1 (mM : MethodId) (t : Addr) (a1 : Addr) (k1 : ClassId) (c0 : Int32) (c1 : Int32) (c2 : Int32) (c3 : Int32) (fo : Value) (cs : Int32) (st : Int32) (ln : Int32) : entryFrame mM #[(.ref t), (.int st), (.int (st + ln))] 5 = mkF mM 0 #[.val (.ref t), .val (.int st), .val (.int (st + ln)), .unset, .unset] [] := by
  first | (simp [entryFrame, mkF, argsToLocals, Value.category]; done) | rfl
theorem rm_sub_l1 (l : Launch) (Z : State) (a0 : Array Value) (hw : HW a0 Z) (ws : List Jvm.Cond) (t : Addr) (a1 : Addr) (k1 : ClassId) (c0 : Int32) (c1 : Int32) (c2 : Int32) (c3 : Int32) (fo : Value) (cs : Int32) (st : Int32) (ln : Int32) (h0 : Heap) (n0 : Nat) (Z0 : n0 ≤ h0.size) (E_t : Exa Z h0 t "java/lang/String") (F_value_t : Fld Z h0 t "java/lang/String" "value" "[B" (.ref a1)) (F_coder_t : Fld Z h0 t "java/lang/String" "coder" "B" (.int (0 : Int32))) (V_a1 : Arv Z h0 a1 k1 .byte (4 : Int32) [(.int c0.toInt8.toInt32), (.int c1.toInt8.toInt32), (.int c2.toInt8.toInt32), (.int c3.toInt8.toInt32)] (.int (0 : Int32))) (hcm : Combo st ln) (l0 : (c0.toInt8.toInt32 &&& (255 : Int32)) = c0) (l1 : (c1.toInt8.toInt32 &&& (255 : Int32)) = c1) (l2 : (c2.toInt8.toInt32 &&& (255 : Int32)) = c2) (l3 : (c3.toInt8.toInt32 &&& (255 : Int32)) = c3) (f0 : Ch c0) (f1 : Ch c1) (f2 : Ch c2) (f3 : Ch c3) (OL : Old Z n0 h0) (S__assertionsDisabled : Sta Z Z.heap "java/lang/StringUTF16" "$assertionsDisabled" "Z" (.int (1 : Int32))) (S_HI_BYTE_SHIFT : Sta Z Z.heap "java/lang/StringUTF16" "HI_BYTE_SHIFT" "I" (.int (0 : Int32))) (S_LO_BYTE_SHIFT : Sta Z Z.heap "java/lang/StringUTF16" "LO_BYTE_SHIFT" "I" (.int (8 : Int32))) (hfo : (fo).isRef = true) (S_SIOOBE_FORMATTER : Sta Z Z.heap "jdk/internal/util/Preconditions" "SIOOBE_FORMATTER" "Ljava/util/function/BiFunction;" fo) (S_COMPACT_STRINGS : Sta Z Z.heap "java/lang/String" "COMPACT_STRINGS" "Z" (.int cs)) (hcs : ¬ (cs = (0 : Int32))) (hc12 : ¬ (st = (0 : Int32))) :
    MetFree l y28_ (head1 (Jvm.Cond.code y28_ jdk_42_method_92_code 5 (some (.object "java/lang/String")) :: ws) r6_3_16_94) (fun xa xU => xa = #[(.ref t), (.int st), (.int (st + ln))] ∧ Z.Warmed39 xU.vm ∧ xU.heap = h0 ∧ CHv Z consts_1 xU.vm h0 ∧ ∀ x ∈ ([] : List Addr), Safe Z consts_1 xU.vm h0 x) (fun _ _ _ _ _ => True) (fun _ xU xo xU' => ∃ xv xL, xo = .returned xv ∧ Q_ns Z c0 c1 c2 c3 st ln h0 n0 xv xU'.heap xL ∧ CHr Z consts_1 xU.vm xU.heap xU'.vm xU'.heap ∧ ReturnedEndW xU xo xU' xL r6_3_16_94.cells r6_3_16_94.slots) := by
  refine MetFree.of_bodySF (plainFor_of_name pn_java_lang_String) hisR ?_
  intro pP eE sS mM argS bS methS cC s₁ Bd hml0 hP hK
  obtain ⟨rfl, hZ, hh, hCH, hSf⟩ := hP
  have hx := Bd.exec
  have hby := Bd.bytes
  have hml : cC.maxLocals = 5 := hml0
  have hown : sS.vm.findClass "java/lang/String" = some mM.cls := findClass_of_methodNamed Bd.named
  have hnm := (name_of_methodNamed Bd.named Bd.method).1
  have X0 : Stand pP l eE r6_3_16_94 (sS.setVm sS.vm) mM #[(.ref t), (.int st), (.int (st + ln))] bS methS cC s₁ [] 0 0 := Stand.of_body Bd
  have e0 : s₁.heap = h0 := by rw [← hh, Bd.state]; rfl
  have N0 := Fr.nil n0
  have hZ0 : Z.Warmed39 (sS.setVm sS.vm).vm := hZ
  have hown0 : (sS.setVm sS.vm).vm.findClass "java/lang/String" = some mM.cls := hown
  have hS0 : sS.Since sS.vm 0 := (State.WarmedH.refl sS).since 0
  have CC0 : CHr Z consts_1 sS.vm h0 sS.vm h0 := CHr.refl hCH
  obtain ⟨cq101, kq101, q101a, q101b, q101c⟩ := isOf hZ0 e0 E_t
  obtain ⟨_, _, ⟨T101, L101, k101, n101⟩, -, X101, ⟨Lc101, hQ101, l101, y101, z101⟩, st101⟩ := X0.virtualBack hx (y := y12_) (z := y12_) hown0 (mvT hZ0 (wi hw 92 rfl)) (mvT hZ0 (wi hw 48 rfl)) (notFace_of_selects (args := #[]) (mvT hZ0 (wi hw 50 rfl))) (mvT hZ0 (wi hw 50 rfl)) (mvT hZ0 (wi hw 49 rfl)) (by decide) (backOf (W := 0) (rm_length l Z a0 hw [] t a1 k1 (4 : Int32) _ (0 : Int32) (4 : Int32) cs h0 n0 (by omega) E_t F_value_t F_coder_t V_a1 (by decide) (by decide) OL S_COMPACT_STRINGS hcs) hZ0 (wi hw 51 rfl) (wi hw 4 rfl) (by decide) (by decide)) q101a q101c (g := (mkF mM 1 (Lc_sub_l1_0 t st ln) [(.ref t)])) rfl (by rw [hml]; rfl) (Steps.refl _) (argsL := []) (rest := []) (lenOf pd_7 rfl) rfl (by show 2 * 0 + _ ≤ _; exact Nat.le_of_eq rfl) (hb hby d42_92_1) (fun _ _ => ⟨rfl, e0, ble rfl, ble rfl⟩)
  dsimp only [Pt.U, Pt.locs, Pt.cells, Pt.slots] at X101 l101 y101 z101 st101 hQ101
  subst y101 z101
  obtain ⟨h101, e101⟩ : ∃ z, T101.heap = z := ⟨_, rfl⟩
  rw [e101] at hQ101
  obtain ⟨rfl, N101q, eq101⟩ := hQ101
  rw [eq101] at e101
  have N101 : Fr n0 L101 := by rw [l101]; exact Fr.app N0 N101q
  obtain ⟨_, _, ⟨T102, L102, k102, n102⟩, -, X102, ⟨Lc102, hQ102, l102, y102, z102⟩, st102⟩ := Jvm.LawKit.callS X101 hx (y := y27_) hown0 (mvT hZ0 (wi hw 93 rfl)) (mvT hZ0 (wi hw 94 rfl)) (mvT hZ0 (wi hw 4 rfl)) (mvT hZ0 (wi hw 95 rfl)) (by decide) (backOf (W := 0) (rm_scbe l Z a0 hw [] st (st + ln) (4 : Int32) fo h0 n0 (by omega) hfo (own_b1 hcm) (own_b2 hcm) (own_b3 hcm) OL S_SIOOBE_FORMATTER) hZ0 (wi hw 95 rfl) (wi hw 4 rfl) (by decide) (by decide)) (g := (mkF mM 8 (Lc_sub_l1_1 t st ln) [(.int (4 : Int32)), (.int (st + ln)), (.int st)])) rfl (by rw [hml]; rfl) (argsL := [(.int st), (.int (st + ln)), (.int (4 : Int32))]) (rest := []) (lenOf pd_13 rfl) rfl (by show 2 * 0 + _ ≤ _; exact Nat.le_of_eq rfl) (hb hby d42_92_8) (fun _ _ => ⟨rfl, e101, ble rfl, ble rfl⟩)
  dsimp only [Pt.U, Pt.locs, Pt.cells, Pt.slots] at X102 l102 y102 z102 st102 hQ102
  subst y102 z102
  obtain ⟨h102, e102⟩ : ∃ z, T102.heap = z := ⟨_, rfl⟩
  rw [e102] at hQ102
  obtain ⟨rfl, N102q, eq102⟩ := hQ102
  rw [eq102] at e102
  have N102 : Fr n0 L102 := by rw [l102]; exact Fr.app N101 N102q
  obtain ⟨cq103, kq103, q103a, q103b, q103c⟩ := isOf hZ0 e102 E_t
  obtain ⟨_, _, ⟨T103, L103, k103, n103⟩, -, X103, ⟨Lc103, hQ103, l103, y103, z103⟩, st103⟩ := X102.virtualBack hx (y := y13_) (z := y13_) hown0 (mvT hZ0 (wi hw 101 rfl)) (mvT hZ0 (wi hw 102 rfl)) (notFace_of_selects (args := #[]) (mvT hZ0 (wi hw 104 rfl))) (mvT hZ0 (wi hw 104 rfl)) (mvT hZ0 (wi hw 103 rfl)) (by decide) (backOf (W := 0) (rm_isl0 l Z a0 hw [] t cs h0 n0 (by omega) F_coder_t OL S_COMPACT_STRINGS hcs) hZ0 (wi hw 105 rfl) (wi hw 4 rfl) (by decide) (by decide)) q103a q103c (g := (mkF mM 28 (Lc_sub_l1_2 t st ln) [(.ref t)])) rfl (by rw [hml]; rfl) (Steps.refl _) (argsL := []) (rest := []) (lenOf pd_15 rfl) rfl (by show 2 * 0 + _ ≤ _; exact Nat.le_of_eq rfl) (hb hby d42_92_28) (fun _ _ => ⟨rfl, e102, ble rfl, ble rfl⟩)
  dsimp only [Pt.U, Pt.locs, Pt.cells, Pt.slots] at X103 l103 y103 z103 st103 hQ103
  subst y103 z103
  obtain ⟨h103, e103⟩ : ∃ z, T103.heap = z := ⟨_, rfl⟩
  rw [e103] at hQ103
  obtain ⟨rfl, N103q, eq103⟩ := hQ103
  rw [eq103] at e103
  have N103 : Fr n0 L103 := by rw [l103]; exact Fr.app N102 N103q
  obtain ⟨T104, X104, e104, st104⟩ := getF X103 hx hZ0 hown0 (host := "") (Or.inl (wi hw 29 rfl)) Via.refl e103 F_value_t (g := (mkF mM 35 (Lc_sub_l1_2 t st ln) [(.ref t)])) rfl rfl (hb hby d42_92_35)
  obtain ⟨_, _, ⟨T105, L105, k105, n105⟩, -, X105, hs105, hg105, ⟨Lc105, hQ105, l105, y105, z105, Ch105⟩, st105⟩ := callSS X104 hx (y := y19_) hown0 (mvT hZ0 (wi hw 106 rfl)) (mvT hZ0 (wi hw 107 rfl)) (mvT hZ0 (wi hw 108 rfl)) (mvT hZ0 (wi hw 109 rfl)) (by decide) (backCH (W := 0) (rm_nl l Z a0 hw [] a1 k1 c0 c1 c2 c3 st ln h0 n0 (by omega) V_a1 OL l0 l1 l2 l3 (own_cm1a hcm hc12)) hZ0 (wi hw 109 rfl) (wi hw 108 rfl) (by decide) (by decide) (own_EW hw) CC0.1 cs0 (fun _ _ _ _ _ _ _ _ _ => trivial)) (g := (mkF mM 41 (Lc_sub_l1_2 t st ln) [(.int ln), (.int st), (.ref a1)])) rfl (by rw [hml]; rfl) (argsL := [(.ref a1), (.int st), (.int ln)]) (rest := []) (lenOf pd_16 rfl) rfl (by show 2 * 0 + _ ≤ _; exact Nat.le_of_eq rfl) (hb hby d42_92_41) (fun _ _ => ⟨rfl, e104, ble rfl, ble rfl⟩)
  dsimp only [Pt.U, Pt.locs, Pt.cells, Pt.slots] at X105 l105 y105 z105 st105 hQ105 hs105 hg105 Ch105
  subst y105 z105
  obtain ⟨X105', hS105, hZ105, hown105⟩ := rebS hS0 (by rw [e104]; omega) X105 hs105 hg105 hZ0 hown0
  obtain ⟨h105, e105⟩ : ∃ z, T105.heap = z := ⟨_, rfl⟩
  rw [e105] at hQ105 hS105 Ch105
  obtain ⟨r_105, rb_105, rk_105, rz_105, rvs_105, rco_105, rfl, N105q, Kp105, p105_E_r, p105_F_value_r, p105_F_coder_r, p105_V_rb, p105_hcb, p105_con⟩ := hQ105
  have Sz1 : h0.size ≤ h105.size := Kp105.1
  have CC1 : CHr Z consts_1 sS.vm h0 T105.vm h105 := CC0.trans Ch105
  have N105 : Fr n0 L105 := by rw [l105]; exact Fr.app N103 N105q
  have K106 : Keep h0 h105 [] := (Keep.refl h0 []).trans Kp105 all0
  obtain ⟨fs, hr, hrun, hended, hE⟩ := Stand.leaveW (s := sS) X105' hS105 (by rw [e105]; omega) (v := some (.ref r_105)) (fun h => by rw [Bd.returns] at h; cases h)
  refine ⟨_, _, castTop (ef_sub_l1 mM t a1 k1 c0 c1 c2 c3 fo cs st ln) ?_, hrun, hended, _, _, rfl, ?_, ?_, hE.1, hE.2.1, hE.2.2.1, hE.2.2.2.mono (by decide) (by decide)⟩
  · show SS pP eE bS s₁ (mkF mM 0 (Lc_sub_l1_0 t st ln) []) _
    refine XS.aloadN X0.here hx rfl (hb hby d42_92_0) rfl rfl ?_
    show SS pP eE bS s₁ (mkF mM 1 (Lc_sub_l1_0 t st ln) [(.ref t)]) _
    refine st101.trans ?_
    show SS pP eE bS T101 (mkF mM 4 (Lc_sub_l1_0 t st ln) [(.int (4 : Int32))]) _
    refine XS.istoreN X101.here hx rfl (hb hby d42_92_4) rfl (l' := (Lc_sub_l1_1 t st ln)) rfl ?_
    refine XS.iloadN X101.here hx rfl (hb hby d42_92_5) rfl ?_
    refine XS.iloadN X101.here hx rfl (hb hby d42_92_6) rfl ?_
    refine XS.iloadN X101.here hx rfl (hb hby d42_92_7) rfl ?_
    show SS pP eE bS T101 (mkF mM 8 (Lc_sub_l1_1 t st ln) [(.int (4 : Int32)), (.int (st + ln)), (.int st)]) _
    refine st102 _ ?_
    show SS pP eE bS T102 (mkF mM 11 (Lc_sub_l1_1 t st ln) []) _
    refine XS.iloadN X102.here hx rfl (hb hby d42_92_11) rfl ?_
    refine XS.ifYes X102.here hx rfl (pc0 := 12) (pc' := 22) rfl (hb hby d42_92_12) rfl ((if0 _ _).trans (feq hc12).2) (by decide) (by decide) ?_
    refine XS.iloadN X102.here hx rfl (hb hby d42_92_22) rfl ?_
    refine XS.iloadN X102.here hx rfl (hb hby d42_92_23) rfl ?_
    show SS pP eE bS T102 (mkF mM 24 (Lc_sub_l1_1 t st ln) [(.int st), (.int (st + ln))]) _
    refine XS.isub X102.here hx rfl (hb hby d42_92_24) rfl ?_
    show SS pP eE bS T102 (mkF mM 25 (Lc_sub_l1_1 t st ln) [(.int ((st + ln) - st))]) _
    rw [show ((st + ln) - st) = ln from own_asub st ln]
    refine XS.istore X102.here hx rfl (hb hby d42_92_25) rfl (l' := (Lc_sub_l1_2 t st ln)) rfl ?_
    refine XS.aloadN X102.here hx rfl (hb hby d42_92_27) rfl rfl ?_
    show SS pP eE bS T102 (mkF mM 28 (Lc_sub_l1_2 t st ln) [(.ref t)]) _
    refine st103.trans ?_
    show SS pP eE bS T103 (mkF mM 31 (Lc_sub_l1_2 t st ln) [(.int (1 : Int32))]) _
    refine XS.ifNo X103.here hx rfl (hb hby d42_92_31) rfl ((if0 _ _).trans (feq (by decide : ¬ ((1 : Int32) = (0 : Int32)))).1) ?_
    refine XS.aloadN X103.here hx rfl (hb hby d42_92_34) rfl rfl ?_
    show SS pP eE bS T103 (mkF mM 35 (Lc_sub_l1_2 t st ln) [(.ref t)]) _
    refine st104 _ ?_
    show SS pP eE bS T104 (mkF mM 38 (Lc_sub_l1_2 t st ln) [(.ref a1)]) _
    refine XS.iloadN X104.here hx rfl (hb hby d42_92_38) rfl ?_
    refine XS.iload X104.here hx rfl (hb hby d42_92_39) rfl ?_
    show SS pP eE bS T104 (mkF mM 41 (Lc_sub_l1_2 t st ln) [(.int ln), (.int st), (.ref a1)]) _
    refine st105.trans ?_
    show SS pP eE bS T105 (mkF mM 44 (Lc_sub_l1_2 t st ln) [(.ref r_105)]) _
    refine XS.goto X105'.here hx rfl (pc0 := 44) (pc' := 57) rfl (hb hby d42_92_44) (by decide) (by decide) ?_
    show SS pP eE bS T105 (mkF mM 57 (Lc_sub_l1_2 t st ln) [(.ref r_105)]) _
    jvm_step X105'.here [X105'.here.top, hx, (hb hby d42_92_57), X105'.method', Bd.returns, Value.isRef, FieldType.isReference]
    first | (intro acts; rw [hr _ acts rfl rfl rfl]) | rw [hr _ _ rfl rfl rfl]
    exact Steps.refl _
  · show Q_ns Z c0 c1 c2 c3 st ln h0 n0 _ T105.heap _
    rw [e105]
    exact ⟨r_105, rb_105, rk_105, rz_105, rvs_105, rco_105, rfl, N105, K106, p105_E_r, p105_F_value_r, p105_F_coder_r, p105_V_rb, (p105_hcb), (p105_con)⟩
  · show CHr Z consts_1 sS.vm sS.heap T105.vm T105.heap
    rw [hh, e105]
    exact CC1.trans (CHv.at X105' hZ105 (own_EW hw) CC1.1)
abbrev Lc_sub_l2_0 (t : Addr) (st : Int32) (ln : Int32) : Array Slot := #[.val (.ref t), .val (.int st), .val (.int (st + ln)), .unset, .unset]
abbrev Lc_sub_l2_1 (t : Addr) (st : Int32) (ln : Int32) : Array Slot := #[.val (.ref t), .val (.int st), .val (.int (st + ln)), .val (.int (4 : Int32)), .unset]
abbrev Lc_sub_l2_2 (t : Addr) (st : Int32) (ln : Int32) : Array Slot := #[.val (.ref t), .val (.int st), .val (.int (st + ln)), .val (.int (4 : Int32)), .val (.int ln)]
theorem ef_sub_l2 (mM : MethodId) (t : Addr) (a1 : Addr) (k1 : ClassId) (c0 : Int32) (c1 : Int32) (c2 : Int32) (c3 : Int32) (fo : Value) (cs : Int32) (st : Int32) (ln : Int32) : entryFrame mM #[(.ref t), (.int st), (.int (st + ln))] 5 = mkF mM 0 #[.val (.ref t), .val (.int st), .val (.int (st + ln)), .unset, .unset] [] := by
  first | (simp [entryFrame, mkF, argsToLocals, Value.category]; done) | rfl
theorem rm_sub_l2 (l : Launch) (Z : State) (a0 : Array Value) (hw : HW a0 Z) (ws : List Jvm.Cond) (t : Addr) (a1 : Addr) (k1 : ClassId) (c0 : Int32) (c1 : Int32) (c2 : Int32) (c3 : Int32) (fo : Value) (cs : Int32) (st : Int32) (ln : Int32) (h0 : Heap) (n0 : Nat) (Z0 : n0 ≤ h0.size) (E_t : Exa Z h0 t "java/lang/String") (F_value_t : Fld Z h0 t "java/lang/String" "value" "[B" (.ref a1)) (F_coder_t : Fld Z h0 t "java/lang/String" "coder" "B" (.int (0 : Int32))) (V_a1 : Arv Z h0 a1 k1 .byte (4 : Int32) [(.int c0.toInt8.toInt32), (.int c1.toInt8.toInt32), (.int c2.toInt8.toInt32), (.int c3.toInt8.toInt32)] (.int (0 : Int32))) (hcm : Combo st ln) (l0 : (c0.toInt8.toInt32 &&& (255 : Int32)) = c0) (l1 : (c1.toInt8.toInt32 &&& (255 : Int32)) = c1) (l2 : (c2.toInt8.toInt32 &&& (255 : Int32)) = c2) (l3 : (c3.toInt8.toInt32 &&& (255 : Int32)) = c3) (f0 : Ch c0) (f1 : Ch c1) (f2 : Ch c2) (f3 : Ch c3) (OL : Old Z n0 h0) (S__assertionsDisabled : Sta Z Z.heap "java/lang/StringUTF16" "$assertionsDisabled" "Z" (.int (1 : Int32))) (S_HI_BYTE_SHIFT : Sta Z Z.heap "java/lang/StringUTF16" "HI_BYTE_SHIFT" "I" (.int (0 : Int32))) (S_LO_BYTE_SHIFT : Sta Z Z.heap "java/lang/StringUTF16" "LO_BYTE_SHIFT" "I" (.int (8 : Int32))) (hfo : (fo).isRef = true) (S_SIOOBE_FORMATTER : Sta Z Z.heap "jdk/internal/util/Preconditions" "SIOOBE_FORMATTER" "Ljava/util/function/BiFunction;" fo) (S_COMPACT_STRINGS : Sta Z Z.heap "java/lang/String" "COMPACT_STRINGS" "Z" (.int cs)) (hcs : ¬ (cs = (0 : Int32))) (hc12 : st = (0 : Int32)) (hc17 : ¬ ((st + ln) = (4 : Int32))) :
    MetFree l y28_ (head1 (Jvm.Cond.code y28_ jdk_42_method_92_code 5 (some (.object "java/lang/String")) :: ws) r6_3_16_94) (fun xa xU => xa = #[(.ref t), (.int st), (.int (st + ln))] ∧ Z.Warmed39 xU.vm ∧ xU.heap = h0 ∧ CHv Z consts_1 xU.vm h0 ∧ ∀ x ∈ ([] : List Addr), Safe Z consts_1 xU.vm h0 x) (fun _ _ _ _ _ => True) (fun _ xU xo xU' => ∃ xv xL, xo = .returned xv ∧ Q_ns Z c0 c1 c2 c3 st ln h0 n0 xv xU'.heap xL ∧ CHr Z consts_1 xU.vm xU.heap xU'.vm xU'.heap ∧ ReturnedEndW xU xo xU' xL r6_3_16_94.cells r6_3_16_94.slots) := by
  refine MetFree.of_bodySF (plainFor_of_name pn_java_lang_String) hisR ?_
  intro pP eE sS mM argS bS methS cC s₁ Bd hml0 hP hK
  obtain ⟨rfl, hZ, hh, hCH, hSf⟩ := hP
  have hx := Bd.exec
  have hby := Bd.bytes
  have hml : cC.maxLocals = 5 := hml0
  have hown : sS.vm.findClass "java/lang/String" = some mM.cls := findClass_of_methodNamed Bd.named
  have hnm := (name_of_methodNamed Bd.named Bd.method).1
  have X0 : Stand pP l eE r6_3_16_94 (sS.setVm sS.vm) mM #[(.ref t), (.int st), (.int (st + ln))] bS methS cC s₁ [] 0 0 := Stand.of_body Bd
  have e0 : s₁.heap = h0 := by rw [← hh, Bd.state]; rfl
  have N0 := Fr.nil n0
  have hZ0 : Z.Warmed39 (sS.setVm sS.vm).vm := hZ
  have hown0 : (sS.setVm sS.vm).vm.findClass "java/lang/String" = some mM.cls := hown
  have hS0 : sS.Since sS.vm 0 := (State.WarmedH.refl sS).since 0
  have CC0 : CHr Z consts_1 sS.vm h0 sS.vm h0 := CHr.refl hCH
  obtain ⟨cq101, kq101, q101a, q101b, q101c⟩ := isOf hZ0 e0 E_t
  obtain ⟨_, _, ⟨T101, L101, k101, n101⟩, -, X101, ⟨Lc101, hQ101, l101, y101, z101⟩, st101⟩ := X0.virtualBack hx (y := y12_) (z := y12_) hown0 (mvT hZ0 (wi hw 92 rfl)) (mvT hZ0 (wi hw 48 rfl)) (notFace_of_selects (args := #[]) (mvT hZ0 (wi hw 50 rfl))) (mvT hZ0 (wi hw 50 rfl)) (mvT hZ0 (wi hw 49 rfl)) (by decide) (backOf (W := 0) (rm_length l Z a0 hw [] t a1 k1 (4 : Int32) _ (0 : Int32) (4 : Int32) cs h0 n0 (by omega) E_t F_value_t F_coder_t V_a1 (by decide) (by decide) OL S_COMPACT_STRINGS hcs) hZ0 (wi hw 51 rfl) (wi hw 4 rfl) (by decide) (by decide)) q101a q101c (g := (mkF mM 1 (Lc_sub_l2_0 t st ln) [(.ref t)])) rfl (by rw [hml]; rfl) (Steps.refl _) (argsL := []) (rest := []) (lenOf pd_7 rfl) rfl (by show 2 * 0 + _ ≤ _; exact Nat.le_of_eq rfl) (hb hby d42_92_1) (fun _ _ => ⟨rfl, e0, ble rfl, ble rfl⟩)
  dsimp only [Pt.U, Pt.locs, Pt.cells, Pt.slots] at X101 l101 y101 z101 st101 hQ101
  subst y101 z101
  obtain ⟨h101, e101⟩ : ∃ z, T101.heap = z := ⟨_, rfl⟩
  rw [e101] at hQ101
  obtain ⟨rfl, N101q, eq101⟩ := hQ101
  rw [eq101] at e101
  have N101 : Fr n0 L101 := by rw [l101]; exact Fr.app N0 N101q
  obtain ⟨_, _, ⟨T102, L102, k102, n102⟩, -, X102, ⟨Lc102, hQ102, l102, y102, z102⟩, st102⟩ := Jvm.LawKit.callS X101 hx (y := y27_) hown0 (mvT hZ0 (wi hw 93 rfl)) (mvT hZ0 (wi hw 94 rfl)) (mvT hZ0 (wi hw 4 rfl)) (mvT hZ0 (wi hw 95 rfl)) (by decide) (backOf (W := 0) (rm_scbe l Z a0 hw [] st (st + ln) (4 : Int32) fo h0 n0 (by omega) hfo (own_b1 hcm) (own_b2 hcm) (own_b3 hcm) OL S_SIOOBE_FORMATTER) hZ0 (wi hw 95 rfl) (wi hw 4 rfl) (by decide) (by decide)) (g := (mkF mM 8 (Lc_sub_l2_1 t st ln) [(.int (4 : Int32)), (.int (st + ln)), (.int st)])) rfl (by rw [hml]; rfl) (argsL := [(.int st), (.int (st + ln)), (.int (4 : Int32))]) (rest := []) (lenOf pd_13 rfl) rfl (by show 2 * 0 + _ ≤ _; exact Nat.le_of_eq rfl) (hb hby d42_92_8) (fun _ _ => ⟨rfl, e101, ble rfl, ble rfl⟩)
  dsimp only [Pt.U, Pt.locs, Pt.cells, Pt.slots] at X102 l102 y102 z102 st102 hQ102
  subst y102 z102
  obtain ⟨h102, e102⟩ : ∃ z, T102.heap = z := ⟨_, rfl⟩
  rw [e102] at hQ102
  obtain ⟨rfl, N102q, eq102⟩ := hQ102
  rw [eq102] at e102
  have N102 : Fr n0 L102 := by rw [l102]; exact Fr.app N101 N102q
  obtain ⟨cq103, kq103, q103a, q103b, q103c⟩ := isOf hZ0 e102 E_t
  obtain ⟨_, _, ⟨T103, L103, k103, n103⟩, -, X103, ⟨Lc103, hQ103, l103, y103, z103⟩, st103⟩ := X102.virtualBack hx (y := y13_) (z := y13_) hown0 (mvT hZ0 (wi hw 101 rfl)) (mvT hZ0 (wi hw 102 rfl)) (notFace_of_selects (args := #[]) (mvT hZ0 (wi hw 104 rfl))) (mvT hZ0 (wi hw 104 rfl)) (mvT hZ0 (wi hw 103 rfl)) (by decide) (backOf (W := 0) (rm_isl0 l Z a0 hw [] t cs h0 n0 (by omega) F_coder_t OL S_COMPACT_STRINGS hcs) hZ0 (wi hw 105 rfl) (wi hw 4 rfl) (by decide) (by decide)) q103a q103c (g := (mkF mM 28 (Lc_sub_l2_2 t st ln) [(.ref t)])) rfl (by rw [hml]; rfl) (Steps.refl _) (argsL := []) (rest := []) (lenOf pd_15 rfl) rfl (by show 2 * 0 + _ ≤ _; exact Nat.le_of_eq rfl) (hb hby d42_92_28) (fun _ _ => ⟨rfl, e102, ble rfl, ble rfl⟩)
  dsimp only [Pt.U, Pt.locs, Pt.cells, Pt.slots] at X103 l103 y103 z103 st103 hQ103
  subst y103 z103
  obtain ⟨h103, e103⟩ : ∃ z, T103.heap = z := ⟨_, rfl⟩
  rw [e103] at hQ103
  obtain ⟨rfl, N103q, eq103⟩ := hQ103
  rw [eq103] at e103
  have N103 : Fr n0 L103 := by rw [l103]; exact Fr.app N102 N103q
  obtain ⟨T104, X104, e104, st104⟩ := getF X103 hx hZ0 hown0 (host := "") (Or.inl (wi hw 29 rfl)) Via.refl e103 F_value_t (g := (mkF mM 35 (Lc_sub_l2_2 t st ln) [(.ref t)])) rfl rfl (hb hby d42_92_35)
  obtain ⟨_, _, ⟨T105, L105, k105, n105⟩, -, X105, hs105, hg105, ⟨Lc105, hQ105, l105, y105, z105, Ch105⟩, st105⟩ := callSS X104 hx (y := y19_) hown0 (mvT hZ0 (wi hw 106 rfl)) (mvT hZ0 (wi hw 107 rfl)) (mvT hZ0 (wi hw 108 rfl)) (mvT hZ0 (wi hw 109 rfl)) (by decide) (backCH (W := 0) (rm_nl l Z a0 hw [] a1 k1 c0 c1 c2 c3 st ln h0 n0 (by omega) V_a1 OL l0 l1 l2 l3 (own_cm1b hcm hc17)) hZ0 (wi hw 109 rfl) (wi hw 108 rfl) (by decide) (by decide) (own_EW hw) CC0.1 cs0 (fun _ _ _ _ _ _ _ _ _ => trivial)) (g := (mkF mM 41 (Lc_sub_l2_2 t st ln) [(.int ln), (.int st), (.ref a1)])) rfl (by rw [hml]; rfl) (argsL := [(.ref a1), (.int st), (.int ln)]) (rest := []) (lenOf pd_16 rfl) rfl (by show 2 * 0 + _ ≤ _; exact Nat.le_of_eq rfl) (hb hby d42_92_41) (fun _ _ => ⟨rfl, e104, ble rfl, ble rfl⟩)
  dsimp only [Pt.U, Pt.locs, Pt.cells, Pt.slots] at X105 l105 y105 z105 st105 hQ105 hs105 hg105 Ch105
  subst y105 z105
  obtain ⟨X105', hS105, hZ105, hown105⟩ := rebS hS0 (by rw [e104]; omega) X105 hs105 hg105 hZ0 hown0
  obtain ⟨h105, e105⟩ : ∃ z, T105.heap = z := ⟨_, rfl⟩
  rw [e105] at hQ105 hS105 Ch105
  obtain ⟨r_105, rb_105, rk_105, rz_105, rvs_105, rco_105, rfl, N105q, Kp105, p105_E_r, p105_F_value_r, p105_F_coder_r, p105_V_rb, p105_hcb, p105_con⟩ := hQ105
  have Sz1 : h0.size ≤ h105.size := Kp105.1
  have CC1 : CHr Z consts_1 sS.vm h0 T105.vm h105 := CC0.trans Ch105
  have N105 : Fr n0 L105 := by rw [l105]; exact Fr.app N103 N105q
  have K106 : Keep h0 h105 [] := (Keep.refl h0 []).trans Kp105 all0
  obtain ⟨fs, hr, hrun, hended, hE⟩ := Stand.leaveW (s := sS) X105' hS105 (by rw [e105]; omega) (v := some (.ref r_105)) (fun h => by rw [Bd.returns] at h; cases h)
  refine ⟨_, _, castTop (ef_sub_l2 mM t a1 k1 c0 c1 c2 c3 fo cs st ln) ?_, hrun, hended, _, _, rfl, ?_, ?_, hE.1, hE.2.1, hE.2.2.1, hE.2.2.2.mono (by decide) (by decide)⟩
  · show SS pP eE bS s₁ (mkF mM 0 (Lc_sub_l2_0 t st ln) []) _
    refine XS.aloadN X0.here hx rfl (hb hby d42_92_0) rfl rfl ?_
    show SS pP eE bS s₁ (mkF mM 1 (Lc_sub_l2_0 t st ln) [(.ref t)]) _
    refine st101.trans ?_
    show SS pP eE bS T101 (mkF mM 4 (Lc_sub_l2_0 t st ln) [(.int (4 : Int32))]) _
    refine XS.istoreN X101.here hx rfl (hb hby d42_92_4) rfl (l' := (Lc_sub_l2_1 t st ln)) rfl ?_
    refine XS.iloadN X101.here hx rfl (hb hby d42_92_5) rfl ?_
    refine XS.iloadN X101.here hx rfl (hb hby d42_92_6) rfl ?_
    refine XS.iloadN X101.here hx rfl (hb hby d42_92_7) rfl ?_
    show SS pP eE bS T101 (mkF mM 8 (Lc_sub_l2_1 t st ln) [(.int (4 : Int32)), (.int (st + ln)), (.int st)]) _
    refine st102 _ ?_
    show SS pP eE bS T102 (mkF mM 11 (Lc_sub_l2_1 t st ln) []) _
    refine XS.iloadN X102.here hx rfl (hb hby d42_92_11) rfl ?_
    refine XS.ifNo X102.here hx rfl (hb hby d42_92_12) rfl ((if0 _ _).trans (teq hc12).2) ?_
    refine XS.iloadN X102.here hx rfl (hb hby d42_92_15) rfl ?_
    refine XS.iloadN X102.here hx rfl (hb hby d42_92_16) rfl ?_
    show SS pP eE bS T102 (mkF mM 17 (Lc_sub_l2_1 t st ln) [(.int (4 : Int32)), (.int (st + ln))]) _
    refine XS.icmpYes X102.here hx rfl (pc0 := 17) (pc' := 22) rfl (hb hby d42_92_17) rfl (feq hc17).2 (by decide) (by decide) ?_
    refine XS.iloadN X102.here hx rfl (hb hby d42_92_22) rfl ?_
    refine XS.iloadN X102.here hx rfl (hb hby d42_92_23) rfl ?_
    refine XS.isub X102.here hx rfl (hb hby d42_92_24) rfl ?_
    show SS pP eE bS T102 (mkF mM 25 (Lc_sub_l2_1 t st ln) [(.int ((st + ln) - st))]) _
    rw [show ((st + ln) - st) = ln from own_asub st ln]
    refine XS.istore X102.here hx rfl (hb hby d42_92_25) rfl (l' := (Lc_sub_l2_2 t st ln)) rfl ?_
    refine XS.aloadN X102.here hx rfl (hb hby d42_92_27) rfl rfl ?_
    show SS pP eE bS T102 (mkF mM 28 (Lc_sub_l2_2 t st ln) [(.ref t)]) _
    refine st103.trans ?_
    show SS pP eE bS T103 (mkF mM 31 (Lc_sub_l2_2 t st ln) [(.int (1 : Int32))]) _
    refine XS.ifNo X103.here hx rfl (hb hby d42_92_31) rfl ((if0 _ _).trans (feq (by decide : ¬ ((1 : Int32) = (0 : Int32)))).1) ?_
    refine XS.aloadN X103.here hx rfl (hb hby d42_92_34) rfl rfl ?_
    show SS pP eE bS T103 (mkF mM 35 (Lc_sub_l2_2 t st ln) [(.ref t)]) _
    refine st104 _ ?_
    show SS pP eE bS T104 (mkF mM 38 (Lc_sub_l2_2 t st ln) [(.ref a1)]) _
    refine XS.iloadN X104.here hx rfl (hb hby d42_92_38) rfl ?_
    refine XS.iload X104.here hx rfl (hb hby d42_92_39) rfl ?_
    show SS pP eE bS T104 (mkF mM 41 (Lc_sub_l2_2 t st ln) [(.int ln), (.int st), (.ref a1)]) _
    refine st105.trans ?_
    show SS pP eE bS T105 (mkF mM 44 (Lc_sub_l2_2 t st ln) [(.ref r_105)]) _
    refine XS.goto X105'.here hx rfl (pc0 := 44) (pc' := 57) rfl (hb hby d42_92_44) (by decide) (by decide) ?_
    show SS pP eE bS T105 (mkF mM 57 (Lc_sub_l2_2 t st ln) [(.ref r_105)]) _
    jvm_step X105'.here [X105'.here.top, hx, (hb hby d42_92_57), X105'.method', Bd.returns, Value.isRef, FieldType.isReference]
    first | (intro acts; rw [hr _ acts rfl rfl rfl]) | rw [hr _ _ rfl rfl rfl]
    exact Steps.refl _
  · show Q_ns Z c0 c1 c2 c3 st ln h0 n0 _ T105.heap _
    rw [e105]
    exact ⟨r_105, rb_105, rk_105, rz_105, rvs_105, rco_105, rfl, N105, K106, p105_E_r, p105_F_value_r, p105_F_coder_r, p105_V_rb, (p105_hcb), (p105_con)⟩
  · show CHr Z consts_1 sS.vm sS.heap T105.vm T105.heap
    rw [hh, e105]
    exact CC1.trans (CHv.at X105' hZ105 (own_EW hw) CC1.1)
abbrev Lc_sub_u1_0 (t : Addr) (st : Int32) (ln : Int32) : Array Slot := #[.val (.ref t), .val (.int st), .val (.int (st + ln)), .unset, .unset]
abbrev Lc_sub_u1_1 (t : Addr) (st : Int32) (ln : Int32) : Array Slot := #[.val (.ref t), .val (.int st), .val (.int (st + ln)), .val (.int (4 : Int32)), .unset]
abbrev Lc_sub_u1_2 (t : Addr) (st : Int32) (ln : Int32) : Array Slot := #[.val (.ref t), .val (.int st), .val (.int (st + ln)), .val (.int (4 : Int32)), .val (.int ln)]
theorem ef_sub_u1 (mM : MethodId) (t : Addr) (a1 : Addr) (k1 : ClassId) (c0 : Int32) (c1 : Int32) (c2 : Int32) (c3 : Int32) (fo : Value) (cs : Int32) (st : Int32) (ln : Int32) : entryFrame mM #[(.ref t), (.int st), (.int (st + ln))] 5 = mkF mM 0 #[.val (.ref t), .val (.int st), .val (.int (st + ln)), .unset, .unset] [] := by
  first | (simp [entryFrame, mkF, argsToLocals, Value.category]; done) | rfl
theorem rm_sub_u1 (l : Launch) (Z : State) (a0 : Array Value) (hw : HW a0 Z) (ws : List Jvm.Cond) (t : Addr) (a1 : Addr) (k1 : ClassId) (c0 : Int32) (c1 : Int32) (c2 : Int32) (c3 : Int32) (fo : Value) (cs : Int32) (st : Int32) (ln : Int32) (h0 : Heap) (n0 : Nat) (Z0 : n0 ≤ h0.size) (E_t : Exa Z h0 t "java/lang/String") (F_value_t : Fld Z h0 t "java/lang/String" "value" "[B" (.ref a1)) (F_coder_t : Fld Z h0 t "java/lang/String" "coder" "B" (.int (1 : Int32))) (V_a1 : Arv Z h0 a1 k1 .byte (8 : Int32) [(.int c0.toInt8.toInt32), (.int (c0 >>> ((8 : Int32) &&& 31)).toInt8.toInt32), (.int c1.toInt8.toInt32), (.int (c1 >>> ((8 : Int32) &&& 31)).toInt8.toInt32), (.int c2.toInt8.toInt32), (.int (c2 >>> ((8 : Int32) &&& 31)).toInt8.toInt32), (.int c3.toInt8.toInt32), (.int (c3 >>> ((8 : Int32) &&& 31)).toInt8.toInt32)] (.int (0 : Int32))) (hcm : Combo st ln) (f0 : Ch c0) (f1 : Ch c1) (f2 : Ch c2) (f3 : Ch c3) (OL : Old Z n0 h0) (S__assertionsDisabled : Sta Z Z.heap "java/lang/StringUTF16" "$assertionsDisabled" "Z" (.int (1 : Int32))) (S_HI_BYTE_SHIFT : Sta Z Z.heap "java/lang/StringUTF16" "HI_BYTE_SHIFT" "I" (.int (0 : Int32))) (S_LO_BYTE_SHIFT : Sta Z Z.heap "java/lang/StringUTF16" "LO_BYTE_SHIFT" "I" (.int (8 : Int32))) (hfo : (fo).isRef = true) (S_SIOOBE_FORMATTER : Sta Z Z.heap "jdk/internal/util/Preconditions" "SIOOBE_FORMATTER" "Ljava/util/function/BiFunction;" fo) (S_COMPACT_STRINGS : Sta Z Z.heap "java/lang/String" "COMPACT_STRINGS" "Z" (.int cs)) (hcs : ¬ (cs = (0 : Int32))) (hc12 : ¬ (st = (0 : Int32))) :
    MetFree l y28_ (head1 (Jvm.Cond.code y28_ jdk_42_method_92_code 5 (some (.object "java/lang/String")) :: ws) r6_3_16_94) (fun xa xU => xa = #[(.ref t), (.int st), (.int (st + ln))] ∧ Z.Warmed39 xU.vm ∧ xU.heap = h0 ∧ CHv Z consts_1 xU.vm h0 ∧ ∀ x ∈ ([] : List Addr), Safe Z consts_1 xU.vm h0 x) (fun _ _ _ _ _ => True) (fun _ xU xo xU' => ∃ xv xL, xo = .returned xv ∧ Q_ns Z c0 c1 c2 c3 st ln h0 n0 xv xU'.heap xL ∧ CHr Z consts_1 xU.vm xU.heap xU'.vm xU'.heap ∧ ReturnedEndW xU xo xU' xL r6_3_16_94.cells r6_3_16_94.slots) := by
  refine MetFree.of_bodySF (plainFor_of_name pn_java_lang_String) hisR ?_
  intro pP eE sS mM argS bS methS cC s₁ Bd hml0 hP hK
  obtain ⟨rfl, hZ, hh, hCH, hSf⟩ := hP
  have hx := Bd.exec
  have hby := Bd.bytes
  have hml : cC.maxLocals = 5 := hml0
  have hown : sS.vm.findClass "java/lang/String" = some mM.cls := findClass_of_methodNamed Bd.named
  have hnm := (name_of_methodNamed Bd.named Bd.method).1
  have X0 : Stand pP l eE r6_3_16_94 (sS.setVm sS.vm) mM #[(.ref t), (.int st), (.int (st + ln))] bS methS cC s₁ [] 0 0 := Stand.of_body Bd
  have e0 : s₁.heap = h0 := by rw [← hh, Bd.state]; rfl
  have N0 := Fr.nil n0
  have hZ0 : Z.Warmed39 (sS.setVm sS.vm).vm := hZ
  have hown0 : (sS.setVm sS.vm).vm.findClass "java/lang/String" = some mM.cls := hown
  have hS0 : sS.Since sS.vm 0 := (State.WarmedH.refl sS).since 0
  have CC0 : CHr Z consts_1 sS.vm h0 sS.vm h0 := CHr.refl hCH
  obtain ⟨cq101, kq101, q101a, q101b, q101c⟩ := isOf hZ0 e0 E_t
  obtain ⟨_, _, ⟨T101, L101, k101, n101⟩, -, X101, ⟨Lc101, hQ101, l101, y101, z101⟩, st101⟩ := X0.virtualBack hx (y := y12_) (z := y12_) hown0 (mvT hZ0 (wi hw 92 rfl)) (mvT hZ0 (wi hw 48 rfl)) (notFace_of_selects (args := #[]) (mvT hZ0 (wi hw 50 rfl))) (mvT hZ0 (wi hw 50 rfl)) (mvT hZ0 (wi hw 49 rfl)) (by decide) (backOf (W := 0) (rm_length l Z a0 hw [] t a1 k1 (8 : Int32) _ (1 : Int32) (4 : Int32) cs h0 n0 (by omega) E_t F_value_t F_coder_t V_a1 (by decide) (by decide) OL S_COMPACT_STRINGS hcs) hZ0 (wi hw 51 rfl) (wi hw 4 rfl) (by decide) (by decide)) q101a q101c (g := (mkF mM 1 (Lc_sub_u1_0 t st ln) [(.ref t)])) rfl (by rw [hml]; rfl) (Steps.refl _) (argsL := []) (rest := []) (lenOf pd_7 rfl) rfl (by show 2 * 0 + _ ≤ _; exact Nat.le_of_eq rfl) (hb hby d42_92_1) (fun _ _ => ⟨rfl, e0, ble rfl, ble rfl⟩)
  dsimp only [Pt.U, Pt.locs, Pt.cells, Pt.slots] at X101 l101 y101 z101 st101 hQ101
  subst y101 z101
  obtain ⟨h101, e101⟩ : ∃ z, T101.heap = z := ⟨_, rfl⟩
  rw [e101] at hQ101
  obtain ⟨rfl, N101q, eq101⟩ := hQ101
  rw [eq101] at e101
  have N101 : Fr n0 L101 := by rw [l101]; exact Fr.app N0 N101q
  obtain ⟨_, _, ⟨T102, L102, k102, n102⟩, -, X102, ⟨Lc102, hQ102, l102, y102, z102⟩, st102⟩ := Jvm.LawKit.callS X101 hx (y := y27_) hown0 (mvT hZ0 (wi hw 93 rfl)) (mvT hZ0 (wi hw 94 rfl)) (mvT hZ0 (wi hw 4 rfl)) (mvT hZ0 (wi hw 95 rfl)) (by decide) (backOf (W := 0) (rm_scbe l Z a0 hw [] st (st + ln) (4 : Int32) fo h0 n0 (by omega) hfo (own_b1 hcm) (own_b2 hcm) (own_b3 hcm) OL S_SIOOBE_FORMATTER) hZ0 (wi hw 95 rfl) (wi hw 4 rfl) (by decide) (by decide)) (g := (mkF mM 8 (Lc_sub_u1_1 t st ln) [(.int (4 : Int32)), (.int (st + ln)), (.int st)])) rfl (by rw [hml]; rfl) (argsL := [(.int st), (.int (st + ln)), (.int (4 : Int32))]) (rest := []) (lenOf pd_13 rfl) rfl (by show 2 * 0 + _ ≤ _; exact Nat.le_of_eq rfl) (hb hby d42_92_8) (fun _ _ => ⟨rfl, e101, ble rfl, ble rfl⟩)
  dsimp only [Pt.U, Pt.locs, Pt.cells, Pt.slots] at X102 l102 y102 z102 st102 hQ102
  subst y102 z102
  obtain ⟨h102, e102⟩ : ∃ z, T102.heap = z := ⟨_, rfl⟩
  rw [e102] at hQ102
  obtain ⟨rfl, N102q, eq102⟩ := hQ102
  rw [eq102] at e102
  have N102 : Fr n0 L102 := by rw [l102]; exact Fr.app N101 N102q
  obtain ⟨cq103, kq103, q103a, q103b, q103c⟩ := isOf hZ0 e102 E_t
  obtain ⟨_, _, ⟨T103, L103, k103, n103⟩, -, X103, ⟨Lc103, hQ103, l103, y103, z103⟩, st103⟩ := X102.virtualBack hx (y := y13_) (z := y13_) hown0 (mvT hZ0 (wi hw 101 rfl)) (mvT hZ0 (wi hw 102 rfl)) (notFace_of_selects (args := #[]) (mvT hZ0 (wi hw 104 rfl))) (mvT hZ0 (wi hw 104 rfl)) (mvT hZ0 (wi hw 103 rfl)) (by decide) (backOf (W := 0) (rm_isl1 l Z a0 hw [] t cs h0 n0 (by omega) F_coder_t OL S_COMPACT_STRINGS hcs) hZ0 (wi hw 105 rfl) (wi hw 4 rfl) (by decide) (by decide)) q103a q103c (g := (mkF mM 28 (Lc_sub_u1_2 t st ln) [(.ref t)])) rfl (by rw [hml]; rfl) (Steps.refl _) (argsL := []) (rest := []) (lenOf pd_15 rfl) rfl (by show 2 * 0 + _ ≤ _; exact Nat.le_of_eq rfl) (hb hby d42_92_28) (fun _ _ => ⟨rfl, e102, ble rfl, ble rfl⟩)
  dsimp only [Pt.U, Pt.locs, Pt.cells, Pt.slots] at X103 l103 y103 z103 st103 hQ103
  subst y103 z103
  obtain ⟨h103, e103⟩ : ∃ z, T103.heap = z := ⟨_, rfl⟩
  rw [e103] at hQ103
  obtain ⟨rfl, N103q, eq103⟩ := hQ103
  rw [eq103] at e103
  have N103 : Fr n0 L103 := by rw [l103]; exact Fr.app N102 N103q
  obtain ⟨T104, X104, e104, st104⟩ := getF X103 hx hZ0 hown0 (host := "") (Or.inl (wi hw 29 rfl)) Via.refl e103 F_value_t (g := (mkF mM 48 (Lc_sub_u1_2 t st ln) [(.ref t)])) rfl rfl (hb hby d42_92_48)
  obtain ⟨_, _, ⟨T105, L105, k105, n105⟩, -, X105, hs105, hg105, ⟨Lc105, hQ105, l105, y105, z105, Ch105⟩, st105⟩ := callSS X104 hx (y := y25_) hown0 (mvT hZ0 (wi hw 143 rfl)) (mvT hZ0 (wi hw 144 rfl)) (mvT hZ0 (wi hw 18 rfl)) (mvT hZ0 (wi hw 145 rfl)) (by decide) (backCH (W := 0) (rm_nu l Z a0 hw [] a1 k1 c0 c1 c2 c3 fo cs st ln h0 n0 (by omega) V_a1 f0 f1 f2 f3 OL S__assertionsDisabled S_HI_BYTE_SHIFT S_LO_BYTE_SHIFT hfo S_SIOOBE_FORMATTER S_COMPACT_STRINGS hcs (own_cm1a hcm hc12)) hZ0 (wi hw 145 rfl) (wi hw 18 rfl) (by decide) (by decide) (own_EW hw) CC0.1 cs0 (fun _ _ _ _ _ _ _ _ _ => trivial)) (g := (mkF mM 54 (Lc_sub_u1_2 t st ln) [(.int ln), (.int st), (.ref a1)])) rfl (by rw [hml]; rfl) (argsL := [(.ref a1), (.int st), (.int ln)]) (rest := []) (lenOf pd_16 rfl) rfl (by show 2 * 0 + _ ≤ _; exact Nat.le_of_eq rfl) (hb hby d42_92_54) (fun _ _ => ⟨rfl, e104, ble rfl, ble rfl⟩)
  dsimp only [Pt.U, Pt.locs, Pt.cells, Pt.slots] at X105 l105 y105 z105 st105 hQ105 hs105 hg105 Ch105
  subst y105 z105
  obtain ⟨X105', hS105, hZ105, hown105⟩ := rebS hS0 (by rw [e104]; omega) X105 hs105 hg105 hZ0 hown0
  obtain ⟨h105, e105⟩ : ∃ z, T105.heap = z := ⟨_, rfl⟩
  rw [e105] at hQ105 hS105 Ch105
  obtain ⟨r_105, rb_105, rk_105, rz_105, rvs_105, rco_105, rfl, N105q, Kp105, p105_E_r, p105_F_value_r, p105_F_coder_r, p105_V_rb, p105_hcb, p105_con⟩ := hQ105
  have Sz1 : h0.size ≤ h105.size := Kp105.1
  have CC1 : CHr Z consts_1 sS.vm h0 T105.vm h105 := CC0.trans Ch105
  have N105 : Fr n0 L105 := by rw [l105]; exact Fr.app N103 N105q
  have K106 : Keep h0 h105 [] := (Keep.refl h0 []).trans Kp105 all0
  obtain ⟨fs, hr, hrun, hended, hE⟩ := Stand.leaveW (s := sS) X105' hS105 (by rw [e105]; omega) (v := some (.ref r_105)) (fun h => by rw [Bd.returns] at h; cases h)
  refine ⟨_, _, castTop (ef_sub_u1 mM t a1 k1 c0 c1 c2 c3 fo cs st ln) ?_, hrun, hended, _, _, rfl, ?_, ?_, hE.1, hE.2.1, hE.2.2.1, hE.2.2.2.mono (by decide) (by decide)⟩
  · show SS pP eE bS s₁ (mkF mM 0 (Lc_sub_u1_0 t st ln) []) _
    refine XS.aloadN X0.here hx rfl (hb hby d42_92_0) rfl rfl ?_
    show SS pP eE bS s₁ (mkF mM 1 (Lc_sub_u1_0 t st ln) [(.ref t)]) _
    refine st101.trans ?_
    show SS pP eE bS T101 (mkF mM 4 (Lc_sub_u1_0 t st ln) [(.int (4 : Int32))]) _
    refine XS.istoreN X101.here hx rfl (hb hby d42_92_4) rfl (l' := (Lc_sub_u1_1 t st ln)) rfl ?_
    refine XS.iloadN X101.here hx rfl (hb hby d42_92_5) rfl ?_
    refine XS.iloadN X101.here hx rfl (hb hby d42_92_6) rfl ?_
    refine XS.iloadN X101.here hx rfl (hb hby d42_92_7) rfl ?_
    show SS pP eE bS T101 (mkF mM 8 (Lc_sub_u1_1 t st ln) [(.int (4 : Int32)), (.int (st + ln)), (.int st)]) _
    refine st102 _ ?_
    show SS pP eE bS T102 (mkF mM 11 (Lc_sub_u1_1 t st ln) []) _
    refine XS.iloadN X102.here hx rfl (hb hby d42_92_11) rfl ?_
    refine XS.ifYes X102.here hx rfl (pc0 := 12) (pc' := 22) rfl (hb hby d42_92_12) rfl ((if0 _ _).trans (feq hc12).2) (by decide) (by decide) ?_
    refine XS.iloadN X102.here hx rfl (hb hby d42_92_22) rfl ?_
    refine XS.iloadN X102.here hx rfl (hb hby d42_92_23) rfl ?_
    show SS pP eE bS T102 (mkF mM 24 (Lc_sub_u1_1 t st ln) [(.int st), (.int (st + ln))]) _
    refine XS.isub X102.here hx rfl (hb hby d42_92_24) rfl ?_
    show SS pP eE bS T102 (mkF mM 25 (Lc_sub_u1_1 t st ln) [(.int ((st + ln) - st))]) _
    rw [show ((st + ln) - st) = ln from own_asub st ln]
    refine XS.istore X102.here hx rfl (hb hby d42_92_25) rfl (l' := (Lc_sub_u1_2 t st ln)) rfl ?_
    refine XS.aloadN X102.here hx rfl (hb hby d42_92_27) rfl rfl ?_
    show SS pP eE bS T102 (mkF mM 28 (Lc_sub_u1_2 t st ln) [(.ref t)]) _
    refine st103.trans ?_
    show SS pP eE bS T103 (mkF mM 31 (Lc_sub_u1_2 t st ln) [(.int (0 : Int32))]) _
    refine XS.ifYes X103.here hx rfl (pc0 := 31) (pc' := 47) rfl (hb hby d42_92_31) rfl ((if0 _ _).trans (teq (by decide : (0 : Int32) = (0 : Int32))).1) (by decide) (by decide) ?_
    refine XS.aloadN X103.here hx rfl (hb hby d42_92_47) rfl rfl ?_
    show SS pP eE bS T103 (mkF mM 48 (Lc_sub_u1_2 t st ln) [(.ref t)]) _
    refine st104 _ ?_
    show SS pP eE bS T104 (mkF mM 51 (Lc_sub_u1_2 t st ln) [(.ref a1)]) _
    refine XS.iloadN X104.here hx rfl (hb hby d42_92_51) rfl ?_
    refine XS.iload X104.here hx rfl (hb hby d42_92_52) rfl ?_
    show SS pP eE bS T104 (mkF mM 54 (Lc_sub_u1_2 t st ln) [(.int ln), (.int st), (.ref a1)]) _
    refine st105.trans ?_
    show SS pP eE bS T105 (mkF mM 57 (Lc_sub_u1_2 t st ln) [(.ref r_105)]) _
    jvm_step X105'.here [X105'.here.top, hx, (hb hby d42_92_57), X105'.method', Bd.returns, Value.isRef, FieldType.isReference]
    first | (intro acts; rw [hr _ acts rfl rfl rfl]) | rw [hr _ _ rfl rfl rfl]
    exact Steps.refl _
  · show Q_ns Z c0 c1 c2 c3 st ln h0 n0 _ T105.heap _
    rw [e105]
    exact ⟨r_105, rb_105, rk_105, rz_105, rvs_105, rco_105, rfl, N105, K106, p105_E_r, p105_F_value_r, p105_F_coder_r, p105_V_rb, (p105_hcb), (p105_con)⟩
  · show CHr Z consts_1 sS.vm sS.heap T105.vm T105.heap
    rw [hh, e105]
    exact CC1.trans (CHv.at X105' hZ105 (own_EW hw) CC1.1)
abbrev Lc_sub_u2_0 (t : Addr) (st : Int32) (ln : Int32) : Array Slot := #[.val (.ref t), .val (.int st), .val (.int (st + ln)), .unset, .unset]
abbrev Lc_sub_u2_1 (t : Addr) (st : Int32) (ln : Int32) : Array Slot := #[.val (.ref t), .val (.int st), .val (.int (st + ln)), .val (.int (4 : Int32)), .unset]
abbrev Lc_sub_u2_2 (t : Addr) (st : Int32) (ln : Int32) : Array Slot := #[.val (.ref t), .val (.int st), .val (.int (st + ln)), .val (.int (4 : Int32)), .val (.int ln)]
theorem ef_sub_u2 (mM : MethodId) (t : Addr) (a1 : Addr) (k1 : ClassId) (c0 : Int32) (c1 : Int32) (c2 : Int32) (c3 : Int32) (fo : Value) (cs : Int32) (st : Int32) (ln : Int32) : entryFrame mM #[(.ref t), (.int st), (.int (st + ln))] 5 = mkF mM 0 #[.val (.ref t), .val (.int st), .val (.int (st + ln)), .unset, .unset] [] := by
  first | (simp [entryFrame, mkF, argsToLocals, Value.category]; done) | rfl
theorem rm_sub_u2 (l : Launch) (Z : State) (a0 : Array Value) (hw : HW a0 Z) (ws : List Jvm.Cond) (t : Addr) (a1 : Addr) (k1 : ClassId) (c0 : Int32) (c1 : Int32) (c2 : Int32) (c3 : Int32) (fo : Value) (cs : Int32) (st : Int32) (ln : Int32) (h0 : Heap) (n0 : Nat) (Z0 : n0 ≤ h0.size) (E_t : Exa Z h0 t "java/lang/String") (F_value_t : Fld Z h0 t "java/lang/String" "value" "[B" (.ref a1)) (F_coder_t : Fld Z h0 t "java/lang/String" "coder" "B" (.int (1 : Int32))) (V_a1 : Arv Z h0 a1 k1 .byte (8 : Int32) [(.int c0.toInt8.toInt32), (.int (c0 >>> ((8 : Int32) &&& 31)).toInt8.toInt32), (.int c1.toInt8.toInt32), (.int (c1 >>> ((8 : Int32) &&& 31)).toInt8.toInt32), (.int c2.toInt8.toInt32), (.int (c2 >>> ((8 : Int32) &&& 31)).toInt8.toInt32), (.int c3.toInt8.toInt32), (.int (c3 >>> ((8 : Int32) &&& 31)).toInt8.toInt32)] (.int (0 : Int32))) (hcm : Combo st ln) (f0 : Ch c0) (f1 : Ch c1) (f2 : Ch c2) (f3 : Ch c3) (OL : Old Z n0 h0) (S__assertionsDisabled : Sta Z Z.heap "java/lang/StringUTF16" "$assertionsDisabled" "Z" (.int (1 : Int32))) (S_HI_BYTE_SHIFT : Sta Z Z.heap "java/lang/StringUTF16" "HI_BYTE_SHIFT" "I" (.int (0 : Int32))) (S_LO_BYTE_SHIFT : Sta Z Z.heap "java/lang/StringUTF16" "LO_BYTE_SHIFT" "I" (.int (8 : Int32))) (hfo : (fo).isRef = true) (S_SIOOBE_FORMATTER : Sta Z Z.heap "jdk/internal/util/Preconditions" "SIOOBE_FORMATTER" "Ljava/util/function/BiFunction;" fo) (S_COMPACT_STRINGS : Sta Z Z.heap "java/lang/String" "COMPACT_STRINGS" "Z" (.int cs)) (hcs : ¬ (cs = (0 : Int32))) (hc12 : st = (0 : Int32)) (hc17 : ¬ ((st + ln) = (4 : Int32))) :
    MetFree l y28_ (head1 (Jvm.Cond.code y28_ jdk_42_method_92_code 5 (some (.object "java/lang/String")) :: ws) r6_3_16_94) (fun xa xU => xa = #[(.ref t), (.int st), (.int (st + ln))] ∧ Z.Warmed39 xU.vm ∧ xU.heap = h0 ∧ CHv Z consts_1 xU.vm h0 ∧ ∀ x ∈ ([] : List Addr), Safe Z consts_1 xU.vm h0 x) (fun _ _ _ _ _ => True) (fun _ xU xo xU' => ∃ xv xL, xo = .returned xv ∧ Q_ns Z c0 c1 c2 c3 st ln h0 n0 xv xU'.heap xL ∧ CHr Z consts_1 xU.vm xU.heap xU'.vm xU'.heap ∧ ReturnedEndW xU xo xU' xL r6_3_16_94.cells r6_3_16_94.slots) := by
  refine MetFree.of_bodySF (plainFor_of_name pn_java_lang_String) hisR ?_
  intro pP eE sS mM argS bS methS cC s₁ Bd hml0 hP hK
  obtain ⟨rfl, hZ, hh, hCH, hSf⟩ := hP
  have hx := Bd.exec
  have hby := Bd.bytes
  have hml : cC.maxLocals = 5 := hml0
  have hown : sS.vm.findClass "java/lang/String" = some mM.cls := findClass_of_methodNamed Bd.named
  have hnm := (name_of_methodNamed Bd.named Bd.method).1
  have X0 : Stand pP l eE r6_3_16_94 (sS.setVm sS.vm) mM #[(.ref t), (.int st), (.int (st + ln))] bS methS cC s₁ [] 0 0 := Stand.of_body Bd
  have e0 : s₁.heap = h0 := by rw [← hh, Bd.state]; rfl
  have N0 := Fr.nil n0
  have hZ0 : Z.Warmed39 (sS.setVm sS.vm).vm := hZ
  have hown0 : (sS.setVm sS.vm).vm.findClass "java/lang/String" = some mM.cls := hown
  have hS0 : sS.Since sS.vm 0 := (State.WarmedH.refl sS).since 0
  have CC0 : CHr Z consts_1 sS.vm h0 sS.vm h0 := CHr.refl hCH
  obtain ⟨cq101, kq101, q101a, q101b, q101c⟩ := isOf hZ0 e0 E_t
  obtain ⟨_, _, ⟨T101, L101, k101, n101⟩, -, X101, ⟨Lc101, hQ101, l101, y101, z101⟩, st101⟩ := X0.virtualBack hx (y := y12_) (z := y12_) hown0 (mvT hZ0 (wi hw 92 rfl)) (mvT hZ0 (wi hw 48 rfl)) (notFace_of_selects (args := #[]) (mvT hZ0 (wi hw 50 rfl))) (mvT hZ0 (wi hw 50 rfl)) (mvT hZ0 (wi hw 49 rfl)) (by decide) (backOf (W := 0) (rm_length l Z a0 hw [] t a1 k1 (8 : Int32) _ (1 : Int32) (4 : Int32) cs h0 n0 (by omega) E_t F_value_t F_coder_t V_a1 (by decide) (by decide) OL S_COMPACT_STRINGS hcs) hZ0 (wi hw 51 rfl) (wi hw 4 rfl) (by decide) (by decide)) q101a q101c (g := (mkF mM 1 (Lc_sub_u2_0 t st ln) [(.ref t)])) rfl (by rw [hml]; rfl) (Steps.refl _) (argsL := []) (rest := []) (lenOf pd_7 rfl) rfl (by show 2 * 0 + _ ≤ _; exact Nat.le_of_eq rfl) (hb hby d42_92_1) (fun _ _ => ⟨rfl, e0, ble rfl, ble rfl⟩)
  dsimp only [Pt.U, Pt.locs, Pt.cells, Pt.slots] at X101 l101 y101 z101 st101 hQ101
  subst y101 z101
  obtain ⟨h101, e101⟩ : ∃ z, T101.heap = z := ⟨_, rfl⟩
  rw [e101] at hQ101
  obtain ⟨rfl, N101q, eq101⟩ := hQ101
  rw [eq101] at e101
  have N101 : Fr n0 L101 := by rw [l101]; exact Fr.app N0 N101q
  obtain ⟨_, _, ⟨T102, L102, k102, n102⟩, -, X102, ⟨Lc102, hQ102, l102, y102, z102⟩, st102⟩ := Jvm.LawKit.callS X101 hx (y := y27_) hown0 (mvT hZ0 (wi hw 93 rfl)) (mvT hZ0 (wi hw 94 rfl)) (mvT hZ0 (wi hw 4 rfl)) (mvT hZ0 (wi hw 95 rfl)) (by decide) (backOf (W := 0) (rm_scbe l Z a0 hw [] st (st + ln) (4 : Int32) fo h0 n0 (by omega) hfo (own_b1 hcm) (own_b2 hcm) (own_b3 hcm) OL S_SIOOBE_FORMATTER) hZ0 (wi hw 95 rfl) (wi hw 4 rfl) (by decide) (by decide)) (g := (mkF mM 8 (Lc_sub_u2_1 t st ln) [(.int (4 : Int32)), (.int (st + ln)), (.int st)])) rfl (by rw [hml]; rfl) (argsL := [(.int st), (.int (st + ln)), (.int (4 : Int32))]) (rest := []) (lenOf pd_13 rfl) rfl (by show 2 * 0 + _ ≤ _; exact Nat.le_of_eq rfl) (hb hby d42_92_8) (fun _ _ => ⟨rfl, e101, ble rfl, ble rfl⟩)
  dsimp only [Pt.U, Pt.locs, Pt.cells, Pt.slots] at X102 l102 y102 z102 st102 hQ102
  subst y102 z102
  obtain ⟨h102, e102⟩ : ∃ z, T102.heap = z := ⟨_, rfl⟩
  rw [e102] at hQ102
  obtain ⟨rfl, N102q, eq102⟩ := hQ102
  rw [eq102] at e102
  have N102 : Fr n0 L102 := by rw [l102]; exact Fr.app N101 N102q
  obtain ⟨cq103, kq103, q103a, q103b, q103c⟩ := isOf hZ0 e102 E_t
  obtain ⟨_, _, ⟨T103, L103, k103, n103⟩, -, X103, ⟨Lc103, hQ103, l103, y103, z103⟩, st103⟩ := X102.virtualBack hx (y := y13_) (z := y13_) hown0 (mvT hZ0 (wi hw 101 rfl)) (mvT hZ0 (wi hw 102 rfl)) (notFace_of_selects (args := #[]) (mvT hZ0 (wi hw 104 rfl))) (mvT hZ0 (wi hw 104 rfl)) (mvT hZ0 (wi hw 103 rfl)) (by decide) (backOf (W := 0) (rm_isl1 l Z a0 hw [] t cs h0 n0 (by omega) F_coder_t OL S_COMPACT_STRINGS hcs) hZ0 (wi hw 105 rfl) (wi hw 4 rfl) (by decide) (by decide)) q103a q103c (g := (mkF mM 28 (Lc_sub_u2_2 t st ln) [(.ref t)])) rfl (by rw [hml]; rfl) (Steps.refl _) (argsL := []) (rest := []) (lenOf pd_15 rfl) rfl (by show 2 * 0 + _ ≤ _; exact Nat.le_of_eq rfl) (hb hby d42_92_28) (fun _ _ => ⟨rfl, e102, ble rfl, ble rfl⟩)
  dsimp only [Pt.U, Pt.locs, Pt.cells, Pt.slots] at X103 l103 y103 z103 st103 hQ103
  subst y103 z103
  obtain ⟨h103, e103⟩ : ∃ z, T103.heap = z := ⟨_, rfl⟩
  rw [e103] at hQ103
  obtain ⟨rfl, N103q, eq103⟩ := hQ103
  rw [eq103] at e103
  have N103 : Fr n0 L103 := by rw [l103]; exact Fr.app N102 N103q
  obtain ⟨T104, X104, e104, st104⟩ := getF X103 hx hZ0 hown0 (host := "") (Or.inl (wi hw 29 rfl)) Via.refl e103 F_value_t (g := (mkF mM 48 (Lc_sub_u2_2 t st ln) [(.ref t)])) rfl rfl (hb hby d42_92_48)
  obtain ⟨_, _, ⟨T105, L105, k105, n105⟩, -, X105, hs105, hg105, ⟨Lc105, hQ105, l105, y105, z105, Ch105⟩, st105⟩ := callSS X104 hx (y := y25_) hown0 (mvT hZ0 (wi hw 143 rfl)) (mvT hZ0 (wi hw 144 rfl)) (mvT hZ0 (wi hw 18 rfl)) (mvT hZ0 (wi hw 145 rfl)) (by decide) (backCH (W := 0) (rm_nu l Z a0 hw [] a1 k1 c0 c1 c2 c3 fo cs st ln h0 n0 (by omega) V_a1 f0 f1 f2 f3 OL S__assertionsDisabled S_HI_BYTE_SHIFT S_LO_BYTE_SHIFT hfo S_SIOOBE_FORMATTER S_COMPACT_STRINGS hcs (own_cm1b hcm hc17)) hZ0 (wi hw 145 rfl) (wi hw 18 rfl) (by decide) (by decide) (own_EW hw) CC0.1 cs0 (fun _ _ _ _ _ _ _ _ _ => trivial)) (g := (mkF mM 54 (Lc_sub_u2_2 t st ln) [(.int ln), (.int st), (.ref a1)])) rfl (by rw [hml]; rfl) (argsL := [(.ref a1), (.int st), (.int ln)]) (rest := []) (lenOf pd_16 rfl) rfl (by show 2 * 0 + _ ≤ _; exact Nat.le_of_eq rfl) (hb hby d42_92_54) (fun _ _ => ⟨rfl, e104, ble rfl, ble rfl⟩)
  dsimp only [Pt.U, Pt.locs, Pt.cells, Pt.slots] at X105 l105 y105 z105 st105 hQ105 hs105 hg105 Ch105
  subst y105 z105
  obtain ⟨X105', hS105, hZ105, hown105⟩ := rebS hS0 (by rw [e104]; omega) X105 hs105 hg105 hZ0 hown0
  obtain ⟨h105, e105⟩ : ∃ z, T105.heap = z := ⟨_, rfl⟩
  rw [e105] at hQ105 hS105 Ch105
  obtain ⟨r_105, rb_105, rk_105, rz_105, rvs_105, rco_105, rfl, N105q, Kp105, p105_E_r, p105_F_value_r, p105_F_coder_r, p105_V_rb, p105_hcb, p105_con⟩ := hQ105
  have Sz1 : h0.size ≤ h105.size := Kp105.1
  have CC1 : CHr Z consts_1 sS.vm h0 T105.vm h105 := CC0.trans Ch105
  have N105 : Fr n0 L105 := by rw [l105]; exact Fr.app N103 N105q
  have K106 : Keep h0 h105 [] := (Keep.refl h0 []).trans Kp105 all0
  obtain ⟨fs, hr, hrun, hended, hE⟩ := Stand.leaveW (s := sS) X105' hS105 (by rw [e105]; omega) (v := some (.ref r_105)) (fun h => by rw [Bd.returns] at h; cases h)
  refine ⟨_, _, castTop (ef_sub_u2 mM t a1 k1 c0 c1 c2 c3 fo cs st ln) ?_, hrun, hended, _, _, rfl, ?_, ?_, hE.1, hE.2.1, hE.2.2.1, hE.2.2.2.mono (by decide) (by decide)⟩
  · show SS pP eE bS s₁ (mkF mM 0 (Lc_sub_u2_0 t st ln) []) _
    refine XS.aloadN X0.here hx rfl (hb hby d42_92_0) rfl rfl ?_
    show SS pP eE bS s₁ (mkF mM 1 (Lc_sub_u2_0 t st ln) [(.ref t)]) _
    refine st101.trans ?_
    show SS pP eE bS T101 (mkF mM 4 (Lc_sub_u2_0 t st ln) [(.int (4 : Int32))]) _
    refine XS.istoreN X101.here hx rfl (hb hby d42_92_4) rfl (l' := (Lc_sub_u2_1 t st ln)) rfl ?_
    refine XS.iloadN X101.here hx rfl (hb hby d42_92_5) rfl ?_
    refine XS.iloadN X101.here hx rfl (hb hby d42_92_6) rfl ?_
    refine XS.iloadN X101.here hx rfl (hb hby d42_92_7) rfl ?_
    show SS pP eE bS T101 (mkF mM 8 (Lc_sub_u2_1 t st ln) [(.int (4 : Int32)), (.int (st + ln)), (.int st)]) _
    refine st102 _ ?_
    show SS pP eE bS T102 (mkF mM 11 (Lc_sub_u2_1 t st ln) []) _
    refine XS.iloadN X102.here hx rfl (hb hby d42_92_11) rfl ?_
    refine XS.ifNo X102.here hx rfl (hb hby d42_92_12) rfl ((if0 _ _).trans (teq hc12).2) ?_
    refine XS.iloadN X102.here hx rfl (hb hby d42_92_15) rfl ?_
    refine XS.iloadN X102.here hx rfl (hb hby d42_92_16) rfl ?_
    show SS pP eE bS T102 (mkF mM 17 (Lc_sub_u2_1 t st ln) [(.int (4 : Int32)), (.int (st + ln))]) _
    refine XS.icmpYes X102.here hx rfl (pc0 := 17) (pc' := 22) rfl (hb hby d42_92_17) rfl (feq hc17).2 (by decide) (by decide) ?_
    refine XS.iloadN X102.here hx rfl (hb hby d42_92_22) rfl ?_
    refine XS.iloadN X102.here hx rfl (hb hby d42_92_23) rfl ?_
    refine XS.isub X102.here hx rfl (hb hby d42_92_24) rfl ?_
    show SS pP eE bS T102 (mkF mM 25 (Lc_sub_u2_1 t st ln) [(.int ((st + ln) - st))]) _
    rw [show ((st + ln) - st) = ln from own_asub st ln]
    refine XS.istore X102.here hx rfl (hb hby d42_92_25) rfl (l' := (Lc_sub_u2_2 t st ln)) rfl ?_
    refine XS.aloadN X102.here hx rfl (hb hby d42_92_27) rfl rfl ?_
    show SS pP eE bS T102 (mkF mM 28 (Lc_sub_u2_2 t st ln) [(.ref t)]) _
    refine st103.trans ?_
    show SS pP eE bS T103 (mkF mM 31 (Lc_sub_u2_2 t st ln) [(.int (0 : Int32))]) _
    refine XS.ifYes X103.here hx rfl (pc0 := 31) (pc' := 47) rfl (hb hby d42_92_31) rfl ((if0 _ _).trans (teq (by decide : (0 : Int32) = (0 : Int32))).1) (by decide) (by decide) ?_
    refine XS.aloadN X103.here hx rfl (hb hby d42_92_47) rfl rfl ?_
    show SS pP eE bS T103 (mkF mM 48 (Lc_sub_u2_2 t st ln) [(.ref t)]) _
    refine st104 _ ?_
    show SS pP eE bS T104 (mkF mM 51 (Lc_sub_u2_2 t st ln) [(.ref a1)]) _
    refine XS.iloadN X104.here hx rfl (hb hby d42_92_51) rfl ?_
    refine XS.iload X104.here hx rfl (hb hby d42_92_52) rfl ?_
    show SS pP eE bS T104 (mkF mM 54 (Lc_sub_u2_2 t st ln) [(.int ln), (.int st), (.ref a1)]) _
    refine st105.trans ?_
    show SS pP eE bS T105 (mkF mM 57 (Lc_sub_u2_2 t st ln) [(.ref r_105)]) _
    jvm_step X105'.here [X105'.here.top, hx, (hb hby d42_92_57), X105'.method', Bd.returns, Value.isRef, FieldType.isReference]
    first | (intro acts; rw [hr _ acts rfl rfl rfl]) | rw [hr _ _ rfl rfl rfl]
    exact Steps.refl _
  · show Q_ns Z c0 c1 c2 c3 st ln h0 n0 _ T105.heap _
    rw [e105]
    exact ⟨r_105, rb_105, rk_105, rz_105, rvs_105, rco_105, rfl, N105, K106, p105_E_r, p105_F_value_r, p105_F_coder_r, p105_V_rb, (p105_hcb), (p105_con)⟩
  · show CHr Z consts_1 sS.vm sS.heap T105.vm T105.heap
    rw [hh, e105]
    exact CC1.trans (CHv.at X105' hZ105 (own_EW hw) CC1.1)
theorem rm_sub (l : Launch) (Z : State) (a0 : Array Value) (hw : HW a0 Z) (ws : List Jvm.Cond) (t : Addr) (a1 : Addr) (k1 : ClassId) (z : Int32) (vs : List Value) (co : Int32) (c0 : Int32) (c1 : Int32) (c2 : Int32) (c3 : Int32) (fo : Value) (cs : Int32) (st : Int32) (ln : Int32) (h0 : Heap) (n0 : Nat) (Z0 : n0 ≤ h0.size) (E_t : Exa Z h0 t "java/lang/String") (F_value_t : Fld Z h0 t "java/lang/String" "value" "[B" (.ref a1)) (F_coder_t : Fld Z h0 t "java/lang/String" "coder" "B" (.int co)) (V_a1 : Arv Z h0 a1 k1 .byte z vs (.int (0 : Int32))) (hcb : co.toInt8.toInt32 = co) (con : StrC co z vs [c0, c1, c2, c3]) (hcm : Combo st ln) (f0 : Ch c0) (f1 : Ch c1) (f2 : Ch c2) (f3 : Ch c3) (OL : Old Z n0 h0) (S__assertionsDisabled : Sta Z Z.heap "java/lang/StringUTF16" "$assertionsDisabled" "Z" (.int (1 : Int32))) (S_HI_BYTE_SHIFT : Sta Z Z.heap "java/lang/StringUTF16" "HI_BYTE_SHIFT" "I" (.int (0 : Int32))) (S_LO_BYTE_SHIFT : Sta Z Z.heap "java/lang/StringUTF16" "LO_BYTE_SHIFT" "I" (.int (8 : Int32))) (hfo : (fo).isRef = true) (S_SIOOBE_FORMATTER : Sta Z Z.heap "jdk/internal/util/Preconditions" "SIOOBE_FORMATTER" "Ljava/util/function/BiFunction;" fo) (S_COMPACT_STRINGS : Sta Z Z.heap "java/lang/String" "COMPACT_STRINGS" "Z" (.int cs)) (hcs : ¬ (cs = (0 : Int32))) :
    MetFree l y28_ (head1 (Jvm.Cond.code y28_ jdk_42_method_92_code 5 (some (.object "java/lang/String")) :: ws) r6_3_16_94) (fun xa xU => xa = #[(.ref t), (.int st), (.int (st + ln))] ∧ Z.Warmed39 xU.vm ∧ xU.heap = h0 ∧ CHv Z consts_1 xU.vm h0 ∧ ∀ x ∈ ([] : List Addr), Safe Z consts_1 xU.vm h0 x) (fun _ _ _ _ _ => True) (fun _ xU xo xU' => ∃ xv xL, xo = .returned xv ∧ Q_ns Z c0 c1 c2 c3 st ln h0 n0 xv xU'.heap xL ∧ CHr Z consts_1 xU.vm xU.heap xU'.vm xU'.heap ∧ ReturnedEndW xU xo xU' xL r6_3_16_94.cells r6_3_16_94.slots) := by
  by_cases hs0 : st = (0 : Int32)
  · by_cases h4 : (st + ln) = (4 : Int32)
    · exact rm_sub_this l Z a0 hw ws t a1 k1 z vs co c0 c1 c2 c3 fo cs st ln h0 n0 Z0 E_t F_value_t F_coder_t V_a1 hcb (own_sh4 con) con hcm f0 f1 f2 f3 OL S__assertionsDisabled S_HI_BYTE_SHIFT S_LO_BYTE_SHIFT hfo S_SIOOBE_FORMATTER S_COMPACT_STRINGS hcs hs0 h4
    · rcases own_s4 con with ⟨rfl, rfl, rfl, l0, l1, l2, l3⟩ | ⟨rfl, rfl, rfl⟩
      · exact rm_sub_l2 l Z a0 hw ws t a1 k1 c0 c1 c2 c3 fo cs st ln h0 n0 Z0 E_t F_value_t F_coder_t V_a1 hcm l0 l1 l2 l3 f0 f1 f2 f3 OL S__assertionsDisabled S_HI_BYTE_SHIFT S_LO_BYTE_SHIFT hfo S_SIOOBE_FORMATTER S_COMPACT_STRINGS hcs hs0 h4
      · exact rm_sub_u2 l Z a0 hw ws t a1 k1 c0 c1 c2 c3 fo cs st ln h0 n0 Z0 E_t F_value_t F_coder_t V_a1 hcm f0 f1 f2 f3 OL S__assertionsDisabled S_HI_BYTE_SHIFT S_LO_BYTE_SHIFT hfo S_SIOOBE_FORMATTER S_COMPACT_STRINGS hcs hs0 h4
  · rcases own_s4 con with ⟨rfl, rfl, rfl, l0, l1, l2, l3⟩ | ⟨rfl, rfl, rfl⟩
    · exact rm_sub_l1 l Z a0 hw ws t a1 k1 c0 c1 c2 c3 fo cs st ln h0 n0 Z0 E_t F_value_t F_coder_t V_a1 hcm l0 l1 l2 l3 f0 f1 f2 f3 OL S__assertionsDisabled S_HI_BYTE_SHIFT S_LO_BYTE_SHIFT hfo S_SIOOBE_FORMATTER S_COMPACT_STRINGS hcs hs0
    · exact rm_sub_u1 l Z a0 hw ws t a1 k1 c0 c1 c2 c3 fo cs st ln h0 n0 Z0 E_t F_value_t F_coder_t V_a1 hcm f0 f1 f2 f3 OL S__assertionsDisabled S_HI_BYTE_SHIFT S_LO_BYTE_SHIFT hfo S_SIOOBE_FORMATTER S_COMPACT_STRINGS hcs hs0
-- MARK tos
abbrev c42_93 := jdk_42_method_93_code
theorem d42_93_0 : decode c42_93 0 = .ok (.aload_n 0, 1) := by decide +kernel
theorem d42_93_1 : decode c42_93 1 = .ok (.iload_n 1, 1) := by decide +kernel
theorem d42_93_2 : decode c42_93 2 = .ok (.iload_n 2, 1) := by decide +kernel
theorem d42_93_3 : decode c42_93 3 = .ok (.invokevirtual 681, 3) := by decide +kernel
theorem pd_12 : parseMethodDescriptor "(II)Ljava/lang/String;" = some ⟨[.int, .int], some (.object "java/lang/String")⟩ := by decide +kernel
theorem d42_93_6 : decode c42_93 6 = .ok (.areturn, 1) := by decide +kernel
abbrev r7_3_16_110 : Room := { frames := 7, cells := 3, slots := 16, locals := 110 }
abbrev y29_ : MethodName := ⟨"java/lang/String", "subSequence", "(II)Ljava/lang/CharSequence;"⟩
theorem ef_subseq (mM : MethodId) (t : Addr) (a1 : Addr) (k1 : ClassId) (z : Int32) (vs : List Value) (co : Int32) (c0 : Int32) (c1 : Int32) (c2 : Int32) (c3 : Int32) (fo : Value) (cs : Int32) (st : Int32) (ln : Int32) : entryFrame mM #[(.ref t), (.int st), (.int (st + ln))] 3 = mkF mM 0 #[.val (.ref t), .val (.int st), .val (.int (st + ln))] [] := by
  first | (simp [entryFrame, mkF, argsToLocals, Value.category]; done) | rfl
theorem rm_subseq (l : Launch) (Z : State) (a0 : Array Value) (hw : HW a0 Z) (ws : List Jvm.Cond) (t : Addr) (a1 : Addr) (k1 : ClassId) (z : Int32) (vs : List Value) (co : Int32) (c0 : Int32) (c1 : Int32) (c2 : Int32) (c3 : Int32) (fo : Value) (cs : Int32) (st : Int32) (ln : Int32) (h0 : Heap) (n0 : Nat) (Z0 : n0 ≤ h0.size) (E_t : Exa Z h0 t "java/lang/String") (F_value_t : Fld Z h0 t "java/lang/String" "value" "[B" (.ref a1)) (F_coder_t : Fld Z h0 t "java/lang/String" "coder" "B" (.int co)) (V_a1 : Arv Z h0 a1 k1 .byte z vs (.int (0 : Int32))) (hcb : co.toInt8.toInt32 = co) (con : StrC co z vs [c0, c1, c2, c3]) (hcm : Combo st ln) (f0 : Ch c0) (f1 : Ch c1) (f2 : Ch c2) (f3 : Ch c3) (OL : Old Z n0 h0) (S__assertionsDisabled : Sta Z Z.heap "java/lang/StringUTF16" "$assertionsDisabled" "Z" (.int (1 : Int32))) (S_HI_BYTE_SHIFT : Sta Z Z.heap "java/lang/StringUTF16" "HI_BYTE_SHIFT" "I" (.int (0 : Int32))) (S_LO_BYTE_SHIFT : Sta Z Z.heap "java/lang/StringUTF16" "LO_BYTE_SHIFT" "I" (.int (8 : Int32))) (hfo : (fo).isRef = true) (S_SIOOBE_FORMATTER : Sta Z Z.heap "jdk/internal/util/Preconditions" "SIOOBE_FORMATTER" "Ljava/util/function/BiFunction;" fo) (S_COMPACT_STRINGS : Sta Z Z.heap "java/lang/String" "COMPACT_STRINGS" "Z" (.int cs)) (hcs : ¬ (cs = (0 : Int32))) :
    MetFree l y29_ (head1 (Jvm.Cond.code y29_ jdk_42_method_93_code 3 (some (.object "java/lang/CharSequence")) :: ws) r7_3_16_110) (fun xa xU => xa = #[(.ref t), (.int st), (.int (st + ln))] ∧ Z.Warmed39 xU.vm ∧ xU.heap = h0 ∧ CHv Z consts_1 xU.vm h0 ∧ ∀ x ∈ ([] : List Addr), Safe Z consts_1 xU.vm h0 x) (fun _ _ _ _ _ => True) (fun _ xU xo xU' => ∃ xv xL, xo = .returned xv ∧ Q_ns Z c0 c1 c2 c3 st ln h0 n0 xv xU'.heap xL ∧ CHr Z consts_1 xU.vm xU.heap xU'.vm xU'.heap ∧ ReturnedEndW xU xo xU' xL r7_3_16_110.cells r7_3_16_110.slots) := by
  refine MetFree.of_bodySF (plainFor_of_name pn_java_lang_String) hisR ?_
  intro pP eE sS mM argS bS methS cC s₁ Bd hml0 hP hK
  obtain ⟨rfl, hZ, hh, hCH, hSf⟩ := hP
  have hx := Bd.exec
  have hby := Bd.bytes
  have hml : cC.maxLocals = 3 := hml0
  have hown : sS.vm.findClass "java/lang/String" = some mM.cls := findClass_of_methodNamed Bd.named
  have hnm := (name_of_methodNamed Bd.named Bd.method).1
  have X0 : Stand pP l eE r7_3_16_110 (sS.setVm sS.vm) mM #[(.ref t), (.int st), (.int (st + ln))] bS methS cC s₁ [] 0 0 := Stand.of_body Bd
  have e0 : s₁.heap = h0 := by rw [← hh, Bd.state]; rfl
  have N0 := Fr.nil n0
  have hZ0 : Z.Warmed39 (sS.setVm sS.vm).vm := hZ
  have hown0 : (sS.setVm sS.vm).vm.findClass "java/lang/String" = some mM.cls := hown
  have hS0 : sS.Since sS.vm 0 := (State.WarmedH.refl sS).since 0
  have CC0 : CHr Z consts_1 sS.vm h0 sS.vm h0 := CHr.refl hCH
  obtain ⟨cq101, kq101, q101a, q101b, q101c⟩ := isOf hZ0 e0 E_t
  obtain ⟨_, _, ⟨T101, L101, k101, n101⟩, -, X101, hs101, hg101, ⟨Lc101, hQ101, l101, y101, z101, Ch101⟩, st101⟩ := X0.virtualBackS hx (y := y28_) (z := y28_) hown0 (mvT hZ0 (wi hw 87 rfl)) (mvT hZ0 (wi hw 88 rfl)) (notFace_of_selects (args := #[]) (mvT hZ0 (wi hw 90 rfl))) (mvT hZ0 (wi hw 90 rfl)) (mvT hZ0 (wi hw 89 rfl)) (by decide) (backCH (W := 0) (rm_sub l Z a0 hw [] t a1 k1 z vs co c0 c1 c2 c3 fo cs st ln h0 n0 (by omega) E_t F_value_t F_coder_t V_a1 hcb con hcm f0 f1 f2 f3 OL S__assertionsDisabled S_HI_BYTE_SHIFT S_LO_BYTE_SHIFT hfo S_SIOOBE_FORMATTER S_COMPACT_STRINGS hcs) hZ0 (wi hw 91 rfl) (wi hw 4 rfl) (by decide) (by decide) (own_EW hw) CC0.1 cs0 (fun _ _ _ _ _ _ _ _ _ => trivial)) q101a q101c (g := (mkF mM 3 #[.val (.ref t), .val (.int st), .val (.int (st + ln))] [(.int (st + ln)), (.int st), (.ref t)])) rfl (by rw [hml]; rfl) (Steps.refl _) (argsL := [(.int st), (.int (st + ln))]) (rest := []) (lenOf pd_12 rfl) rfl (by show 2 * 0 + _ ≤ _; exact Nat.le_of_eq rfl) (hb hby d42_93_3) (fun _ _ => ⟨rfl, e0, ble rfl, ble rfl⟩)
  dsimp only [Pt.U, Pt.locs, Pt.cells, Pt.slots] at X101 l101 y101 z101 st101 hQ101 hs101 hg101 Ch101
  subst y101 z101
  obtain ⟨X101', hS101, hZ101, hown101⟩ := rebS hS0 (by rw [e0]; omega) X101 hs101 hg101 hZ0 hown0
  obtain ⟨h101, e101⟩ : ∃ z, T101.heap = z := ⟨_, rfl⟩
  rw [e101] at hQ101 hS101 Ch101
  obtain ⟨r_101, rb_101, rk_101, rz_101, rvs_101, rco_101, rfl, N101q, Kp101, p101_E_r, p101_F_value_r, p101_F_coder_r, p101_V_rb, p101_hcb, p101_con⟩ := hQ101
  have Sz1 : h0.size ≤ h101.size := Kp101.1
  have CC1 : CHr Z consts_1 sS.vm h0 T101.vm h101 := CC0.trans Ch101
  have N101 : Fr n0 L101 := by rw [l101]; exact Fr.app N0 N101q
  have K102 : Keep h0 h101 [] := (Keep.refl h0 []).trans Kp101 all0
  obtain ⟨fs, hr, hrun, hended, hE⟩ := Stand.leaveW (s := sS) X101' hS101 (by rw [e101]; omega) (v := some (.ref r_101)) (fun h => by rw [Bd.returns] at h; cases h)
  refine ⟨_, _, castTop (ef_subseq mM t a1 k1 z vs co c0 c1 c2 c3 fo cs st ln) ?_, hrun, hended, _, _, rfl, ?_, ?_, hE.1, hE.2.1, hE.2.2.1, hE.2.2.2.mono (by decide) (by decide)⟩
  · show SS pP eE bS s₁ (mkF mM 0 #[.val (.ref t), .val (.int st), .val (.int (st + ln))] []) _
    refine XS.aloadN X0.here hx rfl (hb hby d42_93_0) rfl rfl ?_
    refine XS.iloadN X0.here hx rfl (hb hby d42_93_1) rfl ?_
    refine XS.iloadN X0.here hx rfl (hb hby d42_93_2) rfl ?_
    show SS pP eE bS s₁ (mkF mM 3 #[.val (.ref t), .val (.int st), .val (.int (st + ln))] [(.int (st + ln)), (.int st), (.ref t)]) _
    refine st101.trans ?_
    show SS pP eE bS T101 (mkF mM 6 #[.val (.ref t), .val (.int st), .val (.int (st + ln))] [(.ref r_101)]) _
    jvm_step X101'.here [X101'.here.top, hx, (hb hby d42_93_6), X101'.method', Bd.returns, Value.isRef, FieldType.isReference]
    first | (intro acts; rw [hr _ acts rfl rfl rfl]) | rw [hr _ _ rfl rfl rfl]
    exact Steps.refl _
  · show Q_ns Z c0 c1 c2 c3 st ln h0 n0 _ T101.heap _
    rw [e101]
    exact ⟨r_101, rb_101, rk_101, rz_101, rvs_101, rco_101, rfl, N101, K102, p101_E_r, p101_F_value_r, p101_F_coder_r, p101_V_rb, (p101_hcb), (p101_con)⟩
  · show CHr Z consts_1 sS.vm sS.heap T101.vm T101.heap
    rw [hh, e101]
    exact CC1.trans (CHv.at X101' hZ101 (own_EW hw) CC1.1)
abbrev c42_126 := jdk_42_method_126_code
theorem d42_126_0 : decode c42_126 0 = .ok (.aload_n 0, 1) := by decide +kernel
theorem d42_126_1 : decode c42_126 1 = .ok (.areturn, 1) := by decide +kernel
abbrev y30_ : MethodName := ⟨"java/lang/String", "toString", "()Ljava/lang/String;"⟩
def Q_strts (Z : State) (t : Addr) (h0 : Heap) (n0 : Nat) (xv : Option Value) (xh : Heap) (xL : List Loc) : Prop := xv = some (.ref t) ∧ Fr n0 xL ∧ xh = h0
theorem ef_strts (mM : MethodId) (t : Addr) : entryFrame mM #[(.ref t)] 1 = mkF mM 0 #[.val (.ref t)] [] := by
  first | (simp [entryFrame, mkF, argsToLocals, Value.category]; done) | rfl
theorem rm_strts (l : Launch) (Z : State) (a0 : Array Value) (hw : HW a0 Z) (ws : List Jvm.Cond) (t : Addr) (h0 : Heap) (n0 : Nat) (Z0 : n0 ≤ h0.size) :
    MetFree l y30_ (head1 (Jvm.Cond.code y30_ jdk_42_method_126_code 1 (some (.object "java/lang/String")) :: ws) r0_0_0_0) (fun xa xU => xa = #[(.ref t)] ∧ Z.Warmed39 xU.vm ∧ xU.heap = h0) (fun _ _ _ _ _ => True) (fun _ xU xo xU' => ∃ xv xL, xo = .returned xv ∧ Q_strts Z t h0 n0 xv xU'.heap xL ∧ FrameEnd xU xo xU' xL r0_0_0_0.cells r0_0_0_0.slots) := by
  refine MetFree.of_bodySF (plainFor_of_name pn_java_lang_String) hisR ?_
  intro pP eE sS mM argS bS methS cC s₁ Bd hml0 hP hK
  obtain ⟨rfl, hZ, hh⟩ := hP
  have hx := Bd.exec
  have hby := Bd.bytes
  have hml : cC.maxLocals = 1 := hml0
  have hown : sS.vm.findClass "java/lang/String" = some mM.cls := findClass_of_methodNamed Bd.named
  have hnm := (name_of_methodNamed Bd.named Bd.method).1
  have X0 : Stand pP l eE r0_0_0_0 sS mM #[(.ref t)] bS methS cC s₁ [] 0 0 := Stand.of_body Bd
  have e0 : s₁.heap = h0 := by rw [← hh, Bd.state]; rfl
  have N0 := Fr.nil n0
  obtain ⟨fs, hr, hrun, hended, hW, hsame⟩ := X0.leave (v := some (.ref t)) (fun h => by rw [Bd.returns] at h; cases h)
  refine ⟨_, _, castTop (ef_strts mM t) ?_, hrun, hended, _, _, rfl, ?_, ⟨_, rfl⟩, hW, hsame.mono (by decide) (by decide)⟩
  · show SS pP eE bS s₁ (mkF mM 0 #[.val (.ref t)] []) _
    refine XS.aloadN X0.here hx rfl (hb hby d42_126_0) rfl rfl ?_
    show SS pP eE bS s₁ (mkF mM 1 #[.val (.ref t)] [(.ref t)]) _
    jvm_step X0.here [X0.here.top, hx, (hb hby d42_126_1), X0.method', Bd.returns, Value.isRef, FieldType.isReference]
    first | (intro acts; rw [hr _ acts rfl rfl rfl]) | rw [hr _ _ rfl rfl rfl]
    exact Steps.refl _
  · show Q_strts Z t h0 n0 _ s₁.heap _
    rw [e0]
    exact ⟨rfl, N0, rfl⟩
abbrev cp29_10 := prog_29_method_10_code
theorem dp29_10_0 : decode cp29_10 0 = .ok (.aload_n 0, 1) := by decide +kernel
theorem dp29_10_1 : decode cp29_10 1 = .ok (.getfield 14, 3) := by decide +kernel
theorem dp29_10_4 : decode cp29_10 4 = .ok (.aload_n 0, 1) := by decide +kernel
theorem dp29_10_5 : decode cp29_10 5 = .ok (.getfield 30, 3) := by decide +kernel
theorem dp29_10_8 : decode cp29_10 8 = .ok (.aload_n 0, 1) := by decide +kernel
theorem dp29_10_9 : decode cp29_10 9 = .ok (.getfield 30, 3) := by decide +kernel
theorem dp29_10_12 : decode cp29_10 12 = .ok (.aload_n 0, 1) := by decide +kernel
theorem dp29_10_13 : decode cp29_10 13 = .ok (.getfield 24, 3) := by decide +kernel
theorem dp29_10_16 : decode cp29_10 16 = .ok (.iadd, 1) := by decide +kernel
theorem dp29_10_17 : decode cp29_10 17 = .ok (.invokeinterface 53 3, 5) := by decide +kernel
theorem pd_11 : parseMethodDescriptor "(II)Ljava/lang/CharSequence;" = some ⟨[.int, .int], some (.object "java/lang/CharSequence")⟩ := by decide +kernel
abbrev y31_ : MethodName := ⟨"java/lang/CharSequence", "subSequence", "(II)Ljava/lang/CharSequence;"⟩
theorem dp29_10_22 : decode cp29_10 22 = .ok (.invokeinterface 57 1, 5) := by decide +kernel
theorem pd_10 : parseMethodDescriptor "()Ljava/lang/String;" = some ⟨[], some (.object "java/lang/String")⟩ := by decide +kernel
abbrev y32_ : MethodName := ⟨"java/lang/CharSequence", "toString", "()Ljava/lang/String;"⟩
theorem dp29_10_27 : decode cp29_10 27 = .ok (.areturn, 1) := by decide +kernel
abbrev r8_3_16_124 : Room := { frames := 8, cells := 3, slots := 16, locals := 124 }
abbrev y33_ : MethodName := ⟨"com/example/bufferwright/bufferwright/text/Word", "toString", "()Ljava/lang/String;"⟩
theorem pn_com_example_bufferwright_bufferwright_text_Word : plainName "com/example/bufferwright/bufferwright/text/Word" = true := by first | (simp [plainName, overriddenIn]; done) | decide +kernel
theorem ef_tos (mM : MethodId) (o : Addr) (t : Addr) (a1 : Addr) (k1 : ClassId) (z : Int32) (vs : List Value) (co : Int32) (c0 : Int32) (c1 : Int32) (c2 : Int32) (c3 : Int32) (fo : Value) (cs : Int32) (st : Int32) (ln : Int32) : entryFrame mM #[(.ref o)] 1 = mkF mM 0 #[.val (.ref o)] [] := by
  first | (simp [entryFrame, mkF, argsToLocals, Value.category]; done) | rfl
theorem rm_tos (l : Launch) (Z : State) (a0 : Array Value) (hw : HW a0 Z) (ws : List Jvm.Cond) (o : Addr) (t : Addr) (a1 : Addr) (k1 : ClassId) (z : Int32) (vs : List Value) (co : Int32) (c0 : Int32) (c1 : Int32) (c2 : Int32) (c3 : Int32) (fo : Value) (cs : Int32) (st : Int32) (ln : Int32) (h0 : Heap) (n0 : Nat) (Z0 : n0 ≤ h0.size) (E_o : Exa Z h0 o "com/example/bufferwright/bufferwright/text/Word") (F_chars_o : Fld Z h0 o "com/example/bufferwright/bufferwright/text/Word" "chars" "Ljava/lang/CharSequence;" (.ref t)) (F_start_o : Fld Z h0 o "com/example/bufferwright/bufferwright/text/Word" "start" "I" (.int st)) (F_length_o : Fld Z h0 o "com/example/bufferwright/bufferwright/text/Word" "length" "I" (.int ln)) (E_t : Exa Z h0 t "java/lang/String") (F_value_t : Fld Z h0 t "java/lang/String" "value" "[B" (.ref a1)) (F_coder_t : Fld Z h0 t "java/lang/String" "coder" "B" (.int co)) (V_a1 : Arv Z h0 a1 k1 .byte z vs (.int (0 : Int32))) (hcb : co.toInt8.toInt32 = co) (con : StrC co z vs [c0, c1, c2, c3]) (hcm : Combo st ln) (f0 : Ch c0) (f1 : Ch c1) (f2 : Ch c2) (f3 : Ch c3) (OL : Old Z n0 h0) (S__assertionsDisabled : Sta Z Z.heap "java/lang/StringUTF16" "$assertionsDisabled" "Z" (.int (1 : Int32))) (S_HI_BYTE_SHIFT : Sta Z Z.heap "java/lang/StringUTF16" "HI_BYTE_SHIFT" "I" (.int (0 : Int32))) (S_LO_BYTE_SHIFT : Sta Z Z.heap "java/lang/StringUTF16" "LO_BYTE_SHIFT" "I" (.int (8 : Int32))) (hfo : (fo).isRef = true) (S_SIOOBE_FORMATTER : Sta Z Z.heap "jdk/internal/util/Preconditions" "SIOOBE_FORMATTER" "Ljava/util/function/BiFunction;" fo) (S_COMPACT_STRINGS : Sta Z Z.heap "java/lang/String" "COMPACT_STRINGS" "Z" (.int cs)) (hcs : ¬ (cs = (0 : Int32))) :
    MetFree l y33_ (head1 (Jvm.Cond.code y33_ prog_29_method_10_code 1 (some (.object "java/lang/String")) :: ws) r8_3_16_124) (fun xa xU => xa = #[(.ref o)] ∧ Z.Warmed39 xU.vm ∧ xU.heap = h0 ∧ CHv Z consts_1 xU.vm h0 ∧ ∀ x ∈ ([] : List Addr), Safe Z consts_1 xU.vm h0 x) (fun _ _ _ _ _ => True) (fun _ xU xo xU' => ∃ xv xL, xo = .returned xv ∧ Q_ns Z c0 c1 c2 c3 st ln h0 n0 xv xU'.heap xL ∧ CHr Z consts_1 xU.vm xU.heap xU'.vm xU'.heap ∧ ReturnedEndW xU xo xU' xL r8_3_16_124.cells r8_3_16_124.slots) := by
  refine MetFree.of_bodySF (plainFor_of_name pn_com_example_bufferwright_bufferwright_text_Word) hisR ?_
  intro pP eE sS mM argS bS methS cC s₁ Bd hml0 hP hK
  obtain ⟨rfl, hZ, hh, hCH, hSf⟩ := hP
  have hx := Bd.exec
  have hby := Bd.bytes
  have hml : cC.maxLocals = 1 := hml0
  have hown : sS.vm.findClass "com/example/bufferwright/bufferwright/text/Word" = some mM.cls := findClass_of_methodNamed Bd.named
  have hnm := (name_of_methodNamed Bd.named Bd.method).1
  have X0 : Stand pP l eE r8_3_16_124 (sS.setVm sS.vm) mM #[(.ref o)] bS methS cC s₁ [] 0 0 := Stand.of_body Bd
  have e0 : s₁.heap = h0 := by rw [← hh, Bd.state]; rfl
  have N0 := Fr.nil n0
  have hZ0 : Z.Warmed39 (sS.setVm sS.vm).vm := hZ
  have hown0 : (sS.setVm sS.vm).vm.findClass "com/example/bufferwright/bufferwright/text/Word" = some mM.cls := hown
  have hS0 : sS.Since sS.vm 0 := (State.WarmedH.refl sS).since 0
  have CC0 : CHr Z consts_1 sS.vm h0 sS.vm h0 := CHr.refl hCH
  obtain ⟨T101, X101, e101, st101⟩ := getF X0 hx hZ0 hown0 (host := "") (Or.inl (wi hw 45 rfl)) Via.refl e0 F_chars_o (g := (mkF mM 1 #[.val (.ref o)] [(.ref o)])) rfl rfl (hb hby dp29_10_1)
  obtain ⟨T102, X102, e102, st102⟩ := getF X101 hx hZ0 hown0 (host := "") (Or.inl (wi hw 66 rfl)) Via.refl e101 F_start_o (g := (mkF mM 5 #[.val (.ref o)] [(.ref o), (.ref t)])) rfl rfl (hb hby dp29_10_5)
  obtain ⟨T103, X103, e103, st103⟩ := getF X102 hx hZ0 hown0 (host := "") (Or.inl (wi hw 66 rfl)) Via.refl e102 F_start_o (g := (mkF mM 9 #[.val (.ref o)] [(.ref o), (.int st), (.ref t)])) rfl rfl (hb hby dp29_10_9)
  obtain ⟨T104, X104, e104, st104⟩ := getF X103 hx hZ0 hown0 (host := "") (Or.inl (wi hw 57 rfl)) Via.refl e103 F_length_o (g := (mkF mM 13 #[.val (.ref o)] [(.ref o), (.int st), (.int st), (.ref t)])) rfl rfl (hb hby dp29_10_13)
  obtain ⟨cq105, kq105, q105a, q105b, q105c⟩ := isOf hZ0 e104 E_t
  obtain ⟨_, _, ⟨T105, L105, k105, n105⟩, -, X105, hs105, hg105, ⟨Lc105, hQ105, l105, y105, z105, Ch105⟩, st105⟩ := X104.interfaceBackS hx (xi := y31_) (y := y29_) hown0 (mvT hZ0 (wi hw 78 rfl)) (mvT hZ0 (wi hw 79 rfl)) (mvT hZ0 (wi hw 80 rfl)) (mvT hZ0 (wi hw 81 rfl)) (mvT hZ0 (wi hw 82 rfl)) (mvT hZ0 (wi hw 83 rfl)) (mvT hZ0 (wi hw 84 rfl)) (mvT hZ0 (wi hw 85 rfl)) (by decide) (backCH (W := 0) (rm_subseq l Z a0 hw [] t a1 k1 z vs co c0 c1 c2 c3 fo cs st ln h0 n0 (by omega) E_t F_value_t F_coder_t V_a1 hcb con hcm f0 f1 f2 f3 OL S__assertionsDisabled S_HI_BYTE_SHIFT S_LO_BYTE_SHIFT hfo S_SIOOBE_FORMATTER S_COMPACT_STRINGS hcs) hZ0 (wi hw 86 rfl) (wi hw 4 rfl) (by decide) (by decide) (own_EW hw) CC0.1 cs0 (fun _ _ _ _ _ _ _ _ _ => trivial)) q105a q105b q105c (g := (mkF mM 17 #[.val (.ref o)] [(.int (st + ln)), (.int st), (.ref t)])) rfl (by rw [hml]; rfl) (Steps.refl _) (argsL := [(.int st), (.int (st + ln))]) (rest := []) (lenOf pd_11 rfl) rfl (by show 2 * 0 + _ ≤ _; exact Nat.le_of_eq rfl) (hb hby dp29_10_17) (fun _ _ => ⟨rfl, e104, ble rfl, ble rfl⟩)
  dsimp only [Pt.U, Pt.locs, Pt.cells, Pt.slots] at X105 l105 y105 z105 st105 hQ105 hs105 hg105 Ch105
  subst y105 z105
  obtain ⟨X105', hS105, hZ105, hown105⟩ := rebS hS0 (by rw [e104]; omega) X105 hs105 hg105 hZ0 hown0
  obtain ⟨h105, e105⟩ : ∃ z, T105.heap = z := ⟨_, rfl⟩
  rw [e105] at hQ105 hS105 Ch105
  obtain ⟨r_105, rb_105, rk_105, rz_105, rvs_105, rco_105, rfl, N105q, Kp105, p105_E_r, p105_F_value_r, p105_F_coder_r, p105_V_rb, p105_hcb, p105_con⟩ := hQ105
  have Sz1 : h0.size ≤ h105.size := Kp105.1
  have CC1 : CHr Z consts_1 sS.vm h0 T105.vm h105 := CC0.trans Ch105
  have N105 : Fr n0 L105 := by rw [l105]; exact Fr.app N0 N105q
  obtain ⟨cq106, kq106, q106a, q106b, q106c⟩ := isOf hZ105 e105 p105_E_r
  obtain ⟨_, _, ⟨T106, L106, k106, n106⟩, -, X106, ⟨Lc106, hQ106, l106, y106, z106⟩, st106⟩ := X105'.interfaceBack hx (xi := y32_) (y := y30_) hown105 (mvT hZ105 (wi hw 111 rfl)) (mvT hZ105 (wi hw 112 rfl)) (mvT hZ105 (wi hw 113 rfl)) (mvT hZ105 (wi hw 114 rfl)) (mvT hZ105 (wi hw 115 rfl)) (mvT hZ105 (wi hw 116 rfl)) (mvT hZ105 (wi hw 117 rfl)) (mvT hZ105 (wi hw 85 rfl)) (by decide) (backOf (W := 0) (rm_strts l Z a0 hw [] r_105 h105 n0 (by omega) ) hZ105 (wi hw 118 rfl) (wi hw 4 rfl) (by decide) (by decide)) q106a q106b q106c (g := (mkF mM 22 #[.val (.ref o)] [(.ref r_105)])) rfl (by rw [hml]; rfl) (Steps.refl _) (argsL := []) (rest := []) (lenOf pd_10 rfl) rfl (by show 2 * 0 + _ ≤ _; exact Nat.le_of_eq rfl) (hb hby dp29_10_22) (fun _ _ => ⟨rfl, e105, ble rfl, ble rfl⟩)
  dsimp only [Pt.U, Pt.locs, Pt.cells, Pt.slots] at X106 l106 y106 z106 st106 hQ106
  subst y106 z106
  obtain ⟨h106, e106⟩ : ∃ z, T106.heap = z := ⟨_, rfl⟩
  rw [e106] at hQ106
  obtain ⟨rfl, N106q, eq106⟩ := hQ106
  rw [eq106] at e106
  have N106 : Fr n0 L106 := by rw [l106]; exact Fr.app N105 N106q
  have K107 : Keep h0 h105 [] := (Keep.refl h0 []).trans Kp105 all0
  obtain ⟨fs, hr, hrun, hended, hE⟩ := Stand.leaveW (s := sS) X106 hS105 (by rw [e106]; omega) (v := some (.ref r_105)) (fun h => by rw [Bd.returns] at h; cases h)
  refine ⟨_, _, castTop (ef_tos mM o t a1 k1 z vs co c0 c1 c2 c3 fo cs st ln) ?_, hrun, hended, _, _, rfl, ?_, ?_, hE.1, hE.2.1, hE.2.2.1, hE.2.2.2.mono (by decide) (by decide)⟩
  · show SS pP eE bS s₁ (mkF mM 0 #[.val (.ref o)] []) _
    refine XS.aloadN X0.here hx rfl (hb hby dp29_10_0) rfl rfl ?_
    show SS pP eE bS s₁ (mkF mM 1 #[.val (.ref o)] [(.ref o)]) _
    refine st101 _ ?_
    show SS pP eE bS T101 (mkF mM 4 #[.val (.ref o)] [(.ref t)]) _
    refine XS.aloadN X101.here hx rfl (hb hby dp29_10_4) rfl rfl ?_
    show SS pP eE bS T101 (mkF mM 5 #[.val (.ref o)] [(.ref o), (.ref t)]) _
    refine st102 _ ?_
    show SS pP eE bS T102 (mkF mM 8 #[.val (.ref o)] [(.int st), (.ref t)]) _
    refine XS.aloadN X102.here hx rfl (hb hby dp29_10_8) rfl rfl ?_
    show SS pP eE bS T102 (mkF mM 9 #[.val (.ref o)] [(.ref o), (.int st), (.ref t)]) _
    refine st103 _ ?_
    show SS pP eE bS T103 (mkF mM 12 #[.val (.ref o)] [(.int st), (.int st), (.ref t)]) _
    refine XS.aloadN X103.here hx rfl (hb hby dp29_10_12) rfl rfl ?_
    show SS pP eE bS T103 (mkF mM 13 #[.val (.ref o)] [(.ref o), (.int st), (.int st), (.ref t)]) _
    refine st104 _ ?_
    show SS pP eE bS T104 (mkF mM 16 #[.val (.ref o)] [(.int ln), (.int st), (.int st), (.ref t)]) _
    refine XS.iadd X104.here hx rfl (hb hby dp29_10_16) rfl ?_
    show SS pP eE bS T104 (mkF mM 17 #[.val (.ref o)] [(.int (st + ln)), (.int st), (.ref t)]) _
    refine st105.trans ?_
    show SS pP eE bS T105 (mkF mM 22 #[.val (.ref o)] [(.ref r_105)]) _
    refine st106.trans ?_
    show SS pP eE bS T106 (mkF mM 27 #[.val (.ref o)] [(.ref r_105)]) _
    jvm_step X106.here [X106.here.top, hx, (hb hby dp29_10_27), X106.method', Bd.returns, Value.isRef, FieldType.isReference]
    first | (intro acts; rw [hr _ acts rfl rfl rfl]) | rw [hr _ _ rfl rfl rfl]
    exact Steps.refl _
  · show Q_ns Z c0 c1 c2 c3 st ln h0 n0 _ T106.heap _
    rw [e106]
    exact ⟨r_105, rb_105, rk_105, rz_105, rvs_105, rco_105, rfl, N106, K107, p105_E_r, p105_F_value_r, p105_F_coder_r, p105_V_rb, (p105_hcb), (p105_con)⟩
  · show CHr Z consts_1 sS.vm sS.heap T106.vm T106.heap
    rw [hh, e106]
    exact CC1.trans (CHv.at X106 hZ105 (own_EW hw) CC1.1)
-- MARK word
abbrev cp29_2 := prog_29_method_2_code
theorem dp29_2_0 : decode cp29_2 0 = .ok (.aload_n 0, 1) := by decide +kernel
theorem dp29_2_1 : decode cp29_2 1 = .ok (.invokespecial 9, 3) := by decide +kernel
theorem dp29_2_4 : decode cp29_2 4 = .ok (.aload_n 0, 1) := by decide +kernel
theorem dp29_2_5 : decode cp29_2 5 = .ok (.aload_n 1, 1) := by decide +kernel
theorem dp29_2_6 : decode cp29_2 6 = .ok (.putfield 14, 3) := by decide +kernel
theorem dp29_2_9 : decode cp29_2 9 = .ok (.aload_n 0, 1) := by decide +kernel
theorem dp29_2_10 : decode cp29_2 10 = .ok (.aload_n 1, 1) := by decide +kernel
theorem dp29_2_11 : decode cp29_2 11 = .ok (.invokevirtual 18, 3) := by decide +kernel
theorem dp29_2_14 : decode cp29_2 14 = .ok (.putfield 24, 3) := by decide +kernel
theorem dp29_2_17 : decode cp29_2 17 = .ok (.aload_n 0, 1) := by decide +kernel
theorem dp29_2_18 : decode cp29_2 18 = .ok (.iload_n 2, 1) := by decide +kernel
theorem dp29_2_19 : decode cp29_2 19 = .ok (.putfield 27, 3) := by decide +kernel
theorem dp29_2_22 : decode cp29_2 22 = .ok (.return_, 1) := by decide +kernel
abbrev r2_0_0_26 : Room := { frames := 2, cells := 0, slots := 0, locals := 26 }
abbrev y34_ : MethodName := ⟨"com/example/bufferwright/bufferwright/text/Word", "<init>", "(Ljava/lang/String;I)V"⟩
def Q_winit2 (Z : State) (o : Addr) (b : Addr) (d : Addr) (dk : ClassId) (x1 : Value) (x2 : Value) (x3 : Value) (x4 : Value) (cs : Int32) (h0 : Heap) (n0 : Nat) (xv : Option Value) (xh : Heap) (xL : List Loc) : Prop := xv = none ∧ Fr n0 xL ∧ Keep h0 xh [o] ∧ Exa Z xh o "com/example/bufferwright/bufferwright/text/Word" ∧ Fld Z xh o "com/example/bufferwright/bufferwright/text/Word" "chars" "Ljava/lang/CharSequence;" (.ref b) ∧ Fld Z xh o "com/example/bufferwright/bufferwright/text/Word" "start" "I" x2 ∧ Fld Z xh o "com/example/bufferwright/bufferwright/text/Word" "length" "I" (.int (0 : Int32)) ∧ Fld Z xh o "com/example/bufferwright/bufferwright/text/Word" "hash" "I" (.int (0 : Int32))
theorem ef_winit2 (mM : MethodId) (o : Addr) (b : Addr) (d : Addr) (dk : ClassId) (x1 : Value) (x2 : Value) (x3 : Value) (x4 : Value) (cs : Int32) : entryFrame mM #[(.ref o), (.ref b), (.int (0 : Int32))] 3 = mkF mM 0 #[.val (.ref o), .val (.ref b), .val (.int (0 : Int32))] [] := by
  first | (simp [entryFrame, mkF, argsToLocals, Value.category]; done) | rfl
theorem rm_winit2 (l : Launch) (Z : State) (a0 : Array Value) (hw : HW a0 Z) (ws : List Jvm.Cond) (o : Addr) (b : Addr) (d : Addr) (dk : ClassId) (x1 : Value) (x2 : Value) (x3 : Value) (x4 : Value) (cs : Int32) (h0 : Heap) (n0 : Nat) (Z0 : n0 ≤ h0.size) (E_o : Exa Z h0 o "com/example/bufferwright/bufferwright/text/Word") (F_chars_o : Fld Z h0 o "com/example/bufferwright/bufferwright/text/Word" "chars" "Ljava/lang/CharSequence;" x1) (F_start_o : Fld Z h0 o "com/example/bufferwright/bufferwright/text/Word" "start" "I" x2) (F_length_o : Fld Z h0 o "com/example/bufferwright/bufferwright/text/Word" "length" "I" x3) (F_hash_o : Fld Z h0 o "com/example/bufferwright/bufferwright/text/Word" "hash" "I" x4) (g_o : @LE.le Nat _ n0 o) (E_b : Exa Z h0 b "java/lang/String") (F_value_b : Fld Z h0 b "java/lang/String" "value" "[B" (.ref d)) (F_coder_b : Fld Z h0 b "java/lang/String" "coder" "B" (.int (0 : Int32))) (V_d : Arv Z h0 d dk .byte (0 : Int32) [] (.int (0 : Int32))) (ne_b_o : @Ne Nat b o) (ne_d_o : @Ne Nat d o) (OL : Old Z n0 h0) (S_COMPACT_STRINGS : Sta Z Z.heap "java/lang/String" "COMPACT_STRINGS" "Z" (.int cs)) (hcs : ¬ (cs = (0 : Int32))) :
    MetFree l y34_ (head1 (Jvm.Cond.code y34_ prog_29_method_2_code 3 none :: ws) r2_0_0_26) (fun xa xU => xa = #[(.ref o), (.ref b), (.int (0 : Int32))] ∧ Z.Warmed39 xU.vm ∧ xU.heap = h0) (fun _ _ _ _ _ => True) (fun _ xU xo xU' => ∃ xv xL, xo = .returned xv ∧ Q_winit2 Z o b d dk x1 x2 x3 x4 cs h0 n0 xv xU'.heap xL ∧ FrameEnd xU xo xU' xL r2_0_0_26.cells r2_0_0_26.slots) := by
  refine MetFree.of_bodySF (plainFor_of_name pn_com_example_bufferwright_bufferwright_text_Word) hisR ?_
  intro pP eE sS mM argS bS methS cC s₁ Bd hml0 hP hK
  obtain ⟨rfl, hZ, hh⟩ := hP
  have hx := Bd.exec
  have hby := Bd.bytes
  have hml : cC.maxLocals = 3 := hml0
  have hown : sS.vm.findClass "com/example/bufferwright/bufferwright/text/Word" = some mM.cls := findClass_of_methodNamed Bd.named
  have hnm := (name_of_methodNamed Bd.named Bd.method).1
  have X0 : Stand pP l eE r2_0_0_26 sS mM #[(.ref o), (.ref b), (.int (0 : Int32))] bS methS cC s₁ [] 0 0 := Stand.of_body Bd
  have e0 : s₁.heap = h0 := by rw [← hh, Bd.state]; rfl
  have N0 := Fr.nil n0
  obtain ⟨T101, X101, e101, st101⟩ := initO X0 hx hZ hown (wi hw 44 rfl) (wi hw 13 rfl) (wi hw 14 rfl) e0 (g := (mkF mM 1 #[.val (.ref o), .val (.ref b), .val (.int (0 : Int32))] [(.ref o)])) rfl (by rw [hml]; rfl) rfl (hb hby dp29_2_1) (by decide) (W := 0) (by show 2 * 0 + _ ≤ _; exact Nat.le_of_eq rfl) (by decide)
  obtain ⟨T102, h102, X102, e102, W102, st102⟩ := putF X101 hx hZ hown (host := "") (Or.inl (wi hw 45 rfl)) Via.refl e101 F_chars_o E_o (Or.inl (wi hw 46 rfl)) (wi hw 33 rfl) (ty := (.object "java/lang/CharSequence")) (by decide) rfl rfl (g := (mkF mM 6 #[.val (.ref o), .val (.ref b), .val (.int (0 : Int32))] [(.ref b), (.ref o)])) rfl rfl (hb hby dp29_2_6)
  have Sz1 : h0.size ≤ h102.size := Nat.le_of_eq (Wr.size W102).symm
  have Fw102 : Fld Z h102 o "com/example/bufferwright/bufferwright/text/Word" "chars" "Ljava/lang/CharSequence;" (.ref b) := Fld.same W102 F_chars_o
  have N102 := Fr.snoc X102 N0 g_o
  have c104_E_b : Exa Z h102 b "java/lang/String" := Exa.wr W102 E_b
  have c105_F_value_b : Fld Z h102 b "java/lang/String" "value" "[B" (.ref d) := Fld.other W102 F_value_b (Or.inl ne_b_o)
  have c106_F_coder_b : Fld Z h102 b "java/lang/String" "coder" "B" (.int (0 : Int32)) := Fld.other W102 F_coder_b (Or.inl ne_b_o)
  have c107_V_d : Arv Z h102 d dk .byte (0 : Int32) [] (.int (0 : Int32)) := V_d.other W102 ne_d_o
  have c108_OL : Old Z n0 h102 := OL.wr W102 g_o
  obtain ⟨cq103, kq103, q103a, q103b, q103c⟩ := isOf hZ e102 c104_E_b
  obtain ⟨_, _, ⟨T103, L103, k103, n103⟩, -, X103, ⟨Lc103, hQ103, l103, y103, z103⟩, st103⟩ := X102.virtualBack hx (y := y12_) (z := y12_) hown (mvT hZ (wi hw 47 rfl)) (mvT hZ (wi hw 48 rfl)) (notFace_of_selects (args := #[]) (mvT hZ (wi hw 50 rfl))) (mvT hZ (wi hw 50 rfl)) (mvT hZ (wi hw 49 rfl)) (by decide) (backOf (W := 1) (rm_length l Z a0 hw [] b d dk (0 : Int32) [] (0 : Int32) (0 : Int32) cs h102 n0 (by omega) c104_E_b c105_F_value_b c106_F_coder_b c107_V_d (by decide) (by decide) c108_OL S_COMPACT_STRINGS hcs) hZ (wi hw 51 rfl) (wi hw 4 rfl) (by decide) (by decide)) q103a q103c (g := (mkF mM 11 #[.val (.ref o), .val (.ref b), .val (.int (0 : Int32))] [(.ref b), (.ref o)])) rfl (by rw [hml]; rfl) (Steps.refl _) (argsL := []) (rest := [(.ref o)]) (lenOf pd_7 rfl) rfl (by show 2 * 0 + _ ≤ _; exact Nat.le_of_eq rfl) (hb hby dp29_2_11) (fun _ _ => ⟨rfl, e102, ble rfl, ble rfl⟩)
  dsimp only [Pt.U, Pt.locs, Pt.cells, Pt.slots] at X103 l103 y103 z103 st103 hQ103
  subst y103 z103
  obtain ⟨h103, e103⟩ : ∃ z, T103.heap = z := ⟨_, rfl⟩
  rw [e103] at hQ103
  obtain ⟨rfl, N103q, eq103⟩ := hQ103
  rw [eq103] at e103
  have N103 : Fr n0 L103 := by rw [l103]; exact Fr.app N102 N103q
  have c109_F_length_o : Fld Z h102 o "com/example/bufferwright/bufferwright/text/Word" "length" "I" x3 := Fld.other W102 F_length_o (Or.inr (slot_ne (Or.inl (wi hw 58 rfl)) (Or.inl (wi hw 46 rfl)) (by decide) (t := .int) (t' := (.object "java/lang/CharSequence")) (by decide) (by decide)))
  have c110_E_o : Exa Z h102 o "com/example/bufferwright/bufferwright/text/Word" := Exa.wr W102 E_o
  obtain ⟨T111, h111, X111, e111, W111, st111⟩ := putF X103 hx hZ hown (host := "") (Or.inl (wi hw 57 rfl)) Via.refl e103 c109_F_length_o c110_E_o (Or.inl (wi hw 58 rfl)) (wi hw 33 rfl) (ty := .int) (by decide) rfl rfl (g := (mkF mM 14 #[.val (.ref o), .val (.ref b), .val (.int (0 : Int32))] [(.int (0 : Int32)), (.ref o)])) rfl rfl (hb hby dp29_2_14)
  have Sz2 : h102.size ≤ h111.size := Nat.le_of_eq (Wr.size W111).symm
  have Fw111 : Fld Z h111 o "com/example/bufferwright/bufferwright/text/Word" "length" "I" (.int (0 : Int32)) := Fld.same W111 c109_F_length_o
  have N111 := Fr.snoc X111 N103 g_o
  have c112_F_hash_o : Fld Z h102 o "com/example/bufferwright/bufferwright/text/Word" "hash" "I" x4 := Fld.other W102 F_hash_o (Or.inr (slot_ne (Or.inl (wi hw 60 rfl)) (Or.inl (wi hw 46 rfl)) (by decide) (t := .int) (t' := (.object "java/lang/CharSequence")) (by decide) (by decide)))
  have c113_F_hash_o : Fld Z h111 o "com/example/bufferwright/bufferwright/text/Word" "hash" "I" x4 := Fld.other W111 c112_F_hash_o (Or.inr (slot_ne (Or.inl (wi hw 60 rfl)) (Or.inl (wi hw 58 rfl)) (by decide) (t := .int) (t' := .int) (by decide) (by decide)))
  have c114_E_o : Exa Z h111 o "com/example/bufferwright/bufferwright/text/Word" := Exa.wr W111 c110_E_o
  obtain ⟨T115, h115, X115, e115, W115, st115⟩ := putF X111 hx hZ hown (host := "") (Or.inl (wi hw 59 rfl)) Via.refl e111 c113_F_hash_o c114_E_o (Or.inl (wi hw 60 rfl)) (wi hw 33 rfl) (ty := .int) (by decide) rfl rfl (g := (mkF mM 19 #[.val (.ref o), .val (.ref b), .val (.int (0 : Int32))] [(.int (0 : Int32)), (.ref o)])) rfl rfl (hb hby dp29_2_19)
  have Sz3 : h111.size ≤ h115.size := Nat.le_of_eq (Wr.size W115).symm
  have Fw115 : Fld Z h115 o "com/example/bufferwright/bufferwright/text/Word" "hash" "I" (.int (0 : Int32)) := Fld.same W115 c113_F_hash_o
  have N115 := Fr.snoc X115 N111 g_o
  have c116_E_o : Exa Z h115 o "com/example/bufferwright/bufferwright/text/Word" := Exa.wr W115 c114_E_o
  have c117_F_chars_o : Fld Z h111 o "com/example/bufferwright/bufferwright/text/Word" "chars" "Ljava/lang/CharSequence;" (.ref b) := Fld.other W111 Fw102 (Or.inr (slot_ne (Or.inl (wi hw 46 rfl)) (Or.inl (wi hw 58 rfl)) (by decide) (t := (.object "java/lang/CharSequence")) (t' := .int) (by decide) (by decide)))
  have c118_F_chars_o : Fld Z h115 o "com/example/bufferwright/bufferwright/text/Word" "chars" "Ljava/lang/CharSequence;" (.ref b) := Fld.other W115 c117_F_chars_o (Or.inr (slot_ne (Or.inl (wi hw 46 rfl)) (Or.inl (wi hw 60 rfl)) (by decide) (t := (.object "java/lang/CharSequence")) (t' := .int) (by decide) (by decide)))
  have c119_F_start_o : Fld Z h102 o "com/example/bufferwright/bufferwright/text/Word" "start" "I" x2 := Fld.other W102 F_start_o (Or.inr (slot_ne (Or.inl (wi hw 67 rfl)) (Or.inl (wi hw 46 rfl)) (by decide) (t := .int) (t' := (.object "java/lang/CharSequence")) (by decide) (by decide)))
  have c120_F_start_o : Fld Z h111 o "com/example/bufferwright/bufferwright/text/Word" "start" "I" x2 := Fld.other W111 c119_F_start_o (Or.inr (slot_ne (Or.inl (wi hw 67 rfl)) (Or.inl (wi hw 58 rfl)) (by decide) (t := .int) (t' := .int) (by decide) (by decide)))
  have c121_F_start_o : Fld Z h115 o "com/example/bufferwright/bufferwright/text/Word" "start" "I" x2 := Fld.other W115 c120_F_start_o (Or.inr (slot_ne (Or.inl (wi hw 67 rfl)) (Or.inl (wi hw 60 rfl)) (by decide) (t := .int) (t' := .int) (by decide) (by decide)))
  have c122_F_length_o : Fld Z h115 o "com/example/bufferwright/bufferwright/text/Word" "length" "I" (.int (0 : Int32)) := Fld.other W115 Fw111 (Or.inr (slot_ne (Or.inl (wi hw 58 rfl)) (Or.inl (wi hw 60 rfl)) (by decide) (t := .int) (t' := .int) (by decide) (by decide)))
  have K123 : Keep h0 h102 [o] := (Keep.refl h0 [o]).wr W102 (Or.inl (List.mem_of_getElem? (i := 0) rfl))
  have K124 : Keep h0 h111 [o] := K123.wr W111 (Or.inl (List.mem_of_getElem? (i := 0) rfl))
  have K125 : Keep h0 h115 [o] := K124.wr W115 (Or.inl (List.mem_of_getElem? (i := 0) rfl))
  obtain ⟨fs, hr, hrun, hended, hW, hsame⟩ := X115.leave (v := none) (fun _ => rfl)
  refine ⟨_, _, castTop (ef_winit2 mM o b d dk x1 x2 x3 x4 cs) ?_, hrun, hended, _, _, rfl, ?_, ⟨_, rfl⟩, hW, hsame.mono (by decide) (by decide)⟩
  · show SS pP eE bS s₁ (mkF mM 0 #[.val (.ref o), .val (.ref b), .val (.int (0 : Int32))] []) _
    refine XS.aloadN X0.here hx rfl (hb hby dp29_2_0) rfl rfl ?_
    show SS pP eE bS s₁ (mkF mM 1 #[.val (.ref o), .val (.ref b), .val (.int (0 : Int32))] [(.ref o)]) _
    refine st101 _ ?_
    show SS pP eE bS T101 (mkF mM 4 #[.val (.ref o), .val (.ref b), .val (.int (0 : Int32))] []) _
    refine XS.aloadN X101.here hx rfl (hb hby dp29_2_4) rfl rfl ?_
    refine XS.aloadN X101.here hx rfl (hb hby dp29_2_5) rfl rfl ?_
    show SS pP eE bS T101 (mkF mM 6 #[.val (.ref o), .val (.ref b), .val (.int (0 : Int32))] [(.ref b), (.ref o)]) _
    refine st102 _ ?_
    show SS pP eE bS T102 (mkF mM 9 #[.val (.ref o), .val (.ref b), .val (.int (0 : Int32))] []) _
    refine XS.aloadN X102.here hx rfl (hb hby dp29_2_9) rfl rfl ?_
    refine XS.aloadN X102.here hx rfl (hb hby dp29_2_10) rfl rfl ?_
    show SS pP eE bS T102 (mkF mM 11 #[.val (.ref o), .val (.ref b), .val (.int (0 : Int32))] [(.ref b), (.ref o)]) _
    refine st103.trans ?_
    show SS pP eE bS T103 (mkF mM 14 #[.val (.ref o), .val (.ref b), .val (.int (0 : Int32))] [(.int (0 : Int32)), (.ref o)]) _
    refine st111 _ ?_
    show SS pP eE bS T111 (mkF mM 17 #[.val (.ref o), .val (.ref b), .val (.int (0 : Int32))] []) _
    refine XS.aloadN X111.here hx rfl (hb hby dp29_2_17) rfl rfl ?_
    refine XS.iloadN X111.here hx rfl (hb hby dp29_2_18) rfl ?_
    show SS pP eE bS T111 (mkF mM 19 #[.val (.ref o), .val (.ref b), .val (.int (0 : Int32))] [(.int (0 : Int32)), (.ref o)]) _
    refine st115 _ ?_
    show SS pP eE bS T115 (mkF mM 22 #[.val (.ref o), .val (.ref b), .val (.int (0 : Int32))] []) _
    exact X115.returnOut hx Bd.returns (hb hby dp29_2_22) hr
  · show Q_winit2 Z o b d dk x1 x2 x3 x4 cs h0 n0 _ T115.heap _
    rw [e115]
    exact ⟨rfl, N115, K125, c116_E_o, c118_F_chars_o, c121_F_start_o, c122_F_length_o, Fw115⟩
abbrev cp29_1 := prog_29_method_1_code
theorem dp29_1_0 : decode cp29_1 0 = .ok (.aload_n 0, 1) := by decide +kernel
theorem dp29_1_1 : decode cp29_1 1 = .ok (.ldc 1, 2) := by decide +kernel
theorem own_txt0 : (∀ c ∈ "".toList, c.toNat < 256) ∧ "".toList.map (fun c => Value.int (Jvm.Lit.byteI c.toNat.toUInt16)) = [] := by
  constructor
  · decide
  · first | rfl | decide
theorem dp29_1_3 : decode cp29_1 3 = .ok (.iconst 0, 1) := by decide +kernel
theorem dp29_1_4 : decode cp29_1 4 = .ok (.invokespecial 3, 3) := by decide +kernel
theorem pd_6 : parseMethodDescriptor "(Ljava/lang/String;I)V" = some ⟨[(.object "java/lang/String"), .int], none⟩ := by decide +kernel
theorem dp29_1_7 : decode cp29_1 7 = .ok (.return_, 1) := by decide +kernel
abbrev r3_2_4_40 : Room := { frames := 3, cells := 2, slots := 4, locals := 40 }
abbrev y35_ : MethodName := ⟨"com/example/bufferwright/bufferwright/text/Word", "<init>", "()V"⟩
def Q_winit (Z : State) (o : Addr) (x1 : Value) (x2 : Value) (x3 : Value) (x4 : Value) (cs : Int32) (h0 : Heap) (n0 : Nat) (xv : Option Value) (xh : Heap) (xL : List Loc) : Prop := ∃ b : Addr, xv = none ∧ Fr n0 xL ∧ Keep h0 xh [o] ∧ Exa Z xh o "com/example/bufferwright/bufferwright/text/Word" ∧ Fld Z xh o "com/example/bufferwright/bufferwright/text/Word" "chars" "Ljava/lang/CharSequence;" (.ref b) ∧ Fld Z xh o "com/example/bufferwright/bufferwright/text/Word" "start" "I" x2 ∧ Fld Z xh o "com/example/bufferwright/bufferwright/text/Word" "length" "I" (.int (0 : Int32)) ∧ Fld Z xh o "com/example/bufferwright/bufferwright/text/Word" "hash" "I" (.int (0 : Int32))
theorem ef_winit (mM : MethodId) (o : Addr) (x1 : Value) (x2 : Value) (x3 : Value) (x4 : Value) (cs : Int32) : entryFrame mM #[(.ref o)] 1 = mkF mM 0 #[.val (.ref o)] [] := by
  first | (simp [entryFrame, mkF, argsToLocals, Value.category]; done) | rfl
theorem rm_winit (l : Launch) (Z : State) (a0 : Array Value) (hw : HW a0 Z) (ws : List Jvm.Cond) (o : Addr) (x1 : Value) (x2 : Value) (x3 : Value) (x4 : Value) (cs : Int32) (h0 : Heap) (n0 : Nat) (Z0 : n0 ≤ h0.size) (E_o : Exa Z h0 o "com/example/bufferwright/bufferwright/text/Word") (F_chars_o : Fld Z h0 o "com/example/bufferwright/bufferwright/text/Word" "chars" "Ljava/lang/CharSequence;" x1) (F_start_o : Fld Z h0 o "com/example/bufferwright/bufferwright/text/Word" "start" "I" x2) (F_length_o : Fld Z h0 o "com/example/bufferwright/bufferwright/text/Word" "length" "I" x3) (F_hash_o : Fld Z h0 o "com/example/bufferwright/bufferwright/text/Word" "hash" "I" x4) (g_o : @LE.le Nat _ n0 o) (OL : Old Z n0 h0) (S_COMPACT_STRINGS : Sta Z Z.heap "java/lang/String" "COMPACT_STRINGS" "Z" (.int cs)) (hcs : ¬ (cs = (0 : Int32))) :
    MetFree l y35_ (head1 (Jvm.Cond.code y35_ prog_29_method_1_code 1 none :: ws) r3_2_4_40) (fun xa xU => xa = #[(.ref o)] ∧ Z.Warmed39 xU.vm ∧ xU.heap = h0 ∧ CHv Z consts_1 xU.vm h0 ∧ ∀ x ∈ ([] : List Addr), Safe Z consts_1 xU.vm h0 x) (fun _ _ _ _ _ => True) (fun _ xU xo xU' => ∃ xv xL, xo = .returned xv ∧ Q_winit Z o x1 x2 x3 x4 cs h0 n0 xv xU'.heap xL ∧ CHr Z consts_1 xU.vm xU.heap xU'.vm xU'.heap ∧ ReturnedEndW xU xo xU' xL r3_2_4_40.cells r3_2_4_40.slots) := by
  refine MetFree.of_bodySF (plainFor_of_name pn_com_example_bufferwright_bufferwright_text_Word) hisR ?_
  intro pP eE sS mM argS bS methS cC s₁ Bd hml0 hP hK
  obtain ⟨rfl, hZ, hh, hCH, hSf⟩ := hP
  have hx := Bd.exec
  have hby := Bd.bytes
  have hml : cC.maxLocals = 1 := hml0
  have hown : sS.vm.findClass "com/example/bufferwright/bufferwright/text/Word" = some mM.cls := findClass_of_methodNamed Bd.named
  have hnm := (name_of_methodNamed Bd.named Bd.method).1
  have X0 : Stand pP l eE r3_2_4_40 (sS.setVm sS.vm) mM #[(.ref o)] bS methS cC s₁ [] 0 0 := Stand.of_body Bd
  have e0 : s₁.heap = h0 := by rw [← hh, Bd.state]; rfl
  have N0 := Fr.nil n0
  have hZ0 : Z.Warmed39 (sS.setVm sS.vm).vm := hZ
  have hown0 : (sS.setVm sS.vm).vm.findClass "com/example/bufferwright/bufferwright/text/Word" = some mM.cls := hown
  have hS0 : sS.Since sS.vm 0 := (State.WarmedH.refl sS).since 0
  have CC0 : CHr Z consts_1 sS.vm h0 sS.vm h0 := CHr.refl hCH
  obtain ⟨b101, T101, h101, kk101, d101, q101, X101, e101, E101, hS101, hk101, hZ101, hown101, A101, Fc101, Fv101, V101, ltb101, ltd101, Ch101, -, hne101, st101⟩ := ldcCH X0 hx hZ0 hown0 (wi hw 38 rfl) (own_wS hw) e0 hS0 (by omega) (own_EW hw) (List.mem_of_getElem? (i := 0) rfl) CC0.1 (vs := []) (z := (0 : Int32)) (own_txt0) (by decide) (by rfl) (g := (mkF mM 1 #[.val (.ref o)] [(.ref o)])) rfl (hb hby dp29_1_1) (n := 0) (by decide) (by decide) (by decide) (by decide)
  have Sz1 : h0.size ≤ h101.size := E101.1
  have CC1 : CHr Z consts_1 sS.vm h0 T101.vm h101 := CC0.trans Ch101
  have c103_E_o : Exa Z h101 o "com/example/bufferwright/bufferwright/text/Word" := Exa.ext E101 E_o
  have c104_F_chars_o : Fld Z h101 o "com/example/bufferwright/bufferwright/text/Word" "chars" "Ljava/lang/CharSequence;" x1 := Fld.ext E101 F_chars_o
  have c105_F_start_o : Fld Z h101 o "com/example/bufferwright/bufferwright/text/Word" "start" "I" x2 := Fld.ext E101 F_start_o
  have c106_F_length_o : Fld Z h101 o "com/example/bufferwright/bufferwright/text/Word" "length" "I" x3 := Fld.ext E101 F_length_o
  have c107_F_hash_o : Fld Z h101 o "com/example/bufferwright/bufferwright/text/Word" "hash" "I" x4 := Fld.ext E101 F_hash_o
  have c108_OL : Old Z n0 h101 := OL.ext E101
  have sf109_o : Safe Z consts_1 T101.vm h101 o := Safe.exa (show Z.Warmed39 T101.vm from hZ101).alike c103_E_o (by decide) (by decide)
  obtain ⟨_, _, ⟨T102, L102, k102, n102⟩, -, X102, ⟨Lc102, hQ102, l102, y102, z102⟩, st102⟩ := X101.specialBack hx (y := y34_) rfl hown101 (mvT hZ101 (wi hw 41 rfl)) (mvT hZ101 (wi hw 42 rfl)) (mvT hZ101 (wi hw 43 rfl)) (by decide) (backOf (W := 0) (rm_winit2 l Z a0 hw [] o b101 d101 q101 x1 x2 x3 x4 cs h101 n0 (by omega) c103_E_o c104_F_chars_o c105_F_start_o c106_F_length_o c107_F_hash_o g_o A101 Fv101 Fc101 V101 (Ne.symm (hne101 o sf109_o).1) (Ne.symm (hne101 o sf109_o).2) c108_OL S_COMPACT_STRINGS hcs) hZ101 (wi hw 43 rfl) (wi hw 34 rfl) (by decide) (by decide)) (g := (mkF mM 4 #[.val (.ref o)] [(.int (0 : Int32)), (.ref b101), (.ref o)])) rfl (by rw [hml]; rfl) (Steps.refl _) (a := o) (argsL := [(.ref b101), (.int (0 : Int32))]) (rest := []) (lenOf pd_6 rfl) rfl (by show 2 * 0 + _ ≤ _; exact Nat.le_of_eq rfl) (hb hby dp29_1_4) (fun _ _ => ⟨rfl, e101, ble rfl, ble rfl⟩)
  dsimp only [Pt.U, Pt.locs, Pt.cells, Pt.slots] at X102 l102 y102 z102 st102 hQ102
  subst y102 z102
  obtain ⟨h102, e102⟩ : ∃ z, T102.heap = z := ⟨_, rfl⟩
  rw [e102] at hQ102
  obtain ⟨rfl, N102q, Kp102, p102_E_o, p102_F_chars_o, p102_F_start_o, p102_F_length_o, p102_F_hash_o⟩ := hQ102
  have Sz2 : h101.size ≤ h102.size := Kp102.1
  have CC2 : CHr Z consts_1 sS.vm h0 T101.vm h102 := CC1.trans (CHr.keep Kp102 (sfS sf109_o sf0) CC1.1)
  have N102 : Fr n0 L102 := by rw [l102]; exact Fr.app N0 N102q
  have K110 : Keep h0 h101 [o] := (Keep.refl h0 [o]).ext E101
  have K111 : Keep h0 h102 [o] := K110.trans Kp102 (allS (Or.inl (List.mem_of_getElem? (i := 0) rfl)) all0)
  obtain ⟨fs, hr, hrun, hended, hE⟩ := Stand.leaveW (s := sS) X102 hS101 (by rw [e102]; omega) (v := none) (fun _ => rfl)
  refine ⟨_, _, castTop (ef_winit mM o x1 x2 x3 x4 cs) ?_, hrun, hended, _, _, rfl, ?_, ?_, hE.1, hE.2.1, hE.2.2.1, hE.2.2.2.mono (by decide) (by decide)⟩
  · show SS pP eE bS s₁ (mkF mM 0 #[.val (.ref o)] []) _
    refine XS.aloadN X0.here hx rfl (hb hby dp29_1_0) rfl rfl ?_
    show SS pP eE bS s₁ (mkF mM 1 #[.val (.ref o)] [(.ref o)]) _
    refine st101 _ ?_
    show SS pP eE bS T101 (mkF mM 3 #[.val (.ref o)] [(.ref b101), (.ref o)]) _
    refine XS.iconst X101.here hx rfl (hb hby dp29_1_3) ?_
    show SS pP eE bS T101 (mkF mM 4 #[.val (.ref o)] [(.int (0 : Int32)), (.ref b101), (.ref o)]) _
    refine st102.trans ?_
    show SS pP eE bS T102 (mkF mM 7 #[.val (.ref o)] []) _
    exact X102.returnOut hx Bd.returns (hb hby dp29_1_7) hr
  · show Q_winit Z o x1 x2 x3 x4 cs h0 n0 _ T102.heap _
    rw [e102]
    exact ⟨b101, rfl, N102, K111, p102_E_o, p102_F_chars_o, p102_F_start_o, p102_F_length_o, p102_F_hash_o⟩
  · show CHr Z consts_1 sS.vm sS.heap T102.vm T102.heap
    rw [hh, e102]
    exact CC2.trans (CHv.at X102 hZ101 (own_EW hw) CC2.1)
abbrev cp29_3 := prog_29_method_3_code
theorem dp29_3_0 : decode cp29_3 0 = .ok (.aload_n 0, 1) := by decide +kernel
theorem dp29_3_1 : decode cp29_3 1 = .ok (.aload_n 1, 1) := by decide +kernel
theorem dp29_3_2 : decode cp29_3 2 = .ok (.putfield 14, 3) := by decide +kernel
theorem dp29_3_5 : decode cp29_3 5 = .ok (.aload_n 0, 1) := by decide +kernel
theorem dp29_3_6 : decode cp29_3 6 = .ok (.iload_n 2, 1) := by decide +kernel
theorem dp29_3_7 : decode cp29_3 7 = .ok (.putfield 30, 3) := by decide +kernel
theorem dp29_3_10 : decode cp29_3 10 = .ok (.aload_n 0, 1) := by decide +kernel
theorem dp29_3_11 : decode cp29_3 11 = .ok (.iload_n 3, 1) := by decide +kernel
theorem dp29_3_12 : decode cp29_3 12 = .ok (.putfield 24, 3) := by decide +kernel
theorem dp29_3_15 : decode cp29_3 15 = .ok (.aload_n 0, 1) := by decide +kernel
theorem dp29_3_16 : decode cp29_3 16 = .ok (.iload 4, 2) := by decide +kernel
theorem dp29_3_18 : decode cp29_3 18 = .ok (.putfield 27, 3) := by decide +kernel
theorem dp29_3_21 : decode cp29_3 21 = .ok (.return_, 1) := by decide +kernel
abbrev y36_ : MethodName := ⟨"com/example/bufferwright/bufferwright/text/Word", "moveTo", "(Ljava/lang/CharSequence;III)V"⟩
def Q_moveTo (Z : State) (o : Addr) (t : Addr) (x1 : Value) (x2 : Value) (x3 : Value) (x4 : Value) (y1 : Int32) (y2 : Int32) (y3 : Int32) (h0 : Heap) (n0 : Nat) (xv : Option Value) (xh : Heap) (xL : List Loc) : Prop := xv = none ∧ Fr n0 xL ∧ Keep h0 xh [o] ∧ Exa Z xh o "com/example/bufferwright/bufferwright/text/Word" ∧ Fld Z xh o "com/example/bufferwright/bufferwright/text/Word" "chars" "Ljava/lang/CharSequence;" (.ref t) ∧ Fld Z xh o "com/example/bufferwright/bufferwright/text/Word" "start" "I" (.int y1) ∧ Fld Z xh o "com/example/bufferwright/bufferwright/text/Word" "length" "I" (.int y2) ∧ Fld Z xh o "com/example/bufferwright/bufferwright/text/Word" "hash" "I" (.int y3)
abbrev Lc_moveTo_0 (o : Addr) (t : Addr) (y1 : Int32) (y2 : Int32) (y3 : Int32) : Array Slot := #[.val (.ref o), .val (.ref t), .val (.int y1), .val (.int y2), .val (.int y3)]
theorem ef_moveTo (mM : MethodId) (o : Addr) (t : Addr) (x1 : Value) (x2 : Value) (x3 : Value) (x4 : Value) (y1 : Int32) (y2 : Int32) (y3 : Int32) : entryFrame mM #[(.ref o), (.ref t), (.int y1), (.int y2), (.int y3)] 5 = mkF mM 0 #[.val (.ref o), .val (.ref t), .val (.int y1), .val (.int y2), .val (.int y3)] [] := by
  first | (simp [entryFrame, mkF, argsToLocals, Value.category]; done) | rfl
theorem rm_moveTo (l : Launch) (Z : State) (a0 : Array Value) (hw : HW a0 Z) (ws : List Jvm.Cond) (o : Addr) (t : Addr) (x1 : Value) (x2 : Value) (x3 : Value) (x4 : Value) (y1 : Int32) (y2 : Int32) (y3 : Int32) (h0 : Heap) (n0 : Nat) (Z0 : n0 ≤ h0.size) (E_o : Exa Z h0 o "com/example/bufferwright/bufferwright/text/Word") (F_chars_o : Fld Z h0 o "com/example/bufferwright/bufferwright/text/Word" "chars" "Ljava/lang/CharSequence;" x1) (F_start_o : Fld Z h0 o "com/example/bufferwright/bufferwright/text/Word" "start" "I" x2) (F_length_o : Fld Z h0 o "com/example/bufferwright/bufferwright/text/Word" "length" "I" x3) (F_hash_o : Fld Z h0 o "com/example/bufferwright/bufferwright/text/Word" "hash" "I" x4) (g_o : @LE.le Nat _ n0 o) :
    MetFree l y36_ (head1 (Jvm.Cond.code y36_ prog_29_method_3_code 5 none :: ws) r0_0_0_0) (fun xa xU => xa = #[(.ref o), (.ref t), (.int y1), (.int y2), (.int y3)] ∧ Z.Warmed39 xU.vm ∧ xU.heap = h0) (fun _ _ _ _ _ => True) (fun _ xU xo xU' => ∃ xv xL, xo = .returned xv ∧ Q_moveTo Z o t x1 x2 x3 x4 y1 y2 y3 h0 n0 xv xU'.heap xL ∧ FrameEnd xU xo xU' xL r0_0_0_0.cells r0_0_0_0.slots) := by
  refine MetFree.of_bodySF (plainFor_of_name pn_com_example_bufferwright_bufferwright_text_Word) hisR ?_
  intro pP eE sS mM argS bS methS cC s₁ Bd hml0 hP hK
  obtain ⟨rfl, hZ, hh⟩ := hP
  have hx := Bd.exec
  have hby := Bd.bytes
  have hml : cC.maxLocals = 5 := hml0
  have hown : sS.vm.findClass "com/example/bufferwright/bufferwright/text/Word" = some mM.cls := findClass_of_methodNamed Bd.named
  have hnm := (name_of_methodNamed Bd.named Bd.method).1
  have X0 : Stand pP l eE r0_0_0_0 sS mM #[(.ref o), (.ref t), (.int y1), (.int y2), (.int y3)] bS methS cC s₁ [] 0 0 := Stand.of_body Bd
  have e0 : s₁.heap = h0 := by rw [← hh, Bd.state]; rfl
  have N0 := Fr.nil n0
  obtain ⟨T101, h101, X101, e101, W101, st101⟩ := putF X0 hx hZ hown (host := "") (Or.inl (wi hw 45 rfl)) Via.refl e0 F_chars_o E_o (Or.inl (wi hw 46 rfl)) (wi hw 33 rfl) (ty := (.object "java/lang/CharSequence")) (by decide) rfl rfl (g := (mkF mM 2 (Lc_moveTo_0 o t y1 y2 y3) [(.ref t), (.ref o)])) rfl rfl (hb hby dp29_3_2)
  have Sz1 : h0.size ≤ h101.size := Nat.le_of_eq (Wr.size W101).symm
  have Fw101 : Fld Z h101 o "com/example/bufferwright/bufferwright/text/Word" "chars" "Ljava/lang/CharSequence;" (.ref t) := Fld.same W101 F_chars_o
  have N101 := Fr.snoc X101 N0 g_o
  have c102_F_start_o : Fld Z h101 o "com/example/bufferwright/bufferwright/text/Word" "start" "I" x2 := Fld.other W101 F_start_o (Or.inr (slot_ne (Or.inl (wi hw 67 rfl)) (Or.inl (wi hw 46 rfl)) (by decide) (t := .int) (t' := (.object "java/lang/CharSequence")) (by decide) (by decide)))
  have c103_E_o : Exa Z h101 o "com/example/bufferwright/bufferwright/text/Word" := Exa.wr W101 E_o
  obtain ⟨T104, h104, X104, e104, W104, st104⟩ := putF X101 hx hZ hown (host := "") (Or.inl (wi hw 66 rfl)) Via.refl e101 c102_F_start_o c103_E_o (Or.inl (wi hw 67 rfl)) (wi hw 33 rfl) (ty := .int) (by decide) rfl rfl (g := (mkF mM 7 (Lc_moveTo_0 o t y1 y2 y3) [(.int y1), (.ref o)])) rfl rfl (hb hby dp29_3_7)
  have Sz2 : h101.size ≤ h104.size := Nat.le_of_eq (Wr.size W104).symm
  have Fw104 : Fld Z h104 o "com/example/bufferwright/bufferwright/text/Word" "start" "I" (.int y1) := Fld.same W104 c102_F_start_o
  have N104 := Fr.snoc X104 N101 g_o
  have c105_F_length_o : Fld Z h101 o "com/example/bufferwright/bufferwright/text/Word" "length" "I" x3 := Fld.other W101 F_length_o (Or.inr (slot_ne (Or.inl (wi hw 58 rfl)) (Or.inl (wi hw 46 rfl)) (by decide) (t := .int) (t' := (.object "java/lang/CharSequence")) (by decide) (by decide)))
  have c106_F_length_o : Fld Z h104 o "com/example/bufferwright/bufferwright/text/Word" "length" "I" x3 := Fld.other W104 c105_F_length_o (Or.inr (slot_ne (Or.inl (wi hw 58 rfl)) (Or.inl (wi hw 67 rfl)) (by decide) (t := .int) (t' := .int) (by decide) (by decide)))
  have c107_E_o : Exa Z h104 o "com/example/bufferwright/bufferwright/text/Word" := Exa.wr W104 c103_E_o
  obtain ⟨T108, h108, X108, e108, W108, st108⟩ := putF X104 hx hZ hown (host := "") (Or.inl (wi hw 57 rfl)) Via.refl e104 c106_F_length_o c107_E_o (Or.inl (wi hw 58 rfl)) (wi hw 33 rfl) (ty := .int) (by decide) rfl rfl (g := (mkF mM 12 (Lc_moveTo_0 o t y1 y2 y3) [(.int y2), (.ref o)])) rfl rfl (hb hby dp29_3_12)
  have Sz3 : h104.size ≤ h108.size := Nat.le_of_eq (Wr.size W108).symm
  have Fw108 : Fld Z h108 o "com/example/bufferwright/bufferwright/text/Word" "length" "I" (.int y2) := Fld.same W108 c106_F_length_o
  have N108 := Fr.snoc X108 N104 g_o
  have c109_F_hash_o : Fld Z h101 o "com/example/bufferwright/bufferwright/text/Word" "hash" "I" x4 := Fld.other W101 F_hash_o (Or.inr (slot_ne (Or.inl (wi hw 60 rfl)) (Or.inl (wi hw 46 rfl)) (by decide) (t := .int) (t' := (.object "java/lang/CharSequence")) (by decide) (by decide)))
  have c110_F_hash_o : Fld Z h104 o "com/example/bufferwright/bufferwright/text/Word" "hash" "I" x4 := Fld.other W104 c109_F_hash_o (Or.inr (slot_ne (Or.inl (wi hw 60 rfl)) (Or.inl (wi hw 67 rfl)) (by decide) (t := .int) (t' := .int) (by decide) (by decide)))
  have c111_F_hash_o : Fld Z h108 o "com/example/bufferwright/bufferwright/text/Word" "hash" "I" x4 := Fld.other W108 c110_F_hash_o (Or.inr (slot_ne (Or.inl (wi hw 60 rfl)) (Or.inl (wi hw 58 rfl)) (by decide) (t := .int) (t' := .int) (by decide) (by decide)))
  have c112_E_o : Exa Z h108 o "com/example/bufferwright/bufferwright/text/Word" := Exa.wr W108 c107_E_o
  obtain ⟨T113, h113, X113, e113, W113, st113⟩ := putF X108 hx hZ hown (host := "") (Or.inl (wi hw 59 rfl)) Via.refl e108 c111_F_hash_o c112_E_o (Or.inl (wi hw 60 rfl)) (wi hw 33 rfl) (ty := .int) (by decide) rfl rfl (g := (mkF mM 18 (Lc_moveTo_0 o t y1 y2 y3) [(.int y3), (.ref o)])) rfl rfl (hb hby dp29_3_18)
  have Sz4 : h108.size ≤ h113.size := Nat.le_of_eq (Wr.size W113).symm
  have Fw113 : Fld Z h113 o "com/example/bufferwright/bufferwright/text/Word" "hash" "I" (.int y3) := Fld.same W113 c111_F_hash_o
  have N113 := Fr.snoc X113 N108 g_o
  have c114_E_o : Exa Z h113 o "com/example/bufferwright/bufferwright/text/Word" := Exa.wr W113 c112_E_o
  have c115_F_chars_o : Fld Z h104 o "com/example/bufferwright/bufferwright/text/Word" "chars" "Ljava/lang/CharSequence;" (.ref t) := Fld.other W104 Fw101 (Or.inr (slot_ne (Or.inl (wi hw 46 rfl)) (Or.inl (wi hw 67 rfl)) (by decide) (t := (.object "java/lang/CharSequence")) (t' := .int) (by decide) (by decide)))
  have c116_F_chars_o : Fld Z h108 o "com/example/bufferwright/bufferwright/text/Word" "chars" "Ljava/lang/CharSequence;" (.ref t) := Fld.other W108 c115_F_chars_o (Or.inr (slot_ne (Or.inl (wi hw 46 rfl)) (Or.inl (wi hw 58 rfl)) (by decide) (t := (.object "java/lang/CharSequence")) (t' := .int) (by decide) (by decide)))
  have c117_F_chars_o : Fld Z h113 o "com/example/bufferwright/bufferwright/text/Word" "chars" "Ljava/lang/CharSequence;" (.ref t) := Fld.other W113 c116_F_chars_o (Or.inr (slot_ne (Or.inl (wi hw 46 rfl)) (Or.inl (wi hw 60 rfl)) (by decide) (t := (.object "java/lang/CharSequence")) (t' := .int) (by decide) (by decide)))
  have c118_F_start_o : Fld Z h108 o "com/example/bufferwright/bufferwright/text/Word" "start" "I" (.int y1) := Fld.other W108 Fw104 (Or.inr (slot_ne (Or.inl (wi hw 67 rfl)) (Or.inl (wi hw 58 rfl)) (by decide) (t := .int) (t' := .int) (by decide) (by decide)))
  have c119_F_start_o : Fld Z h113 o "com/example/bufferwright/bufferwright/text/Word" "start" "I" (.int y1) := Fld.other W113 c118_F_start_o (Or.inr (slot_ne (Or.inl (wi hw 67 rfl)) (Or.inl (wi hw 60 rfl)) (by decide) (t := .int) (t' := .int) (by decide) (by decide)))
  have c120_F_length_o : Fld Z h113 o "com/example/bufferwright/bufferwright/text/Word" "length" "I" (.int y2) := Fld.other W113 Fw108 (Or.inr (slot_ne (Or.inl (wi hw 58 rfl)) (Or.inl (wi hw 60 rfl)) (by decide) (t := .int) (t' := .int) (by decide) (by decide)))
  have K121 : Keep h0 h101 [o] := (Keep.refl h0 [o]).wr W101 (Or.inl (List.mem_of_getElem? (i := 0) rfl))
  have K122 : Keep h0 h104 [o] := K121.wr W104 (Or.inl (List.mem_of_getElem? (i := 0) rfl))
  have K123 : Keep h0 h108 [o] := K122.wr W108 (Or.inl (List.mem_of_getElem? (i := 0) rfl))
  have K124 : Keep h0 h113 [o] := K123.wr W113 (Or.inl (List.mem_of_getElem? (i := 0) rfl))
  obtain ⟨fs, hr, hrun, hended, hW, hsame⟩ := X113.leave (v := none) (fun _ => rfl)
  refine ⟨_, _, castTop (ef_moveTo mM o t x1 x2 x3 x4 y1 y2 y3) ?_, hrun, hended, _, _, rfl, ?_, ⟨_, rfl⟩, hW, hsame.mono (by decide) (by decide)⟩
  · show SS pP eE bS s₁ (mkF mM 0 (Lc_moveTo_0 o t y1 y2 y3) []) _
    refine XS.aloadN X0.here hx rfl (hb hby dp29_3_0) rfl rfl ?_
    refine XS.aloadN X0.here hx rfl (hb hby dp29_3_1) rfl rfl ?_
    show SS pP eE bS s₁ (mkF mM 2 (Lc_moveTo_0 o t y1 y2 y3) [(.ref t), (.ref o)]) _
    refine st101 _ ?_
    show SS pP eE bS T101 (mkF mM 5 (Lc_moveTo_0 o t y1 y2 y3) []) _
    refine XS.aloadN X101.here hx rfl (hb hby dp29_3_5) rfl rfl ?_
    refine XS.iloadN X101.here hx rfl (hb hby dp29_3_6) rfl ?_
    show SS pP eE bS T101 (mkF mM 7 (Lc_moveTo_0 o t y1 y2 y3) [(.int y1), (.ref o)]) _
    refine st104 _ ?_
    show SS pP eE bS T104 (mkF mM 10 (Lc_moveTo_0 o t y1 y2 y3) []) _
    refine XS.aloadN X104.here hx rfl (hb hby dp29_3_10) rfl rfl ?_
    refine XS.iloadN X104.here hx rfl (hb hby dp29_3_11) rfl ?_
    show SS pP eE bS T104 (mkF mM 12 (Lc_moveTo_0 o t y1 y2 y3) [(.int y2), (.ref o)]) _
    refine st108 _ ?_
    show SS pP eE bS T108 (mkF mM 15 (Lc_moveTo_0 o t y1 y2 y3) []) _
    refine XS.aloadN X108.here hx rfl (hb hby dp29_3_15) rfl rfl ?_
    refine XS.iload X108.here hx rfl (hb hby dp29_3_16) rfl ?_
    show SS pP eE bS T108 (mkF mM 18 (Lc_moveTo_0 o t y1 y2 y3) [(.int y3), (.ref o)]) _
    refine st113 _ ?_
    show SS pP eE bS T113 (mkF mM 21 (Lc_moveTo_0 o t y1 y2 y3) []) _
    exact X113.returnOut hx Bd.returns (hb hby dp29_3_21) hr
  · show Q_moveTo Z o t x1 x2 x3 x4 y1 y2 y3 h0 n0 _ T113.heap _
    rw [e113]
    exact ⟨rfl, N113, K124, c114_E_o, c117_F_chars_o, c119_F_start_o, c120_F_length_o, Fw113⟩
abbrev cp29_8 := prog_29_method_8_code
theorem dp29_8_0 : decode cp29_8 0 = .ok (.aload_n 0, 1) := by decide +kernel
theorem dp29_8_1 : decode cp29_8 1 = .ok (.getfield 27, 3) := by decide +kernel
theorem dp29_8_4 : decode cp29_8 4 = .ok (.ireturn, 1) := by decide +kernel
abbrev y37_ : MethodName := ⟨"com/example/bufferwright/bufferwright/text/Word", "hashCode", "()I"⟩
def Q_whash (Z : State) (o : Addr) (y : Int32) (h0 : Heap) (n0 : Nat) (xv : Option Value) (xh : Heap) (xL : List Loc) : Prop := xv = some (.int y) ∧ Fr n0 xL ∧ xh = h0
theorem ef_whash (mM : MethodId) (o : Addr) (y : Int32) : entryFrame mM #[(.ref o)] 1 = mkF mM 0 #[.val (.ref o)] [] := by
  first | (simp [entryFrame, mkF, argsToLocals, Value.category]; done) | rfl
theorem rm_whash (l : Launch) (Z : State) (a0 : Array Value) (hw : HW a0 Z) (ws : List Jvm.Cond) (o : Addr) (y : Int32) (h0 : Heap) (n0 : Nat) (Z0 : n0 ≤ h0.size) (F_hash_o : Fld Z h0 o "com/example/bufferwright/bufferwright/text/Word" "hash" "I" (.int y)) :
    MetFree l y37_ (head1 (Jvm.Cond.code y37_ prog_29_method_8_code 1 (some .int) :: ws) r0_0_0_0) (fun xa xU => xa = #[(.ref o)] ∧ Z.Warmed39 xU.vm ∧ xU.heap = h0) (fun _ _ _ _ _ => True) (fun _ xU xo xU' => ∃ xv xL, xo = .returned xv ∧ Q_whash Z o y h0 n0 xv xU'.heap xL ∧ FrameEnd xU xo xU' xL r0_0_0_0.cells r0_0_0_0.slots) := by
  refine MetFree.of_bodySF (plainFor_of_name pn_com_example_bufferwright_bufferwright_text_Word) hisR ?_
  intro pP eE sS mM argS bS methS cC s₁ Bd hml0 hP hK
  obtain ⟨rfl, hZ, hh⟩ := hP
  have hx := Bd.exec
  have hby := Bd.bytes
  have hml : cC.maxLocals = 1 := hml0
  have hown : sS.vm.findClass "com/example/bufferwright/bufferwright/text/Word" = some mM.cls := findClass_of_methodNamed Bd.named
  have hnm := (name_of_methodNamed Bd.named Bd.method).1
  have X0 : Stand pP l eE r0_0_0_0 sS mM #[(.ref o)] bS methS cC s₁ [] 0 0 := Stand.of_body Bd
  have e0 : s₁.heap = h0 := by rw [← hh, Bd.state]; rfl
  have N0 := Fr.nil n0
  obtain ⟨T101, X101, e101, st101⟩ := getF X0 hx hZ hown (host := "") (Or.inl (wi hw 59 rfl)) Via.refl e0 F_hash_o (g := (mkF mM 1 #[.val (.ref o)] [(.ref o)])) rfl rfl (hb hby dp29_8_1)
  obtain ⟨fs, hr, hrun, hended, hW, hsame⟩ := X101.leave (v := some (.int y)) (fun h => by rw [Bd.returns] at h; cases h)
  refine ⟨_, _, castTop (ef_whash mM o y) ?_, hrun, hended, _, _, rfl, ?_, ⟨_, rfl⟩, hW, hsame.mono (by decide) (by decide)⟩
  · show SS pP eE bS s₁ (mkF mM 0 #[.val (.ref o)] []) _
    refine XS.aloadN X0.here hx rfl (hb hby dp29_8_0) rfl rfl ?_
    show SS pP eE bS s₁ (mkF mM 1 #[.val (.ref o)] [(.ref o)]) _
    refine st101 _ ?_
    show SS pP eE bS T101 (mkF mM 4 #[.val (.ref o)] [(.int y)]) _
    exact retI X101 hx Bd.returns (hb hby dp29_8_4) hr
  · show Q_whash Z o y h0 n0 _ T101.heap _
    rw [e101]
    exact ⟨rfl, N0, rfl⟩
-- MARK at
abbrev c41_11 := jdk_41_method_11_code
theorem d41_11_0 : decode c41_11 0 = .ok (.iload_n 0, 1) := by decide +kernel
theorem d41_11_1 : decode c41_11 1 = .ok (.ifCond .lt 8, 3) := by decide +kernel
theorem d41_11_4 : decode c41_11 4 = .ok (.iload_n 0, 1) := by decide +kernel
theorem d41_11_5 : decode c41_11 5 = .ok (.iload_n 1, 1) := by decide +kernel
theorem d41_11_6 : decode c41_11 6 = .ok (.if_icmp .lt 10, 3) := by decide +kernel
theorem d41_11_16 : decode c41_11 16 = .ok (.iload_n 0, 1) := by decide +kernel
theorem d41_11_17 : decode c41_11 17 = .ok (.ireturn, 1) := by decide +kernel
abbrev y38_ : MethodName := ⟨"jdk/internal/util/Preconditions", "checkIndex", "(IILjava/util/function/BiFunction;)I"⟩
def Q_pck (Z : State) (i : Int32) (x : Int32) (fo : Value) (h0 : Heap) (n0 : Nat) (xv : Option Value) (xh : Heap) (xL : List Loc) : Prop := xv = some (.int i) ∧ Fr n0 xL ∧ xh = h0
theorem ef_pck (mM : MethodId) (i : Int32) (x : Int32) (fo : Value) (hr_fo : (fo).isRef = true) : entryFrame mM #[(.int i), (.int x), fo] 3 = mkF mM 0 #[.val (.int i), .val (.int x), .val fo] [] := by
  cases fo <;> first | (exact Bool.noConfusion (show false = true from hr_fo)) | skip
  all_goals first | (simp [entryFrame, mkF, argsToLocals, Value.category]; done) | rfl
theorem rm_pck (l : Launch) (Z : State) (a0 : Array Value) (hw : HW a0 Z) (ws : List Jvm.Cond) (i : Int32) (x : Int32) (fo : Value) (h0 : Heap) (n0 : Nat) (Z0 : n0 ≤ h0.size) (hfo : (fo).isRef = true) (h0i : ¬ (i < (0 : Int32))) (hix : i < x) :
    MetFree l y38_ (head1 (Jvm.Cond.code y38_ jdk_41_method_11_code 3 (some .int) :: ws) r0_0_0_0) (fun xa xU => xa = #[(.int i), (.int x), fo] ∧ Z.Warmed39 xU.vm ∧ xU.heap = h0) (fun _ _ _ _ _ => True) (fun _ xU xo xU' => ∃ xv xL, xo = .returned xv ∧ Q_pck Z i x fo h0 n0 xv xU'.heap xL ∧ FrameEnd xU xo xU' xL r0_0_0_0.cells r0_0_0_0.slots) := by
  refine MetFree.of_bodySF (plainFor_of_name pn_jdk_internal_util_Preconditions) hisR ?_
  intro pP eE sS mM argS bS methS cC s₁ Bd hml0 hP hK
  obtain ⟨rfl, hZ, hh⟩ := hP
  have hx := Bd.exec
  have hby := Bd.bytes
  have hml : cC.maxLocals = 3 := hml0
  have hown : sS.vm.findClass "jdk/internal/util/Preconditions" = some mM.cls := findClass_of_methodNamed Bd.named
  have hnm := (name_of_methodNamed Bd.named Bd.method).1
  have X0 : Stand pP l eE r0_0_0_0 sS mM #[(.int i), (.int x), fo] bS methS cC s₁ [] 0 0 := Stand.of_body Bd
  have e0 : s₁.heap = h0 := by rw [← hh, Bd.state]; rfl
  have N0 := Fr.nil n0
  obtain ⟨fs, hr, hrun, hended, hW, hsame⟩ := X0.leave (v := some (.int i)) (fun h => by rw [Bd.returns] at h; cases h)
  refine ⟨_, _, castTop (ef_pck mM i x fo hfo) ?_, hrun, hended, _, _, rfl, ?_, ⟨_, rfl⟩, hW, hsame.mono (by decide) (by decide)⟩
  · show SS pP eE bS s₁ (mkF mM 0 #[.val (.int i), .val (.int x), .val fo] []) _
    refine XS.iloadN X0.here hx rfl (hb hby d41_11_0) rfl ?_
    refine XS.ifNo X0.here hx rfl (hb hby d41_11_1) rfl ((if0 _ _).trans (flt h0i).1) ?_
    refine XS.iloadN X0.here hx rfl (hb hby d41_11_4) rfl ?_
    refine XS.iloadN X0.here hx rfl (hb hby d41_11_5) rfl ?_
    show SS pP eE bS s₁ (mkF mM 6 #[.val (.int i), .val (.int x), .val fo] [(.int x), (.int i)]) _
    refine XS.icmpYes X0.here hx rfl (pc0 := 6) (pc' := 16) rfl (hb hby d41_11_6) rfl (tlt hix).1 (by decide) (by decide) ?_
    refine XS.iloadN X0.here hx rfl (hb hby d41_11_16) rfl ?_
    show SS pP eE bS s₁ (mkF mM 17 #[.val (.int i), .val (.int x), .val fo] [(.int i)]) _
    exact retI X0 hx Bd.returns (hb hby d41_11_17) hr
  · show Q_pck Z i x fo h0 n0 _ s₁.heap _
    rw [e0]
    exact ⟨rfl, N0, rfl⟩
abbrev c42_155 := jdk_42_method_155_code
theorem d42_155_0 : decode c42_155 0 = .ok (.iload_n 0, 1) := by decide +kernel
theorem d42_155_1 : decode c42_155 1 = .ok (.iload_n 1, 1) := by decide +kernel
theorem d42_155_2 : decode c42_155 2 = .ok (.getstatic 1053, 3) := by decide +kernel
theorem d42_155_5 : decode c42_155 5 = .ok (.invokestatic 1059, 3) := by decide +kernel
theorem pd_28 : parseMethodDescriptor "(IILjava/util/function/BiFunction;)I" = some ⟨[.int, .int, (.object "java/util/function/BiFunction")], some .int⟩ := by decide +kernel
theorem d42_155_8 : decode c42_155 8 = .ok (.pop, 1) := by decide +kernel
theorem d42_155_9 : decode c42_155 9 = .ok (.return_, 1) := by decide +kernel
abbrev r1_0_0_14 : Room := { frames := 1, cells := 0, slots := 0, locals := 14 }
abbrev y39_ : MethodName := ⟨"java/lang/String", "checkIndex", "(II)V"⟩
def Q_sck (Z : State) (i : Int32) (x : Int32) (fo : Value) (h0 : Heap) (n0 : Nat) (xv : Option Value) (xh : Heap) (xL : List Loc) : Prop := xv = none ∧ Fr n0 xL ∧ xh = h0
theorem ef_sck (mM : MethodId) (i : Int32) (x : Int32) (fo : Value) : entryFrame mM #[(.int i), (.int x)] 2 = mkF mM 0 #[.val (.int i), .val (.int x)] [] := by
  first | (simp [entryFrame, mkF, argsToLocals, Value.category]; done) | rfl
theorem rm_sck (l : Launch) (Z : State) (a0 : Array Value) (hw : HW a0 Z) (ws : List Jvm.Cond) (i : Int32) (x : Int32) (fo : Value) (h0 : Heap) (n0 : Nat) (Z0 : n0 ≤ h0.size) (hfo : (fo).isRef = true) (h0i : ¬ (i < (0 : Int32))) (hix : i < x) (OL : Old Z n0 h0) (S_SIOOBE_FORMATTER : Sta Z Z.heap "jdk/internal/util/Preconditions" "SIOOBE_FORMATTER" "Ljava/util/function/BiFunction;" fo) :
    MetFree l y39_ (head1 (Jvm.Cond.code y39_ jdk_42_method_155_code 2 none :: ws) r1_0_0_14) (fun xa xU => xa = #[(.int i), (.int x)] ∧ Z.Warmed39 xU.vm ∧ xU.heap = h0) (fun _ _ _ _ _ => True) (fun _ xU xo xU' => ∃ xv xL, xo = .returned xv ∧ Q_sck Z i x fo h0 n0 xv xU'.heap xL ∧ FrameEnd xU xo xU' xL r1_0_0_14.cells r1_0_0_14.slots) := by
  refine MetFree.of_bodySF (plainFor_of_name pn_java_lang_String) hisR ?_
  intro pP eE sS mM argS bS methS cC s₁ Bd hml0 hP hK
  obtain ⟨rfl, hZ, hh⟩ := hP
  have hx := Bd.exec
  have hby := Bd.bytes
  have hml : cC.maxLocals = 2 := hml0
  have hown : sS.vm.findClass "java/lang/String" = some mM.cls := findClass_of_methodNamed Bd.named
  have hnm := (name_of_methodNamed Bd.named Bd.method).1
  have X0 : Stand pP l eE r1_0_0_14 sS mM #[(.int i), (.int x)] bS methS cC s₁ [] 0 0 := Stand.of_body Bd
  have e0 : s₁.heap = h0 := by rw [← hh, Bd.state]; rfl
  have N0 := Fr.nil n0
  have c101_S_SIOOBE_FORMATTER : Sta Z h0 "jdk/internal/util/Preconditions" "SIOOBE_FORMATTER" "Ljava/util/function/BiFunction;" fo := Sta.ext OL.2 S_SIOOBE_FORMATTER
  obtain ⟨T102, X102, e102, st102⟩ := getS2 X0 hx hZ hown (host := "") (Or.inl (wi hw 96 rfl)) Via.refl e0 c101_S_SIOOBE_FORMATTER (g := (mkF mM 2 #[.val (.int i), .val (.int x)] [(.int x), (.int i)])) rfl (hb hby d42_155_2)
  obtain ⟨_, _, ⟨T103, L103, k103, n103⟩, -, X103, ⟨Lc103, hQ103, l103, y103, z103⟩, st103⟩ := Jvm.LawKit.callS X102 hx (y := y38_) hown (mvT hZ (wi hw 180 rfl)) (mvT hZ (wi hw 181 rfl)) (mvT hZ (wi hw 97 rfl)) (mvT hZ (wi hw 182 rfl)) (by decide) (backOf (W := 0) (rm_pck l Z a0 hw [] i x fo h0 n0 (by omega) hfo h0i hix) hZ (wi hw 182 rfl) (wi hw 97 rfl) (by decide) (by decide)) (g := (mkF mM 5 #[.val (.int i), .val (.int x)] [fo, (.int x), (.int i)])) rfl (by rw [hml]; rfl) (argsL := [(.int i), (.int x), fo]) (rest := []) (lenOf pd_28 rfl) rfl (by show 2 * 0 + _ ≤ _; exact Nat.le_of_eq rfl) (hb hby d42_155_5) (fun _ _ => ⟨rfl, e102, ble rfl, ble rfl⟩)
  dsimp only [Pt.U, Pt.locs, Pt.cells, Pt.slots] at X103 l103 y103 z103 st103 hQ103
  subst y103 z103
  obtain ⟨h103, e103⟩ : ∃ z, T103.heap = z := ⟨_, rfl⟩
  rw [e103] at hQ103
  obtain ⟨rfl, N103q, eq103⟩ := hQ103
  rw [eq103] at e103
  have N103 : Fr n0 L103 := by rw [l103]; exact Fr.app N0 N103q
  obtain ⟨fs, hr, hrun, hended, hW, hsame⟩ := X103.leave (v := none) (fun _ => rfl)
  refine ⟨_, _, castTop (ef_sck mM i x fo) ?_, hrun, hended, _, _, rfl, ?_, ⟨_, rfl⟩, hW, hsame.mono (by decide) (by decide)⟩
  · show SS pP eE bS s₁ (mkF mM 0 #[.val (.int i), .val (.int x)] []) _
    refine XS.iloadN X0.here hx rfl (hb hby d42_155_0) rfl ?_
    refine XS.iloadN X0.here hx rfl (hb hby d42_155_1) rfl ?_
    show SS pP eE bS s₁ (mkF mM 2 #[.val (.int i), .val (.int x)] [(.int x), (.int i)]) _
    refine st102 _ ?_
    show SS pP eE bS T102 (mkF mM 5 #[.val (.int i), .val (.int x)] [fo, (.int x), (.int i)]) _
    refine st103 _ ?_
    show SS pP eE bS T103 (mkF mM 8 #[.val (.int i), .val (.int x)] [(.int i)]) _
    refine XS.pop X103.here hx rfl (hb hby d42_155_8) rfl rfl ?_
    show SS pP eE bS T103 (mkF mM 9 #[.val (.int i), .val (.int x)] []) _
    exact X103.returnOut hx Bd.returns (hb hby d42_155_9) hr
  · show Q_sck Z i x fo h0 n0 _ T103.heap _
    rw [e103]
    exact ⟨rfl, N103, rfl⟩
abbrev c43_2 := jdk_43_method_2_code
theorem d43_2_0 : decode c43_2 0 = .ok (.iload_n 1, 1) := by decide +kernel
theorem d43_2_1 : decode c43_2 1 = .ok (.aload_n 0, 1) := by decide +kernel
theorem d43_2_2 : decode c43_2 2 = .ok (.arraylength, 1) := by decide +kernel
theorem d43_2_3 : decode c43_2 3 = .ok (.invokestatic 9, 3) := by decide +kernel
theorem d43_2_6 : decode c43_2 6 = .ok (.aload_n 0, 1) := by decide +kernel
theorem d43_2_7 : decode c43_2 7 = .ok (.iload_n 1, 1) := by decide +kernel
theorem d43_2_8 : decode c43_2 8 = .ok (.baload, 1) := by decide +kernel
theorem d43_2_9 : decode c43_2 9 = .ok (.sipush 255, 3) := by decide +kernel
theorem d43_2_12 : decode c43_2 12 = .ok (.iand, 1) := by decide +kernel
theorem d43_2_13 : decode c43_2 13 = .ok (.i2c, 1) := by decide +kernel
theorem d43_2_14 : decode c43_2 14 = .ok (.ireturn, 1) := by decide +kernel
abbrev r2_0_0_27 : Room := { frames := 2, cells := 0, slots := 0, locals := 27 }
abbrev y40_ : MethodName := ⟨"java/lang/StringLatin1", "charAt", "([BI)C"⟩
def Q_l1char (Z : State) (tb : Addr) (tk : ClassId) (z : Int32) (vs : List Value) (i : Int32) (v : Int32) (c : Int32) (fo : Value) (h0 : Heap) (n0 : Nat) (xv : Option Value) (xh : Heap) (xL : List Loc) : Prop := xv = some (.int c) ∧ Fr n0 xL ∧ xh = h0
theorem ef_l1char (mM : MethodId) (tb : Addr) (tk : ClassId) (z : Int32) (vs : List Value) (i : Int32) (v : Int32) (c : Int32) (fo : Value) : entryFrame mM #[(.ref tb), (.int i)] 2 = mkF mM 0 #[.val (.ref tb), .val (.int i)] [] := by
  first | (simp [entryFrame, mkF, argsToLocals, Value.category]; done) | rfl
theorem rm_l1char (l : Launch) (Z : State) (a0 : Array Value) (hw : HW a0 Z) (ws : List Jvm.Cond) (tb : Addr) (tk : ClassId) (z : Int32) (vs : List Value) (i : Int32) (v : Int32) (c : Int32) (fo : Value) (h0 : Heap) (n0 : Nat) (Z0 : n0 ≤ h0.size) (V_tb : Arv Z h0 tb tk .byte z vs (.int (0 : Int32))) (hfo : (fo).isRef = true) (S_SIOOBE_FORMATTER : Sta Z Z.heap "jdk/internal/util/Preconditions" "SIOOBE_FORMATTER" "Ljava/util/function/BiFunction;" fo) (OL : Old Z n0 h0) (h0i : ¬ (i < (0 : Int32))) (hiz : i < z) (hv : vs.getD (i).toNatClampNeg (.int (0 : Int32)) = (.int v)) (hvc : (v &&& (255 : Int32)) = c) (hch : Ch c) :
    MetFree l y40_ (head1 (Jvm.Cond.code y40_ jdk_43_method_2_code 2 (some .char) :: ws) r2_0_0_27) (fun xa xU => xa = #[(.ref tb), (.int i)] ∧ Z.Warmed39 xU.vm ∧ xU.heap = h0) (fun _ _ _ _ _ => True) (fun _ xU xo xU' => ∃ xv xL, xo = .returned xv ∧ Q_l1char Z tb tk z vs i v c fo h0 n0 xv xU'.heap xL ∧ FrameEnd xU xo xU' xL r2_0_0_27.cells r2_0_0_27.slots) := by
  refine MetFree.of_bodySF (plainFor_of_name pn_java_lang_StringLatin1) hisR ?_
  intro pP eE sS mM argS bS methS cC s₁ Bd hml0 hP hK
  obtain ⟨rfl, hZ, hh⟩ := hP
  have hx := Bd.exec
  have hby := Bd.bytes
  have hml : cC.maxLocals = 2 := hml0
  have hown : sS.vm.findClass "java/lang/StringLatin1" = some mM.cls := findClass_of_methodNamed Bd.named
  have hnm := (name_of_methodNamed Bd.named Bd.method).1
  have X0 : Stand pP l eE r2_0_0_27 sS mM #[(.ref tb), (.int i)] bS methS cC s₁ [] 0 0 := Stand.of_body Bd
  have e0 : s₁.heap = h0 := by rw [← hh, Bd.state]; rfl
  have N0 := Fr.nil n0
  obtain ⟨cl101, Ar101, q101, S101, Ng101, Ha101, Ga101⟩ := id V_tb
  obtain ⟨_, _, ⟨T102, L102, k102, n102⟩, -, X102, ⟨Lc102, hQ102, l102, y102, z102⟩, st102⟩ := Jvm.LawKit.callS X0 hx (y := y39_) hown (mvT hZ (wi hw 177 rfl)) (mvT hZ (wi hw 178 rfl)) (mvT hZ (wi hw 4 rfl)) (mvT hZ (wi hw 179 rfl)) (by decide) (backOf (W := 0) (rm_sck l Z a0 hw [] i z fo h0 n0 (by omega) hfo h0i hiz OL S_SIOOBE_FORMATTER) hZ (wi hw 179 rfl) (wi hw 4 rfl) (by decide) (by decide)) (g := (mkF mM 3 #[.val (.ref tb), .val (.int i)] [(.int z), (.int i)])) rfl (by rw [hml]; rfl) (argsL := [(.int i), (.int z)]) (rest := []) (lenOf pd_23 rfl) rfl (by show 2 * 0 + _ ≤ _; exact Nat.le_of_eq rfl) (hb hby d43_2_3) (fun _ _ => ⟨rfl, e0, ble rfl, ble rfl⟩)
  dsimp only [Pt.U, Pt.locs, Pt.cells, Pt.slots] at X102 l102 y102 z102 st102 hQ102
  subst y102 z102
  obtain ⟨h102, e102⟩ : ∃ z, T102.heap = z := ⟨_, rfl⟩
  rw [e102] at hQ102
  obtain ⟨rfl, N102q, eq102⟩ := hQ102
  rw [eq102] at e102
  have N102 : Fr n0 L102 := by rw [l102]; exact Fr.app N0 N102q
  obtain ⟨cl103, Ar103, q103, S103, Ng103, Ha103, Ga103⟩ := id V_tb
  have hin103 : ¬ (i < 0 ∨ cl103.slots.size ≤ (i).toNatClampNeg) := inb_of S103 ⟨h0i, hiz⟩
  have hat103 : cl103.slots[(i).toNatClampNeg]? = some (.int v) := Ha103.at hin103 (hv)
  obtain ⟨fs, hr, hrun, hended, hW, hsame⟩ := X102.leave (v := some (.int (nar .char c))) (fun h => by rw [Bd.returns] at h; cases h)
  refine ⟨_, _, castTop (ef_l1char mM tb tk z vs i v c fo) ?_, hrun, hended, _, _, rfl, ?_, ⟨_, rfl⟩, hW, hsame.mono (by decide) (by decide)⟩
  · show SS pP eE bS s₁ (mkF mM 0 #[.val (.ref tb), .val (.int i)] []) _
    refine XS.iloadN X0.here hx rfl (hb hby d43_2_0) rfl ?_
    refine XS.aloadN X0.here hx rfl (hb hby d43_2_1) rfl rfl ?_
    show SS pP eE bS s₁ (mkF mM 2 #[.val (.ref tb), .val (.int i)] [(.ref tb), (.int i)]) _
    refine X0.arraylength hx (by rw [e0]; exact Ar101.1) (State.isArrayOf_alike hZ.alike Ar101.2.1) (g := (mkF mM 2 #[.val (.ref tb), .val (.int i)] [(.ref tb), (.int i)])) rfl rfl (hb hby d43_2_2) _ ?_
    rw [len_of S101 Ng101]
    show SS pP eE bS s₁ (mkF mM 3 #[.val (.ref tb), .val (.int i)] [(.int z), (.int i)]) _
    refine st102 _ ?_
    show SS pP eE bS T102 (mkF mM 6 #[.val (.ref tb), .val (.int i)] []) _
    refine XS.aloadN X102.here hx rfl (hb hby d43_2_6) rfl rfl ?_
    refine XS.iloadN X102.here hx rfl (hb hby d43_2_7) rfl ?_
    show SS pP eE bS T102 (mkF mM 8 #[.val (.ref tb), .val (.int i)] [(.int i), (.ref tb)]) _
    refine X102.baloadBytes hx (j := i) (v := (.int v)) (by rw [e102]; exact Ar103.1) (State.isArrayOf_alike hZ.alike Ar103.2.1) Ar103.2.2 hin103 hat103 (g := (mkF mM 8 #[.val (.ref tb), .val (.int i)] [(.int i), (.ref tb)])) rfl rfl (hb hby d43_2_8) _ ?_
    show SS pP eE bS T102 (mkF mM 9 #[.val (.ref tb), .val (.int i)] [(.int v)]) _
    refine XS.sipush X102.here hx rfl (hb hby d43_2_9) ?_
    refine XS.iand X102.here hx rfl (hb hby d43_2_12) rfl ?_
    show SS pP eE bS T102 (mkF mM 13 #[.val (.ref tb), .val (.int i)] [(.int (v &&& (255 : Int32)))]) _
    rw [show (v &&& (255 : Int32)) = c from hvc]
    refine XS.i2c X102.here hx rfl (hb hby d43_2_13) rfl ?_
    show SS pP eE bS T102 (mkF mM 14 #[.val (.ref tb), .val (.int i)] [(.int (c.toUInt32.toUInt16.toUInt32.toInt32))]) _
    rw [show (c.toUInt32.toUInt16.toUInt32.toInt32) = c from hch]
    show SS pP eE bS T102 (mkF mM 14 #[.val (.ref tb), .val (.int i)] [(.int c)]) _
    exact retN X102 hx (t := .char) Bd.returns (by simp) (hb hby d43_2_14) hr
  · show Q_l1char Z tb tk z vs i v c fo h0 n0 _ T102.heap _
    rw [e102]
    exact ⟨own_retch hch, N102, rfl⟩
abbrev c52_91 := jdk_52_method_91_code
theorem d52_91_0 : decode c52_91 0 = .ok (.iload_n 0, 1) := by decide +kernel
theorem d52_91_1 : decode c52_91 1 = .ok (.aload_n 1, 1) := by decide +kernel
theorem d52_91_2 : decode c52_91 2 = .ok (.invokestatic 48, 3) := by decide +kernel
theorem d52_91_5 : decode c52_91 5 = .ok (.invokestatic 414, 3) := by decide +kernel
theorem d52_91_8 : decode c52_91 8 = .ok (.return_, 1) := by decide +kernel
abbrev y41_ : MethodName := ⟨"java/lang/StringUTF16", "checkIndex", "(I[B)V"⟩
def Q_u16ck (Z : State) (i : Int32) (tb : Addr) (tk : ClassId) (z : Int32) (vs : List Value) (n : Int32) (fo : Value) (h0 : Heap) (n0 : Nat) (xv : Option Value) (xh : Heap) (xL : List Loc) : Prop := xv = none ∧ Fr n0 xL ∧ xh = h0
theorem ef_u16ck (mM : MethodId) (i : Int32) (tb : Addr) (tk : ClassId) (z : Int32) (vs : List Value) (n : Int32) (fo : Value) : entryFrame mM #[(.int i), (.ref tb)] 2 = mkF mM 0 #[.val (.int i), .val (.ref tb)] [] := by
  first | (simp [entryFrame, mkF, argsToLocals, Value.category]; done) | rfl
theorem rm_u16ck (l : Launch) (Z : State) (a0 : Array Value) (hw : HW a0 Z) (ws : List Jvm.Cond) (i : Int32) (tb : Addr) (tk : ClassId) (z : Int32) (vs : List Value) (n : Int32) (fo : Value) (h0 : Heap) (n0 : Nat) (Z0 : n0 ≤ h0.size) (V_tb : Arv Z h0 tb tk .byte z vs (.int (0 : Int32))) (hfo : (fo).isRef = true) (S_SIOOBE_FORMATTER : Sta Z Z.heap "jdk/internal/util/Preconditions" "SIOOBE_FORMATTER" "Ljava/util/function/BiFunction;" fo) (OL : Old Z n0 h0) (hzn : (z >>> ((1 : Int32) &&& 31)) = n) (h0i : ¬ (i < (0 : Int32))) (hin : i < n) :
    MetFree l y41_ (head1 (Jvm.Cond.code y41_ jdk_52_method_91_code 2 none :: ws) r2_0_0_27) (fun xa xU => xa = #[(.int i), (.ref tb)] ∧ Z.Warmed39 xU.vm ∧ xU.heap = h0) (fun _ _ _ _ _ => True) (fun _ xU xo xU' => ∃ xv xL, xo = .returned xv ∧ Q_u16ck Z i tb tk z vs n fo h0 n0 xv xU'.heap xL ∧ FrameEnd xU xo xU' xL r2_0_0_27.cells r2_0_0_27.slots) := by
  refine MetFree.of_bodySF (plainFor_of_name pn_java_lang_StringUTF16) hisR ?_
  intro pP eE sS mM argS bS methS cC s₁ Bd hml0 hP hK
  obtain ⟨rfl, hZ, hh⟩ := hP
  have hx := Bd.exec
  have hby := Bd.bytes
  have hml : cC.maxLocals = 2 := hml0
  have hown : sS.vm.findClass "java/lang/StringUTF16" = some mM.cls := findClass_of_methodNamed Bd.named
  have hnm := (name_of_methodNamed Bd.named Bd.method).1
  have X0 : Stand pP l eE r2_0_0_27 sS mM #[(.int i), (.ref tb)] bS methS cC s₁ [] 0 0 := Stand.of_body Bd
  have e0 : s₁.heap = h0 := by rw [← hh, Bd.state]; rfl
  have N0 := Fr.nil n0
  obtain ⟨_, _, ⟨T101, L101, k101, n101⟩, -, X101, ⟨Lc101, hQ101, l101, y101, z101⟩, st101⟩ := Jvm.LawKit.callS X0 hx (y := y6_) hown (mvT hZ (wi hw 193 rfl)) (mvT hZ (wi hw 194 rfl)) (mvT hZ (wi hw 18 rfl)) (mvT hZ (wi hw 195 rfl)) (by decide) (backOf (W := 1) (rm_len16 l Z a0 hw [] tb tk z vs n h0 n0 (by omega) V_tb hzn) hZ (wi hw 195 rfl) (wi hw 18 rfl) (by decide) (by decide)) (g := (mkF mM 2 #[.val (.int i), .val (.ref tb)] [(.ref tb), (.int i)])) rfl (by rw [hml]; rfl) (argsL := [(.ref tb)]) (rest := [(.int i)]) (lenOf pd_31 rfl) rfl (by show 2 * 0 + _ ≤ _; exact Nat.le_of_eq rfl) (hb hby d52_91_2) (fun _ _ => ⟨rfl, e0, ble rfl, ble rfl⟩)
  dsimp only [Pt.U, Pt.locs, Pt.cells, Pt.slots] at X101 l101 y101 z101 st101 hQ101
  subst y101 z101
  obtain ⟨h101, e101⟩ : ∃ z, T101.heap = z := ⟨_, rfl⟩
  rw [e101] at hQ101
  obtain ⟨rfl, N101q, eq101⟩ := hQ101
  rw [eq101] at e101
  have N101 : Fr n0 L101 := by rw [l101]; exact Fr.app N0 N101q
  obtain ⟨_, _, ⟨T102, L102, k102, n102⟩, -, X102, ⟨Lc102, hQ102, l102, y102, z102⟩, st102⟩ := Jvm.LawKit.callS X101 hx (y := y39_) hown (mvT hZ (wi hw 212 rfl)) (mvT hZ (wi hw 178 rfl)) (mvT hZ (wi hw 4 rfl)) (mvT hZ (wi hw 179 rfl)) (by decide) (backOf (W := 0) (rm_sck l Z a0 hw [] i n fo h0 n0 (by omega) hfo h0i hin OL S_SIOOBE_FORMATTER) hZ (wi hw 179 rfl) (wi hw 4 rfl) (by decide) (by decide)) (g := (mkF mM 5 #[.val (.int i), .val (.ref tb)] [(.int n), (.int i)])) rfl (by rw [hml]; rfl) (argsL := [(.int i), (.int n)]) (rest := []) (lenOf pd_23 rfl) rfl (by show 2 * 0 + _ ≤ _; exact Nat.le_of_eq rfl) (hb hby d52_91_5) (fun _ _ => ⟨rfl, e101, ble rfl, ble rfl⟩)
  dsimp only [Pt.U, Pt.locs, Pt.cells, Pt.slots] at X102 l102 y102 z102 st102 hQ102
  subst y102 z102
  obtain ⟨h102, e102⟩ : ∃ z, T102.heap = z := ⟨_, rfl⟩
  rw [e102] at hQ102
  obtain ⟨rfl, N102q, eq102⟩ := hQ102
  rw [eq102] at e102
  have N102 : Fr n0 L102 := by rw [l102]; exact Fr.app N101 N102q
  obtain ⟨fs, hr, hrun, hended, hW, hsame⟩ := X102.leave (v := none) (fun _ => rfl)
  refine ⟨_, _, castTop (ef_u16ck mM i tb tk z vs n fo) ?_, hrun, hended, _, _, rfl, ?_, ⟨_, rfl⟩, hW, hsame.mono (by decide) (by decide)⟩
  · show SS pP eE bS s₁ (mkF mM 0 #[.val (.int i), .val (.ref tb)] []) _
    refine XS.iloadN X0.here hx rfl (hb hby d52_91_0) rfl ?_
    refine XS.aloadN X0.here hx rfl (hb hby d52_91_1) rfl rfl ?_
    show SS pP eE bS s₁ (mkF mM 2 #[.val (.int i), .val (.ref tb)] [(.ref tb), (.int i)]) _
    refine st101 _ ?_
    show SS pP eE bS T101 (mkF mM 5 #[.val (.int i), .val (.ref tb)] [(.int n), (.int i)]) _
    refine st102 _ ?_
    show SS pP eE bS T102 (mkF mM 8 #[.val (.int i), .val (.ref tb)] []) _
    exact X102.returnOut hx Bd.returns (hb hby d52_91_8) hr
  · show Q_u16ck Z i tb tk z vs n fo h0 n0 _ T102.heap _
    rw [e102]
    exact ⟨rfl, N102, rfl⟩
abbrev c52_83 := jdk_52_method_83_code
theorem d52_83_0 : decode c52_83 0 = .ok (.iload_n 1, 1) := by decide +kernel
theorem d52_83_1 : decode c52_83 1 = .ok (.aload_n 0, 1) := by decide +kernel
theorem d52_83_2 : decode c52_83 2 = .ok (.invokestatic 67, 3) := by decide +kernel
theorem pd_33 : parseMethodDescriptor "(I[B)V" = some ⟨[.int, (.array .byte)], none⟩ := by decide +kernel
theorem d52_83_5 : decode c52_83 5 = .ok (.aload_n 0, 1) := by decide +kernel
theorem d52_83_6 : decode c52_83 6 = .ok (.iload_n 1, 1) := by decide +kernel
theorem d52_83_7 : decode c52_83 7 = .ok (.invokestatic 71, 3) := by decide +kernel
theorem d52_83_10 : decode c52_83 10 = .ok (.ireturn, 1) := by decide +kernel
abbrev r3_0_0_40 : Room := { frames := 3, cells := 0, slots := 0, locals := 40 }
abbrev y42_ : MethodName := ⟨"java/lang/StringUTF16", "charAt", "([BI)C"⟩
def Q_u16char (Z : State) (tb : Addr) (tk : ClassId) (z : Int32) (vs : List Value) (i : Int32) (n : Int32) (c : Int32) (fo : Value) (h0 : Heap) (n0 : Nat) (xv : Option Value) (xh : Heap) (xL : List Loc) : Prop := xv = some (.int c) ∧ Fr n0 xL ∧ xh = h0
theorem ef_u16char (mM : MethodId) (tb : Addr) (tk : ClassId) (z : Int32) (vs : List Value) (i : Int32) (n : Int32) (c : Int32) (fo : Value) : entryFrame mM #[(.ref tb), (.int i)] 2 = mkF mM 0 #[.val (.ref tb), .val (.int i)] [] := by
  first | (simp [entryFrame, mkF, argsToLocals, Value.category]; done) | rfl
theorem rm_u16char (l : Launch) (Z : State) (a0 : Array Value) (hw : HW a0 Z) (ws : List Jvm.Cond) (tb : Addr) (tk : ClassId) (z : Int32) (vs : List Value) (i : Int32) (n : Int32) (c : Int32) (fo : Value) (h0 : Heap) (n0 : Nat) (Z0 : n0 ≤ h0.size) (V_tb : Arv Z h0 tb tk .byte z vs (.int (0 : Int32))) (hfo : (fo).isRef = true) (S_SIOOBE_FORMATTER : Sta Z Z.heap "jdk/internal/util/Preconditions" "SIOOBE_FORMATTER" "Ljava/util/function/BiFunction;" fo) (OL : Old Z n0 h0) (S__assertionsDisabled : Sta Z Z.heap "java/lang/StringUTF16" "$assertionsDisabled" "Z" (.int (1 : Int32))) (S_HI_BYTE_SHIFT : Sta Z Z.heap "java/lang/StringUTF16" "HI_BYTE_SHIFT" "I" (.int (0 : Int32))) (S_LO_BYTE_SHIFT : Sta Z Z.heap "java/lang/StringUTF16" "LO_BYTE_SHIFT" "I" (.int (8 : Int32))) (hzn : (z >>> ((1 : Int32) &&& 31)) = n) (h0i : ¬ (i < (0 : Int32))) (hin : i < n) (hg : GCp z vs i c) (hch : Ch c) :
    MetFree l y42_ (head1 (Jvm.Cond.code y42_ jdk_52_method_83_code 2 (some .char) :: ws) r3_0_0_40) (fun xa xU => xa = #[(.ref tb), (.int i)] ∧ Z.Warmed39 xU.vm ∧ xU.heap = h0) (fun _ _ _ _ _ => True) (fun _ xU xo xU' => ∃ xv xL, xo = .returned xv ∧ Q_u16char Z tb tk z vs i n c fo h0 n0 xv xU'.heap xL ∧ FrameEnd xU xo xU' xL r3_0_0_40.cells r3_0_0_40.slots) := by
  refine MetFree.of_bodySF (plainFor_of_name pn_java_lang_StringUTF16) hisR ?_
  intro pP eE sS mM argS bS methS cC s₁ Bd hml0 hP hK
  obtain ⟨rfl, hZ, hh⟩ := hP
  have hx := Bd.exec
  have hby := Bd.bytes
  have hml : cC.maxLocals = 2 := hml0
  have hown : sS.vm.findClass "java/lang/StringUTF16" = some mM.cls := findClass_of_methodNamed Bd.named
  have hnm := (name_of_methodNamed Bd.named Bd.method).1
  have X0 : Stand pP l eE r3_0_0_40 sS mM #[(.ref tb), (.int i)] bS methS cC s₁ [] 0 0 := Stand.of_body Bd
  have e0 : s₁.heap = h0 := by rw [← hh, Bd.state]; rfl
  have N0 := Fr.nil n0
  obtain ⟨_, _, ⟨T101, L101, k101, n101⟩, -, X101, ⟨Lc101, hQ101, l101, y101, z101⟩, st101⟩ := Jvm.LawKit.callS X0 hx (y := y41_) hown (mvT hZ (wi hw 209 rfl)) (mvT hZ (wi hw 210 rfl)) (mvT hZ (wi hw 18 rfl)) (mvT hZ (wi hw 211 rfl)) (by decide) (backOf (W := 0) (rm_u16ck l Z a0 hw [] i tb tk z vs n fo h0 n0 (by omega) V_tb hfo S_SIOOBE_FORMATTER OL hzn h0i hin) hZ (wi hw 211 rfl) (wi hw 18 rfl) (by decide) (by decide)) (g := (mkF mM 2 #[.val (.ref tb), .val (.int i)] [(.ref tb), (.int i)])) rfl (by rw [hml]; rfl) (argsL := [(.int i), (.ref tb)]) (rest := []) (lenOf pd_33 rfl) rfl (by show 2 * 0 + _ ≤ _; exact Nat.le_of_eq rfl) (hb hby d52_83_2) (fun _ _ => ⟨rfl, e0, ble rfl, ble rfl⟩)
  dsimp only [Pt.U, Pt.locs, Pt.cells, Pt.slots] at X101 l101 y101 z101 st101 hQ101
  subst y101 z101
  obtain ⟨h101, e101⟩ : ∃ z, T101.heap = z := ⟨_, rfl⟩
  rw [e101] at hQ101
  obtain ⟨rfl, N101q, eq101⟩ := hQ101
  rw [eq101] at e101
  have N101 : Fr n0 L101 := by rw [l101]; exact Fr.app N0 N101q
  obtain ⟨_, _, ⟨T102, L102, k102, n102⟩, -, X102, ⟨Lc102, hQ102, l102, y102, z102⟩, st102⟩ := Jvm.LawKit.callS X101 hx (y := y0_) hown (mvT hZ (wi hw 140 rfl)) (mvT hZ (wi hw 141 rfl)) (mvT hZ (wi hw 18 rfl)) (mvT hZ (wi hw 142 rfl)) (by decide) (backOf (W := 0) (rm_getCharG l Z a0 hw [] tb tk z vs i c h0 n0 (by omega) V_tb OL S__assertionsDisabled S_HI_BYTE_SHIFT S_LO_BYTE_SHIFT hg) hZ (wi hw 142 rfl) (wi hw 18 rfl) (by decide) (by decide)) (g := (mkF mM 7 #[.val (.ref tb), .val (.int i)] [(.int i), (.ref tb)])) rfl (by rw [hml]; rfl) (argsL := [(.ref tb), (.int i)]) (rest := []) (lenOf pd_21 rfl) rfl (by show 2 * 0 + _ ≤ _; exact Nat.le_of_eq rfl) (hb hby d52_83_7) (fun _ _ => ⟨rfl, e101, ble rfl, ble rfl⟩)
  dsimp only [Pt.U, Pt.locs, Pt.cells, Pt.slots] at X102 l102 y102 z102 st102 hQ102
  subst y102 z102
  obtain ⟨h102, e102⟩ : ∃ z, T102.heap = z := ⟨_, rfl⟩
  rw [e102] at hQ102
  obtain ⟨rfl, N102q, eq102⟩ := hQ102
  rw [eq102] at e102
  have N102 : Fr n0 L102 := by rw [l102]; exact Fr.app N101 N102q
  obtain ⟨fs, hr, hrun, hended, hW, hsame⟩ := X102.leave (v := some (.int (nar .char c))) (fun h => by rw [Bd.returns] at h; cases h)
  refine ⟨_, _, castTop (ef_u16char mM tb tk z vs i n c fo) ?_, hrun, hended, _, _, rfl, ?_, ⟨_, rfl⟩, hW, hsame.mono (by decide) (by decide)⟩
  · show SS pP eE bS s₁ (mkF mM 0 #[.val (.ref tb), .val (.int i)] []) _
    refine XS.iloadN X0.here hx rfl (hb hby d52_83_0) rfl ?_
    refine XS.aloadN X0.here hx rfl (hb hby d52_83_1) rfl rfl ?_
    show SS pP eE bS s₁ (mkF mM 2 #[.val (.ref tb), .val (.int i)] [(.ref tb), (.int i)]) _
    refine st101 _ ?_
    show SS pP eE bS T101 (mkF mM 5 #[.val (.ref tb), .val (.int i)] []) _
    refine XS.aloadN X101.here hx rfl (hb hby d52_83_5) rfl rfl ?_
    refine XS.iloadN X101.here hx rfl (hb hby d52_83_6) rfl ?_
    show SS pP eE bS T101 (mkF mM 7 #[.val (.ref tb), .val (.int i)] [(.int i), (.ref tb)]) _
    refine st102 _ ?_
    show SS pP eE bS T102 (mkF mM 10 #[.val (.ref tb), .val (.int i)] [(.int c)]) _
    exact retN X102 hx (t := .char) Bd.returns (by simp) (hb hby d52_83_10) hr
  · show Q_u16char Z tb tk z vs i n c fo h0 n0 _ T102.heap _
    rw [e102]
    exact ⟨own_retch hch, N102, rfl⟩
abbrev c42_56 := jdk_42_method_56_code
theorem d42_56_0 : decode c42_56 0 = .ok (.aload_n 0, 1) := by decide +kernel
theorem d42_56_1 : decode c42_56 1 = .ok (.invokevirtual 492, 3) := by decide +kernel
theorem d42_56_4 : decode c42_56 4 = .ok (.ifCond .eq 12, 3) := by decide +kernel
theorem d42_56_7 : decode c42_56 7 = .ok (.aload_n 0, 1) := by decide +kernel
theorem d42_56_8 : decode c42_56 8 = .ok (.getfield 9, 3) := by decide +kernel
theorem d42_56_11 : decode c42_56 11 = .ok (.iload_n 1, 1) := by decide +kernel
theorem d42_56_12 : decode c42_56 12 = .ok (.invokestatic 495, 3) := by decide +kernel
theorem d42_56_15 : decode c42_56 15 = .ok (.ireturn, 1) := by decide +kernel
theorem d42_56_16 : decode c42_56 16 = .ok (.aload_n 0, 1) := by decide +kernel
theorem d42_56_17 : decode c42_56 17 = .ok (.getfield 9, 3) := by decide +kernel
theorem d42_56_20 : decode c42_56 20 = .ok (.iload_n 1, 1) := by decide +kernel
theorem d42_56_21 : decode c42_56 21 = .ok (.invokestatic 498, 3) := by decide +kernel
theorem d42_56_24 : decode c42_56 24 = .ok (.ireturn, 1) := by decide +kernel
def Q_ch (Z : State) (c : Int32) (h0 : Heap) (n0 : Nat) (xv : Option Value) (xh : Heap) (xL : List Loc) : Prop := xv = some (.int c) ∧ Fr n0 xL ∧ xh = h0
abbrev r4_0_0_53 : Room := { frames := 4, cells := 0, slots := 0, locals := 53 }
abbrev y43_ : MethodName := ⟨"java/lang/String", "charAt", "(I)C"⟩
theorem ef_chl (mM : MethodId) (t : Addr) (tb : Addr) (tk : ClassId) (z : Int32) (vs : List Value) (i : Int32) (v : Int32) (c : Int32) (fo : Value) (cs : Int32) : entryFrame mM #[(.ref t), (.int i)] 2 = mkF mM 0 #[.val (.ref t), .val (.int i)] [] := by
  first | (simp [entryFrame, mkF, argsToLocals, Value.category]; done) | rfl
theorem rm_chl (l : Launch) (Z : State) (a0 : Array Value) (hw : HW a0 Z) (ws : List Jvm.Cond) (t : Addr) (tb : Addr) (tk : ClassId) (z : Int32) (vs : List Value) (i : Int32) (v : Int32) (c : Int32) (fo : Value) (cs : Int32) (h0 : Heap) (n0 : Nat) (Z0 : n0 ≤ h0.size) (E_t : Exa Z h0 t "java/lang/String") (F_value_t : Fld Z h0 t "java/lang/String" "value" "[B" (.ref tb)) (F_coder_t : Fld Z h0 t "java/lang/String" "coder" "B" (.int (0 : Int32))) (V_tb : Arv Z h0 tb tk .byte z vs (.int (0 : Int32))) (hfo : (fo).isRef = true) (S_SIOOBE_FORMATTER : Sta Z Z.heap "jdk/internal/util/Preconditions" "SIOOBE_FORMATTER" "Ljava/util/function/BiFunction;" fo) (OL : Old Z n0 h0) (S_COMPACT_STRINGS : Sta Z Z.heap "java/lang/String" "COMPACT_STRINGS" "Z" (.int cs)) (hcs : ¬ (cs = (0 : Int32))) (h0i : ¬ (i < (0 : Int32))) (hiz : i < z) (hv : vs.getD (i).toNatClampNeg (.int (0 : Int32)) = (.int v)) (hvc : (v &&& (255 : Int32)) = c) (hch : Ch c) :
    MetFree l y43_ (head1 (Jvm.Cond.code y43_ jdk_42_method_56_code 2 (some .char) :: ws) r4_0_0_53) (fun xa xU => xa = #[(.ref t), (.int i)] ∧ Z.Warmed39 xU.vm ∧ xU.heap = h0) (fun _ _ _ _ _ => True) (fun _ xU xo xU' => ∃ xv xL, xo = .returned xv ∧ Q_ch Z c h0 n0 xv xU'.heap xL ∧ FrameEnd xU xo xU' xL r4_0_0_53.cells r4_0_0_53.slots) := by
  refine MetFree.of_bodySF (plainFor_of_name pn_java_lang_String) hisR ?_
  intro pP eE sS mM argS bS methS cC s₁ Bd hml0 hP hK
  obtain ⟨rfl, hZ, hh⟩ := hP
  have hx := Bd.exec
  have hby := Bd.bytes
  have hml : cC.maxLocals = 2 := hml0
  have hown : sS.vm.findClass "java/lang/String" = some mM.cls := findClass_of_methodNamed Bd.named
  have hnm := (name_of_methodNamed Bd.named Bd.method).1
  have X0 : Stand pP l eE r4_0_0_53 sS mM #[(.ref t), (.int i)] bS methS cC s₁ [] 0 0 := Stand.of_body Bd
  have e0 : s₁.heap = h0 := by rw [← hh, Bd.state]; rfl
  have N0 := Fr.nil n0
  obtain ⟨cq101, kq101, q101a, q101b, q101c⟩ := isOf hZ e0 E_t
  obtain ⟨_, _, ⟨T101, L101, k101, n101⟩, -, X101, ⟨Lc101, hQ101, l101, y101, z101⟩, st101⟩ := X0.virtualBack hx (y := y13_) (z := y13_) hown (mvT hZ (wi hw 101 rfl)) (mvT hZ (wi hw 102 rfl)) (notFace_of_selects (args := #[]) (mvT hZ (wi hw 104 rfl))) (mvT hZ (wi hw 104 rfl)) (mvT hZ (wi hw 103 rfl)) (by decide) (backOf (W := 0) (rm_isl0 l Z a0 hw [] t cs h0 n0 (by omega) F_coder_t OL S_COMPACT_STRINGS hcs) hZ (wi hw 105 rfl) (wi hw 4 rfl) (by decide) (by decide)) q101a q101c (g := (mkF mM 1 #[.val (.ref t), .val (.int i)] [(.ref t)])) rfl (by rw [hml]; rfl) (Steps.refl _) (argsL := []) (rest := []) (lenOf pd_15 rfl) rfl (by show 2 * 0 + _ ≤ _; exact Nat.le_of_eq rfl) (hb hby d42_56_1) (fun _ _ => ⟨rfl, e0, ble rfl, ble rfl⟩)
  dsimp only [Pt.U, Pt.locs, Pt.cells, Pt.slots] at X101 l101 y101 z101 st101 hQ101
  subst y101 z101
  obtain ⟨h101, e101⟩ : ∃ z, T101.heap = z := ⟨_, rfl⟩
  rw [e101] at hQ101
  obtain ⟨rfl, N101q, eq101⟩ := hQ101
  rw [eq101] at e101
  have N101 : Fr n0 L101 := by rw [l101]; exact Fr.app N0 N101q
  obtain ⟨T102, X102, e102, st102⟩ := getF X101 hx hZ hown (host := "") (Or.inl (wi hw 29 rfl)) Via.refl e101 F_value_t (g := (mkF mM 8 #[.val (.ref t), .val (.int i)] [(.ref t)])) rfl rfl (hb hby d42_56_8)
  obtain ⟨_, _, ⟨T103, L103, k103, n103⟩, -, X103, ⟨Lc103, hQ103, l103, y103, z103⟩, st103⟩ := Jvm.LawKit.callS X102 hx (y := y40_) hown (mvT hZ (wi hw 174 rfl)) (mvT hZ (wi hw 175 rfl)) (mvT hZ (wi hw 108 rfl)) (mvT hZ (wi hw 176 rfl)) (by decide) (backOf (W := 0) (rm_l1char l Z a0 hw [] tb tk z vs i v c fo h0 n0 (by omega) V_tb hfo S_SIOOBE_FORMATTER OL h0i hiz hv hvc hch) hZ (wi hw 176 rfl) (wi hw 108 rfl) (by decide) (by decide)) (g := (mkF mM 12 #[.val (.ref t), .val (.int i)] [(.int i), (.ref tb)])) rfl (by rw [hml]; rfl) (argsL := [(.ref tb), (.int i)]) (rest := []) (lenOf pd_21 rfl) rfl (by show 2 * 0 + _ ≤ _; exact Nat.le_of_eq rfl) (hb hby d42_56_12) (fun _ _ => ⟨rfl, e102, ble rfl, ble rfl⟩)
  dsimp only [Pt.U, Pt.locs, Pt.cells, Pt.slots] at X103 l103 y103 z103 st103 hQ103
  subst y103 z103
  obtain ⟨h103, e103⟩ : ∃ z, T103.heap = z := ⟨_, rfl⟩
  rw [e103] at hQ103
  obtain ⟨rfl, N103q, eq103⟩ := hQ103
  rw [eq103] at e103
  have N103 : Fr n0 L103 := by rw [l103]; exact Fr.app N101 N103q
  obtain ⟨fs, hr, hrun, hended, hW, hsame⟩ := X103.leave (v := some (.int (nar .char c))) (fun h => by rw [Bd.returns] at h; cases h)
  refine ⟨_, _, castTop (ef_chl mM t tb tk z vs i v c fo cs) ?_, hrun, hended, _, _, rfl, ?_, ⟨_, rfl⟩, hW, hsame.mono (by decide) (by decide)⟩
  · show SS pP eE bS s₁ (mkF mM 0 #[.val (.ref t), .val (.int i)] []) _
    refine XS.aloadN X0.here hx rfl (hb hby d42_56_0) rfl rfl ?_
    show SS pP eE bS s₁ (mkF mM 1 #[.val (.ref t), .val (.int i)] [(.ref t)]) _
    refine st101.trans ?_
    show SS pP eE bS T101 (mkF mM 4 #[.val (.ref t), .val (.int i)] [(.int (1 : Int32))]) _
    refine XS.ifNo X101.here hx rfl (hb hby d42_56_4) rfl ((if0 _ _).trans (feq (by decide : ¬ ((1 : Int32) = (0 : Int32)))).1) ?_
    refine XS.aloadN X101.here hx rfl (hb hby d42_56_7) rfl rfl ?_
    show SS pP eE bS T101 (mkF mM 8 #[.val (.ref t), .val (.int i)] [(.ref t)]) _
    refine st102 _ ?_
    show SS pP eE bS T102 (mkF mM 11 #[.val (.ref t), .val (.int i)] [(.ref tb)]) _
    refine XS.iloadN X102.here hx rfl (hb hby d42_56_11) rfl ?_
    show SS pP eE bS T102 (mkF mM 12 #[.val (.ref t), .val (.int i)] [(.int i), (.ref tb)]) _
    refine st103 _ ?_
    show SS pP eE bS T103 (mkF mM 15 #[.val (.ref t), .val (.int i)] [(.int c)]) _
    exact retN X103 hx (t := .char) Bd.returns (by simp) (hb hby d42_56_15) hr
  · show Q_ch Z c h0 n0 _ T103.heap _
    rw [e103]
    exact ⟨own_retch hch, N103, rfl⟩
theorem ef_chu (mM : MethodId) (t : Addr) (tb : Addr) (tk : ClassId) (z : Int32) (vs : List Value) (i : Int32) (n : Int32) (c : Int32) (fo : Value) (cs : Int32) : entryFrame mM #[(.ref t), (.int i)] 2 = mkF mM 0 #[.val (.ref t), .val (.int i)] [] := by
  first | (simp [entryFrame, mkF, argsToLocals, Value.category]; done) | rfl
theorem rm_chu (l : Launch) (Z : State) (a0 : Array Value) (hw : HW a0 Z) (ws : List Jvm.Cond) (t : Addr) (tb : Addr) (tk : ClassId) (z : Int32) (vs : List Value) (i : Int32) (n : Int32) (c : Int32) (fo : Value) (cs : Int32) (h0 : Heap) (n0 : Nat) (Z0 : n0 ≤ h0.size) (E_t : Exa Z h0 t "java/lang/String") (F_value_t : Fld Z h0 t "java/lang/String" "value" "[B" (.ref tb)) (F_coder_t : Fld Z h0 t "java/lang/String" "coder" "B" (.int (1 : Int32))) (V_tb : Arv Z h0 tb tk .byte z vs (.int (0 : Int32))) (hfo : (fo).isRef = true) (S_SIOOBE_FORMATTER : Sta Z Z.heap "jdk/internal/util/Preconditions" "SIOOBE_FORMATTER" "Ljava/util/function/BiFunction;" fo) (OL : Old Z n0 h0) (S__assertionsDisabled : Sta Z Z.heap "java/lang/StringUTF16" "$assertionsDisabled" "Z" (.int (1 : Int32))) (S_HI_BYTE_SHIFT : Sta Z Z.heap "java/lang/StringUTF16" "HI_BYTE_SHIFT" "I" (.int (0 : Int32))) (S_LO_BYTE_SHIFT : Sta Z Z.heap "java/lang/StringUTF16" "LO_BYTE_SHIFT" "I" (.int (8 : Int32))) (S_COMPACT_STRINGS : Sta Z Z.heap "java/lang/String" "COMPACT_STRINGS" "Z" (.int cs)) (hcs : ¬ (cs = (0 : Int32))) (hzn : (z >>> ((1 : Int32) &&& 31)) = n) (h0i : ¬ (i < (0 : Int32))) (hin : i < n) (hg : GCp z vs i c) (hch : Ch c) :
    MetFree l y43_ (head1 (Jvm.Cond.code y43_ jdk_42_method_56_code 2 (some .char) :: ws) r4_0_0_53) (fun xa xU => xa = #[(.ref t), (.int i)] ∧ Z.Warmed39 xU.vm ∧ xU.heap = h0) (fun _ _ _ _ _ => True) (fun _ xU xo xU' => ∃ xv xL, xo = .returned xv ∧ Q_ch Z c h0 n0 xv xU'.heap xL ∧ FrameEnd xU xo xU' xL r4_0_0_53.cells r4_0_0_53.slots) := by
  refine MetFree.of_bodySF (plainFor_of_name pn_java_lang_String) hisR ?_
  intro pP eE sS mM argS bS methS cC s₁ Bd hml0 hP hK
  obtain ⟨rfl, hZ, hh⟩ := hP
  have hx := Bd.exec
  have hby := Bd.bytes
  have hml : cC.maxLocals = 2 := hml0
  have hown : sS.vm.findClass "java/lang/String" = some mM.cls := findClass_of_methodNamed Bd.named
  have hnm := (name_of_methodNamed Bd.named Bd.method).1
  have X0 : Stand pP l eE r4_0_0_53 sS mM #[(.ref t), (.int i)] bS methS cC s₁ [] 0 0 := Stand.of_body Bd
  have e0 : s₁.heap = h0 := by rw [← hh, Bd.state]; rfl
  have N0 := Fr.nil n0
  obtain ⟨cq101, kq101, q101a, q101b, q101c⟩ := isOf hZ e0 E_t
  obtain ⟨_, _, ⟨T101, L101, k101, n101⟩, -, X101, ⟨Lc101, hQ101, l101, y101, z101⟩, st101⟩ := X0.virtualBack hx (y := y13_) (z := y13_) hown (mvT hZ (wi hw 101 rfl)) (mvT hZ (wi hw 102 rfl)) (notFace_of_selects (args := #[]) (mvT hZ (wi hw 104 rfl))) (mvT hZ (wi hw 104 rfl)) (mvT hZ (wi hw 103 rfl)) (by decide) (backOf (W := 0) (rm_isl1 l Z a0 hw [] t cs h0 n0 (by omega) F_coder_t OL S_COMPACT_STRINGS hcs) hZ (wi hw 105 rfl) (wi hw 4 rfl) (by decide) (by decide)) q101a q101c (g := (mkF mM 1 #[.val (.ref t), .val (.int i)] [(.ref t)])) rfl (by rw [hml]; rfl) (Steps.refl _) (argsL := []) (rest := []) (lenOf pd_15 rfl) rfl (by show 2 * 0 + _ ≤ _; exact Nat.le_of_eq rfl) (hb hby d42_56_1) (fun _ _ => ⟨rfl, e0, ble rfl, ble rfl⟩)
  dsimp only [Pt.U, Pt.locs, Pt.cells, Pt.slots] at X101 l101 y101 z101 st101 hQ101
  subst y101 z101
  obtain ⟨h101, e101⟩ : ∃ z, T101.heap = z := ⟨_, rfl⟩
  rw [e101] at hQ101
  obtain ⟨rfl, N101q, eq101⟩ := hQ101
  rw [eq101] at e101
  have N101 : Fr n0 L101 := by rw [l101]; exact Fr.app N0 N101q
  obtain ⟨T102, X102, e102, st102⟩ := getF X101 hx hZ hown (host := "") (Or.inl (wi hw 29 rfl)) Via.refl e101 F_value_t (g := (mkF mM 17 #[.val (.ref t), .val (.int i)] [(.ref t)])) rfl rfl (hb hby d42_56_17)
  obtain ⟨_, _, ⟨T103, L103, k103, n103⟩, -, X103, ⟨Lc103, hQ103, l103, y103, z103⟩, st103⟩ := Jvm.LawKit.callS X102 hx (y := y42_) hown (mvT hZ (wi hw 206 rfl)) (mvT hZ (wi hw 207 rfl)) (mvT hZ (wi hw 18 rfl)) (mvT hZ (wi hw 208 rfl)) (by decide) (backOf (W := 0) (rm_u16char l Z a0 hw [] tb tk z vs i n c fo h0 n0 (by omega) V_tb hfo S_SIOOBE_FORMATTER OL S__assertionsDisabled S_HI_BYTE_SHIFT S_LO_BYTE_SHIFT hzn h0i hin hg hch) hZ (wi hw 208 rfl) (wi hw 18 rfl) (by decide) (by decide)) (g := (mkF mM 21 #[.val (.ref t), .val (.int i)] [(.int i), (.ref tb)])) rfl (by rw [hml]; rfl) (argsL := [(.ref tb), (.int i)]) (rest := []) (lenOf pd_21 rfl) rfl (by show 2 * 0 + _ ≤ _; exact Nat.le_of_eq rfl) (hb hby d42_56_21) (fun _ _ => ⟨rfl, e102, ble rfl, ble rfl⟩)
  dsimp only [Pt.U, Pt.locs, Pt.cells, Pt.slots] at X103 l103 y103 z103 st103 hQ103
  subst y103 z103
  obtain ⟨h103, e103⟩ : ∃ z, T103.heap = z := ⟨_, rfl⟩
  rw [e103] at hQ103
  obtain ⟨rfl, N103q, eq103⟩ := hQ103
  rw [eq103] at e103
  have N103 : Fr n0 L103 := by rw [l103]; exact Fr.app N101 N103q
  obtain ⟨fs, hr, hrun, hended, hW, hsame⟩ := X103.leave (v := some (.int (nar .char c))) (fun h => by rw [Bd.returns] at h; cases h)
  refine ⟨_, _, castTop (ef_chu mM t tb tk z vs i n c fo cs) ?_, hrun, hended, _, _, rfl, ?_, ⟨_, rfl⟩, hW, hsame.mono (by decide) (by decide)⟩
  · show SS pP eE bS s₁ (mkF mM 0 #[.val (.ref t), .val (.int i)] []) _
    refine XS.aloadN X0.here hx rfl (hb hby d42_56_0) rfl rfl ?_
    show SS pP eE bS s₁ (mkF mM 1 #[.val (.ref t), .val (.int i)] [(.ref t)]) _
    refine st101.trans ?_
    show SS pP eE bS T101 (mkF mM 4 #[.val (.ref t), .val (.int i)] [(.int (0 : Int32))]) _
    refine XS.ifYes X101.here hx rfl (pc0 := 4) (pc' := 16) rfl (hb hby d42_56_4) rfl ((if0 _ _).trans (teq (by decide : (0 : Int32) = (0 : Int32))).1) (by decide) (by decide) ?_
    refine XS.aloadN X101.here hx rfl (hb hby d42_56_16) rfl rfl ?_
    show SS pP eE bS T101 (mkF mM 17 #[.val (.ref t), .val (.int i)] [(.ref t)]) _
    refine st102 _ ?_
    show SS pP eE bS T102 (mkF mM 20 #[.val (.ref t), .val (.int i)] [(.ref tb)]) _
    refine XS.iloadN X102.here hx rfl (hb hby d42_56_20) rfl ?_
    show SS pP eE bS T102 (mkF mM 21 #[.val (.ref t), .val (.int i)] [(.int i), (.ref tb)]) _
    refine st103 _ ?_
    show SS pP eE bS T103 (mkF mM 24 #[.val (.ref t), .val (.int i)] [(.int c)]) _
    exact retN X103 hx (t := .char) Bd.returns (by simp) (hb hby d42_56_24) hr
  · show Q_ch Z c h0 n0 _ T103.heap _
    rw [e103]
    exact ⟨own_retch hch, N103, rfl⟩
theorem rm_charAt (l : Launch) (Z : State) (a0 : Array Value) (hw : HW a0 Z) (ws : List Jvm.Cond) (t : Addr) (tb : Addr) (tk : ClassId) (z : Int32) (vs : List Value) (i : Int32) (co : Int32) (c : Int32) (fo : Value) (cs : Int32) (h0 : Heap) (n0 : Nat) (Z0 : n0 ≤ h0.size) (E_t : Exa Z h0 t "java/lang/String") (F_value_t : Fld Z h0 t "java/lang/String" "value" "[B" (.ref tb)) (F_coder_t : Fld Z h0 t "java/lang/String" "coder" "B" (.int co)) (V_tb : Arv Z h0 tb tk .byte z vs (.int (0 : Int32))) (hfo : (fo).isRef = true) (S_SIOOBE_FORMATTER : Sta Z Z.heap "jdk/internal/util/Preconditions" "SIOOBE_FORMATTER" "Ljava/util/function/BiFunction;" fo) (OL : Old Z n0 h0) (S__assertionsDisabled : Sta Z Z.heap "java/lang/StringUTF16" "$assertionsDisabled" "Z" (.int (1 : Int32))) (S_HI_BYTE_SHIFT : Sta Z Z.heap "java/lang/StringUTF16" "HI_BYTE_SHIFT" "I" (.int (0 : Int32))) (S_LO_BYTE_SHIFT : Sta Z Z.heap "java/lang/StringUTF16" "LO_BYTE_SHIFT" "I" (.int (8 : Int32))) (S_COMPACT_STRINGS : Sta Z Z.heap "java/lang/String" "COMPACT_STRINGS" "Z" (.int cs)) (hcs : ¬ (cs = (0 : Int32))) (hcat : Cat co z vs i c) :
    MetFree l y43_ (head1 (Jvm.Cond.code y43_ jdk_42_method_56_code 2 (some .char) :: ws) r4_0_0_53) (fun xa xU => xa = #[(.ref t), (.int i)] ∧ Z.Warmed39 xU.vm ∧ xU.heap = h0) (fun _ _ _ _ _ => True) (fun _ xU xo xU' => ∃ xv xL, xo = .returned xv ∧ Q_ch Z c h0 n0 xv xU'.heap xL ∧ FrameEnd xU xo xU' xL r4_0_0_53.cells r4_0_0_53.slots) := by
  obtain ⟨hch, ⟨rfl, h0i, hiz, v, hv, hvc⟩ | ⟨rfl, n, hzn, h0i, hin, hg⟩⟩ := hcat
  · exact rm_chl l Z a0 hw ws t tb tk z vs i v c fo cs h0 n0 Z0 E_t F_value_t F_coder_t V_tb hfo S_SIOOBE_FORMATTER OL S_COMPACT_STRINGS hcs h0i hiz hv hvc hch
  · exact rm_chu l Z a0 hw ws t tb tk z vs i n c fo cs h0 n0 Z0 E_t F_value_t F_coder_t V_tb hfo S_SIOOBE_FORMATTER OL S__assertionsDisabled S_HI_BYTE_SHIFT S_LO_BYTE_SHIFT S_COMPACT_STRINGS hcs hzn h0i hin hg hch
abbrev c3 := method_3_code
theorem d3_0 : decode c3 0 = .ok (.iload 4, 2) := by decide +kernel
theorem d3_2 : decode c3 2 = .ok (.iload_n 3, 1) := by decide +kernel
theorem d3_3 : decode c3 3 = .ok (.if_icmp .lt 5, 3) := by decide +kernel
theorem d3_6 : decode c3 6 = .ok (.iconst 1, 1) := by decide +kernel
theorem d3_7 : decode c3 7 = .ok (.ireturn, 1) := by decide +kernel
theorem d3_8 : decode c3 8 = .ok (.aload_n 0, 1) := by decide +kernel
theorem d3_9 : decode c3 9 = .ok (.iload 4, 2) := by decide +kernel
theorem d3_11 : decode c3 11 = .ok (.invokevirtual 38, 3) := by decide +kernel
theorem pd_27 : parseMethodDescriptor "(I)C" = some ⟨[.int], some .char⟩ := by decide +kernel
theorem d3_14 : decode c3 14 = .ok (.aload_n 1, 1) := by decide +kernel
theorem d3_15 : decode c3 15 = .ok (.iload_n 2, 1) := by decide +kernel
theorem d3_16 : decode c3 16 = .ok (.iload 4, 2) := by decide +kernel
theorem d3_18 : decode c3 18 = .ok (.iadd, 1) := by decide +kernel
theorem d3_19 : decode c3 19 = .ok (.caload, 1) := by decide +kernel
theorem d3_20 : decode c3 20 = .ok (.if_icmp .ne 7, 3) := by decide +kernel
theorem d3_23 : decode c3 23 = .ok (.iconst 1, 1) := by decide +kernel
theorem d3_24 : decode c3 24 = .ok (.goto 4, 3) := by decide +kernel
theorem d3_28 : decode c3 28 = .ok (.ireturn, 1) := by decide +kernel
def Q_at (Z : State)  (h0 : Heap) (n0 : Nat) (xv : Option Value) (xh : Heap) (xL : List Loc) : Prop := xv = some (.int (1 : Int32)) ∧ Fr n0 xL ∧ xh = h0
abbrev r5_0_0_66 : Room := { frames := 5, cells := 0, slots := 0, locals := 66 }
abbrev y44_ : MethodName := ⟨"com/example/bufferwright/bufferwright/text/WordMoveToPinLaw", "at", "(Ljava/lang/String;[CIII)Z"⟩
theorem pn_com_example_bufferwright_bufferwright_text_WordMoveToPinLaw : plainName "com/example/bufferwright/bufferwright/text/WordMoveToPinLaw" = true := by first | (simp [plainName, overriddenIn]; done) | decide +kernel
abbrev Lc_at_ge_0 (t : Addr) (a1 : Addr) (st : Int32) (ln : Int32) (i : Int32) : Array Slot := #[.val (.ref t), .val (.ref a1), .val (.int st), .val (.int ln), .val (.int i)]
theorem ef_at_ge (mM : MethodId) (t : Addr) (a1 : Addr) (st : Int32) (ln : Int32) (i : Int32) : entryFrame mM #[(.ref t), (.ref a1), (.int st), (.int ln), (.int i)] 5 = mkF mM 0 #[.val (.ref t), .val (.ref a1), .val (.int st), .val (.int ln), .val (.int i)] [] := by
  first | (simp [entryFrame, mkF, argsToLocals, Value.category]; done) | rfl
theorem rm_at_ge (l : Launch) (Z : State) (a0 : Array Value) (hw : HW a0 Z) (ws : List Jvm.Cond) (t : Addr) (a1 : Addr) (st : Int32) (ln : Int32) (i : Int32) (h0 : Heap) (n0 : Nat) (Z0 : n0 ≤ h0.size) (hge : ¬ (i < ln)) :
    MetFree l y44_ (head1 (Jvm.Cond.code y44_ method_3_code 5 (some .boolean) :: ws) r5_0_0_66) (fun xa xU => xa = #[(.ref t), (.ref a1), (.int st), (.int ln), (.int i)] ∧ Z.Warmed39 xU.vm ∧ xU.heap = h0) (fun _ _ _ _ _ => True) (fun _ xU xo xU' => ∃ xv xL, xo = .returned xv ∧ Q_at Z   h0 n0 xv xU'.heap xL ∧ FrameEnd xU xo xU' xL r5_0_0_66.cells r5_0_0_66.slots) := by
  refine MetFree.of_bodySF (plainFor_of_name pn_com_example_bufferwright_bufferwright_text_WordMoveToPinLaw) hisR ?_
  intro pP eE sS mM argS bS methS cC s₁ Bd hml0 hP hK
  obtain ⟨rfl, hZ, hh⟩ := hP
  have hx := Bd.exec
  have hby := Bd.bytes
  have hml : cC.maxLocals = 5 := hml0
  have hown : sS.vm.findClass "com/example/bufferwright/bufferwright/text/WordMoveToPinLaw" = some mM.cls := findClass_of_methodNamed Bd.named
  have hnm := (name_of_methodNamed Bd.named Bd.method).1
  have X0 : Stand pP l eE r5_0_0_66 sS mM #[(.ref t), (.ref a1), (.int st), (.int ln), (.int i)] bS methS cC s₁ [] 0 0 := Stand.of_body Bd
  have e0 : s₁.heap = h0 := by rw [← hh, Bd.state]; rfl
  have N0 := Fr.nil n0
  obtain ⟨fs, hr, hrun, hended, hW, hsame⟩ := X0.leave (v := some (.int (1 : Int32))) (fun h => by rw [Bd.returns] at h; cases h)
  refine ⟨_, _, castTop (ef_at_ge mM t a1 st ln i) ?_, hrun, hended, _, _, rfl, ?_, ⟨_, rfl⟩, hW, hsame.mono (by decide) (by decide)⟩
  · show SS pP eE bS s₁ (mkF mM 0 (Lc_at_ge_0 t a1 st ln i) []) _
    refine XS.iload X0.here hx rfl (hb hby d3_0) rfl ?_
    refine XS.iloadN X0.here hx rfl (hb hby d3_2) rfl ?_
    refine XS.icmpNo X0.here hx rfl (hb hby d3_3) rfl (flt hge).1 ?_
    refine XS.iconst X0.here hx rfl (hb hby d3_6) ?_
    show SS pP eE bS s₁ (mkF mM 7 (Lc_at_ge_0 t a1 st ln i) [(.int (1 : Int32))]) _
    exact retN X0 hx (t := .boolean) Bd.returns (by simp) (hb hby d3_7) hr
  · show Q_at Z   h0 n0 _ s₁.heap _
    rw [e0]
    exact ⟨rfl, N0, rfl⟩
abbrev Lc_at_lt_0 (t : Addr) (a1 : Addr) (st : Int32) (ln : Int32) (i : Int32) : Array Slot := #[.val (.ref t), .val (.ref a1), .val (.int st), .val (.int ln), .val (.int i)]
theorem ef_at_lt (mM : MethodId) (t : Addr) (a1 : Addr) (st : Int32) (ln : Int32) (i : Int32) (tb : Addr) (tk : ClassId) (z : Int32) (vs : List Value) (co : Int32) (c : Int32) (k1 : ClassId) (xs : List Value) (fo : Value) (cs : Int32) : entryFrame mM #[(.ref t), (.ref a1), (.int st), (.int ln), (.int i)] 5 = mkF mM 0 #[.val (.ref t), .val (.ref a1), .val (.int st), .val (.int ln), .val (.int i)] [] := by
  first | (simp [entryFrame, mkF, argsToLocals, Value.category]; done) | rfl
theorem rm_at_lt (l : Launch) (Z : State) (a0 : Array Value) (hw : HW a0 Z) (ws : List Jvm.Cond) (t : Addr) (a1 : Addr) (st : Int32) (ln : Int32) (i : Int32) (tb : Addr) (tk : ClassId) (z : Int32) (vs : List Value) (co : Int32) (c : Int32) (k1 : ClassId) (xs : List Value) (fo : Value) (cs : Int32) (h0 : Heap) (n0 : Nat) (Z0 : n0 ≤ h0.size) (E_t : Exa Z h0 t "java/lang/String") (F_value_t : Fld Z h0 t "java/lang/String" "value" "[B" (.ref tb)) (F_coder_t : Fld Z h0 t "java/lang/String" "coder" "B" (.int co)) (V_tb : Arv Z h0 tb tk .byte z vs (.int (0 : Int32))) (hfo : (fo).isRef = true) (S_SIOOBE_FORMATTER : Sta Z Z.heap "jdk/internal/util/Preconditions" "SIOOBE_FORMATTER" "Ljava/util/function/BiFunction;" fo) (OL : Old Z n0 h0) (S__assertionsDisabled : Sta Z Z.heap "java/lang/StringUTF16" "$assertionsDisabled" "Z" (.int (1 : Int32))) (S_HI_BYTE_SHIFT : Sta Z Z.heap "java/lang/StringUTF16" "HI_BYTE_SHIFT" "I" (.int (0 : Int32))) (S_LO_BYTE_SHIFT : Sta Z Z.heap "java/lang/StringUTF16" "LO_BYTE_SHIFT" "I" (.int (8 : Int32))) (S_COMPACT_STRINGS : Sta Z Z.heap "java/lang/String" "COMPACT_STRINGS" "Z" (.int cs)) (hcs : ¬ (cs = (0 : Int32))) (V_a1 : Arv Z h0 a1 k1 .char (4 : Int32) xs (.int (0 : Int32))) (hlt : i < ln) (hcat : Cat co z vs i c) (k1a : ¬ ((st + i) < (0 : Int32))) (k1b : (st + i) < (4 : Int32)) (kel : xs.getD ((st + i)).toNatClampNeg (.int (0 : Int32)) = (.int c)) :
    MetFree l y44_ (head1 (Jvm.Cond.code y44_ method_3_code 5 (some .boolean) :: ws) r5_0_0_66) (fun xa xU => xa = #[(.ref t), (.ref a1), (.int st), (.int ln), (.int i)] ∧ Z.Warmed39 xU.vm ∧ xU.heap = h0) (fun _ _ _ _ _ => True) (fun _ xU xo xU' => ∃ xv xL, xo = .returned xv ∧ Q_at Z   h0 n0 xv xU'.heap xL ∧ FrameEnd xU xo xU' xL r5_0_0_66.cells r5_0_0_66.slots) := by
  refine MetFree.of_bodySF (plainFor_of_name pn_com_example_bufferwright_bufferwright_text_WordMoveToPinLaw) hisR ?_
  intro pP eE sS mM argS bS methS cC s₁ Bd hml0 hP hK
  obtain ⟨rfl, hZ, hh⟩ := hP
  have hx := Bd.exec
  have hby := Bd.bytes
  have hml : cC.maxLocals = 5 := hml0
  have hown : sS.vm.findClass "com/example/bufferwright/bufferwright/text/WordMoveToPinLaw" = some mM.cls := findClass_of_methodNamed Bd.named
  have hnm := (name_of_methodNamed Bd.named Bd.method).1
  have X0 : Stand pP l eE r5_0_0_66 sS mM #[(.ref t), (.ref a1), (.int st), (.int ln), (.int i)] bS methS cC s₁ [] 0 0 := Stand.of_body Bd
  have e0 : s₁.heap = h0 := by rw [← hh, Bd.state]; rfl
  have N0 := Fr.nil n0
  obtain ⟨cq101, kq101, q101a, q101b, q101c⟩ := isOf hZ e0 E_t
  obtain ⟨_, _, ⟨T101, L101, k101, n101⟩, -, X101, ⟨Lc101, hQ101, l101, y101, z101⟩, st101⟩ := X0.virtualBack hx (y := y43_) (z := y43_) hown (mvT hZ (wi hw 169 rfl)) (mvT hZ (wi hw 170 rfl)) (notFace_of_selects (args := #[]) (mvT hZ (wi hw 172 rfl))) (mvT hZ (wi hw 172 rfl)) (mvT hZ (wi hw 171 rfl)) (by decide) (backOf (W := 0) (rm_charAt l Z a0 hw [] t tb tk z vs i co c fo cs h0 n0 (by omega) E_t F_value_t F_coder_t V_tb hfo S_SIOOBE_FORMATTER OL S__assertionsDisabled S_HI_BYTE_SHIFT S_LO_BYTE_SHIFT S_COMPACT_STRINGS hcs hcat) hZ (wi hw 173 rfl) (wi hw 4 rfl) (by decide) (by decide)) q101a q101c (g := (mkF mM 11 (Lc_at_lt_0 t a1 st ln i) [(.int i), (.ref t)])) rfl (by rw [hml]; rfl) (Steps.refl _) (argsL := [(.int i)]) (rest := []) (lenOf pd_27 rfl) rfl (by show 2 * 0 + _ ≤ _; exact Nat.le_of_eq rfl) (hb hby d3_11) (fun _ _ => ⟨rfl, e0, ble rfl, ble rfl⟩)
  dsimp only [Pt.U, Pt.locs, Pt.cells, Pt.slots] at X101 l101 y101 z101 st101 hQ101
  subst y101 z101
  obtain ⟨h101, e101⟩ : ∃ z, T101.heap = z := ⟨_, rfl⟩
  rw [e101] at hQ101
  obtain ⟨rfl, N101q, eq101⟩ := hQ101
  rw [eq101] at e101
  have N101 : Fr n0 L101 := by rw [l101]; exact Fr.app N0 N101q
  obtain ⟨cl102, Ar102, q102, S102, Ng102, Ha102, Ga102⟩ := id V_a1
  have hin102 : ¬ ((st + i) < 0 ∨ cl102.slots.size ≤ ((st + i)).toNatClampNeg) := inb_of S102 ⟨k1a, k1b⟩
  have hat102 : cl102.slots[((st + i)).toNatClampNeg]? = some (.int c) := Ha102.at hin102 (kel)
  obtain ⟨fs, hr, hrun, hended, hW, hsame⟩ := X101.leave (v := some (.int (1 : Int32))) (fun h => by rw [Bd.returns] at h; cases h)
  refine ⟨_, _, castTop (ef_at_lt mM t a1 st ln i tb tk z vs co c k1 xs fo cs) ?_, hrun, hended, _, _, rfl, ?_, ⟨_, rfl⟩, hW, hsame.mono (by decide) (by decide)⟩
  · show SS pP eE bS s₁ (mkF mM 0 (Lc_at_lt_0 t a1 st ln i) []) _
    refine XS.iload X0.here hx rfl (hb hby d3_0) rfl ?_
    refine XS.iloadN X0.here hx rfl (hb hby d3_2) rfl ?_
    refine XS.icmpYes X0.here hx rfl (pc0 := 3) (pc' := 8) rfl (hb hby d3_3) rfl (tlt hlt).1 (by decide) (by decide) ?_
    refine XS.aloadN X0.here hx rfl (hb hby d3_8) rfl rfl ?_
    show SS pP eE bS s₁ (mkF mM 9 (Lc_at_lt_0 t a1 st ln i) [(.ref t)]) _
    refine XS.iload X0.here hx rfl (hb hby d3_9) rfl ?_
    show SS pP eE bS s₁ (mkF mM 11 (Lc_at_lt_0 t a1 st ln i) [(.int i), (.ref t)]) _
    refine st101.trans ?_
    show SS pP eE bS T101 (mkF mM 14 (Lc_at_lt_0 t a1 st ln i) [(.int c)]) _
    refine XS.aloadN X101.here hx rfl (hb hby d3_14) rfl rfl ?_
    refine XS.iloadN X101.here hx rfl (hb hby d3_15) rfl ?_
    refine XS.iload X101.here hx rfl (hb hby d3_16) rfl ?_
    refine XS.iadd X101.here hx rfl (hb hby d3_18) rfl ?_
    show SS pP eE bS T101 (mkF mM 19 (Lc_at_lt_0 t a1 st ln i) [(.int (st + i)), (.ref a1), (.int c)]) _
    refine X101.caload hx (j := (st + i)) (v := (.int c)) (by rw [e101]; exact Ar102.1) (State.isArrayOf_alike hZ.alike Ar102.2.1) Ar102.2.2 hin102 hat102 (g := (mkF mM 19 (Lc_at_lt_0 t a1 st ln i) [(.int (st + i)), (.ref a1), (.int c)])) rfl rfl (hb hby d3_19) _ ?_
    show SS pP eE bS T101 (mkF mM 20 (Lc_at_lt_0 t a1 st ln i) [(.int c), (.int c)]) _
    refine XS.icmpNo X101.here hx rfl (hb hby d3_20) rfl (teq (rfl : c = c)).2 ?_
    refine XS.iconst X101.here hx rfl (hb hby d3_23) ?_
    refine XS.goto X101.here hx rfl (pc0 := 24) (pc' := 28) rfl (hb hby d3_24) (by decide) (by decide) ?_
    show SS pP eE bS T101 (mkF mM 28 (Lc_at_lt_0 t a1 st ln i) [(.int (1 : Int32))]) _
    exact retN X101 hx (t := .boolean) Bd.returns (by simp) (hb hby d3_28) hr
  · show Q_at Z   h0 n0 _ T101.heap _
    rw [e101]
    exact ⟨rfl, N101, rfl⟩
theorem rm_at_0 (l : Launch) (Z : State) (a0 : Array Value) (hw : HW a0 Z) (ws : List Jvm.Cond) (t : Addr) (a1 : Addr) (st : Int32) (ln : Int32) (tb : Addr) (tk : ClassId) (z : Int32) (vs : List Value) (co : Int32) (k1 : ClassId) (c0 : Int32) (c1 : Int32) (c2 : Int32) (c3 : Int32) (fo : Value) (cs : Int32) (h0 : Heap) (n0 : Nat) (Z0 : n0 ≤ h0.size) (E_t : Exa Z h0 t "java/lang/String") (F_value_t : Fld Z h0 t "java/lang/String" "value" "[B" (.ref tb)) (F_coder_t : Fld Z h0 t "java/lang/String" "coder" "B" (.int co)) (V_tb : Arv Z h0 tb tk .byte z vs (.int (0 : Int32))) (hfo : (fo).isRef = true) (S_SIOOBE_FORMATTER : Sta Z Z.heap "jdk/internal/util/Preconditions" "SIOOBE_FORMATTER" "Ljava/util/function/BiFunction;" fo) (OL : Old Z n0 h0) (S__assertionsDisabled : Sta Z Z.heap "java/lang/StringUTF16" "$assertionsDisabled" "Z" (.int (1 : Int32))) (S_HI_BYTE_SHIFT : Sta Z Z.heap "java/lang/StringUTF16" "HI_BYTE_SHIFT" "I" (.int (0 : Int32))) (S_LO_BYTE_SHIFT : Sta Z Z.heap "java/lang/StringUTF16" "LO_BYTE_SHIFT" "I" (.int (8 : Int32))) (S_COMPACT_STRINGS : Sta Z Z.heap "java/lang/String" "COMPACT_STRINGS" "Z" (.int cs)) (hcs : ¬ (cs = (0 : Int32))) (V_a1 : Arv Z h0 a1 k1 .char (4 : Int32) [(.int c0), (.int c1), (.int c2), (.int c3)] (.int (0 : Int32))) (con : StrC co z vs (sub4 st ln c0 c1 c2 c3)) (hcm : Combo st ln) (f0 : Ch c0) (f1 : Ch c1) (f2 : Ch c2) (f3 : Ch c3) :
    MetFree l y44_ (head1 (Jvm.Cond.code y44_ method_3_code 5 (some .boolean) :: ws) r5_0_0_66) (fun xa xU => xa = #[(.ref t), (.ref a1), (.int st), (.int ln), (.int (0 : Int32))] ∧ Z.Warmed39 xU.vm ∧ xU.heap = h0) (fun _ _ _ _ _ => True) (fun _ xU xo xU' => ∃ xv xL, xo = .returned xv ∧ Q_at Z   h0 n0 xv xU'.heap xL ∧ FrameEnd xU xo xU' xL r5_0_0_66.cells r5_0_0_66.slots) := by
  rcases hcm with ⟨rfl, rfl⟩ | ⟨rfl, rfl⟩ | ⟨rfl, rfl⟩ | ⟨rfl, rfl⟩ | ⟨rfl, rfl⟩ | ⟨rfl, rfl⟩ | ⟨rfl, rfl⟩ | ⟨rfl, rfl⟩ | ⟨rfl, rfl⟩ | ⟨rfl, rfl⟩ | ⟨rfl, rfl⟩ | ⟨rfl, rfl⟩ | ⟨rfl, rfl⟩ | ⟨rfl, rfl⟩ | ⟨rfl, rfl⟩
  · exact rm_at_ge l Z a0 hw ws t a1 (0 : Int32) (0 : Int32) (0 : Int32) h0 n0 Z0 (by decide)
  · rcases (id con : (co = (0 : Int32) ∧ z = (1 : Int32) ∧ vs = [(.int c0.toInt8.toInt32)] ∧ (c0.toInt8.toInt32 &&& (255 : Int32)) = c0 ∧ True) ∨ (co = (1 : Int32) ∧ z = (2 : Int32) ∧ vs = [(.int c0.toInt8.toInt32), (.int (c0 >>> ((8 : Int32) &&& 31)).toInt8.toInt32)])) with ⟨rfl, rfl, rfl, l0, -⟩ | ⟨rfl, rfl, rfl⟩
    · exact rm_at_lt l Z a0 hw ws t a1 (0 : Int32) (1 : Int32) (0 : Int32) tb tk _ _ _ c0 k1 _ fo cs h0 n0 Z0 E_t F_value_t F_coder_t V_tb hfo S_SIOOBE_FORMATTER OL S__assertionsDisabled S_HI_BYTE_SHIFT S_LO_BYTE_SHIFT S_COMPACT_STRINGS hcs V_a1 (by decide) (⟨f0, Or.inl ⟨rfl, by decide, by decide, _, rfl, l0⟩⟩) (by decide) (by decide) rfl
    · exact rm_at_lt l Z a0 hw ws t a1 (0 : Int32) (1 : Int32) (0 : Int32) tb tk _ _ _ c0 k1 _ fo cs h0 n0 Z0 E_t F_value_t F_coder_t V_tb hfo S_SIOOBE_FORMATTER OL S__assertionsDisabled S_HI_BYTE_SHIFT S_LO_BYTE_SHIFT S_COMPACT_STRINGS hcs V_a1 (by decide) (⟨f0, Or.inr ⟨rfl, (1 : Int32), by decide, by decide, by decide, ⟨f0, (0 : Int32), (1 : Int32), _, _, by decide, by decide, by decide, by decide, by decide, by decide, rfl, rfl, own_gc f0⟩⟩⟩) (by decide) (by decide) rfl
  · rcases (id con : (co = (0 : Int32) ∧ z = (2 : Int32) ∧ vs = [(.int c0.toInt8.toInt32), (.int c1.toInt8.toInt32)] ∧ (c0.toInt8.toInt32 &&& (255 : Int32)) = c0 ∧ (c1.toInt8.toInt32 &&& (255 : Int32)) = c1 ∧ True) ∨ (co = (1 : Int32) ∧ z = (4 : Int32) ∧ vs = [(.int c0.toInt8.toInt32), (.int (c0 >>> ((8 : Int32) &&& 31)).toInt8.toInt32), (.int c1.toInt8.toInt32), (.int (c1 >>> ((8 : Int32) &&& 31)).toInt8.toInt32)])) with ⟨rfl, rfl, rfl, l0, l1, -⟩ | ⟨rfl, rfl, rfl⟩
    · exact rm_at_lt l Z a0 hw ws t a1 (0 : Int32) (2 : Int32) (0 : Int32) tb tk _ _ _ c0 k1 _ fo cs h0 n0 Z0 E_t F_value_t F_coder_t V_tb hfo S_SIOOBE_FORMATTER OL S__assertionsDisabled S_HI_BYTE_SHIFT S_LO_BYTE_SHIFT S_COMPACT_STRINGS hcs V_a1 (by decide) (⟨f0, Or.inl ⟨rfl, by decide, by decide, _, rfl, l0⟩⟩) (by decide) (by decide) rfl
    · exact rm_at_lt l Z a0 hw ws t a1 (0 : Int32) (2 : Int32) (0 : Int32) tb tk _ _ _ c0 k1 _ fo cs h0 n0 Z0 E_t F_value_t F_coder_t V_tb hfo S_SIOOBE_FORMATTER OL S__assertionsDisabled S_HI_BYTE_SHIFT S_LO_BYTE_SHIFT S_COMPACT_STRINGS hcs V_a1 (by decide) (⟨f0, Or.inr ⟨rfl, (2 : Int32), by decide, by decide, by decide, ⟨f0, (0 : Int32), (1 : Int32), _, _, by decide, by decide, by decide, by decide, by decide, by decide, rfl, rfl, own_gc f0⟩⟩⟩) (by decide) (by decide) rfl
  · rcases (id con : (co = (0 : Int32) ∧ z = (3 : Int32) ∧ vs = [(.int c0.toInt8.toInt32), (.int c1.toInt8.toInt32), (.int c2.toInt8.toInt32)] ∧ (c0.toInt8.toInt32 &&& (255 : Int32)) = c0 ∧ (c1.toInt8.toInt32 &&& (255 : Int32)) = c1 ∧ (c2.toInt8.toInt32 &&& (255 : Int32)) = c2 ∧ True) ∨ (co = (1 : Int32) ∧ z = (6 : Int32) ∧ vs = [(.int c0.toInt8.toInt32), (.int (c0 >>> ((8 : Int32) &&& 31)).toInt8.toInt32), (.int c1.toInt8.toInt32), (.int (c1 >>> ((8 : Int32) &&& 31)).toInt8.toInt32), (.int c2.toInt8.toInt32), (.int (c2 >>> ((8 : Int32) &&& 31)).toInt8.toInt32)])) with ⟨rfl, rfl, rfl, l0, l1, l2, -⟩ | ⟨rfl, rfl, rfl⟩
    · exact rm_at_lt l Z a0 hw ws t a1 (0 : Int32) (3 : Int32) (0 : Int32) tb tk _ _ _ c0 k1 _ fo cs h0 n0 Z0 E_t F_value_t F_coder_t V_tb hfo S_SIOOBE_FORMATTER OL S__assertionsDisabled S_HI_BYTE_SHIFT S_LO_BYTE_SHIFT S_COMPACT_STRINGS hcs V_a1 (by decide) (⟨f0, Or.inl ⟨rfl, by decide, by decide, _, rfl, l0⟩⟩) (by decide) (by decide) rfl
    · exact rm_at_lt l Z a0 hw ws t a1 (0 : Int32) (3 : Int32) (0 : Int32) tb tk _ _ _ c0 k1 _ fo cs h0 n0 Z0 E_t F_value_t F_coder_t V_tb hfo S_SIOOBE_FORMATTER OL S__assertionsDisabled S_HI_BYTE_SHIFT S_LO_BYTE_SHIFT S_COMPACT_STRINGS hcs V_a1 (by decide) (⟨f0, Or.inr ⟨rfl, (3 : Int32), by decide, by decide, by decide, ⟨f0, (0 : Int32), (1 : Int32), _, _, by decide, by decide, by decide, by decide, by decide, by decide, rfl, rfl, own_gc f0⟩⟩⟩) (by decide) (by decide) rfl
  · rcases (id con : (co = (0 : Int32) ∧ z = (4 : Int32) ∧ vs = [(.int c0.toInt8.toInt32), (.int c1.toInt8.toInt32), (.int c2.toInt8.toInt32), (.int c3.toInt8.toInt32)] ∧ (c0.toInt8.toInt32 &&& (255 : Int32)) = c0 ∧ (c1.toInt8.toInt32 &&& (255 : Int32)) = c1 ∧ (c2.toInt8.toInt32 &&& (255 : Int32)) = c2 ∧ (c3.toInt8.toInt32 &&& (255 : Int32)) = c3 ∧ True) ∨ (co = (1 : Int32) ∧ z = (8 : Int32) ∧ vs = [(.int c0.toInt8.toInt32), (.int (c0 >>> ((8 : Int32) &&& 31)).toInt8.toInt32), (.int c1.toInt8.toInt32), (.int (c1 >>> ((8 : Int32) &&& 31)).toInt8.toInt32), (.int c2.toInt8.toInt32), (.int (c2 >>> ((8 : Int32) &&& 31)).toInt8.toInt32), (.int c3.toInt8.toInt32), (.int (c3 >>> ((8 : Int32) &&& 31)).toInt8.toInt32)])) with ⟨rfl, rfl, rfl, l0, l1, l2, l3, -⟩ | ⟨rfl, rfl, rfl⟩
    · exact rm_at_lt l Z a0 hw ws t a1 (0 : Int32) (4 : Int32) (0 : Int32) tb tk _ _ _ c0 k1 _ fo cs h0 n0 Z0 E_t F_value_t F_coder_t V_tb hfo S_SIOOBE_FORMATTER OL S__assertionsDisabled S_HI_BYTE_SHIFT S_LO_BYTE_SHIFT S_COMPACT_STRINGS hcs V_a1 (by decide) (⟨f0, Or.inl ⟨rfl, by decide, by decide, _, rfl, l0⟩⟩) (by decide) (by decide) rfl
    · exact rm_at_lt l Z a0 hw ws t a1 (0 : Int32) (4 : Int32) (0 : Int32) tb tk _ _ _ c0 k1 _ fo cs h0 n0 Z0 E_t F_value_t F_coder_t V_tb hfo S_SIOOBE_FORMATTER OL S__assertionsDisabled S_HI_BYTE_SHIFT S_LO_BYTE_SHIFT S_COMPACT_STRINGS hcs V_a1 (by decide) (⟨f0, Or.inr ⟨rfl, (4 : Int32), by decide, by decide, by decide, ⟨f0, (0 : Int32), (1 : Int32), _, _, by decide, by decide, by decide, by decide, by decide, by decide, rfl, rfl, own_gc f0⟩⟩⟩) (by decide) (by decide) rfl
  · exact rm_at_ge l Z a0 hw ws t a1 (1 : Int32) (0 : Int32) (0 : Int32) h0 n0 Z0 (by decide)
  · rcases (id con : (co = (0 : Int32) ∧ z = (1 : Int32) ∧ vs = [(.int c1.toInt8.toInt32)] ∧ (c1.toInt8.toInt32 &&& (255 : Int32)) = c1 ∧ True) ∨ (co = (1 : Int32) ∧ z = (2 : Int32) ∧ vs = [(.int c1.toInt8.toInt32), (.int (c1 >>> ((8 : Int32) &&& 31)).toInt8.toInt32)])) with ⟨rfl, rfl, rfl, l0, -⟩ | ⟨rfl, rfl, rfl⟩
    · exact rm_at_lt l Z a0 hw ws t a1 (1 : Int32) (1 : Int32) (0 : Int32) tb tk _ _ _ c1 k1 _ fo cs h0 n0 Z0 E_t F_value_t F_coder_t V_tb hfo S_SIOOBE_FORMATTER OL S__assertionsDisabled S_HI_BYTE_SHIFT S_LO_BYTE_SHIFT S_COMPACT_STRINGS hcs V_a1 (by decide) (⟨f1, Or.inl ⟨rfl, by decide, by decide, _, rfl, l0⟩⟩) (by decide) (by decide) rfl
    · exact rm_at_lt l Z a0 hw ws t a1 (1 : Int32) (1 : Int32) (0 : Int32) tb tk _ _ _ c1 k1 _ fo cs h0 n0 Z0 E_t F_value_t F_coder_t V_tb hfo S_SIOOBE_FORMATTER OL S__assertionsDisabled S_HI_BYTE_SHIFT S_LO_BYTE_SHIFT S_COMPACT_STRINGS hcs V_a1 (by decide) (⟨f1, Or.inr ⟨rfl, (1 : Int32), by decide, by decide, by decide, ⟨f1, (0 : Int32), (1 : Int32), _, _, by decide, by decide, by decide, by decide, by decide, by decide, rfl, rfl, own_gc f1⟩⟩⟩) (by decide) (by decide) rfl
  · rcases (id con : (co = (0 : Int32) ∧ z = (2 : Int32) ∧ vs = [(.int c1.toInt8.toInt32), (.int c2.toInt8.toInt32)] ∧ (c1.toInt8.toInt32 &&& (255 : Int32)) = c1 ∧ (c2.toInt8.toInt32 &&& (255 : Int32)) = c2 ∧ True) ∨ (co = (1 : Int32) ∧ z = (4 : Int32) ∧ vs = [(.int c1.toInt8.toInt32), (.int (c1 >>> ((8 : Int32) &&& 31)).toInt8.toInt32), (.int c2.toInt8.toInt32), (.int (c2 >>> ((8 : Int32) &&& 31)).toInt8.toInt32)])) with ⟨rfl, rfl, rfl, l0, l1, -⟩ | ⟨rfl, rfl, rfl⟩
    · exact rm_at_lt l Z a0 hw ws t a1 (1 : Int32) (2 : Int32) (0 : Int32) tb tk _ _ _ c1 k1 _ fo cs h0 n0 Z0 E_t F_value_t F_coder_t V_tb hfo S_SIOOBE_FORMATTER OL S__assertionsDisabled S_HI_BYTE_SHIFT S_LO_BYTE_SHIFT S_COMPACT_STRINGS hcs V_a1 (by decide) (⟨f1, Or.inl ⟨rfl, by decide, by decide, _, rfl, l0⟩⟩) (by decide) (by decide) rfl
    · exact rm_at_lt l Z a0 hw ws t a1 (1 : Int32) (2 : Int32) (0 : Int32) tb tk _ _ _ c1 k1 _ fo cs h0 n0 Z0 E_t F_value_t F_coder_t V_tb hfo S_SIOOBE_FORMATTER OL S__assertionsDisabled S_HI_BYTE_SHIFT S_LO_BYTE_SHIFT S_COMPACT_STRINGS hcs V_a1 (by decide) (⟨f1, Or.inr ⟨rfl, (2 : Int32), by decide, by decide, by decide, ⟨f1, (0 : Int32), (1 : Int32), _, _, by decide, by decide, by decide, by decide, by decide, by decide, rfl, rfl, own_gc f1⟩⟩⟩) (by decide) (by decide) rfl
  · rcases (id con : (co = (0 : Int32) ∧ z = (3 : Int32) ∧ vs = [(.int c1.toInt8.toInt32), (.int c2.toInt8.toInt32), (.int c3.toInt8.toInt32)] ∧ (c1.toInt8.toInt32 &&& (255 : Int32)) = c1 ∧ (c2.toInt8.toInt32 &&& (255 : Int32)) = c2 ∧ (c3.toInt8.toInt32 &&& (255 : Int32)) = c3 ∧ True) ∨ (co = (1 : Int32) ∧ z = (6 : Int32) ∧ vs = [(.int c1.toInt8.toInt32), (.int (c1 >>> ((8 : Int32) &&& 31)).toInt8.toInt32), (.int c2.toInt8.toInt32), (.int (c2 >>> ((8 : Int32) &&& 31)).toInt8.toInt32), (.int c3.toInt8.toInt32), (.int (c3 >>> ((8 : Int32) &&& 31)).toInt8.toInt32)])) with ⟨rfl, rfl, rfl, l0, l1, l2, -⟩ | ⟨rfl, rfl, rfl⟩
    · exact rm_at_lt l Z a0 hw ws t a1 (1 : Int32) (3 : Int32) (0 : Int32) tb tk _ _ _ c1 k1 _ fo cs h0 n0 Z0 E_t F_value_t F_coder_t V_tb hfo S_SIOOBE_FORMATTER OL S__assertionsDisabled S_HI_BYTE_SHIFT S_LO_BYTE_SHIFT S_COMPACT_STRINGS hcs V_a1 (by decide) (⟨f1, Or.inl ⟨rfl, by decide, by decide, _, rfl, l0⟩⟩) (by decide) (by decide) rfl
    · exact rm_at_lt l Z a0 hw ws t a1 (1 : Int32) (3 : Int32) (0 : Int32) tb tk _ _ _ c1 k1 _ fo cs h0 n0 Z0 E_t F_value_t F_coder_t V_tb hfo S_SIOOBE_FORMATTER OL S__assertionsDisabled S_HI_BYTE_SHIFT S_LO_BYTE_SHIFT S_COMPACT_STRINGS hcs V_a1 (by decide) (⟨f1, Or.inr ⟨rfl, (3 : Int32), by decide, by decide, by decide, ⟨f1, (0 : Int32), (1 : Int32), _, _, by decide, by decide, by decide, by decide, by decide, by decide, rfl, rfl, own_gc f1⟩⟩⟩) (by decide) (by decide) rfl
  · exact rm_at_ge l Z a0 hw ws t a1 (2 : Int32) (0 : Int32) (0 : Int32) h0 n0 Z0 (by decide)
  · rcases (id con : (co = (0 : Int32) ∧ z = (1 : Int32) ∧ vs = [(.int c2.toInt8.toInt32)] ∧ (c2.toInt8.toInt32 &&& (255 : Int32)) = c2 ∧ True) ∨ (co = (1 : Int32) ∧ z = (2 : Int32) ∧ vs = [(.int c2.toInt8.toInt32), (.int (c2 >>> ((8 : Int32) &&& 31)).toInt8.toInt32)])) with ⟨rfl, rfl, rfl, l0, -⟩ | ⟨rfl, rfl, rfl⟩
    · exact rm_at_lt l Z a0 hw ws t a1 (2 : Int32) (1 : Int32) (0 : Int32) tb tk _ _ _ c2 k1 _ fo cs h0 n0 Z0 E_t F_value_t F_coder_t V_tb hfo S_SIOOBE_FORMATTER OL S__assertionsDisabled S_HI_BYTE_SHIFT S_LO_BYTE_SHIFT S_COMPACT_STRINGS hcs V_a1 (by decide) (⟨f2, Or.inl ⟨rfl, by decide, by decide, _, rfl, l0⟩⟩) (by decide) (by decide) rfl
    · exact rm_at_lt l Z a0 hw ws t a1 (2 : Int32) (1 : Int32) (0 : Int32) tb tk _ _ _ c2 k1 _ fo cs h0 n0 Z0 E_t F_value_t F_coder_t V_tb hfo S_SIOOBE_FORMATTER OL S__assertionsDisabled S_HI_BYTE_SHIFT S_LO_BYTE_SHIFT S_COMPACT_STRINGS hcs V_a1 (by decide) (⟨f2, Or.inr ⟨rfl, (1 : Int32), by decide, by decide, by decide, ⟨f2, (0 : Int32), (1 : Int32), _, _, by decide, by decide, by decide, by decide, by decide, by decide, rfl, rfl, own_gc f2⟩⟩⟩) (by decide) (by decide) rfl
  · rcases (id con : (co = (0 : Int32) ∧ z = (2 : Int32) ∧ vs = [(.int c2.toInt8.toInt32), (.int c3.toInt8.toInt32)] ∧ (c2.toInt8.toInt32 &&& (255 : Int32)) = c2 ∧ (c3.toInt8.toInt32 &&& (255 : Int32)) = c3 ∧ True) ∨ (co = (1 : Int32) ∧ z = (4 : Int32) ∧ vs = [(.int c2.toInt8.toInt32), (.int (c2 >>> ((8 : Int32) &&& 31)).toInt8.toInt32), (.int c3.toInt8.toInt32), (.int (c3 >>> ((8 : Int32) &&& 31)).toInt8.toInt32)])) with ⟨rfl, rfl, rfl, l0, l1, -⟩ | ⟨rfl, rfl, rfl⟩
    · exact rm_at_lt l Z a0 hw ws t a1 (2 : Int32) (2 : Int32) (0 : Int32) tb tk _ _ _ c2 k1 _ fo cs h0 n0 Z0 E_t F_value_t F_coder_t V_tb hfo S_SIOOBE_FORMATTER OL S__assertionsDisabled S_HI_BYTE_SHIFT S_LO_BYTE_SHIFT S_COMPACT_STRINGS hcs V_a1 (by decide) (⟨f2, Or.inl ⟨rfl, by decide, by decide, _, rfl, l0⟩⟩) (by decide) (by decide) rfl
    · exact rm_at_lt l Z a0 hw ws t a1 (2 : Int32) (2 : Int32) (0 : Int32) tb tk _ _ _ c2 k1 _ fo cs h0 n0 Z0 E_t F_value_t F_coder_t V_tb hfo S_SIOOBE_FORMATTER OL S__assertionsDisabled S_HI_BYTE_SHIFT S_LO_BYTE_SHIFT S_COMPACT_STRINGS hcs V_a1 (by decide) (⟨f2, Or.inr ⟨rfl, (2 : Int32), by decide, by decide, by decide, ⟨f2, (0 : Int32), (1 : Int32), _, _, by decide, by decide, by decide, by decide, by decide, by decide, rfl, rfl, own_gc f2⟩⟩⟩) (by decide) (by decide) rfl
  · exact rm_at_ge l Z a0 hw ws t a1 (3 : Int32) (0 : Int32) (0 : Int32) h0 n0 Z0 (by decide)
  · rcases (id con : (co = (0 : Int32) ∧ z = (1 : Int32) ∧ vs = [(.int c3.toInt8.toInt32)] ∧ (c3.toInt8.toInt32 &&& (255 : Int32)) = c3 ∧ True) ∨ (co = (1 : Int32) ∧ z = (2 : Int32) ∧ vs = [(.int c3.toInt8.toInt32), (.int (c3 >>> ((8 : Int32) &&& 31)).toInt8.toInt32)])) with ⟨rfl, rfl, rfl, l0, -⟩ | ⟨rfl, rfl, rfl⟩
    · exact rm_at_lt l Z a0 hw ws t a1 (3 : Int32) (1 : Int32) (0 : Int32) tb tk _ _ _ c3 k1 _ fo cs h0 n0 Z0 E_t F_value_t F_coder_t V_tb hfo S_SIOOBE_FORMATTER OL S__assertionsDisabled S_HI_BYTE_SHIFT S_LO_BYTE_SHIFT S_COMPACT_STRINGS hcs V_a1 (by decide) (⟨f3, Or.inl ⟨rfl, by decide, by decide, _, rfl, l0⟩⟩) (by decide) (by decide) rfl
    · exact rm_at_lt l Z a0 hw ws t a1 (3 : Int32) (1 : Int32) (0 : Int32) tb tk _ _ _ c3 k1 _ fo cs h0 n0 Z0 E_t F_value_t F_coder_t V_tb hfo S_SIOOBE_FORMATTER OL S__assertionsDisabled S_HI_BYTE_SHIFT S_LO_BYTE_SHIFT S_COMPACT_STRINGS hcs V_a1 (by decide) (⟨f3, Or.inr ⟨rfl, (1 : Int32), by decide, by decide, by decide, ⟨f3, (0 : Int32), (1 : Int32), _, _, by decide, by decide, by decide, by decide, by decide, by decide, rfl, rfl, own_gc f3⟩⟩⟩) (by decide) (by decide) rfl
  · exact rm_at_ge l Z a0 hw ws t a1 (4 : Int32) (0 : Int32) (0 : Int32) h0 n0 Z0 (by decide)
theorem rm_at_1 (l : Launch) (Z : State) (a0 : Array Value) (hw : HW a0 Z) (ws : List Jvm.Cond) (t : Addr) (a1 : Addr) (st : Int32) (ln : Int32) (tb : Addr) (tk : ClassId) (z : Int32) (vs : List Value) (co : Int32) (k1 : ClassId) (c0 : Int32) (c1 : Int32) (c2 : Int32) (c3 : Int32) (fo : Value) (cs : Int32) (h0 : Heap) (n0 : Nat) (Z0 : n0 ≤ h0.size) (E_t : Exa Z h0 t "java/lang/String") (F_value_t : Fld Z h0 t "java/lang/String" "value" "[B" (.ref tb)) (F_coder_t : Fld Z h0 t "java/lang/String" "coder" "B" (.int co)) (V_tb : Arv Z h0 tb tk .byte z vs (.int (0 : Int32))) (hfo : (fo).isRef = true) (S_SIOOBE_FORMATTER : Sta Z Z.heap "jdk/internal/util/Preconditions" "SIOOBE_FORMATTER" "Ljava/util/function/BiFunction;" fo) (OL : Old Z n0 h0) (S__assertionsDisabled : Sta Z Z.heap "java/lang/StringUTF16" "$assertionsDisabled" "Z" (.int (1 : Int32))) (S_HI_BYTE_SHIFT : Sta Z Z.heap "java/lang/StringUTF16" "HI_BYTE_SHIFT" "I" (.int (0 : Int32))) (S_LO_BYTE_SHIFT : Sta Z Z.heap "java/lang/StringUTF16" "LO_BYTE_SHIFT" "I" (.int (8 : Int32))) (S_COMPACT_STRINGS : Sta Z Z.heap "java/lang/String" "COMPACT_STRINGS" "Z" (.int cs)) (hcs : ¬ (cs = (0 : Int32))) (V_a1 : Arv Z h0 a1 k1 .char (4 : Int32) [(.int c0), (.int c1), (.int c2), (.int c3)] (.int (0 : Int32))) (con : StrC co z vs (sub4 st ln c0 c1 c2 c3)) (hcm : Combo st ln) (f0 : Ch c0) (f1 : Ch c1) (f2 : Ch c2) (f3 : Ch c3) :
    MetFree l y44_ (head1 (Jvm.Cond.code y44_ method_3_code 5 (some .boolean) :: ws) r5_0_0_66) (fun xa xU => xa = #[(.ref t), (.ref a1), (.int st), (.int ln), (.int (1 : Int32))] ∧ Z.Warmed39 xU.vm ∧ xU.heap = h0) (fun _ _ _ _ _ => True) (fun _ xU xo xU' => ∃ xv xL, xo = .returned xv ∧ Q_at Z   h0 n0 xv xU'.heap xL ∧ FrameEnd xU xo xU' xL r5_0_0_66.cells r5_0_0_66.slots) := by
  rcases hcm with ⟨rfl, rfl⟩ | ⟨rfl, rfl⟩ | ⟨rfl, rfl⟩ | ⟨rfl, rfl⟩ | ⟨rfl, rfl⟩ | ⟨rfl, rfl⟩ | ⟨rfl, rfl⟩ | ⟨rfl, rfl⟩ | ⟨rfl, rfl⟩ | ⟨rfl, rfl⟩ | ⟨rfl, rfl⟩ | ⟨rfl, rfl⟩ | ⟨rfl, rfl⟩ | ⟨rfl, rfl⟩ | ⟨rfl, rfl⟩
  · exact rm_at_ge l Z a0 hw ws t a1 (0 : Int32) (0 : Int32) (1 : Int32) h0 n0 Z0 (by decide)
  · exact rm_at_ge l Z a0 hw ws t a1 (0 : Int32) (1 : Int32) (1 : Int32) h0 n0 Z0 (by decide)
  · rcases (id con : (co = (0 : Int32) ∧ z = (2 : Int32) ∧ vs = [(.int c0.toInt8.toInt32), (.int c1.toInt8.toInt32)] ∧ (c0.toInt8.toInt32 &&& (255 : Int32)) = c0 ∧ (c1.toInt8.toInt32 &&& (255 : Int32)) = c1 ∧ True) ∨ (co = (1 : Int32) ∧ z = (4 : Int32) ∧ vs = [(.int c0.toInt8.toInt32), (.int (c0 >>> ((8 : Int32) &&& 31)).toInt8.toInt32), (.int c1.toInt8.toInt32), (.int (c1 >>> ((8 : Int32) &&& 31)).toInt8.toInt32)])) with ⟨rfl, rfl, rfl, l0, l1, -⟩ | ⟨rfl, rfl, rfl⟩
    · exact rm_at_lt l Z a0 hw ws t a1 (0 : Int32) (2 : Int32) (1 : Int32) tb tk _ _ _ c1 k1 _ fo cs h0 n0 Z0 E_t F_value_t F_coder_t V_tb hfo S_SIOOBE_FORMATTER OL S__assertionsDisabled S_HI_BYTE_SHIFT S_LO_BYTE_SHIFT S_COMPACT_STRINGS hcs V_a1 (by decide) (⟨f1, Or.inl ⟨rfl, by decide, by decide, _, rfl, l1⟩⟩) (by decide) (by decide) rfl
    · exact rm_at_lt l Z a0 hw ws t a1 (0 : Int32) (2 : Int32) (1 : Int32) tb tk _ _ _ c1 k1 _ fo cs h0 n0 Z0 E_t F_value_t F_coder_t V_tb hfo S_SIOOBE_FORMATTER OL S__assertionsDisabled S_HI_BYTE_SHIFT S_LO_BYTE_SHIFT S_COMPACT_STRINGS hcs V_a1 (by decide) (⟨f1, Or.inr ⟨rfl, (2 : Int32), by decide, by decide, by decide, ⟨f1, (2 : Int32), (3 : Int32), _, _, by decide, by decide, by decide, by decide, by decide, by decide, rfl, rfl, own_gc f1⟩⟩⟩) (by decide) (by decide) rfl
  · rcases (id con : (co = (0 : Int32) ∧ z = (3 : Int32) ∧ vs = [(.int c0.toInt8.toInt32), (.int c1.toInt8.toInt32), (.int c2.toInt8.toInt32)] ∧ (c0.toInt8.toInt32 &&& (255 : Int32)) = c0 ∧ (c1.toInt8.toInt32 &&& (255 : Int32)) = c1 ∧ (c2.toInt8.toInt32 &&& (255 : Int32)) = c2 ∧ True) ∨ (co = (1 : Int32) ∧ z = (6 : Int32) ∧ vs = [(.int c0.toInt8.toInt32), (.int (c0 >>> ((8 : Int32) &&& 31)).toInt8.toInt32), (.int c1.toInt8.toInt32), (.int (c1 >>> ((8 : Int32) &&& 31)).toInt8.toInt32), (.int c2.toInt8.toInt32), (.int (c2 >>> ((8 : Int32) &&& 31)).toInt8.toInt32)])) with ⟨rfl, rfl, rfl, l0, l1, l2, -⟩ | ⟨rfl, rfl, rfl⟩
    · exact rm_at_lt l Z a0 hw ws t a1 (0 : Int32) (3 : Int32) (1 : Int32) tb tk _ _ _ c1 k1 _ fo cs h0 n0 Z0 E_t F_value_t F_coder_t V_tb hfo S_SIOOBE_FORMATTER OL S__assertionsDisabled S_HI_BYTE_SHIFT S_LO_BYTE_SHIFT S_COMPACT_STRINGS hcs V_a1 (by decide) (⟨f1, Or.inl ⟨rfl, by decide, by decide, _, rfl, l1⟩⟩) (by decide) (by decide) rfl
    · exact rm_at_lt l Z a0 hw ws t a1 (0 : Int32) (3 : Int32) (1 : Int32) tb tk _ _ _ c1 k1 _ fo cs h0 n0 Z0 E_t F_value_t F_coder_t V_tb hfo S_SIOOBE_FORMATTER OL S__assertionsDisabled S_HI_BYTE_SHIFT S_LO_BYTE_SHIFT S_COMPACT_STRINGS hcs V_a1 (by decide) (⟨f1, Or.inr ⟨rfl, (3 : Int32), by decide, by decide, by decide, ⟨f1, (2 : Int32), (3 : Int32), _, _, by decide, by decide, by decide, by decide, by decide, by decide, rfl, rfl, own_gc f1⟩⟩⟩) (by decide) (by decide) rfl
  · rcases (id con : (co = (0 : Int32) ∧ z = (4 : Int32) ∧ vs = [(.int c0.toInt8.toInt32), (.int c1.toInt8.toInt32), (.int c2.toInt8.toInt32), (.int c3.toInt8.toInt32)] ∧ (c0.toInt8.toInt32 &&& (255 : Int32)) = c0 ∧ (c1.toInt8.toInt32 &&& (255 : Int32)) = c1 ∧ (c2.toInt8.toInt32 &&& (255 : Int32)) = c2 ∧ (c3.toInt8.toInt32 &&& (255 : Int32)) = c3 ∧ True) ∨ (co = (1 : Int32) ∧ z = (8 : Int32) ∧ vs = [(.int c0.toInt8.toInt32), (.int (c0 >>> ((8 : Int32) &&& 31)).toInt8.toInt32), (.int c1.toInt8.toInt32), (.int (c1 >>> ((8 : Int32) &&& 31)).toInt8.toInt32), (.int c2.toInt8.toInt32), (.int (c2 >>> ((8 : Int32) &&& 31)).toInt8.toInt32), (.int c3.toInt8.toInt32), (.int (c3 >>> ((8 : Int32) &&& 31)).toInt8.toInt32)])) with ⟨rfl, rfl, rfl, l0, l1, l2, l3, -⟩ | ⟨rfl, rfl, rfl⟩
    · exact rm_at_lt l Z a0 hw ws t a1 (0 : Int32) (4 : Int32) (1 : Int32) tb tk _ _ _ c1 k1 _ fo cs h0 n0 Z0 E_t F_value_t F_coder_t V_tb hfo S_SIOOBE_FORMATTER OL S__assertionsDisabled S_HI_BYTE_SHIFT S_LO_BYTE_SHIFT S_COMPACT_STRINGS hcs V_a1 (by decide) (⟨f1, Or.inl ⟨rfl, by decide, by decide, _, rfl, l1⟩⟩) (by decide) (by decide) rfl
    · exact rm_at_lt l Z a0 hw ws t a1 (0 : Int32) (4 : Int32) (1 : Int32) tb tk _ _ _ c1 k1 _ fo cs h0 n0 Z0 E_t F_value_t F_coder_t V_tb hfo S_SIOOBE_FORMATTER OL S__assertionsDisabled S_HI_BYTE_SHIFT S_LO_BYTE_SHIFT S_COMPACT_STRINGS hcs V_a1 (by decide) (⟨f1, Or.inr ⟨rfl, (4 : Int32), by decide, by decide, by decide, ⟨f1, (2 : Int32), (3 : Int32), _, _, by decide, by decide, by decide, by decide, by decide, by decide, rfl, rfl, own_gc f1⟩⟩⟩) (by decide) (by decide) rfl
  · exact rm_at_ge l Z a0 hw ws t a1 (1 : Int32) (0 : Int32) (1 : Int32) h0 n0 Z0 (by decide)
  · exact rm_at_ge l Z a0 hw ws t a1 (1 : Int32) (1 : Int32) (1 : Int32) h0 n0 Z0 (by decide)
  · rcases (id con : (co = (0 : Int32) ∧ z = (2 : Int32) ∧ vs = [(.int c1.toInt8.toInt32), (.int c2.toInt8.toInt32)] ∧ (c1.toInt8.toInt32 &&& (255 : Int32)) = c1 ∧ (c2.toInt8.toInt32 &&& (255 : Int32)) = c2 ∧ True) ∨ (co = (1 : Int32) ∧ z = (4 : Int32) ∧ vs = [(.int c1.toInt8.toInt32), (.int (c1 >>> ((8 : Int32) &&& 31)).toInt8.toInt32), (.int c2.toInt8.toInt32), (.int (c2 >>> ((8 : Int32) &&& 31)).toInt8.toInt32)])) with ⟨rfl, rfl, rfl, l0, l1, -⟩ | ⟨rfl, rfl, rfl⟩
    · exact rm_at_lt l Z a0 hw ws t a1 (1 : Int32) (2 : Int32) (1 : Int32) tb tk _ _ _ c2 k1 _ fo cs h0 n0 Z0 E_t F_value_t F_coder_t V_tb hfo S_SIOOBE_FORMATTER OL S__assertionsDisabled S_HI_BYTE_SHIFT S_LO_BYTE_SHIFT S_COMPACT_STRINGS hcs V_a1 (by decide) (⟨f2, Or.inl ⟨rfl, by decide, by decide, _, rfl, l1⟩⟩) (by decide) (by decide) rfl
    · exact rm_at_lt l Z a0 hw ws t a1 (1 : Int32) (2 : Int32) (1 : Int32) tb tk _ _ _ c2 k1 _ fo cs h0 n0 Z0 E_t F_value_t F_coder_t V_tb hfo S_SIOOBE_FORMATTER OL S__assertionsDisabled S_HI_BYTE_SHIFT S_LO_BYTE_SHIFT S_COMPACT_STRINGS hcs V_a1 (by decide) (⟨f2, Or.inr ⟨rfl, (2 : Int32), by decide, by decide, by decide, ⟨f2, (2 : Int32), (3 : Int32), _, _, by decide, by decide, by decide, by decide, by decide, by decide, rfl, rfl, own_gc f2⟩⟩⟩) (by decide) (by decide) rfl
  · rcases (id con : (co = (0 : Int32) ∧ z = (3 : Int32) ∧ vs = [(.int c1.toInt8.toInt32), (.int c2.toInt8.toInt32), (.int c3.toInt8.toInt32)] ∧ (c1.toInt8.toInt32 &&& (255 : Int32)) = c1 ∧ (c2.toInt8.toInt32 &&& (255 : Int32)) = c2 ∧ (c3.toInt8.toInt32 &&& (255 : Int32)) = c3 ∧ True) ∨ (co = (1 : Int32) ∧ z = (6 : Int32) ∧ vs = [(.int c1.toInt8.toInt32), (.int (c1 >>> ((8 : Int32) &&& 31)).toInt8.toInt32), (.int c2.toInt8.toInt32), (.int (c2 >>> ((8 : Int32) &&& 31)).toInt8.toInt32), (.int c3.toInt8.toInt32), (.int (c3 >>> ((8 : Int32) &&& 31)).toInt8.toInt32)])) with ⟨rfl, rfl, rfl, l0, l1, l2, -⟩ | ⟨rfl, rfl, rfl⟩
    · exact rm_at_lt l Z a0 hw ws t a1 (1 : Int32) (3 : Int32) (1 : Int32) tb tk _ _ _ c2 k1 _ fo cs h0 n0 Z0 E_t F_value_t F_coder_t V_tb hfo S_SIOOBE_FORMATTER OL S__assertionsDisabled S_HI_BYTE_SHIFT S_LO_BYTE_SHIFT S_COMPACT_STRINGS hcs V_a1 (by decide) (⟨f2, Or.inl ⟨rfl, by decide, by decide, _, rfl, l1⟩⟩) (by decide) (by decide) rfl
    · exact rm_at_lt l Z a0 hw ws t a1 (1 : Int32) (3 : Int32) (1 : Int32) tb tk _ _ _ c2 k1 _ fo cs h0 n0 Z0 E_t F_value_t F_coder_t V_tb hfo S_SIOOBE_FORMATTER OL S__assertionsDisabled S_HI_BYTE_SHIFT S_LO_BYTE_SHIFT S_COMPACT_STRINGS hcs V_a1 (by decide) (⟨f2, Or.inr ⟨rfl, (3 : Int32), by decide, by decide, by decide, ⟨f2, (2 : Int32), (3 : Int32), _, _, by decide, by decide, by decide, by decide, by decide, by decide, rfl, rfl, own_gc f2⟩⟩⟩) (by decide) (by decide) rfl
  · exact rm_at_ge l Z a0 hw ws t a1 (2 : Int32) (0 : Int32) (1 : Int32) h0 n0 Z0 (by decide)
  · exact rm_at_ge l Z a0 hw ws t a1 (2 : Int32) (1 : Int32) (1 : Int32) h0 n0 Z0 (by decide)
  · rcases (id con : (co = (0 : Int32) ∧ z = (2 : Int32) ∧ vs = [(.int c2.toInt8.toInt32), (.int c3.toInt8.toInt32)] ∧ (c2.toInt8.toInt32 &&& (255 : Int32)) = c2 ∧ (c3.toInt8.toInt32 &&& (255 : Int32)) = c3 ∧ True) ∨ (co = (1 : Int32) ∧ z = (4 : Int32) ∧ vs = [(.int c2.toInt8.toInt32), (.int (c2 >>> ((8 : Int32) &&& 31)).toInt8.toInt32), (.int c3.toInt8.toInt32), (.int (c3 >>> ((8 : Int32) &&& 31)).toInt8.toInt32)])) with ⟨rfl, rfl, rfl, l0, l1, -⟩ | ⟨rfl, rfl, rfl⟩
    · exact rm_at_lt l Z a0 hw ws t a1 (2 : Int32) (2 : Int32) (1 : Int32) tb tk _ _ _ c3 k1 _ fo cs h0 n0 Z0 E_t F_value_t F_coder_t V_tb hfo S_SIOOBE_FORMATTER OL S__assertionsDisabled S_HI_BYTE_SHIFT S_LO_BYTE_SHIFT S_COMPACT_STRINGS hcs V_a1 (by decide) (⟨f3, Or.inl ⟨rfl, by decide, by decide, _, rfl, l1⟩⟩) (by decide) (by decide) rfl
    · exact rm_at_lt l Z a0 hw ws t a1 (2 : Int32) (2 : Int32) (1 : Int32) tb tk _ _ _ c3 k1 _ fo cs h0 n0 Z0 E_t F_value_t F_coder_t V_tb hfo S_SIOOBE_FORMATTER OL S__assertionsDisabled S_HI_BYTE_SHIFT S_LO_BYTE_SHIFT S_COMPACT_STRINGS hcs V_a1 (by decide) (⟨f3, Or.inr ⟨rfl, (2 : Int32), by decide, by decide, by decide, ⟨f3, (2 : Int32), (3 : Int32), _, _, by decide, by decide, by decide, by decide, by decide, by decide, rfl, rfl, own_gc f3⟩⟩⟩) (by decide) (by decide) rfl
  · exact rm_at_ge l Z a0 hw ws t a1 (3 : Int32) (0 : Int32) (1 : Int32) h0 n0 Z0 (by decide)
  · exact rm_at_ge l Z a0 hw ws t a1 (3 : Int32) (1 : Int32) (1 : Int32) h0 n0 Z0 (by decide)
  · exact rm_at_ge l Z a0 hw ws t a1 (4 : Int32) (0 : Int32) (1 : Int32) h0 n0 Z0 (by decide)
theorem rm_at_2 (l : Launch) (Z : State) (a0 : Array Value) (hw : HW a0 Z) (ws : List Jvm.Cond) (t : Addr) (a1 : Addr) (st : Int32) (ln : Int32) (tb : Addr) (tk : ClassId) (z : Int32) (vs : List Value) (co : Int32) (k1 : ClassId) (c0 : Int32) (c1 : Int32) (c2 : Int32) (c3 : Int32) (fo : Value) (cs : Int32) (h0 : Heap) (n0 : Nat) (Z0 : n0 ≤ h0.size) (E_t : Exa Z h0 t "java/lang/String") (F_value_t : Fld Z h0 t "java/lang/String" "value" "[B" (.ref tb)) (F_coder_t : Fld Z h0 t "java/lang/String" "coder" "B" (.int co)) (V_tb : Arv Z h0 tb tk .byte z vs (.int (0 : Int32))) (hfo : (fo).isRef = true) (S_SIOOBE_FORMATTER : Sta Z Z.heap "jdk/internal/util/Preconditions" "SIOOBE_FORMATTER" "Ljava/util/function/BiFunction;" fo) (OL : Old Z n0 h0) (S__assertionsDisabled : Sta Z Z.heap "java/lang/StringUTF16" "$assertionsDisabled" "Z" (.int (1 : Int32))) (S_HI_BYTE_SHIFT : Sta Z Z.heap "java/lang/StringUTF16" "HI_BYTE_SHIFT" "I" (.int (0 : Int32))) (S_LO_BYTE_SHIFT : Sta Z Z.heap "java/lang/StringUTF16" "LO_BYTE_SHIFT" "I" (.int (8 : Int32))) (S_COMPACT_STRINGS : Sta Z Z.heap "java/lang/String" "COMPACT_STRINGS" "Z" (.int cs)) (hcs : ¬ (cs = (0 : Int32))) (V_a1 : Arv Z h0 a1 k1 .char (4 : Int32) [(.int c0), (.int c1), (.int c2), (.int c3)] (.int (0 : Int32))) (con : StrC co z vs (sub4 st ln c0 c1 c2 c3)) (hcm : Combo st ln) (f0 : Ch c0) (f1 : Ch c1) (f2 : Ch c2) (f3 : Ch c3) :
    MetFree l y44_ (head1 (Jvm.Cond.code y44_ method_3_code 5 (some .boolean) :: ws) r5_0_0_66) (fun xa xU => xa = #[(.ref t), (.ref a1), (.int st), (.int ln), (.int (2 : Int32))] ∧ Z.Warmed39 xU.vm ∧ xU.heap = h0) (fun _ _ _ _ _ => True) (fun _ xU xo xU' => ∃ xv xL, xo = .returned xv ∧ Q_at Z   h0 n0 xv xU'.heap xL ∧ FrameEnd xU xo xU' xL r5_0_0_66.cells r5_0_0_66.slots) := by
  rcases hcm with ⟨rfl, rfl⟩ | ⟨rfl, rfl⟩ | ⟨rfl, rfl⟩ | ⟨rfl, rfl⟩ | ⟨rfl, rfl⟩ | ⟨rfl, rfl⟩ | ⟨rfl, rfl⟩ | ⟨rfl, rfl⟩ | ⟨rfl, rfl⟩ | ⟨rfl, rfl⟩ | ⟨rfl, rfl⟩ | ⟨rfl, rfl⟩ | ⟨rfl, rfl⟩ | ⟨rfl, rfl⟩ | ⟨rfl, rfl⟩
  · exact rm_at_ge l Z a0 hw ws t a1 (0 : Int32) (0 : Int32) (2 : Int32) h0 n0 Z0 (by decide)
  · exact rm_at_ge l Z a0 hw ws t a1 (0 : Int32) (1 : Int32) (2 : Int32) h0 n0 Z0 (by decide)
  · exact rm_at_ge l Z a0 hw ws t a1 (0 : Int32) (2 : Int32) (2 : Int32) h0 n0 Z0 (by decide)
  · rcases (id con : (co = (0 : Int32) ∧ z = (3 : Int32) ∧ vs = [(.int c0.toInt8.toInt32), (.int c1.toInt8.toInt32), (.int c2.toInt8.toInt32)] ∧ (c0.toInt8.toInt32 &&& (255 : Int32)) = c0 ∧ (c1.toInt8.toInt32 &&& (255 : Int32)) = c1 ∧ (c2.toInt8.toInt32 &&& (255 : Int32)) = c2 ∧ True) ∨ (co = (1 : Int32) ∧ z = (6 : Int32) ∧ vs = [(.int c0.toInt8.toInt32), (.int (c0 >>> ((8 : Int32) &&& 31)).toInt8.toInt32), (.int c1.toInt8.toInt32), (.int (c1 >>> ((8 : Int32) &&& 31)).toInt8.toInt32), (.int c2.toInt8.toInt32), (.int (c2 >>> ((8 : Int32) &&& 31)).toInt8.toInt32)])) with ⟨rfl, rfl, rfl, l0, l1, l2, -⟩ | ⟨rfl, rfl, rfl⟩
    · exact rm_at_lt l Z a0 hw ws t a1 (0 : Int32) (3 : Int32) (2 : Int32) tb tk _ _ _ c2 k1 _ fo cs h0 n0 Z0 E_t F_value_t F_coder_t V_tb hfo S_SIOOBE_FORMATTER OL S__assertionsDisabled S_HI_BYTE_SHIFT S_LO_BYTE_SHIFT S_COMPACT_STRINGS hcs V_a1 (by decide) (⟨f2, Or.inl ⟨rfl, by decide, by decide, _, rfl, l2⟩⟩) (by decide) (by decide) rfl
    · exact rm_at_lt l Z a0 hw ws t a1 (0 : Int32) (3 : Int32) (2 : Int32) tb tk _ _ _ c2 k1 _ fo cs h0 n0 Z0 E_t F_value_t F_coder_t V_tb hfo S_SIOOBE_FORMATTER OL S__assertionsDisabled S_HI_BYTE_SHIFT S_LO_BYTE_SHIFT S_COMPACT_STRINGS hcs V_a1 (by decide) (⟨f2, Or.inr ⟨rfl, (3 : Int32), by decide, by decide, by decide, ⟨f2, (4 : Int32), (5 : Int32), _, _, by decide, by decide, by decide, by decide, by decide, by decide, rfl, rfl, own_gc f2⟩⟩⟩) (by decide) (by decide) rfl
  · rcases (id con : (co = (0 : Int32) ∧ z = (4 : Int32) ∧ vs = [(.int c0.toInt8.toInt32), (.int c1.toInt8.toInt32), (.int c2.toInt8.toInt32), (.int c3.toInt8.toInt32)] ∧ (c0.toInt8.toInt32 &&& (255 : Int32)) = c0 ∧ (c1.toInt8.toInt32 &&& (255 : Int32)) = c1 ∧ (c2.toInt8.toInt32 &&& (255 : Int32)) = c2 ∧ (c3.toInt8.toInt32 &&& (255 : Int32)) = c3 ∧ True) ∨ (co = (1 : Int32) ∧ z = (8 : Int32) ∧ vs = [(.int c0.toInt8.toInt32), (.int (c0 >>> ((8 : Int32) &&& 31)).toInt8.toInt32), (.int c1.toInt8.toInt32), (.int (c1 >>> ((8 : Int32) &&& 31)).toInt8.toInt32), (.int c2.toInt8.toInt32), (.int (c2 >>> ((8 : Int32) &&& 31)).toInt8.toInt32), (.int c3.toInt8.toInt32), (.int (c3 >>> ((8 : Int32) &&& 31)).toInt8.toInt32)])) with ⟨rfl, rfl, rfl, l0, l1, l2, l3, -⟩ | ⟨rfl, rfl, rfl⟩
    · exact rm_at_lt l Z a0 hw ws t a1 (0 : Int32) (4 : Int32) (2 : Int32) tb tk _ _ _ c2 k1 _ fo cs h0 n0 Z0 E_t F_value_t F_coder_t V_tb hfo S_SIOOBE_FORMATTER OL S__assertionsDisabled S_HI_BYTE_SHIFT S_LO_BYTE_SHIFT S_COMPACT_STRINGS hcs V_a1 (by decide) (⟨f2, Or.inl ⟨rfl, by decide, by decide, _, rfl, l2⟩⟩) (by decide) (by decide) rfl
    · exact rm_at_lt l Z a0 hw ws t a1 (0 : Int32) (4 : Int32) (2 : Int32) tb tk _ _ _ c2 k1 _ fo cs h0 n0 Z0 E_t F_value_t F_coder_t V_tb hfo S_SIOOBE_FORMATTER OL S__assertionsDisabled S_HI_BYTE_SHIFT S_LO_BYTE_SHIFT S_COMPACT_STRINGS hcs V_a1 (by decide) (⟨f2, Or.inr ⟨rfl, (4 : Int32), by decide, by decide, by decide, ⟨f2, (4 : Int32), (5 : Int32), _, _, by decide, by decide, by decide, by decide, by decide, by decide, rfl, rfl, own_gc f2⟩⟩⟩) (by decide) (by decide) rfl
  · exact rm_at_ge l Z a0 hw ws t a1 (1 : Int32) (0 : Int32) (2 : Int32) h0 n0 Z0 (by decide)
  · exact rm_at_ge l Z a0 hw ws t a1 (1 : Int32) (1 : Int32) (2 : Int32) h0 n0 Z0 (by decide)
  · exact rm_at_ge l Z a0 hw ws t a1 (1 : Int32) (2 : Int32) (2 : Int32) h0 n0 Z0 (by decide)
  · rcases (id con : (co = (0 : Int32) ∧ z = (3 : Int32) ∧ vs = [(.int c1.toInt8.toInt32), (.int c2.toInt8.toInt32), (.int c3.toInt8.toInt32)] ∧ (c1.toInt8.toInt32 &&& (255 : Int32)) = c1 ∧ (c2.toInt8.toInt32 &&& (255 : Int32)) = c2 ∧ (c3.toInt8.toInt32 &&& (255 : Int32)) = c3 ∧ True) ∨ (co = (1 : Int32) ∧ z = (6 : Int32) ∧ vs = [(.int c1.toInt8.toInt32), (.int (c1 >>> ((8 : Int32) &&& 31)).toInt8.toInt32), (.int c2.toInt8.toInt32), (.int (c2 >>> ((8 : Int32) &&& 31)).toInt8.toInt32), (.int c3.toInt8.toInt32), (.int (c3 >>> ((8 : Int32) &&& 31)).toInt8.toInt32)])) with ⟨rfl, rfl, rfl, l0, l1, l2, -⟩ | ⟨rfl, rfl, rfl⟩
    · exact rm_at_lt l Z a0 hw ws t a1 (1 : Int32) (3 : Int32) (2 : Int32) tb tk _ _ _ c3 k1 _ fo cs h0 n0 Z0 E_t F_value_t F_coder_t V_tb hfo S_SIOOBE_FORMATTER OL S__assertionsDisabled S_HI_BYTE_SHIFT S_LO_BYTE_SHIFT S_COMPACT_STRINGS hcs V_a1 (by decide) (⟨f3, Or.inl ⟨rfl, by decide, by decide, _, rfl, l2⟩⟩) (by decide) (by decide) rfl
    · exact rm_at_lt l Z a0 hw ws t a1 (1 : Int32) (3 : Int32) (2 : Int32) tb tk _ _ _ c3 k1 _ fo cs h0 n0 Z0 E_t F_value_t F_coder_t V_tb hfo S_SIOOBE_FORMATTER OL S__assertionsDisabled S_HI_BYTE_SHIFT S_LO_BYTE_SHIFT S_COMPACT_STRINGS hcs V_a1 (by decide) (⟨f3, Or.inr ⟨rfl, (3 : Int32), by decide, by decide, by decide, ⟨f3, (4 : Int32), (5 : Int32), _, _, by decide, by decide, by decide, by decide, by decide, by decide, rfl, rfl, own_gc f3⟩⟩⟩) (by decide) (by decide) rfl
  · exact rm_at_ge l Z a0 hw ws t a1 (2 : Int32) (0 : Int32) (2 : Int32) h0 n0 Z0 (by decide)
  · exact rm_at_ge l Z a0 hw ws t a1 (2 : Int32) (1 : Int32) (2 : Int32) h0 n0 Z0 (by decide)
  · exact rm_at_ge l Z a0 hw ws t a1 (2 : Int32) (2 : Int32) (2 : Int32) h0 n0 Z0 (by decide)
  · exact rm_at_ge l Z a0 hw ws t a1 (3 : Int32) (0 : Int32) (2 : Int32) h0 n0 Z0 (by decide)
  · exact rm_at_ge l Z a0 hw ws t a1 (3 : Int32) (1 : Int32) (2 : Int32) h0 n0 Z0 (by decide)
  · exact rm_at_ge l Z a0 hw ws t a1 (4 : Int32) (0 : Int32) (2 : Int32) h0 n0 Z0 (by decide)
theorem rm_at_3 (l : Launch) (Z : State) (a0 : Array Value) (hw : HW a0 Z) (ws : List Jvm.Cond) (t : Addr) (a1 : Addr) (st : Int32) (ln : Int32) (tb : Addr) (tk : ClassId) (z : Int32) (vs : List Value) (co : Int32) (k1 : ClassId) (c0 : Int32) (c1 : Int32) (c2 : Int32) (c3 : Int32) (fo : Value) (cs : Int32) (h0 : Heap) (n0 : Nat) (Z0 : n0 ≤ h0.size) (E_t : Exa Z h0 t "java/lang/String") (F_value_t : Fld Z h0 t "java/lang/String" "value" "[B" (.ref tb)) (F_coder_t : Fld Z h0 t "java/lang/String" "coder" "B" (.int co)) (V_tb : Arv Z h0 tb tk .byte z vs (.int (0 : Int32))) (hfo : (fo).isRef = true) (S_SIOOBE_FORMATTER : Sta Z Z.heap "jdk/internal/util/Preconditions" "SIOOBE_FORMATTER" "Ljava/util/function/BiFunction;" fo) (OL : Old Z n0 h0) (S__assertionsDisabled : Sta Z Z.heap "java/lang/StringUTF16" "$assertionsDisabled" "Z" (.int (1 : Int32))) (S_HI_BYTE_SHIFT : Sta Z Z.heap "java/lang/StringUTF16" "HI_BYTE_SHIFT" "I" (.int (0 : Int32))) (S_LO_BYTE_SHIFT : Sta Z Z.heap "java/lang/StringUTF16" "LO_BYTE_SHIFT" "I" (.int (8 : Int32))) (S_COMPACT_STRINGS : Sta Z Z.heap "java/lang/String" "COMPACT_STRINGS" "Z" (.int cs)) (hcs : ¬ (cs = (0 : Int32))) (V_a1 : Arv Z h0 a1 k1 .char (4 : Int32) [(.int c0), (.int c1), (.int c2), (.int c3)] (.int (0 : Int32))) (con : StrC co z vs (sub4 st ln c0 c1 c2 c3)) (hcm : Combo st ln) (f0 : Ch c0) (f1 : Ch c1) (f2 : Ch c2) (f3 : Ch c3) :
    MetFree l y44_ (head1 (Jvm.Cond.code y44_ method_3_code 5 (some .boolean) :: ws) r5_0_0_66) (fun xa xU => xa = #[(.ref t), (.ref a1), (.int st), (.int ln), (.int (3 : Int32))] ∧ Z.Warmed39 xU.vm ∧ xU.heap = h0) (fun _ _ _ _ _ => True) (fun _ xU xo xU' => ∃ xv xL, xo = .returned xv ∧ Q_at Z   h0 n0 xv xU'.heap xL ∧ FrameEnd xU xo xU' xL r5_0_0_66.cells r5_0_0_66.slots) := by
  rcases hcm with ⟨rfl, rfl⟩ | ⟨rfl, rfl⟩ | ⟨rfl, rfl⟩ | ⟨rfl, rfl⟩ | ⟨rfl, rfl⟩ | ⟨rfl, rfl⟩ | ⟨rfl, rfl⟩ | ⟨rfl, rfl⟩ | ⟨rfl, rfl⟩ | ⟨rfl, rfl⟩ | ⟨rfl, rfl⟩ | ⟨rfl, rfl⟩ | ⟨rfl, rfl⟩ | ⟨rfl, rfl⟩ | ⟨rfl, rfl⟩
  · exact rm_at_ge l Z a0 hw ws t a1 (0 : Int32) (0 : Int32) (3 : Int32) h0 n0 Z0 (by decide)
  · exact rm_at_ge l Z a0 hw ws t a1 (0 : Int32) (1 : Int32) (3 : Int32) h0 n0 Z0 (by decide)
  · exact rm_at_ge l Z a0 hw ws t a1 (0 : Int32) (2 : Int32) (3 : Int32) h0 n0 Z0 (by decide)
  · exact rm_at_ge l Z a0 hw ws t a1 (0 : Int32) (3 : Int32) (3 : Int32) h0 n0 Z0 (by decide)
  · rcases (id con : (co = (0 : Int32) ∧ z = (4 : Int32) ∧ vs = [(.int c0.toInt8.toInt32), (.int c1.toInt8.toInt32), (.int c2.toInt8.toInt32), (.int c3.toInt8.toInt32)] ∧ (c0.toInt8.toInt32 &&& (255 : Int32)) = c0 ∧ (c1.toInt8.toInt32 &&& (255 : Int32)) = c1 ∧ (c2.toInt8.toInt32 &&& (255 : Int32)) = c2 ∧ (c3.toInt8.toInt32 &&& (255 : Int32)) = c3 ∧ True) ∨ (co = (1 : Int32) ∧ z = (8 : Int32) ∧ vs = [(.int c0.toInt8.toInt32), (.int (c0 >>> ((8 : Int32) &&& 31)).toInt8.toInt32), (.int c1.toInt8.toInt32), (.int (c1 >>> ((8 : Int32) &&& 31)).toInt8.toInt32), (.int c2.toInt8.toInt32), (.int (c2 >>> ((8 : Int32) &&& 31)).toInt8.toInt32), (.int c3.toInt8.toInt32), (.int (c3 >>> ((8 : Int32) &&& 31)).toInt8.toInt32)])) with ⟨rfl, rfl, rfl, l0, l1, l2, l3, -⟩ | ⟨rfl, rfl, rfl⟩
    · exact rm_at_lt l Z a0 hw ws t a1 (0 : Int32) (4 : Int32) (3 : Int32) tb tk _ _ _ c3 k1 _ fo cs h0 n0 Z0 E_t F_value_t F_coder_t V_tb hfo S_SIOOBE_FORMATTER OL S__assertionsDisabled S_HI_BYTE_SHIFT S_LO_BYTE_SHIFT S_COMPACT_STRINGS hcs V_a1 (by decide) (⟨f3, Or.inl ⟨rfl, by decide, by decide, _, rfl, l3⟩⟩) (by decide) (by decide) rfl
    · exact rm_at_lt l Z a0 hw ws t a1 (0 : Int32) (4 : Int32) (3 : Int32) tb tk _ _ _ c3 k1 _ fo cs h0 n0 Z0 E_t F_value_t F_coder_t V_tb hfo S_SIOOBE_FORMATTER OL S__assertionsDisabled S_HI_BYTE_SHIFT S_LO_BYTE_SHIFT S_COMPACT_STRINGS hcs V_a1 (by decide) (⟨f3, Or.inr ⟨rfl, (4 : Int32), by decide, by decide, by decide, ⟨f3, (6 : Int32), (7 : Int32), _, _, by decide, by decide, by decide, by decide, by decide, by decide, rfl, rfl, own_gc f3⟩⟩⟩) (by decide) (by decide) rfl
  · exact rm_at_ge l Z a0 hw ws t a1 (1 : Int32) (0 : Int32) (3 : Int32) h0 n0 Z0 (by decide)
  · exact rm_at_ge l Z a0 hw ws t a1 (1 : Int32) (1 : Int32) (3 : Int32) h0 n0 Z0 (by decide)
  · exact rm_at_ge l Z a0 hw ws t a1 (1 : Int32) (2 : Int32) (3 : Int32) h0 n0 Z0 (by decide)
  · exact rm_at_ge l Z a0 hw ws t a1 (1 : Int32) (3 : Int32) (3 : Int32) h0 n0 Z0 (by decide)
  · exact rm_at_ge l Z a0 hw ws t a1 (2 : Int32) (0 : Int32) (3 : Int32) h0 n0 Z0 (by decide)
  · exact rm_at_ge l Z a0 hw ws t a1 (2 : Int32) (1 : Int32) (3 : Int32) h0 n0 Z0 (by decide)
  · exact rm_at_ge l Z a0 hw ws t a1 (2 : Int32) (2 : Int32) (3 : Int32) h0 n0 Z0 (by decide)
  · exact rm_at_ge l Z a0 hw ws t a1 (3 : Int32) (0 : Int32) (3 : Int32) h0 n0 Z0 (by decide)
  · exact rm_at_ge l Z a0 hw ws t a1 (3 : Int32) (1 : Int32) (3 : Int32) h0 n0 Z0 (by decide)
  · exact rm_at_ge l Z a0 hw ws t a1 (4 : Int32) (0 : Int32) (3 : Int32) h0 n0 Z0 (by decide)
-- MARK law
def Q_law (n0 : Nat) (v : Option Value) (L : List Loc) : Prop := v = some (.int 1) ∧ Fr n0 L
theorem pd_0 : parseMethodDescriptor "([C)V" = some ⟨[(.array .char)], none⟩ := by decide +kernel
theorem pd_2 : parseMethodDescriptor "()V" = some ⟨[], none⟩ := by decide +kernel
theorem pd_9 : parseMethodDescriptor "(Ljava/lang/CharSequence;III)V" = some ⟨[(.object "java/lang/CharSequence"), .int, .int, .int], none⟩ := by decide +kernel
theorem pd_17 : parseMethodDescriptor "(Ljava/lang/String;[CIII)Z" = some ⟨[(.object "java/lang/String"), (.array .char), .int, .int, .int], some .boolean⟩ := by decide +kernel
abbrev Lc_law_0 (p0 : Int32) (p1 : Int32) (p2 : Int32) (p3 : Int32) (p4 : Int32) (p5 : Int32) : Array Slot := #[.val (.int p0), .val (.int p1), .val (.int p2), .val (.int p3), .val (.int p4), .val (.int p5), .unset, .unset, .unset, .unset, .unset, .unset, .unset, .unset, .unset, .unset]
abbrev Lc_law_1 (p0 : Int32) (p1 : Int32) (p2 : Int32) (p3 : Int32) (p4 : Int32) (p5 : Int32) (b101 : Addr) : Array Slot := #[.val (.int p0), .val (.int p1), .val (.int p2), .val (.int p3), .val (.int p4), .val (.int p5), .val (.ref b101), .unset, .unset, .unset, .unset, .unset, .unset, .unset, .unset, .unset]
abbrev Lc_law_2 (p0 : Int32) (p1 : Int32) (p2 : Int32) (p3 : Int32) (p4 : Int32) (p5 : Int32) (b101 : Addr) (b115 : Addr) : Array Slot := #[.val (.int p0), .val (.int p1), .val (.int p2), .val (.int p3), .val (.int p4), .val (.int p5), .val (.ref b101), .val (.ref b115), .unset, .unset, .unset, .unset, .unset, .unset, .unset, .unset]
abbrev Lc_law_3 (p0 : Int32) (p1 : Int32) (p2 : Int32) (p3 : Int32) (p4 : Int32) (p5 : Int32) (b101 : Addr) (b115 : Addr) (b138 : Addr) : Array Slot := #[.val (.int p0), .val (.int p1), .val (.int p2), .val (.int p3), .val (.int p4), .val (.int p5), .val (.ref b101), .val (.ref b115), .val (.ref b138), .unset, .unset, .unset, .unset, .unset, .unset, .unset]
abbrev Lc_law_4 (p0 : Int32) (p1 : Int32) (p2 : Int32) (p3 : Int32) (p4 : Int32) (p5 : Int32) (b101 : Addr) (b115 : Addr) (b138 : Addr) (b156 : Addr) : Array Slot := #[.val (.int p0), .val (.int p1), .val (.int p2), .val (.int p3), .val (.int p4), .val (.int p5), .val (.ref b101), .val (.ref b115), .val (.ref b138), .val (.ref b156), .unset, .unset, .unset, .unset, .unset, .unset]
abbrev Lc_law_5 (p0 : Int32) (p1 : Int32) (p2 : Int32) (p3 : Int32) (p4 : Int32) (p5 : Int32) (b101 : Addr) (b115 : Addr) (b138 : Addr) (b156 : Addr) (st : Int32) : Array Slot := #[.val (.int p0), .val (.int p1), .val (.int p2), .val (.int p3), .val (.int p4), .val (.int p5), .val (.ref b101), .val (.ref b115), .val (.ref b138), .val (.ref b156), .val (.int st), .unset, .unset, .unset, .unset, .unset]
abbrev Lc_law_6 (p0 : Int32) (p1 : Int32) (p2 : Int32) (p3 : Int32) (p4 : Int32) (p5 : Int32) (b101 : Addr) (b115 : Addr) (b138 : Addr) (b156 : Addr) (st : Int32) (ln : Int32) : Array Slot := #[.val (.int p0), .val (.int p1), .val (.int p2), .val (.int p3), .val (.int p4), .val (.int p5), .val (.ref b101), .val (.ref b115), .val (.ref b138), .val (.ref b156), .val (.int st), .val (.int ln), .unset, .unset, .unset, .unset]
abbrev Lc_law_7 (p0 : Int32) (p1 : Int32) (p2 : Int32) (p3 : Int32) (p4 : Int32) (p5 : Int32) (b101 : Addr) (b115 : Addr) (b138 : Addr) (b156 : Addr) (st : Int32) (ln : Int32) (fa : Int32) : Array Slot := #[.val (.int p0), .val (.int p1), .val (.int p2), .val (.int p3), .val (.int p4), .val (.int p5), .val (.ref b101), .val (.ref b115), .val (.ref b138), .val (.ref b156), .val (.int st), .val (.int ln), .val (.int fa), .unset, .unset, .unset]
abbrev Lc_law_8 (p0 : Int32) (p1 : Int32) (p2 : Int32) (p3 : Int32) (p4 : Int32) (p5 : Int32) (b101 : Addr) (b115 : Addr) (b138 : Addr) (b156 : Addr) (st : Int32) (ln : Int32) (fa : Int32) (fl : Int32) : Array Slot := #[.val (.int p0), .val (.int p1), .val (.int p2), .val (.int p3), .val (.int p4), .val (.int p5), .val (.ref b101), .val (.ref b115), .val (.ref b138), .val (.ref b156), .val (.int st), .val (.int ln), .val (.int fa), .val (.int fl), .unset, .unset]
abbrev Lc_law_9 (p0 : Int32) (p1 : Int32) (p2 : Int32) (p3 : Int32) (p4 : Int32) (p5 : Int32) (b101 : Addr) (b115 : Addr) (b138 : Addr) (b156 : Addr) (st : Int32) (ln : Int32) (fa : Int32) (fl : Int32) (b167 : Addr) : Array Slot := #[.val (.int p0), .val (.int p1), .val (.int p2), .val (.int p3), .val (.int p4), .val (.int p5), .val (.ref b101), .val (.ref b115), .val (.ref b138), .val (.ref b156), .val (.int st), .val (.int ln), .val (.int fa), .val (.int fl), .val (.ref b167), .unset]
abbrev Lc_law_10 (p0 : Int32) (p1 : Int32) (p2 : Int32) (p3 : Int32) (p4 : Int32) (p5 : Int32) (b101 : Addr) (b115 : Addr) (b138 : Addr) (b156 : Addr) (st : Int32) (ln : Int32) (fa : Int32) (fl : Int32) (b167 : Addr) (r_177 : Addr) : Array Slot := #[.val (.int p0), .val (.int p1), .val (.int p2), .val (.int p3), .val (.int p4), .val (.int p5), .val (.ref b101), .val (.ref b115), .val (.ref b138), .val (.ref b156), .val (.int st), .val (.int ln), .val (.int fa), .val (.int fl), .val (.ref b167), .val (.ref r_177)]
theorem ef_law (mM : MethodId) (p0 : Int32) (p1 : Int32) (p2 : Int32) (p3 : Int32) (p4 : Int32) (p5 : Int32) (c0 : Int32) (c1 : Int32) (c2 : Int32) (c3 : Int32) (st : Int32) (ln : Int32) (fa : Int32) (fl : Int32) (fo : Value) (cs : Int32) : entryFrame mM #[(.int p0), (.int p1), (.int p2), (.int p3), (.int p4), (.int p5)] maxLocals = mkF mM 0 #[.val (.int p0), .val (.int p1), .val (.int p2), .val (.int p3), .val (.int p4), .val (.int p5), .unset, .unset, .unset, .unset, .unset, .unset, .unset, .unset, .unset, .unset] [] := by
  first | (simp [entryFrame, mkF, argsToLocals, Value.category, maxLocals]; done) | rfl
theorem rm_law (l : Launch) (Z : State) (a0 : Array Value) (hw : HW a0 Z) (ws : List Jvm.Cond) (p0 : Int32) (p1 : Int32) (p2 : Int32) (p3 : Int32) (p4 : Int32) (p5 : Int32) (c0 : Int32) (c1 : Int32) (c2 : Int32) (c3 : Int32) (st : Int32) (ln : Int32) (fa : Int32) (fl : Int32) (fo : Value) (cs : Int32) (h0 : Heap) (n0 : Nat) (Z0 : n0 ≤ h0.size) (x0 : ((p0 &&& (65535 : Int32)).toUInt32.toUInt16.toUInt32.toInt32) = c0) (x1 : (((p0.toUInt32 >>> ((16 : Int32) &&& 31).toUInt32).toInt32).toUInt32.toUInt16.toUInt32.toInt32) = c1) (x2 : ((p1 &&& (65535 : Int32)).toUInt32.toUInt16.toUInt32.toInt32) = c2) (x3 : (((p1.toUInt32 >>> ((16 : Int32) &&& 31).toUInt32).toInt32).toUInt32.toUInt16.toUInt32.toInt32) = c3) (s1 : ((p2 &&& (2147483647 : Int32)) % (5 : Int32)) = st) (s2 : ((((p2.toUInt32 >>> ((8 : Int32) &&& 31).toUInt32).toInt32) &&& (2147483647 : Int32)) % ((5 : Int32) - st)) = ln) (s3 : ((p4 &&& (2147483647 : Int32)) % (5 : Int32)) = fa) (s4 : ((((p4.toUInt32 >>> ((8 : Int32) &&& 31).toUInt32).toInt32) &&& (2147483647 : Int32)) % ((5 : Int32) - fa)) = fl) (f0 : Ch c0) (f1 : Ch c1) (f2 : Ch c2) (f3 : Ch c3) (hcm : Combo st ln) (OL : Old Z n0 h0) (S__assertionsDisabled : Sta Z Z.heap "java/lang/StringUTF16" "$assertionsDisabled" "Z" (.int (1 : Int32))) (S_HI_BYTE_SHIFT : Sta Z Z.heap "java/lang/StringUTF16" "HI_BYTE_SHIFT" "I" (.int (0 : Int32))) (S_LO_BYTE_SHIFT : Sta Z Z.heap "java/lang/StringUTF16" "LO_BYTE_SHIFT" "I" (.int (8 : Int32))) (hfo : (fo).isRef = true) (S_SIOOBE_FORMATTER : Sta Z Z.heap "jdk/internal/util/Preconditions" "SIOOBE_FORMATTER" "Ljava/util/function/BiFunction;" fo) (S_COMPACT_STRINGS : Sta Z Z.heap "java/lang/String" "COMPACT_STRINGS" "Z" (.int cs)) (hcs : ¬ (cs = (0 : Int32))) (hc119 : ¬ (((5 : Int32) - st) = (0 : Int32))) (hc143 : ¬ (((5 : Int32) - fa) = (0 : Int32))) :
    MetFree l x (head1 (Jvm.Cond.code x code maxLocals ret :: ws) room_1) (fun xa xU => xa = #[(.int p0), (.int p1), (.int p2), (.int p3), (.int p4), (.int p5)] ∧ Z.Warmed39 xU.vm ∧ xU.heap = h0 ∧ CHv Z consts_1 xU.vm h0 ∧ ∀ x ∈ ([] : List Addr), Safe Z consts_1 xU.vm h0 x) (fun _ _ _ _ _ => True) (fun _ xU xo xU' => ∃ xv xL, xo = .returned xv ∧ Q_law n0 xv xL ∧ CHr Z consts_1 xU.vm xU.heap xU'.vm xU'.heap ∧ ReturnedEndW xU xo xU' xL room_1.cells room_1.slots) := by
  refine MetFree.of_bodySF (plainFor_of_name pn_com_example_bufferwright_bufferwright_text_WordMoveToPinLaw) hisR ?_
  intro pP eE sS mM argS bS methS cC s₁ Bd hml0 hP hK
  obtain ⟨rfl, hZ, hh, hCH, hSf⟩ := hP
  have hx := Bd.exec
  have hby := Bd.bytes
  have hml : cC.maxLocals = 16 := hml0
  have hown : sS.vm.findClass "com/example/bufferwright/bufferwright/text/WordMoveToPinLaw" = some mM.cls := findClass_of_methodNamed Bd.named
  have hnm := (name_of_methodNamed Bd.named Bd.method).1
  have X0 : Stand pP l eE room_1 (sS.setVm sS.vm) mM #[(.int p0), (.int p1), (.int p2), (.int p3), (.int p4), (.int p5)] bS methS cC s₁ [] 0 0 := Stand.of_body Bd
  have e0 : s₁.heap = h0 := by rw [← hh, Bd.state]; rfl
  have N0 := Fr.nil n0
  have hZ0 : Z.Warmed39 (sS.setVm sS.vm).vm := hZ
  have hown0 : (sS.setVm sS.vm).vm.findClass "com/example/bufferwright/bufferwright/text/WordMoveToPinLaw" = some mM.cls := hown
  have hS0 : sS.Since sS.vm 0 := (State.WarmedH.refl sS).since 0
  have CC0 : CHr Z consts_1 sS.vm h0 sS.vm h0 := CHr.refl hCH
  obtain ⟨T101, h101, k101, X101, e101, E101, A101, st101⟩ := newP X0 hx hZ0 (wi hw 0 rfl) e0 (g := (mkF mM 1 (Lc_law_0 p0 p1 p2 p3 p4 p5) [(.int (4 : Int32))])) rfl (hb hby at_1) rfl (by decide) (cap := 4) (by decide) (by decide) (by decide) (by decide)
  obtain ⟨b101, g101⟩ : ∃ z : Nat, z = h0.size := ⟨_, rfl⟩
  rw [← g101] at A101 st101
  have Sz1 : h0.size ≤ h101.size := E101.1
  have CC1 : CHr Z consts_1 sS.vm h0 sS.vm h101 := CC0.trans (CHr.ext E101 CC0.1)
  have V_b101 : Arv Z h101 b101 k101 .char (4 : Int32) [(.int (0 : Int32)), (.int (0 : Int32)), (.int (0 : Int32)), (.int (0 : Int32))] (.int (0 : Int32)) := (Arv.new A101 (by decide)).pad (pad_rep [] (.int (0 : Int32)) 4)
  obtain ⟨cl102, Ar102, q102, S102, Ng102, Ha102, Ga102⟩ := id V_b101
  have hin102 : ¬ ((0 : Int32) < 0 ∨ cl102.slots.size ≤ ((0 : Int32)).toNatClampNeg) := inb_of S102 ⟨by decide, by decide⟩
  obtain ⟨T103, h103, X103, e103, W103, st103⟩ := stC X101 hx hZ0 e101 Ar102 (j := (0 : Int32)) hin102 (g := (mkF mM 13 (Lc_law_1 p0 p1 p2 p3 p4 p5 b101) [(.int c0), (.int (0 : Int32)), (.ref b101)])) rfl rfl (hb hby at_13)
  have ge104_b101 : @LE.le Nat _ n0 b101 := by omega
  have Sz2 : h101.size ≤ h103.size := Nat.le_of_eq (Wr.size W103).symm
  have sf105_b101 : Safe Z consts_1 sS.vm h101 b101 := Safe.arv (show Z.Warmed39 sS.vm from hZ0).alike V_b101 (by decide)
  have CC2 : CHr Z consts_1 sS.vm h0 sS.vm h103 := CC1.trans (CHr.wr W103 sf105_b101 CC1.1)
  have Vs103 := Arv.set Ar102 q102 S102 Ng102 Ha102 Ga102 (fits_nar_char _) W103 0 rfl (Nat.le_of_ble_eq_true rfl)
  have Vt103 : Arv Z h103 b101 k101 .char (4 : Int32) [(.int c0), (.int (0 : Int32)), (.int (0 : Int32)), (.int (0 : Int32))] (.int (0 : Int32)) := by
    have q : Arv Z h103 b101 k101 .char (4 : Int32) [(.int c0.toUInt32.toUInt16.toUInt32.toInt32), (.int (0 : Int32)), (.int (0 : Int32)), (.int (0 : Int32))] (.int (0 : Int32)) := Vs103
    rw [show ((.int c0.toUInt32.toUInt16.toUInt32.toInt32) : Value) = (.int c0) from congrArg Value.int f0] at q
    exact q
  have N103 := Fr.snoc X103 N0 ge104_b101
  obtain ⟨cl106, Ar106, q106, S106, Ng106, Ha106, Ga106⟩ := id Vt103
  have hin106 : ¬ ((1 : Int32) < 0 ∨ cl106.slots.size ≤ ((1 : Int32)).toNatClampNeg) := inb_of S106 ⟨by decide, by decide⟩
  obtain ⟨T107, h107, X107, e107, W107, st107⟩ := stC X103 hx hZ0 e103 Ar106 (j := (1 : Int32)) hin106 (g := (mkF mM 22 (Lc_law_1 p0 p1 p2 p3 p4 p5 b101) [(.int c1), (.int (1 : Int32)), (.ref b101)])) rfl rfl (hb hby at_22)
  have Sz3 : h103.size ≤ h107.size := Nat.le_of_eq (Wr.size W107).symm
  have sf108_b101 : Safe Z consts_1 sS.vm h103 b101 := Safe.arv (show Z.Warmed39 sS.vm from hZ0).alike Vt103 (by decide)
  have CC3 : CHr Z consts_1 sS.vm h0 sS.vm h107 := CC2.trans (CHr.wr W107 sf108_b101 CC2.1)
  have Vs107 := Arv.set Ar106 q106 S106 Ng106 Ha106 Ga106 (fits_nar_char _) W107 1 rfl (Nat.le_of_ble_eq_true rfl)
  have Vt107 : Arv Z h107 b101 k101 .char (4 : Int32) [(.int c0), (.int c1), (.int (0 : Int32)), (.int (0 : Int32))] (.int (0 : Int32)) := by
    have q : Arv Z h107 b101 k101 .char (4 : Int32) [(.int c0), (.int c1.toUInt32.toUInt16.toUInt32.toInt32), (.int (0 : Int32)), (.int (0 : Int32))] (.int (0 : Int32)) := Vs107
    rw [show ((.int c1.toUInt32.toUInt16.toUInt32.toInt32) : Value) = (.int c1) from congrArg Value.int f1] at q
    exact q
  have N107 := Fr.snoc X107 N103 ge104_b101
  obtain ⟨cl109, Ar109, q109, S109, Ng109, Ha109, Ga109⟩ := id Vt107
  have hin109 : ¬ ((2 : Int32) < 0 ∨ cl109.slots.size ≤ ((2 : Int32)).toNatClampNeg) := inb_of S109 ⟨by decide, by decide⟩
  obtain ⟨T110, h110, X110, e110, W110, st110⟩ := stC X107 hx hZ0 e107 Ar109 (j := (2 : Int32)) hin109 (g := (mkF mM 31 (Lc_law_1 p0 p1 p2 p3 p4 p5 b101) [(.int c2), (.int (2 : Int32)), (.ref b101)])) rfl rfl (hb hby at_31)
  have Sz4 : h107.size ≤ h110.size := Nat.le_of_eq (Wr.size W110).symm
  have sf111_b101 : Safe Z consts_1 sS.vm h107 b101 := Safe.arv (show Z.Warmed39 sS.vm from hZ0).alike Vt107 (by decide)
  have CC4 : CHr Z consts_1 sS.vm h0 sS.vm h110 := CC3.trans (CHr.wr W110 sf111_b101 CC3.1)
  have Vs110 := Arv.set Ar109 q109 S109 Ng109 Ha109 Ga109 (fits_nar_char _) W110 2 rfl (Nat.le_of_ble_eq_true rfl)
  have Vt110 : Arv Z h110 b101 k101 .char (4 : Int32) [(.int c0), (.int c1), (.int c2), (.int (0 : Int32))] (.int (0 : Int32)) := by
    have q : Arv Z h110 b101 k101 .char (4 : Int32) [(.int c0), (.int c1), (.int c2.toUInt32.toUInt16.toUInt32.toInt32), (.int (0 : Int32))] (.int (0 : Int32)) := Vs110
    rw [show ((.int c2.toUInt32.toUInt16.toUInt32.toInt32) : Value) = (.int c2) from congrArg Value.int f2] at q
    exact q
  have N110 := Fr.snoc X110 N107 ge104_b101
  obtain ⟨cl112, Ar112, q112, S112, Ng112, Ha112, Ga112⟩ := id Vt110
  have hin112 : ¬ ((3 : Int32) < 0 ∨ cl112.slots.size ≤ ((3 : Int32)).toNatClampNeg) := inb_of S112 ⟨by decide, by decide⟩
  obtain ⟨T113, h113, X113, e113, W113, st113⟩ := stC X110 hx hZ0 e110 Ar112 (j := (3 : Int32)) hin112 (g := (mkF mM 40 (Lc_law_1 p0 p1 p2 p3 p4 p5 b101) [(.int c3), (.int (3 : Int32)), (.ref b101)])) rfl rfl (hb hby at_40)
  have Sz5 : h110.size ≤ h113.size := Nat.le_of_eq (Wr.size W113).symm
  have sf114_b101 : Safe Z consts_1 sS.vm h110 b101 := Safe.arv (show Z.Warmed39 sS.vm from hZ0).alike Vt110 (by decide)
  have CC5 : CHr Z consts_1 sS.vm h0 sS.vm h113 := CC4.trans (CHr.wr W113 sf114_b101 CC4.1)
  have Vs113 := Arv.set Ar112 q112 S112 Ng112 Ha112 Ga112 (fits_nar_char _) W113 3 rfl (Nat.le_of_ble_eq_true rfl)
  have Vt113 : Arv Z h113 b101 k101 .char (4 : Int32) [(.int c0), (.int c1), (.int c2), (.int c3)] (.int (0 : Int32)) := by
    have q : Arv Z h113 b101 k101 .char (4 : Int32) [(.int c0), (.int c1), (.int c2), (.int c3.toUInt32.toUInt16.toUInt32.toInt32)] (.int (0 : Int32)) := Vs113
    rw [show ((.int c3.toUInt32.toUInt16.toUInt32.toInt32) : Value) = (.int c3) from congrArg Value.int f3] at q
    exact q
  have N113 := Fr.snoc X113 N110 ge104_b101
  obtain ⟨T115, h115, k115, X115, e115, E115, A115, st115⟩ := newP X113 hx hZ0 (wi hw 0 rfl) e113 (g := (mkF mM 42 (Lc_law_1 p0 p1 p2 p3 p4 p5 b101) [(.int (4 : Int32))])) rfl (hb hby at_42) rfl (by decide) (cap := 4) (by decide) (by decide) (by decide) (by decide)
  obtain ⟨b115, g115⟩ : ∃ z : Nat, z = h113.size := ⟨_, rfl⟩
  rw [← g115] at A115 st115
  have Sz6 : h113.size ≤ h115.size := E115.1
  have CC6 : CHr Z consts_1 sS.vm h0 sS.vm h115 := CC5.trans (CHr.ext E115 CC5.1)
  have V_b115 : Arv Z h115 b115 k115 .char (4 : Int32) [(.int (0 : Int32)), (.int (0 : Int32)), (.int (0 : Int32)), (.int (0 : Int32))] (.int (0 : Int32)) := (Arv.new A115 (by decide)).pad (pad_rep [] (.int (0 : Int32)) 4)
  have c116_V_b101 : Arv Z h115 b101 k101 .char (4 : Int32) [(.int c0), (.int c1), (.int c2), (.int c3)] (.int (0 : Int32)) := Vt113.ext E115
  obtain ⟨cl117, Ar117, q117, S117, Ng117, Ha117, Ga117⟩ := id c116_V_b101
  have hin117 : ¬ ((3 : Int32) < 0 ∨ cl117.slots.size ≤ ((3 : Int32)).toNatClampNeg) := inb_of S117 ⟨by decide, by decide⟩
  have hat117 : cl117.slots[((3 : Int32)).toNatClampNeg]? = some (.int c3) := Ha117.at hin117 (rfl)
  obtain ⟨cl118, Ar118, q118, S118, Ng118, Ha118, Ga118⟩ := id V_b115
  have hin118 : ¬ ((0 : Int32) < 0 ∨ cl118.slots.size ≤ ((0 : Int32)).toNatClampNeg) := inb_of S118 ⟨by decide, by decide⟩
  obtain ⟨T119, h119, X119, e119, W119, st119⟩ := stC X115 hx hZ0 e115 Ar118 (j := (0 : Int32)) hin118 (g := (mkF mM 53 (Lc_law_2 p0 p1 p2 p3 p4 p5 b101 b115) [(.int c3), (.int (0 : Int32)), (.ref b115)])) rfl rfl (hb hby at_53)
  have ge120_b115 : @LE.le Nat _ n0 b115 := by omega
  have Sz7 : h115.size ≤ h119.size := Nat.le_of_eq (Wr.size W119).symm
  have sf121_b115 : Safe Z consts_1 sS.vm h115 b115 := Safe.arv (show Z.Warmed39 sS.vm from hZ0).alike V_b115 (by decide)
  have CC7 : CHr Z consts_1 sS.vm h0 sS.vm h119 := CC6.trans (CHr.wr W119 sf121_b115 CC6.1)
  have Vs119 := Arv.set Ar118 q118 S118 Ng118 Ha118 Ga118 (fits_nar_char _) W119 0 rfl (Nat.le_of_ble_eq_true rfl)
  have Vt119 : Arv Z h119 b115 k115 .char (4 : Int32) [(.int c3), (.int (0 : Int32)), (.int (0 : Int32)), (.int (0 : Int32))] (.int (0 : Int32)) := by
    have q : Arv Z h119 b115 k115 .char (4 : Int32) [(.int c3.toUInt32.toUInt16.toUInt32.toInt32), (.int (0 : Int32)), (.int (0 : Int32)), (.int (0 : Int32))] (.int (0 : Int32)) := Vs119
    rw [show ((.int c3.toUInt32.toUInt16.toUInt32.toInt32) : Value) = (.int c3) from congrArg Value.int f3] at q
    exact q
  have N119 := Fr.snoc X119 N113 ge120_b115
  have lt_b101 : @LT.lt Nat _ b101 h101.size := V_b101.lt
  have lt_b115 : @LT.lt Nat _ b115 h115.size := V_b115.lt
  have ne_b101_b115_122 : b101 ≠ b115 := (by omega : @Ne Nat b101 b115)
  have c123_V_b101 : Arv Z h119 b101 k101 .char (4 : Int32) [(.int c0), (.int c1), (.int c2), (.int c3)] (.int (0 : Int32)) := c116_V_b101.other W119 ne_b101_b115_122
  obtain ⟨cl124, Ar124, q124, S124, Ng124, Ha124, Ga124⟩ := id c123_V_b101
  have hin124 : ¬ ((2 : Int32) < 0 ∨ cl124.slots.size ≤ ((2 : Int32)).toNatClampNeg) := inb_of S124 ⟨by decide, by decide⟩
  have hat124 : cl124.slots[((2 : Int32)).toNatClampNeg]? = some (.int c2) := Ha124.at hin124 (rfl)
  obtain ⟨cl125, Ar125, q125, S125, Ng125, Ha125, Ga125⟩ := id Vt119
  have hin125 : ¬ ((1 : Int32) < 0 ∨ cl125.slots.size ≤ ((1 : Int32)).toNatClampNeg) := inb_of S125 ⟨by decide, by decide⟩
  obtain ⟨T126, h126, X126, e126, W126, st126⟩ := stC X119 hx hZ0 e119 Ar125 (j := (1 : Int32)) hin125 (g := (mkF mM 61 (Lc_law_2 p0 p1 p2 p3 p4 p5 b101 b115) [(.int c2), (.int (1 : Int32)), (.ref b115)])) rfl rfl (hb hby at_61)
  have Sz8 : h119.size ≤ h126.size := Nat.le_of_eq (Wr.size W126).symm
  have sf127_b115 : Safe Z consts_1 sS.vm h119 b115 := Safe.arv (show Z.Warmed39 sS.vm from hZ0).alike Vt119 (by decide)
  have CC8 : CHr Z consts_1 sS.vm h0 sS.vm h126 := CC7.trans (CHr.wr W126 sf127_b115 CC7.1)
  have Vs126 := Arv.set Ar125 q125 S125 Ng125 Ha125 Ga125 (fits_nar_char _) W126 1 rfl (Nat.le_of_ble_eq_true rfl)
  have Vt126 : Arv Z h126 b115 k115 .char (4 : Int32) [(.int c3), (.int c2), (.int (0 : Int32)), (.int (0 : Int32))] (.int (0 : Int32)) := by
    have q : Arv Z h126 b115 k115 .char (4 : Int32) [(.int c3), (.int c2.toUInt32.toUInt16.toUInt32.toInt32), (.int (0 : Int32)), (.int (0 : Int32))] (.int (0 : Int32)) := Vs126
    rw [show ((.int c2.toUInt32.toUInt16.toUInt32.toInt32) : Value) = (.int c2) from congrArg Value.int f2] at q
    exact q
  have N126 := Fr.snoc X126 N119 ge120_b115
  have c128_V_b101 : Arv Z h126 b101 k101 .char (4 : Int32) [(.int c0), (.int c1), (.int c2), (.int c3)] (.int (0 : Int32)) := c123_V_b101.other W126 ne_b101_b115_122
  obtain ⟨cl129, Ar129, q129, S129, Ng129, Ha129, Ga129⟩ := id c128_V_b101
  have hin129 : ¬ ((1 : Int32) < 0 ∨ cl129.slots.size ≤ ((1 : Int32)).toNatClampNeg) := inb_of S129 ⟨by decide, by decide⟩
  have hat129 : cl129.slots[((1 : Int32)).toNatClampNeg]? = some (.int c1) := Ha129.at hin129 (rfl)
  obtain ⟨cl130, Ar130, q130, S130, Ng130, Ha130, Ga130⟩ := id Vt126
  have hin130 : ¬ ((2 : Int32) < 0 ∨ cl130.slots.size ≤ ((2 : Int32)).toNatClampNeg) := inb_of S130 ⟨by decide, by decide⟩
  obtain ⟨T131, h131, X131, e131, W131, st131⟩ := stC X126 hx hZ0 e126 Ar130 (j := (2 : Int32)) hin130 (g := (mkF mM 69 (Lc_law_2 p0 p1 p2 p3 p4 p5 b101 b115) [(.int c1), (.int (2 : Int32)), (.ref b115)])) rfl rfl (hb hby at_69)
  have Sz9 : h126.size ≤ h131.size := Nat.le_of_eq (Wr.size W131).symm
  have sf132_b115 : Safe Z consts_1 sS.vm h126 b115 := Safe.arv (show Z.Warmed39 sS.vm from hZ0).alike Vt126 (by decide)
  have CC9 : CHr Z consts_1 sS.vm h0 sS.vm h131 := CC8.trans (CHr.wr W131 sf132_b115 CC8.1)
  have Vs131 := Arv.set Ar130 q130 S130 Ng130 Ha130 Ga130 (fits_nar_char _) W131 2 rfl (Nat.le_of_ble_eq_true rfl)
  have Vt131 : Arv Z h131 b115 k115 .char (4 : Int32) [(.int c3), (.int c2), (.int c1), (.int (0 : Int32))] (.int (0 : Int32)) := by
    have q : Arv Z h131 b115 k115 .char (4 : Int32) [(.int c3), (.int c2), (.int c1.toUInt32.toUInt16.toUInt32.toInt32), (.int (0 : Int32))] (.int (0 : Int32)) := Vs131
    rw [show ((.int c1.toUInt32.toUInt16.toUInt32.toInt32) : Value) = (.int c1) from congrArg Value.int f1] at q
    exact q
  have N131 := Fr.snoc X131 N126 ge120_b115
  have c133_V_b101 : Arv Z h131 b101 k101 .char (4 : Int32) [(.int c0), (.int c1), (.int c2), (.int c3)] (.int (0 : Int32)) := c128_V_b101.other W131 ne_b101_b115_122
  obtain ⟨cl134, Ar134, q134, S134, Ng134, Ha134, Ga134⟩ := id c133_V_b101
  have hin134 : ¬ ((0 : Int32) < 0 ∨ cl134.slots.size ≤ ((0 : Int32)).toNatClampNeg) := inb_of S134 ⟨by decide, by decide⟩
  have hat134 : cl134.slots[((0 : Int32)).toNatClampNeg]? = some (.int c0) := Ha134.at hin134 (rfl)
  obtain ⟨cl135, Ar135, q135, S135, Ng135, Ha135, Ga135⟩ := id Vt131
  have hin135 : ¬ ((3 : Int32) < 0 ∨ cl135.slots.size ≤ ((3 : Int32)).toNatClampNeg) := inb_of S135 ⟨by decide, by decide⟩
  obtain ⟨T136, h136, X136, e136, W136, st136⟩ := stC X131 hx hZ0 e131 Ar135 (j := (3 : Int32)) hin135 (g := (mkF mM 77 (Lc_law_2 p0 p1 p2 p3 p4 p5 b101 b115) [(.int c0), (.int (3 : Int32)), (.ref b115)])) rfl rfl (hb hby at_77)
  have Sz10 : h131.size ≤ h136.size := Nat.le_of_eq (Wr.size W136).symm
  have sf137_b115 : Safe Z consts_1 sS.vm h131 b115 := Safe.arv (show Z.Warmed39 sS.vm from hZ0).alike Vt131 (by decide)
  have CC10 : CHr Z consts_1 sS.vm h0 sS.vm h136 := CC9.trans (CHr.wr W136 sf137_b115 CC9.1)
  have Vs136 := Arv.set Ar135 q135 S135 Ng135 Ha135 Ga135 (fits_nar_char _) W136 3 rfl (Nat.le_of_ble_eq_true rfl)
  have Vt136 : Arv Z h136 b115 k115 .char (4 : Int32) [(.int c3), (.int c2), (.int c1), (.int c0)] (.int (0 : Int32)) := by
    have q : Arv Z h136 b115 k115 .char (4 : Int32) [(.int c3), (.int c2), (.int c1), (.int c0.toUInt32.toUInt16.toUInt32.toInt32)] (.int (0 : Int32)) := Vs136
    rw [show ((.int c0.toUInt32.toUInt16.toUInt32.toInt32) : Value) = (.int c0) from congrArg Value.int f0] at q
    exact q
  have N136 := Fr.snoc X136 N131 ge120_b115
  obtain ⟨T138, h138, X138, e138, E138, A138, D138, B138, st138⟩ := newO X136 hx hZ0 hown0 (wi hw 2 rfl) (wi hw 3 rfl) (wi hw 4 rfl) e136 (g := (mkF mM 78 (Lc_law_2 p0 p1 p2 p3 p4 p5 b101 b115) [])) rfl (hb hby at_78) (by decide) (by decide)
  obtain ⟨b138, g138⟩ : ∃ z : Nat, z = h136.size := ⟨_, rfl⟩
  rw [← g138] at A138 D138 B138 st138
  have Sz11 : h136.size ≤ h138.size := E138.1
  have CC11 : CHr Z consts_1 sS.vm h0 sS.vm h138 := CC10.trans (CHr.ext E138 CC10.1)
  have F138_coder : Fld Z h138 b138 "java/lang/String" "coder" "B" (.int (0 : Int32)) := D138 (Or.inr (wi hw 28 rfl)) (ty := .byte) (by decide)
  have F138_value : Fld Z h138 b138 "java/lang/String" "value" "[B" .null := D138 (Or.inr (wi hw 30 rfl)) (ty := (.array .byte)) (by decide)
  have c140_V_b101 : Arv Z h136 b101 k101 .char (4 : Int32) [(.int c0), (.int c1), (.int c2), (.int c3)] (.int (0 : Int32)) := c133_V_b101.other W136 ne_b101_b115_122
  have c141_V_b101 : Arv Z h138 b101 k101 .char (4 : Int32) [(.int c0), (.int c1), (.int c2), (.int c3)] (.int (0 : Int32)) := c140_V_b101.ext E138
  have c142_OL : Old Z n0 h101 := OL.ext E101
  have c143_OL : Old Z n0 h103 := c142_OL.wr W103 ge104_b101
  have c144_OL : Old Z n0 h107 := c143_OL.wr W107 ge104_b101
  have c145_OL : Old Z n0 h110 := c144_OL.wr W110 ge104_b101
  have c146_OL : Old Z n0 h113 := c145_OL.wr W113 ge104_b101
  have c147_OL : Old Z n0 h115 := c146_OL.ext E115
  have c148_OL : Old Z n0 h119 := c147_OL.wr W119 ge120_b115
  have c149_OL : Old Z n0 h126 := c148_OL.wr W126 ge120_b115
  have c150_OL : Old Z n0 h131 := c149_OL.wr W131 ge120_b115
  have c151_OL : Old Z n0 h136 := c150_OL.wr W136 ge120_b115
  have c152_OL : Old Z n0 h138 := c151_OL.ext E138
  have ge153_b138 : @LE.le Nat _ n0 b138 := by omega
  obtain ⟨_, _, ⟨T139, L139, k139, n139⟩, -, X139, ⟨Lc139, hQ139, l139, y139, z139⟩, st139⟩ := X138.specialBack hx (y := y10_) rfl hown0 (mvT hZ0 (wi hw 5 rfl)) (mvT hZ0 (wi hw 6 rfl)) (mvT hZ0 (wi hw 7 rfl)) (by decide) (backOf (W := 1) (rm_init1 l Z a0 hw [] b138 b101 k101 .null (.int (0 : Int32)) cs c0 c1 c2 c3 h138 n0 (by omega) A138 F138_value F138_coder c141_V_b101 ge153_b138 c152_OL S__assertionsDisabled S_HI_BYTE_SHIFT S_LO_BYTE_SHIFT S_COMPACT_STRINGS hcs f0 f1 f2 f3) hZ0 (wi hw 7 rfl) (wi hw 4 rfl) (by decide) (by decide)) (g := (mkF mM 84 (Lc_law_2 p0 p1 p2 p3 p4 p5 b101 b115) [(.ref b101), (.ref b138), (.ref b138)])) rfl (by rw [hml]; rfl) (Steps.refl _) (a := b138) (argsL := [(.ref b101)]) (rest := [(.ref b138)]) (lenOf pd_0 rfl) rfl (by show 2 * 0 + _ ≤ _; exact Nat.le_of_eq rfl) (hb hby at_84) (fun _ _ => ⟨rfl, e138, ble rfl, ble rfl⟩)
  dsimp only [Pt.U, Pt.locs, Pt.cells, Pt.slots] at X139 l139 y139 z139 st139 hQ139
  subst y139 z139
  obtain ⟨h139, e139⟩ : ∃ z, T139.heap = z := ⟨_, rfl⟩
  rw [e139] at hQ139
  obtain ⟨b_139, k2_139, z_139, vs_139, co_139, rfl, N139q, Kp139, p139_E_o, p139_F_value_o, p139_F_coder_o, p139_V_b, p139_hcb, p139_con, p139_gh_b⟩ := hQ139
  have Sz12 : h138.size ≤ h139.size := Kp139.1
  have sf154_b138 : Safe Z consts_1 sS.vm h136 b138 := Safe.new (by omega)
  have sf155_b138 : Safe Z consts_1 sS.vm h138 b138 := Safe.ext E138 CC10.1 sf154_b138
  have CC12 : CHr Z consts_1 sS.vm h0 sS.vm h139 := CC11.trans (CHr.keep Kp139 (sfS sf155_b138 sf0) CC11.1)
  have N139 : Fr n0 L139 := by rw [l139]; exact Fr.app N136 N139q
  obtain ⟨T156, h156, X156, e156, E156, A156, D156, B156, st156⟩ := newO X139 hx hZ0 hown0 (wi hw 2 rfl) (wi hw 3 rfl) (wi hw 4 rfl) e139 (g := (mkF mM 89 (Lc_law_3 p0 p1 p2 p3 p4 p5 b101 b115 b138) [])) rfl (hb hby at_89) (by decide) (by decide)
  obtain ⟨b156, g156⟩ : ∃ z : Nat, z = h139.size := ⟨_, rfl⟩
  rw [← g156] at A156 D156 B156 st156
  have Sz13 : h139.size ≤ h156.size := E156.1
  have CC13 : CHr Z consts_1 sS.vm h0 sS.vm h156 := CC12.trans (CHr.ext E156 CC12.1)
  have F156_coder : Fld Z h156 b156 "java/lang/String" "coder" "B" (.int (0 : Int32)) := D156 (Or.inr (wi hw 28 rfl)) (ty := .byte) (by decide)
  have F156_value : Fld Z h156 b156 "java/lang/String" "value" "[B" .null := D156 (Or.inr (wi hw 30 rfl)) (ty := (.array .byte)) (by decide)
  have c158_V_b115 : Arv Z h138 b115 k115 .char (4 : Int32) [(.int c3), (.int c2), (.int c1), (.int c0)] (.int (0 : Int32)) := Vt136.ext E138
  have lt_b138 : @LT.lt Nat _ b138 h138.size := A138.lt
  have ne_b115_b138_159 : b115 ≠ b138 := (by omega : @Ne Nat b115 b138)
  have c160_V_b115 : Arv Z h139 b115 k115 .char (4 : Int32) [(.int c3), (.int c2), (.int c1), (.int c0)] (.int (0 : Int32)) := c158_V_b115.keep Kp139 (ninS ne_b115_b138_159 nin0)
  have c161_V_b115 : Arv Z h156 b115 k115 .char (4 : Int32) [(.int c3), (.int c2), (.int c1), (.int c0)] (.int (0 : Int32)) := c160_V_b115.ext E156
  have c162_OL : Old Z n0 h139 := c152_OL.keep Kp139 (allS ge153_b138 all0)
  have c163_OL : Old Z n0 h156 := c162_OL.ext E156
  have ge164_b156 : @LE.le Nat _ n0 b156 := by omega
  obtain ⟨_, _, ⟨T157, L157, k157, n157⟩, -, X157, ⟨Lc157, hQ157, l157, y157, z157⟩, st157⟩ := X156.specialBack hx (y := y10_) rfl hown0 (mvT hZ0 (wi hw 5 rfl)) (mvT hZ0 (wi hw 6 rfl)) (mvT hZ0 (wi hw 7 rfl)) (by decide) (backOf (W := 1) (rm_init1 l Z a0 hw [] b156 b115 k115 .null (.int (0 : Int32)) cs c3 c2 c1 c0 h156 n0 (by omega) A156 F156_value F156_coder c161_V_b115 ge164_b156 c163_OL S__assertionsDisabled S_HI_BYTE_SHIFT S_LO_BYTE_SHIFT S_COMPACT_STRINGS hcs f3 f2 f1 f0) hZ0 (wi hw 7 rfl) (wi hw 4 rfl) (by decide) (by decide)) (g := (mkF mM 95 (Lc_law_3 p0 p1 p2 p3 p4 p5 b101 b115 b138) [(.ref b115), (.ref b156), (.ref b156)])) rfl (by rw [hml]; rfl) (Steps.refl _) (a := b156) (argsL := [(.ref b115)]) (rest := [(.ref b156)]) (lenOf pd_0 rfl) rfl (by show 2 * 0 + _ ≤ _; exact Nat.le_of_eq rfl) (hb hby at_95) (fun _ _ => ⟨rfl, e156, ble rfl, ble rfl⟩)
  dsimp only [Pt.U, Pt.locs, Pt.cells, Pt.slots] at X157 l157 y157 z157 st157 hQ157
  subst y157 z157
  obtain ⟨h157, e157⟩ : ∃ z, T157.heap = z := ⟨_, rfl⟩
  rw [e157] at hQ157
  obtain ⟨b_157, k2_157, z_157, vs_157, co_157, rfl, N157q, Kp157, p157_E_o, p157_F_value_o, p157_F_coder_o, p157_V_b, p157_hcb, p157_con, p157_gh_b⟩ := hQ157
  have Sz14 : h156.size ≤ h157.size := Kp157.1
  have sf165_b156 : Safe Z consts_1 sS.vm h139 b156 := Safe.new (by omega)
  have sf166_b156 : Safe Z consts_1 sS.vm h156 b156 := Safe.ext E156 CC12.1 sf165_b156
  have CC14 : CHr Z consts_1 sS.vm h0 sS.vm h157 := CC13.trans (CHr.keep Kp157 (sfS sf166_b156 sf0) CC13.1)
  have N157 : Fr n0 L157 := by rw [l157]; exact Fr.app N139 N157q
  obtain ⟨T167, h167, X167, e167, E167, A167, D167, B167, st167⟩ := newO X157 hx hZ0 hown0 (wi hw 32 rfl) (wi hw 33 rfl) (wi hw 34 rfl) e157 (g := (mkF mM 146 (Lc_law_8 p0 p1 p2 p3 p4 p5 b101 b115 b138 b156 st ln fa fl) [])) rfl (hb hby at_146) (by decide) (by decide)
  obtain ⟨b167, g167⟩ : ∃ z : Nat, z = h157.size := ⟨_, rfl⟩
  rw [← g167] at A167 D167 B167 st167
  have Sz15 : h157.size ≤ h167.size := E167.1
  have CC15 : CHr Z consts_1 sS.vm h0 sS.vm h167 := CC14.trans (CHr.ext E167 CC14.1)
  have F167_chars : Fld Z h167 b167 "com/example/bufferwright/bufferwright/text/Word" "chars" "Ljava/lang/CharSequence;" .null := D167 (Or.inl (wi hw 46 rfl)) (ty := (.object "java/lang/CharSequence")) (by decide)
  have F167_length : Fld Z h167 b167 "com/example/bufferwright/bufferwright/text/Word" "length" "I" (.int (0 : Int32)) := D167 (Or.inl (wi hw 58 rfl)) (ty := .int) (by decide)
  have F167_hash : Fld Z h167 b167 "com/example/bufferwright/bufferwright/text/Word" "hash" "I" (.int (0 : Int32)) := D167 (Or.inl (wi hw 60 rfl)) (ty := .int) (by decide)
  have F167_start : Fld Z h167 b167 "com/example/bufferwright/bufferwright/text/Word" "start" "I" (.int (0 : Int32)) := D167 (Or.inl (wi hw 67 rfl)) (ty := .int) (by decide)
  have c169_OL : Old Z n0 h157 := c163_OL.keep Kp157 (allS ge164_b156 all0)
  have c170_OL : Old Z n0 h167 := c169_OL.ext E167
  have ge171_b167 : @LE.le Nat _ n0 b167 := by omega
  obtain ⟨_, _, ⟨T168, L168, k168, n168⟩, -, X168, hs168, hg168, ⟨Lc168, hQ168, l168, y168, z168, Ch168⟩, st168⟩ := X167.specialBackS hx (y := y35_) rfl hown0 (mvT hZ0 (wi hw 35 rfl)) (mvT hZ0 (wi hw 36 rfl)) (mvT hZ0 (wi hw 37 rfl)) (by decide) (backCH (W := 1) (rm_winit l Z a0 hw [] b167 .null (.int (0 : Int32)) (.int (0 : Int32)) (.int (0 : Int32)) cs h167 n0 (by omega) A167 F167_chars F167_start F167_length F167_hash ge171_b167 c170_OL S_COMPACT_STRINGS hcs) hZ0 (wi hw 37 rfl) (wi hw 34 rfl) (by decide) (by decide) (own_EW hw) CC15.1 cs0 (fun _ _ _ _ _ _ _ _ _ => trivial)) (g := (mkF mM 150 (Lc_law_8 p0 p1 p2 p3 p4 p5 b101 b115 b138 b156 st ln fa fl) [(.ref b167), (.ref b167)])) rfl (by rw [hml]; rfl) (Steps.refl _) (a := b167) (argsL := []) (rest := [(.ref b167)]) (lenOf pd_2 rfl) rfl (by show 2 * 0 + _ ≤ _; exact Nat.le_of_eq rfl) (hb hby at_150) (fun _ _ => ⟨rfl, e167, ble rfl, ble rfl⟩)
  dsimp only [Pt.U, Pt.locs, Pt.cells, Pt.slots] at X168 l168 y168 z168 st168 hQ168 hs168 hg168 Ch168
  subst y168 z168
  obtain ⟨X168', hS168, hZ168, hown168⟩ := rebS hS0 (by rw [e167]; omega) X168 hs168 hg168 hZ0 hown0
  obtain ⟨h168, e168⟩ : ∃ z, T168.heap = z := ⟨_, rfl⟩
  rw [e168] at hQ168 hS168 Ch168
  obtain ⟨b_168, rfl, N168q, Kp168, p168_E_o, p168_F_chars_o, p168_F_start_o, p168_F_length_o, p168_F_hash_o⟩ := hQ168
  have Sz16 : h167.size ≤ h168.size := Kp168.1
  have CC16 : CHr Z consts_1 sS.vm h0 T168.vm h168 := CC15.trans Ch168
  have N168 : Fr n0 L168 := by rw [l168]; exact Fr.app N157 N168q
  obtain ⟨cq172, kq172, q172a, q172b, q172c⟩ := isOf hZ168 e168 p168_E_o
  obtain ⟨_, _, ⟨T172, L172, k172, n172⟩, -, X172, ⟨Lc172, hQ172, l172, y172, z172⟩, st172⟩ := X168'.virtualBack hx (y := y36_) (z := y36_) hown168 (mvT hZ168 (wi hw 61 rfl)) (mvT hZ168 (wi hw 62 rfl)) (notFace_of_selects (args := #[]) (mvT hZ168 (wi hw 64 rfl))) (mvT hZ168 (wi hw 64 rfl)) (mvT hZ168 (wi hw 63 rfl)) (by decide) (backOf (W := 0) (rm_moveTo l Z a0 hw [] b167 b156 (.ref b_168) (.int (0 : Int32)) (.int (0 : Int32)) (.int (0 : Int32)) fa fl p5 h168 n0 (by omega) p168_E_o p168_F_chars_o p168_F_start_o p168_F_length_o p168_F_hash_o ge171_b167) hZ168 (wi hw 65 rfl) (wi hw 34 rfl) (by decide) (by decide)) q172a q172c (g := (mkF mM 165 (Lc_law_9 p0 p1 p2 p3 p4 p5 b101 b115 b138 b156 st ln fa fl b167) [(.int p5), (.int fl), (.int fa), (.ref b156), (.ref b167)])) rfl (by rw [hml]; rfl) (Steps.refl _) (argsL := [(.ref b156), (.int fa), (.int fl), (.int p5)]) (rest := []) (lenOf pd_9 rfl) rfl (by show 2 * 0 + _ ≤ _; exact Nat.le_of_eq rfl) (hb hby at_165) (fun _ _ => ⟨rfl, e168, ble rfl, ble rfl⟩)
  dsimp only [Pt.U, Pt.locs, Pt.cells, Pt.slots] at X172 l172 y172 z172 st172 hQ172
  subst y172 z172
  obtain ⟨h172, e172⟩ : ∃ z, T172.heap = z := ⟨_, rfl⟩
  rw [e172] at hQ172
  obtain ⟨rfl, N172q, Kp172, p172_E_o, p172_F_chars_o, p172_F_start_o, p172_F_length_o, p172_F_hash_o⟩ := hQ172
  have Sz17 : h168.size ≤ h172.size := Kp172.1
  have sf173_b167 : Safe Z consts_1 T168.vm h168 b167 := Safe.exa (show Z.Warmed39 T168.vm from hZ168).alike p168_E_o (by decide) (by decide)
  have CC17 : CHr Z consts_1 sS.vm h0 T168.vm h172 := CC16.trans (CHr.keep Kp172 (sfS sf173_b167 sf0) CC16.1)
  have N172 : Fr n0 L172 := by rw [l172]; exact Fr.app N168 N172q
  obtain ⟨cq174, kq174, q174a, q174b, q174c⟩ := isOf hZ168 e172 p172_E_o
  obtain ⟨_, _, ⟨T174, L174, k174, n174⟩, -, X174, ⟨Lc174, hQ174, l174, y174, z174⟩, st174⟩ := X172.virtualBack hx (y := y36_) (z := y36_) hown168 (mvT hZ168 (wi hw 61 rfl)) (mvT hZ168 (wi hw 62 rfl)) (notFace_of_selects (args := #[]) (mvT hZ168 (wi hw 64 rfl))) (mvT hZ168 (wi hw 64 rfl)) (mvT hZ168 (wi hw 63 rfl)) (by decide) (backOf (W := 0) (rm_moveTo l Z a0 hw [] b167 b138 (.ref b156) (.int fa) (.int fl) (.int p5) st ln p3 h172 n0 (by omega) p172_E_o p172_F_chars_o p172_F_start_o p172_F_length_o p172_F_hash_o ge171_b167) hZ168 (wi hw 65 rfl) (wi hw 34 rfl) (by decide) (by decide)) q174a q174c (g := (mkF mM 177 (Lc_law_9 p0 p1 p2 p3 p4 p5 b101 b115 b138 b156 st ln fa fl b167) [(.int p3), (.int ln), (.int st), (.ref b138), (.ref b167)])) rfl (by rw [hml]; rfl) (Steps.refl _) (argsL := [(.ref b138), (.int st), (.int ln), (.int p3)]) (rest := []) (lenOf pd_9 rfl) rfl (by show 2 * 0 + _ ≤ _; exact Nat.le_of_eq rfl) (hb hby at_177) (fun _ _ => ⟨rfl, e172, ble rfl, ble rfl⟩)
  dsimp only [Pt.U, Pt.locs, Pt.cells, Pt.slots] at X174 l174 y174 z174 st174 hQ174
  subst y174 z174
  obtain ⟨h174, e174⟩ : ∃ z, T174.heap = z := ⟨_, rfl⟩
  rw [e174] at hQ174
  obtain ⟨rfl, N174q, Kp174, p174_E_o, p174_F_chars_o, p174_F_start_o, p174_F_length_o, p174_F_hash_o⟩ := hQ174
  have Sz18 : h172.size ≤ h174.size := Kp174.1
  have sf175_b167 : Safe Z consts_1 T168.vm h172 b167 := Safe.exa (show Z.Warmed39 T168.vm from hZ168).alike p172_E_o (by decide) (by decide)
  have CC18 : CHr Z consts_1 sS.vm h0 T168.vm h174 := CC17.trans (CHr.keep Kp174 (sfS sf175_b167 sf0) CC17.1)
  have N174 : Fr n0 L174 := by rw [l174]; exact Fr.app N172 N174q
  obtain ⟨cq176, kq176, q176a, q176b, q176c⟩ := isOf hZ168 e174 p174_E_o
  obtain ⟨_, _, ⟨T176, L176, k176, n176⟩, -, X176, ⟨Lc176, hQ176, l176, y176, z176⟩, st176⟩ := X174.virtualBack hx (y := y37_) (z := y37_) hown168 (mvT hZ168 (wi hw 68 rfl)) (mvT hZ168 (wi hw 69 rfl)) (notFace_of_selects (args := #[]) (mvT hZ168 (wi hw 71 rfl))) (mvT hZ168 (wi hw 71 rfl)) (mvT hZ168 (wi hw 70 rfl)) (by decide) (backOf (W := 0) (rm_whash l Z a0 hw [] b167 p3 h174 n0 (by omega) p174_F_hash_o) hZ168 (wi hw 72 rfl) (wi hw 34 rfl) (by decide) (by decide)) q176a q176c (g := (mkF mM 182 (Lc_law_9 p0 p1 p2 p3 p4 p5 b101 b115 b138 b156 st ln fa fl b167) [(.ref b167)])) rfl (by rw [hml]; rfl) (Steps.refl _) (argsL := []) (rest := []) (lenOf pd_7 rfl) rfl (by show 2 * 0 + _ ≤ _; exact Nat.le_of_eq rfl) (hb hby at_182) (fun _ _ => ⟨rfl, e174, ble rfl, ble rfl⟩)
  dsimp only [Pt.U, Pt.locs, Pt.cells, Pt.slots] at X176 l176 y176 z176 st176 hQ176
  subst y176 z176
  obtain ⟨h176, e176⟩ : ∃ z, T176.heap = z := ⟨_, rfl⟩
  rw [e176] at hQ176
  obtain ⟨rfl, N176q, eq176⟩ := hQ176
  rw [eq176] at e176
  have N176 : Fr n0 L176 := by rw [l176]; exact Fr.app N174 N176q
  have c178_E_b138 : Exa Z h156 b138 "java/lang/String" := Exa.ext E156 p139_E_o
  have c179_E_b138 : Exa Z h157 b138 "java/lang/String" := c178_E_b138.keep Kp157
  have c180_E_b138 : Exa Z h167 b138 "java/lang/String" := Exa.ext E167 c179_E_b138
  have c181_E_b138 : Exa Z h168 b138 "java/lang/String" := c180_E_b138.keep Kp168
  have c182_E_b138 : Exa Z h172 b138 "java/lang/String" := c181_E_b138.keep Kp172
  have c183_E_b138 : Exa Z h174 b138 "java/lang/String" := c182_E_b138.keep Kp174
  have c184_F_value_b138 : Fld Z h156 b138 "java/lang/String" "value" "[B" (.ref b_139) := Fld.ext E156 p139_F_value_o
  have lt_b156 : @LT.lt Nat _ b156 h156.size := A156.lt
  have ne_b138_b156_185 : b138 ≠ b156 := (by omega : @Ne Nat b138 b156)
  have c186_F_value_b138 : Fld Z h157 b138 "java/lang/String" "value" "[B" (.ref b_139) := c184_F_value_b138.keep Kp157 (ninS ne_b138_b156_185 nin0)
  have c187_F_value_b138 : Fld Z h167 b138 "java/lang/String" "value" "[B" (.ref b_139) := Fld.ext E167 c186_F_value_b138
  have lt_b167 : @LT.lt Nat _ b167 h167.size := A167.lt
  have ne_b138_b167_188 : b138 ≠ b167 := (by omega : @Ne Nat b138 b167)
  have c189_F_value_b138 : Fld Z h168 b138 "java/lang/String" "value" "[B" (.ref b_139) := c187_F_value_b138.keep Kp168 (ninS ne_b138_b167_188 nin0)
  have c190_F_value_b138 : Fld Z h172 b138 "java/lang/String" "value" "[B" (.ref b_139) := c189_F_value_b138.keep Kp172 (ninS ne_b138_b167_188 nin0)
  have c191_F_value_b138 : Fld Z h174 b138 "java/lang/String" "value" "[B" (.ref b_139) := c190_F_value_b138.keep Kp174 (ninS ne_b138_b167_188 nin0)
  have c192_F_coder_b138 : Fld Z h156 b138 "java/lang/String" "coder" "B" (.int co_139) := Fld.ext E156 p139_F_coder_o
  have c193_F_coder_b138 : Fld Z h157 b138 "java/lang/String" "coder" "B" (.int co_139) := c192_F_coder_b138.keep Kp157 (ninS ne_b138_b156_185 nin0)
  have c194_F_coder_b138 : Fld Z h167 b138 "java/lang/String" "coder" "B" (.int co_139) := Fld.ext E167 c193_F_coder_b138
  have c195_F_coder_b138 : Fld Z h168 b138 "java/lang/String" "coder" "B" (.int co_139) := c194_F_coder_b138.keep Kp168 (ninS ne_b138_b167_188 nin0)
  have c196_F_coder_b138 : Fld Z h172 b138 "java/lang/String" "coder" "B" (.int co_139) := c195_F_coder_b138.keep Kp172 (ninS ne_b138_b167_188 nin0)
  have c197_F_coder_b138 : Fld Z h174 b138 "java/lang/String" "coder" "B" (.int co_139) := c196_F_coder_b138.keep Kp174 (ninS ne_b138_b167_188 nin0)
  have c198_V_b_139 : Arv Z h156 b_139 k2_139 .byte z_139 vs_139 (.int (0 : Int32)) := p139_V_b.ext E156
  have lt_b_139 : @LT.lt Nat _ b_139 h139.size := p139_V_b.lt
  have ne_b_139_b156_199 : b_139 ≠ b156 := (by omega : @Ne Nat b_139 b156)
  have c200_V_b_139 : Arv Z h157 b_139 k2_139 .byte z_139 vs_139 (.int (0 : Int32)) := c198_V_b_139.keep Kp157 (ninS ne_b_139_b156_199 nin0)
  have c201_V_b_139 : Arv Z h167 b_139 k2_139 .byte z_139 vs_139 (.int (0 : Int32)) := c200_V_b_139.ext E167
  have ne_b_139_b167_202 : b_139 ≠ b167 := (by omega : @Ne Nat b_139 b167)
  have c203_V_b_139 : Arv Z h168 b_139 k2_139 .byte z_139 vs_139 (.int (0 : Int32)) := c201_V_b_139.keep Kp168 (ninS ne_b_139_b167_202 nin0)
  have c204_V_b_139 : Arv Z h172 b_139 k2_139 .byte z_139 vs_139 (.int (0 : Int32)) := c203_V_b_139.keep Kp172 (ninS ne_b_139_b167_202 nin0)
  have c205_V_b_139 : Arv Z h174 b_139 k2_139 .byte z_139 vs_139 (.int (0 : Int32)) := c204_V_b_139.keep Kp174 (ninS ne_b_139_b167_202 nin0)
  have c206_OL : Old Z n0 h168 := c170_OL.keep Kp168 (allS ge171_b167 all0)
  have c207_OL : Old Z n0 h172 := c206_OL.keep Kp172 (allS ge171_b167 all0)
  have c208_OL : Old Z n0 h174 := c207_OL.keep Kp174 (allS ge171_b167 all0)
  obtain ⟨cq177, kq177, q177a, q177b, q177c⟩ := isOf hZ168 e176 p174_E_o
  obtain ⟨_, _, ⟨T177, L177, k177, n177⟩, -, X177, hs177, hg177, ⟨Lc177, hQ177, l177, y177, z177, Ch177⟩, st177⟩ := X176.virtualBackS hx (y := y33_) (z := y33_) hown168 (mvT hZ168 (wi hw 73 rfl)) (mvT hZ168 (wi hw 74 rfl)) (notFace_of_selects (args := #[]) (mvT hZ168 (wi hw 76 rfl))) (mvT hZ168 (wi hw 76 rfl)) (mvT hZ168 (wi hw 75 rfl)) (by decide) (backCH (W := 0) (rm_tos l Z a0 hw [] b167 b138 b_139 k2_139 z_139 vs_139 co_139 c0 c1 c2 c3 fo cs st ln h174 n0 (by omega) p174_E_o p174_F_chars_o p174_F_start_o p174_F_length_o c183_E_b138 c191_F_value_b138 c197_F_coder_b138 c205_V_b_139 p139_hcb p139_con hcm f0 f1 f2 f3 c208_OL S__assertionsDisabled S_HI_BYTE_SHIFT S_LO_BYTE_SHIFT hfo S_SIOOBE_FORMATTER S_COMPACT_STRINGS hcs) hZ168 (wi hw 77 rfl) (wi hw 34 rfl) (by decide) (by decide) (own_EW hw) CC18.1 cs0 (fun _ _ _ _ _ _ _ _ _ => trivial)) q177a q177c (g := (mkF mM 193 (Lc_law_9 p0 p1 p2 p3 p4 p5 b101 b115 b138 b156 st ln fa fl b167) [(.ref b167)])) rfl (by rw [hml]; rfl) (Steps.refl _) (argsL := []) (rest := []) (lenOf pd_10 rfl) rfl (by show 2 * 0 + _ ≤ _; exact Nat.le_of_eq rfl) (hb hby at_193) (fun _ _ => ⟨rfl, e176, ble rfl, ble rfl⟩)
  dsimp only [Pt.U, Pt.locs, Pt.cells, Pt.slots] at X177 l177 y177 z177 st177 hQ177 hs177 hg177 Ch177
  subst y177 z177
  obtain ⟨X177', hS177, hZ177, hown177⟩ := rebS hS168 (by rw [e176]; omega) X177 hs177 hg177 hZ168 hown168
  obtain ⟨h177, e177⟩ : ∃ z, T177.heap = z := ⟨_, rfl⟩
  rw [e177] at hQ177 hS177 Ch177
  obtain ⟨r_177, rb_177, rk_177, rz_177, rvs_177, rco_177, rfl, N177q, Kp177, p177_E_r, p177_F_value_r, p177_F_coder_r, p177_V_rb, p177_hcb, p177_con⟩ := hQ177
  have Sz19 : h174.size ≤ h177.size := Kp177.1
  have CC19 : CHr Z consts_1 sS.vm h0 T177.vm h177 := CC18.trans Ch177
  have N177 : Fr n0 L177 := by rw [l177]; exact Fr.app N176 N177q
  have c210_OL : Old Z n0 h177 := c208_OL.keep Kp177 all0
  obtain ⟨cq209, kq209, q209a, q209b, q209c⟩ := isOf hZ177 e177 p177_E_r
  obtain ⟨_, _, ⟨T209, L209, k209, n209⟩, -, X209, ⟨Lc209, hQ209, l209, y209, z209⟩, st209⟩ := X177'.virtualBack hx (y := y12_) (z := y12_) hown177 (mvT hZ177 (wi hw 119 rfl)) (mvT hZ177 (wi hw 48 rfl)) (notFace_of_selects (args := #[]) (mvT hZ177 (wi hw 50 rfl))) (mvT hZ177 (wi hw 50 rfl)) (mvT hZ177 (wi hw 49 rfl)) (by decide) (backOf (W := 0) (rm_length l Z a0 hw [] r_177 rb_177 rk_177 rz_177 rvs_177 rco_177 ln cs h177 n0 (by omega) p177_E_r p177_F_value_r p177_F_coder_r p177_V_rb p177_hcb (own_slen hcm p177_con) c210_OL S_COMPACT_STRINGS hcs) hZ177 (wi hw 51 rfl) (wi hw 4 rfl) (by decide) (by decide)) q209a q209c (g := (mkF mM 200 (Lc_law_10 p0 p1 p2 p3 p4 p5 b101 b115 b138 b156 st ln fa fl b167 r_177) [(.ref r_177)])) rfl (by rw [hml]; rfl) (Steps.refl _) (argsL := []) (rest := []) (lenOf pd_7 rfl) rfl (by show 2 * 0 + _ ≤ _; exact Nat.le_of_eq rfl) (hb hby at_200) (fun _ _ => ⟨rfl, e177, ble rfl, ble rfl⟩)
  dsimp only [Pt.U, Pt.locs, Pt.cells, Pt.slots] at X209 l209 y209 z209 st209 hQ209
  subst y209 z209
  obtain ⟨h209, e209⟩ : ∃ z, T209.heap = z := ⟨_, rfl⟩
  rw [e209] at hQ209
  obtain ⟨rfl, N209q, eq209⟩ := hQ209
  rw [eq209] at e209
  have N209 : Fr n0 L209 := by rw [l209]; exact Fr.app N177 N209q
  have ne_b101_b138_212 : b101 ≠ b138 := (by omega : @Ne Nat b101 b138)
  have c213_V_b101 : Arv Z h139 b101 k101 .char (4 : Int32) [(.int c0), (.int c1), (.int c2), (.int c3)] (.int (0 : Int32)) := c141_V_b101.keep Kp139 (ninS ne_b101_b138_212 nin0)
  have c214_V_b101 : Arv Z h156 b101 k101 .char (4 : Int32) [(.int c0), (.int c1), (.int c2), (.int c3)] (.int (0 : Int32)) := c213_V_b101.ext E156
  have ne_b101_b156_215 : b101 ≠ b156 := (by omega : @Ne Nat b101 b156)
  have c216_V_b101 : Arv Z h157 b101 k101 .char (4 : Int32) [(.int c0), (.int c1), (.int c2), (.int c3)] (.int (0 : Int32)) := c214_V_b101.keep Kp157 (ninS ne_b101_b156_215 nin0)
  have c217_V_b101 : Arv Z h167 b101 k101 .char (4 : Int32) [(.int c0), (.int c1), (.int c2), (.int c3)] (.int (0 : Int32)) := c216_V_b101.ext E167
  have ne_b101_b167_218 : b101 ≠ b167 := (by omega : @Ne Nat b101 b167)
  have c219_V_b101 : Arv Z h168 b101 k101 .char (4 : Int32) [(.int c0), (.int c1), (.int c2), (.int c3)] (.int (0 : Int32)) := c217_V_b101.keep Kp168 (ninS ne_b101_b167_218 nin0)
  have c220_V_b101 : Arv Z h172 b101 k101 .char (4 : Int32) [(.int c0), (.int c1), (.int c2), (.int c3)] (.int (0 : Int32)) := c219_V_b101.keep Kp172 (ninS ne_b101_b167_218 nin0)
  have c221_V_b101 : Arv Z h174 b101 k101 .char (4 : Int32) [(.int c0), (.int c1), (.int c2), (.int c3)] (.int (0 : Int32)) := c220_V_b101.keep Kp174 (ninS ne_b101_b167_218 nin0)
  have c222_V_b101 : Arv Z h177 b101 k101 .char (4 : Int32) [(.int c0), (.int c1), (.int c2), (.int c3)] (.int (0 : Int32)) := c221_V_b101.keep Kp177 nin0
  obtain ⟨_, _, ⟨T211, L211, k211, n211⟩, -, X211, ⟨Lc211, hQ211, l211, y211, z211⟩, st211⟩ := Jvm.LawKit.callS X209 hx (y := y44_) hown177 (mvT hZ177 (wi hw 120 rfl)) (mvT hZ177 (wi hw 121 rfl)) (mvT hZ177 (wi hw 122 rfl)) (mvT hZ177 (wi hw 123 rfl)) (by decide) (backOf (W := 0) (rm_at_0 l Z a0 hw [] r_177 b101 st ln rb_177 rk_177 rz_177 rvs_177 rco_177 k101 c0 c1 c2 c3 fo cs h177 n0 (by omega) p177_E_r p177_F_value_r p177_F_coder_r p177_V_rb hfo S_SIOOBE_FORMATTER c210_OL S__assertionsDisabled S_HI_BYTE_SHIFT S_LO_BYTE_SHIFT S_COMPACT_STRINGS hcs c222_V_b101 p177_con hcm f0 f1 f2 f3) hZ177 (wi hw 123 rfl) (wi hw 122 rfl) (by decide) (by decide)) (g := (mkF mM 219 (Lc_law_10 p0 p1 p2 p3 p4 p5 b101 b115 b138 b156 st ln fa fl b167 r_177) [(.int (0 : Int32)), (.int ln), (.int st), (.ref b101), (.ref r_177)])) rfl (by rw [hml]; rfl) (argsL := [(.ref r_177), (.ref b101), (.int st), (.int ln), (.int (0 : Int32))]) (rest := []) (lenOf pd_17 rfl) rfl (by show 2 * 0 + _ ≤ _; exact Nat.le_of_eq rfl) (hb hby at_219) (fun _ _ => ⟨rfl, e209, ble rfl, ble rfl⟩)
  dsimp only [Pt.U, Pt.locs, Pt.cells, Pt.slots] at X211 l211 y211 z211 st211 hQ211
  subst y211 z211
  obtain ⟨h211, e211⟩ : ∃ z, T211.heap = z := ⟨_, rfl⟩
  rw [e211] at hQ211
  obtain ⟨rfl, N211q, eq211⟩ := hQ211
  rw [eq211] at e211
  have N211 : Fr n0 L211 := by rw [l211]; exact Fr.app N209 N211q
  obtain ⟨_, _, ⟨T223, L223, k223, n223⟩, -, X223, ⟨Lc223, hQ223, l223, y223, z223⟩, st223⟩ := Jvm.LawKit.callS X211 hx (y := y44_) hown177 (mvT hZ177 (wi hw 120 rfl)) (mvT hZ177 (wi hw 121 rfl)) (mvT hZ177 (wi hw 122 rfl)) (mvT hZ177 (wi hw 123 rfl)) (by decide) (backOf (W := 0) (rm_at_1 l Z a0 hw [] r_177 b101 st ln rb_177 rk_177 rz_177 rvs_177 rco_177 k101 c0 c1 c2 c3 fo cs h177 n0 (by omega) p177_E_r p177_F_value_r p177_F_coder_r p177_V_rb hfo S_SIOOBE_FORMATTER c210_OL S__assertionsDisabled S_HI_BYTE_SHIFT S_LO_BYTE_SHIFT S_COMPACT_STRINGS hcs c222_V_b101 p177_con hcm f0 f1 f2 f3) hZ177 (wi hw 123 rfl) (wi hw 122 rfl) (by decide) (by decide)) (g := (mkF mM 234 (Lc_law_10 p0 p1 p2 p3 p4 p5 b101 b115 b138 b156 st ln fa fl b167 r_177) [(.int (1 : Int32)), (.int ln), (.int st), (.ref b101), (.ref r_177)])) rfl (by rw [hml]; rfl) (argsL := [(.ref r_177), (.ref b101), (.int st), (.int ln), (.int (1 : Int32))]) (rest := []) (lenOf pd_17 rfl) rfl (by show 2 * 0 + _ ≤ _; exact Nat.le_of_eq rfl) (hb hby at_234) (fun _ _ => ⟨rfl, e211, ble rfl, ble rfl⟩)
  dsimp only [Pt.U, Pt.locs, Pt.cells, Pt.slots] at X223 l223 y223 z223 st223 hQ223
  subst y223 z223
  obtain ⟨h223, e223⟩ : ∃ z, T223.heap = z := ⟨_, rfl⟩
  rw [e223] at hQ223
  obtain ⟨rfl, N223q, eq223⟩ := hQ223
  rw [eq223] at e223
  have N223 : Fr n0 L223 := by rw [l223]; exact Fr.app N211 N223q
  obtain ⟨_, _, ⟨T224, L224, k224, n224⟩, -, X224, ⟨Lc224, hQ224, l224, y224, z224⟩, st224⟩ := Jvm.LawKit.callS X223 hx (y := y44_) hown177 (mvT hZ177 (wi hw 120 rfl)) (mvT hZ177 (wi hw 121 rfl)) (mvT hZ177 (wi hw 122 rfl)) (mvT hZ177 (wi hw 123 rfl)) (by decide) (backOf (W := 0) (rm_at_2 l Z a0 hw [] r_177 b101 st ln rb_177 rk_177 rz_177 rvs_177 rco_177 k101 c0 c1 c2 c3 fo cs h177 n0 (by omega) p177_E_r p177_F_value_r p177_F_coder_r p177_V_rb hfo S_SIOOBE_FORMATTER c210_OL S__assertionsDisabled S_HI_BYTE_SHIFT S_LO_BYTE_SHIFT S_COMPACT_STRINGS hcs c222_V_b101 p177_con hcm f0 f1 f2 f3) hZ177 (wi hw 123 rfl) (wi hw 122 rfl) (by decide) (by decide)) (g := (mkF mM 249 (Lc_law_10 p0 p1 p2 p3 p4 p5 b101 b115 b138 b156 st ln fa fl b167 r_177) [(.int (2 : Int32)), (.int ln), (.int st), (.ref b101), (.ref r_177)])) rfl (by rw [hml]; rfl) (argsL := [(.ref r_177), (.ref b101), (.int st), (.int ln), (.int (2 : Int32))]) (rest := []) (lenOf pd_17 rfl) rfl (by show 2 * 0 + _ ≤ _; exact Nat.le_of_eq rfl) (hb hby at_249) (fun _ _ => ⟨rfl, e223, ble rfl, ble rfl⟩)
  dsimp only [Pt.U, Pt.locs, Pt.cells, Pt.slots] at X224 l224 y224 z224 st224 hQ224
  subst y224 z224
  obtain ⟨h224, e224⟩ : ∃ z, T224.heap = z := ⟨_, rfl⟩
  rw [e224] at hQ224
  obtain ⟨rfl, N224q, eq224⟩ := hQ224
  rw [eq224] at e224
  have N224 : Fr n0 L224 := by rw [l224]; exact Fr.app N223 N224q
  obtain ⟨_, _, ⟨T225, L225, k225, n225⟩, -, X225, ⟨Lc225, hQ225, l225, y225, z225⟩, st225⟩ := Jvm.LawKit.callS X224 hx (y := y44_) hown177 (mvT hZ177 (wi hw 120 rfl)) (mvT hZ177 (wi hw 121 rfl)) (mvT hZ177 (wi hw 122 rfl)) (mvT hZ177 (wi hw 123 rfl)) (by decide) (backOf (W := 0) (rm_at_3 l Z a0 hw [] r_177 b101 st ln rb_177 rk_177 rz_177 rvs_177 rco_177 k101 c0 c1 c2 c3 fo cs h177 n0 (by omega) p177_E_r p177_F_value_r p177_F_coder_r p177_V_rb hfo S_SIOOBE_FORMATTER c210_OL S__assertionsDisabled S_HI_BYTE_SHIFT S_LO_BYTE_SHIFT S_COMPACT_STRINGS hcs c222_V_b101 p177_con hcm f0 f1 f2 f3) hZ177 (wi hw 123 rfl) (wi hw 122 rfl) (by decide) (by decide)) (g := (mkF mM 264 (Lc_law_10 p0 p1 p2 p3 p4 p5 b101 b115 b138 b156 st ln fa fl b167 r_177) [(.int (3 : Int32)), (.int ln), (.int st), (.ref b101), (.ref r_177)])) rfl (by rw [hml]; rfl) (argsL := [(.ref r_177), (.ref b101), (.int st), (.int ln), (.int (3 : Int32))]) (rest := []) (lenOf pd_17 rfl) rfl (by show 2 * 0 + _ ≤ _; exact Nat.le_of_eq rfl) (hb hby at_264) (fun _ _ => ⟨rfl, e224, ble rfl, ble rfl⟩)
  dsimp only [Pt.U, Pt.locs, Pt.cells, Pt.slots] at X225 l225 y225 z225 st225 hQ225
  subst y225 z225
  obtain ⟨h225, e225⟩ : ∃ z, T225.heap = z := ⟨_, rfl⟩
  rw [e225] at hQ225
  obtain ⟨rfl, N225q, eq225⟩ := hQ225
  rw [eq225] at e225
  have N225 : Fr n0 L225 := by rw [l225]; exact Fr.app N224 N225q
  obtain ⟨fs, hr, hrun, hended, hE⟩ := Stand.leaveW (s := sS) X225 hS177 (by rw [e225]; omega) (v := some (.int (1 : Int32))) (fun h => by rw [Bd.returns] at h; cases h)
  refine ⟨_, _, castTop (ef_law mM p0 p1 p2 p3 p4 p5 c0 c1 c2 c3 st ln fa fl fo cs) ?_, hrun, hended, _, _, rfl, ?_, ?_, hE.1, hE.2.1, hE.2.2.1, hE.2.2.2.mono (by decide) (by decide)⟩
  · show SS pP eE bS s₁ (mkF mM 0 (Lc_law_0 p0 p1 p2 p3 p4 p5) []) _
    refine XS.iconst X0.here hx rfl (hb hby at_0) ?_
    show SS pP eE bS s₁ (mkF mM 1 (Lc_law_0 p0 p1 p2 p3 p4 p5) [(.int (4 : Int32))]) _
    refine st101 _ ?_
    show SS pP eE bS T101 (mkF mM 3 (Lc_law_0 p0 p1 p2 p3 p4 p5) [(.ref b101)]) _
    refine XS.astore X101.here hx rfl (hb hby at_3) rfl rfl (l' := (Lc_law_1 p0 p1 p2 p3 p4 p5 b101)) rfl ?_
    refine XS.aload X101.here hx rfl (hb hby at_5) rfl rfl ?_
    refine XS.iconst X101.here hx rfl (hb hby at_7) ?_
    refine XS.iloadN X101.here hx rfl (hb hby at_8) rfl ?_
    show SS pP eE bS T101 (mkF mM 9 (Lc_law_1 p0 p1 p2 p3 p4 p5 b101) [(.int p0), (.int (0 : Int32)), (.ref b101)]) _
    refine X101.ldcInt hx hown0 (mvT hZ0 (wi hw 1 rfl)) (g := (mkF mM 9 (Lc_law_1 p0 p1 p2 p3 p4 p5 b101) [(.int p0), (.int (0 : Int32)), (.ref b101)])) rfl (hb hby at_9) _ ?_
    show SS pP eE bS T101 (mkF mM 11 (Lc_law_1 p0 p1 p2 p3 p4 p5 b101) [(.int (65535 : Int32)), (.int p0), (.int (0 : Int32)), (.ref b101)]) _
    refine XS.iand X101.here hx rfl (hb hby at_11) rfl ?_
    refine XS.i2c X101.here hx rfl (hb hby at_12) rfl ?_
    show SS pP eE bS T101 (mkF mM 13 (Lc_law_1 p0 p1 p2 p3 p4 p5 b101) [(.int ((p0 &&& (65535 : Int32)).toUInt32.toUInt16.toUInt32.toInt32)), (.int (0 : Int32)), (.ref b101)]) _
    rw [show ((p0 &&& (65535 : Int32)).toUInt32.toUInt16.toUInt32.toInt32) = c0 from x0]
    show SS pP eE bS T101 (mkF mM 13 (Lc_law_1 p0 p1 p2 p3 p4 p5 b101) [(.int c0), (.int (0 : Int32)), (.ref b101)]) _
    refine st103 _ ?_
    show SS pP eE bS T103 (mkF mM 14 (Lc_law_1 p0 p1 p2 p3 p4 p5 b101) []) _
    refine XS.aload X103.here hx rfl (hb hby at_14) rfl rfl ?_
    refine XS.iconst X103.here hx rfl (hb hby at_16) ?_
    refine XS.iloadN X103.here hx rfl (hb hby at_17) rfl ?_
    refine XS.bipush X103.here hx rfl (hb hby at_18) ?_
    show SS pP eE bS T103 (mkF mM 20 (Lc_law_1 p0 p1 p2 p3 p4 p5 b101) [(.int (16 : Int32)), (.int p0), (.int (1 : Int32)), (.ref b101)]) _
    refine XS.iushr X103.here hx rfl (hb hby at_20) rfl ?_
    refine XS.i2c X103.here hx rfl (hb hby at_21) rfl ?_
    show SS pP eE bS T103 (mkF mM 22 (Lc_law_1 p0 p1 p2 p3 p4 p5 b101) [(.int (((p0.toUInt32 >>> ((16 : Int32) &&& 31).toUInt32).toInt32).toUInt32.toUInt16.toUInt32.toInt32)), (.int (1 : Int32)), (.ref b101)]) _
    rw [show (((p0.toUInt32 >>> ((16 : Int32) &&& 31).toUInt32).toInt32).toUInt32.toUInt16.toUInt32.toInt32) = c1 from x1]
    show SS pP eE bS T103 (mkF mM 22 (Lc_law_1 p0 p1 p2 p3 p4 p5 b101) [(.int c1), (.int (1 : Int32)), (.ref b101)]) _
    refine st107 _ ?_
    show SS pP eE bS T107 (mkF mM 23 (Lc_law_1 p0 p1 p2 p3 p4 p5 b101) []) _
    refine XS.aload X107.here hx rfl (hb hby at_23) rfl rfl ?_
    refine XS.iconst X107.here hx rfl (hb hby at_25) ?_
    refine XS.iloadN X107.here hx rfl (hb hby at_26) rfl ?_
    show SS pP eE bS T107 (mkF mM 27 (Lc_law_1 p0 p1 p2 p3 p4 p5 b101) [(.int p1), (.int (2 : Int32)), (.ref b101)]) _
    refine X107.ldcInt hx hown0 (mvT hZ0 (wi hw 1 rfl)) (g := (mkF mM 27 (Lc_law_1 p0 p1 p2 p3 p4 p5 b101) [(.int p1), (.int (2 : Int32)), (.ref b101)])) rfl (hb hby at_27) _ ?_
    show SS pP eE bS T107 (mkF mM 29 (Lc_law_1 p0 p1 p2 p3 p4 p5 b101) [(.int (65535 : Int32)), (.int p1), (.int (2 : Int32)), (.ref b101)]) _
    refine XS.iand X107.here hx rfl (hb hby at_29) rfl ?_
    refine XS.i2c X107.here hx rfl (hb hby at_30) rfl ?_
    show SS pP eE bS T107 (mkF mM 31 (Lc_law_1 p0 p1 p2 p3 p4 p5 b101) [(.int ((p1 &&& (65535 : Int32)).toUInt32.toUInt16.toUInt32.toInt32)), (.int (2 : Int32)), (.ref b101)]) _
    rw [show ((p1 &&& (65535 : Int32)).toUInt32.toUInt16.toUInt32.toInt32) = c2 from x2]
    show SS pP eE bS T107 (mkF mM 31 (Lc_law_1 p0 p1 p2 p3 p4 p5 b101) [(.int c2), (.int (2 : Int32)), (.ref b101)]) _
    refine st110 _ ?_
    show SS pP eE bS T110 (mkF mM 32 (Lc_law_1 p0 p1 p2 p3 p4 p5 b101) []) _
    refine XS.aload X110.here hx rfl (hb hby at_32) rfl rfl ?_
    refine XS.iconst X110.here hx rfl (hb hby at_34) ?_
    refine XS.iloadN X110.here hx rfl (hb hby at_35) rfl ?_
    refine XS.bipush X110.here hx rfl (hb hby at_36) ?_
    show SS pP eE bS T110 (mkF mM 38 (Lc_law_1 p0 p1 p2 p3 p4 p5 b101) [(.int (16 : Int32)), (.int p1), (.int (3 : Int32)), (.ref b101)]) _
    refine XS.iushr X110.here hx rfl (hb hby at_38) rfl ?_
    refine XS.i2c X110.here hx rfl (hb hby at_39) rfl ?_
    show SS pP eE bS T110 (mkF mM 40 (Lc_law_1 p0 p1 p2 p3 p4 p5 b101) [(.int (((p1.toUInt32 >>> ((16 : Int32) &&& 31).toUInt32).toInt32).toUInt32.toUInt16.toUInt32.toInt32)), (.int (3 : Int32)), (.ref b101)]) _
    rw [show (((p1.toUInt32 >>> ((16 : Int32) &&& 31).toUInt32).toInt32).toUInt32.toUInt16.toUInt32.toInt32) = c3 from x3]
    show SS pP eE bS T110 (mkF mM 40 (Lc_law_1 p0 p1 p2 p3 p4 p5 b101) [(.int c3), (.int (3 : Int32)), (.ref b101)]) _
    refine st113 _ ?_
    show SS pP eE bS T113 (mkF mM 41 (Lc_law_1 p0 p1 p2 p3 p4 p5 b101) []) _
    refine XS.iconst X113.here hx rfl (hb hby at_41) ?_
    show SS pP eE bS T113 (mkF mM 42 (Lc_law_1 p0 p1 p2 p3 p4 p5 b101) [(.int (4 : Int32))]) _
    refine st115 _ ?_
    show SS pP eE bS T115 (mkF mM 44 (Lc_law_1 p0 p1 p2 p3 p4 p5 b101) [(.ref b115)]) _
    refine XS.astore X115.here hx rfl (hb hby at_44) rfl rfl (l' := (Lc_law_2 p0 p1 p2 p3 p4 p5 b101 b115)) rfl ?_
    refine XS.aload X115.here hx rfl (hb hby at_46) rfl rfl ?_
    refine XS.iconst X115.here hx rfl (hb hby at_48) ?_
    refine XS.aload X115.here hx rfl (hb hby at_49) rfl rfl ?_
    show SS pP eE bS T115 (mkF mM 51 (Lc_law_2 p0 p1 p2 p3 p4 p5 b101 b115) [(.ref b101), (.int (0 : Int32)), (.ref b115)]) _
    refine XS.iconst X115.here hx rfl (hb hby at_51) ?_
    show SS pP eE bS T115 (mkF mM 52 (Lc_law_2 p0 p1 p2 p3 p4 p5 b101 b115) [(.int (3 : Int32)), (.ref b101), (.int (0 : Int32)), (.ref b115)]) _
    refine X115.caload hx (j := (3 : Int32)) (v := (.int c3)) (by rw [e115]; exact Ar117.1) (State.isArrayOf_alike hZ0.alike Ar117.2.1) Ar117.2.2 hin117 hat117 (g := (mkF mM 52 (Lc_law_2 p0 p1 p2 p3 p4 p5 b101 b115) [(.int (3 : Int32)), (.ref b101), (.int (0 : Int32)), (.ref b115)])) rfl rfl (hb hby at_52) _ ?_
    show SS pP eE bS T115 (mkF mM 53 (Lc_law_2 p0 p1 p2 p3 p4 p5 b101 b115) [(.int c3), (.int (0 : Int32)), (.ref b115)]) _
    refine st119 _ ?_
    show SS pP eE bS T119 (mkF mM 54 (Lc_law_2 p0 p1 p2 p3 p4 p5 b101 b115) []) _
    refine XS.aload X119.here hx rfl (hb hby at_54) rfl rfl ?_
    refine XS.iconst X119.here hx rfl (hb hby at_56) ?_
    refine XS.aload X119.here hx rfl (hb hby at_57) rfl rfl ?_
    refine XS.iconst X119.here hx rfl (hb hby at_59) ?_
    show SS pP eE bS T119 (mkF mM 60 (Lc_law_2 p0 p1 p2 p3 p4 p5 b101 b115) [(.int (2 : Int32)), (.ref b101), (.int (1 : Int32)), (.ref b115)]) _
    refine X119.caload hx (j := (2 : Int32)) (v := (.int c2)) (by rw [e119]; exact Ar124.1) (State.isArrayOf_alike hZ0.alike Ar124.2.1) Ar124.2.2 hin124 hat124 (g := (mkF mM 60 (Lc_law_2 p0 p1 p2 p3 p4 p5 b101 b115) [(.int (2 : Int32)), (.ref b101), (.int (1 : Int32)), (.ref b115)])) rfl rfl (hb hby at_60) _ ?_
    show SS pP eE bS T119 (mkF mM 61 (Lc_law_2 p0 p1 p2 p3 p4 p5 b101 b115) [(.int c2), (.int (1 : Int32)), (.ref b115)]) _
    refine st126 _ ?_
    show SS pP eE bS T126 (mkF mM 62 (Lc_law_2 p0 p1 p2 p3 p4 p5 b101 b115) []) _
    refine XS.aload X126.here hx rfl (hb hby at_62) rfl rfl ?_
    refine XS.iconst X126.here hx rfl (hb hby at_64) ?_
    refine XS.aload X126.here hx rfl (hb hby at_65) rfl rfl ?_
    refine XS.iconst X126.here hx rfl (hb hby at_67) ?_
    show SS pP eE bS T126 (mkF mM 68 (Lc_law_2 p0 p1 p2 p3 p4 p5 b101 b115) [(.int (1 : Int32)), (.ref b101), (.int (2 : Int32)), (.ref b115)]) _
    refine X126.caload hx (j := (1 : Int32)) (v := (.int c1)) (by rw [e126]; exact Ar129.1) (State.isArrayOf_alike hZ0.alike Ar129.2.1) Ar129.2.2 hin129 hat129 (g := (mkF mM 68 (Lc_law_2 p0 p1 p2 p3 p4 p5 b101 b115) [(.int (1 : Int32)), (.ref b101), (.int (2 : Int32)), (.ref b115)])) rfl rfl (hb hby at_68) _ ?_
    show SS pP eE bS T126 (mkF mM 69 (Lc_law_2 p0 p1 p2 p3 p4 p5 b101 b115) [(.int c1), (.int (2 : Int32)), (.ref b115)]) _
    refine st131 _ ?_
    show SS pP eE bS T131 (mkF mM 70 (Lc_law_2 p0 p1 p2 p3 p4 p5 b101 b115) []) _
    refine XS.aload X131.here hx rfl (hb hby at_70) rfl rfl ?_
    refine XS.iconst X131.here hx rfl (hb hby at_72) ?_
    refine XS.aload X131.here hx rfl (hb hby at_73) rfl rfl ?_
    refine XS.iconst X131.here hx rfl (hb hby at_75) ?_
    show SS pP eE bS T131 (mkF mM 76 (Lc_law_2 p0 p1 p2 p3 p4 p5 b101 b115) [(.int (0 : Int32)), (.ref b101), (.int (3 : Int32)), (.ref b115)]) _
    refine X131.caload hx (j := (0 : Int32)) (v := (.int c0)) (by rw [e131]; exact Ar134.1) (State.isArrayOf_alike hZ0.alike Ar134.2.1) Ar134.2.2 hin134 hat134 (g := (mkF mM 76 (Lc_law_2 p0 p1 p2 p3 p4 p5 b101 b115) [(.int (0 : Int32)), (.ref b101), (.int (3 : Int32)), (.ref b115)])) rfl rfl (hb hby at_76) _ ?_
    show SS pP eE bS T131 (mkF mM 77 (Lc_law_2 p0 p1 p2 p3 p4 p5 b101 b115) [(.int c0), (.int (3 : Int32)), (.ref b115)]) _
    refine st136 _ ?_
    show SS pP eE bS T136 (mkF mM 78 (Lc_law_2 p0 p1 p2 p3 p4 p5 b101 b115) []) _
    refine st138 _ ?_
    show SS pP eE bS T138 (mkF mM 81 (Lc_law_2 p0 p1 p2 p3 p4 p5 b101 b115) [(.ref b138)]) _
    refine XS.dup X138.here hx rfl (hb hby at_81) rfl rfl ?_
    refine XS.aload X138.here hx rfl (hb hby at_82) rfl rfl ?_
    show SS pP eE bS T138 (mkF mM 84 (Lc_law_2 p0 p1 p2 p3 p4 p5 b101 b115) [(.ref b101), (.ref b138), (.ref b138)]) _
    refine st139.trans ?_
    show SS pP eE bS T139 (mkF mM 87 (Lc_law_2 p0 p1 p2 p3 p4 p5 b101 b115) [(.ref b138)]) _
    refine XS.astore X139.here hx rfl (hb hby at_87) rfl rfl (l' := (Lc_law_3 p0 p1 p2 p3 p4 p5 b101 b115 b138)) rfl ?_
    show SS pP eE bS T139 (mkF mM 89 (Lc_law_3 p0 p1 p2 p3 p4 p5 b101 b115 b138) []) _
    refine st156 _ ?_
    show SS pP eE bS T156 (mkF mM 92 (Lc_law_3 p0 p1 p2 p3 p4 p5 b101 b115 b138) [(.ref b156)]) _
    refine XS.dup X156.here hx rfl (hb hby at_92) rfl rfl ?_
    refine XS.aload X156.here hx rfl (hb hby at_93) rfl rfl ?_
    show SS pP eE bS T156 (mkF mM 95 (Lc_law_3 p0 p1 p2 p3 p4 p5 b101 b115 b138) [(.ref b115), (.ref b156), (.ref b156)]) _
    refine st157.trans ?_
    show SS pP eE bS T157 (mkF mM 98 (Lc_law_3 p0 p1 p2 p3 p4 p5 b101 b115 b138) [(.ref b156)]) _
    refine XS.astore X157.here hx rfl (hb hby at_98) rfl rfl (l' := (Lc_law_4 p0 p1 p2 p3 p4 p5 b101 b115 b138 b156)) rfl ?_
    refine XS.iloadN X157.here hx rfl (hb hby at_100) rfl ?_
    show SS pP eE bS T157 (mkF mM 101 (Lc_law_4 p0 p1 p2 p3 p4 p5 b101 b115 b138 b156) [(.int p2)]) _
    refine X157.ldcInt hx hown0 (mvT hZ0 (wi hw 31 rfl)) (g := (mkF mM 101 (Lc_law_4 p0 p1 p2 p3 p4 p5 b101 b115 b138 b156) [(.int p2)])) rfl (hb hby at_101) _ ?_
    show SS pP eE bS T157 (mkF mM 103 (Lc_law_4 p0 p1 p2 p3 p4 p5 b101 b115 b138 b156) [(.int (2147483647 : Int32)), (.int p2)]) _
    refine XS.iand X157.here hx rfl (hb hby at_103) rfl ?_
    refine XS.iconst X157.here hx rfl (hb hby at_104) ?_
    show SS pP eE bS T157 (mkF mM 105 (Lc_law_4 p0 p1 p2 p3 p4 p5 b101 b115 b138 b156) [(.int (5 : Int32)), (.int (p2 &&& (2147483647 : Int32)))]) _
    refine iremM (g := (mkF mM 105 (Lc_law_4 p0 p1 p2 p3 p4 p5 b101 b115 b138 b156) [(.int (5 : Int32)), (.int (p2 &&& (2147483647 : Int32)))])) X157 hx rfl (hb hby at_105) rfl (by decide : ¬ ((5 : Int32) = (0 : Int32))) ?_
    show SS pP eE bS T157 (mkF mM 106 (Lc_law_4 p0 p1 p2 p3 p4 p5 b101 b115 b138 b156) [(.int ((p2 &&& (2147483647 : Int32)) % (5 : Int32)))]) _
    rw [show ((p2 &&& (2147483647 : Int32)) % (5 : Int32)) = st from s1]
    refine XS.istore X157.here hx rfl (hb hby at_106) rfl (l' := (Lc_law_5 p0 p1 p2 p3 p4 p5 b101 b115 b138 b156 st)) rfl ?_
    refine XS.iloadN X157.here hx rfl (hb hby at_108) rfl ?_
    refine XS.bipush X157.here hx rfl (hb hby at_109) ?_
    show SS pP eE bS T157 (mkF mM 111 (Lc_law_5 p0 p1 p2 p3 p4 p5 b101 b115 b138 b156 st) [(.int (8 : Int32)), (.int p2)]) _
    refine XS.iushr X157.here hx rfl (hb hby at_111) rfl ?_
    show SS pP eE bS T157 (mkF mM 112 (Lc_law_5 p0 p1 p2 p3 p4 p5 b101 b115 b138 b156 st) [(.int ((p2.toUInt32 >>> ((8 : Int32) &&& 31).toUInt32).toInt32))]) _
    refine X157.ldcInt hx hown0 (mvT hZ0 (wi hw 31 rfl)) (g := (mkF mM 112 (Lc_law_5 p0 p1 p2 p3 p4 p5 b101 b115 b138 b156 st) [(.int ((p2.toUInt32 >>> ((8 : Int32) &&& 31).toUInt32).toInt32))])) rfl (hb hby at_112) _ ?_
    show SS pP eE bS T157 (mkF mM 114 (Lc_law_5 p0 p1 p2 p3 p4 p5 b101 b115 b138 b156 st) [(.int (2147483647 : Int32)), (.int ((p2.toUInt32 >>> ((8 : Int32) &&& 31).toUInt32).toInt32))]) _
    refine XS.iand X157.here hx rfl (hb hby at_114) rfl ?_
    refine XS.iconst X157.here hx rfl (hb hby at_115) ?_
    refine XS.iload X157.here hx rfl (hb hby at_116) rfl ?_
    refine XS.isub X157.here hx rfl (hb hby at_118) rfl ?_
    show SS pP eE bS T157 (mkF mM 119 (Lc_law_5 p0 p1 p2 p3 p4 p5 b101 b115 b138 b156 st) [(.int ((5 : Int32) - st)), (.int (((p2.toUInt32 >>> ((8 : Int32) &&& 31).toUInt32).toInt32) &&& (2147483647 : Int32)))]) _
    refine iremM (g := (mkF mM 119 (Lc_law_5 p0 p1 p2 p3 p4 p5 b101 b115 b138 b156 st) [(.int ((5 : Int32) - st)), (.int (((p2.toUInt32 >>> ((8 : Int32) &&& 31).toUInt32).toInt32) &&& (2147483647 : Int32)))])) X157 hx rfl (hb hby at_119) rfl hc119 ?_
    show SS pP eE bS T157 (mkF mM 120 (Lc_law_5 p0 p1 p2 p3 p4 p5 b101 b115 b138 b156 st) [(.int ((((p2.toUInt32 >>> ((8 : Int32) &&& 31).toUInt32).toInt32) &&& (2147483647 : Int32)) % ((5 : Int32) - st)))]) _
    rw [show ((((p2.toUInt32 >>> ((8 : Int32) &&& 31).toUInt32).toInt32) &&& (2147483647 : Int32)) % ((5 : Int32) - st)) = ln from s2]
    refine XS.istore X157.here hx rfl (hb hby at_120) rfl (l' := (Lc_law_6 p0 p1 p2 p3 p4 p5 b101 b115 b138 b156 st ln)) rfl ?_
    refine XS.iload X157.here hx rfl (hb hby at_122) rfl ?_
    show SS pP eE bS T157 (mkF mM 124 (Lc_law_6 p0 p1 p2 p3 p4 p5 b101 b115 b138 b156 st ln) [(.int p4)]) _
    refine X157.ldcInt hx hown0 (mvT hZ0 (wi hw 31 rfl)) (g := (mkF mM 124 (Lc_law_6 p0 p1 p2 p3 p4 p5 b101 b115 b138 b156 st ln) [(.int p4)])) rfl (hb hby at_124) _ ?_
    show SS pP eE bS T157 (mkF mM 126 (Lc_law_6 p0 p1 p2 p3 p4 p5 b101 b115 b138 b156 st ln) [(.int (2147483647 : Int32)), (.int p4)]) _
    refine XS.iand X157.here hx rfl (hb hby at_126) rfl ?_
    refine XS.iconst X157.here hx rfl (hb hby at_127) ?_
    show SS pP eE bS T157 (mkF mM 128 (Lc_law_6 p0 p1 p2 p3 p4 p5 b101 b115 b138 b156 st ln) [(.int (5 : Int32)), (.int (p4 &&& (2147483647 : Int32)))]) _
    refine iremM (g := (mkF mM 128 (Lc_law_6 p0 p1 p2 p3 p4 p5 b101 b115 b138 b156 st ln) [(.int (5 : Int32)), (.int (p4 &&& (2147483647 : Int32)))])) X157 hx rfl (hb hby at_128) rfl (by decide : ¬ ((5 : Int32) = (0 : Int32))) ?_
    show SS pP eE bS T157 (mkF mM 129 (Lc_law_6 p0 p1 p2 p3 p4 p5 b101 b115 b138 b156 st ln) [(.int ((p4 &&& (2147483647 : Int32)) % (5 : Int32)))]) _
    rw [show ((p4 &&& (2147483647 : Int32)) % (5 : Int32)) = fa from s3]
    refine XS.istore X157.here hx rfl (hb hby at_129) rfl (l' := (Lc_law_7 p0 p1 p2 p3 p4 p5 b101 b115 b138 b156 st ln fa)) rfl ?_
    refine XS.iload X157.here hx rfl (hb hby at_131) rfl ?_
    refine XS.bipush X157.here hx rfl (hb hby at_133) ?_
    show SS pP eE bS T157 (mkF mM 135 (Lc_law_7 p0 p1 p2 p3 p4 p5 b101 b115 b138 b156 st ln fa) [(.int (8 : Int32)), (.int p4)]) _
    refine XS.iushr X157.here hx rfl (hb hby at_135) rfl ?_
    show SS pP eE bS T157 (mkF mM 136 (Lc_law_7 p0 p1 p2 p3 p4 p5 b101 b115 b138 b156 st ln fa) [(.int ((p4.toUInt32 >>> ((8 : Int32) &&& 31).toUInt32).toInt32))]) _
    refine X157.ldcInt hx hown0 (mvT hZ0 (wi hw 31 rfl)) (g := (mkF mM 136 (Lc_law_7 p0 p1 p2 p3 p4 p5 b101 b115 b138 b156 st ln fa) [(.int ((p4.toUInt32 >>> ((8 : Int32) &&& 31).toUInt32).toInt32))])) rfl (hb hby at_136) _ ?_
    show SS pP eE bS T157 (mkF mM 138 (Lc_law_7 p0 p1 p2 p3 p4 p5 b101 b115 b138 b156 st ln fa) [(.int (2147483647 : Int32)), (.int ((p4.toUInt32 >>> ((8 : Int32) &&& 31).toUInt32).toInt32))]) _
    refine XS.iand X157.here hx rfl (hb hby at_138) rfl ?_
    refine XS.iconst X157.here hx rfl (hb hby at_139) ?_
    refine XS.iload X157.here hx rfl (hb hby at_140) rfl ?_
    refine XS.isub X157.here hx rfl (hb hby at_142) rfl ?_
    show SS pP eE bS T157 (mkF mM 143 (Lc_law_7 p0 p1 p2 p3 p4 p5 b101 b115 b138 b156 st ln fa) [(.int ((5 : Int32) - fa)), (.int (((p4.toUInt32 >>> ((8 : Int32) &&& 31).toUInt32).toInt32) &&& (2147483647 : Int32)))]) _
    refine iremM (g := (mkF mM 143 (Lc_law_7 p0 p1 p2 p3 p4 p5 b101 b115 b138 b156 st ln fa) [(.int ((5 : Int32) - fa)), (.int (((p4.toUInt32 >>> ((8 : Int32) &&& 31).toUInt32).toInt32) &&& (2147483647 : Int32)))])) X157 hx rfl (hb hby at_143) rfl hc143 ?_
    show SS pP eE bS T157 (mkF mM 144 (Lc_law_7 p0 p1 p2 p3 p4 p5 b101 b115 b138 b156 st ln fa) [(.int ((((p4.toUInt32 >>> ((8 : Int32) &&& 31).toUInt32).toInt32) &&& (2147483647 : Int32)) % ((5 : Int32) - fa)))]) _
    rw [show ((((p4.toUInt32 >>> ((8 : Int32) &&& 31).toUInt32).toInt32) &&& (2147483647 : Int32)) % ((5 : Int32) - fa)) = fl from s4]
    refine XS.istore X157.here hx rfl (hb hby at_144) rfl (l' := (Lc_law_8 p0 p1 p2 p3 p4 p5 b101 b115 b138 b156 st ln fa fl)) rfl ?_
    show SS pP eE bS T157 (mkF mM 146 (Lc_law_8 p0 p1 p2 p3 p4 p5 b101 b115 b138 b156 st ln fa fl) []) _
    refine st167 _ ?_
    show SS pP eE bS T167 (mkF mM 149 (Lc_law_8 p0 p1 p2 p3 p4 p5 b101 b115 b138 b156 st ln fa fl) [(.ref b167)]) _
    refine XS.dup X167.here hx rfl (hb hby at_149) rfl rfl ?_
    show SS pP eE bS T167 (mkF mM 150 (Lc_law_8 p0 p1 p2 p3 p4 p5 b101 b115 b138 b156 st ln fa fl) [(.ref b167), (.ref b167)]) _
    refine st168.trans ?_
    show SS pP eE bS T168 (mkF mM 153 (Lc_law_8 p0 p1 p2 p3 p4 p5 b101 b115 b138 b156 st ln fa fl) [(.ref b167)]) _
    refine XS.astore X168'.here hx rfl (hb hby at_153) rfl rfl (l' := (Lc_law_9 p0 p1 p2 p3 p4 p5 b101 b115 b138 b156 st ln fa fl b167)) rfl ?_
    refine XS.aload X168'.here hx rfl (hb hby at_155) rfl rfl ?_
    refine XS.aload X168'.here hx rfl (hb hby at_157) rfl rfl ?_
    refine XS.iload X168'.here hx rfl (hb hby at_159) rfl ?_
    show SS pP eE bS T168 (mkF mM 161 (Lc_law_9 p0 p1 p2 p3 p4 p5 b101 b115 b138 b156 st ln fa fl b167) [(.int fa), (.ref b156), (.ref b167)]) _
    refine XS.iload X168'.here hx rfl (hb hby at_161) rfl ?_
    refine XS.iload X168'.here hx rfl (hb hby at_163) rfl ?_
    show SS pP eE bS T168 (mkF mM 165 (Lc_law_9 p0 p1 p2 p3 p4 p5 b101 b115 b138 b156 st ln fa fl b167) [(.int p5), (.int fl), (.int fa), (.ref b156), (.ref b167)]) _
    refine st172.trans ?_
    show SS pP eE bS T172 (mkF mM 168 (Lc_law_9 p0 p1 p2 p3 p4 p5 b101 b115 b138 b156 st ln fa fl b167) []) _
    refine XS.aload X172.here hx rfl (hb hby at_168) rfl rfl ?_
    refine XS.aload X172.here hx rfl (hb hby at_170) rfl rfl ?_
    refine XS.iload X172.here hx rfl (hb hby at_172) rfl ?_
    refine XS.iload X172.here hx rfl (hb hby at_174) rfl ?_
    show SS pP eE bS T172 (mkF mM 176 (Lc_law_9 p0 p1 p2 p3 p4 p5 b101 b115 b138 b156 st ln fa fl b167) [(.int ln), (.int st), (.ref b138), (.ref b167)]) _
    refine XS.iloadN X172.here hx rfl (hb hby at_176) rfl ?_
    show SS pP eE bS T172 (mkF mM 177 (Lc_law_9 p0 p1 p2 p3 p4 p5 b101 b115 b138 b156 st ln fa fl b167) [(.int p3), (.int ln), (.int st), (.ref b138), (.ref b167)]) _
    refine st174.trans ?_
    show SS pP eE bS T174 (mkF mM 180 (Lc_law_9 p0 p1 p2 p3 p4 p5 b101 b115 b138 b156 st ln fa fl b167) []) _
    refine XS.aload X174.here hx rfl (hb hby at_180) rfl rfl ?_
    show SS pP eE bS T174 (mkF mM 182 (Lc_law_9 p0 p1 p2 p3 p4 p5 b101 b115 b138 b156 st ln fa fl b167) [(.ref b167)]) _
    refine st176.trans ?_
    show SS pP eE bS T176 (mkF mM 185 (Lc_law_9 p0 p1 p2 p3 p4 p5 b101 b115 b138 b156 st ln fa fl b167) [(.int p3)]) _
    refine XS.iloadN X176.here hx rfl (hb hby at_185) rfl ?_
    refine XS.icmpYes X176.here hx rfl (pc0 := 186) (pc' := 191) rfl (hb hby at_186) rfl (teq (rfl : p3 = p3)).1 (by decide) (by decide) ?_
    refine XS.aload X176.here hx rfl (hb hby at_191) rfl rfl ?_
    show SS pP eE bS T176 (mkF mM 193 (Lc_law_9 p0 p1 p2 p3 p4 p5 b101 b115 b138 b156 st ln fa fl b167) [(.ref b167)]) _
    refine st177.trans ?_
    show SS pP eE bS T177 (mkF mM 196 (Lc_law_9 p0 p1 p2 p3 p4 p5 b101 b115 b138 b156 st ln fa fl b167) [(.ref r_177)]) _
    refine XS.astore X177'.here hx rfl (hb hby at_196) rfl rfl (l' := (Lc_law_10 p0 p1 p2 p3 p4 p5 b101 b115 b138 b156 st ln fa fl b167 r_177)) rfl ?_
    refine XS.aload X177'.here hx rfl (hb hby at_198) rfl rfl ?_
    show SS pP eE bS T177 (mkF mM 200 (Lc_law_10 p0 p1 p2 p3 p4 p5 b101 b115 b138 b156 st ln fa fl b167 r_177) [(.ref r_177)]) _
    refine st209.trans ?_
    show SS pP eE bS T209 (mkF mM 203 (Lc_law_10 p0 p1 p2 p3 p4 p5 b101 b115 b138 b156 st ln fa fl b167 r_177) [(.int ln)]) _
    refine XS.iload X209.here hx rfl (hb hby at_203) rfl ?_
    refine XS.icmpYes X209.here hx rfl (pc0 := 205) (pc' := 210) rfl (hb hby at_205) rfl (teq (rfl : ln = ln)).1 (by decide) (by decide) ?_
    refine XS.aload X209.here hx rfl (hb hby at_210) rfl rfl ?_
    refine XS.aload X209.here hx rfl (hb hby at_212) rfl rfl ?_
    show SS pP eE bS T209 (mkF mM 214 (Lc_law_10 p0 p1 p2 p3 p4 p5 b101 b115 b138 b156 st ln fa fl b167 r_177) [(.ref b101), (.ref r_177)]) _
    refine XS.iload X209.here hx rfl (hb hby at_214) rfl ?_
    refine XS.iload X209.here hx rfl (hb hby at_216) rfl ?_
    refine XS.iconst X209.here hx rfl (hb hby at_218) ?_
    show SS pP eE bS T209 (mkF mM 219 (Lc_law_10 p0 p1 p2 p3 p4 p5 b101 b115 b138 b156 st ln fa fl b167 r_177) [(.int (0 : Int32)), (.int ln), (.int st), (.ref b101), (.ref r_177)]) _
    refine st211 _ ?_
    show SS pP eE bS T211 (mkF mM 222 (Lc_law_10 p0 p1 p2 p3 p4 p5 b101 b115 b138 b156 st ln fa fl b167 r_177) [(.int (1 : Int32))]) _
    refine XS.ifNo X211.here hx rfl (hb hby at_222) rfl ((if0 _ _).trans (feq (by decide : ¬ ((1 : Int32) = (0 : Int32)))).1) ?_
    refine XS.aload X211.here hx rfl (hb hby at_225) rfl rfl ?_
    refine XS.aload X211.here hx rfl (hb hby at_227) rfl rfl ?_
    refine XS.iload X211.here hx rfl (hb hby at_229) rfl ?_
    show SS pP eE bS T211 (mkF mM 231 (Lc_law_10 p0 p1 p2 p3 p4 p5 b101 b115 b138 b156 st ln fa fl b167 r_177) [(.int st), (.ref b101), (.ref r_177)]) _
    refine XS.iload X211.here hx rfl (hb hby at_231) rfl ?_
    refine XS.iconst X211.here hx rfl (hb hby at_233) ?_
    show SS pP eE bS T211 (mkF mM 234 (Lc_law_10 p0 p1 p2 p3 p4 p5 b101 b115 b138 b156 st ln fa fl b167 r_177) [(.int (1 : Int32)), (.int ln), (.int st), (.ref b101), (.ref r_177)]) _
    refine st223 _ ?_
    show SS pP eE bS T223 (mkF mM 237 (Lc_law_10 p0 p1 p2 p3 p4 p5 b101 b115 b138 b156 st ln fa fl b167 r_177) [(.int (1 : Int32))]) _
    refine XS.ifNo X223.here hx rfl (hb hby at_237) rfl ((if0 _ _).trans (feq (by decide : ¬ ((1 : Int32) = (0 : Int32)))).1) ?_
    refine XS.aload X223.here hx rfl (hb hby at_240) rfl rfl ?_
    refine XS.aload X223.here hx rfl (hb hby at_242) rfl rfl ?_
    refine XS.iload X223.here hx rfl (hb hby at_244) rfl ?_
    show SS pP eE bS T223 (mkF mM 246 (Lc_law_10 p0 p1 p2 p3 p4 p5 b101 b115 b138 b156 st ln fa fl b167 r_177) [(.int st), (.ref b101), (.ref r_177)]) _
    refine XS.iload X223.here hx rfl (hb hby at_246) rfl ?_
    refine XS.iconst X223.here hx rfl (hb hby at_248) ?_
    show SS pP eE bS T223 (mkF mM 249 (Lc_law_10 p0 p1 p2 p3 p4 p5 b101 b115 b138 b156 st ln fa fl b167 r_177) [(.int (2 : Int32)), (.int ln), (.int st), (.ref b101), (.ref r_177)]) _
    refine st224 _ ?_
    show SS pP eE bS T224 (mkF mM 252 (Lc_law_10 p0 p1 p2 p3 p4 p5 b101 b115 b138 b156 st ln fa fl b167 r_177) [(.int (1 : Int32))]) _
    refine XS.ifNo X224.here hx rfl (hb hby at_252) rfl ((if0 _ _).trans (feq (by decide : ¬ ((1 : Int32) = (0 : Int32)))).1) ?_
    refine XS.aload X224.here hx rfl (hb hby at_255) rfl rfl ?_
    refine XS.aload X224.here hx rfl (hb hby at_257) rfl rfl ?_
    refine XS.iload X224.here hx rfl (hb hby at_259) rfl ?_
    show SS pP eE bS T224 (mkF mM 261 (Lc_law_10 p0 p1 p2 p3 p4 p5 b101 b115 b138 b156 st ln fa fl b167 r_177) [(.int st), (.ref b101), (.ref r_177)]) _
    refine XS.iload X224.here hx rfl (hb hby at_261) rfl ?_
    refine XS.iconst X224.here hx rfl (hb hby at_263) ?_
    show SS pP eE bS T224 (mkF mM 264 (Lc_law_10 p0 p1 p2 p3 p4 p5 b101 b115 b138 b156 st ln fa fl b167 r_177) [(.int (3 : Int32)), (.int ln), (.int st), (.ref b101), (.ref r_177)]) _
    refine st225 _ ?_
    show SS pP eE bS T225 (mkF mM 267 (Lc_law_10 p0 p1 p2 p3 p4 p5 b101 b115 b138 b156 st ln fa fl b167 r_177) [(.int (1 : Int32))]) _
    refine XS.ifNo X225.here hx rfl (hb hby at_267) rfl ((if0 _ _).trans (feq (by decide : ¬ ((1 : Int32) = (0 : Int32)))).1) ?_
    refine XS.iconst X225.here hx rfl (hb hby at_270) ?_
    refine XS.goto X225.here hx rfl (pc0 := 271) (pc' := 275) rfl (hb hby at_271) (by decide) (by decide) ?_
    show SS pP eE bS T225 (mkF mM 275 (Lc_law_10 p0 p1 p2 p3 p4 p5 b101 b115 b138 b156 st ln fa fl b167 r_177) [(.int (1 : Int32))]) _
    exact retN X225 hx (t := .boolean) Bd.returns (by simp) (hb hby at_275) hr
  · exact ⟨rfl, N225⟩
  · show CHr Z consts_1 sS.vm sS.heap T225.vm T225.heap
    rw [hh, e225]
    exact CC19.trans (CHv.at X225 hZ177 (own_EW hw) CC19.1)
-- END
theorem comes_1 {Post : Tables → Env → Array Value → State → Outcome → State → Prop} (hpost : ∀ tb e args s v u, (limb_1_1.after args s (.returned v) u = true ∧ limb_1_2.after args s (.returned v) u = true ∧ True) → ReturnedEndW s (.returned v) u (Jvm.fieldLocs frame_1_writes args s ++ Jvm.arrayLocs frame_1_arrays args s ++ Jvm.staticLocs frame_1_statics s) 40 3264 → Post tb e args s (.returned v) u) :
    ArmFor flags0 classFile x code maxLocals ret World_1 tables_1 room_1 Calls_1 rest_1 Pre_1 Post := by
  intro l hfl _ _ p e ha hc hk s m args below hf hA hF happ hP
  obtain ⟨hcalls, hrest, hpre⟩ := hP
  obtain ⟨-, -, -, hnamed, -, -, -, hat⟩ := (Spec.applies_iff hf).mp happ
  obtain ⟨hg, hn⟩ := and_e (Cond.before_iff.mp (show (Jvm.Cond.and given_1 narrow_1).before args s = true from hpre))
  obtain ⟨g1, g2⟩ := and_e hg
  obtain ⟨g3, g4⟩ := and_e g2
  obtain ⟨g5, g6⟩ := and_e g4
  obtain ⟨g7, g8⟩ := and_e g6
  obtain ⟨g9, g10⟩ := and_e g8
  obtain ⟨g11, g12⟩ := and_e g10
  obtain ⟨w0, w1, w2, w3, w4, w5, rfl⟩ : ∃ w0 w1 w2 w3 w4 w5 : Value, args = #[w0, w1, w2, w3, w4, w5] := by
    have hs : args.size = 6 := by simpa [Cond.value, given_1] using g1
    obtain ⟨L⟩ := args
    match L, hs with
    | [w0, w1, w2, w3, w4, w5], _ => exact ⟨w0, w1, w2, w3, w4, w5, rfl⟩
  have hw := fun d (hd : d ∈ tables_1) => atoms_spec (ws := Jvm.Cond.code x code maxLocals ret :: tables_1) hat d (List.mem_cons_of_mem _ hd)
  have hfit : Fit s := fun {y c} hc i hi => by
    obtain ⟨ha, rfl⟩ := Array.getElem?_eq_some_iff.mp hc
    have q := List.all_eq_true.mp ((Array.all_eq_true_iff_forall_mem.mp hF) _ (Array.getElem_mem ha)) i (List.mem_range.mpr hi)
    simpa [Array.getElem?_eq_getElem hi] using q
  obtain ⟨hsets, hown0⟩ := atoms_of _ (rest_1_c_eq ▸ (show rest_1_c.before _ s = true from hrest))
  obtain ⟨i0, ei0⟩ := is_v g3
  obtain rfl : w0 = (.int i0) := Option.some.inj ei0
  obtain ⟨i1, ei1⟩ := is_v g5
  obtain rfl : w1 = (.int i1) := Option.some.inj ei1
  obtain ⟨i2, ei2⟩ := is_v g7
  obtain rfl : w2 = (.int i2) := Option.some.inj ei2
  obtain ⟨i3, ei3⟩ := is_v g9
  obtain rfl : w3 = (.int i3) := Option.some.inj ei3
  obtain ⟨i4, ei4⟩ := is_v g11
  obtain rfl : w4 = (.int i4) := Option.some.inj ei4
  obtain ⟨i5, ei5⟩ := is_v g12
  obtain rfl : w5 = (.int i5) := Option.some.inj ei5
  have hM : MetFree l x (head1 (Jvm.Cond.code x code maxLocals ret :: tables_1) room_1) (fun a U => a = #[(.int i0), (.int i1), (.int i2), (.int i3), (.int i4), (.int i5)] ∧ s.Warmed39 U.vm ∧ U.heap = s.heap ∧ CHv s consts_1 U.vm s.heap ∧ ∀ x ∈ ([] : List Addr), Safe s consts_1 U.vm s.heap x) (fun _ _ _ _ _ => True) (fun _ U o U' => ∃ v L, o = .returned v ∧ Q_law s.heap.size v L ∧ CHr s consts_1 U.vm U.heap U'.vm U'.heap ∧ ReturnedEndW U o U' L room_1.cells room_1.slots) := by
    obtain ⟨cs, ecs⟩ := is_v (Cond.before_iff.mp (hsets _ (List.mem_of_getElem? (i := 1) rfl)))
    have hSc := Sta.start ecs (Or.inl (hsets _ (List.mem_of_getElem? (i := 0) rfl)))
    have hcs : ¬ (cs = (0 : Int32)) := fun q => by
      have w := not_v (Cond.before_iff.mp (hsets _ (List.mem_of_getElem? (i := 2) rfl)))
      rw [eq_i ecs (Term.int_eval 0) (by rw [q])] at w; cases w
    obtain ⟨fo, efo, hfo⟩ := isR_v (Cond.before_iff.mp (hsets _ (List.mem_of_getElem? (i := 8) rfl)))
    have hFo := Sta.start efo (Or.inl (hsets _ (List.mem_of_getElem? (i := 7) rfl)))
    have hA := Sta.start (Cond.eq_int (hsets _ (List.mem_of_getElem? (i := 12) rfl)) rfl) (Or.inl (hsets _ (List.mem_of_getElem? (i := 11) rfl)))
    have hH := Sta.start (Cond.eq_int (hsets _ (List.mem_of_getElem? (i := 15) rfl)) rfl) (Or.inl (hsets _ (List.mem_of_getElem? (i := 14) rfl)))
    have hL := Sta.start (Cond.eq_int (hsets _ (List.mem_of_getElem? (i := 18) rfl)) rfl) (Or.inl (hsets _ (List.mem_of_getElem? (i := 17) rfl)))
    exact rm_law l s _ hw tables_1 i0 i1 i2 i3 i4 i5 _ _ _ _ _ _ _ _ fo cs s.heap s.heap.size (Nat.le_refl _) rfl rfl rfl rfl rfl rfl rfl rfl (own_cc _) (own_cc _) (own_cc _) (own_cc _) (own_cmb i2) (Old.start s) hA hH hL hfo hFo hSc hcs (own_nz i2) (own_nz i4)
  obtain ⟨n, o, h1, h2, h3, _, L, rfl, ⟨rfl, N⟩, -, hq⟩ := hM p e ha hc hk s m _ below hf ((Spec.applies_iff_loose hf).mp happ).1 ⟨rfl, State.Warmed39.refl s, rfl, CHv.start (own_EW hw) (fun p hp => hcalls.1 p hp) (hsets _ (List.mem_of_getElem? (i := 2) rfl)) (wi hw 20 rfl) (wi hw 3 rfl), sf0⟩ trivial
  refine ⟨n, _, h1, h2, h3, hpost _ _ _ _ _ _ ⟨Cond.after_iff.mpr rfl, Cond.after_iff.mpr (eq_i res_at (Term.int_eval (1)) rfl), trivial⟩ ⟨hq.1, hq.2.1, hq.2.2.1, (hq.2.2.2.sift fun y hy => Or.inr (N y hy)).mono (by decide) (by decide)⟩⟩
theorem main_1_1 : Claimed_1_1 := comes_1 fun _ _ _ _ _ _ h hF => ⟨h.1, hF⟩
theorem main_1_2 : Claimed_1_2 := comes_1 fun _ _ _ _ _ _ h hF => ⟨h.2.1, hF⟩
end Jvm.Pilot.@@N@@
namespace Jvm.Pilot.@@N@@
open Jvm Jvm.ClassFile Sem Op Lib Jvm.Free Jvm.Stand Jvm.Pilot.@@N@@.Jvm.D
/-! MADE BY PROGRAM (witnessworld.py) out of the Statement's table words and the real class files: 23 classes; the members and pool entries that the words name. The judged class is class 1, her method 1. -/
namespace start1
open Jvm.ClassFile
def u (s : String) : CpInfo := .utf8 (stringToUtf16 s)
/-- a pool by its gaps: so many unusable entries, then the entry; so many at the end -/
def gap : Nat → List CpInfo → List CpInfo
  | 0, r => r
  | n + 1, r => .unusable :: gap n r
def poolList (es : List (Nat × CpInfo)) (last : Nat) : List CpInfo := es.foldr (fun e r => gap e.1 (e.2 :: r)) (gap last [])
def pool (es : List (Nat × CpInfo)) (last : Nat) : Array CpInfo := ⟨poolList es last⟩
def fileOf (pool : Array CpInfo) (this : Nat) (attrs : Array Attribute := #[]) (ms : Array MethodInfo := #[]) (fl : Nat := 33) (sup : Nat := 0) (ifs : Array Nat := #[]) (fds : Array FieldInfo := #[]) : ClassFile where
  minorVersion := 0
  majorVersion := 65
  constantPool := pool
  accessFlags := fl
  thisClass := this
  superClass := sup
  interfaces := ifs
  fields := fds
  methods := ms
  attributes := attrs
def plain (name : String) (sup : Option ClassId) : Class where
  name := name
  kind := .ordinary
  loader := none
  accessFlags := 33
  super := sup
  interfaces := #[]
  cf := none
  fields := #[]
  methods := #[]
  instanceTypes := #[]
  staticTypes := #[]
  resolved := #[]
  callSites := []
  init := .initialized
  statics := none
  mirror := none

def pool0 : Array CpInfo := pool [(5, u "<init>"), (0, u "()V"), (1, .class_ 10), (1, u "java/lang/Object")] 113

def k0c0 : Code := { maxStack := 0, maxLocals := 1, code := object_method_1_code, exceptionTable := #[], attributes := #[] }
def k0m0 : Method := { name := "<init>", desc := "()V", sig := { parameters := [], returnType := none }, accessFlags := 1, code := some k0c0 }
/-- java/lang/Object -/
def k0 : Class := { plain "java/lang/Object" none with
  accessFlags := 33
  interfaces := #[]
  cf := some (fileOf pool0 8 #[] #[{ accessFlags := 1, nameIndex := 5, descriptorIndex := 6, attributes := #[] }] 33 0 #[] #[])
  fields := #[]
  methods := #[k0m0]
  instanceTypes := #[]
  staticTypes := #[]
  resolved := Array.replicate 124 none
  statics := none }

def pool1 : Array CpInfo := pool [(2, .class_ 4), (0, .nameAndType 5 6), (0, u "java/lang/Object"), (0, u "<init>"), (0, u "()V"), (0, .integer 65535), (0, .class_ 9), (0, u "java/lang/String"), (0, .methodref 8 11), (0, .nameAndType 5 12), (0, u "([C)V"), (0, .integer 2147483647), (0, .class_ 15), (0, u "com/example/bufferwright/bufferwright/text/Word"), (0, .methodref 14 3), (0, .methodref 14 18), (0, .nameAndType 19 20), (0, u "moveTo"), (0, u "(Ljava/lang/CharSequence;III)V"), (0, .methodref 14 22), (0, .nameAndType 23 24), (0, u "hashCode"), (0, u "()I"), (0, .methodref 14 26), (0, .nameAndType 27 28), (0, u "toString"), (0, u "()Ljava/lang/String;"), (0, .methodref 8 30), (0, .nameAndType 31 24), (0, u "length"), (0, .methodref 33 34), (0, .class_ 35), (0, .nameAndType 36 37), (0, u "com/example/bufferwright/bufferwright/text/WordMoveToPinLaw"), (0, u "at"), (0, u "(Ljava/lang/String;[CIII)Z"), (0, .methodref 8 39), (0, .nameAndType 40 41), (0, u "charAt"), (0, u "(I)C"), (2, u "law"), (0, u "(IIIIII)Z")] 5

def k1m0 : Method := { name := "<init>", desc := "()V", sig := { parameters := [], returnType := none }, accessFlags := 1, code := none }
def k1c1 : Code := { maxStack := 5, maxLocals := 16, code := code, exceptionTable := #[], attributes := #[] }
def k1m1 : Method := { name := "law", desc := "(IIIIII)Z", sig := { parameters := [.int, .int, .int, .int, .int, .int], returnType := some .boolean }, accessFlags := 9, code := some k1c1 }
def k1c2 : Code := { maxStack := 4, maxLocals := 5, code := method_3_code, exceptionTable := #[], attributes := #[] }
def k1m2 : Method := { name := "at", desc := "(Ljava/lang/String;[CIII)Z", sig := { parameters := [(.object "java/lang/String"), (.array .char), .int, .int, .int], returnType := some .boolean }, accessFlags := 10, code := some k1c2 }
/-- com/example/bufferwright/bufferwright/text/WordMoveToPinLaw -/
def k1 : Class := { plain "com/example/bufferwright/bufferwright/text/WordMoveToPinLaw" (some 0) with
  accessFlags := 49
  interfaces := #[]
  cf := some (fileOf pool1 33 #[] #[{ accessFlags := 1, nameIndex := 5, descriptorIndex := 6, attributes := #[] }, { accessFlags := 9, nameIndex := 44, descriptorIndex := 45, attributes := #[] }, { accessFlags := 10, nameIndex := 36, descriptorIndex := 37, attributes := #[] }] 49 2 #[] #[])
  fields := #[]
  methods := #[k1m0, k1m1, k1m2]
  instanceTypes := #[]
  staticTypes := #[]
  resolved := Array.replicate 51 none
  statics := none }

def pool2 : Array CpInfo := pool [(1, .class_ 2), (0, u "java/io/Serializable"), (0, .class_ 4), (0, u "java/lang/Object")] 2

/-- java/io/Serializable -/
def k2 : Class := { plain "java/io/Serializable" (some 0) with
  accessFlags := 1537
  interfaces := #[]
  cf := some (fileOf pool2 1 #[] #[] 1537 3 #[] #[])
  fields := #[]
  methods := #[]
  instanceTypes := #[]
  staticTypes := #[]
  resolved := Array.replicate 7 none
  statics := none }

def pool3 : Array CpInfo := pool [(1, .class_ 2), (0, u "java/lang/Comparable"), (0, .class_ 4), (0, u "java/lang/Object")] 7

/-- java/lang/Comparable -/
def k3 : Class := { plain "java/lang/Comparable" (some 0) with
  accessFlags := 1537
  interfaces := #[]
  cf := some (fileOf pool3 1 #[] #[] 1537 3 #[] #[])
  fields := #[]
  methods := #[]
  instanceTypes := #[]
  staticTypes := #[]
  resolved := Array.replicate 12 none
  statics := none }

def pool4 : Array CpInfo := pool [(2, .class_ 4), (1, u "java/lang/CharSequence"), (42, .class_ 48), (0, u "java/lang/CharSequence$1CodePointIterator"), (10, .class_ 60), (0, u "java/lang/CharSequence$1CharIterator"), (5, .class_ 67), (0, u "java/lang/Object"), (8, u "subSequence"), (0, u "(II)Ljava/lang/CharSequence;"), (0, u "toString"), (0, u "()Ljava/lang/String;")] 51

def k4m0 : Method := { name := "subSequence", desc := "(II)Ljava/lang/CharSequence;", sig := { parameters := [.int, .int], returnType := some (.object "java/lang/CharSequence") }, accessFlags := 1025, code := none }
def k4m1 : Method := { name := "toString", desc := "()Ljava/lang/String;", sig := { parameters := [], returnType := some (.object "java/lang/String") }, accessFlags := 1025, code := none }
/-- java/lang/CharSequence -/
def k4 : Class := { plain "java/lang/CharSequence" (some 0) with
  accessFlags := 1537
  interfaces := #[]
  cf := some (fileOf pool4 2 #[.nestMembers #[47, 59]] #[{ accessFlags := 1025, nameIndex := 76, descriptorIndex := 77, attributes := #[] }, { accessFlags := 1025, nameIndex := 78, descriptorIndex := 79, attributes := #[] }] 1537 66 #[] #[])
  fields := #[]
  methods := #[k4m0, k4m1]
  instanceTypes := #[]
  staticTypes := #[]
  resolved := Array.replicate 131 none
  statics := none }

def pool5 : Array CpInfo := pool [(1, .class_ 2), (0, u "java/lang/constant/Constable"), (0, .class_ 4), (0, u "java/lang/Object")] 6

/-- java/lang/constant/Constable -/
def k5 : Class := { plain "java/lang/constant/Constable" (some 0) with
  accessFlags := 1537
  interfaces := #[]
  cf := some (fileOf pool5 1 #[] #[] 1537 3 #[] #[])
  fields := #[]
  methods := #[]
  instanceTypes := #[]
  staticTypes := #[]
  resolved := Array.replicate 11 none
  statics := none }

def pool6 : Array CpInfo := pool [(1, .class_ 2), (0, u "java/lang/constant/ConstantDesc"), (0, .class_ 4), (0, u "java/lang/Object")] 32

/-- java/lang/constant/ConstantDesc -/
def k6 : Class := { plain "java/lang/constant/ConstantDesc" (some 0) with
  accessFlags := 1537
  interfaces := #[]
  cf := some (fileOf pool6 1 #[] #[] 1537 3 #[] #[])
  fields := #[]
  methods := #[]
  instanceTypes := #[]
  staticTypes := #[]
  resolved := Array.replicate 37 none
  statics := none }

def pool7 : Array CpInfo := pool [(1, .methodref 2 3), (0, .class_ 4), (0, .nameAndType 5 6), (0, u "java/lang/Object"), (0, u "<init>"), (0, u "()V"), (2, .fieldref 10 11), (0, .class_ 12), (0, .nameAndType 13 14), (0, u "java/lang/String"), (0, u "value"), (0, u "[B"), (0, .fieldref 10 16), (0, .nameAndType 17 18), (0, u "coder"), (0, u "B"), (2, u "hash"), (0, u "I"), (2, u "hashIsZero"), (0, u "Z"), (0, .methodref 10 28), (0, .nameAndType 5 29), (0, u "([CIILjava/lang/Void;)V"), (6, u "checkBoundsOffCount"), (0, u "(III)I"), (0, .fieldref 10 39), (0, .nameAndType 40 26), (0, u "COMPACT_STRINGS"), (1, .class_ 44), (1, u "java/lang/StringUTF16"), (0, u "compress"), (1, .methodref 42 48), (0, .nameAndType 49 50), (0, u "coderFromArrayLen"), (0, u "([BI)B"), (56, .class_ 109), (1, u "java/lang/StringLatin1"), (32, u "()Z"), (34, .methodref 42 178), (0, .nameAndType 45 179), (0, u "([CII)[B"), (31, u "([BB)V"), (122, u "()I"), (0, .methodref 10 336), (0, .nameAndType 17 337), (0, u "()B"), (25, u "([BI)C"), (27, u "(II)V"), (35, u "(I)C"), (35, u "toString"), (0, u "()Ljava/lang/String;"), (27, .methodref 10 493), (0, .nameAndType 494 142), (0, u "isLatin1"), (0, .methodref 107 496), (0, .nameAndType 497 363), (0, u "charAt"), (0, .methodref 42 496), (2, u "checkIndex"), (3, .methodref 10 506), (0, .nameAndType 507 334), (0, u "length"), (5, u "checkFromToIndex"), (7, .methodref 10 522), (0, .nameAndType 523 524), (0, u "checkBoundsBeginEnd"), (0, u "(III)V"), (50, .class_ 576), (0, u "java/lang/CharSequence"), (22, u "CASE_INSENSITIVE_ORDER"), (0, u "Ljava/util/Comparator;"), (80, .methodref 10 682), (0, .nameAndType 683 684), (0, u "substring"), (0, u "(II)Ljava/lang/String;"), (0, .methodref 107 686), (0, .nameAndType 687 688), (0, u "newString"), (0, u "([BII)Ljava/lang/String;"), (0, .methodref 42 686), (320, u "([C)V"), (42, .fieldref 1054 1055), (0, .class_ 1056), (0, .nameAndType 1057 1058), (0, u "jdk/internal/util/Preconditions"), (0, u "SIOOBE_FORMATTER"), (0, u "Ljava/util/function/BiFunction;"), (0, .methodref 1054 1060), (0, .nameAndType 501 1061), (0, u "(IILjava/util/function/BiFunction;)I"), (0, .methodref 1054 1063), (0, .nameAndType 513 1064), (0, u "(IIILjava/util/function/BiFunction;)I"), (0, .methodref 1054 1066), (0, .nameAndType 1067 1064), (0, u "checkFromIndexSize"), (33, u "serialPersistentFields"), (0, u "[Ljava/io/ObjectStreamField;"), (0, .class_ 1104), (0, u "java/lang/String$CaseInsensitiveComparator"), (1, .class_ 1107), (0, u "java/io/Serializable"), (0, .class_ 1109), (0, u "java/lang/Comparable"), (0, .class_ 1111), (0, u "java/lang/constant/Constable"), (0, .class_ 1113), (0, u "java/lang/constant/ConstantDesc"), (2, u "serialVersionUID"), (0, u "J"), (3, u "REPL"), (0, u "C"), (2, u "LATIN1"), (1, u "UTF16"), (157, u "subSequence"), (0, u "(II)Ljava/lang/CharSequence;")] 164

def k7m0 : Method := { name := "<init>", desc := "()V", sig := { parameters := [], returnType := none }, accessFlags := 1, code := none }
def k7c1 : Code := { maxStack := 5, maxLocals := 2, code := jdk_42_method_3_code, exceptionTable := #[], attributes := #[] }
def k7m1 : Method := { name := "<init>", desc := "([C)V", sig := { parameters := [(.array .char)], returnType := none }, accessFlags := 1, code := some k7c1 }
def k7c2 : Code := { maxStack := 2, maxLocals := 1, code := jdk_42_method_54_code, exceptionTable := #[], attributes := #[] }
def k7m2 : Method := { name := "length", desc := "()I", sig := { parameters := [], returnType := some .int }, accessFlags := 1, code := some k7c2 }
def k7c3 : Code := { maxStack := 2, maxLocals := 2, code := jdk_42_method_56_code, exceptionTable := #[], attributes := #[] }
def k7m3 : Method := { name := "charAt", desc := "(I)C", sig := { parameters := [.int], returnType := some .char }, accessFlags := 1, code := some k7c3 }
def k7c4 : Code := { maxStack := 3, maxLocals := 5, code := jdk_42_method_92_code, exceptionTable := #[], attributes := #[] }
def k7m4 : Method := { name := "substring", desc := "(II)Ljava/lang/String;", sig := { parameters := [.int, .int], returnType := some (.object "java/lang/String") }, accessFlags := 1, code := some k7c4 }
def k7c5 : Code := { maxStack := 3, maxLocals := 3, code := jdk_42_method_93_code, exceptionTable := #[], attributes := #[] }
def k7m5 : Method := { name := "subSequence", desc := "(II)Ljava/lang/CharSequence;", sig := { parameters := [.int, .int], returnType := some (.object "java/lang/CharSequence") }, accessFlags := 1, code := some k7c5 }
def k7c6 : Code := { maxStack := 1, maxLocals := 1, code := jdk_42_method_126_code, exceptionTable := #[], attributes := #[] }
def k7m6 : Method := { name := "toString", desc := "()Ljava/lang/String;", sig := { parameters := [], returnType := some (.object "java/lang/String") }, accessFlags := 1, code := some k7c6 }
def k7c7 : Code := { maxStack := 4, maxLocals := 6, code := jdk_42_method_149_code, exceptionTable := #[], attributes := #[] }
def k7m7 : Method := { name := "<init>", desc := "([CIILjava/lang/Void;)V", sig := { parameters := [(.array .char), .int, .int, (.object "java/lang/Void")], returnType := none }, accessFlags := 2, code := some k7c7 }
def k7c8 : Code := { maxStack := 2, maxLocals := 3, code := jdk_42_method_151_code, exceptionTable := #[], attributes := #[] }
def k7m8 : Method := { name := "<init>", desc := "([BB)V", sig := { parameters := [(.array .byte), .byte], returnType := none }, accessFlags := 0, code := some k7c8 }
def k7c9 : Code := { maxStack := 1, maxLocals := 1, code := jdk_42_method_152_code, exceptionTable := #[], attributes := #[] }
def k7m9 : Method := { name := "coder", desc := "()B", sig := { parameters := [], returnType := some .byte }, accessFlags := 0, code := some k7c9 }
def k7c10 : Code := { maxStack := 1, maxLocals := 1, code := jdk_42_method_154_code, exceptionTable := #[], attributes := #[] }
def k7m10 : Method := { name := "isLatin1", desc := "()Z", sig := { parameters := [], returnType := some .boolean }, accessFlags := 0, code := some k7c10 }
def k7c11 : Code := { maxStack := 3, maxLocals := 2, code := jdk_42_method_155_code, exceptionTable := #[], attributes := #[] }
def k7m11 : Method := { name := "checkIndex", desc := "(II)V", sig := { parameters := [.int, .int], returnType := none }, accessFlags := 8, code := some k7c11 }
def k7c12 : Code := { maxStack := 4, maxLocals := 3, code := jdk_42_method_157_code, exceptionTable := #[], attributes := #[] }
def k7m12 : Method := { name := "checkBoundsOffCount", desc := "(III)I", sig := { parameters := [.int, .int, .int], returnType := some .int }, accessFlags := 8, code := some k7c12 }
def k7c13 : Code := { maxStack := 4, maxLocals := 3, code := jdk_42_method_158_code, exceptionTable := #[], attributes := #[] }
def k7m13 : Method := { name := "checkBoundsBeginEnd", desc := "(III)V", sig := { parameters := [.int, .int, .int], returnType := none }, accessFlags := 8, code := some k7c13 }
/-- java/lang/String -/
def k7 : Class := { plain "java/lang/String" (some 0) with
  accessFlags := 49
  interfaces := #[2, 3, 4, 5, 6]
  cf := some (fileOf pool7 10 #[.nestMembers #[1103]] #[{ accessFlags := 1, nameIndex := 5, descriptorIndex := 6, attributes := #[] }, { accessFlags := 1, nameIndex := 5, descriptorIndex := 1010, attributes := #[] }, { accessFlags := 1, nameIndex := 507, descriptorIndex := 334, attributes := #[] }, { accessFlags := 1, nameIndex := 497, descriptorIndex := 427, attributes := #[] }, { accessFlags := 1, nameIndex := 683, descriptorIndex := 684, attributes := #[] }, { accessFlags := 1, nameIndex := 1285, descriptorIndex := 1286, attributes := #[] }, { accessFlags := 1, nameIndex := 463, descriptorIndex := 464, attributes := #[] }, { accessFlags := 2, nameIndex := 5, descriptorIndex := 29, attributes := #[] }, { accessFlags := 0, nameIndex := 5, descriptorIndex := 211, attributes := #[] }, { accessFlags := 0, nameIndex := 17, descriptorIndex := 337, attributes := #[] }, { accessFlags := 0, nameIndex := 494, descriptorIndex := 142, attributes := #[] }, { accessFlags := 8, nameIndex := 501, descriptorIndex := 391, attributes := #[] }, { accessFlags := 8, nameIndex := 36, descriptorIndex := 37, attributes := #[] }, { accessFlags := 8, nameIndex := 523, descriptorIndex := 524, attributes := #[] }] 49 2 #[1106, 1108, 575, 1110, 1112] #[{ accessFlags := 18, nameIndex := 13, descriptorIndex := 14, attributes := #[] }, { accessFlags := 18, nameIndex := 17, descriptorIndex := 18, attributes := #[] }, { accessFlags := 2, nameIndex := 21, descriptorIndex := 22, attributes := #[] }, { accessFlags := 2, nameIndex := 25, descriptorIndex := 26, attributes := #[] }, { accessFlags := 26, nameIndex := 1116, descriptorIndex := 1117, attributes := #[] }, { accessFlags := 24, nameIndex := 40, descriptorIndex := 26, attributes := #[] }, { accessFlags := 26, nameIndex := 1101, descriptorIndex := 1102, attributes := #[] }, { accessFlags := 26, nameIndex := 1121, descriptorIndex := 1122, attributes := #[] }, { accessFlags := 25, nameIndex := 599, descriptorIndex := 600, attributes := #[] }, { accessFlags := 24, nameIndex := 1125, descriptorIndex := 18, attributes := #[] }, { accessFlags := 24, nameIndex := 1127, descriptorIndex := 18, attributes := #[] }])
  fields := #[{ name := "value", type := (.array .byte), accessFlags := 18, slot := 0, constantValue := 0 }, { name := "coder", type := .byte, accessFlags := 18, slot := 1, constantValue := 0 }, { name := "hash", type := .int, accessFlags := 2, slot := 2, constantValue := 0 }, { name := "hashIsZero", type := .boolean, accessFlags := 2, slot := 3, constantValue := 0 }, { name := "serialVersionUID", type := .long, accessFlags := 26, slot := 0, constantValue := 0 }, { name := "COMPACT_STRINGS", type := .boolean, accessFlags := 24, slot := 1, constantValue := 0 }, { name := "serialPersistentFields", type := (.array (.object "java/io/ObjectStreamField")), accessFlags := 26, slot := 2, constantValue := 0 }, { name := "REPL", type := .char, accessFlags := 26, slot := 3, constantValue := 0 }, { name := "CASE_INSENSITIVE_ORDER", type := (.object "java/util/Comparator"), accessFlags := 25, slot := 4, constantValue := 0 }, { name := "LATIN1", type := .byte, accessFlags := 24, slot := 5, constantValue := 0 }, { name := "UTF16", type := .byte, accessFlags := 24, slot := 6, constantValue := 0 }]
  methods := #[k7m0, k7m1, k7m2, k7m3, k7m4, k7m5, k7m6, k7m7, k7m8, k7m9, k7m10, k7m11, k7m12, k7m13]
  instanceTypes := #[(.array .byte), .byte, .int, .boolean]
  staticTypes := #[.long, .boolean, (.array (.object "java/io/ObjectStreamField")), .char, (.object "java/util/Comparator"), .byte, .byte]
  resolved := Array.replicate 1451 none
  statics := some 0 }

def pool8 : Array CpInfo := pool [(3, .class_ 4), (0, u "java/lang/String"), (1, .class_ 8), (1, u "java/lang/Object"), (0, u "<init>"), (0, u "()V"), (0, .methodref 12 13), (0, .class_ 14), (0, .nameAndType 15 16), (0, u "java/lang/StringUTF16"), (0, u "newBytesLength"), (0, u "(I)I"), (3, .integer 1073741823), (23, .fieldref 12 45), (0, .nameAndType 46 47), (0, u "$assertionsDisabled"), (0, u "Z"), (0, .methodref 12 49), (0, .nameAndType 50 51), (0, u "length"), (0, u "([B)I"), (7, .fieldref 12 60), (0, .nameAndType 61 62), (0, u "HI_BYTE_SHIFT"), (0, u "I"), (0, .fieldref 12 64), (0, .nameAndType 65 62), (0, u "LO_BYTE_SHIFT"), (1, .methodref 12 68), (0, .nameAndType 69 70), (0, u "checkIndex"), (0, u "(I[B)V"), (0, .methodref 12 72), (0, .nameAndType 73 74), (0, u "getChar"), (0, u "([BI)C"), (24, u "(II[B)V"), (7, .methodref 12 108), (0, .nameAndType 109 110), (0, u "newBytesFor"), (0, u "(I)[B"), (0, .methodref 12 112), (0, .nameAndType 113 114), (0, u "putChar"), (0, u "([BII)V"), (0, .methodref 12 116), (0, .nameAndType 117 118), (0, u "compress"), (0, u "([CI[BII)I"), (0, .methodref 12 120), (0, .nameAndType 121 122), (0, u "toBytes"), (0, u "([CII)[B"), (0, .methodref 12 124), (0, .nameAndType 117 125), (0, u "([BI[BII)I"), (0, .methodref 127 128), (0, .class_ 129), (0, .nameAndType 130 131), (0, u "java/util/Arrays"), (0, u "copyOfRange"), (0, u "([BII)[B"), (41, .methodref 12 174), (0, .nameAndType 175 99), (0, u "checkBoundsOffCount"), (75, .fieldref 3 252), (0, .nameAndType 253 47), (0, u "COMPACT_STRINGS"), (3, .methodref 12 258), (0, .nameAndType 117 131), (0, .methodref 12 260), (0, .nameAndType 261 262), (0, u "coderFromArrayLen"), (0, u "([BI)B"), (0, .methodref 3 264), (0, .nameAndType 9 265), (0, u "([BB)V"), (15, u "(III)I"), (13, .string 296), (0, u ""), (30, u "newString"), (0, u "([BII)Ljava/lang/String;"), (40, .class_ 371), (1, u "java/lang/StringUTF16$LinesSpliterator"), (20, u "charAt"), (21, .methodref 3 415), (0, .nameAndType 69 416), (0, u "(II)V"), (2, .methodref 3 420), (0, .nameAndType 175 281), (9, u "MAX_LENGTH"), (196, .class_ 628), (0, u "java/lang/StringUTF16$CodePointsSpliterator"), (0, .class_ 630), (0, u "java/lang/StringUTF16$CharsSpliterator")] 4

def k8m0 : Method := { name := "<init>", desc := "()V", sig := { parameters := [], returnType := none }, accessFlags := 0, code := none }
def k8c1 : Code := { maxStack := 1, maxLocals := 1, code := jdk_52_method_2_code, exceptionTable := #[], attributes := #[] }
def k8m1 : Method := { name := "newBytesFor", desc := "(I)[B", sig := { parameters := [.int], returnType := some (.array .byte) }, accessFlags := 9, code := some k8c1 }
def k8c2 : Code := { maxStack := 4, maxLocals := 1, code := jdk_52_method_3_code, exceptionTable := #[], attributes := #[] }
def k8m2 : Method := { name := "newBytesLength", desc := "(I)I", sig := { parameters := [.int], returnType := some .int }, accessFlags := 9, code := some k8c2 }
def k8c3 : Code := { maxStack := 4, maxLocals := 3, code := jdk_52_method_4_code, exceptionTable := #[], attributes := #[] }
def k8m3 : Method := { name := "putChar", desc := "([BII)V", sig := { parameters := [(.array .byte), .int, .int], returnType := none }, accessFlags := 8, code := some k8c3 }
def k8c4 : Code := { maxStack := 3, maxLocals := 2, code := jdk_52_method_5_code, exceptionTable := #[], attributes := #[] }
def k8m4 : Method := { name := "getChar", desc := "([BI)C", sig := { parameters := [(.array .byte), .int], returnType := some .char }, accessFlags := 8, code := some k8c4 }
def k8c5 : Code := { maxStack := 2, maxLocals := 1, code := jdk_52_method_6_code, exceptionTable := #[], attributes := #[] }
def k8m5 : Method := { name := "length", desc := "([B)I", sig := { parameters := [(.array .byte)], returnType := some .int }, accessFlags := 9, code := some k8c5 }
def k8c6 : Code := { maxStack := 4, maxLocals := 5, code := jdk_52_method_14_code, exceptionTable := #[], attributes := #[] }
def k8m6 : Method := { name := "toBytes", desc := "([CII)[B", sig := { parameters := [(.array .char), .int, .int], returnType := some (.array .byte) }, accessFlags := 9, code := some k8c6 }
def k8c7 : Code := { maxStack := 2, maxLocals := 2, code := jdk_52_method_15_code, exceptionTable := #[], attributes := #[] }
def k8m7 : Method := { name := "coderFromArrayLen", desc := "([BI)B", sig := { parameters := [(.array .byte), .int], returnType := some .byte }, accessFlags := 8, code := some k8c7 }
def k8c8 : Code := { maxStack := 5, maxLocals := 6, code := jdk_52_method_16_code, exceptionTable := #[], attributes := #[] }
def k8m8 : Method := { name := "compress", desc := "([CII)[B", sig := { parameters := [(.array .char), .int, .int], returnType := some (.array .byte) }, accessFlags := 9, code := some k8c8 }
def k8c9 : Code := { maxStack := 5, maxLocals := 6, code := jdk_52_method_17_code, exceptionTable := #[], attributes := #[] }
def k8m9 : Method := { name := "compress", desc := "([BII)[B", sig := { parameters := [(.array .byte), .int, .int], returnType := some (.array .byte) }, accessFlags := 9, code := some k8c9 }
def k8c10 : Code := { maxStack := 3, maxLocals := 7, code := jdk_52_method_21_code, exceptionTable := #[], attributes := #[] }
def k8m10 : Method := { name := "compress", desc := "([CI[BII)I", sig := { parameters := [(.array .char), .int, (.array .byte), .int, .int], returnType := some .int }, accessFlags := 9, code := some k8c10 }
def k8c11 : Code := { maxStack := 3, maxLocals := 7, code := jdk_52_method_22_code, exceptionTable := #[], attributes := #[] }
def k8m11 : Method := { name := "compress", desc := "([BI[BII)I", sig := { parameters := [(.array .byte), .int, (.array .byte), .int, .int], returnType := some .int }, accessFlags := 9, code := some k8c11 }
def k8c12 : Code := { maxStack := 6, maxLocals := 5, code := jdk_52_method_69_code, exceptionTable := #[], attributes := #[] }
def k8m12 : Method := { name := "newString", desc := "([BII)Ljava/lang/String;", sig := { parameters := [(.array .byte), .int, .int], returnType := some (.object "java/lang/String") }, accessFlags := 9, code := some k8c12 }
def k8c13 : Code := { maxStack := 2, maxLocals := 2, code := jdk_52_method_83_code, exceptionTable := #[], attributes := #[] }
def k8m13 : Method := { name := "charAt", desc := "([BI)C", sig := { parameters := [(.array .byte), .int], returnType := some .char }, accessFlags := 9, code := some k8c13 }
def k8c14 : Code := { maxStack := 2, maxLocals := 2, code := jdk_52_method_91_code, exceptionTable := #[], attributes := #[] }
def k8m14 : Method := { name := "checkIndex", desc := "(I[B)V", sig := { parameters := [.int, (.array .byte)], returnType := none }, accessFlags := 9, code := some k8c14 }
def k8c15 : Code := { maxStack := 3, maxLocals := 3, code := jdk_52_method_94_code, exceptionTable := #[], attributes := #[] }
def k8m15 : Method := { name := "checkBoundsOffCount", desc := "(II[B)V", sig := { parameters := [.int, .int, (.array .byte)], returnType := none }, accessFlags := 9, code := some k8c15 }
/-- java/lang/StringUTF16 -/
def k8 : Class := { plain "java/lang/StringUTF16" (some 0) with
  accessFlags := 48
  interfaces := #[]
  cf := some (fileOf pool8 12 #[.nestMembers #[627, 629, 369]] #[{ accessFlags := 0, nameIndex := 9, descriptorIndex := 10, attributes := #[] }, { accessFlags := 9, nameIndex := 109, descriptorIndex := 110, attributes := #[] }, { accessFlags := 9, nameIndex := 15, descriptorIndex := 16, attributes := #[] }, { accessFlags := 8, nameIndex := 113, descriptorIndex := 114, attributes := #[] }, { accessFlags := 8, nameIndex := 73, descriptorIndex := 74, attributes := #[] }, { accessFlags := 9, nameIndex := 50, descriptorIndex := 51, attributes := #[] }, { accessFlags := 9, nameIndex := 121, descriptorIndex := 122, attributes := #[] }, { accessFlags := 8, nameIndex := 261, descriptorIndex := 262, attributes := #[] }, { accessFlags := 9, nameIndex := 117, descriptorIndex := 122, attributes := #[] }, { accessFlags := 9, nameIndex := 117, descriptorIndex := 131, attributes := #[] }, { accessFlags := 9, nameIndex := 117, descriptorIndex := 118, attributes := #[] }, { accessFlags := 9, nameIndex := 117, descriptorIndex := 125, attributes := #[] }, { accessFlags := 9, nameIndex := 327, descriptorIndex := 328, attributes := #[] }, { accessFlags := 9, nameIndex := 392, descriptorIndex := 74, attributes := #[] }, { accessFlags := 9, nameIndex := 69, descriptorIndex := 70, attributes := #[] }, { accessFlags := 9, nameIndex := 175, descriptorIndex := 99, attributes := #[] }] 48 6 #[] #[{ accessFlags := 26, nameIndex := 61, descriptorIndex := 62, attributes := #[] }, { accessFlags := 26, nameIndex := 65, descriptorIndex := 62, attributes := #[] }, { accessFlags := 24, nameIndex := 430, descriptorIndex := 62, attributes := #[] }, { accessFlags := 4120, nameIndex := 46, descriptorIndex := 47, attributes := #[] }])
  fields := #[{ name := "HI_BYTE_SHIFT", type := .int, accessFlags := 26, slot := 0, constantValue := 0 }, { name := "LO_BYTE_SHIFT", type := .int, accessFlags := 26, slot := 1, constantValue := 0 }, { name := "MAX_LENGTH", type := .int, accessFlags := 24, slot := 2, constantValue := 0 }, { name := "$assertionsDisabled", type := .boolean, accessFlags := 4120, slot := 3, constantValue := 0 }]
  methods := #[k8m0, k8m1, k8m2, k8m3, k8m4, k8m5, k8m6, k8m7, k8m8, k8m9, k8m10, k8m11, k8m12, k8m13, k8m14, k8m15]
  instanceTypes := #[]
  staticTypes := #[.int, .int, .int, .boolean]
  resolved := Array.replicate 635 none
  statics := some 1 }

def pool9 : Array CpInfo := pool [(1, .string 2), (0, u ""), (0, .methodref 4 5), (0, .class_ 6), (0, .nameAndType 7 8), (0, u "com/example/bufferwright/bufferwright/text/Word"), (0, u "<init>"), (0, u "(Ljava/lang/String;I)V"), (0, .methodref 10 11), (0, .class_ 12), (0, .nameAndType 7 13), (0, u "java/lang/Object"), (0, u "()V"), (0, .fieldref 4 15), (0, .nameAndType 16 17), (0, u "chars"), (0, u "Ljava/lang/CharSequence;"), (0, .methodref 19 20), (0, .class_ 21), (0, .nameAndType 22 23), (0, u "java/lang/String"), (0, u "length"), (0, u "()I"), (0, .fieldref 4 25), (0, .nameAndType 22 26), (0, u "I"), (0, .fieldref 4 28), (0, .nameAndType 29 26), (0, u "hash"), (0, .fieldref 4 31), (0, .nameAndType 32 26), (0, u "start"), (2, u "hashCode"), (1, .nameAndType 38 39), (0, u "toString"), (0, u "()Ljava/lang/String;"), (1, .class_ 43), (1, u "java/lang/CharSequence"), (9, .interfaceMethodref 41 54), (0, .nameAndType 55 56), (0, u "subSequence"), (0, u "(II)Ljava/lang/CharSequence;"), (0, .interfaceMethodref 41 37), (4, .class_ 63), (0, u "java/lang/Comparable"), (2, u "moveTo"), (0, u "(Ljava/lang/CharSequence;III)V")] 13

def k9c0 : Code := { maxStack := 3, maxLocals := 1, code := prog_29_method_1_code, exceptionTable := #[], attributes := #[] }
def k9m0 : Method := { name := "<init>", desc := "()V", sig := { parameters := [], returnType := none }, accessFlags := 0, code := some k9c0 }
def k9c1 : Code := { maxStack := 2, maxLocals := 3, code := prog_29_method_2_code, exceptionTable := #[], attributes := #[] }
def k9m1 : Method := { name := "<init>", desc := "(Ljava/lang/String;I)V", sig := { parameters := [(.object "java/lang/String"), .int], returnType := none }, accessFlags := 2, code := some k9c1 }
def k9c2 : Code := { maxStack := 2, maxLocals := 5, code := prog_29_method_3_code, exceptionTable := #[], attributes := #[] }
def k9m2 : Method := { name := "moveTo", desc := "(Ljava/lang/CharSequence;III)V", sig := { parameters := [(.object "java/lang/CharSequence"), .int, .int, .int], returnType := none }, accessFlags := 0, code := some k9c2 }
def k9c3 : Code := { maxStack := 1, maxLocals := 1, code := prog_29_method_8_code, exceptionTable := #[], attributes := #[] }
def k9m3 : Method := { name := "hashCode", desc := "()I", sig := { parameters := [], returnType := some .int }, accessFlags := 1, code := some k9c3 }
def k9c4 : Code := { maxStack := 4, maxLocals := 1, code := prog_29_method_10_code, exceptionTable := #[], attributes := #[] }
def k9m4 : Method := { name := "toString", desc := "()Ljava/lang/String;", sig := { parameters := [], returnType := some (.object "java/lang/String") }, accessFlags := 1, code := some k9c4 }
/-- com/example/bufferwright/bufferwright/text/Word -/
def k9 : Class := { plain "com/example/bufferwright/bufferwright/text/Word" (some 0) with
  accessFlags := 48
  interfaces := #[3]
  cf := some (fileOf pool9 4 #[] #[{ accessFlags := 0, nameIndex := 7, descriptorIndex := 13, attributes := #[] }, { accessFlags := 2, nameIndex := 7, descriptorIndex := 8, attributes := #[] }, { accessFlags := 0, nameIndex := 66, descriptorIndex := 67, attributes := #[] }, { accessFlags := 1, nameIndex := 35, descriptorIndex := 23, attributes := #[] }, { accessFlags := 1, nameIndex := 38, descriptorIndex := 39, attributes := #[] }] 48 10 #[62] #[{ accessFlags := 2, nameIndex := 16, descriptorIndex := 17, attributes := #[] }, { accessFlags := 2, nameIndex := 32, descriptorIndex := 26, attributes := #[] }, { accessFlags := 2, nameIndex := 22, descriptorIndex := 26, attributes := #[] }, { accessFlags := 2, nameIndex := 29, descriptorIndex := 26, attributes := #[] }])
  fields := #[{ name := "chars", type := (.object "java/lang/CharSequence"), accessFlags := 2, slot := 0, constantValue := 0 }, { name := "start", type := .int, accessFlags := 2, slot := 1, constantValue := 0 }, { name := "length", type := .int, accessFlags := 2, slot := 2, constantValue := 0 }, { name := "hash", type := .int, accessFlags := 2, slot := 3, constantValue := 0 }]
  methods := #[k9m0, k9m1, k9m2, k9m3, k9m4]
  instanceTypes := #[(.object "java/lang/CharSequence"), .int, .int, .int]
  staticTypes := #[]
  resolved := Array.replicate 81 none
  statics := none }

def pool10 : Array CpInfo := pool [(2, .class_ 4), (1, u "java/lang/Object"), (0, u "<init>"), (0, u "()V"), (17, .class_ 26), (1, u "jdk/internal/util/Preconditions"), (6, u "checkIndex"), (13, u "checkFromToIndex"), (1, u "checkFromIndexSize"), (5, .class_ 56), (0, u "jdk/internal/util/Preconditions$4"), (57, .class_ 115), (0, u "jdk/internal/util/Preconditions$1"), (7, u "SIOOBE_FORMATTER"), (0, u "Ljava/util/function/BiFunction;"), (0, .class_ 126), (0, u "jdk/internal/util/Preconditions$2"), (3, u "AIOOBE_FORMATTER"), (0, .class_ 132), (0, u "jdk/internal/util/Preconditions$3"), (3, u "IOOBE_FORMATTER"), (41, u "(IILjava/util/function/BiFunction;)I"), (4, u "(IIILjava/util/function/BiFunction;)I")] 10

def k10m0 : Method := { name := "<init>", desc := "()V", sig := { parameters := [], returnType := none }, accessFlags := 1, code := none }
def k10c1 : Code := { maxStack := 3, maxLocals := 3, code := jdk_41_method_11_code, exceptionTable := #[], attributes := #[] }
def k10m1 : Method := { name := "checkIndex", desc := "(IILjava/util/function/BiFunction;)I", sig := { parameters := [.int, .int, (.object "java/util/function/BiFunction")], returnType := some .int }, accessFlags := 9, code := some k10c1 }
def k10c2 : Code := { maxStack := 4, maxLocals := 4, code := jdk_41_method_12_code, exceptionTable := #[], attributes := #[] }
def k10m2 : Method := { name := "checkFromToIndex", desc := "(IIILjava/util/function/BiFunction;)I", sig := { parameters := [.int, .int, .int, (.object "java/util/function/BiFunction")], returnType := some .int }, accessFlags := 9, code := some k10c2 }
def k10c3 : Code := { maxStack := 4, maxLocals := 4, code := jdk_41_method_13_code, exceptionTable := #[], attributes := #[] }
def k10m3 : Method := { name := "checkFromIndexSize", desc := "(IIILjava/util/function/BiFunction;)I", sig := { parameters := [.int, .int, .int, (.object "java/util/function/BiFunction")], returnType := some .int }, accessFlags := 9, code := some k10c3 }
/-- jdk/internal/util/Preconditions -/
def k10 : Class := { plain "jdk/internal/util/Preconditions" (some 0) with
  accessFlags := 33
  interfaces := #[]
  cf := some (fileOf pool10 24 #[.nestMembers #[55, 131, 125, 114]] #[{ accessFlags := 1, nameIndex := 5, descriptorIndex := 6, attributes := #[] }, { accessFlags := 9, nameIndex := 33, descriptorIndex := 178, attributes := #[] }, { accessFlags := 9, nameIndex := 47, descriptorIndex := 183, attributes := #[] }, { accessFlags := 9, nameIndex := 49, descriptorIndex := 183, attributes := #[] }] 33 2 #[] #[{ accessFlags := 25, nameIndex := 123, descriptorIndex := 124, attributes := #[] }, { accessFlags := 25, nameIndex := 130, descriptorIndex := 124, attributes := #[] }, { accessFlags := 25, nameIndex := 136, descriptorIndex := 124, attributes := #[] }])
  fields := #[{ name := "SIOOBE_FORMATTER", type := (.object "java/util/function/BiFunction"), accessFlags := 25, slot := 0, constantValue := 0 }, { name := "AIOOBE_FORMATTER", type := (.object "java/util/function/BiFunction"), accessFlags := 25, slot := 1, constantValue := 0 }, { name := "IOOBE_FORMATTER", type := (.object "java/util/function/BiFunction"), accessFlags := 25, slot := 2, constantValue := 0 }]
  methods := #[k10m0, k10m1, k10m2, k10m3]
  instanceTypes := #[]
  staticTypes := #[(.object "java/util/function/BiFunction"), (.object "java/util/function/BiFunction"), (.object "java/util/function/BiFunction")]
  resolved := Array.replicate 194 none
  statics := some 2 }

def pool11 : Array CpInfo := pool [(1, .class_ 2), (0, u "java/lang/String"), (1, .class_ 6), (1, u "java/lang/Object"), (0, u "<init>"), (0, u "()V"), (0, .methodref 1 10), (0, .nameAndType 11 12), (0, u "checkIndex"), (0, u "(II)V"), (1, .class_ 16), (1, u "java/lang/StringLatin1"), (36, u "([BI)C"), (58, .methodref 1 113), (0, .nameAndType 7 114), (0, u "([BB)V"), (6, u "$assertionsDisabled"), (0, u "Z"), (8, .class_ 133), (1, u "java/util/Arrays"), (17, .string 152), (0, u ""), (43, u "newString"), (0, u "([BII)Ljava/lang/String;"), (23, .class_ 223), (1, u "java/lang/StringLatin1$LinesSpliterator"), (8, .methodref 131 233), (0, .nameAndType 234 235), (0, u "copyOfRange"), (0, u "([BII)[B"), (16, u "charAt"), (137, .class_ 391), (0, u "java/lang/StringLatin1$CharsSpliterator")] 3

def k11m0 : Method := { name := "<init>", desc := "()V", sig := { parameters := [], returnType := none }, accessFlags := 0, code := none }
def k11c1 : Code := { maxStack := 2, maxLocals := 2, code := jdk_43_method_2_code, exceptionTable := #[], attributes := #[] }
def k11m1 : Method := { name := "charAt", desc := "([BI)C", sig := { parameters := [(.array .byte), .int], returnType := some .char }, accessFlags := 9, code := some k11c1 }
def k11c2 : Code := { maxStack := 6, maxLocals := 3, code := jdk_43_method_47_code, exceptionTable := #[], attributes := #[] }
def k11m2 : Method := { name := "newString", desc := "([BII)Ljava/lang/String;", sig := { parameters := [(.array .byte), .int, .int], returnType := some (.object "java/lang/String") }, accessFlags := 9, code := some k11c2 }
/-- java/lang/StringLatin1 -/
def k11 : Class := { plain "java/lang/StringLatin1" (some 0) with
  accessFlags := 48
  interfaces := #[]
  cf := some (fileOf pool11 14 #[.nestMembers #[390, 221]] #[{ accessFlags := 0, nameIndex := 7, descriptorIndex := 8, attributes := #[] }, { accessFlags := 9, nameIndex := 252, descriptorIndex := 53, attributes := #[] }, { accessFlags := 9, nameIndex := 196, descriptorIndex := 197, attributes := #[] }] 48 4 #[] #[{ accessFlags := 4120, nameIndex := 121, descriptorIndex := 122, attributes := #[] }])
  fields := #[{ name := "$assertionsDisabled", type := .boolean, accessFlags := 4120, slot := 0, constantValue := 0 }]
  methods := #[k11m0, k11m1, k11m2]
  instanceTypes := #[]
  staticTypes := #[.boolean]
  resolved := Array.replicate 395 none
  statics := none }

def pool12 : Array CpInfo := pool [(2, .class_ 4), (1, u "java/lang/Object"), (0, u "<init>"), (0, u "()V"), (7, .class_ 16), (1, u "java/util/Arrays"), (57, .class_ 76), (1, u "java/util/Arrays$NaturalOrder"), (36, .class_ 115), (1, u "java/util/Arrays$LegacyMergeSort"), (1, u "Z"), (21, u "copyOfRange"), (10, .methodref 151 152), (0, .class_ 153), (0, .nameAndType 154 155), (0, u "java/lang/System"), (0, u "arraycopy"), (0, u "(Ljava/lang/Object;ILjava/lang/Object;II)V"), (148, .methodref 305 306), (0, .class_ 307), (0, .nameAndType 308 309), (0, u "java/lang/Math"), (0, u "min"), (0, u "(II)I"), (29, .methodref 14 340), (0, .nameAndType 341 342), (0, u "copyOfRangeByte"), (0, u "([BII)[B"), (0, .methodref 14 344), (0, .nameAndType 345 346), (0, u "checkLength"), (0, u "(II)V"), (28, .class_ 376), (0, u "java/util/Arrays$ArrayList"), (68, u "$assertionsDisabled"), (269, u "MIN_ARRAY_SORT_GRAN"), (0, u "I"), (2, u "INSERTIONSORT_THRESHOLD"), (255, .class_ 976), (0, u "java/util/Arrays$ArrayItr")] 52

def k12m0 : Method := { name := "<init>", desc := "()V", sig := { parameters := [], returnType := none }, accessFlags := 2, code := none }
def k12c1 : Code := { maxStack := 4, maxLocals := 2, code := jdk_65_method_131_code, exceptionTable := #[], attributes := #[] }
def k12m1 : Method := { name := "checkLength", desc := "(II)V", sig := { parameters := [.int, .int], returnType := none }, accessFlags := 10, code := some k12c1 }
def k12c2 : Code := { maxStack := 3, maxLocals := 3, code := jdk_65_method_132_code, exceptionTable := #[], attributes := #[] }
def k12m2 : Method := { name := "copyOfRange", desc := "([BII)[B", sig := { parameters := [(.array .byte), .int, .int], returnType := some (.array .byte) }, accessFlags := 9, code := some k12c2 }
def k12c3 : Code := { maxStack := 6, maxLocals := 5, code := jdk_65_method_133_code, exceptionTable := #[], attributes := #[] }
def k12m3 : Method := { name := "copyOfRangeByte", desc := "([BII)[B", sig := { parameters := [(.array .byte), .int, .int], returnType := some (.array .byte) }, accessFlags := 10, code := some k12c3 }
/-- java/util/Arrays -/
def k12 : Class := { plain "java/util/Arrays" (some 0) with
  accessFlags := 49
  interfaces := #[]
  cf := some (fileOf pool12 14 #[.nestMembers #[975, 375, 113, 74]] #[{ accessFlags := 2, nameIndex := 5, descriptorIndex := 6, attributes := #[] }, { accessFlags := 10, nameIndex := 345, descriptorIndex := 346, attributes := #[] }, { accessFlags := 9, nameIndex := 139, descriptorIndex := 342, attributes := #[] }, { accessFlags := 10, nameIndex := 341, descriptorIndex := 342, attributes := #[] }] 49 2 #[] #[{ accessFlags := 26, nameIndex := 715, descriptorIndex := 716, attributes := #[] }, { accessFlags := 26, nameIndex := 719, descriptorIndex := 716, attributes := #[] }, { accessFlags := 4120, nameIndex := 445, descriptorIndex := 117, attributes := #[] }])
  fields := #[{ name := "MIN_ARRAY_SORT_GRAN", type := .int, accessFlags := 26, slot := 0, constantValue := 0 }, { name := "INSERTIONSORT_THRESHOLD", type := .int, accessFlags := 26, slot := 1, constantValue := 0 }, { name := "$assertionsDisabled", type := .boolean, accessFlags := 4120, slot := 2, constantValue := 0 }]
  methods := #[k12m0, k12m1, k12m2, k12m3]
  instanceTypes := #[]
  staticTypes := #[.int, .int, .boolean]
  resolved := Array.replicate 1029 none
  statics := none }

def pool13 : Array CpInfo := pool [(1, .class_ 2), (0, u "java/lang/Math"), (1, .class_ 6), (1, u "java/lang/Object"), (0, u "<init>"), (0, u "()V"), (89, .class_ 100), (1, u "java/lang/Math$RandomNumberGeneratorHolder"), (71, u "negativeZeroFloatBits"), (0, u "J"), (2, u "negativeZeroDoubleBits"), (24, u "min"), (43, u "$assertionsDisabled"), (0, u "Z"), (88, u "(II)I"), (2, u "twoToTheDoubleScaleDown"), (0, u "D"), (4, u "twoToTheDoubleScaleUp"), (9, u "E"), (3, u "PI"), (2, u "TAU"), (2, u "DEGREES_TO_RADIANS"), (0, u "RADIANS_TO_DEGREES")] 94

def k13m0 : Method := { name := "<init>", desc := "()V", sig := { parameters := [], returnType := none }, accessFlags := 2, code := none }
def k13c1 : Code := { maxStack := 2, maxLocals := 2, code := jdk_29_method_69_code, exceptionTable := #[], attributes := #[] }
def k13m1 : Method := { name := "min", desc := "(II)I", sig := { parameters := [.int, .int], returnType := some .int }, accessFlags := 9, code := some k13c1 }
/-- java/lang/Math -/
def k13 : Class := { plain "java/lang/Math" (some 0) with
  accessFlags := 49
  interfaces := #[]
  cf := some (fileOf pool13 1 #[.nestMembers #[98]] #[{ accessFlags := 2, nameIndex := 7, descriptorIndex := 8, attributes := #[] }, { accessFlags := 9, nameIndex := 201, descriptorIndex := 335, attributes := #[] }] 49 4 #[] #[{ accessFlags := 25, nameIndex := 354, descriptorIndex := 339, attributes := #[] }, { accessFlags := 25, nameIndex := 358, descriptorIndex := 339, attributes := #[] }, { accessFlags := 25, nameIndex := 361, descriptorIndex := 339, attributes := #[] }, { accessFlags := 26, nameIndex := 364, descriptorIndex := 339, attributes := #[] }, { accessFlags := 26, nameIndex := 365, descriptorIndex := 339, attributes := #[] }, { accessFlags := 26, nameIndex := 172, descriptorIndex := 173, attributes := #[] }, { accessFlags := 26, nameIndex := 176, descriptorIndex := 173, attributes := #[] }, { accessFlags := 8, nameIndex := 344, descriptorIndex := 339, attributes := #[] }, { accessFlags := 8, nameIndex := 338, descriptorIndex := 339, attributes := #[] }, { accessFlags := 4120, nameIndex := 245, descriptorIndex := 246, attributes := #[] }])
  fields := #[{ name := "E", type := .double, accessFlags := 25, slot := 0, constantValue := 0 }, { name := "PI", type := .double, accessFlags := 25, slot := 1, constantValue := 0 }, { name := "TAU", type := .double, accessFlags := 25, slot := 2, constantValue := 0 }, { name := "DEGREES_TO_RADIANS", type := .double, accessFlags := 26, slot := 3, constantValue := 0 }, { name := "RADIANS_TO_DEGREES", type := .double, accessFlags := 26, slot := 4, constantValue := 0 }, { name := "negativeZeroFloatBits", type := .long, accessFlags := 26, slot := 5, constantValue := 0 }, { name := "negativeZeroDoubleBits", type := .long, accessFlags := 26, slot := 6, constantValue := 0 }, { name := "twoToTheDoubleScaleUp", type := .double, accessFlags := 8, slot := 7, constantValue := 0 }, { name := "twoToTheDoubleScaleDown", type := .double, accessFlags := 8, slot := 8, constantValue := 0 }, { name := "$assertionsDisabled", type := .boolean, accessFlags := 4120, slot := 9, constantValue := 0 }]
  methods := #[k13m0, k13m1]
  instanceTypes := #[]
  staticTypes := #[.double, .double, .double, .double, .double, .long, .long, .double, .double, .boolean]
  resolved := Array.replicate 460 none
  statics := none }

def pool14 : Array CpInfo := pool [(2, .class_ 4), (1, u "java/lang/Object"), (0, u "<init>"), (0, u "()V"), (1, .class_ 10), (1, u "java/lang/System"), (0, u "allowSecurityManager"), (0, u "I"), (16, u "cons"), (0, u "Ljava/io/Console;"), (77, .class_ 110), (1, u "java/lang/System$CallersHolder"), (43, u "initialErrStream"), (0, u "Ljava/io/PrintStream;"), (19, u "security"), (0, u "Ljava/lang/SecurityManager;"), (31, .class_ 209), (0, u "java/lang/System$1"), (7, u "props"), (0, u "Ljava/util/Properties;"), (2, u "lineSeparator"), (0, u "Ljava/lang/String;"), (96, .class_ 321), (1, u "java/lang/System$LoggerFinder"), (5, .class_ 328), (0, u "java/lang/System$Logger"), (67, u "err"), (2, u "out"), (91, u "notSupportedJnuEncoding"), (15, u "in"), (17, u "initialIn"), (0, u "Ljava/io/InputStream;"), (35, u "bootLayer"), (0, u "Ljava/lang/ModuleLayer;"), (99, .class_ 664), (0, u "java/lang/System$2"), (9, u "NEVER"), (2, u "MAYBE"), (49, u "arraycopy"), (0, u "(Ljava/lang/Object;ILjava/lang/Object;II)V"), (72, .class_ 802), (0, u "java/lang/System$Logger$Level")] 31

def k14m0 : Method := { name := "<init>", desc := "()V", sig := { parameters := [], returnType := none }, accessFlags := 2, code := none }
def k14m1 : Method := { name := "arraycopy", desc := "(Ljava/lang/Object;ILjava/lang/Object;II)V", sig := { parameters := [(.object "java/lang/Object"), .int, (.object "java/lang/Object"), .int, .int], returnType := none }, accessFlags := 265, code := none }
/-- java/lang/System -/
def k14 : Class := { plain "java/lang/System" (some 0) with
  accessFlags := 49
  interfaces := #[]
  cf := some (fileOf pool14 8 #[.nestMembers #[319, 327, 801, 108, 663, 208]] #[{ accessFlags := 2, nameIndex := 5, descriptorIndex := 6, attributes := #[] }, { accessFlags := 265, nameIndex := 727, descriptorIndex := 728, attributes := #[] }] 49 2 #[] #[{ accessFlags := 25, nameIndex := 507, descriptorIndex := 526, attributes := #[] }, { accessFlags := 25, nameIndex := 399, descriptorIndex := 155, attributes := #[] }, { accessFlags := 25, nameIndex := 396, descriptorIndex := 155, attributes := #[] }, { accessFlags := 10, nameIndex := 525, descriptorIndex := 526, attributes := #[] }, { accessFlags := 26, nameIndex := 674, descriptorIndex := 12, attributes := #[] }, { accessFlags := 26, nameIndex := 677, descriptorIndex := 12, attributes := #[] }, { accessFlags := 10, nameIndex := 11, descriptorIndex := 12, attributes := #[] }, { accessFlags := 74, nameIndex := 175, descriptorIndex := 176, attributes := #[] }, { accessFlags := 10, nameIndex := 491, descriptorIndex := 222, attributes := #[] }, { accessFlags := 74, nameIndex := 29, descriptorIndex := 30, attributes := #[] }, { accessFlags := 74, nameIndex := 154, descriptorIndex := 155, attributes := #[] }, { accessFlags := 10, nameIndex := 217, descriptorIndex := 218, attributes := #[] }, { accessFlags := 10, nameIndex := 221, descriptorIndex := 222, attributes := #[] }, { accessFlags := 8, nameIndex := 562, descriptorIndex := 563, attributes := #[] }])
  fields := #[{ name := "in", type := (.object "java/io/InputStream"), accessFlags := 25, slot := 0, constantValue := 0 }, { name := "out", type := (.object "java/io/PrintStream"), accessFlags := 25, slot := 1, constantValue := 0 }, { name := "err", type := (.object "java/io/PrintStream"), accessFlags := 25, slot := 2, constantValue := 0 }, { name := "initialIn", type := (.object "java/io/InputStream"), accessFlags := 10, slot := 3, constantValue := 0 }, { name := "NEVER", type := .int, accessFlags := 26, slot := 4, constantValue := 0 }, { name := "MAYBE", type := .int, accessFlags := 26, slot := 5, constantValue := 0 }, { name := "allowSecurityManager", type := .int, accessFlags := 10, slot := 6, constantValue := 0 }, { name := "security", type := (.object "java/lang/SecurityManager"), accessFlags := 74, slot := 7, constantValue := 0 }, { name := "notSupportedJnuEncoding", type := (.object "java/lang/String"), accessFlags := 10, slot := 8, constantValue := 0 }, { name := "cons", type := (.object "java/io/Console"), accessFlags := 74, slot := 9, constantValue := 0 }, { name := "initialErrStream", type := (.object "java/io/PrintStream"), accessFlags := 74, slot := 10, constantValue := 0 }, { name := "props", type := (.object "java/util/Properties"), accessFlags := 10, slot := 11, constantValue := 0 }, { name := "lineSeparator", type := (.object "java/lang/String"), accessFlags := 10, slot := 12, constantValue := 0 }, { name := "bootLayer", type := (.object "java/lang/ModuleLayer"), accessFlags := 8, slot := 13, constantValue := 0 }]
  methods := #[k14m0, k14m1]
  instanceTypes := #[]
  staticTypes := #[(.object "java/io/InputStream"), (.object "java/io/PrintStream"), (.object "java/io/PrintStream"), (.object "java/io/InputStream"), .int, .int, .int, (.object "java/lang/SecurityManager"), (.object "java/lang/String"), (.object "java/io/Console"), (.object "java/io/PrintStream"), (.object "java/util/Properties"), (.object "java/lang/String"), (.object "java/lang/ModuleLayer")]
  resolved := Array.replicate 834 none
  statics := none }

def pool15 : Array CpInfo := pool [(9, u "<init>"), (6, .class_ 18), (1, u "java/lang/Object"), (0, u "()V"), (1, .class_ 23), (1, u "jdk/internal/util/ArraysSupport"), (0, u "LOG2_ARRAY_LONG_INDEX_SCALE"), (0, u "I"), (2, u "U"), (0, u "Ljdk/internal/misc/Unsafe;"), (8, u "BIG_ENDIAN"), (0, u "Z"), (8, u "LOG2_BYTE_BIT_SIZE"), (4, u "LOG2_ARRAY_INT_INDEX_SCALE"), (54, u "JLA"), (0, u "Ljdk/internal/access/JavaLangAccess;"), (11, u "LOG2_ARRAY_BOOLEAN_INDEX_SCALE"), (9, u "LOG2_ARRAY_BYTE_INDEX_SCALE"), (5, u "LOG2_ARRAY_CHAR_INDEX_SCALE"), (5, u "LOG2_ARRAY_SHORT_INDEX_SCALE"), (18, u "LOG2_ARRAY_FLOAT_INDEX_SCALE"), (24, u "LOG2_ARRAY_DOUBLE_INDEX_SCALE"), (89, u "T_BOOLEAN"), (2, u "T_CHAR"), (1, u "T_FLOAT"), (1, u "T_DOUBLE"), (1, u "T_BYTE"), (1, u "T_SHORT"), (1, u "T_INT"), (1, u "T_LONG"), (1, u "SOFT_MAX_ARRAY_LENGTH")] 83

def k15m0 : Method := { name := "<init>", desc := "()V", sig := { parameters := [], returnType := none }, accessFlags := 2, code := none }
/-- jdk/internal/util/ArraysSupport -/
def k15 : Class := { plain "jdk/internal/util/ArraysSupport" (some 0) with
  accessFlags := 33
  interfaces := #[]
  cf := some (fileOf pool15 21 #[] #[{ accessFlags := 2, nameIndex := 9, descriptorIndex := 19, attributes := #[] }] 33 16 #[] #[{ accessFlags := 24, nameIndex := 28, descriptorIndex := 29, attributes := #[] }, { accessFlags := 26, nameIndex := 38, descriptorIndex := 39, attributes := #[] }, { accessFlags := 25, nameIndex := 121, descriptorIndex := 25, attributes := #[] }, { accessFlags := 25, nameIndex := 131, descriptorIndex := 25, attributes := #[] }, { accessFlags := 25, nameIndex := 137, descriptorIndex := 25, attributes := #[] }, { accessFlags := 25, nameIndex := 143, descriptorIndex := 25, attributes := #[] }, { accessFlags := 25, nameIndex := 53, descriptorIndex := 25, attributes := #[] }, { accessFlags := 25, nameIndex := 24, descriptorIndex := 25, attributes := #[] }, { accessFlags := 25, nameIndex := 162, descriptorIndex := 25, attributes := #[] }, { accessFlags := 25, nameIndex := 187, descriptorIndex := 25, attributes := #[] }, { accessFlags := 26, nameIndex := 48, descriptorIndex := 25, attributes := #[] }, { accessFlags := 25, nameIndex := 277, descriptorIndex := 25, attributes := #[] }, { accessFlags := 25, nameIndex := 280, descriptorIndex := 25, attributes := #[] }, { accessFlags := 25, nameIndex := 282, descriptorIndex := 25, attributes := #[] }, { accessFlags := 25, nameIndex := 284, descriptorIndex := 25, attributes := #[] }, { accessFlags := 25, nameIndex := 286, descriptorIndex := 25, attributes := #[] }, { accessFlags := 25, nameIndex := 288, descriptorIndex := 25, attributes := #[] }, { accessFlags := 25, nameIndex := 290, descriptorIndex := 25, attributes := #[] }, { accessFlags := 25, nameIndex := 292, descriptorIndex := 25, attributes := #[] }, { accessFlags := 26, nameIndex := 108, descriptorIndex := 109, attributes := #[] }, { accessFlags := 25, nameIndex := 294, descriptorIndex := 25, attributes := #[] }])
  fields := #[{ name := "U", type := (.object "jdk/internal/misc/Unsafe"), accessFlags := 24, slot := 0, constantValue := 0 }, { name := "BIG_ENDIAN", type := .boolean, accessFlags := 26, slot := 1, constantValue := 0 }, { name := "LOG2_ARRAY_BOOLEAN_INDEX_SCALE", type := .int, accessFlags := 25, slot := 2, constantValue := 0 }, { name := "LOG2_ARRAY_BYTE_INDEX_SCALE", type := .int, accessFlags := 25, slot := 3, constantValue := 0 }, { name := "LOG2_ARRAY_CHAR_INDEX_SCALE", type := .int, accessFlags := 25, slot := 4, constantValue := 0 }, { name := "LOG2_ARRAY_SHORT_INDEX_SCALE", type := .int, accessFlags := 25, slot := 5, constantValue := 0 }, { name := "LOG2_ARRAY_INT_INDEX_SCALE", type := .int, accessFlags := 25, slot := 6, constantValue := 0 }, { name := "LOG2_ARRAY_LONG_INDEX_SCALE", type := .int, accessFlags := 25, slot := 7, constantValue := 0 }, { name := "LOG2_ARRAY_FLOAT_INDEX_SCALE", type := .int, accessFlags := 25, slot := 8, constantValue := 0 }, { name := "LOG2_ARRAY_DOUBLE_INDEX_SCALE", type := .int, accessFlags := 25, slot := 9, constantValue := 0 }, { name := "LOG2_BYTE_BIT_SIZE", type := .int, accessFlags := 26, slot := 10, constantValue := 0 }, { name := "T_BOOLEAN", type := .int, accessFlags := 25, slot := 11, constantValue := 0 }, { name := "T_CHAR", type := .int, accessFlags := 25, slot := 12, constantValue := 0 }, { name := "T_FLOAT", type := .int, accessFlags := 25, slot := 13, constantValue := 0 }, { name := "T_DOUBLE", type := .int, accessFlags := 25, slot := 14, constantValue := 0 }, { name := "T_BYTE", type := .int, accessFlags := 25, slot := 15, constantValue := 0 }, { name := "T_SHORT", type := .int, accessFlags := 25, slot := 16, constantValue := 0 }, { name := "T_INT", type := .int, accessFlags := 25, slot := 17, constantValue := 0 }, { name := "T_LONG", type := .int, accessFlags := 25, slot := 18, constantValue := 0 }, { name := "JLA", type := (.object "jdk/internal/access/JavaLangAccess"), accessFlags := 26, slot := 19, constantValue := 0 }, { name := "SOFT_MAX_ARRAY_LENGTH", type := .int, accessFlags := 25, slot := 20, constantValue := 0 }]
  methods := #[k15m0]
  instanceTypes := #[]
  staticTypes := #[(.object "jdk/internal/misc/Unsafe"), .boolean, .int, .int, .int, .int, .int, .int, .int, .int, .int, .int, .int, .int, .int, .int, .int, .int, .int, (.object "jdk/internal/access/JavaLangAccess"), .int]
  resolved := Array.replicate 378 none
  statics := none }

def pool16 : Array CpInfo := pool [(1, u "java/lang/Cloneable"), (0, .class_ 1), (0, u "java/lang/Object"), (0, .class_ 3)] 3

/-- java/lang/Cloneable -/
def k16 : Class := { plain "java/lang/Cloneable" (some 0) with
  accessFlags := 1537
  interfaces := #[]
  cf := some (fileOf pool16 2 #[] #[] 1537 4 #[] #[])
  fields := #[]
  methods := #[]
  instanceTypes := #[]
  staticTypes := #[]
  resolved := Array.replicate 8 none
  statics := none }

/-- the primitive byte -/
def k17 : Class := { plain "byte" none with kind := .primitive 'B', accessFlags := 0x411 }
/-- [B -/
def k18 : Class := { plain "[B" (some 0) with kind := .array 17 .byte, interfaces := #[16, 2], accessFlags := 1041 }

/-- the primitive char -/
def k19 : Class := { plain "char" none with kind := .primitive 'C', accessFlags := 0x411 }
/-- [C -/
def k20 : Class := { plain "[C" (some 0) with kind := .array 19 .char, interfaces := #[16, 2], accessFlags := 1041 }

/-- the primitive int -/
def k21 : Class := { plain "int" none with kind := .primitive 'I', accessFlags := 0x411 }
/-- [I -/
def k22 : Class := { plain "[I" (some 0) with kind := .array 21 .int, interfaces := #[16, 2], accessFlags := 1041 }

def heap : Heap := #[{ cls := 7, slots := #[.long 0, .int 1, .null, .int 0, .null, .int 0, .int 0], vm := .statics 7 },
  { cls := 8, slots := #[.int 0, .int 8, .int 0, .int 1], vm := .statics 8 },
  { cls := 10, slots := #[.null, .null, .null], vm := .statics 10 }]
def classes : Array Class := #[k0, k1, k2, k3, k4, k5, k6, k7, k8, k9, k10, k11, k12, k13, k14, k15, k16, k17, k18, k19, k20, k21, k22]
def interned : List (Array UInt16 × Addr) := []
def slotsUsed : Nat := 14
def theMethod : MethodId := ⟨1, 1⟩
def args0 : Array Value := #[.int 6553665, .int 4325443, .int 257, .int 7, .int 3, .int 9]
def aboutOver (below : List Frame) : State where
  vm := { classes := classes, interned := interned.toArray }
  heap := heap
  slotsUsed := slotsUsed
  threads := #[{ frames := .invoking theMethod args0 :: below }]
def below0 : List Frame := [.native { method := ⟨0, 0⟩, args := #[] }]
def about1 : State := aboutOver below0
def p0 : Program := .bare "" "" ""
def e0 : Env := launch0.env 0 0 0
theorem w_frames : about1.frames = Frame.invoking theMethod args0 :: below0 := rfl
set_option maxRecDepth 65536 in
theorem w_args : argsFit about1.vm theMethod args0 = true := by decide +kernel
set_option maxRecDepth 65536 in
theorem w_heap : heapFits about1 = true := by decide +kernel
set_option maxRecDepth 65536 in
theorem w_runnable : about1.curStatus? = some .runnable := by decide +kernel
set_option maxRecDepth 65536 in
theorem w_alone : about1.alone = true := by decide +kernel
set_option maxRecDepth 65536 in
theorem w_named : about1.methodNamed? x = some theMethod := by decide +kernel
set_option maxRecDepth 65536 in
theorem w_hears : about1.hears theMethod below0 = true := by decide +kernel
set_option maxRecDepth 65536 in
theorem w_ripe : about1.ripe theMethod args0 below0 = true := by decide +kernel
theorem w_running : about1.status = .running := rfl
set_option maxRecDepth 65536 in
theorem w_room : about1.hasRoom e0.platform room_1 = true :=
  launch0.hasRoom_least _ room_1 (by decide +kernel) (by decide +kernel) (by decide +kernel) (by decide +kernel) (by decide +kernel) (by decide +kernel)
theorem allAtoms_all (ts : List Jvm.Cond) (a : Array Jvm.Value) (st : Jvm.State) : (allAtoms ts).before a st = ts.all (fun c => c.before a st) := by
  induction ts with
  | nil => rfl
  | cons c t ih =>
    show (Jvm.Cond.and c (allAtoms t)).before a st = _
    rw [Jvm.Cond.before_and, ih, List.all_cons]
def words1 : List Jvm.Cond := Jvm.Cond.code x code maxLocals ret :: tables_1
/-- a 'code' word, met by the world's own term for the bytes: nothing is compared byte by byte -/
theorem code_word {y : MethodName} {bytes : ByteArray} {mx : Nat} {rt : Option FieldType} {a : Array Value} {s : State} {m : MethodId} {meth : Method} {c : Code} (h1 : s.methodNamed? y = some m) (h2 : s.vm.method? m = some meth) (h3 : meth.code = some c) (h4 : c.code = bytes)
    (h5 : (c.maxLocals == mx && c.exceptionTable.isEmpty && decide (c.maxStack ≤ mostOperands) && decide (meth.sig.returnType = rt) && !meth.locks && decide (parseMethodDescriptor y.desc = some meth.sig)) = true) : (Jvm.Cond.code y bytes mx rt).before a s = true := by
  simp only [Bool.and_eq_true, beq_iff_eq, Bool.not_eq_true', decide_eq_true_eq] at h5
  obtain ⟨⟨⟨⟨⟨g1, g2⟩, g3⟩, g4⟩, g5⟩, g6⟩ := h5
  simp [Cond.before, Cond.holds, Cond.value, h1, h2, h3, h4, g1, g2, g3, g4, g5, g6]
def isCode : Jvm.Cond → Bool
  | .code _ _ _ _ => true
  | _ => false
theorem all_split {L : List Jvm.Cond} {P : Jvm.Cond → Bool} (h1 : L.all (fun c => isCode c || P c) = true) (h2 : ∀ c ∈ L.filter isCode, P c = true) : L.all P = true := by
  refine List.all_eq_true.mpr fun c hc => ?_
  have h := List.all_eq_true.mp h1 c hc
  rcases Bool.eq_false_or_eq_true (isCode c) with hi | hi
  · exact h2 c (List.mem_filter.mpr ⟨hc, hi⟩)
  · simpa [hi] using h
set_option maxRecDepth 65536 in
theorem w_c0 : (Jvm.Cond.code x code maxLocals ret).before args0 about1 = true := code_word (m := ⟨1, 1⟩) (meth := k1m1) (c := k1c1) (by decide +kernel) rfl rfl rfl (by decide +kernel)
set_option maxRecDepth 65536 in
theorem w_c1 : (Jvm.Cond.code ({ cls := "java/lang/String", name := "<init>", desc := "([C)V" } : Jvm.MethodName) jdk_42_method_3_code (2 : Nat) (Option.none : Option Jvm.ClassFile.FieldType)).before args0 about1 = true := code_word (m := ⟨7, 1⟩) (meth := k7m1) (c := k7c1) (by decide +kernel) rfl rfl rfl (by decide +kernel)
set_option maxRecDepth 65536 in
theorem w_c2 : (Jvm.Cond.code ({ cls := "java/lang/String", name := "<init>", desc := "([CIILjava/lang/Void;)V" } : Jvm.MethodName) jdk_42_method_149_code (6 : Nat) (Option.none : Option Jvm.ClassFile.FieldType)).before args0 about1 = true := code_word (m := ⟨7, 7⟩) (meth := k7m7) (c := k7c7) (by decide +kernel) rfl rfl rfl (by decide +kernel)
set_option maxRecDepth 65536 in
theorem w_c3 : (Jvm.Cond.code ({ cls := "java/lang/Object", name := "<init>", desc := "()V" } : Jvm.MethodName) object_method_1_code (1 : Nat) (Option.none : Option Jvm.ClassFile.FieldType)).before args0 about1 = true := code_word (m := ⟨0, 0⟩) (meth := k0m0) (c := k0c0) (by decide +kernel) rfl rfl rfl (by decide +kernel)
set_option maxRecDepth 65536 in
theorem w_c4 : (Jvm.Cond.code ({ cls := "java/lang/StringUTF16", name := "compress", desc := "([CII)[B" } : Jvm.MethodName) jdk_52_method_16_code (6 : Nat) (Option.some (Jvm.ClassFile.FieldType.array Jvm.ClassFile.FieldType.byte))).before args0 about1 = true := code_word (m := ⟨8, 8⟩) (meth := k8m8) (c := k8c8) (by decide +kernel) rfl rfl rfl (by decide +kernel)
set_option maxRecDepth 65536 in
theorem w_c5 : (Jvm.Cond.code ({ cls := "java/lang/StringUTF16", name := "compress", desc := "([CI[BII)I" } : Jvm.MethodName) jdk_52_method_21_code (7 : Nat) (Option.some Jvm.ClassFile.FieldType.int)).before args0 about1 = true := code_word (m := ⟨8, 10⟩) (meth := k8m10) (c := k8c10) (by decide +kernel) rfl rfl rfl (by decide +kernel)
set_option maxRecDepth 65536 in
theorem w_c6 : (Jvm.Cond.code ({ cls := "java/lang/StringUTF16", name := "coderFromArrayLen", desc := "([BI)B" } : Jvm.MethodName) jdk_52_method_15_code (2 : Nat) (Option.some Jvm.ClassFile.FieldType.byte)).before args0 about1 = true := code_word (m := ⟨8, 7⟩) (meth := k8m7) (c := k8c7) (by decide +kernel) rfl rfl rfl (by decide +kernel)
set_option maxRecDepth 65536 in
theorem w_c7 : (Jvm.Cond.code ({ cls := "com/example/bufferwright/bufferwright/text/Word", name := "<init>", desc := "()V" } : Jvm.MethodName) prog_29_method_1_code (1 : Nat) (Option.none : Option Jvm.ClassFile.FieldType)).before args0 about1 = true := code_word (m := ⟨9, 0⟩) (meth := k9m0) (c := k9c0) (by decide +kernel) rfl rfl rfl (by decide +kernel)
set_option maxRecDepth 65536 in
theorem w_c8 : (Jvm.Cond.code ({ cls := "com/example/bufferwright/bufferwright/text/Word", name := "<init>", desc := "(Ljava/lang/String;I)V" } : Jvm.MethodName) prog_29_method_2_code (3 : Nat) (Option.none : Option Jvm.ClassFile.FieldType)).before args0 about1 = true := code_word (m := ⟨9, 1⟩) (meth := k9m1) (c := k9c1) (by decide +kernel) rfl rfl rfl (by decide +kernel)
set_option maxRecDepth 65536 in
theorem w_c9 : (Jvm.Cond.code ({ cls := "java/lang/String", name := "length", desc := "()I" } : Jvm.MethodName) jdk_42_method_54_code (1 : Nat) (Option.some Jvm.ClassFile.FieldType.int)).before args0 about1 = true := code_word (m := ⟨7, 2⟩) (meth := k7m2) (c := k7c2) (by decide +kernel) rfl rfl rfl (by decide +kernel)
set_option maxRecDepth 65536 in
theorem w_c10 : (Jvm.Cond.code ({ cls := "java/lang/String", name := "coder", desc := "()B" } : Jvm.MethodName) jdk_42_method_152_code (1 : Nat) (Option.some Jvm.ClassFile.FieldType.byte)).before args0 about1 = true := code_word (m := ⟨7, 9⟩) (meth := k7m9) (c := k7c9) (by decide +kernel) rfl rfl rfl (by decide +kernel)
set_option maxRecDepth 65536 in
theorem w_c11 : (Jvm.Cond.code ({ cls := "com/example/bufferwright/bufferwright/text/Word", name := "moveTo", desc := "(Ljava/lang/CharSequence;III)V" } : Jvm.MethodName) prog_29_method_3_code (5 : Nat) (Option.none : Option Jvm.ClassFile.FieldType)).before args0 about1 = true := code_word (m := ⟨9, 2⟩) (meth := k9m2) (c := k9c2) (by decide +kernel) rfl rfl rfl (by decide +kernel)
set_option maxRecDepth 65536 in
theorem w_c12 : (Jvm.Cond.code ({ cls := "com/example/bufferwright/bufferwright/text/Word", name := "hashCode", desc := "()I" } : Jvm.MethodName) prog_29_method_8_code (1 : Nat) (Option.some Jvm.ClassFile.FieldType.int)).before args0 about1 = true := code_word (m := ⟨9, 3⟩) (meth := k9m3) (c := k9c3) (by decide +kernel) rfl rfl rfl (by decide +kernel)
set_option maxRecDepth 65536 in
theorem w_c13 : (Jvm.Cond.code ({ cls := "com/example/bufferwright/bufferwright/text/Word", name := "toString", desc := "()Ljava/lang/String;" } : Jvm.MethodName) prog_29_method_10_code (1 : Nat) (Option.some (Jvm.ClassFile.FieldType.object "java/lang/String"))).before args0 about1 = true := code_word (m := ⟨9, 4⟩) (meth := k9m4) (c := k9c4) (by decide +kernel) rfl rfl rfl (by decide +kernel)
set_option maxRecDepth 65536 in
theorem w_c14 : (Jvm.Cond.code ({ cls := "java/lang/String", name := "subSequence", desc := "(II)Ljava/lang/CharSequence;" } : Jvm.MethodName) jdk_42_method_93_code (3 : Nat) (Option.some (Jvm.ClassFile.FieldType.object "java/lang/CharSequence"))).before args0 about1 = true := code_word (m := ⟨7, 5⟩) (meth := k7m5) (c := k7c5) (by decide +kernel) rfl rfl rfl (by decide +kernel)
set_option maxRecDepth 65536 in
theorem w_c15 : (Jvm.Cond.code ({ cls := "java/lang/String", name := "substring", desc := "(II)Ljava/lang/String;" } : Jvm.MethodName) jdk_42_method_92_code (5 : Nat) (Option.some (Jvm.ClassFile.FieldType.object "java/lang/String"))).before args0 about1 = true := code_word (m := ⟨7, 4⟩) (meth := k7m4) (c := k7c4) (by decide +kernel) rfl rfl rfl (by decide +kernel)
set_option maxRecDepth 65536 in
theorem w_c16 : (Jvm.Cond.code ({ cls := "java/lang/String", name := "checkBoundsBeginEnd", desc := "(III)V" } : Jvm.MethodName) jdk_42_method_158_code (3 : Nat) (Option.none : Option Jvm.ClassFile.FieldType)).before args0 about1 = true := code_word (m := ⟨7, 13⟩) (meth := k7m13) (c := k7c13) (by decide +kernel) rfl rfl rfl (by decide +kernel)
set_option maxRecDepth 65536 in
theorem w_c17 : (Jvm.Cond.code ({ cls := "jdk/internal/util/Preconditions", name := "checkFromToIndex", desc := "(IIILjava/util/function/BiFunction;)I" } : Jvm.MethodName) jdk_41_method_12_code (4 : Nat) (Option.some Jvm.ClassFile.FieldType.int)).before args0 about1 = true := code_word (m := ⟨10, 2⟩) (meth := k10m2) (c := k10c2) (by decide +kernel) rfl rfl rfl (by decide +kernel)
set_option maxRecDepth 65536 in
theorem w_c18 : (Jvm.Cond.code ({ cls := "java/lang/String", name := "isLatin1", desc := "()Z" } : Jvm.MethodName) jdk_42_method_154_code (1 : Nat) (Option.some Jvm.ClassFile.FieldType.boolean)).before args0 about1 = true := code_word (m := ⟨7, 10⟩) (meth := k7m10) (c := k7c10) (by decide +kernel) rfl rfl rfl (by decide +kernel)
set_option maxRecDepth 65536 in
theorem w_c19 : (Jvm.Cond.code ({ cls := "java/lang/StringLatin1", name := "newString", desc := "([BII)Ljava/lang/String;" } : Jvm.MethodName) jdk_43_method_47_code (3 : Nat) (Option.some (Jvm.ClassFile.FieldType.object "java/lang/String"))).before args0 about1 = true := code_word (m := ⟨11, 2⟩) (meth := k11m2) (c := k11c2) (by decide +kernel) rfl rfl rfl (by decide +kernel)
set_option maxRecDepth 65536 in
theorem w_c20 : (Jvm.Cond.code ({ cls := "java/lang/String", name := "toString", desc := "()Ljava/lang/String;" } : Jvm.MethodName) jdk_42_method_126_code (1 : Nat) (Option.some (Jvm.ClassFile.FieldType.object "java/lang/String"))).before args0 about1 = true := code_word (m := ⟨7, 6⟩) (meth := k7m6) (c := k7c6) (by decide +kernel) rfl rfl rfl (by decide +kernel)
set_option maxRecDepth 65536 in
theorem w_c21 : (Jvm.Cond.code ({ cls := "com/example/bufferwright/bufferwright/text/WordMoveToPinLaw", name := "at", desc := "(Ljava/lang/String;[CIII)Z" } : Jvm.MethodName) method_3_code (5 : Nat) (Option.some Jvm.ClassFile.FieldType.boolean)).before args0 about1 = true := code_word (m := ⟨1, 2⟩) (meth := k1m2) (c := k1c2) (by decide +kernel) rfl rfl rfl (by decide +kernel)
set_option maxRecDepth 65536 in
theorem w_c22 : (Jvm.Cond.code ({ cls := "java/lang/StringUTF16", name := "toBytes", desc := "([CII)[B" } : Jvm.MethodName) jdk_52_method_14_code (5 : Nat) (Option.some (Jvm.ClassFile.FieldType.array Jvm.ClassFile.FieldType.byte))).before args0 about1 = true := code_word (m := ⟨8, 6⟩) (meth := k8m6) (c := k8c6) (by decide +kernel) rfl rfl rfl (by decide +kernel)
set_option maxRecDepth 65536 in
theorem w_c23 : (Jvm.Cond.code ({ cls := "java/lang/StringUTF16", name := "newBytesFor", desc := "(I)[B" } : Jvm.MethodName) jdk_52_method_2_code (1 : Nat) (Option.some (Jvm.ClassFile.FieldType.array Jvm.ClassFile.FieldType.byte))).before args0 about1 = true := code_word (m := ⟨8, 1⟩) (meth := k8m1) (c := k8c1) (by decide +kernel) rfl rfl rfl (by decide +kernel)
set_option maxRecDepth 65536 in
theorem w_c24 : (Jvm.Cond.code ({ cls := "java/lang/StringUTF16", name := "newBytesLength", desc := "(I)I" } : Jvm.MethodName) jdk_52_method_3_code (1 : Nat) (Option.some Jvm.ClassFile.FieldType.int)).before args0 about1 = true := code_word (m := ⟨8, 2⟩) (meth := k8m2) (c := k8c2) (by decide +kernel) rfl rfl rfl (by decide +kernel)
set_option maxRecDepth 65536 in
theorem w_c25 : (Jvm.Cond.code ({ cls := "java/lang/StringUTF16", name := "putChar", desc := "([BII)V" } : Jvm.MethodName) jdk_52_method_4_code (3 : Nat) (Option.none : Option Jvm.ClassFile.FieldType)).before args0 about1 = true := code_word (m := ⟨8, 3⟩) (meth := k8m3) (c := k8c3) (by decide +kernel) rfl rfl rfl (by decide +kernel)
set_option maxRecDepth 65536 in
theorem w_c26 : (Jvm.Cond.code ({ cls := "java/lang/StringUTF16", name := "getChar", desc := "([BI)C" } : Jvm.MethodName) jdk_52_method_5_code (2 : Nat) (Option.some Jvm.ClassFile.FieldType.char)).before args0 about1 = true := code_word (m := ⟨8, 4⟩) (meth := k8m4) (c := k8c4) (by decide +kernel) rfl rfl rfl (by decide +kernel)
set_option maxRecDepth 65536 in
theorem w_c27 : (Jvm.Cond.code ({ cls := "java/lang/StringUTF16", name := "newString", desc := "([BII)Ljava/lang/String;" } : Jvm.MethodName) jdk_52_method_69_code (5 : Nat) (Option.some (Jvm.ClassFile.FieldType.object "java/lang/String"))).before args0 about1 = true := code_word (m := ⟨8, 12⟩) (meth := k8m12) (c := k8c12) (by decide +kernel) rfl rfl rfl (by decide +kernel)
set_option maxRecDepth 65536 in
theorem w_c28 : (Jvm.Cond.code ({ cls := "java/util/Arrays", name := "copyOfRange", desc := "([BII)[B" } : Jvm.MethodName) jdk_65_method_132_code (3 : Nat) (Option.some (Jvm.ClassFile.FieldType.array Jvm.ClassFile.FieldType.byte))).before args0 about1 = true := code_word (m := ⟨12, 2⟩) (meth := k12m2) (c := k12c2) (by decide +kernel) rfl rfl rfl (by decide +kernel)
set_option maxRecDepth 65536 in
theorem w_c29 : (Jvm.Cond.code ({ cls := "java/util/Arrays", name := "copyOfRangeByte", desc := "([BII)[B" } : Jvm.MethodName) jdk_65_method_133_code (5 : Nat) (Option.some (Jvm.ClassFile.FieldType.array Jvm.ClassFile.FieldType.byte))).before args0 about1 = true := code_word (m := ⟨12, 3⟩) (meth := k12m3) (c := k12c3) (by decide +kernel) rfl rfl rfl (by decide +kernel)
set_option maxRecDepth 65536 in
theorem w_c30 : (Jvm.Cond.code ({ cls := "java/util/Arrays", name := "checkLength", desc := "(II)V" } : Jvm.MethodName) jdk_65_method_131_code (2 : Nat) (Option.none : Option Jvm.ClassFile.FieldType)).before args0 about1 = true := code_word (m := ⟨12, 1⟩) (meth := k12m1) (c := k12c1) (by decide +kernel) rfl rfl rfl (by decide +kernel)
set_option maxRecDepth 65536 in
theorem w_c31 : (Jvm.Cond.code ({ cls := "java/lang/Math", name := "min", desc := "(II)I" } : Jvm.MethodName) jdk_29_method_69_code (2 : Nat) (Option.some Jvm.ClassFile.FieldType.int)).before args0 about1 = true := code_word (m := ⟨13, 1⟩) (meth := k13m1) (c := k13c1) (by decide +kernel) rfl rfl rfl (by decide +kernel)
set_option maxRecDepth 65536 in
theorem w_c32 : (Jvm.Cond.code ({ cls := "java/lang/String", name := "<init>", desc := "([BB)V" } : Jvm.MethodName) jdk_42_method_151_code (3 : Nat) (Option.none : Option Jvm.ClassFile.FieldType)).before args0 about1 = true := code_word (m := ⟨7, 8⟩) (meth := k7m8) (c := k7c8) (by decide +kernel) rfl rfl rfl (by decide +kernel)
set_option maxRecDepth 65536 in
theorem w_c33 : (Jvm.Cond.code ({ cls := "java/lang/String", name := "charAt", desc := "(I)C" } : Jvm.MethodName) jdk_42_method_56_code (2 : Nat) (Option.some Jvm.ClassFile.FieldType.char)).before args0 about1 = true := code_word (m := ⟨7, 3⟩) (meth := k7m3) (c := k7c3) (by decide +kernel) rfl rfl rfl (by decide +kernel)
set_option maxRecDepth 65536 in
theorem w_c34 : (Jvm.Cond.code ({ cls := "java/lang/StringLatin1", name := "charAt", desc := "([BI)C" } : Jvm.MethodName) jdk_43_method_2_code (2 : Nat) (Option.some Jvm.ClassFile.FieldType.char)).before args0 about1 = true := code_word (m := ⟨11, 1⟩) (meth := k11m1) (c := k11c1) (by decide +kernel) rfl rfl rfl (by decide +kernel)
set_option maxRecDepth 65536 in
theorem w_c35 : (Jvm.Cond.code ({ cls := "java/lang/String", name := "checkIndex", desc := "(II)V" } : Jvm.MethodName) jdk_42_method_155_code (2 : Nat) (Option.none : Option Jvm.ClassFile.FieldType)).before args0 about1 = true := code_word (m := ⟨7, 11⟩) (meth := k7m11) (c := k7c11) (by decide +kernel) rfl rfl rfl (by decide +kernel)
set_option maxRecDepth 65536 in
theorem w_c36 : (Jvm.Cond.code ({ cls := "jdk/internal/util/Preconditions", name := "checkIndex", desc := "(IILjava/util/function/BiFunction;)I" } : Jvm.MethodName) jdk_41_method_11_code (3 : Nat) (Option.some Jvm.ClassFile.FieldType.int)).before args0 about1 = true := code_word (m := ⟨10, 1⟩) (meth := k10m1) (c := k10c1) (by decide +kernel) rfl rfl rfl (by decide +kernel)
set_option maxRecDepth 65536 in
theorem w_c37 : (Jvm.Cond.code ({ cls := "java/lang/StringUTF16", name := "compress", desc := "([BII)[B" } : Jvm.MethodName) jdk_52_method_17_code (6 : Nat) (Option.some (Jvm.ClassFile.FieldType.array Jvm.ClassFile.FieldType.byte))).before args0 about1 = true := code_word (m := ⟨8, 9⟩) (meth := k8m9) (c := k8c9) (by decide +kernel) rfl rfl rfl (by decide +kernel)
set_option maxRecDepth 65536 in
theorem w_c38 : (Jvm.Cond.code ({ cls := "java/lang/StringUTF16", name := "compress", desc := "([BI[BII)I" } : Jvm.MethodName) jdk_52_method_22_code (7 : Nat) (Option.some Jvm.ClassFile.FieldType.int)).before args0 about1 = true := code_word (m := ⟨8, 11⟩) (meth := k8m11) (c := k8c11) (by decide +kernel) rfl rfl rfl (by decide +kernel)
set_option maxRecDepth 65536 in
theorem w_c39 : (Jvm.Cond.code ({ cls := "java/lang/StringUTF16", name := "checkBoundsOffCount", desc := "(II[B)V" } : Jvm.MethodName) jdk_52_method_94_code (3 : Nat) (Option.none : Option Jvm.ClassFile.FieldType)).before args0 about1 = true := code_word (m := ⟨8, 15⟩) (meth := k8m15) (c := k8c15) (by decide +kernel) rfl rfl rfl (by decide +kernel)
set_option maxRecDepth 65536 in
theorem w_c40 : (Jvm.Cond.code ({ cls := "java/lang/StringUTF16", name := "length", desc := "([B)I" } : Jvm.MethodName) jdk_52_method_6_code (1 : Nat) (Option.some Jvm.ClassFile.FieldType.int)).before args0 about1 = true := code_word (m := ⟨8, 5⟩) (meth := k8m5) (c := k8c5) (by decide +kernel) rfl rfl rfl (by decide +kernel)
set_option maxRecDepth 65536 in
theorem w_c41 : (Jvm.Cond.code ({ cls := "java/lang/String", name := "checkBoundsOffCount", desc := "(III)I" } : Jvm.MethodName) jdk_42_method_157_code (3 : Nat) (Option.some Jvm.ClassFile.FieldType.int)).before args0 about1 = true := code_word (m := ⟨7, 12⟩) (meth := k7m12) (c := k7c12) (by decide +kernel) rfl rfl rfl (by decide +kernel)
set_option maxRecDepth 65536 in
theorem w_c42 : (Jvm.Cond.code ({ cls := "jdk/internal/util/Preconditions", name := "checkFromIndexSize", desc := "(IIILjava/util/function/BiFunction;)I" } : Jvm.MethodName) jdk_41_method_13_code (4 : Nat) (Option.some Jvm.ClassFile.FieldType.int)).before args0 about1 = true := code_word (m := ⟨10, 3⟩) (meth := k10m3) (c := k10c3) (by decide +kernel) rfl rfl rfl (by decide +kernel)
set_option maxRecDepth 65536 in
theorem w_c43 : (Jvm.Cond.code ({ cls := "java/lang/StringUTF16", name := "charAt", desc := "([BI)C" } : Jvm.MethodName) jdk_52_method_83_code (2 : Nat) (Option.some Jvm.ClassFile.FieldType.char)).before args0 about1 = true := code_word (m := ⟨8, 13⟩) (meth := k8m13) (c := k8c13) (by decide +kernel) rfl rfl rfl (by decide +kernel)
set_option maxRecDepth 65536 in
theorem w_c44 : (Jvm.Cond.code ({ cls := "java/lang/StringUTF16", name := "checkIndex", desc := "(I[B)V" } : Jvm.MethodName) jdk_52_method_91_code (2 : Nat) (Option.none : Option Jvm.ClassFile.FieldType)).before args0 about1 = true := code_word (m := ⟨8, 14⟩) (meth := k8m14) (c := k8c14) (by decide +kernel) rfl rfl rfl (by decide +kernel)
def codes1 : List Jvm.Cond := [Jvm.Cond.code x code maxLocals ret, Jvm.Cond.code ({ cls := "java/lang/String", name := "<init>", desc := "([C)V" } : Jvm.MethodName) jdk_42_method_3_code (2 : Nat) (Option.none : Option Jvm.ClassFile.FieldType), Jvm.Cond.code ({ cls := "java/lang/String", name := "<init>", desc := "([CIILjava/lang/Void;)V" } : Jvm.MethodName) jdk_42_method_149_code (6 : Nat) (Option.none : Option Jvm.ClassFile.FieldType), Jvm.Cond.code ({ cls := "java/lang/Object", name := "<init>", desc := "()V" } : Jvm.MethodName) object_method_1_code (1 : Nat) (Option.none : Option Jvm.ClassFile.FieldType), Jvm.Cond.code ({ cls := "java/lang/StringUTF16", name := "compress", desc := "([CII)[B" } : Jvm.MethodName) jdk_52_method_16_code (6 : Nat) (Option.some (Jvm.ClassFile.FieldType.array Jvm.ClassFile.FieldType.byte)), Jvm.Cond.code ({ cls := "java/lang/StringUTF16", name := "compress", desc := "([CI[BII)I" } : Jvm.MethodName) jdk_52_method_21_code (7 : Nat) (Option.some Jvm.ClassFile.FieldType.int), Jvm.Cond.code ({ cls := "java/lang/StringUTF16", name := "coderFromArrayLen", desc := "([BI)B" } : Jvm.MethodName) jdk_52_method_15_code (2 : Nat) (Option.some Jvm.ClassFile.FieldType.byte), Jvm.Cond.code ({ cls := "com/example/bufferwright/bufferwright/text/Word", name := "<init>", desc := "()V" } : Jvm.MethodName) prog_29_method_1_code (1 : Nat) (Option.none : Option Jvm.ClassFile.FieldType), Jvm.Cond.code ({ cls := "com/example/bufferwright/bufferwright/text/Word", name := "<init>", desc := "(Ljava/lang/String;I)V" } : Jvm.MethodName) prog_29_method_2_code (3 : Nat) (Option.none : Option Jvm.ClassFile.FieldType), Jvm.Cond.code ({ cls := "java/lang/String", name := "length", desc := "()I" } : Jvm.MethodName) jdk_42_method_54_code (1 : Nat) (Option.some Jvm.ClassFile.FieldType.int), Jvm.Cond.code ({ cls := "java/lang/String", name := "coder", desc := "()B" } : Jvm.MethodName) jdk_42_method_152_code (1 : Nat) (Option.some Jvm.ClassFile.FieldType.byte), Jvm.Cond.code ({ cls := "com/example/bufferwright/bufferwright/text/Word", name := "moveTo", desc := "(Ljava/lang/CharSequence;III)V" } : Jvm.MethodName) prog_29_method_3_code (5 : Nat) (Option.none : Option Jvm.ClassFile.FieldType), Jvm.Cond.code ({ cls := "com/example/bufferwright/bufferwright/text/Word", name := "hashCode", desc := "()I" } : Jvm.MethodName) prog_29_method_8_code (1 : Nat) (Option.some Jvm.ClassFile.FieldType.int), Jvm.Cond.code ({ cls := "com/example/bufferwright/bufferwright/text/Word", name := "toString", desc := "()Ljava/lang/String;" } : Jvm.MethodName) prog_29_method_10_code (1 : Nat) (Option.some (Jvm.ClassFile.FieldType.object "java/lang/String")), Jvm.Cond.code ({ cls := "java/lang/String", name := "subSequence", desc := "(II)Ljava/lang/CharSequence;" } : Jvm.MethodName) jdk_42_method_93_code (3 : Nat) (Option.some (Jvm.ClassFile.FieldType.object "java/lang/CharSequence")), Jvm.Cond.code ({ cls := "java/lang/String", name := "substring", desc := "(II)Ljava/lang/String;" } : Jvm.MethodName) jdk_42_method_92_code (5 : Nat) (Option.some (Jvm.ClassFile.FieldType.object "java/lang/String")), Jvm.Cond.code ({ cls := "java/lang/String", name := "checkBoundsBeginEnd", desc := "(III)V" } : Jvm.MethodName) jdk_42_method_158_code (3 : Nat) (Option.none : Option Jvm.ClassFile.FieldType), Jvm.Cond.code ({ cls := "jdk/internal/util/Preconditions", name := "checkFromToIndex", desc := "(IIILjava/util/function/BiFunction;)I" } : Jvm.MethodName) jdk_41_method_12_code (4 : Nat) (Option.some Jvm.ClassFile.FieldType.int), Jvm.Cond.code ({ cls := "java/lang/String", name := "isLatin1", desc := "()Z" } : Jvm.MethodName) jdk_42_method_154_code (1 : Nat) (Option.some Jvm.ClassFile.FieldType.boolean), Jvm.Cond.code ({ cls := "java/lang/StringLatin1", name := "newString", desc := "([BII)Ljava/lang/String;" } : Jvm.MethodName) jdk_43_method_47_code (3 : Nat) (Option.some (Jvm.ClassFile.FieldType.object "java/lang/String")), Jvm.Cond.code ({ cls := "java/lang/String", name := "toString", desc := "()Ljava/lang/String;" } : Jvm.MethodName) jdk_42_method_126_code (1 : Nat) (Option.some (Jvm.ClassFile.FieldType.object "java/lang/String")), Jvm.Cond.code ({ cls := "com/example/bufferwright/bufferwright/text/WordMoveToPinLaw", name := "at", desc := "(Ljava/lang/String;[CIII)Z" } : Jvm.MethodName) method_3_code (5 : Nat) (Option.some Jvm.ClassFile.FieldType.boolean), Jvm.Cond.code ({ cls := "java/lang/StringUTF16", name := "toBytes", desc := "([CII)[B" } : Jvm.MethodName) jdk_52_method_14_code (5 : Nat) (Option.some (Jvm.ClassFile.FieldType.array Jvm.ClassFile.FieldType.byte)), Jvm.Cond.code ({ cls := "java/lang/StringUTF16", name := "newBytesFor", desc := "(I)[B" } : Jvm.MethodName) jdk_52_method_2_code (1 : Nat) (Option.some (Jvm.ClassFile.FieldType.array Jvm.ClassFile.FieldType.byte)), Jvm.Cond.code ({ cls := "java/lang/StringUTF16", name := "newBytesLength", desc := "(I)I" } : Jvm.MethodName) jdk_52_method_3_code (1 : Nat) (Option.some Jvm.ClassFile.FieldType.int), Jvm.Cond.code ({ cls := "java/lang/StringUTF16", name := "putChar", desc := "([BII)V" } : Jvm.MethodName) jdk_52_method_4_code (3 : Nat) (Option.none : Option Jvm.ClassFile.FieldType), Jvm.Cond.code ({ cls := "java/lang/StringUTF16", name := "getChar", desc := "([BI)C" } : Jvm.MethodName) jdk_52_method_5_code (2 : Nat) (Option.some Jvm.ClassFile.FieldType.char), Jvm.Cond.code ({ cls := "java/lang/StringUTF16", name := "newString", desc := "([BII)Ljava/lang/String;" } : Jvm.MethodName) jdk_52_method_69_code (5 : Nat) (Option.some (Jvm.ClassFile.FieldType.object "java/lang/String")), Jvm.Cond.code ({ cls := "java/util/Arrays", name := "copyOfRange", desc := "([BII)[B" } : Jvm.MethodName) jdk_65_method_132_code (3 : Nat) (Option.some (Jvm.ClassFile.FieldType.array Jvm.ClassFile.FieldType.byte)), Jvm.Cond.code ({ cls := "java/util/Arrays", name := "copyOfRangeByte", desc := "([BII)[B" } : Jvm.MethodName) jdk_65_method_133_code (5 : Nat) (Option.some (Jvm.ClassFile.FieldType.array Jvm.ClassFile.FieldType.byte)), Jvm.Cond.code ({ cls := "java/util/Arrays", name := "checkLength", desc := "(II)V" } : Jvm.MethodName) jdk_65_method_131_code (2 : Nat) (Option.none : Option Jvm.ClassFile.FieldType), Jvm.Cond.code ({ cls := "java/lang/Math", name := "min", desc := "(II)I" } : Jvm.MethodName) jdk_29_method_69_code (2 : Nat) (Option.some Jvm.ClassFile.FieldType.int), Jvm.Cond.code ({ cls := "java/lang/String", name := "<init>", desc := "([BB)V" } : Jvm.MethodName) jdk_42_method_151_code (3 : Nat) (Option.none : Option Jvm.ClassFile.FieldType), Jvm.Cond.code ({ cls := "java/lang/String", name := "charAt", desc := "(I)C" } : Jvm.MethodName) jdk_42_method_56_code (2 : Nat) (Option.some Jvm.ClassFile.FieldType.char), Jvm.Cond.code ({ cls := "java/lang/StringLatin1", name := "charAt", desc := "([BI)C" } : Jvm.MethodName) jdk_43_method_2_code (2 : Nat) (Option.some Jvm.ClassFile.FieldType.char), Jvm.Cond.code ({ cls := "java/lang/String", name := "checkIndex", desc := "(II)V" } : Jvm.MethodName) jdk_42_method_155_code (2 : Nat) (Option.none : Option Jvm.ClassFile.FieldType), Jvm.Cond.code ({ cls := "jdk/internal/util/Preconditions", name := "checkIndex", desc := "(IILjava/util/function/BiFunction;)I" } : Jvm.MethodName) jdk_41_method_11_code (3 : Nat) (Option.some Jvm.ClassFile.FieldType.int), Jvm.Cond.code ({ cls := "java/lang/StringUTF16", name := "compress", desc := "([BII)[B" } : Jvm.MethodName) jdk_52_method_17_code (6 : Nat) (Option.some (Jvm.ClassFile.FieldType.array Jvm.ClassFile.FieldType.byte)), Jvm.Cond.code ({ cls := "java/lang/StringUTF16", name := "compress", desc := "([BI[BII)I" } : Jvm.MethodName) jdk_52_method_22_code (7 : Nat) (Option.some Jvm.ClassFile.FieldType.int), Jvm.Cond.code ({ cls := "java/lang/StringUTF16", name := "checkBoundsOffCount", desc := "(II[B)V" } : Jvm.MethodName) jdk_52_method_94_code (3 : Nat) (Option.none : Option Jvm.ClassFile.FieldType), Jvm.Cond.code ({ cls := "java/lang/StringUTF16", name := "length", desc := "([B)I" } : Jvm.MethodName) jdk_52_method_6_code (1 : Nat) (Option.some Jvm.ClassFile.FieldType.int), Jvm.Cond.code ({ cls := "java/lang/String", name := "checkBoundsOffCount", desc := "(III)I" } : Jvm.MethodName) jdk_42_method_157_code (3 : Nat) (Option.some Jvm.ClassFile.FieldType.int), Jvm.Cond.code ({ cls := "jdk/internal/util/Preconditions", name := "checkFromIndexSize", desc := "(IIILjava/util/function/BiFunction;)I" } : Jvm.MethodName) jdk_41_method_13_code (4 : Nat) (Option.some Jvm.ClassFile.FieldType.int), Jvm.Cond.code ({ cls := "java/lang/StringUTF16", name := "charAt", desc := "([BI)C" } : Jvm.MethodName) jdk_52_method_83_code (2 : Nat) (Option.some Jvm.ClassFile.FieldType.char), Jvm.Cond.code ({ cls := "java/lang/StringUTF16", name := "checkIndex", desc := "(I[B)V" } : Jvm.MethodName) jdk_52_method_91_code (2 : Nat) (Option.none : Option Jvm.ClassFile.FieldType)]
set_option maxRecDepth 65536 in
theorem codes_eq : words1.filter isCode = codes1 := rfl
theorem w_codes : ∀ c ∈ words1.filter isCode, c.before args0 about1 = true := by
  rw [codes_eq]
  intro c hc
  simp only [codes1, List.mem_cons, List.not_mem_nil, or_false] at hc
  rcases hc with rfl | rfl | rfl | rfl | rfl | rfl | rfl | rfl | rfl | rfl | rfl | rfl | rfl | rfl | rfl | rfl | rfl | rfl | rfl | rfl | rfl | rfl | rfl | rfl | rfl | rfl | rfl | rfl | rfl | rfl | rfl | rfl | rfl | rfl | rfl | rfl | rfl | rfl | rfl | rfl | rfl | rfl | rfl | rfl | rfl
  · exact w_c0
  · exact w_c1
  · exact w_c2
  · exact w_c3
  · exact w_c4
  · exact w_c5
  · exact w_c6
  · exact w_c7
  · exact w_c8
  · exact w_c9
  · exact w_c10
  · exact w_c11
  · exact w_c12
  · exact w_c13
  · exact w_c14
  · exact w_c15
  · exact w_c16
  · exact w_c17
  · exact w_c18
  · exact w_c19
  · exact w_c20
  · exact w_c21
  · exact w_c22
  · exact w_c23
  · exact w_c24
  · exact w_c25
  · exact w_c26
  · exact w_c27
  · exact w_c28
  · exact w_c29
  · exact w_c30
  · exact w_c31
  · exact w_c32
  · exact w_c33
  · exact w_c34
  · exact w_c35
  · exact w_c36
  · exact w_c37
  · exact w_c38
  · exact w_c39
  · exact w_c40
  · exact w_c41
  · exact w_c42
  · exact w_c43
  · exact w_c44
set_option maxRecDepth 65536 in
theorem w_t1 : (words1.take 24).all (fun c => isCode c || c.before args0 about1) = true := by decide +kernel
set_option maxRecDepth 65536 in
theorem w_t2 : ((words1.drop 24).take 24).all (fun c => isCode c || c.before args0 about1) = true := by decide +kernel
set_option maxRecDepth 65536 in
theorem w_t3 : (((words1.drop 24).drop 24).take 24).all (fun c => isCode c || c.before args0 about1) = true := by decide +kernel
set_option maxRecDepth 65536 in
theorem w_t4 : ((((words1.drop 24).drop 24).drop 24).take 24).all (fun c => isCode c || c.before args0 about1) = true := by decide +kernel
set_option maxRecDepth 65536 in
theorem w_t5 : (((((words1.drop 24).drop 24).drop 24).drop 24).take 24).all (fun c => isCode c || c.before args0 about1) = true := by decide +kernel
set_option maxRecDepth 65536 in
theorem w_t6 : ((((((words1.drop 24).drop 24).drop 24).drop 24).drop 24).take 24).all (fun c => isCode c || c.before args0 about1) = true := by decide +kernel
set_option maxRecDepth 65536 in
theorem w_t7 : (((((((words1.drop 24).drop 24).drop 24).drop 24).drop 24).drop 24).take 24).all (fun c => isCode c || c.before args0 about1) = true := by decide +kernel
set_option maxRecDepth 65536 in
theorem w_t8 : ((((((((words1.drop 24).drop 24).drop 24).drop 24).drop 24).drop 24).drop 24).take 24).all (fun c => isCode c || c.before args0 about1) = true := by decide +kernel
set_option maxRecDepth 65536 in
theorem w_t9 : ((((((((words1.drop 24).drop 24).drop 24).drop 24).drop 24).drop 24).drop 24).drop 24).all (fun c => isCode c || c.before args0 about1) = true := by decide +kernel
theorem w_tables : (allAtoms (Jvm.Cond.code x code maxLocals ret :: tables_1)).before args0 about1 = true := by
  rw [allAtoms_all]
  show words1.all (fun c => c.before args0 about1) = true
  refine all_split ?_ w_codes
  rw [← List.take_append_drop 24 words1, List.all_append, w_t1, ← List.take_append_drop 24 (words1.drop 24), List.all_append, w_t2, ← List.take_append_drop 24 ((words1.drop 24).drop 24), List.all_append, w_t3, ← List.take_append_drop 24 (((words1.drop 24).drop 24).drop 24), List.all_append, w_t4, ← List.take_append_drop 24 ((((words1.drop 24).drop 24).drop 24).drop 24), List.all_append, w_t5, ← List.take_append_drop 24 (((((words1.drop 24).drop 24).drop 24).drop 24).drop 24), List.all_append, w_t6, ← List.take_append_drop 24 ((((((words1.drop 24).drop 24).drop 24).drop 24).drop 24).drop 24), List.all_append, w_t7, ← List.take_append_drop 24 (((((((words1.drop 24).drop 24).drop 24).drop 24).drop 24).drop 24).drop 24), List.all_append, w_t8, w_t9]
  rfl
set_option maxRecDepth 65536 in
theorem w_rest : rest_1_c.before args0 about1 = true := by decide +kernel
set_option maxRecDepth 65536 in
theorem w_case : (Jvm.Cond.and given_1 narrow_1).before args0 about1 = true := by decide +kernel
set_option maxRecDepth 65536 in
theorem w_consts : constsHeld consts_1 about1 := Jvm.Lit.constsHeldB_iff.mp (by decide +kernel)
theorem w_applies : (headSpec (Jvm.Cond.code x code maxLocals ret :: tables_1) room_1).applies x e0.platform about1 = true :=
  (Spec.applies_iff w_frames).mpr ⟨w_running, w_runnable, w_alone, w_named, w_hears, w_ripe, w_room, w_tables⟩
theorem atStart : AtStart classFile x code maxLocals ret World_1 tables_1 room_1 Calls_1 rest_1 Pre_1 launch0 p0 e0 about1 theMethod args0 below0 :=
  ⟨lists_1, trivial, launch0.admits_env _ _ _, launch0.least_env, fairChoices_fair.cas, fairChoices_fair.clock, w_frames, w_args, w_heap, w_applies, ⟨w_consts, trivial⟩, w_rest, w_case⟩
end start1
theorem witness_1 : WitnessClaimed_1 := ⟨start1.p0, start1.e0, start1.about1, start1.theMethod, start1.args0, start1.below0, start1.atStart⟩
end Jvm.Pilot.@@N@@

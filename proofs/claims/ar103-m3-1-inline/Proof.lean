import JvmDerived
import JvmDerived.Pilot.@@N@@Statement
import JvmDerived.Pilot.@@N@@Code
set_option linter.unusedVariables false
set_option linter.unusedSimpArgs false
namespace Jvm.RoadKit
open Sem ClassFile Op Lib Jvm.Stand Jvm.Free Jvm.LawKit
section Own
variable {p : Program} {l : Launch} {e : Env} {R : Room} {s : State} {m : MethodId} {args : Array Value} {below : List Frame} {meth : Method} {c : Code} {T : State} {locs : List Loc} {cells slots : Nat} {Z : State} {h : Heap} {a b : Addr}
abbrev iN (n : Nat) : Int32 := Int32.ofNat n
theorem iN_toInt {n : Nat} (h : n < 1000000) : (iN n).toInt = n := Int32.toInt_ofNat_of_lt (by omega)
theorem iN_nat {n : Nat} (h : n < 1000000) : (iN n).toNatClampNeg = n := by simp only [Int32.toNatClampNeg, iN_toInt h]; omega
theorem iN_nn {n : Nat} (h : n < 1000000) : ¬ iN n < 0 := by
  rw [Int32.lt_iff_toInt_lt, iN_toInt h]; have : (0 : Int32).toInt = 0 := rfl; omega
theorem iN_lt {a b : Nat} (ha : a < 1000000) (hb : b < 1000000) : iN a < iN b ↔ a < b := by rw [Int32.lt_iff_toInt_lt, iN_toInt ha, iN_toInt hb]; omega
theorem iN_eq {a b : Nat} (ha : a < 1000000) (hb : b < 1000000) : iN a = iN b ↔ a = b := by rw [← Int32.toInt_inj, iN_toInt ha, iN_toInt hb]; omega
theorem iN_add (a b : Nat) : iN a + iN b = iN (a + b) := (Int32.ofNat_add a b).symm
theorem iN_app (xs ys : List Value) : iN xs.length + iN ys.length = iN (xs ++ ys).length := by rw [iN_add, List.length_append]
theorem iN_sub {a b : Nat} (h : b ≤ a) (ha : a < 1000000) : iN a - iN b = iN (a - b) := by
  have q : iN a = iN (a - b) + iN b := by rw [iN_add, Nat.sub_add_cancel h]
  rw [q, Int32.add_sub_cancel]
theorem shr0 (x : Int32) : x >>> ((0 : Int32) &&& 31) = x := by
  rw [← Int32.toInt_inj, c_ishr x 0 0 (by decide)]; simp
theorem shl0 (x : Int32) : x <<< ((0 : Int32) &&& 31) = x := by
  have : (0 : Int32) &&& 31 = 0 := by decide
  rw [this]; exact Int32.shiftLeft_zero
theorem getD_rng (xs : List Value) (d : Value) (n i : Nat) : ((List.range n).map fun j => xs.getD (0 + j) d).getD i d = if i < n then xs.getD i d else d := by
  simp only [List.getD_eq_getElem?_getD, List.getElem?_map, Nat.zero_add]
  by_cases q : i < n
  · simp [List.getElem?_range q, q]
  · have q2 : (List.range n)[i]? = none := List.getElem?_eq_none (by simpa using q)
    simp [q2, q]
theorem rng_self (xs : List Value) (d : Value) : (List.range xs.length).map (fun j => xs.getD (0 + j) d) = xs := by
  apply List.ext_getElem
  · simp
  · intro i h1 h2; simp [List.getD_eq_getElem?_getD, List.getElem?_eq_getElem h2]
theorem cpApp (X : Stand p l e R s m args below meth c T locs cells slots) (hx : p.tables.exec = Jvm.exec) (hZ : Z.Warmed39 s.vm) {a0 : Array Value} {own : String} {index : Nat} (hown : s.vm.findClass own = some m.cls)
    (w1 : (Cond.methodLink own index Jvm.Stand.acN).before a0 Z = true) (w2 : (Cond.native Jvm.Stand.acN).before a0 Z = true) (w3 : (Cond.static Jvm.Stand.acN).before a0 Z = true) (w4 : (Cond.initialized "java/lang/System").before a0 Z = true) (eT : T.heap = h)
    {k k' : ClassId} {ty : FieldType} {z z' : Int32} {ys xs : List Value} {dv dd : Value} (A : Arv Z h a k ty z ys dv) (B : Arv Z h b k' ty z' xs dd) (hty : refKind ty = false) {nx ny : Nat} (hnx : xs.length = nx) (hny : ys.length = ny)
    (hz : ny ≤ z.toNatClampNeg) (hz' : nx + ny ≤ z'.toNatClampNeg) (hb : nx + ny < 1000000) {n0 : Nat} (N : Fr n0 locs) (ge : n0 ≤ b)
    {g : JFrame} (hg : g.method = m) (hsize : g.locals.size = c.maxLocals) {rest : List Value} (hs : g.stack = .int (iN ny) :: .int (iN nx) :: .ref b :: .int 0 :: .ref a :: rest) (hd : decode c.code g.pc = .ok (.invokestatic index, 3))
    (hf : 1 ≤ R.frames) {W : Nat} (hW : 2 * g.monitorRoom + (rest.map fun v => v.category).sum ≤ W) (hlo : W + (nativeFrameWords "java/lang/System" "arraycopy" 5 + 11) ≤ R.locals) :
    ∃ T' h' L, Stand p l e R s m args below meth c T' L cells slots ∧ T'.heap = h' ∧ Fr n0 L ∧ Keep h h' [b] ∧ Arv Z h' b k' ty z' (xs ++ ys) dd ∧
      ∀ target, Steps p.tables e below (T'.setTop { g with pc := g.pc + 3, stack := rest }) target → Steps p.tables e below (T.setTop g) target := by
  subst hnx hny
  have n1 : (iN ys.length).toNatClampNeg = ys.length := iN_nat (by omega)
  have n2 : (iN xs.length).toNatClampNeg = xs.length := iN_nat (by omega)
  have n3 : (0 : Int32).toNatClampNeg = 0 := rfl
  obtain ⟨T', h', L, X', e', N', K, V, st⟩ := cpA X hx hZ hown w1 w2 w3 w4 eT A (B.pad (pad_rep xs dd ys.length)) (Or.inl ⟨rfl, hty⟩) (sp := 0) (dp := iN xs.length) (nn := iN ys.length) (us := ys) (by decide) (iN_nn (by omega)) (iN_nn (by omega)) (by rw [n1, n3]; omega) (by rw [n1, n2]; omega) (by rw [n1, n3]; exact (rng_self ys dv).symm) (by rw [n1, n2]; simp) N ge hg hsize hs hd hf hW hlo
  refine ⟨T', h', L, X', e', N', K, ?_, st⟩
  rw [n1, n2] at V
  have q : (xs ++ List.replicate ys.length dd).take xs.length ++ ys ++ (xs ++ List.replicate ys.length dd).drop (xs.length + ys.length) = xs ++ ys := by
    rw [List.take_left, List.drop_of_length_le (by simp)]; simp
  rw [q] at V; exact V
theorem cpAll (X : Stand p l e R s m args below meth c T locs cells slots) (hx : p.tables.exec = Jvm.exec) (hZ : Z.Warmed39 s.vm) {a0 : Array Value} {own : String} {index : Nat} (hown : s.vm.findClass own = some m.cls)
    (w1 : (Cond.methodLink own index Jvm.Stand.acN).before a0 Z = true) (w2 : (Cond.native Jvm.Stand.acN).before a0 Z = true) (w3 : (Cond.static Jvm.Stand.acN).before a0 Z = true) (w4 : (Cond.initialized "java/lang/System").before a0 Z = true) (eT : T.heap = h)
    {k k' : ClassId} {ty : FieldType} {z z' : Int32} {xs : List Value} {dd : Value} {nn : Nat} (A : Arv Z h a k ty z xs dd) (B : Arv Z h b k' ty z' [] dd) (hty : refKind ty = false)
    (hx1 : xs.length ≤ nn) (hz : nn ≤ z.toNatClampNeg) (hz' : nn ≤ z'.toNatClampNeg) (hb : nn < 1000000) {n0 : Nat} (N : Fr n0 locs) (ge : n0 ≤ b)
    {g : JFrame} (hg : g.method = m) (hsize : g.locals.size = c.maxLocals) {rest : List Value} (hs : g.stack = .int (iN nn) :: .int 0 :: .ref b :: .int 0 :: .ref a :: rest) (hd : decode c.code g.pc = .ok (.invokestatic index, 3))
    (hf : 1 ≤ R.frames) {W : Nat} (hW : 2 * g.monitorRoom + (rest.map fun v => v.category).sum ≤ W) (hlo : W + (nativeFrameWords "java/lang/System" "arraycopy" 5 + 11) ≤ R.locals) :
    ∃ T' h' L, Stand p l e R s m args below meth c T' L cells slots ∧ T'.heap = h' ∧ Fr n0 L ∧ Keep h h' [b] ∧ Arv Z h' b k' ty z' xs dd ∧
      ∀ target, Steps p.tables e below (T'.setTop { g with pc := g.pc + 3, stack := rest }) target → Steps p.tables e below (T.setTop g) target := by
  have n1 : (iN nn).toNatClampNeg = nn := iN_nat hb
  have n3 : (0 : Int32).toNatClampNeg = 0 := rfl
  obtain ⟨T', h', L, X', e', N', K, V, st⟩ := cpA X hx hZ hown w1 w2 w3 w4 eT A (B.pad (pad_rep [] dd nn)) (Or.inl ⟨rfl, hty⟩) (sp := 0) (dp := 0) (nn := iN nn) (us := (List.range nn).map fun j => xs.getD (0 + j) dd) (by decide) (by decide) (iN_nn hb) (by rw [n1, n3]; omega) (by rw [n1, n3]; omega) (by rw [n1, n3]) (by rw [n1, n3]; simp) N ge hg hsize hs hd hf hW hlo
  refine ⟨T', h', L, X', e', N', K, ?_, st⟩
  rw [n1, n3] at V
  refine V.pad fun i => ?_
  have q : ([] ++ List.replicate nn dd).take 0 ++ ((List.range nn).map fun j => xs.getD (0 + j) dd) ++ ([] ++ List.replicate nn dd).drop (0 + nn) = (List.range nn).map fun j => xs.getD (0 + j) dd := by simp
  rw [q, getD_rng]
  split
  · rfl
  · rename_i q2; simp [List.getD_eq_getElem?_getD, List.getElem?_eq_none (show xs.length ≤ i by omega)]
def mx (x y : Nat) : Nat := if x < y then y else x
theorem mx_r {x y : Nat} (h : x < y) : mx x y = y := if_pos h
theorem mx_l {x y : Nat} (h : ¬ x < y) : mx x y = x := if_neg h
theorem mx_ge (x y : Nat) : x ≤ mx x y ∧ y ≤ mx x y := by unfold mx; split <;> omega
def ncap (cap tot : Nat) : Nat := if tot ≤ cap then cap else cap + mx (tot - cap) (cap + 2)
theorem ncap_ge (cap tot : Nat) : cap ≤ ncap cap tot ∧ tot ≤ ncap cap tot := by
  have q := mx_ge (tot - cap) (cap + 2)
  unfold ncap; split <;> omega
theorem ncap_fit {cap tot : Nat} (h : tot ≤ cap) : ncap cap tot = cap := if_pos h
theorem ncap_grow {cap tot : Nat} (h : ¬ tot ≤ cap) : ncap cap tot = cap + mx (tot - cap) (cap + 2) := if_neg h
end Own
end Jvm.RoadKit
namespace Jvm.RoadKit
open Sem ClassFile Op Lib Bundle Jvm.Stand Jvm.Free Jvm.LawKit Jvm.Free.SB Jvm.Free.SBG
section OwnCH
variable {p : Program} {l : Launch} {e : Env} {R : Room} {s : State} {args : Array Value} {below : List Frame} {Z : State} {a0 : Array Value} {EL : List (String × Nat)} {h : Heap} {vm0 : Vm}
theorem cs0 : ∀ x ∈ ([] : List Addr), @LT.lt Nat _ x h.size ∧ Safe Z EL vm0 h x := fun _ q => nomatch q
theorem csS {x : Addr} {ss : List Addr} (n : @LT.lt Nat _ x h.size) (m : Safe Z EL vm0 h x) (r : ∀ y ∈ ss, @LT.lt Nat _ y h.size ∧ Safe Z EL vm0 h y) : ∀ y ∈ x :: ss, @LT.lt Nat _ y h.size ∧ Safe Z EL vm0 h y := fun y q => by
  rcases List.mem_cons.mp q with rfl | q
  · exact ⟨n, m⟩
  · exact r y q
theorem backCH {K : Program → Env → List Frame → State → Array Value → Prop} {y : MethodName} {bytes : ByteArray} {maxL : Nat} {ret : Option FieldType} {rm : Room} {len W : Nat} {as' : Array Value} {Q : Option Value → Heap → List Loc → Prop} {ss : List Addr}
    (hM : MetFree l y (head1 [Cond.code y bytes maxL ret] rm) (fun a U => a = as' ∧ Z.Warmed39 U.vm ∧ U.heap = h ∧ CHv Z EL U.vm h ∧ ∀ x ∈ ss, Safe Z EL U.vm h x) K (fun _ U o U' => ∃ v L, o = .returned v ∧ Q v U'.heap L ∧ CHr Z EL U.vm U.heap U'.vm U'.heap ∧ ReturnedEndW U o U' L rm.cells rm.slots))
    (hZ : Z.Warmed39 vm0) (wc : (Cond.code y bytes maxL ret).before a0 Z = true) (wz : (Cond.initialized y.cls).before a0 Z = true) (hf : rm.frames + 1 ≤ R.frames) (hl : W + (maxL + 11) + rm.locals ≤ R.locals) (hEL : EW Z a0 EL) (H : CHv Z EL vm0 h)
    (hs : ∀ x ∈ ss, @LT.lt Nat _ x h.size ∧ Safe Z EL vm0 h x)
    (hK : ∀ m meth c (A : Pt) a (g : JFrame) mk, Stand p l e R (s.setVm vm0) m args below meth c A.U A.locs A.cells A.slots → g.method = m → K p e (A.U.setTop g).frames (A.U.calling g mk a) a) :
    BackS l R p e below (s.setVm vm0) args y len W (fun A a => a = as' ∧ A.U.heap = h ∧ A.cells + rm.cells ≤ R.cells ∧ A.slots + rm.slots ≤ R.slots)
      (fun A _ v B => ∃ L, Q v B.U.heap L ∧ B.locs = A.locs ++ L ∧ B.cells = A.cells + rm.cells ∧ B.slots = A.slots + rm.slots ∧ CHr Z EL vm0 h B.U.vm B.U.heap) := by
  refine BackS.of_freeWG (bytes := bytes) (maxL := maxL) (ret := ret) (E := fun _ first o t L k n => k = rm.cells ∧ n = rm.slots ∧ (∃ v, o = .returned v ∧ Q v t.heap L) ∧ CHr Z EL first.vm first.heap t.vm t.heap) hM hf hl ?_ ?_ ?_ ?_ ?_
  · intro m meth c A a Y hp
    have hU : Z.Warmed39 A.U.vm := wtrans (s := s.setVm vm0) hZ Y.warmed
    exact ⟨by show (Cond.and _ .tt).before a A.U = true; rw [Cond.before_and, mv hU wc]; rfl, mv hU wc, mv hU wz, hp.2.2.1, hp.2.2.2⟩
  · intro m meth c A a g mk Y hp
    have q := CHv.at Y hZ hEL H
    exact ⟨hp.1, wtrans (s := s.setVm vm0) hZ Y.warmed, hp.2.1, q.1, fun x hx => q.safe (hs x hx).1 (hs x hx).2⟩
  · intro m meth c A a g mk Y _ hg; exact hK m meth c A a g mk Y hg
  · rintro _ _ _ _ ⟨v, L, h1, h2, h3, h4⟩; exact ⟨L, _, _, h4, rfl, rfl, ⟨v, h1, h2⟩, h3⟩
  · rintro m meth c A a g mk v t L k n Y hp _ _ ⟨e1, e2, ⟨v', e3, e4⟩, e5⟩
    cases e3; subst e1 e2
    refine ⟨L, e4, rfl, rfl, rfl, (CHv.at Y hZ hEL H).trans ?_⟩
    rw [← hp.2.1]; exact e5
end OwnCH
end Jvm.RoadKit
namespace Jvm.RoadKit
open Sem ClassFile Op Lib Jvm.Stand Jvm.Free Jvm.LawKit
section New
variable {p : Program} {l : Launch} {e : Env} {R : Room} {s : State} {m : MethodId} {args : Array Value} {below : List Frame} {meth : Method} {c : Code} {T : State} {locs : List Loc} {cells slots : Nat}
theorem retI (X : Stand p l e R s m args below meth c T locs cells slots) (hx : p.tables.exec = Jvm.exec) {pc : Nat} {Ls : Array Slot} {z : Int32} {rest : List Value} (hret : meth.sig.returnType = some .int) (hd : decode c.code pc = .ok (.ireturn, 1)) {fs : List Frame}
    (hl : ∀ (f : JFrame) (acts : List Action), f.method = m → f.locked = none → f.entered = [] → (doReturn e (T.setTop f) acts (some (.int z))).1 = T.setFrames fs) : Steps p.tables e below (T.setTop (mkF m pc Ls (.int z :: rest))) (T.setFrames fs) := by
  have hm' : T.vm.method? m = some meth := X.method'
  have hn : narrow .int (.int z) = .int z := rfl
  show Steps p.tables e below (T.setTop { method := m, pc := pc, locals := Ls, stack := _ :: rest, locked := none }) _
  jvm_step X.here [X.here.top, hx, hd, hm', hret, hn]
  first | (intro acts; rw [hl _ acts rfl rfl rfl]) | rw [hl _ _ rfl rfl rfl]
  exact Steps.refl _
end New
end Jvm.RoadKit
namespace Jvm.Pilot.@@N@@
open Jvm Jvm.ClassFile Sem Op Lib Jvm.Free Jvm.Stand Jvm.LawKit Jvm.RoadKit Bundle Jvm.Pilot.@@N@@.Jvm.D
abbrev SS (p : Program) (e : Env) (below : List Frame) (T : State) (f : JFrame) (t : State) : Prop := Steps p.tables e below (T.setTop f) t
variable {pP : Program} {eE : Env} {sS : State} {mM : MethodId} {aS : Array Value} {bS : List Frame} {mS : Method} {cC : Code} {s₁ : State} {lc0 : List Loc} {cl0 sl0 : Nat}
theorem dk {L : List (Nat × Instr × Nat)} {code : ByteArray} (h : ∀ x ∈ L, decode code x.1 = .ok x.2) (i : Nat) {x : Nat × Instr × Nat} (e : L[i]? = some x) : decode code x.1 = .ok x.2 := h _ (List.mem_of_getElem? e)
theorem W0 {g : JFrame} {r : List Value} {W : Nat} (h : 2 * g.monitorRoom + (r.map fun v => v.category).sum = W) : 2 * g.monitorRoom + (r.map fun v => v.category).sum ≤ W := Nat.le_of_eq h
def SG (l : Launch) (Z : State) (pP : Program) (eE : Env) (R : Room) (sS : State) (mM : MethodId) (aS : Array Value) (bS : List Frame) (mS : Method) (cC : Code) (s₁ : State) (lc0 : List Loc) (cl0 sl0 : Nat) (h0 : Heap) (n0 : Nat) (code : ByteArray) (ml : Nat) (own : String) (dc ds : Nat) : Prop := n0 ≤ h0.size ∧ pP.tables.exec = Jvm.exec ∧ cC.code = code ∧ cC.maxLocals = ml ∧ Z.Warmed39 sS.vm ∧ sS.vm.findClass own = some mM.cls ∧ Stand pP l eE R sS mM aS bS mS cC s₁ lc0 cl0 sl0 ∧ s₁.heap = h0 ∧ Fr n0 lc0 ∧ cl0 + dc ≤ R.cells ∧ sl0 + ds ≤ R.slots
abbrev MF (l : Launch) (y : MethodName) (bytes : ByteArray) (ml : Nat) (rt : Option FieldType) (ws : List Jvm.Cond) (R : Room) (A : Array Value) (Z : State) (h0 : Heap) (Q : Option Value → Heap → List Loc → Prop) : Prop := MetFree l y (head1 (Jvm.Cond.code y bytes ml rt :: ws) R) (fun xa xU => xa = A ∧ Z.Warmed39 xU.vm ∧ xU.heap = h0) (fun _ _ _ _ _ => True) (fun _ xU xo xU' => ∃ xv xL, xo = .returned xv ∧ Q xv xU'.heap xL ∧ FrameEnd xU xo xU' xL R.cells R.slots)
set_option maxRecDepth 65536
set_option maxHeartbeats 40000000
theorem segle {c k a d R : Nat} (h : c + d ≤ R) (q : k + a ≤ d) : c + k + a ≤ R := by omega
theorem ble {a b : Nat} (h : Nat.ble a b = true) : a ≤ b := Nat.le_of_ble_eq_true h
abbrev HW (a0 : Array Value) (Z : State) : Prop := ∀ d ∈ tables_1, d.before a0 Z = true
theorem wi {Z : State} {a0 : Array Value} (hw : HW a0 Z) (i : Nat) {d : Jvm.Cond} (h : tables_1[i]? = some d) : d.before a0 Z = true := hw _ (List.mem_of_getElem? h)
def StrA (Z : State) (h : Heap) (t tb : Addr) (tk : ClassId) (z : Nat) (ys : List Value) : Prop := Exa Z h t "java/lang/String" ∧ Fld Z h t "java/lang/String" "value" "[B" (.ref tb) ∧ Fld Z h t "java/lang/String" "coder" "B" (.int (0 : Int32)) ∧ Arv Z h tb tk .byte (iN z) ys (.int (0 : Int32))
section StrSec
variable {Z : State} {h h' : Heap} {t tb : Addr} {tk : ClassId} {z : Nat} {ys : List Value}
theorem StrA.ext (E : Ext h h') (S : StrA Z h t tb tk z ys) : StrA Z h' t tb tk z ys := ⟨Exa.ext E S.1, Fld.ext E S.2.1, Fld.ext E S.2.2.1, S.2.2.2.ext E⟩
theorem StrA.wr {a : Addr} {sl : Nat} {v : Value} (W : Wr h h' a sl v) (S : StrA Z h t tb tk z ys) (n1 : t ≠ a) (n2 : tb ≠ a) : StrA Z h' t tb tk z ys := ⟨Exa.wr W S.1, Fld.other W S.2.1 (Or.inl n1), Fld.other W S.2.2.1 (Or.inl n1), S.2.2.2.other W n2⟩
theorem StrA.keep {ws : List Addr} (K : Keep h h' ws) (S : StrA Z h t tb tk z ys) (n1 : t ∉ ws) (n2 : tb ∉ ws) : StrA Z h' t tb tk z ys := ⟨S.1.keep K, S.2.1.keep K n1, S.2.2.1.keep K n1, S.2.2.2.keep K n2⟩
end StrSec
def Sts (Z : State) (cs : Int32) (fo : Value) (da ea : Addr) : Prop := Sta Z Z.heap "java/lang/String" "COMPACT_STRINGS" "Z" (.int cs) ∧ ¬ (cs = (0 : Int32)) ∧ Sta Z Z.heap "jdk/internal/util/Preconditions" "SIOOBE_FORMATTER" "Ljava/util/function/BiFunction;" fo ∧ (fo).isRef = true ∧ Sta Z Z.heap "java/lang/Integer" "DigitOnes" "[B" (.ref da) ∧ Sta Z Z.heap "java/lang/Integer" "DigitTens" "[B" (.ref ea)
abbrev jN (n : Nat) : Int64 := Int64.ofNat n
theorem jN_toInt {n : Nat} (h : n < 10000000000) : (jN n).toInt = n := Int64.toInt_ofNat_of_lt (by omega)
def nd (m : Nat) : Nat := if m < 10 then 1 else if m < 100 then 2 else if m < 1000 then 3 else if m < 10000 then 4 else if m < 100000 then 5 else if m < 1000000 then 6 else if m < 10000000 then 7 else if m < 100000000 then 8 else if m < 1000000000 then 9 else 10
theorem nd_le (m : Nat) : 1 ≤ nd m ∧ nd m ≤ 10 := by unfold nd; (repeat' split) <;> omega
def absN (v : Int32) : Nat := v.toInt.natAbs
theorem absN_le (v : Int32) : absN v ≤ 2147483648 := by
  have q := rng32 v
  unfold absN; omega
def wd (v : Int32) : Nat := (if v < 0 then 1 else 0) + nd (absN v)
def decM (m : Nat) : List Value := (List.range (nd m)).map fun k => .int (iN (48 + m / 10 ^ (nd m - 1 - k) % 10))
def sgV (v : Int32) : List Value := if v < 0 then [.int (45 : Int32)] else []
def decV (v : Int32) : List Value := sgV v ++ decM (absN v)
theorem decM_len (m : Nat) : (decM m).length = nd m := by simp [decM]
theorem decV_len (v : Int32) : (decV v).length = wd v := by
  unfold decV sgV wd
  split <;> simp [decM_len, Nat.add_comm]
theorem own_jlt {m K : Nat} (h : m < K) (hm : m < 10000000000) (hK : K < 10000000000) : lcmpW (jN m) (jN K) < (0 : Int32) := by
  rw [lw_lt, Int64.lt_iff_toInt_lt, jN_toInt hm, jN_toInt hK]; omega
theorem own_jge {m K : Nat} (h : K ≤ m) (hm : m < 10000000000) : ¬ (lcmpW (jN m) (jN K) < (0 : Int32)) := by
  rw [lw_lt, Int64.lt_iff_toInt_lt, jN_toInt hm, jN_toInt (by omega)]; omega
theorem own_neg {v : Int32} (h : v < (0 : Int32)) : v.toInt < 0 := by
  rw [Int32.lt_iff_toInt_lt] at h; exact h
theorem own_pos' {v : Int32} (h : ¬ (v < (0 : Int32))) : 0 ≤ v.toInt := by
  rw [Int32.lt_iff_toInt_lt] at h; have e : (0 : Int32).toInt = 0 := rfl; omega
theorem own_vneg {v : Int32} (h : v < (0 : Int32)) : lcmpW (v.toInt64) (0 : Int64) < (0 : Int32) := by
  rw [lw_lt, Int64.lt_iff_toInt_lt, c_i2l]; exact own_neg h
theorem own_posj {v : Int32} (h : ¬ (v < (0 : Int32))) : v.toInt64 = jN (absN v) := by
  have q := own_pos' h
  have r := absN_le v
  rw [← Int64.toInt_inj, c_i2l, jN_toInt (by omega)]
  unfold absN; omega
theorem own_negj {v : Int32} (h : v < (0 : Int32)) : (-(v.toInt64)) = jN (absN v) := by
  have q := own_neg h
  have r := absN_le v
  have s := c_lneg v.toInt64
  have t := rng64 (-(v.toInt64))
  have u := rng32 v
  rw [c_i2l] at s
  rw [← Int64.toInt_inj, jN_toInt (by omega)]
  unfold absN; omega
theorem own_wdn {v : Int32} (h : v < (0 : Int32)) : ((1 : Int32) + (iN (nd (absN v)))) = iN (wd v) := by
  unfold wd; rw [if_pos h]; exact iN_add 1 _
theorem own_wdp {v : Int32} (h : ¬ (v < (0 : Int32))) : nd (absN v) = wd v := by
  unfold wd; rw [if_neg h, Nat.zero_add]
theorem own_p10 {k : Nat} (h : k ≤ 9) : 1 ≤ 10 ^ k ∧ 10 ^ k ≤ 1000000000 := by
  match k, h with
  | 0, _ => decide
  | 1, _ => decide
  | 2, _ => decide
  | 3, _ => decide
  | 4, _ => decide
  | 5, _ => decide
  | 6, _ => decide
  | 7, _ => decide
  | 8, _ => decide
  | 9, _ => decide
theorem own_pw {k : Nat} (h : k ≤ 9) : [(Value.long (1 : Int64)), (.long (10 : Int64)), (.long (100 : Int64)), (.long (1000 : Int64)), (.long (10000 : Int64)), (.long (100000 : Int64)), (.long (1000000 : Int64)), (.long (10000000 : Int64)), (.long (100000000 : Int64)), (.long (1000000000 : Int64))].getD (iN k).toNatClampNeg (.long (0 : Int64)) = (.long (jN (10 ^ k))) := by
  rw [iN_nat (by omega)]
  match k, h with
  | 0, _ => rfl
  | 1, _ => rfl
  | 2, _ => rfl
  | 3, _ => rfl
  | 4, _ => rfl
  | 5, _ => rfl
  | 6, _ => rfl
  | 7, _ => rfl
  | 8, _ => rfl
  | 9, _ => rfl
theorem own_pnz {k : Nat} (h : k ≤ 9) : ¬ ((jN (10 ^ k)) = (0 : Int64)) := by
  have q := own_p10 h
  rw [← Int64.toInt_inj, jN_toInt (by omega)]
  have e : (0 : Int64).toInt = 0 := rfl
  omega
theorem own_jdiv {m k : Nat} (hm : m < 10000000000) (h : k ≤ 9) : ((jN m) / (jN (10 ^ k))) = jN (m / 10 ^ k) := by
  have q := own_p10 h
  have d : m / 10 ^ k ≤ m := Nat.div_le_self _ _
  have e1 := jN_toInt (n := 10 ^ k) (by omega)
  have e2 := jN_toInt hm
  have r := (c_ldiv (jN m) (jN (10 ^ k)) ((10 ^ k : Nat) : Int) e1 (fun z => by
    have y := congrArg Int64.toInt z
    rw [e1] at y
    have y2 : (-1 : Int64).toInt = -1 := rfl
    omega)).1 (by rw [e2]; omega)
  rw [← Int64.toInt_inj, r, e2, jN_toInt (by omega)]
  exact (Int.natCast_ediv m (10 ^ k)).symm
theorem own_jmod {n : Nat} (hm : n < 10000000000) : ((jN n) - (jN n) / (10 : Int64) * (10 : Int64)) = jN (n % 10) := by
  have e2 := jN_toInt hm
  have r := (c_lrem (jN n) 10 10 rfl).1 (by rw [e2]; omega)
  rw [← Int64.toInt_inj, r, e2, jN_toInt (by omega)]
  omega
theorem own_jl2i {n : Nat} (h : n < 1000000) : (jN n).toInt32 = iN n := by
  have q := c_l2i (jN n)
  have r := rng32 (jN n).toInt32
  rw [jN_toInt (by omega)] at q
  rw [← Int32.toInt_inj, iN_toInt h]
  omega
theorem own_i2cN {n : Nat} (h : n < 65536) : ((iN n).toUInt32.toUInt16.toUInt32.toInt32) = iN n := by
  have q := c_i2c (iN n)
  rw [iN_toInt (by omega)] at q
  rw [← Int32.toInt_inj, iN_toInt (by omega)]
  omega
def LatAt (z : Nat) (ys : List Value) (i : Nat) (c : Int32) : Prop := (i < z ∧ z < 1000000) ∧ ∃ v : Int32, ys.getD i (.int (0 : Int32)) = (.int v) ∧ (v &&& (255 : Int32)) = c ∧ (c.toUInt32.toUInt16.toUInt32.toInt32) = c
theorem own_ssle {x p : Int32} {m K : Nat} (hx : x.toInt = -(m : Int)) (h : K ≤ m) (e : p.toInt = -(K : Int)) : ¬ (p < x) := by
  rw [Int32.lt_iff_toInt_lt, hx, e]; omega
theorem own_sslt {x p : Int32} {m K : Nat} (hx : x.toInt = -(m : Int)) (h : m < K) (e : p.toInt = -(K : Int)) : p < x := by
  rw [Int32.lt_iff_toInt_lt, hx, e]; omega
theorem own_xneg {v : Int32} (h : v < (0 : Int32)) : v.toInt = -(absN v : Int) := by
  have q := own_neg h
  unfold absN; omega
theorem own_xpos {v : Int32} (h : ¬ (v < (0 : Int32))) : (-v).toInt = -(absN v : Int) := by
  have q := own_pos' h
  have r := c_ineg v
  have s := rng32 v
  have t := rng32 (-v)
  unfold absN; omega
theorem own_ndlt {m : Nat} (h : m < 1000000000) : nd m < 10 := by unfold nd; (repeat' split) <;> omega
theorem own_nd10 {m : Nat} (h : ¬ (m < 1000000000)) : nd m = 10 := by unfold nd; (repeat' split) <;> omega
theorem own_wd1 {v : Int32} (h : v < (0 : Int32)) : nd (absN v) + 1 = wd v := by unfold wd; rw [if_pos h]; omega
theorem own_wd0 {v : Int32} (h : ¬ (v < (0 : Int32))) : nd (absN v) + 0 = wd v := by unfold wd; rw [if_neg h]; omega
theorem own_wd1' {v : Int32} (h : v < (0 : Int32)) (q : nd (absN v) = 10) : 11 = wd v := by rw [← own_wd1 h, q]
theorem own_wd0' {v : Int32} (h : ¬ (v < (0 : Int32))) (q : nd (absN v) = 10) : 10 = wd v := by rw [← own_wd0 h, q]
def onesL : List Value := (List.range 100).map fun i => .int (iN (48 + i % 10))
def tensL : List Value := (List.range 100).map fun i => .int (iN (48 + i / 10))
theorem own_ones {r : Nat} (h : r < 100) : onesL.getD r (.int (0 : Int32)) = (.int (iN (48 + r % 10))) := by
  simp [onesL, List.getD_eq_getElem?_getD, List.getElem?_range h]
theorem own_tens {r : Nat} (h : r < 100) : tensL.getD r (.int (0 : Int32)) = (.int (iN (48 + r / 10))) := by
  simp [tensL, List.getD_eq_getElem?_getD, List.getElem?_range h]
theorem own_b8N {n : Nat} (h : n < 128) : (iN n).toInt8.toInt32 = iN n := by
  have q := c_i2b (iN n)
  rw [iN_toInt (by omega)] at q
  rw [← Int32.toInt_inj, iN_toInt (by omega)]
  omega
abbrev iM (m : Nat) : Int32 := Int32.ofInt (-(m : Int))
theorem iM_toInt {m : Nat} (h : m ≤ 2147483648) : (iM m).toInt = -(m : Int) := by
  have q : (iM m).toInt = (-(m : Int)).bmod (2 ^ 32) := Int32.toInt_ofInt
  have r := bm32 (-(m : Int))
  have s := rng32 (iM m)
  rw [q] at s
  rw [q]
  omega
theorem iM_of {x : Int32} {m : Nat} (h : x.toInt = -(m : Int)) (hm : m ≤ 2147483648) : x = iM m := by rw [← Int32.toInt_inj, h, iM_toInt hm]
theorem own_q {m : Nat} (h : m ≤ 2147483648) : ((iM m) / (100 : Int32)) = iM (m / 100) := by
  have e := iM_toInt h
  have d : m / 100 ≤ m := Nat.div_le_self _ _
  have r := c_idiv (iM m) 100 100 rfl (by decide)
  rw [← Int32.toInt_inj, iM_toInt (by omega)]
  rcases Nat.eq_zero_or_pos m with z | z
  · subst z; rfl
  · rw [r.2 (by omega), e]; omega
theorem own_r {m : Nat} (h : m ≤ 2147483648) : (((iM (m / 100)) * (100 : Int32)) - (iM m)) = iN (m % 100) := by
  have e := iM_toInt h
  have e2 := iM_toInt (m := m / 100) (by omega)
  have r := c_imul (iM (m / 100)) 100
  have r2 := c_isub ((iM (m / 100)) * (100 : Int32)) (iM m)
  have e3 : (100 : Int32).toInt = 100 := rfl
  have s := rng32 (((iM (m / 100)) * (100 : Int32)) - (iM m))
  rw [← Int32.toInt_inj, iN_toInt (by omega)]
  rw [e2, e3] at r
  omega
theorem own_mneg {m : Nat} (h : m < 100) : (-(iM m)) = iN m := by
  have e := iM_toInt (m := m) (by omega)
  have r := c_ineg (iM m)
  have s := rng32 (-(iM m))
  rw [← Int32.toInt_inj, iN_toInt (by omega)]
  omega
theorem own_mgt {m : Nat} (h : m < 100) : (-100 : Int32) < (iM m) := by
  rw [Int32.lt_iff_toInt_lt, iM_toInt (by omega)]; have e : (-100 : Int32).toInt = -100 := rfl; omega
theorem own_mle {m : Nat} (h : 100 ≤ m) (h2 : m ≤ 2147483648) : ¬ ((-100 : Int32) < (iM m)) := by
  rw [Int32.lt_iff_toInt_lt, iM_toInt h2]; have e : (-100 : Int32).toInt = -100 := rfl; omega
theorem own_m9 {m : Nat} (h : m < 10) : ¬ ((iM m) < (-9 : Int32)) := by
  rw [Int32.lt_iff_toInt_lt, iM_toInt (by omega)]; have e : (-9 : Int32).toInt = -9 := rfl; omega
theorem own_m9' {m : Nat} (h : 10 ≤ m) (h2 : m ≤ 2147483648) : (iM m) < (-9 : Int32) := by
  rw [Int32.lt_iff_toInt_lt, iM_toInt h2]; have e : (-9 : Int32).toInt = -9 := rfl; omega
theorem iN_pred (e : Nat) : (iN (e + 1)) + (-1 : Int32) = iN e := by
  have q : (iN (e + 1)) = (iN e) + (1 : Int32) := (iN_add e 1).symm
  rw [q, Int32.add_assoc]
  have z : (1 : Int32) + (-1 : Int32) = 0 := by decide
  rw [z, Int32.add_zero]
theorem nd_div {m : Nat} (h : 10 ≤ m) (h2 : m < 10000000000) : nd m = nd (m / 10) + 1 := by unfold nd; (repeat' split) <;> omega
theorem decM_div {m : Nat} (h : 10 ≤ m) (h2 : m < 10000000000) : decM m = decM (m / 10) ++ [.int (iN (48 + m % 10))] := by
  have e := nd_div h h2
  unfold decM
  rw [e, List.range_succ, List.map_append]
  congr 1
  · apply List.map_congr_left
    intro k hk
    have hk := List.mem_range.mp hk
    have z : nd (m / 10) + 1 - 1 - k = (nd (m / 10) - 1 - k) + 1 := by omega
    rw [z, Nat.pow_succ, Nat.mul_comm, ← Nat.div_div_eq_div_mul]
  · simp
theorem decM_one {m : Nat} (h : m < 10) : decM m = [.int (iN (48 + m))] := by
  have e : nd m = 1 := by unfold nd; rw [if_pos h]
  unfold decM
  rw [e]
  simp [Nat.mod_eq_of_lt h]
theorem decM_two {m : Nat} (h : 10 ≤ m) (h2 : m < 100) : decM m = [.int (iN (48 + m / 10)), .int (iN (48 + m % 10))] := by
  rw [decM_div h (by omega), decM_one (by omega)]; rfl
theorem decM_100 {m : Nat} (h : 100 ≤ m) (h2 : m < 10000000000) : decM m = decM (m / 100) ++ [.int (iN (48 + m % 100 / 10)), .int (iN (48 + m % 100 % 10))] := by
  rw [decM_div (by omega) h2, decM_div (m := m / 10) (by omega) (by omega), Nat.div_div_eq_div_mul, List.append_assoc]
  have e1 : m / 10 % 10 = m % 100 / 10 := by omega
  have e2 : m % 10 = m % 100 % 10 := by omega
  rw [e1, e2]; rfl
theorem nd_100 {m : Nat} (h : 100 ≤ m) (h2 : m < 10000000000) : nd m = nd (m / 100) + 2 := by
  rw [nd_div (by omega) h2, nd_div (m := m / 10) (by omega) (by omega), Nat.div_div_eq_div_mul]
theorem own_setq {A C B : List Value} {p q v : Value} {e : Nat} (h : A.length + C.length = e) : (A ++ (C ++ [p, q]) ++ B).set (e + 1) v = A ++ (C ++ [p, v]) ++ B := by
  subst h; simp [List.set_append, Nat.add_assoc]
theorem own_setp {A C B : List Value} {p q v : Value} {e : Nat} (h : A.length + C.length = e) : (A ++ (C ++ [p, q]) ++ B).set e v = A ++ (C ++ [v, q]) ++ B := by
  subst h; simp [List.set_append]
theorem own_set1 {A B : List Value} {p v : Value} {e : Nat} (h : A.length = e) : (A ++ [p] ++ B).set e v = A ++ [v] ++ B := by
  subst h; simp [List.set_append]
theorem own_len2 {C : List Value} (h : C.length = 2) : ∃ u1 u2, C = [u1, u2] := by
  match C, h with
  | [u1, u2], _ => exact ⟨u1, u2, rfl⟩
theorem own_split2 {L : List Value} (h : 2 ≤ L.length) : ∃ C u1 u2, L = C ++ [u1, u2] := by
  refine ⟨L.take (L.length - 2), L[L.length - 2]'(by omega), L[L.length - 1]'(by omega), ?_⟩
  have q : L.drop (L.length - 2) = [L[L.length - 2]'(by omega), L[L.length - 1]'(by omega)] := by
    apply List.ext_getElem
    · simp; omega
    · intro i h1 h2
      simp at h2
      match i, h2 with
      | 0, _ => simp
      | 1, _ => simp; congr 1; omega
  rw [← q, List.take_append_drop]
theorem own_absM {m : Nat} (h : m ≤ 2147483648) : absN (iM m) = m := by
  unfold absN; rw [iM_toInt h]; omega
theorem own_set45 {xs ys B : List Value} {u v : Value} : ((xs ++ [u]) ++ ys ++ B).set xs.length v = ((xs ++ [v]) ++ ys ++ B) := by
  simp [List.set_append]
def LitK (z : Nat) (ys : List Value) (lz : Nat) (ls : List Value) (p k : Nat) : Prop := ¬ k < lz ∨ (k < lz ∧ ∃ c : Int32, LatAt z ys (p + k) c ∧ LatAt lz ls k c)
def LitP (z : Nat) (ys : List Value) (p : Nat) (ls : List Value) : Prop := ∀ k, LitK z ys ls.length ls p k
def NumP (z : Nat) (ys : List Value) (p : Nat) (v : Int32) : Prop :=
  (v < (0 : Int32) ∧ LatAt z ys p (45 : Int32) ∧ ∀ k, k < nd (absN v) → LatAt z ys ((p + 1) + k) (iN (48 + (absN v) / 10 ^ (nd (absN v) - (k + 1)) % 10))) ∨
  (¬ (v < (0 : Int32)) ∧ ∀ k, k < nd (absN v) → LatAt z ys (p + k) (iN (48 + (absN v) / 10 ^ (nd (absN v) - (k + 1)) % 10)))
theorem wd_le (v : Int32) : 1 ≤ wd v ∧ wd v ≤ 11 := by
  have q := nd_le (absN v)
  unfold wd; split <;> omega
def offL (a : Int32) : List Value := if a = (0 : Int32) then [] else ((([] ++ [(.int (32 : Int32)), (.int (79 : Int32)), (.int (70 : Int32)), (.int (70 : Int32)), (.int (83 : Int32)), (.int (69 : Int32)), (.int (84 : Int32)), (.int (32 : Int32))]) ++ decV a) ++ [(.int (32 : Int32)), (.int (82 : Int32)), (.int (79 : Int32)), (.int (87 : Int32)), (.int (83 : Int32))])
def fetL (b : Int32) : List Value := if b = (2147483647 : Int32) then [] else ((([] ++ [(.int (32 : Int32)), (.int (70 : Int32)), (.int (69 : Int32)), (.int (84 : Int32)), (.int (67 : Int32)), (.int (72 : Int32)), (.int (32 : Int32)), (.int (70 : Int32)), (.int (73 : Int32)), (.int (82 : Int32)), (.int (83 : Int32)), (.int (84 : Int32)), (.int (32 : Int32))]) ++ decV b) ++ [(.int (32 : Int32)), (.int (82 : Int32)), (.int (79 : Int32)), (.int (87 : Int32)), (.int (83 : Int32)), (.int (32 : Int32)), (.int (79 : Int32)), (.int (78 : Int32)), (.int (76 : Int32)), (.int (89 : Int32))])
theorem offL_len {a : Int32} (h : ¬ (a = (0 : Int32))) : (((0 + 8) + wd a) + 5) = (offL a).length := by
  rw [offL, if_neg h]; simp [decV_len]; omega
theorem fetL_len {b : Int32} (h : ¬ (b = (2147483647 : Int32))) : (((0 + 13) + wd b) + 10) = (fetL b).length := by
  rw [fetL, if_neg h]; simp [decV_len]; omega
theorem offL_le (a : Int32) : (offL a).length ≤ 24 := by
  by_cases h : a = (0 : Int32)
  · rw [offL, if_pos h]; simp
  · have q := wd_le a
    rw [← offL_len h]; omega
theorem fetL_le (b : Int32) : (fetL b).length ≤ 34 := by
  by_cases h : b = (2147483647 : Int32)
  · rw [fetL, if_pos h]; simp
  · have q := wd_le b
    rw [← fetL_len h]; omega
theorem own_cp1 (a : Int32) : (ncap 16 (0 + 8) ≤ 128 ∧ 16 ≤ 128 ∧ 0 ≤ 16) ∧ (ncap (ncap 16 (0 + 8)) ((0 + 8) + wd a) ≤ 128 ∧ ncap 16 (0 + 8) ≤ 128 ∧ 0 + 8 ≤ ncap 16 (0 + 8)) ∧
    (ncap (ncap (ncap 16 (0 + 8)) ((0 + 8) + wd a)) (((0 + 8) + wd a) + 5) ≤ 128 ∧ ncap (ncap 16 (0 + 8)) ((0 + 8) + wd a) ≤ 128 ∧ (0 + 8) + wd a ≤ ncap (ncap 16 (0 + 8)) ((0 + 8) + wd a)) ∧
    (((0 + 8) + wd a) + 5 ≤ ncap (ncap (ncap 16 (0 + 8)) ((0 + 8) + wd a)) (((0 + 8) + wd a) + 5) ∧ ncap (ncap (ncap 16 (0 + 8)) ((0 + 8) + wd a)) (((0 + 8) + wd a) + 5) ≤ 128) := by
  have q := wd_le a
  have e : ncap 16 (0 + 8) = 16 := by decide
  rw [e]
  have f : ncap 16 ((0 + 8) + wd a) ≤ 34 ∧ 16 ≤ ncap 16 ((0 + 8) + wd a) := by unfold ncap mx; (repeat' split) <;> omega
  have g := ncap_ge 16 ((0 + 8) + wd a)
  generalize ncap 16 ((0 + 8) + wd a) = c at *
  have f2 : ncap c (((0 + 8) + wd a) + 5) ≤ 70 := by unfold ncap mx; (repeat' split) <;> omega
  have g2 := ncap_ge c (((0 + 8) + wd a) + 5)
  refine ⟨⟨by omega, by omega, by omega⟩, ⟨by omega, by omega, by omega⟩, ⟨by omega, by omega, by omega⟩, by omega, by omega⟩
theorem own_cp2 (b : Int32) : (ncap 16 (0 + 13) ≤ 128 ∧ 16 ≤ 128 ∧ 0 ≤ 16) ∧ (ncap (ncap 16 (0 + 13)) ((0 + 13) + wd b) ≤ 128 ∧ ncap 16 (0 + 13) ≤ 128 ∧ 0 + 13 ≤ ncap 16 (0 + 13)) ∧
    (ncap (ncap (ncap 16 (0 + 13)) ((0 + 13) + wd b)) (((0 + 13) + wd b) + 10) ≤ 128 ∧ ncap (ncap 16 (0 + 13)) ((0 + 13) + wd b) ≤ 128 ∧ (0 + 13) + wd b ≤ ncap (ncap 16 (0 + 13)) ((0 + 13) + wd b)) ∧
    (((0 + 13) + wd b) + 10 ≤ ncap (ncap (ncap 16 (0 + 13)) ((0 + 13) + wd b)) (((0 + 13) + wd b) + 10) ∧ ncap (ncap (ncap 16 (0 + 13)) ((0 + 13) + wd b)) (((0 + 13) + wd b) + 10) ≤ 128) := by
  have q := wd_le b
  have e : ncap 16 (0 + 13) = 16 := by decide
  rw [e]
  have f : ncap 16 ((0 + 13) + wd b) ≤ 34 ∧ 16 ≤ ncap 16 ((0 + 13) + wd b) := by unfold ncap mx; (repeat' split) <;> omega
  have g := ncap_ge 16 ((0 + 13) + wd b)
  generalize ncap 16 ((0 + 13) + wd b) = c at *
  have f2 : ncap c (((0 + 13) + wd b) + 10) ≤ 70 := by unfold ncap mx; (repeat' split) <;> omega
  have g2 := ncap_ge c (((0 + 13) + wd b) + 10)
  refine ⟨⟨by omega, by omega, by omega⟩, ⟨by omega, by omega, by omega⟩, ⟨by omega, by omega, by omega⟩, by omega, by omega⟩
theorem own_cp3 {z o f : Nat} (hz : z ≤ 2) (ho : o ≤ 24) (hf : f ≤ 34) : (ncap 16 (0 + z) ≤ 128 ∧ 16 ≤ 128 ∧ 0 ≤ 16) ∧ (ncap (ncap 16 (0 + z)) ((0 + z) + o) ≤ 128 ∧ ncap 16 (0 + z) ≤ 128 ∧ 0 + z ≤ ncap 16 (0 + z)) ∧
    (ncap (ncap (ncap 16 (0 + z)) ((0 + z) + o)) (((0 + z) + o) + f) ≤ 128 ∧ ncap (ncap 16 (0 + z)) ((0 + z) + o) ≤ 128 ∧ (0 + z) + o ≤ ncap (ncap 16 (0 + z)) ((0 + z) + o)) ∧
    (((0 + z) + o) + f ≤ ncap (ncap (ncap 16 (0 + z)) ((0 + z) + o)) (((0 + z) + o) + f) ∧ ncap (ncap (ncap 16 (0 + z)) ((0 + z) + o)) (((0 + z) + o) + f) ≤ 128) := by
  have e : ncap 16 (0 + z) = 16 := ncap_fit (by omega)
  rw [e]
  have q : ncap 16 ((0 + z) + o) ≤ 34 ∧ 16 ≤ ncap 16 ((0 + z) + o) := by unfold ncap mx; (repeat' split) <;> omega
  have g := ncap_ge 16 ((0 + z) + o)
  generalize ncap 16 ((0 + z) + o) = c at *
  have f2 : ncap c (((0 + z) + o) + f) ≤ 70 := by unfold ncap mx; (repeat' split) <;> omega
  have g2 := ncap_ge c (((0 + z) + o) + f)
  refine ⟨⟨by omega, by omega, by omega⟩, ⟨by omega, by omega, by omega⟩, ⟨by omega, by omega, by omega⟩, by omega, by omega⟩
def selL (n : Nat) (c0 c1 : Int32) : List Value := match n with
  | 0 => []
  | 1 => [(.int c0.toInt8.toInt32)]
  | _ => [(.int c0.toInt8.toInt32), (.int c1.toInt8.toInt32)]
theorem selL_len {n : Nat} {c0 c1 : Int32} (hn : n = 0 ∨ n = 1 ∨ n = 2) : (selL n c0 c1).length = n := by
  rcases hn with rfl | rfl | rfl <;> rfl
theorem own_lat' {c : Int32} (h : (c.toUInt32.toUInt16.toUInt32.toInt32) = c) (q : ¬ ((255 : Int32) < c)) : (c.toInt8.toInt32 &&& (255 : Int32)) = c := by
  have r := c_i2c c
  rw [h] at r
  rw [Int32.lt_iff_toInt_lt] at q
  have e : (255 : Int32).toInt = 255 := by decide
  have e3 : ((2 ^ 8 : Nat) : Int) = 256 := by decide
  have b := c_i2b c
  rw [← Int32.toInt_inj, c_mask _ 255 8 (by decide) (by decide), e3]
  omega
theorem own_and255 {n : Nat} (h : n < 256) : ((iN n) &&& (255 : Int32)) = iN n := by
  have e3 : ((2 ^ 8 : Nat) : Int) = 256 := by decide
  rw [← Int32.toInt_inj, c_mask _ 255 8 (by decide) (by decide), e3, iN_toInt (by omega)]
  omega
theorem getD_mid {A L B : List Value} {p k : Nat} {d : Value} (hA : A.length = p) (hk : k < L.length) : (A ++ L ++ B).getD (p + k) d = L.getD k d := by
  subst hA
  simp only [List.getD_eq_getElem?_getD]
  rw [List.append_assoc, List.getElem?_append_right (by omega), Nat.add_sub_cancel_left, List.getElem?_append_left hk]
abbrev RZ (n : Nat) (a b : Int32) : Nat := (((0 + n) + (offL a).length) + (fetL b).length)
abbrev RS (n : Nat) (a b c0 c1 : Int32) : List Value := ((([] ++ (selL n c0 c1)) ++ (offL a)) ++ (fetL b))
theorem own_at0 {n : Nat} {a b c0 c1 : Int32} (hn : n = 0 ∨ n = 1 ∨ n = 2) (hk : n ≥ 1) (f0 : (c0.toUInt32.toUInt16.toUInt32.toInt32) = c0) (q0 : ¬ ((255 : Int32) < c0)) : LatAt (RZ n a b) (RS n a b c0 c1) 0 c0 := by
  have h1 := offL_le a
  have h2 := fetL_le b
  rcases hn with rfl | rfl | rfl
  · omega
  · exact ⟨⟨by dsimp only [RZ]; omega, by dsimp only [RZ]; omega⟩, _, rfl, own_lat' f0 q0, f0⟩
  · exact ⟨⟨by dsimp only [RZ]; omega, by dsimp only [RZ]; omega⟩, _, rfl, own_lat' f0 q0, f0⟩
theorem own_at1 {n : Nat} {a b c0 c1 : Int32} (hn : n = 0 ∨ n = 1 ∨ n = 2) (hk : n ≥ 2) (f1 : (c1.toUInt32.toUInt16.toUInt32.toInt32) = c1) (q1 : ¬ ((255 : Int32) < c1)) : LatAt (RZ n a b) (RS n a b c0 c1) 1 c1 := by
  have h1 := offL_le a
  have h2 := fetL_le b
  rcases hn with rfl | rfl | rfl
  · omega
  · omega
  · exact ⟨⟨by dsimp only [RZ]; omega, by dsimp only [RZ]; omega⟩, _, rfl, own_lat' f1 q1, f1⟩
def isI : Value → Bool
  | .int _ => true
  | _ => false
theorem own_isI {ls : List Value} (h : ls.all isI = true) : ∀ k, k < ls.length → ∃ v : Int32, ls.getD k (.int (0 : Int32)) = (.int v) := fun k hk => by
  have q := List.all_eq_true.mp h _ (List.getElem_mem hk)
  have e : ls.getD k (.int (0 : Int32)) = ls[k] := by simp [List.getD_eq_getElem?_getD, List.getElem?_eq_getElem hk]
  rw [e]
  revert q
  cases ls[k] <;> simp [isI]
theorem own_litG {z p : Nat} {rs A ls B : List Value} (e : rs = A ++ ls ++ B) (hA : A.length = p) (hz : z = rs.length) (hb : z < 1000000) (hi : ls.all isI = true) : LitP z rs p ls := fun k => by
  have hl : rs.length = A.length + ls.length + B.length := by rw [e]; simp [Nat.add_assoc]
  by_cases hk : k < ls.length
  · obtain ⟨v, hv⟩ := own_isI hi k hk
    refine Or.inr ⟨hk, v &&& 255, ⟨⟨by omega, hb⟩, v, ?_, rfl, i2c_mask v⟩, ⟨⟨hk, by omega⟩, v, hv, rfl, i2c_mask v⟩⟩
    rw [e, getD_mid hA hk]; exact hv
  · exact Or.inl hk
theorem decM_getD {m k : Nat} (hk : k < nd m) : (decM m).getD k (.int (0 : Int32)) = (.int (iN (48 + m / 10 ^ (nd m - (k + 1)) % 10))) := by
  have e : nd m - 1 - k = nd m - (k + 1) := by omega
  simp [decM, List.getD_eq_getElem?_getD, List.getElem?_range hk, e]
theorem own_digAt {z p m k : Nat} {rs A B : List Value} (e : rs = A ++ decM m ++ B) (hA : A.length = p) (hz : z = rs.length) (hb : z < 1000000) (hk : k < nd m) : LatAt z rs (p + k) (iN (48 + m / 10 ^ (nd m - (k + 1)) % 10)) := by
  have hl : rs.length = A.length + nd m + B.length := by rw [e]; simp [Nat.add_assoc, decM_len]
  have hd : m / 10 ^ (nd m - (k + 1)) % 10 < 10 := Nat.mod_lt _ (by decide)
  refine ⟨⟨by omega, hb⟩, _, ?_, own_and255 (by omega), own_i2cN (by omega)⟩
  rw [e, getD_mid hA (by rw [decM_len]; exact hk)]
  exact decM_getD hk
theorem own_numG {z p : Nat} {v : Int32} {rs A B : List Value} (e : rs = A ++ decV v ++ B) (hA : A.length = p) (hz : z = rs.length) (hb : z < 1000000) : NumP z rs p v := by
  by_cases hv : v < (0 : Int32)
  · have e2 : rs = (A ++ [.int (45 : Int32)]) ++ decM (absN v) ++ B := by rw [e, decV, sgV, if_pos hv]; simp
    have e3 : rs = A ++ [.int (45 : Int32)] ++ (decM (absN v) ++ B) := by rw [e2]; simp
    have hl : rs.length = A.length + 1 + (decM (absN v) ++ B).length := by rw [e3]; simp; omega
    refine Or.inl ⟨hv, ⟨⟨by omega, hb⟩, (45 : Int32), ?_, by decide, by decide⟩, fun k hk => own_digAt e2 (by simp [hA]) hz hb hk⟩
    have q := getD_mid (A := A) (L := [.int (45 : Int32)]) (B := decM (absN v) ++ B) (p := p) (k := 0) (d := .int (0 : Int32)) hA (by decide)
    rw [e3]; exact q
  · have e2 : rs = A ++ decM (absN v) ++ B := by rw [e, decV, sgV, if_neg hv]; simp
    exact Or.inr ⟨hv, fun k hk => own_digAt e2 hA hz hb hk⟩
theorem own_rlen {n : Nat} {a b c0 c1 : Int32} (hn : n = 0 ∨ n = 1 ∨ n = 2) : (RZ n a b) = ((RS n a b c0 c1) : List Value).length ∧ (RZ n a b) < 1000000 := by
  have h1 := offL_le a
  have h2 := fetL_le b
  have h3 := selL_len (c0 := c0) (c1 := c1) hn
  unfold RZ RS
  constructor
  · simp only [List.length_append, List.nil_append, h3]; omega
  · omega
theorem own_lwO {n : Nat} {a b c0 c1 ho : Int32} (hn : n = 0 ∨ n = 1 ∨ n = 2) (hho : (¬ (a = (0 : Int32)) ∧ (1 : Int32) = ho) ∨ (a = (0 : Int32) ∧ (0 : Int32) = ho)) :
    (ho = (0 : Int32) ∧ n = (n + (offL a).length)) ∨ (¬ (ho = (0 : Int32)) ∧ (((n + 8) + wd a) + 5) = (n + (offL a).length) ∧ LitP (RZ n a b) (RS n a b c0 c1) n [(.int (32 : Int32)), (.int (79 : Int32)), (.int (70 : Int32)), (.int (70 : Int32)), (.int (83 : Int32)), (.int (69 : Int32)), (.int (84 : Int32)), (.int (32 : Int32))] ∧ NumP (RZ n a b) (RS n a b c0 c1) (n + 8) a ∧ LitP (RZ n a b) (RS n a b c0 c1) ((n + 8) + wd a) [(.int (32 : Int32)), (.int (82 : Int32)), (.int (79 : Int32)), (.int (87 : Int32)), (.int (83 : Int32))]) := by
  have hl := own_rlen (a := a) (b := b) (c0 := c0) (c1 := c1) hn
  have hs := selL_len (c0 := c0) (c1 := c1) hn
  rcases hho with ⟨ha, hh⟩ | ⟨ha, hh⟩
  · refine Or.inr ⟨fun q => by rw [q] at hh; exact absurd hh (by decide), by rw [← offL_len ha]; omega, ?_, ?_, ?_⟩
    · exact own_litG (A := selL n c0 c1) (B := decV a ++ ([(.int (32 : Int32)), (.int (82 : Int32)), (.int (79 : Int32)), (.int (87 : Int32)), (.int (83 : Int32))] ++ fetL b)) (by unfold RS; rw [offL, if_neg ha]; simp) hs hl.1 hl.2 (by decide)
    · exact own_numG (A := selL n c0 c1 ++ [(.int (32 : Int32)), (.int (79 : Int32)), (.int (70 : Int32)), (.int (70 : Int32)), (.int (83 : Int32)), (.int (69 : Int32)), (.int (84 : Int32)), (.int (32 : Int32))]) (B := [(.int (32 : Int32)), (.int (82 : Int32)), (.int (79 : Int32)), (.int (87 : Int32)), (.int (83 : Int32))] ++ fetL b) (by unfold RS; rw [offL, if_neg ha]; simp) (by simp [hs]) hl.1 hl.2
    · exact own_litG (A := selL n c0 c1 ++ [(.int (32 : Int32)), (.int (79 : Int32)), (.int (70 : Int32)), (.int (70 : Int32)), (.int (83 : Int32)), (.int (69 : Int32)), (.int (84 : Int32)), (.int (32 : Int32))] ++ decV a) (B := fetL b) (by unfold RS; rw [offL, if_neg ha]; simp) (by simp [hs, decV_len]; try omega) hl.1 hl.2 (by decide)
  · refine Or.inl ⟨hh.symm, ?_⟩
    rw [offL, if_pos ha]; rfl
theorem own_lwF {n : Nat} {a b c0 c1 hf : Int32} (hn : n = 0 ∨ n = 1 ∨ n = 2) (hhf : (¬ (b = (2147483647 : Int32)) ∧ (1 : Int32) = hf) ∨ (b = (2147483647 : Int32) ∧ (0 : Int32) = hf)) :
    (hf = (0 : Int32) ∧ (n + (offL a).length) = (if hf = (0 : Int32) then (n + (offL a).length) else ((n + (offL a).length) + 13) + wd b)) ∨ (¬ (hf = (0 : Int32)) ∧ (((n + (offL a).length) + 13) + wd b) = (if hf = (0 : Int32) then (n + (offL a).length) else ((n + (offL a).length) + 13) + wd b) ∧ LitP (RZ n a b) (RS n a b c0 c1) (n + (offL a).length) [(.int (32 : Int32)), (.int (70 : Int32)), (.int (69 : Int32)), (.int (84 : Int32)), (.int (67 : Int32)), (.int (72 : Int32)), (.int (32 : Int32)), (.int (70 : Int32)), (.int (73 : Int32)), (.int (82 : Int32)), (.int (83 : Int32)), (.int (84 : Int32)), (.int (32 : Int32))] ∧ NumP (RZ n a b) (RS n a b c0 c1) ((n + (offL a).length) + 13) b ∧ LitP (RZ n a b) (RS n a b c0 c1) (((n + (offL a).length) + 13) + wd b) [(.int (32 : Int32)), (.int (82 : Int32)), (.int (79 : Int32)), (.int (87 : Int32)), (.int (83 : Int32)), (.int (32 : Int32)), (.int (79 : Int32)), (.int (78 : Int32)), (.int (76 : Int32)), (.int (89 : Int32))]) := by
  have hl := own_rlen (a := a) (b := b) (c0 := c0) (c1 := c1) hn
  have hs := selL_len (c0 := c0) (c1 := c1) hn
  rcases hhf with ⟨hb, hh⟩ | ⟨hb, hh⟩
  · have hz : ¬ (hf = (0 : Int32)) := fun q => by rw [q] at hh; exact absurd hh (by decide)
    refine Or.inr ⟨hz, by rw [if_neg hz], ?_, ?_, ?_⟩
    · exact own_litG (A := selL n c0 c1 ++ offL a) (B := decV b ++ [(.int (32 : Int32)), (.int (82 : Int32)), (.int (79 : Int32)), (.int (87 : Int32)), (.int (83 : Int32)), (.int (32 : Int32)), (.int (79 : Int32)), (.int (78 : Int32)), (.int (76 : Int32)), (.int (89 : Int32))]) (by unfold RS; rw [fetL, if_neg hb]; simp) (by simp [hs]) hl.1 hl.2 (by decide)
    · exact own_numG (A := selL n c0 c1 ++ offL a ++ [(.int (32 : Int32)), (.int (70 : Int32)), (.int (69 : Int32)), (.int (84 : Int32)), (.int (67 : Int32)), (.int (72 : Int32)), (.int (32 : Int32)), (.int (70 : Int32)), (.int (73 : Int32)), (.int (82 : Int32)), (.int (83 : Int32)), (.int (84 : Int32)), (.int (32 : Int32))]) (B := [(.int (32 : Int32)), (.int (82 : Int32)), (.int (79 : Int32)), (.int (87 : Int32)), (.int (83 : Int32)), (.int (32 : Int32)), (.int (79 : Int32)), (.int (78 : Int32)), (.int (76 : Int32)), (.int (89 : Int32))]) (by unfold RS; rw [fetL, if_neg hb]; simp) (by simp [hs]; try omega) hl.1 hl.2
    · exact own_litG (A := selL n c0 c1 ++ offL a ++ [(.int (32 : Int32)), (.int (70 : Int32)), (.int (69 : Int32)), (.int (84 : Int32)), (.int (67 : Int32)), (.int (72 : Int32)), (.int (32 : Int32)), (.int (70 : Int32)), (.int (73 : Int32)), (.int (82 : Int32)), (.int (83 : Int32)), (.int (84 : Int32)), (.int (32 : Int32))] ++ decV b) (B := []) (by unfold RS; rw [fetL, if_neg hb]; simp) (by simp [hs, decV_len]; try omega) hl.1 hl.2 (by decide)
  · exact Or.inl ⟨hh.symm, by rw [if_pos hh.symm]⟩
theorem own_hasL {c : Cell} : ∀ (vs : List Value) (i : Nat), (∀ j v, vs[j]? = some v → c.slots[i + j]? = some v) → HasL c i vs
  | [], _, _ => trivial
  | v :: r, i, H => ⟨H 0 v rfl, own_hasL r (i + 1) fun j w q => by have z := H (j + 1) w q; rw [Nat.add_assoc, Nat.add_comm 1]; exact z⟩
theorem own_tab {Z : State} {args : Array Value} {t rhs : Term} {F : Nat → Int32} (hf : Fit Z) (hi : ∀ idx, t.eval args Z none idx Z = t.eval args Z none [] Z) (wa : (Cond.arrayClass .byte).before args Z = true) (w2 : (Cond.exactly t "[B").before args Z = true) (w3 : (Cond.eq (.length t) (.int 100)).before args Z = true)
    (w4 : (Cond.all t (.eq (.elem t (.index 0)) rhs)).before args Z = true) (hr : ∀ r, r < 100 → rhs.eval args Z none [r] Z = some (.int (F r))) :
    ∃ (d : Addr) (k : ClassId), t.eval args Z none [] Z = some (.ref d) ∧ @LT.lt Nat _ d Z.heap.size ∧ Arv Z Z.heap d k .byte (100 : Int32) ((List.range 100).map fun i => Value.int (F i)) (.int (0 : Int32)) := by
  obtain ⟨d, cB, D, kB, hev, hfc, hD, hkB, hst, hcls, -⟩ := Cond.exactly_spec w2
  have hl := Cond.eq_int w3 rfl
  obtain ⟨d', D', hev', hat, -⟩ := Term.length_spec hl
  cases hev.symm.trans hev'
  obtain ⟨hD', hkn, -, -⟩ := State.arrayAt?_spec hat
  cases hD.symm.trans hD'
  have h31 := SBG.length_lt hev hat hl
  obtain ⟨cA, kA, comp, hn, hkA, hkind⟩ := Cond.arrayClass_spec wa
  rw [show ("[" ++ FieldType.toString .byte) = "[B" from by decide] at hn
  cases hfc.symm.trans hn
  cases hkB.symm.trans hkA
  have hz : D.slots.size = 100 := by
    have q : (Term.length t).eval args Z none [] Z = some (.int (Int32.ofNat D.slots.size)) := by simp [Term.eval, hev, hat, h31]
    have r : Int32.ofNat D.slots.size = Int32.ofNat 100 := by simpa using Option.some.inj (q.symm.trans hl)
    have u := congrArg Int32.toInt r
    rw [Int32.toInt_ofNat_small h31, Int32.toInt_ofNat_small (by omega)] at u
    omega
  have el : ∀ r, r < 100 → D.slots[r]? = some (.int (F r)) := fun r h => by
    have q := Cond.all_elim hev hat (Cond.before_iff.mp w4) r (by omega)
    have ev : t.eval args Z none [r] Z = some (.ref d) := (hi _).trans hev
    have x := Cond.eq_int (beq_iff_eq.mpr q : (Cond.eq (.elem t (.index 0)) rhs).holds args Z none Z [r] = true) (hr r h)
    rw [SBG.elem_at (ix := .index 0) ev hat (by omega) h31 rfl] at x
    exact x
  refine ⟨d, D.cls, hev, (Array.getElem?_eq_some_iff.mp hD).1, Arv.start hf ⟨hD, ⟨(fun q h => by rw [h] at hst; cases hst), kB, by rw [hcls]; exact hkB, comp, hkind⟩, hkn⟩ h31 (by rw [hz]; rfl) (by decide) (by simp; try rfl) (own_hasL _ _ fun j v q => ?_)⟩
  rw [Nat.zero_add]
  rw [List.getElem?_map] at q
  by_cases hj : j < 100
  · rw [List.getElem?_range hj] at q
    cases q
    exact el j hj
  · rw [List.getElem?_eq_none (by simpa using hj)] at q
    cases q
theorem own_ccN (x : Int32) : ((x.toUInt32.toUInt16.toUInt32.toInt32).toUInt32.toUInt16.toUInt32.toInt32) = (x.toUInt32.toUInt16.toUInt32.toInt32) := by
  have q := c_i2c x
  have r := c_i2c (x.toUInt32.toUInt16.toUInt32.toInt32)
  exact Int32.toInt_inj.mp (by omega)
theorem own_qm (x : Int32) : ¬ ((255 : Int32) < ((x &&& (255 : Int32)).toUInt32.toUInt16.toUInt32.toInt32)) := by
  rw [i2c_mask]
  have q := c_and x 255 (by decide)
  rw [Int32.lt_iff_toInt_lt]
  have e : (255 : Int32).toInt = 255 := by decide
  omega
theorem own_n3 (y : Int32) : ∃ n : Nat, ((y &&& (32767 : Int32)) % (3 : Int32)) = iN n ∧ (n = 0 ∨ n = 1 ∨ n = 2) := by
  have h1 := c_and y 32767 (by decide)
  have h2 := (c_iremV (y &&& 32767) 3).1 h1.1 (by decide)
  have e5 : (3 : Int32).toInt = 3 := by decide
  refine ⟨((y &&& (32767 : Int32)) % (3 : Int32)).toInt.toNat, ?_, by omega⟩
  rw [← Int32.toInt_inj, iN_toInt (by omega)]
  omega
theorem own_pick (x m d e : Int32) : ∃ a, (¬ ((x &&& m) = (0 : Int32)) ∧ d = a) ∨ ((x &&& m) = (0 : Int32) ∧ e = a) := by
  by_cases h : (x &&& m) = (0 : Int32)
  · exact ⟨e, Or.inr ⟨h, rfl⟩⟩
  · exact ⟨d, Or.inl ⟨h, rfl⟩⟩
theorem own_flag (a c : Int32) : ∃ ho, (¬ (a = c) ∧ (1 : Int32) = ho) ∨ (a = c ∧ (0 : Int32) = ho) := by
  by_cases h : a = c
  · exact ⟨0, Or.inr ⟨h, rfl⟩⟩
  · exact ⟨1, Or.inl ⟨h, rfl⟩⟩
variable (l : Launch) (Z : State) (a0 : Array Value)
theorem own_decl {Z : State} {a0 : Array Value} {y : MethodName} {bytes : ByteArray} {ml : Nat} {rt : Option FieldType} (w1 : (Jvm.Cond.instanceMethod y).before a0 Z = true) (w2 : (Jvm.Cond.code y bytes ml rt).before a0 Z = true) : (Jvm.Cond.declares y).before a0 Z = true := by
  obtain ⟨m, meth, hn, hm, hst, -⟩ := Cond.instanceMethod_spec w1
  obtain ⟨meth', c, q1, -, -, -, -, -, -, hsig⟩ := Cond.code_spec hn w2
  cases hm.symm.trans q1
  simp [Cond.before, Cond.holds, Cond.value, hn, hm, hst, hsig]
theorem own_nf {s : State} {y z : MethodName} (h : NotFace s y) (hy : ∃ r, s.methodNamed? y = some r) (e : y.cls = z.cls) : NotFace s z := fun r0 h0 => by
  obtain ⟨r, hr⟩ := hy
  have e1 := findClass_of_methodNamed hr
  have e2 := findClass_of_methodNamed h0
  rw [e] at e1
  obtain ⟨k, q1, q2⟩ := h r hr
  exact ⟨k, by rw [← Option.some.inj (e1.symm.trans e2)]; exact q1, q2⟩
theorem own_same {Z : State} {a0 : Array Value} {y : MethodName} (hy : y.cls ≠ "java/lang/invoke/MethodHandle" ∧ y.cls ≠ "java/lang/invoke/VarHandle") (w1 : (Jvm.Cond.instanceMethod y).before a0 Z = true) (nf : NotFace Z y) : (Jvm.Cond.sameMethod y.cls y.cls y.name y.desc).before a0 Z = true := by
  obtain ⟨m, meth, hn, hm, hst, -⟩ := Cond.instanceMethod_spec w1
  have hf := State.methodFound?_of_named hn hy
  have hc := findClass_of_methodNamed hn
  obtain ⟨k, q1, q2⟩ := nf m hn
  simp [Cond.before, Cond.holds, Cond.value, hc, hf, hn, q1, q2]
theorem own_sle {a b : Nat} (h : a ≤ b) (hb : b < 1000000) : ¬ ((0 : Int32) < (iN a) - (iN b)) := by
  rw [Int32.lt_iff_toInt_lt, Int32.toInt_sub, iN_toInt (by omega), iN_toInt hb]
  have e : (0 : Int32).toInt = 0 := rfl
  have q := bm32 ((a : Int) - b)
  have r := rng32 ((iN a) - (iN b))
  rw [Int32.toInt_sub, iN_toInt (by omega), iN_toInt hb] at r
  omega
theorem own_sgt {a b : Nat} (h : b < a) (ha : a < 1000000) : (0 : Int32) < (iN a) - (iN b) := by
  rw [iN_sub (by omega) ha, Int32.lt_iff_toInt_lt, iN_toInt (by omega)]
  have e : (0 : Int32).toInt = 0 := rfl
  omega
theorem own_pos {a : Nat} (h : 0 < a) (ha : a < 1000000) : (0 : Int32) < (iN a) := by
  rw [Int32.lt_iff_toInt_lt, iN_toInt ha]; have e : (0 : Int32).toInt = 0 := rfl; omega
theorem own_big {a : Nat} (ha : a < 1000000) : ¬ ((2147483639 : Int32) < (iN a)) := by
  rw [Int32.lt_iff_toInt_lt, iN_toInt ha]; have e : (2147483639 : Int32).toInt = 2147483639 := rfl; omega
theorem own_max {a : Nat} (ha : a < 1000000) : ¬ ((iN a) = (2147483647 : Int32)) := by
  rw [← Int32.toInt_inj, iN_toInt ha]; have e : (2147483647 : Int32).toInt = 2147483647 := rfl; omega
theorem own_unpad {Z : State} {h : Heap} {a : Addr} {k : ClassId} {ty : FieldType} {z : Int32} {d : Value} (n : Nat) (V : Arv Z h a k ty z (List.replicate n d) d) : Arv Z h a k ty z [] d := V.pad fun i => by
  simp only [List.getD_eq_getElem?_getD, List.getElem?_replicate]
  by_cases q : i < n <;> simp [q]
theorem own_push {xs : List Value} {d v : Value} {n : Nat} (h : xs.length = n) : (xs ++ List.replicate 1 d).set n v = xs ++ [v] := by subst h; simp
theorem own_rt (x : Int32) : ((x &&& (255 : Int32)).toInt8.toInt32 &&& (255 : Int32)) = x &&& (255 : Int32) := by
  have h1 := c_and x 255 (by decide)
  have e : (255 : Int32).toInt = 255 := by decide
  rw [← Int32.toInt_inj, c_mask _ 255 8 (by decide) (by decide)]
  have h2 := c_i2b (x &&& 255)
  have h3 : ((2 ^ 8 : Nat) : Int) = 256 := by decide
  rw [h3]
  omega
theorem own_retc (v : Int32) : (some (Value.int (nar .char (v &&& (255 : Int32)))) : Option Value) = some (.int (v &&& (255 : Int32))) := by
  show some (Value.int ((v &&& 255).toUInt32.toUInt16.toUInt32.toInt32)) = _
  rw [i2c_mask]
theorem own_and3 (x : Int32) : (x &&& (3 : Int32)) = 0 ∨ (x &&& (3 : Int32)) = 1 ∨ (x &&& (3 : Int32)) = 2 ∨ (x &&& (3 : Int32)) = 3 := by
  have h1 := c_and x 3 (by decide)
  have e : (3 : Int32).toInt = 3 := by decide
  rw [e] at h1
  have h0 : (x &&& 3).toInt = 0 ∨ (x &&& 3).toInt = 1 ∨ (x &&& 3).toInt = 2 ∨ (x &&& 3).toInt = 3 := by omega
  rcases h0 with q | q | q | q
  · exact Or.inl (Int32.toInt_inj.mp (by rw [q]; rfl))
  · exact Or.inr (Or.inl (Int32.toInt_inj.mp (by rw [q]; rfl)))
  · exact Or.inr (Or.inr (Or.inl (Int32.toInt_inj.mp (by rw [q]; rfl))))
  · exact Or.inr (Or.inr (Or.inr (Int32.toInt_inj.mp (by rw [q]; rfl))))
abbrev c42_152 := jdk_42_method_152_code
theorem g42_152_0 : decode c42_152 0 = .ok (.getstatic 38, 3) ∧ decode c42_152 3 = .ok (.ifCond .eq 10, 3) ∧ decode c42_152 6 = .ok (.aload_n 0, 1) ∧ decode c42_152 7 = .ok (.getfield 15, 3) := by decide +kernel
theorem g42_152_1 : decode c42_152 10 = .ok (.goto 4, 3) ∧ decode c42_152 14 = .ok (.ireturn, 1) := by decide +kernel
abbrev r0_0_0_0 : Room := { frames := 0, cells := 0, slots := 0, locals := 0 }
abbrev y0_ : MethodName := ⟨"java/lang/String", "coder", "()B"⟩
theorem pn_java_lang_String : plainName "java/lang/String" = true := by first | (simp [plainName, overriddenIn]; done) | decide +kernel
def Q_coder (Z : State) (t : Addr) (cs : Int32) (fo : Value) (da : Addr) (ea : Addr) (h0 : Heap) (n0 : Nat) (xv : Option Value) (xh : Heap) (xL : List Loc) : Prop := xv = some (.int (0 : Int32)) ∧ Fr n0 xL ∧ xh = h0
theorem ef_coder (mM : MethodId) (t : Addr) (cs : Int32) (fo : Value) (da : Addr) (ea : Addr) : entryFrame mM #[(.ref t)] 1 = mkF mM 0 #[.val (.ref t)] [] := by
  first | (simp [entryFrame, mkF, argsToLocals, Value.category]; done) | rfl
theorem rm_coder (hw : HW a0 Z) (ws : List Jvm.Cond) (t : Addr) (cs : Int32) (fo : Value) (da : Addr) (ea : Addr) (h0 : Heap) (n0 : Nat) (Z0 : n0 ≤ h0.size) (F_coder_t : Fld Z h0 t "java/lang/String" "coder" "B" (.int (0 : Int32))) (OL : Old Z n0 h0) (SX : Sts Z cs fo da ea) :
    MF l y0_ jdk_42_method_152_code 1 (some .byte) ws r0_0_0_0 #[(.ref t)] Z h0 (Q_coder Z t cs fo da ea h0 n0) := by
  refine MetFree.of_bodySF (plainFor_of_name pn_java_lang_String) hisR ?_
  intro pP eE sS mM aS bS mS cC s₁ Bd hml0 hP hK
  obtain ⟨rfl, hZ, hh⟩ := hP
  have hx := Bd.exec
  have hj := Bd.bytes
  have hml : cC.maxLocals = 1 := hml0
  have hown : sS.vm.findClass "java/lang/String" = some mM.cls := findClass_of_methodNamed Bd.named
  have X0 : Stand pP l eE r0_0_0_0 sS mM _ bS mS cC s₁ [] 0 0 := Stand.of_body Bd
  have e0 : s₁.heap = h0 := by rw [← hh, Bd.state]; rfl
  have N0 := Fr.nil n0
  have c101_S_COMPACT_STRINGS : Sta Z h0 "java/lang/String" "COMPACT_STRINGS" "Z" (.int cs) := Sta.ext OL.2 SX.1
  obtain ⟨T102, X102, e102, st102⟩ := getS2 X0 hx hZ hown (host := "") (Or.inl (wi hw 17 rfl)) Via.refl e0 c101_S_COMPACT_STRINGS (g := (mkF mM 0 #[.val (.ref t)] [])) rfl (hb hj g42_152_0.1)
  obtain ⟨T103, X103, e103, st103⟩ := getF X102 hx hZ hown (host := "") (Or.inl (wi hw 34 rfl)) Via.refl e102 F_coder_t (g := (mkF mM 7 #[.val (.ref t)] [(.ref t)])) rfl rfl (hb hj g42_152_0.2.2.2)
  obtain ⟨fs, hr, hrun, hended, hW, hsame⟩ := X103.leave (v := some (.int (0 : Int32))) (fun h => by rw [Bd.returns] at h; cases h)
  refine ⟨_, _, castTop (ef_coder mM t cs fo da ea) ?_, hrun, hended, _, _, rfl, ?_, ⟨_, rfl⟩, hW, hsame.mono (by decide) (by decide)⟩
  · show SS pP eE bS s₁ (mkF mM 0 #[.val (.ref t)] []) _
    refine st102 _ ?_
    refine XS.ifNo X102.here hx rfl (hb hj g42_152_0.2.1) rfl ((if0 _ _).trans (feq SX.2.1).1) ?_
    refine XS.aloadN X102.here hx rfl (hb hj g42_152_0.2.2.1) rfl rfl ?_
    refine st103 _ ?_
    refine XS.goto X103.here hx rfl (pc0 := 10) (pc' := 14) rfl (hb hj g42_152_1.1) (by decide) (by decide) ?_
    exact retN X103 hx (t := .byte) Bd.returns (by simp) (hb hj g42_152_1.2) hr
  · show Q_coder Z t cs fo da ea h0 n0 _ T103.heap _
    rw [e103]
    exact ⟨rfl, N0, rfl⟩
abbrev c42_54 := jdk_42_method_54_code
theorem g42_54_0 : decode c42_54 0 = .ok (.aload_n 0, 1) ∧ decode c42_54 1 = .ok (.getfield 9, 3) ∧ decode c42_54 4 = .ok (.arraylength, 1) ∧ decode c42_54 5 = .ok (.aload_n 0, 1) := by decide +kernel
theorem g42_54_1 : decode c42_54 6 = .ok (.invokevirtual 335, 3) ∧ decode c42_54 9 = .ok (.ishr, 1) ∧ decode c42_54 10 = .ok (.ireturn, 1) := by decide +kernel
theorem pd_10 : parseMethodDescriptor "()B" = some ⟨[], some .byte⟩ := by decide +kernel
abbrev r1_0_0_13 : Room := { frames := 1, cells := 0, slots := 0, locals := 13 }
abbrev y1_ : MethodName := ⟨"java/lang/String", "length", "()I"⟩
def Q_length (Z : State) (t : Addr) (tb : Addr) (tk : ClassId) (z : Nat) (ys : List Value) (cs : Int32) (fo : Value) (da : Addr) (ea : Addr) (h0 : Heap) (n0 : Nat) (xv : Option Value) (xh : Heap) (xL : List Loc) : Prop := xv = some (.int (iN z)) ∧ Fr n0 xL ∧ xh = h0
theorem ef_length (mM : MethodId) (t : Addr) (tb : Addr) (tk : ClassId) (z : Nat) (ys : List Value) (cs : Int32) (fo : Value) (da : Addr) (ea : Addr) : entryFrame mM #[(.ref t)] 1 = mkF mM 0 #[.val (.ref t)] [] := by
  first | (simp [entryFrame, mkF, argsToLocals, Value.category]; done) | rfl
theorem rm_length (hw : HW a0 Z) (ws : List Jvm.Cond) (t : Addr) (tb : Addr) (tk : ClassId) (z : Nat) (ys : List Value) (cs : Int32) (fo : Value) (da : Addr) (ea : Addr) (h0 : Heap) (n0 : Nat) (Z0 : n0 ≤ h0.size) (A_t : StrA Z h0 t tb tk z ys) (OL : Old Z n0 h0) (SX : Sts Z cs fo da ea) :
    MF l y1_ jdk_42_method_54_code 1 (some .int) ws r1_0_0_13 #[(.ref t)] Z h0 (Q_length Z t tb tk z ys cs fo da ea h0 n0) := by
  refine MetFree.of_bodySF (plainFor_of_name pn_java_lang_String) hisR ?_
  intro pP eE sS mM aS bS mS cC s₁ Bd hml0 hP hK
  obtain ⟨rfl, hZ, hh⟩ := hP
  have hx := Bd.exec
  have hj := Bd.bytes
  have hml : cC.maxLocals = 1 := hml0
  have hown : sS.vm.findClass "java/lang/String" = some mM.cls := findClass_of_methodNamed Bd.named
  have X0 : Stand pP l eE r1_0_0_13 sS mM _ bS mS cC s₁ [] 0 0 := Stand.of_body Bd
  have e0 : s₁.heap = h0 := by rw [← hh, Bd.state]; rfl
  have N0 := Fr.nil n0
  obtain ⟨T101, X101, e101, st101⟩ := getF X0 hx hZ hown (host := "") (Or.inl (wi hw 33 rfl)) Via.refl e0 A_t.2.1 (g := (mkF mM 1 #[.val (.ref t)] [(.ref t)])) rfl rfl (hb hj g42_54_0.2.1)
  obtain ⟨cl102, Ar102, q102, S102, Ng102, Ha102, Ga102⟩ := id A_t.2.2.2
  obtain ⟨cq103, kq103, q103a, q103b, q103c⟩ := isOf hZ e101 A_t.1
  obtain ⟨_, _, ⟨T103, L103, k103, n103⟩, -, X103, ⟨Lc103, hQ103, l103, y103, z103⟩, st103⟩ := X101.virtualBack hx (y := y0_) (z := y0_) hown (mvT hZ (wi hw 69 rfl)) (mvT hZ (wi hw 70 rfl)) (notFace_of_selects (args := #[]) (mvT hZ (wi hw 72 rfl))) (mvT hZ (wi hw 72 rfl)) (mvT hZ (wi hw 71 rfl)) (by decide) (backOf (W := 1) (rm_coder l Z a0 hw [] t cs fo da ea h0 n0 (by omega) A_t.2.2.1 OL SX) hZ (wi hw 73 rfl) (wi hw 1 rfl) (by decide) (by decide)) q103a q103c (g := (mkF mM 6 #[.val (.ref t)] [(.ref t), (.int (iN z))])) rfl hml.symm (Steps.refl _) (argsL := []) (rest := [(.int (iN z))]) (lenOf pd_10 rfl) rfl (W0 rfl) (hb hj g42_54_1.1) (fun _ _ => ⟨rfl, e101, ble rfl, ble rfl⟩)
  dsimp only [Pt.U, Pt.locs, Pt.cells, Pt.slots] at X103 l103 y103 z103 st103 hQ103
  subst y103 z103
  obtain ⟨h103, e103⟩ : ∃ z, T103.heap = z := ⟨_, rfl⟩
  rw [e103] at hQ103
  obtain ⟨rfl, N103q, eq103⟩ := hQ103
  rw [eq103] at e103
  have N103 : Fr n0 L103 := by rw [l103]; exact Fr.app N0 N103q
  obtain ⟨fs, hr, hrun, hended, hW, hsame⟩ := X103.leave (v := some (.int (iN z))) (fun h => by rw [Bd.returns] at h; cases h)
  refine ⟨_, _, castTop (ef_length mM t tb tk z ys cs fo da ea) ?_, hrun, hended, _, _, rfl, ?_, ⟨_, rfl⟩, hW, hsame.mono (by decide) (by decide)⟩
  · show SS pP eE bS s₁ (mkF mM 0 #[.val (.ref t)] []) _
    refine XS.aloadN X0.here hx rfl (hb hj g42_54_0.1) rfl rfl ?_
    refine st101 _ ?_
    refine X101.arraylength hx (by rw [e101]; exact Ar102.1) (State.isArrayOf_alike hZ.alike Ar102.2.1) (g := (mkF mM 4 #[.val (.ref t)] [(.ref tb)])) rfl rfl (hb hj g42_54_0.2.2.1) _ ?_
    rw [len_of S102 Ng102]
    refine XS.aloadN X101.here hx rfl (hb hj g42_54_0.2.2.2) rfl rfl ?_
    refine st103.trans ?_
    refine XS.ishr X103.here hx rfl (hb hj g42_54_1.2.1) rfl ?_
    show SS pP eE bS T103 (mkF mM 10 #[.val (.ref t)] [(.int ((iN z) >>> ((0 : Int32) &&& 31)))]) _
    rw [show ((iN z) >>> ((0 : Int32) &&& 31)) = (iN z) from shr0 _]
    exact retI X103 hx Bd.returns (hb hj g42_54_1.2.2) hr
  · show Q_length Z t tb tk z ys cs fo da ea h0 n0 _ T103.heap _
    rw [e103]
    exact ⟨rfl, N103, rfl⟩
abbrev c68_2 := jdk_68_method_2_code
theorem g68_2_0 : decode c68_2 0 = .ok (.aload_n 0, 1) ∧ decode c68_2 1 = .ok (.invokespecial 3, 3) ∧ decode c68_2 4 = .ok (.getstatic 18, 3) ∧ decode c68_2 7 = .ok (.ifCond .eq 18, 3) := by decide +kernel
theorem g68_2_1 : decode c68_2 10 = .ok (.aload_n 0, 1) ∧ decode c68_2 11 = .ok (.iload_n 1, 1) ∧ decode c68_2 12 = .ok (.newarray .byte, 2) ∧ decode c68_2 14 = .ok (.putfield 15, 3) := by decide +kernel
theorem g68_2_2 : decode c68_2 17 = .ok (.aload_n 0, 1) ∧ decode c68_2 18 = .ok (.iconst 0, 1) ∧ decode c68_2 19 = .ok (.putfield 22, 3) ∧ decode c68_2 22 = .ok (.goto 16, 3) := by decide +kernel
theorem g68_2_3 : decode c68_2 38 = .ok (.return_, 1) := by decide +kernel
abbrev r1_1_16_12 : Room := { frames := 1, cells := 1, slots := 16, locals := 12 }
abbrev y2_ : MethodName := ⟨"java/lang/AbstractStringBuilder", "<init>", "(I)V"⟩
theorem pn_java_lang_AbstractStringBuilder : plainName "java/lang/AbstractStringBuilder" = true := by first | (simp [plainName, overriddenIn]; done) | decide +kernel
def Q_asb_init (Z : State) (o : Addr) (u1 : Value) (u2 : Value) (u3 : Value) (cs : Int32) (fo : Value) (da : Addr) (ea : Addr) (h0 : Heap) (n0 : Nat) (xv : Option Value) (xh : Heap) (xL : List Loc) : Prop := ∃ b : Addr, ∃ k : ClassId, xv = none ∧ Fr n0 xL ∧ Keep h0 xh [o] ∧ Exa Z xh o "java/lang/StringBuilder" ∧ Fld Z xh o "java/lang/AbstractStringBuilder" "value" "[B" (.ref b) ∧ Fld Z xh o "java/lang/AbstractStringBuilder" "coder" "B" (.int (0 : Int32)) ∧ Fld Z xh o "java/lang/AbstractStringBuilder" "count" "I" u3 ∧ Arv Z xh b k .byte (iN 16) [] (.int (0 : Int32)) ∧ @LE.le Nat _ h0.size b ∧ Exa Z xh b "[B"
theorem ef_asb_init (mM : MethodId) (o : Addr) (u1 : Value) (u2 : Value) (u3 : Value) (cs : Int32) (fo : Value) (da : Addr) (ea : Addr) : entryFrame mM #[(.ref o), (.int (16 : Int32))] 2 = mkF mM 0 #[.val (.ref o), .val (.int (16 : Int32))] [] := by
  first | (simp [entryFrame, mkF, argsToLocals, Value.category]; done) | rfl
theorem rm_asb_init (hw : HW a0 Z) (ws : List Jvm.Cond) (o : Addr) (u1 : Value) (u2 : Value) (u3 : Value) (cs : Int32) (fo : Value) (da : Addr) (ea : Addr) (h0 : Heap) (n0 : Nat) (Z0 : n0 ≤ h0.size) (E_o : Exa Z h0 o "java/lang/StringBuilder") (F_value_o : Fld Z h0 o "java/lang/AbstractStringBuilder" "value" "[B" u1) (F_coder_o : Fld Z h0 o "java/lang/AbstractStringBuilder" "coder" "B" u2) (F_count_o : Fld Z h0 o "java/lang/AbstractStringBuilder" "count" "I" u3) (g_o : @LE.le Nat _ n0 o) (OL : Old Z n0 h0) (SX : Sts Z cs fo da ea) :
    MF l y2_ jdk_68_method_2_code 2 none ws r1_1_16_12 #[(.ref o), (.int (16 : Int32))] Z h0 (Q_asb_init Z o u1 u2 u3 cs fo da ea h0 n0) := by
  refine MetFree.of_bodySF (plainFor_of_name pn_java_lang_AbstractStringBuilder) hisR ?_
  intro pP eE sS mM aS bS mS cC s₁ Bd hml0 hP hK
  obtain ⟨rfl, hZ, hh⟩ := hP
  have hx := Bd.exec
  have hj := Bd.bytes
  have hml : cC.maxLocals = 2 := hml0
  have hown : sS.vm.findClass "java/lang/AbstractStringBuilder" = some mM.cls := findClass_of_methodNamed Bd.named
  have X0 : Stand pP l eE r1_1_16_12 sS mM _ bS mS cC s₁ [] 0 0 := Stand.of_body Bd
  have e0 : s₁.heap = h0 := by rw [← hh, Bd.state]; rfl
  have N0 := Fr.nil n0
  obtain ⟨T101, X101, e101, st101⟩ := initO X0 hx hZ hown (wi hw 47 rfl) (wi hw 31 rfl) (wi hw 32 rfl) e0 (g := (mkF mM 1 #[.val (.ref o), .val (.int (16 : Int32))] [(.ref o)])) rfl hml.symm rfl (hb hj g68_2_0.2.1) (by decide) (W := 0) (W0 rfl) (by decide)
  have c102_S_COMPACT_STRINGS : Sta Z h0 "java/lang/String" "COMPACT_STRINGS" "Z" (.int cs) := Sta.ext OL.2 SX.1
  obtain ⟨T103, X103, e103, st103⟩ := getS2 X101 hx hZ hown (host := "") (Or.inl (wi hw 48 rfl)) Via.refl e101 c102_S_COMPACT_STRINGS (g := (mkF mM 4 #[.val (.ref o), .val (.int (16 : Int32))] [])) rfl (hb hj g68_2_0.2.2.1)
  obtain ⟨T104, h104, k104, X104, e104, E104, A104, B104, st104⟩ := newPE X103 hx hZ (wi hw 3 rfl) e103 (g := (mkF mM 12 #[.val (.ref o), .val (.int (16 : Int32))] [(.int (16 : Int32)), (.ref o)])) rfl (hb hj g68_2_1.2.2.1) rfl (by decide) (cap := 16) (by decide) (by decide) (by decide) (by decide) (ad := "[B") (by decide)
  obtain ⟨b104, g104⟩ : ∃ z : Nat, z = h0.size := ⟨_, rfl⟩
  rw [← g104] at A104 B104 st104
  have Sz1 : h0.size ≤ h104.size := E104.1
  have V_b104 : Arv Z h104 b104 k104 .byte (16 : Int32) [(.int (0 : Int32)), (.int (0 : Int32)), (.int (0 : Int32)), (.int (0 : Int32)), (.int (0 : Int32)), (.int (0 : Int32)), (.int (0 : Int32)), (.int (0 : Int32)), (.int (0 : Int32)), (.int (0 : Int32)), (.int (0 : Int32)), (.int (0 : Int32)), (.int (0 : Int32)), (.int (0 : Int32)), (.int (0 : Int32)), (.int (0 : Int32))] (.int (0 : Int32)) := (Arv.new A104 (by decide)).pad (pad_rep [] (.int (0 : Int32)) 16)
  have c105_F_value_o : Fld Z h104 o "java/lang/AbstractStringBuilder" "value" "[B" u1 := Fld.ext E104 F_value_o
  have c106_E_o : Exa Z h104 o "java/lang/StringBuilder" := Exa.ext E104 E_o
  obtain ⟨T107, h107, X107, e107, W107, st107⟩ := putF X104 hx hZ hown (host := "") (Or.inl (wi hw 49 rfl)) Via.refl e104 c105_F_value_o c106_E_o (Or.inl (wi hw 50 rfl)) (wi hw 36 rfl) (ty := (.array .byte)) (by decide) rfl rfl (g := (mkF mM 14 #[.val (.ref o), .val (.int (16 : Int32))] [(.ref b104), (.ref o)])) rfl rfl (hb hj g68_2_1.2.2.2)
  have Sz2 : h104.size ≤ h107.size := Nat.le_of_eq (Wr.size W107).symm
  have Fw107 : Fld Z h107 o "java/lang/AbstractStringBuilder" "value" "[B" (.ref b104) := Fld.same W107 c105_F_value_o
  have N107 := Fr.snoc X107 N0 g_o
  have c108_F_coder_o : Fld Z h104 o "java/lang/AbstractStringBuilder" "coder" "B" u2 := Fld.ext E104 F_coder_o
  have c109_F_coder_o : Fld Z h107 o "java/lang/AbstractStringBuilder" "coder" "B" u2 := Fld.other W107 c108_F_coder_o (Or.inr (slot_ne (Or.inl (wi hw 52 rfl)) (Or.inl (wi hw 50 rfl)) (by decide) (t := .byte) (t' := (.array .byte)) (by decide) (by decide)))
  have c110_E_o : Exa Z h107 o "java/lang/StringBuilder" := Exa.wr W107 c106_E_o
  obtain ⟨T111, h111, X111, e111, W111, st111⟩ := putFN X107 hx hZ hown (wi hw 51 rfl) Via.refl e107 c109_F_coder_o c110_E_o (Or.inl (wi hw 52 rfl)) (wi hw 36 rfl) (ty := .byte) (v' := (.int (0 : Int32))) (by decide) (rfl) (rfl) (g := (mkF mM 19 #[.val (.ref o), .val (.int (16 : Int32))] [(.int (0 : Int32)), (.ref o)])) rfl rfl (hb hj g68_2_2.2.2.1)
  have Sz3 : h107.size ≤ h111.size := Nat.le_of_eq (Wr.size W111).symm
  have Fw111 : Fld Z h111 o "java/lang/AbstractStringBuilder" "coder" "B" (.int (0 : Int32)) := Fld.same W111 c109_F_coder_o
  have N111 := Fr.snoc X111 N107 g_o
  have c112_F_value_o : Fld Z h111 o "java/lang/AbstractStringBuilder" "value" "[B" (.ref b104) := Fld.other W111 Fw107 (Or.inr (slot_ne (Or.inl (wi hw 50 rfl)) (Or.inl (wi hw 52 rfl)) (by decide) (t := (.array .byte)) (t' := .byte) (by decide) (by decide)))
  have lt_b104 : @LT.lt Nat _ b104 h104.size := B104.lt
  have lt_o : @LT.lt Nat _ o h0.size := E_o.lt
  have ne_b104_o_113 : b104 ≠ o := (by omega : @Ne Nat b104 o)
  have c114_V_b104 : Arv Z h107 b104 k104 .byte (16 : Int32) [(.int (0 : Int32)), (.int (0 : Int32)), (.int (0 : Int32)), (.int (0 : Int32)), (.int (0 : Int32)), (.int (0 : Int32)), (.int (0 : Int32)), (.int (0 : Int32)), (.int (0 : Int32)), (.int (0 : Int32)), (.int (0 : Int32)), (.int (0 : Int32)), (.int (0 : Int32)), (.int (0 : Int32)), (.int (0 : Int32)), (.int (0 : Int32))] (.int (0 : Int32)) := V_b104.other W107 ne_b104_o_113
  have c115_V_b104 : Arv Z h111 b104 k104 .byte (16 : Int32) [(.int (0 : Int32)), (.int (0 : Int32)), (.int (0 : Int32)), (.int (0 : Int32)), (.int (0 : Int32)), (.int (0 : Int32)), (.int (0 : Int32)), (.int (0 : Int32)), (.int (0 : Int32)), (.int (0 : Int32)), (.int (0 : Int32)), (.int (0 : Int32)), (.int (0 : Int32)), (.int (0 : Int32)), (.int (0 : Int32)), (.int (0 : Int32))] (.int (0 : Int32)) := c114_V_b104.other W111 ne_b104_o_113
  have Vz : Arv Z h111 b104 k104 .byte (iN 16) [] (.int (0 : Int32)) := own_unpad 16 c115_V_b104
  have c116_E_o : Exa Z h111 o "java/lang/StringBuilder" := Exa.wr W111 c110_E_o
  have c117_F_count_o : Fld Z h104 o "java/lang/AbstractStringBuilder" "count" "I" u3 := Fld.ext E104 F_count_o
  have c118_F_count_o : Fld Z h107 o "java/lang/AbstractStringBuilder" "count" "I" u3 := Fld.other W107 c117_F_count_o (Or.inr (slot_ne (Or.inl (wi hw 75 rfl)) (Or.inl (wi hw 50 rfl)) (by decide) (t := .int) (t' := (.array .byte)) (by decide) (by decide)))
  have c119_F_count_o : Fld Z h111 o "java/lang/AbstractStringBuilder" "count" "I" u3 := Fld.other W111 c118_F_count_o (Or.inr (slot_ne (Or.inl (wi hw 75 rfl)) (Or.inl (wi hw 52 rfl)) (by decide) (t := .int) (t' := .byte) (by decide) (by decide)))
  have c120_E_b104 : Exa Z h107 b104 "[B" := Exa.wr W107 B104
  have c121_E_b104 : Exa Z h111 b104 "[B" := Exa.wr W111 c120_E_b104
  have K122 : Keep h0 h104 [o] := (Keep.refl h0 [o]).ext E104
  have K123 : Keep h0 h107 [o] := K122.wr W107 (Or.inl (List.mem_of_getElem? (i := 0) rfl))
  have K124 : Keep h0 h111 [o] := K123.wr W111 (Or.inl (List.mem_of_getElem? (i := 0) rfl))
  obtain ⟨fs, hr, hrun, hended, hW, hsame⟩ := X111.leave (v := none) (fun _ => rfl)
  refine ⟨_, _, castTop (ef_asb_init mM o u1 u2 u3 cs fo da ea) ?_, hrun, hended, _, _, rfl, ?_, ⟨_, rfl⟩, hW, hsame.mono (by decide) (by decide)⟩
  · show SS pP eE bS s₁ (mkF mM 0 #[.val (.ref o), .val (.int (16 : Int32))] []) _
    refine XS.aloadN X0.here hx rfl (hb hj g68_2_0.1) rfl rfl ?_
    refine st101 _ ?_
    refine st103 _ ?_
    refine XS.ifNo X103.here hx rfl (hb hj g68_2_0.2.2.2) rfl ((if0 _ _).trans (feq SX.2.1).1) ?_
    refine XS.aloadN X103.here hx rfl (hb hj g68_2_1.1) rfl rfl ?_
    refine XS.iloadN X103.here hx rfl (hb hj g68_2_1.2.1) rfl ?_
    refine st104 _ ?_
    refine st107 _ ?_
    refine XS.aloadN X107.here hx rfl (hb hj g68_2_2.1) rfl rfl ?_
    refine XS.iconst X107.here hx rfl (hb hj g68_2_2.2.1) ?_
    refine st111 _ ?_
    refine XS.goto X111.here hx rfl (pc0 := 22) (pc' := 38) rfl (hb hj g68_2_2.2.2.2) (by decide) (by decide) ?_
    exact X111.returnOut hx Bd.returns (hb hj g68_2_3) hr
  · show Q_asb_init Z o u1 u2 u3 cs fo da ea h0 n0 _ T111.heap _
    rw [e111]
    exact ⟨b104, k104, rfl, N111, K124, c116_E_o, c112_F_value_o, Fw111, c119_F_count_o, Vz, (by omega), c121_E_b104⟩
abbrev c67_1 := jdk_67_method_1_code
theorem g67_1_0 : decode c67_1 0 = .ok (.aload_n 0, 1) ∧ decode c67_1 1 = .ok (.bipush 16, 2) ∧ decode c67_1 3 = .ok (.invokespecial 1, 3) ∧ decode c67_1 6 = .ok (.return_, 1) := by decide +kernel
theorem pd_6 : parseMethodDescriptor "(I)V" = some ⟨[.int], none⟩ := by decide +kernel
abbrev r2_1_16_25 : Room := { frames := 2, cells := 1, slots := 16, locals := 25 }
abbrev y3_ : MethodName := ⟨"java/lang/StringBuilder", "<init>", "()V"⟩
theorem pn_java_lang_StringBuilder : plainName "java/lang/StringBuilder" = true := by first | (simp [plainName, overriddenIn]; done) | decide +kernel
def Q_sb_init (Z : State) (o : Addr) (u1 : Value) (u2 : Value) (u3 : Value) (cs : Int32) (fo : Value) (da : Addr) (ea : Addr) (h0 : Heap) (n0 : Nat) (xv : Option Value) (xh : Heap) (xL : List Loc) : Prop := ∃ b : Addr, ∃ k : ClassId, xv = none ∧ Fr n0 xL ∧ Keep h0 xh [o] ∧ Exa Z xh o "java/lang/StringBuilder" ∧ Fld Z xh o "java/lang/AbstractStringBuilder" "value" "[B" (.ref b) ∧ Fld Z xh o "java/lang/AbstractStringBuilder" "coder" "B" (.int (0 : Int32)) ∧ Fld Z xh o "java/lang/AbstractStringBuilder" "count" "I" u3 ∧ Arv Z xh b k .byte (iN 16) [] (.int (0 : Int32)) ∧ @LE.le Nat _ h0.size b ∧ Exa Z xh b "[B"
theorem ef_sb_init (mM : MethodId) (o : Addr) (u1 : Value) (u2 : Value) (u3 : Value) (cs : Int32) (fo : Value) (da : Addr) (ea : Addr) : entryFrame mM #[(.ref o)] 1 = mkF mM 0 #[.val (.ref o)] [] := by
  first | (simp [entryFrame, mkF, argsToLocals, Value.category]; done) | rfl
theorem rm_sb_init (hw : HW a0 Z) (ws : List Jvm.Cond) (o : Addr) (u1 : Value) (u2 : Value) (u3 : Value) (cs : Int32) (fo : Value) (da : Addr) (ea : Addr) (h0 : Heap) (n0 : Nat) (Z0 : n0 ≤ h0.size) (E_o : Exa Z h0 o "java/lang/StringBuilder") (F_value_o : Fld Z h0 o "java/lang/AbstractStringBuilder" "value" "[B" u1) (F_coder_o : Fld Z h0 o "java/lang/AbstractStringBuilder" "coder" "B" u2) (F_count_o : Fld Z h0 o "java/lang/AbstractStringBuilder" "count" "I" u3) (g_o : @LE.le Nat _ n0 o) (OL : Old Z n0 h0) (SX : Sts Z cs fo da ea) :
    MF l y3_ jdk_67_method_1_code 1 none ws r2_1_16_25 #[(.ref o)] Z h0 (Q_sb_init Z o u1 u2 u3 cs fo da ea h0 n0) := by
  refine MetFree.of_bodySF (plainFor_of_name pn_java_lang_StringBuilder) hisR ?_
  intro pP eE sS mM aS bS mS cC s₁ Bd hml0 hP hK
  obtain ⟨rfl, hZ, hh⟩ := hP
  have hx := Bd.exec
  have hj := Bd.bytes
  have hml : cC.maxLocals = 1 := hml0
  have hown : sS.vm.findClass "java/lang/StringBuilder" = some mM.cls := findClass_of_methodNamed Bd.named
  have X0 : Stand pP l eE r2_1_16_25 sS mM _ bS mS cC s₁ [] 0 0 := Stand.of_body Bd
  have e0 : s₁.heap = h0 := by rw [← hh, Bd.state]; rfl
  have N0 := Fr.nil n0
  obtain ⟨_, _, ⟨T101, L101, k101, n101⟩, -, X101, ⟨Lc101, hQ101, l101, y101, z101⟩, st101⟩ := X0.specialBack hx (y := y2_) rfl hown (mvT hZ (wi hw 41 rfl)) (mvT hZ (wi hw 42 rfl)) (mvT hZ (wi hw 46 rfl)) (by decide) (backOf (W := 0) (rm_asb_init l Z a0 hw [] o u1 u2 u3 cs fo da ea h0 n0 (by omega) E_o F_value_o F_coder_o F_count_o g_o OL SX) hZ (wi hw 46 rfl) (wi hw 45 rfl) (by decide) (by decide)) (g := (mkF mM 3 #[.val (.ref o)] [(.int (16 : Int32)), (.ref o)])) rfl hml.symm (Steps.refl _) (a := o) (argsL := [(.int (16 : Int32))]) (rest := []) (lenOf pd_6 rfl) rfl (W0 rfl) (hb hj g67_1_0.2.2.1) (fun _ _ => ⟨rfl, e0, ble rfl, ble rfl⟩)
  dsimp only [Pt.U, Pt.locs, Pt.cells, Pt.slots] at X101 l101 y101 z101 st101 hQ101
  subst y101 z101
  obtain ⟨h101, e101⟩ : ∃ z, T101.heap = z := ⟨_, rfl⟩
  rw [e101] at hQ101
  obtain ⟨b_101, k_101, rfl, N101q, Kp101, p101_E_o, p101_F_value_o, p101_F_coder_o, p101_F_count_o, p101_V_b, p101_gh_b, p101_E_b⟩ := hQ101
  have Sz1 : h0.size ≤ h101.size := Kp101.1
  have N101 : Fr n0 L101 := by rw [l101]; exact Fr.app N0 N101q
  have K102 : Keep h0 h101 [o] := (Keep.refl h0 [o]).trans Kp101 (allS (Or.inl (List.mem_of_getElem? (i := 0) rfl)) all0)
  obtain ⟨fs, hr, hrun, hended, hW, hsame⟩ := X101.leave (v := none) (fun _ => rfl)
  refine ⟨_, _, castTop (ef_sb_init mM o u1 u2 u3 cs fo da ea) ?_, hrun, hended, _, _, rfl, ?_, ⟨_, rfl⟩, hW, hsame.mono (by decide) (by decide)⟩
  · show SS pP eE bS s₁ (mkF mM 0 #[.val (.ref o)] []) _
    refine XS.aloadN X0.here hx rfl (hb hj g67_1_0.1) rfl rfl ?_
    refine XS.bipush X0.here hx rfl (hb hj g67_1_0.2.1) ?_
    refine st101.trans ?_
    exact X101.returnOut hx Bd.returns (hb hj g67_1_0.2.2.2) hr
  · show Q_sb_init Z o u1 u2 u3 cs fo da ea h0 n0 _ T101.heap _
    rw [e101]
    exact ⟨b_101, k_101, rfl, N101, K102, p101_E_o, p101_F_value_o, p101_F_coder_o, p101_F_count_o, p101_V_b, (by omega), p101_E_b⟩
abbrev c42_147 := jdk_42_method_147_code
theorem g42_147_0 : decode c42_147 0 = .ok (.aload_n 0, 1) ∧ decode c42_147 1 = .ok (.invokevirtual 335, 3) ∧ decode c42_147 4 = .ok (.iload_n 3, 1) ∧ decode c42_147 5 = .ok (.if_icmp .ne 23, 3) := by decide +kernel
theorem g42_147_1 : decode c42_147 8 = .ok (.aload_n 0, 1) ∧ decode c42_147 9 = .ok (.getfield 9, 3) ∧ decode c42_147 12 = .ok (.iconst 0, 1) ∧ decode c42_147 13 = .ok (.aload_n 1, 1) := by decide +kernel
theorem g42_147_2 : decode c42_147 14 = .ok (.iload_n 2, 1) ∧ decode c42_147 15 = .ok (.iload_n 3, 1) ∧ decode c42_147 16 = .ok (.ishl, 1) ∧ decode c42_147 17 = .ok (.aload_n 0, 1) := by decide +kernel
theorem g42_147_3 : decode c42_147 18 = .ok (.getfield 9, 3) ∧ decode c42_147 21 = .ok (.arraylength, 1) ∧ decode c42_147 22 = .ok (.invokestatic 212, 3) ∧ decode c42_147 25 = .ok (.goto 18, 3) := by decide +kernel
theorem g42_147_4 : decode c42_147 43 = .ok (.return_, 1) := by decide +kernel
abbrev r1_0_0_18 : Room := { frames := 1, cells := 0, slots := 0, locals := 18 }
abbrev y4_ : MethodName := ⟨"java/lang/String", "getBytes", "([BIB)V"⟩
def Q_getBytes (Z : State) (t : Addr) (tb : Addr) (tk : ClassId) (z : Nat) (ys : List Value) (b : Addr) (k : ClassId) (cap : Nat) (n : Nat) (xs : List Value) (cs : Int32) (fo : Value) (da : Addr) (ea : Addr) (h0 : Heap) (n0 : Nat) (xv : Option Value) (xh : Heap) (xL : List Loc) : Prop := xv = none ∧ Fr n0 xL ∧ Keep h0 xh [b] ∧ Arv Z xh b k .byte (iN cap) (xs ++ ys) (.int (0 : Int32))
abbrev Lc_getBytes_0 (t : Addr) (b : Addr) (n : Nat) : Array Slot := #[.val (.ref t), .val (.ref b), .val (.int (iN n)), .val (.int (0 : Int32))]
theorem ef_getBytes (mM : MethodId) (t : Addr) (tb : Addr) (tk : ClassId) (z : Nat) (ys : List Value) (b : Addr) (k : ClassId) (cap : Nat) (n : Nat) (xs : List Value) (cs : Int32) (fo : Value) (da : Addr) (ea : Addr) : entryFrame mM #[(.ref t), (.ref b), (.int (iN n)), (.int (0 : Int32))] 4 = mkF mM 0 #[.val (.ref t), .val (.ref b), .val (.int (iN n)), .val (.int (0 : Int32))] [] := by
  first | (simp [entryFrame, mkF, argsToLocals, Value.category]; done) | rfl
theorem rm_getBytes (hw : HW a0 Z) (ws : List Jvm.Cond) (t : Addr) (tb : Addr) (tk : ClassId) (z : Nat) (ys : List Value) (b : Addr) (k : ClassId) (cap : Nat) (n : Nat) (xs : List Value) (cs : Int32) (fo : Value) (da : Addr) (ea : Addr) (h0 : Heap) (n0 : Nat) (Z0 : n0 ≤ h0.size) (A_t : StrA Z h0 t tb tk z ys) (V_b : Arv Z h0 b k .byte (iN cap) xs (.int (0 : Int32))) (ne_t_b : @Ne Nat t b) (ne_tb_b : @Ne Nat tb b) (g_b : @LE.le Nat _ n0 b) (hn : xs.length = n) (hz : ys.length = z) (hB : n + z ≤ cap ∧ cap ≤ 128) (OL : Old Z n0 h0) (SX : Sts Z cs fo da ea) :
    MF l y4_ jdk_42_method_147_code 4 none ws r1_0_0_18 #[(.ref t), (.ref b), (.int (iN n)), (.int (0 : Int32))] Z h0 (Q_getBytes Z t tb tk z ys b k cap n xs cs fo da ea h0 n0) := by
  refine MetFree.of_bodySF (plainFor_of_name pn_java_lang_String) hisR ?_
  intro pP eE sS mM aS bS mS cC s₁ Bd hml0 hP hK
  obtain ⟨rfl, hZ, hh⟩ := hP
  have hx := Bd.exec
  have hj := Bd.bytes
  have hml : cC.maxLocals = 4 := hml0
  have hown : sS.vm.findClass "java/lang/String" = some mM.cls := findClass_of_methodNamed Bd.named
  have X0 : Stand pP l eE r1_0_0_18 sS mM _ bS mS cC s₁ [] 0 0 := Stand.of_body Bd
  have e0 : s₁.heap = h0 := by rw [← hh, Bd.state]; rfl
  have N0 := Fr.nil n0
  obtain ⟨cq101, kq101, q101a, q101b, q101c⟩ := isOf hZ e0 A_t.1
  obtain ⟨_, _, ⟨T101, L101, k101, n101⟩, -, X101, ⟨Lc101, hQ101, l101, y101, z101⟩, st101⟩ := X0.virtualBack hx (y := y0_) (z := y0_) hown (mvT hZ (wi hw 69 rfl)) (mvT hZ (wi hw 70 rfl)) (notFace_of_selects (args := #[]) (mvT hZ (wi hw 72 rfl))) (mvT hZ (wi hw 72 rfl)) (mvT hZ (wi hw 71 rfl)) (by decide) (backOf (W := 0) (rm_coder l Z a0 hw [] t cs fo da ea h0 n0 (by omega) A_t.2.2.1 OL SX) hZ (wi hw 73 rfl) (wi hw 1 rfl) (by decide) (by decide)) q101a q101c (g := (mkF mM 1 (Lc_getBytes_0 t b n) [(.ref t)])) rfl hml.symm (Steps.refl _) (argsL := []) (rest := []) (lenOf pd_10 rfl) rfl (W0 rfl) (hb hj g42_147_0.2.1) (fun _ _ => ⟨rfl, e0, ble rfl, ble rfl⟩)
  dsimp only [Pt.U, Pt.locs, Pt.cells, Pt.slots] at X101 l101 y101 z101 st101 hQ101
  subst y101 z101
  obtain ⟨h101, e101⟩ : ∃ z, T101.heap = z := ⟨_, rfl⟩
  rw [e101] at hQ101
  obtain ⟨rfl, N101q, eq101⟩ := hQ101
  rw [eq101] at e101
  have N101 : Fr n0 L101 := by rw [l101]; exact Fr.app N0 N101q
  obtain ⟨T102, X102, e102, st102⟩ := getF X101 hx hZ hown (host := "") (Or.inl (wi hw 33 rfl)) Via.refl e101 A_t.2.1 (g := (mkF mM 9 (Lc_getBytes_0 t b n) [(.ref t)])) rfl rfl (hb hj g42_147_1.2.1)
  obtain ⟨T103, X103, e103, st103⟩ := getF X102 hx hZ hown (host := "") (Or.inl (wi hw 33 rfl)) Via.refl e102 A_t.2.1 (g := (mkF mM 18 (Lc_getBytes_0 t b n) [(.ref t), (.int (iN n)), (.ref b), (.int (0 : Int32)), (.ref tb)])) rfl rfl (hb hj g42_147_3.1)
  obtain ⟨cl104, Ar104, q104, S104, Ng104, Ha104, Ga104⟩ := id A_t.2.2.2
  obtain ⟨T105, h105, L105, X105, e105, N105, Kc105, Vc105, st105⟩ := cpApp X103 hx hZ hown (wi hw 97 rfl) (wi hw 100 rfl) (wi hw 98 rfl) (wi hw 99 rfl) e103 A_t.2.2.2 V_b rfl hn hz (by rw [iN_nat (by omega)]; omega) (by rw [iN_nat (by omega)]; omega) (by omega) N101 g_b (g := (mkF mM 22 (Lc_getBytes_0 t b n) [(.int (iN z)), (.int (iN n)), (.ref b), (.int (0 : Int32)), (.ref tb)])) rfl hml.symm rfl (hb hj g42_147_3.2.2.1) (by decide) (W := 0) (W0 rfl) (by decide)
  have Sz1 : h0.size ≤ h105.size := Kc105.1
  have K106 : Keep h0 h105 [b] := (Keep.refl h0 [b]).trans Kc105 (allS (Or.inl (List.mem_of_getElem? (i := 0) rfl)) all0)
  obtain ⟨fs, hr, hrun, hended, hW, hsame⟩ := X105.leave (v := none) (fun _ => rfl)
  refine ⟨_, _, castTop (ef_getBytes mM t tb tk z ys b k cap n xs cs fo da ea) ?_, hrun, hended, _, _, rfl, ?_, ⟨_, rfl⟩, hW, hsame.mono (by decide) (by decide)⟩
  · show SS pP eE bS s₁ (mkF mM 0 (Lc_getBytes_0 t b n) []) _
    refine XS.aloadN X0.here hx rfl (hb hj g42_147_0.1) rfl rfl ?_
    refine st101.trans ?_
    refine XS.iloadN X101.here hx rfl (hb hj g42_147_0.2.2.1) rfl ?_
    refine XS.icmpNo X101.here hx rfl (hb hj g42_147_0.2.2.2) rfl (teq (by decide : (0 : Int32) = (0 : Int32))).2 ?_
    refine XS.aloadN X101.here hx rfl (hb hj g42_147_1.1) rfl rfl ?_
    refine st102 _ ?_
    refine XS.iconst X102.here hx rfl (hb hj g42_147_1.2.2.1) ?_
    refine XS.aloadN X102.here hx rfl (hb hj g42_147_1.2.2.2) rfl rfl ?_
    refine XS.iloadN X102.here hx rfl (hb hj g42_147_2.1) rfl ?_
    refine XS.iloadN X102.here hx rfl (hb hj g42_147_2.2.1) rfl ?_
    refine XS.ishl X102.here hx rfl (hb hj g42_147_2.2.2.1) rfl ?_
    show SS pP eE bS T102 (mkF mM 17 (Lc_getBytes_0 t b n) [(.int ((iN n) <<< ((0 : Int32) &&& 31))), (.ref b), (.int (0 : Int32)), (.ref tb)]) _
    rw [show ((iN n) <<< ((0 : Int32) &&& 31)) = (iN n) from shl0 _]
    refine XS.aloadN X102.here hx rfl (hb hj g42_147_2.2.2.2) rfl rfl ?_
    refine st103 _ ?_
    refine X103.arraylength hx (by rw [e103]; exact Ar104.1) (State.isArrayOf_alike hZ.alike Ar104.2.1) (g := (mkF mM 21 (Lc_getBytes_0 t b n) [(.ref tb), (.int (iN n)), (.ref b), (.int (0 : Int32)), (.ref tb)])) rfl rfl (hb hj g42_147_3.2.1) _ ?_
    rw [len_of S104 Ng104]
    refine st105 _ ?_
    refine XS.goto X105.here hx rfl (pc0 := 25) (pc' := 43) rfl (hb hj g42_147_3.2.2.2) (by decide) (by decide) ?_
    exact X105.returnOut hx Bd.returns (hb hj g42_147_4) hr
  · show Q_getBytes Z t tb tk z ys b k cap n xs cs fo da ea h0 n0 _ T105.heap _
    rw [e105]
    exact ⟨rfl, N105, K106, Vc105⟩
abbrev c68_71 := jdk_68_method_71_code
theorem g68_71_0 : decode c68_71 0 = .ok (.getstatic 18, 3) ∧ decode c68_71 3 = .ok (.ifCond .eq 18, 3) ∧ decode c68_71 6 = .ok (.aload_n 0, 1) ∧ decode c68_71 7 = .ok (.getfield 22, 3) := by decide +kernel
theorem g68_71_1 : decode c68_71 10 = .ok (.aload_n 1, 1) ∧ decode c68_71 11 = .ok (.invokevirtual 40, 3) ∧ decode c68_71 14 = .ok (.if_icmp .eq 7, 3) ∧ decode c68_71 21 = .ok (.return_, 1) := by decide +kernel
abbrev y5_ : MethodName := ⟨"java/lang/AbstractStringBuilder", "inflateIfNeededFor", "(Ljava/lang/String;)V"⟩
def Q_inflate (Z : State) (o : Addr) (t : Addr) (cs : Int32) (fo : Value) (da : Addr) (ea : Addr) (h0 : Heap) (n0 : Nat) (xv : Option Value) (xh : Heap) (xL : List Loc) : Prop := xv = none ∧ Fr n0 xL ∧ xh = h0
theorem ef_inflate (mM : MethodId) (o : Addr) (t : Addr) (cs : Int32) (fo : Value) (da : Addr) (ea : Addr) : entryFrame mM #[(.ref o), (.ref t)] 2 = mkF mM 0 #[.val (.ref o), .val (.ref t)] [] := by
  first | (simp [entryFrame, mkF, argsToLocals, Value.category]; done) | rfl
theorem rm_inflate (hw : HW a0 Z) (ws : List Jvm.Cond) (o : Addr) (t : Addr) (cs : Int32) (fo : Value) (da : Addr) (ea : Addr) (h0 : Heap) (n0 : Nat) (Z0 : n0 ≤ h0.size) (F_coder_o : Fld Z h0 o "java/lang/AbstractStringBuilder" "coder" "B" (.int (0 : Int32))) (E_t : Exa Z h0 t "java/lang/String") (F_coder_t : Fld Z h0 t "java/lang/String" "coder" "B" (.int (0 : Int32))) (OL : Old Z n0 h0) (SX : Sts Z cs fo da ea) :
    MF l y5_ jdk_68_method_71_code 2 none ws r1_0_0_13 #[(.ref o), (.ref t)] Z h0 (Q_inflate Z o t cs fo da ea h0 n0) := by
  refine MetFree.of_bodySF (plainFor_of_name pn_java_lang_AbstractStringBuilder) hisR ?_
  intro pP eE sS mM aS bS mS cC s₁ Bd hml0 hP hK
  obtain ⟨rfl, hZ, hh⟩ := hP
  have hx := Bd.exec
  have hj := Bd.bytes
  have hml : cC.maxLocals = 2 := hml0
  have hown : sS.vm.findClass "java/lang/AbstractStringBuilder" = some mM.cls := findClass_of_methodNamed Bd.named
  have X0 : Stand pP l eE r1_0_0_13 sS mM _ bS mS cC s₁ [] 0 0 := Stand.of_body Bd
  have e0 : s₁.heap = h0 := by rw [← hh, Bd.state]; rfl
  have N0 := Fr.nil n0
  have c101_S_COMPACT_STRINGS : Sta Z h0 "java/lang/String" "COMPACT_STRINGS" "Z" (.int cs) := Sta.ext OL.2 SX.1
  obtain ⟨T102, X102, e102, st102⟩ := getS2 X0 hx hZ hown (host := "") (Or.inl (wi hw 48 rfl)) Via.refl e0 c101_S_COMPACT_STRINGS (g := (mkF mM 0 #[.val (.ref o), .val (.ref t)] [])) rfl (hb hj g68_71_0.1)
  obtain ⟨T103, X103, e103, st103⟩ := getF X102 hx hZ hown (host := "") (Or.inl (wi hw 51 rfl)) Via.refl e102 F_coder_o (g := (mkF mM 7 #[.val (.ref o), .val (.ref t)] [(.ref o)])) rfl rfl (hb hj g68_71_0.2.2.2)
  obtain ⟨cq104, kq104, q104a, q104b, q104c⟩ := isOf hZ e103 E_t
  obtain ⟨_, _, ⟨T104, L104, k104, n104⟩, -, X104, ⟨Lc104, hQ104, l104, y104, z104⟩, st104⟩ := X103.virtualBack hx (y := y0_) (z := y0_) hown (mvT hZ (wi hw 91 rfl)) (mvT hZ (wi hw 70 rfl)) (notFace_of_selects (args := #[]) (mvT hZ (wi hw 72 rfl))) (mvT hZ (wi hw 72 rfl)) (mvT hZ (wi hw 71 rfl)) (by decide) (backOf (W := 1) (rm_coder l Z a0 hw [] t cs fo da ea h0 n0 (by omega) F_coder_t OL SX) hZ (wi hw 73 rfl) (wi hw 1 rfl) (by decide) (by decide)) q104a q104c (g := (mkF mM 11 #[.val (.ref o), .val (.ref t)] [(.ref t), (.int (0 : Int32))])) rfl hml.symm (Steps.refl _) (argsL := []) (rest := [(.int (0 : Int32))]) (lenOf pd_10 rfl) rfl (W0 rfl) (hb hj g68_71_1.2.1) (fun _ _ => ⟨rfl, e103, ble rfl, ble rfl⟩)
  dsimp only [Pt.U, Pt.locs, Pt.cells, Pt.slots] at X104 l104 y104 z104 st104 hQ104
  subst y104 z104
  obtain ⟨h104, e104⟩ : ∃ z, T104.heap = z := ⟨_, rfl⟩
  rw [e104] at hQ104
  obtain ⟨rfl, N104q, eq104⟩ := hQ104
  rw [eq104] at e104
  have N104 : Fr n0 L104 := by rw [l104]; exact Fr.app N0 N104q
  obtain ⟨fs, hr, hrun, hended, hW, hsame⟩ := X104.leave (v := none) (fun _ => rfl)
  refine ⟨_, _, castTop (ef_inflate mM o t cs fo da ea) ?_, hrun, hended, _, _, rfl, ?_, ⟨_, rfl⟩, hW, hsame.mono (by decide) (by decide)⟩
  · show SS pP eE bS s₁ (mkF mM 0 #[.val (.ref o), .val (.ref t)] []) _
    refine st102 _ ?_
    refine XS.ifNo X102.here hx rfl (hb hj g68_71_0.2.1) rfl ((if0 _ _).trans (feq SX.2.1).1) ?_
    refine XS.aloadN X102.here hx rfl (hb hj g68_71_0.2.2.1) rfl rfl ?_
    refine st103 _ ?_
    refine XS.aloadN X103.here hx rfl (hb hj g68_71_1.1) rfl rfl ?_
    refine st104.trans ?_
    refine XS.icmpYes X104.here hx rfl (pc0 := 14) (pc' := 21) rfl (hb hj g68_71_1.2.2.1) rfl (teq (by decide : (0 : Int32) = (0 : Int32))).1 (by decide) (by decide) ?_
    exact X104.returnOut hx Bd.returns (hb hj g68_71_1.2.2.2) hr
  · show Q_inflate Z o t cs fo da ea h0 n0 _ T104.heap _
    rw [e104]
    exact ⟨rfl, N104, rfl⟩
abbrev c68_73 := jdk_68_method_73_code
theorem g68_73_0 : decode c68_73 0 = .ok (.aload_n 0, 1) ∧ decode c68_73 1 = .ok (.aload_n 2, 1) ∧ decode c68_73 2 = .ok (.invokevirtual 397, 3) ∧ decode c68_73 5 = .ok (.aload_n 2, 1) := by decide +kernel
theorem pd_12 : parseMethodDescriptor "(Ljava/lang/String;)V" = some ⟨[(.object "java/lang/String")], none⟩ := by decide +kernel
theorem g68_73_1 : decode c68_73 6 = .ok (.aload_n 0, 1) ∧ decode c68_73 7 = .ok (.getfield 15, 3) ∧ decode c68_73 10 = .ok (.iload_n 1, 1) ∧ decode c68_73 11 = .ok (.aload_n 0, 1) := by decide +kernel
theorem g68_73_2 : decode c68_73 12 = .ok (.getfield 22, 3) ∧ decode c68_73 15 = .ok (.invokevirtual 399, 3) ∧ decode c68_73 18 = .ok (.return_, 1) := by decide +kernel
theorem pd_13 : parseMethodDescriptor "([BIB)V" = some ⟨[(.array .byte), .int, .byte], none⟩ := by decide +kernel
abbrev r2_0_0_33 : Room := { frames := 2, cells := 0, slots := 0, locals := 33 }
abbrev y6_ : MethodName := ⟨"java/lang/AbstractStringBuilder", "putStringAt", "(ILjava/lang/String;)V"⟩
def Q_putStringAt (Z : State) (o : Addr) (t : Addr) (tb : Addr) (tk : ClassId) (z : Nat) (ys : List Value) (b : Addr) (k : ClassId) (cap : Nat) (n : Nat) (xs : List Value) (cs : Int32) (fo : Value) (da : Addr) (ea : Addr) (h0 : Heap) (n0 : Nat) (xv : Option Value) (xh : Heap) (xL : List Loc) : Prop := xv = none ∧ Fr n0 xL ∧ Keep h0 xh [b] ∧ Arv Z xh b k .byte (iN cap) (xs ++ ys) (.int (0 : Int32))
theorem ef_putStringAt (mM : MethodId) (o : Addr) (t : Addr) (tb : Addr) (tk : ClassId) (z : Nat) (ys : List Value) (b : Addr) (k : ClassId) (cap : Nat) (n : Nat) (xs : List Value) (cs : Int32) (fo : Value) (da : Addr) (ea : Addr) : entryFrame mM #[(.ref o), (.int (iN n)), (.ref t)] 3 = mkF mM 0 #[.val (.ref o), .val (.int (iN n)), .val (.ref t)] [] := by
  first | (simp [entryFrame, mkF, argsToLocals, Value.category]; done) | rfl
theorem rm_putStringAt (hw : HW a0 Z) (ws : List Jvm.Cond) (o : Addr) (t : Addr) (tb : Addr) (tk : ClassId) (z : Nat) (ys : List Value) (b : Addr) (k : ClassId) (cap : Nat) (n : Nat) (xs : List Value) (cs : Int32) (fo : Value) (da : Addr) (ea : Addr) (h0 : Heap) (n0 : Nat) (Z0 : n0 ≤ h0.size) (E_o : Exa Z h0 o "java/lang/StringBuilder") (F_value_o : Fld Z h0 o "java/lang/AbstractStringBuilder" "value" "[B" (.ref b)) (F_coder_o : Fld Z h0 o "java/lang/AbstractStringBuilder" "coder" "B" (.int (0 : Int32))) (A_t : StrA Z h0 t tb tk z ys) (V_b : Arv Z h0 b k .byte (iN cap) xs (.int (0 : Int32))) (ne_o_b : @Ne Nat o b) (ne_t_b : @Ne Nat t b) (ne_tb_b : @Ne Nat tb b) (g_b : @LE.le Nat _ n0 b) (hn : xs.length = n) (hz : ys.length = z) (hB : n + z ≤ cap ∧ cap ≤ 128) (OL : Old Z n0 h0) (SX : Sts Z cs fo da ea) :
    MF l y6_ jdk_68_method_73_code 3 none ws r2_0_0_33 #[(.ref o), (.int (iN n)), (.ref t)] Z h0 (Q_putStringAt Z o t tb tk z ys b k cap n xs cs fo da ea h0 n0) := by
  refine MetFree.of_bodySF (plainFor_of_name pn_java_lang_AbstractStringBuilder) hisR ?_
  intro pP eE sS mM aS bS mS cC s₁ Bd hml0 hP hK
  obtain ⟨rfl, hZ, hh⟩ := hP
  have hx := Bd.exec
  have hj := Bd.bytes
  have hml : cC.maxLocals = 3 := hml0
  have hown : sS.vm.findClass "java/lang/AbstractStringBuilder" = some mM.cls := findClass_of_methodNamed Bd.named
  have X0 : Stand pP l eE r2_0_0_33 sS mM _ bS mS cC s₁ [] 0 0 := Stand.of_body Bd
  have e0 : s₁.heap = h0 := by rw [← hh, Bd.state]; rfl
  have N0 := Fr.nil n0
  obtain ⟨cq101, kq101, q101a, q101b, q101c⟩ := isOf hZ e0 E_o
  obtain ⟨_, _, ⟨T101, L101, k101, n101⟩, -, X101, ⟨Lc101, hQ101, l101, y101, z101⟩, st101⟩ := X0.virtualBack hx (y := y5_) (z := y5_) hown (mvT hZ (wi hw 86 rfl)) (mvT hZ (own_decl (wi hw 87 rfl) (wi hw 90 rfl))) (notFace_of_selects (args := #[]) (mvT hZ (wi hw 89 rfl))) (mvT hZ (wi hw 89 rfl)) (mvT hZ (wi hw 87 rfl)) (by decide) (backOf (W := 0) (rm_inflate l Z a0 hw [] o t cs fo da ea h0 n0 (by omega) F_coder_o A_t.1 A_t.2.2.1 OL SX) hZ (wi hw 90 rfl) (wi hw 45 rfl) (by decide) (by decide)) q101a q101c (g := (mkF mM 2 #[.val (.ref o), .val (.int (iN n)), .val (.ref t)] [(.ref t), (.ref o)])) rfl hml.symm (Steps.refl _) (argsL := [(.ref t)]) (rest := []) (lenOf pd_12 rfl) rfl (W0 rfl) (hb hj g68_73_0.2.2.1) (fun _ _ => ⟨rfl, e0, ble rfl, ble rfl⟩)
  dsimp only [Pt.U, Pt.locs, Pt.cells, Pt.slots] at X101 l101 y101 z101 st101 hQ101
  subst y101 z101
  obtain ⟨h101, e101⟩ : ∃ z, T101.heap = z := ⟨_, rfl⟩
  rw [e101] at hQ101
  obtain ⟨rfl, N101q, eq101⟩ := hQ101
  rw [eq101] at e101
  have N101 : Fr n0 L101 := by rw [l101]; exact Fr.app N0 N101q
  obtain ⟨T102, X102, e102, st102⟩ := getF X101 hx hZ hown (host := "") (Or.inl (wi hw 49 rfl)) Via.refl e101 F_value_o (g := (mkF mM 7 #[.val (.ref o), .val (.int (iN n)), .val (.ref t)] [(.ref o), (.ref t)])) rfl rfl (hb hj g68_73_1.2.1)
  obtain ⟨T103, X103, e103, st103⟩ := getF X102 hx hZ hown (host := "") (Or.inl (wi hw 51 rfl)) Via.refl e102 F_coder_o (g := (mkF mM 12 #[.val (.ref o), .val (.int (iN n)), .val (.ref t)] [(.ref o), (.int (iN n)), (.ref b), (.ref t)])) rfl rfl (hb hj g68_73_2.1)
  obtain ⟨cq104, kq104, q104a, q104b, q104c⟩ := isOf hZ e103 A_t.1
  obtain ⟨_, _, ⟨T104, L104, k104, n104⟩, -, X104, ⟨Lc104, hQ104, l104, y104, z104⟩, st104⟩ := X103.virtualBack hx (y := y4_) (z := y4_) hown (mvT hZ (wi hw 92 rfl)) (mvT hZ (wi hw 93 rfl)) (notFace_of_selects (args := #[]) (mvT hZ (wi hw 95 rfl))) (mvT hZ (wi hw 95 rfl)) (mvT hZ (wi hw 94 rfl)) (by decide) (backOf (W := 0) (rm_getBytes l Z a0 hw [] t tb tk z ys b k cap n xs cs fo da ea h0 n0 (by omega) A_t V_b ne_t_b ne_tb_b g_b hn hz hB OL SX) hZ (wi hw 96 rfl) (wi hw 1 rfl) (by decide) (by decide)) q104a q104c (g := (mkF mM 15 #[.val (.ref o), .val (.int (iN n)), .val (.ref t)] [(.int (0 : Int32)), (.int (iN n)), (.ref b), (.ref t)])) rfl hml.symm (Steps.refl _) (argsL := [(.ref b), (.int (iN n)), (.int (0 : Int32))]) (rest := []) (lenOf pd_13 rfl) rfl (W0 rfl) (hb hj g68_73_2.2.1) (fun _ _ => ⟨rfl, e103, ble rfl, ble rfl⟩)
  dsimp only [Pt.U, Pt.locs, Pt.cells, Pt.slots] at X104 l104 y104 z104 st104 hQ104
  subst y104 z104
  obtain ⟨h104, e104⟩ : ∃ z, T104.heap = z := ⟨_, rfl⟩
  rw [e104] at hQ104
  obtain ⟨rfl, N104q, Kp104, p104_V_b⟩ := hQ104
  have Sz1 : h0.size ≤ h104.size := Kp104.1
  have N104 : Fr n0 L104 := by rw [l104]; exact Fr.app N101 N104q
  have K105 : Keep h0 h104 [b] := (Keep.refl h0 [b]).trans Kp104 (allS (Or.inl (List.mem_of_getElem? (i := 0) rfl)) all0)
  obtain ⟨fs, hr, hrun, hended, hW, hsame⟩ := X104.leave (v := none) (fun _ => rfl)
  refine ⟨_, _, castTop (ef_putStringAt mM o t tb tk z ys b k cap n xs cs fo da ea) ?_, hrun, hended, _, _, rfl, ?_, ⟨_, rfl⟩, hW, hsame.mono (by decide) (by decide)⟩
  · show SS pP eE bS s₁ (mkF mM 0 #[.val (.ref o), .val (.int (iN n)), .val (.ref t)] []) _
    refine XS.aloadN X0.here hx rfl (hb hj g68_73_0.1) rfl rfl ?_
    refine XS.aloadN X0.here hx rfl (hb hj g68_73_0.2.1) rfl rfl ?_
    refine st101.trans ?_
    refine XS.aloadN X101.here hx rfl (hb hj g68_73_0.2.2.2) rfl rfl ?_
    refine XS.aloadN X101.here hx rfl (hb hj g68_73_1.1) rfl rfl ?_
    refine st102 _ ?_
    refine XS.iloadN X102.here hx rfl (hb hj g68_73_1.2.2.1) rfl ?_
    refine XS.aloadN X102.here hx rfl (hb hj g68_73_1.2.2.2) rfl rfl ?_
    refine st103 _ ?_
    refine st104.trans ?_
    exact X104.returnOut hx Bd.returns (hb hj g68_73_2.2.2) hr
  · show Q_putStringAt Z o t tb tk z ys b k cap n xs cs fo da ea h0 n0 _ T104.heap _
    rw [e104]
    exact ⟨rfl, N104, K105, p104_V_b⟩
abbrev c68_9 := jdk_68_method_9_code
theorem g68_9_0 : decode c68_9 0 = .ok (.aload_n 0, 1) ∧ decode c68_9 1 = .ok (.getfield 15, 3) ∧ decode c68_9 4 = .ok (.arraylength, 1) ∧ decode c68_9 5 = .ok (.aload_n 0, 1) := by decide +kernel
theorem g68_9_1 : decode c68_9 6 = .ok (.getfield 22, 3) ∧ decode c68_9 9 = .ok (.ishr, 1) ∧ decode c68_9 10 = .ok (.istore_n 2, 1) ∧ decode c68_9 11 = .ok (.iload_n 1, 1) := by decide +kernel
theorem g68_9_2 : decode c68_9 12 = .ok (.iload_n 2, 1) ∧ decode c68_9 13 = .ok (.isub, 1) ∧ decode c68_9 14 = .ok (.ifCond .le 24, 3) ∧ decode c68_9 17 = .ok (.aload_n 0, 1) := by decide +kernel
theorem g68_9_5 : decode c68_9 32 = .ok (.invokestatic 108, 3) ∧ decode c68_9 35 = .ok (.putfield 15, 3) ∧ decode c68_9 38 = .ok (.return_, 1) := by decide +kernel
def Q_max (Z : State) (x : Nat) (y : Nat) (h0 : Heap) (n0 : Nat) (xv : Option Value) (xh : Heap) (xL : List Loc) : Prop := xv = some (.int (iN (mx x y))) ∧ Fr n0 xL ∧ xh = h0
abbrev c29_65 := jdk_29_method_65_code
theorem g29_65_0 : decode c29_65 0 = .ok (.iload_n 0, 1) ∧ decode c29_65 1 = .ok (.iload_n 1, 1) ∧ decode c29_65 2 = .ok (.if_icmp .lt 7, 3) ∧ decode c29_65 5 = .ok (.iload_n 0, 1) := by decide +kernel
theorem g29_65_1 : decode c29_65 6 = .ok (.goto 4, 3) ∧ decode c29_65 9 = .ok (.iload_n 1, 1) ∧ decode c29_65 10 = .ok (.ireturn, 1) := by decide +kernel
abbrev y7_ : MethodName := ⟨"java/lang/Math", "max", "(II)I"⟩
theorem ef_max_r (mM : MethodId) (x : Nat) (y : Nat) : entryFrame mM #[(.int (iN x)), (.int (iN y))] 2 = mkF mM 0 #[.val (.int (iN x)), .val (.int (iN y))] [] := by
  first | (simp [entryFrame, mkF, argsToLocals, Value.category]; done) | rfl
theorem rm_max_r (hw : HW a0 Z) (ws : List Jvm.Cond) (x : Nat) (y : Nat) (h0 : Heap) (n0 : Nat) (Z0 : n0 ≤ h0.size) (hxy : x < y) (hx1 : x < 1000000) (hy1 : y < 1000000) :
    MF l y7_ jdk_29_method_65_code 2 (some .int) ws r0_0_0_0 #[(.int (iN x)), (.int (iN y))] Z h0 (Q_max Z x y h0 n0) := by
  refine MetFree.of_bodySF (Jvm.Free.JP.mathPlain rfl (by decide +kernel)) hisR ?_
  intro pP eE sS mM aS bS mS cC s₁ Bd hml0 hP hK
  obtain ⟨rfl, hZ, hh⟩ := hP
  have hx := Bd.exec
  have hj := Bd.bytes
  have hml : cC.maxLocals = 2 := hml0
  have hown : sS.vm.findClass "java/lang/Math" = some mM.cls := findClass_of_methodNamed Bd.named
  have X0 : Stand pP l eE r0_0_0_0 sS mM _ bS mS cC s₁ [] 0 0 := Stand.of_body Bd
  have e0 : s₁.heap = h0 := by rw [← hh, Bd.state]; rfl
  have N0 := Fr.nil n0
  obtain ⟨fs, hr, hrun, hended, hW, hsame⟩ := X0.leave (v := some (.int (iN y))) (fun h => by rw [Bd.returns] at h; cases h)
  refine ⟨_, _, castTop (ef_max_r mM x y) ?_, hrun, hended, _, _, rfl, ?_, ⟨_, rfl⟩, hW, hsame.mono (by decide) (by decide)⟩
  · show SS pP eE bS s₁ (mkF mM 0 #[.val (.int (iN x)), .val (.int (iN y))] []) _
    refine XS.iloadN X0.here hx rfl (hb hj g29_65_0.1) rfl ?_
    refine XS.iloadN X0.here hx rfl (hb hj g29_65_0.2.1) rfl ?_
    refine XS.icmpYes X0.here hx rfl (pc0 := 2) (pc' := 9) rfl (hb hj g29_65_0.2.2.1) rfl (tlt ((iN_lt hx1 hy1).mpr hxy : (iN x) < (iN y))).1 (by decide) (by decide) ?_
    refine XS.iloadN X0.here hx rfl (hb hj g29_65_1.2.1) rfl ?_
    exact retI X0 hx Bd.returns (hb hj g29_65_1.2.2) hr
  · show Q_max Z x y h0 n0 _ s₁.heap _
    rw [e0]
    exact ⟨by rw [mx_r hxy], N0, rfl⟩
theorem ef_max_l (mM : MethodId) (x : Nat) (y : Nat) : entryFrame mM #[(.int (iN x)), (.int (iN y))] 2 = mkF mM 0 #[.val (.int (iN x)), .val (.int (iN y))] [] := by
  first | (simp [entryFrame, mkF, argsToLocals, Value.category]; done) | rfl
theorem rm_max_l (hw : HW a0 Z) (ws : List Jvm.Cond) (x : Nat) (y : Nat) (h0 : Heap) (n0 : Nat) (Z0 : n0 ≤ h0.size) (hxy : ¬ x < y) (hx1 : x < 1000000) (hy1 : y < 1000000) :
    MF l y7_ jdk_29_method_65_code 2 (some .int) ws r0_0_0_0 #[(.int (iN x)), (.int (iN y))] Z h0 (Q_max Z x y h0 n0) := by
  refine MetFree.of_bodySF (Jvm.Free.JP.mathPlain rfl (by decide +kernel)) hisR ?_
  intro pP eE sS mM aS bS mS cC s₁ Bd hml0 hP hK
  obtain ⟨rfl, hZ, hh⟩ := hP
  have hx := Bd.exec
  have hj := Bd.bytes
  have hml : cC.maxLocals = 2 := hml0
  have hown : sS.vm.findClass "java/lang/Math" = some mM.cls := findClass_of_methodNamed Bd.named
  have X0 : Stand pP l eE r0_0_0_0 sS mM _ bS mS cC s₁ [] 0 0 := Stand.of_body Bd
  have e0 : s₁.heap = h0 := by rw [← hh, Bd.state]; rfl
  have N0 := Fr.nil n0
  obtain ⟨fs, hr, hrun, hended, hW, hsame⟩ := X0.leave (v := some (.int (iN x))) (fun h => by rw [Bd.returns] at h; cases h)
  refine ⟨_, _, castTop (ef_max_l mM x y) ?_, hrun, hended, _, _, rfl, ?_, ⟨_, rfl⟩, hW, hsame.mono (by decide) (by decide)⟩
  · show SS pP eE bS s₁ (mkF mM 0 #[.val (.int (iN x)), .val (.int (iN y))] []) _
    refine XS.iloadN X0.here hx rfl (hb hj g29_65_0.1) rfl ?_
    refine XS.iloadN X0.here hx rfl (hb hj g29_65_0.2.1) rfl ?_
    refine XS.icmpNo X0.here hx rfl (hb hj g29_65_0.2.2.1) rfl (flt (fun q => absurd ((iN_lt hx1 hy1).mp q) hxy : ¬ ((iN x) < (iN y)))).1 ?_
    refine XS.iloadN X0.here hx rfl (hb hj g29_65_0.2.2.2) rfl ?_
    refine XS.goto X0.here hx rfl (pc0 := 6) (pc' := 10) rfl (hb hj g29_65_1.1) (by decide) (by decide) ?_
    exact retI X0 hx Bd.returns (hb hj g29_65_1.2.2) hr
  · show Q_max Z x y h0 n0 _ s₁.heap _
    rw [e0]
    exact ⟨by rw [mx_l hxy], N0, rfl⟩
theorem rm_max (hw : HW a0 Z) (ws : List Jvm.Cond) (x : Nat) (y : Nat) (h0 : Heap) (n0 : Nat) (Z0 : n0 ≤ h0.size) (hx1 : x < 1000000) (hy1 : y < 1000000) :
    MF l y7_ jdk_29_method_65_code 2 (some .int) ws r0_0_0_0 #[(.int (iN x)), (.int (iN y))] Z h0 (Q_max Z x y h0 n0) := by
  by_cases hxy : x < y
  · exact rm_max_r l Z a0 hw ws x y h0 n0 Z0 hxy hx1 hy1
  · exact rm_max_l l Z a0 hw ws x y h0 n0 Z0 hxy hx1 hy1
abbrev c48_27 := jdk_48_method_27_code
theorem g48_27_0 : decode c48_27 0 = .ok (.iload_n 0, 1) ∧ decode c48_27 1 = .ok (.iload_n 1, 1) ∧ decode c48_27 2 = .ok (.iload_n 2, 1) ∧ decode c48_27 3 = .ok (.invokestatic 194, 3) := by decide +kernel
theorem pd_19 : parseMethodDescriptor "(II)I" = some ⟨[.int, .int], some .int⟩ := by decide +kernel
theorem g48_27_1 : decode c48_27 6 = .ok (.iadd, 1) ∧ decode c48_27 7 = .ok (.istore_n 3, 1) ∧ decode c48_27 8 = .ok (.iconst 0, 1) ∧ decode c48_27 9 = .ok (.iload_n 3, 1) := by decide +kernel
theorem g48_27_2 : decode c48_27 10 = .ok (.if_icmp .ge 11, 3) ∧ decode c48_27 13 = .ok (.iload_n 3, 1) ∧ decode c48_27 14 = .ok (.ldc 200, 2) ∧ decode c48_27 16 = .ok (.if_icmp .gt 5, 3) := by decide +kernel
theorem g48_27_3 : decode c48_27 19 = .ok (.iload_n 3, 1) ∧ decode c48_27 20 = .ok (.ireturn, 1) := by decide +kernel
abbrev r1_0_0_14 : Room := { frames := 1, cells := 0, slots := 0, locals := 14 }
abbrev y8_ : MethodName := ⟨"jdk/internal/util/ArraysSupport", "newLength", "(III)I"⟩
theorem pn_jdk_internal_util_ArraysSupport : plainName "jdk/internal/util/ArraysSupport" = true := by first | (simp [plainName, overriddenIn]; done) | decide +kernel
def Q_newLen (Z : State) (a : Nat) (x : Nat) (y : Nat) (h0 : Heap) (n0 : Nat) (xv : Option Value) (xh : Heap) (xL : List Loc) : Prop := xv = some (.int (iN (a + mx x y))) ∧ Fr n0 xL ∧ xh = h0
abbrev Lc_newLen_0 (a : Nat) (x : Nat) (y : Nat) : Array Slot := #[.val (.int (iN a)), .val (.int (iN x)), .val (.int (iN y)), .val (.int (iN (a + mx x y)))]
theorem ef_newLen (mM : MethodId) (a : Nat) (x : Nat) (y : Nat) : entryFrame mM #[(.int (iN a)), (.int (iN x)), (.int (iN y))] 4 = mkF mM 0 #[.val (.int (iN a)), .val (.int (iN x)), .val (.int (iN y)), .unset] [] := by
  first | (simp [entryFrame, mkF, argsToLocals, Value.category]; done) | rfl
theorem rm_newLen (hw : HW a0 Z) (ws : List Jvm.Cond) (a : Nat) (x : Nat) (y : Nat) (h0 : Heap) (n0 : Nat) (Z0 : n0 ≤ h0.size) (hp : 0 < a + mx x y) (hy : a + mx x y < 1000000) (hx2 : x < 1000000) (hy2 : y < 1000000) :
    MF l y8_ jdk_48_method_27_code 4 (some .int) ws r1_0_0_14 #[(.int (iN a)), (.int (iN x)), (.int (iN y))] Z h0 (Q_newLen Z a x y h0 n0) := by
  refine MetFree.of_bodySF (plainFor_of_name pn_jdk_internal_util_ArraysSupport) hisR ?_
  intro pP eE sS mM aS bS mS cC s₁ Bd hml0 hP hK
  obtain ⟨rfl, hZ, hh⟩ := hP
  have hx := Bd.exec
  have hj := Bd.bytes
  have hml : cC.maxLocals = 4 := hml0
  have hown : sS.vm.findClass "jdk/internal/util/ArraysSupport" = some mM.cls := findClass_of_methodNamed Bd.named
  have X0 : Stand pP l eE r1_0_0_14 sS mM _ bS mS cC s₁ [] 0 0 := Stand.of_body Bd
  have e0 : s₁.heap = h0 := by rw [← hh, Bd.state]; rfl
  have N0 := Fr.nil n0
  obtain ⟨_, _, ⟨T101, L101, k101, n101⟩, -, X101, ⟨Lc101, hQ101, l101, y101, z101⟩, st101⟩ := Jvm.LawKit.callS X0 hx (y := y7_) hown (mvT hZ (wi hw 123 rfl)) (mvT hZ (wi hw 124 rfl)) (mvT hZ (wi hw 125 rfl)) (mvT hZ (wi hw 126 rfl)) (by decide) (backOf (W := 1) (rm_max l Z a0 hw [] x y h0 n0 (by omega) (hx2) (hy2)) hZ (wi hw 126 rfl) (wi hw 125 rfl) (by decide) (by decide)) (g := (mkF mM 3 #[.val (.int (iN a)), .val (.int (iN x)), .val (.int (iN y)), .unset] [(.int (iN y)), (.int (iN x)), (.int (iN a))])) rfl hml.symm (argsL := [(.int (iN x)), (.int (iN y))]) (rest := [(.int (iN a))]) (lenOf pd_19 rfl) rfl (W0 rfl) (hb hj g48_27_0.2.2.2) (fun _ _ => ⟨rfl, e0, ble rfl, ble rfl⟩)
  dsimp only [Pt.U, Pt.locs, Pt.cells, Pt.slots] at X101 l101 y101 z101 st101 hQ101
  subst y101 z101
  obtain ⟨h101, e101⟩ : ∃ z, T101.heap = z := ⟨_, rfl⟩
  rw [e101] at hQ101
  obtain ⟨rfl, N101q, eq101⟩ := hQ101
  rw [eq101] at e101
  have N101 : Fr n0 L101 := by rw [l101]; exact Fr.app N0 N101q
  obtain ⟨fs, hr, hrun, hended, hW, hsame⟩ := X101.leave (v := some (.int (iN (a + mx x y)))) (fun h => by rw [Bd.returns] at h; cases h)
  refine ⟨_, _, castTop (ef_newLen mM a x y) ?_, hrun, hended, _, _, rfl, ?_, ⟨_, rfl⟩, hW, hsame.mono (by decide) (by decide)⟩
  · show SS pP eE bS s₁ (mkF mM 0 #[.val (.int (iN a)), .val (.int (iN x)), .val (.int (iN y)), .unset] []) _
    refine XS.iloadN X0.here hx rfl (hb hj g48_27_0.1) rfl ?_
    refine XS.iloadN X0.here hx rfl (hb hj g48_27_0.2.1) rfl ?_
    refine XS.iloadN X0.here hx rfl (hb hj g48_27_0.2.2.1) rfl ?_
    refine st101 _ ?_
    refine XS.iadd X101.here hx rfl (hb hj g48_27_1.1) rfl ?_
    show SS pP eE bS T101 (mkF mM 7 #[.val (.int (iN a)), .val (.int (iN x)), .val (.int (iN y)), .unset] [(.int ((iN a) + (iN (mx x y))))]) _
    rw [show ((iN a) + (iN (mx x y))) = (iN (a + mx x y)) from iN_add a (mx x y)]
    refine XS.istoreN X101.here hx rfl (hb hj g48_27_1.2.1) rfl (l' := (Lc_newLen_0 a x y)) rfl ?_
    refine XS.iconst X101.here hx rfl (hb hj g48_27_1.2.2.1) ?_
    refine XS.iloadN X101.here hx rfl (hb hj g48_27_1.2.2.2) rfl ?_
    refine XS.icmpNo X101.here hx rfl (hb hj g48_27_2.1) rfl (tlt (own_pos hp hy : (0 : Int32) < (iN (a + mx x y)))).2.1 ?_
    refine XS.iloadN X101.here hx rfl (hb hj g48_27_2.2.1) rfl ?_
    refine X101.ldcInt hx hown (mvT hZ (wi hw 127 rfl)) (g := (mkF mM 14 (Lc_newLen_0 a x y) [(.int (iN (a + mx x y)))])) rfl (hb hj g48_27_2.2.2.1) _ ?_
    refine XS.icmpNo X101.here hx rfl (hb hj g48_27_2.2.2.2) rfl (flt (own_big hy : ¬ ((2147483639 : Int32) < (iN (a + mx x y))))).2.2.1 ?_
    refine XS.iloadN X101.here hx rfl (hb hj g48_27_3.1) rfl ?_
    exact retI X101 hx Bd.returns (hb hj g48_27_3.2) hr
  · show Q_newLen Z a x y h0 n0 _ T101.heap _
    rw [e101]
    exact ⟨rfl, N101, rfl⟩
abbrev c68_10 := jdk_68_method_10_code
theorem g68_10_0 : decode c68_10 0 = .ok (.aload_n 0, 1) ∧ decode c68_10 1 = .ok (.getfield 15, 3) ∧ decode c68_10 4 = .ok (.arraylength, 1) ∧ decode c68_10 5 = .ok (.istore_n 2, 1) := by decide +kernel
theorem g68_10_1 : decode c68_10 6 = .ok (.iload_n 1, 1) ∧ decode c68_10 7 = .ok (.aload_n 0, 1) ∧ decode c68_10 8 = .ok (.getfield 22, 3) ∧ decode c68_10 11 = .ok (.ishl, 1) := by decide +kernel
theorem g68_10_2 : decode c68_10 12 = .ok (.istore_n 3, 1) ∧ decode c68_10 13 = .ok (.iload_n 3, 1) ∧ decode c68_10 14 = .ok (.iload_n 2, 1) ∧ decode c68_10 15 = .ok (.isub, 1) := by decide +kernel
theorem g68_10_3 : decode c68_10 16 = .ok (.istore 4, 2) ∧ decode c68_10 18 = .ok (.iload_n 2, 1) ∧ decode c68_10 19 = .ok (.iload 4, 2) ∧ decode c68_10 21 = .ok (.iload_n 2, 1) := by decide +kernel
theorem g68_10_4 : decode c68_10 22 = .ok (.iconst 2, 1) ∧ decode c68_10 23 = .ok (.aload_n 0, 1) ∧ decode c68_10 24 = .ok (.getfield 22, 3) ∧ decode c68_10 27 = .ok (.ishl, 1) := by decide +kernel
theorem g68_10_5 : decode c68_10 28 = .ok (.iadd, 1) ∧ decode c68_10 29 = .ok (.invokestatic 114, 3) ∧ decode c68_10 32 = .ok (.istore 5, 2) ∧ decode c68_10 34 = .ok (.iload 5, 2) := by decide +kernel
theorem pd_18 : parseMethodDescriptor "(III)I" = some ⟨[.int, .int, .int], some .int⟩ := by decide +kernel
theorem g68_10_6 : decode c68_10 36 = .ok (.ldc 39, 2) ∧ decode c68_10 38 = .ok (.if_icmp .ne 13, 3) ∧ decode c68_10 51 = .ok (.iload 5, 2) ∧ decode c68_10 53 = .ok (.aload_n 0, 1) := by decide +kernel
theorem g68_10_7 : decode c68_10 54 = .ok (.getfield 22, 3) ∧ decode c68_10 57 = .ok (.ishr, 1) ∧ decode c68_10 58 = .ok (.ireturn, 1) := by decide +kernel
abbrev r2_0_0_29 : Room := { frames := 2, cells := 0, slots := 0, locals := 29 }
abbrev y9_ : MethodName := ⟨"java/lang/AbstractStringBuilder", "newCapacity", "(I)I"⟩
def Q_newCap (Z : State) (o : Addr) (b : Addr) (k : ClassId) (cap : Nat) (xs : List Value) (tot : Nat) (h0 : Heap) (n0 : Nat) (xv : Option Value) (xh : Heap) (xL : List Loc) : Prop := xv = some (.int (iN (cap + mx (tot - cap) (cap + 2)))) ∧ Fr n0 xL ∧ xh = h0
abbrev Lc_newCap_0 (o : Addr) (tot : Nat) : Array Slot := #[.val (.ref o), .val (.int (iN tot)), .unset, .unset, .unset, .unset]
abbrev Lc_newCap_1 (o : Addr) (tot : Nat) (cap : Nat) : Array Slot := #[.val (.ref o), .val (.int (iN tot)), .val (.int (iN cap)), .unset, .unset, .unset]
abbrev Lc_newCap_2 (o : Addr) (tot : Nat) (cap : Nat) : Array Slot := #[.val (.ref o), .val (.int (iN tot)), .val (.int (iN cap)), .val (.int (iN tot)), .unset, .unset]
abbrev Lc_newCap_3 (o : Addr) (tot : Nat) (cap : Nat) : Array Slot := #[.val (.ref o), .val (.int (iN tot)), .val (.int (iN cap)), .val (.int (iN tot)), .val (.int (iN (tot - cap))), .unset]
abbrev Lc_newCap_4 (o : Addr) (tot : Nat) (cap : Nat) : Array Slot := #[.val (.ref o), .val (.int (iN tot)), .val (.int (iN cap)), .val (.int (iN tot)), .val (.int (iN (tot - cap))), .val (.int (iN (cap + mx (tot - cap) (cap + 2))))]
theorem ef_newCap (mM : MethodId) (o : Addr) (b : Addr) (k : ClassId) (cap : Nat) (xs : List Value) (tot : Nat) : entryFrame mM #[(.ref o), (.int (iN tot))] 6 = mkF mM 0 #[.val (.ref o), .val (.int (iN tot)), .unset, .unset, .unset, .unset] [] := by
  first | (simp [entryFrame, mkF, argsToLocals, Value.category]; done) | rfl
theorem rm_newCap (hw : HW a0 Z) (ws : List Jvm.Cond) (o : Addr) (b : Addr) (k : ClassId) (cap : Nat) (xs : List Value) (tot : Nat) (h0 : Heap) (n0 : Nat) (Z0 : n0 ≤ h0.size) (F_value_o : Fld Z h0 o "java/lang/AbstractStringBuilder" "value" "[B" (.ref b)) (F_coder_o : Fld Z h0 o "java/lang/AbstractStringBuilder" "coder" "B" (.int (0 : Int32))) (V_b : Arv Z h0 b k .byte (iN cap) xs (.int (0 : Int32))) (hgt : cap < tot) (hC : cap + mx (tot - cap) (cap + 2) ≤ 128) :
    MF l y9_ jdk_68_method_10_code 6 (some .int) ws r2_0_0_29 #[(.ref o), (.int (iN tot))] Z h0 (Q_newCap Z o b k cap xs tot h0 n0) := by
  refine MetFree.of_bodySF (plainFor_of_name pn_java_lang_AbstractStringBuilder) hisR ?_
  intro pP eE sS mM aS bS mS cC s₁ Bd hml0 hP hK
  obtain ⟨rfl, hZ, hh⟩ := hP
  have hx := Bd.exec
  have hj := Bd.bytes
  have hml : cC.maxLocals = 6 := hml0
  have hown : sS.vm.findClass "java/lang/AbstractStringBuilder" = some mM.cls := findClass_of_methodNamed Bd.named
  have X0 : Stand pP l eE r2_0_0_29 sS mM _ bS mS cC s₁ [] 0 0 := Stand.of_body Bd
  have e0 : s₁.heap = h0 := by rw [← hh, Bd.state]; rfl
  have N0 := Fr.nil n0
  have hmx := mx_ge (tot - cap) (cap + 2)
  obtain ⟨T101, X101, e101, st101⟩ := getF X0 hx hZ hown (host := "") (Or.inl (wi hw 49 rfl)) Via.refl e0 F_value_o (g := (mkF mM 1 (Lc_newCap_0 o tot) [(.ref o)])) rfl rfl (hb hj g68_10_0.2.1)
  obtain ⟨cl102, Ar102, q102, S102, Ng102, Ha102, Ga102⟩ := id V_b
  obtain ⟨T103, X103, e103, st103⟩ := getF X101 hx hZ hown (host := "") (Or.inl (wi hw 51 rfl)) Via.refl e101 F_coder_o (g := (mkF mM 8 (Lc_newCap_1 o tot cap) [(.ref o), (.int (iN tot))])) rfl rfl (hb hj g68_10_1.2.2.1)
  obtain ⟨T104, X104, e104, st104⟩ := getF X103 hx hZ hown (host := "") (Or.inl (wi hw 51 rfl)) Via.refl e103 F_coder_o (g := (mkF mM 24 (Lc_newCap_3 o tot cap) [(.ref o), (.int (2 : Int32)), (.int (iN cap)), (.int (iN (tot - cap))), (.int (iN cap))])) rfl rfl (hb hj g68_10_4.2.2.1)
  obtain ⟨_, _, ⟨T105, L105, k105, n105⟩, -, X105, ⟨Lc105, hQ105, l105, y105, z105⟩, st105⟩ := Jvm.LawKit.callS X104 hx (y := y8_) hown (mvT hZ (wi hw 119 rfl)) (mvT hZ (wi hw 120 rfl)) (mvT hZ (wi hw 121 rfl)) (mvT hZ (wi hw 122 rfl)) (by decide) (backOf (W := 0) (rm_newLen l Z a0 hw [] cap (tot - cap) (cap + 2) h0 n0 (by omega) (by have := mx_ge (tot - cap) (cap + 2); omega) (by omega) (by have := mx_ge (tot - cap) (cap + 2); omega) (by have := mx_ge (tot - cap) (cap + 2); omega)) hZ (wi hw 122 rfl) (wi hw 121 rfl) (by decide) (by decide)) (g := (mkF mM 29 (Lc_newCap_3 o tot cap) [(.int (iN (cap + 2))), (.int (iN (tot - cap))), (.int (iN cap))])) rfl hml.symm (argsL := [(.int (iN cap)), (.int (iN (tot - cap))), (.int (iN (cap + 2)))]) (rest := []) (lenOf pd_18 rfl) rfl (W0 rfl) (hb hj g68_10_5.2.1) (fun _ _ => ⟨rfl, e104, ble rfl, ble rfl⟩)
  dsimp only [Pt.U, Pt.locs, Pt.cells, Pt.slots] at X105 l105 y105 z105 st105 hQ105
  subst y105 z105
  obtain ⟨h105, e105⟩ : ∃ z, T105.heap = z := ⟨_, rfl⟩
  rw [e105] at hQ105
  obtain ⟨rfl, N105q, eq105⟩ := hQ105
  rw [eq105] at e105
  have N105 : Fr n0 L105 := by rw [l105]; exact Fr.app N0 N105q
  obtain ⟨T106, X106, e106, st106⟩ := getF X105 hx hZ hown (host := "") (Or.inl (wi hw 51 rfl)) Via.refl e105 F_coder_o (g := (mkF mM 54 (Lc_newCap_4 o tot cap) [(.ref o), (.int (iN (cap + mx (tot - cap) (cap + 2))))])) rfl rfl (hb hj g68_10_7.1)
  obtain ⟨fs, hr, hrun, hended, hW, hsame⟩ := X106.leave (v := some (.int (iN (cap + mx (tot - cap) (cap + 2))))) (fun h => by rw [Bd.returns] at h; cases h)
  refine ⟨_, _, castTop (ef_newCap mM o b k cap xs tot) ?_, hrun, hended, _, _, rfl, ?_, ⟨_, rfl⟩, hW, hsame.mono (by decide) (by decide)⟩
  · show SS pP eE bS s₁ (mkF mM 0 (Lc_newCap_0 o tot) []) _
    refine XS.aloadN X0.here hx rfl (hb hj g68_10_0.1) rfl rfl ?_
    refine st101 _ ?_
    refine X101.arraylength hx (by rw [e101]; exact Ar102.1) (State.isArrayOf_alike hZ.alike Ar102.2.1) (g := (mkF mM 4 (Lc_newCap_0 o tot) [(.ref b)])) rfl rfl (hb hj g68_10_0.2.2.1) _ ?_
    rw [len_of S102 Ng102]
    refine XS.istoreN X101.here hx rfl (hb hj g68_10_0.2.2.2) rfl (l' := (Lc_newCap_1 o tot cap)) rfl ?_
    refine XS.iloadN X101.here hx rfl (hb hj g68_10_1.1) rfl ?_
    refine XS.aloadN X101.here hx rfl (hb hj g68_10_1.2.1) rfl rfl ?_
    refine st103 _ ?_
    refine XS.ishl X103.here hx rfl (hb hj g68_10_1.2.2.2) rfl ?_
    show SS pP eE bS T103 (mkF mM 12 (Lc_newCap_1 o tot cap) [(.int ((iN tot) <<< ((0 : Int32) &&& 31)))]) _
    rw [show ((iN tot) <<< ((0 : Int32) &&& 31)) = (iN tot) from shl0 _]
    refine XS.istoreN X103.here hx rfl (hb hj g68_10_2.1) rfl (l' := (Lc_newCap_2 o tot cap)) rfl ?_
    refine XS.iloadN X103.here hx rfl (hb hj g68_10_2.2.1) rfl ?_
    refine XS.iloadN X103.here hx rfl (hb hj g68_10_2.2.2.1) rfl ?_
    refine XS.isub X103.here hx rfl (hb hj g68_10_2.2.2.2) rfl ?_
    show SS pP eE bS T103 (mkF mM 16 (Lc_newCap_2 o tot cap) [(.int ((iN tot) - (iN cap)))]) _
    rw [show ((iN tot) - (iN cap)) = (iN (tot - cap)) from iN_sub (by omega) (by omega)]
    refine XS.istore X103.here hx rfl (hb hj g68_10_3.1) rfl (l' := (Lc_newCap_3 o tot cap)) rfl ?_
    refine XS.iloadN X103.here hx rfl (hb hj g68_10_3.2.1) rfl ?_
    refine XS.iload X103.here hx rfl (hb hj g68_10_3.2.2.1) rfl ?_
    refine XS.iloadN X103.here hx rfl (hb hj g68_10_3.2.2.2) rfl ?_
    refine XS.iconst X103.here hx rfl (hb hj g68_10_4.1) ?_
    refine XS.aloadN X103.here hx rfl (hb hj g68_10_4.2.1) rfl rfl ?_
    refine st104 _ ?_
    refine XS.ishl X104.here hx rfl (hb hj g68_10_4.2.2.2) rfl ?_
    refine XS.iadd X104.here hx rfl (hb hj g68_10_5.1) rfl ?_
    show SS pP eE bS T104 (mkF mM 29 (Lc_newCap_3 o tot cap) [(.int ((iN cap) + (2 : Int32))), (.int (iN (tot - cap))), (.int (iN cap))]) _
    rw [show ((iN cap) + (2 : Int32)) = (iN (cap + 2)) from iN_add cap 2]
    refine st105 _ ?_
    refine XS.istore X105.here hx rfl (hb hj g68_10_5.2.2.1) rfl (l' := (Lc_newCap_4 o tot cap)) rfl ?_
    refine XS.iload X105.here hx rfl (hb hj g68_10_5.2.2.2) rfl ?_
    refine X105.ldcInt hx hown (mvT hZ (wi hw 128 rfl)) (g := (mkF mM 36 (Lc_newCap_4 o tot cap) [(.int (iN (cap + mx (tot - cap) (cap + 2))))])) rfl (hb hj g68_10_6.1) _ ?_
    refine XS.icmpYes X105.here hx rfl (pc0 := 38) (pc' := 51) rfl (hb hj g68_10_6.2.1) rfl (feq (own_max (by omega) : ¬ ((iN (cap + mx (tot - cap) (cap + 2))) = (2147483647 : Int32)))).2 (by decide) (by decide) ?_
    refine XS.iload X105.here hx rfl (hb hj g68_10_6.2.2.1) rfl ?_
    refine XS.aloadN X105.here hx rfl (hb hj g68_10_6.2.2.2) rfl rfl ?_
    refine st106 _ ?_
    refine XS.ishr X106.here hx rfl (hb hj g68_10_7.2.1) rfl ?_
    show SS pP eE bS T106 (mkF mM 58 (Lc_newCap_4 o tot cap) [(.int ((iN (cap + mx (tot - cap) (cap + 2))) >>> ((0 : Int32) &&& 31)))]) _
    rw [show ((iN (cap + mx (tot - cap) (cap + 2))) >>> ((0 : Int32) &&& 31)) = (iN (cap + mx (tot - cap) (cap + 2))) from shr0 _]
    exact retI X106 hx Bd.returns (hb hj g68_10_7.2.2) hr
  · show Q_newCap Z o b k cap xs tot h0 n0 _ T106.heap _
    rw [e106]
    exact ⟨rfl, N105, rfl⟩
abbrev c29_69 := jdk_29_method_69_code
theorem g29_69_0 : decode c29_69 0 = .ok (.iload_n 0, 1) ∧ decode c29_69 1 = .ok (.iload_n 1, 1) ∧ decode c29_69 2 = .ok (.if_icmp .gt 7, 3) ∧ decode c29_69 5 = .ok (.iload_n 0, 1) := by decide +kernel
theorem g29_69_1 : decode c29_69 6 = .ok (.goto 4, 3) ∧ decode c29_69 9 = .ok (.iload_n 1, 1) ∧ decode c29_69 10 = .ok (.ireturn, 1) := by decide +kernel
abbrev y10_ : MethodName := ⟨"java/lang/Math", "min", "(II)I"⟩
def Q_min_l (Z : State) (x : Nat) (y : Nat) (h0 : Heap) (n0 : Nat) (xv : Option Value) (xh : Heap) (xL : List Loc) : Prop := xv = some (.int (iN x)) ∧ Fr n0 xL ∧ xh = h0
theorem ef_min_l (mM : MethodId) (x : Nat) (y : Nat) : entryFrame mM #[(.int (iN x)), (.int (iN y))] 2 = mkF mM 0 #[.val (.int (iN x)), .val (.int (iN y))] [] := by
  first | (simp [entryFrame, mkF, argsToLocals, Value.category]; done) | rfl
theorem rm_min_l (hw : HW a0 Z) (ws : List Jvm.Cond) (x : Nat) (y : Nat) (h0 : Heap) (n0 : Nat) (Z0 : n0 ≤ h0.size) (hxy : x ≤ y) (hy : y < 1000000) :
    MF l y10_ jdk_29_method_69_code 2 (some .int) ws r0_0_0_0 #[(.int (iN x)), (.int (iN y))] Z h0 (Q_min_l Z x y h0 n0) := by
  refine MetFree.of_bodySF (Jvm.Free.JP.mathPlain rfl (by decide +kernel)) hisR ?_
  intro pP eE sS mM aS bS mS cC s₁ Bd hml0 hP hK
  obtain ⟨rfl, hZ, hh⟩ := hP
  have hx := Bd.exec
  have hj := Bd.bytes
  have hml : cC.maxLocals = 2 := hml0
  have hown : sS.vm.findClass "java/lang/Math" = some mM.cls := findClass_of_methodNamed Bd.named
  have X0 : Stand pP l eE r0_0_0_0 sS mM _ bS mS cC s₁ [] 0 0 := Stand.of_body Bd
  have e0 : s₁.heap = h0 := by rw [← hh, Bd.state]; rfl
  have N0 := Fr.nil n0
  obtain ⟨fs, hr, hrun, hended, hW, hsame⟩ := X0.leave (v := some (.int (iN x))) (fun h => by rw [Bd.returns] at h; cases h)
  refine ⟨_, _, castTop (ef_min_l mM x y) ?_, hrun, hended, _, _, rfl, ?_, ⟨_, rfl⟩, hW, hsame.mono (by decide) (by decide)⟩
  · show SS pP eE bS s₁ (mkF mM 0 #[.val (.int (iN x)), .val (.int (iN y))] []) _
    refine XS.iloadN X0.here hx rfl (hb hj g29_69_0.1) rfl ?_
    refine XS.iloadN X0.here hx rfl (hb hj g29_69_0.2.1) rfl ?_
    refine XS.icmpNo X0.here hx rfl (hb hj g29_69_0.2.2.1) rfl (flt (fun q => absurd ((iN_lt (by omega) (by omega)).mp q) (by omega) : ¬ ((iN y) < (iN x)))).2.2.1 ?_
    refine XS.iloadN X0.here hx rfl (hb hj g29_69_0.2.2.2) rfl ?_
    refine XS.goto X0.here hx rfl (pc0 := 6) (pc' := 10) rfl (hb hj g29_69_1.1) (by decide) (by decide) ?_
    exact retI X0 hx Bd.returns (hb hj g29_69_1.2.2) hr
  · show Q_min_l Z x y h0 n0 _ s₁.heap _
    rw [e0]
    exact ⟨rfl, N0, rfl⟩
abbrev c65_121 := jdk_65_method_121_code
theorem g65_121_0 : decode c65_121 0 = .ok (.iload_n 1, 1) ∧ decode c65_121 1 = .ok (.aload_n 0, 1) ∧ decode c65_121 2 = .ok (.arraylength, 1) ∧ decode c65_121 3 = .ok (.if_icmp .ne 11, 3) := by decide +kernel
theorem g65_121_1 : decode c65_121 14 = .ok (.iload_n 1, 1) ∧ decode c65_121 15 = .ok (.newarray .byte, 2) ∧ decode c65_121 17 = .ok (.astore_n 2, 1) ∧ decode c65_121 18 = .ok (.aload_n 0, 1) := by decide +kernel
theorem g65_121_2 : decode c65_121 19 = .ok (.iconst 0, 1) ∧ decode c65_121 20 = .ok (.aload_n 2, 1) ∧ decode c65_121 21 = .ok (.iconst 0, 1) ∧ decode c65_121 22 = .ok (.aload_n 0, 1) := by decide +kernel
theorem g65_121_3 : decode c65_121 23 = .ok (.arraylength, 1) ∧ decode c65_121 24 = .ok (.iload_n 1, 1) ∧ decode c65_121 25 = .ok (.invokestatic 304, 3) ∧ decode c65_121 28 = .ok (.invokestatic 150, 3) := by decide +kernel
theorem g65_121_4 : decode c65_121 31 = .ok (.aload_n 2, 1) ∧ decode c65_121 32 = .ok (.areturn, 1) := by decide +kernel
abbrev r1_1_128_18 : Room := { frames := 1, cells := 1, slots := 128, locals := 18 }
abbrev y11_ : MethodName := ⟨"java/util/Arrays", "copyOf", "([BI)[B"⟩
theorem pn_java_util_Arrays : plainName "java/util/Arrays" = true := by first | (simp [plainName, overriddenIn]; done) | decide +kernel
def Q_copyOf (Z : State) (b : Addr) (k : ClassId) (cap : Nat) (xs : List Value) (nc : Nat) (h0 : Heap) (n0 : Nat) (xv : Option Value) (xh : Heap) (xL : List Loc) : Prop := ∃ b2 : Addr, ∃ k2 : ClassId, xv = some (.ref b2) ∧ Fr n0 xL ∧ Keep h0 xh [] ∧ Arv Z xh b2 k2 .byte (iN nc) xs (.int (0 : Int32)) ∧ @LE.le Nat _ h0.size b2 ∧ Exa Z xh b2 "[B"
theorem ef_copyOf (mM : MethodId) (b : Addr) (k : ClassId) (cap : Nat) (xs : List Value) (nc : Nat) : entryFrame mM #[(.ref b), (.int (iN nc))] 3 = mkF mM 0 #[.val (.ref b), .val (.int (iN nc)), .unset] [] := by
  first | (simp [entryFrame, mkF, argsToLocals, Value.category]; done) | rfl
theorem rm_copyOf (hw : HW a0 Z) (ws : List Jvm.Cond) (b : Addr) (k : ClassId) (cap : Nat) (xs : List Value) (nc : Nat) (h0 : Heap) (n0 : Nat) (Z0 : n0 ≤ h0.size) (V_b : Arv Z h0 b k .byte (iN cap) xs (.int (0 : Int32))) (hnc : cap < nc ∧ nc ≤ 128) (hl : xs.length ≤ cap) :
    MF l y11_ jdk_65_method_121_code 3 (some (.array .byte)) ws r1_1_128_18 #[(.ref b), (.int (iN nc))] Z h0 (Q_copyOf Z b k cap xs nc h0 n0) := by
  refine MetFree.of_bodySF (plainFor_of_name pn_java_util_Arrays) hisR ?_
  intro pP eE sS mM aS bS mS cC s₁ Bd hml0 hP hK
  obtain ⟨rfl, hZ, hh⟩ := hP
  have hx := Bd.exec
  have hj := Bd.bytes
  have hml : cC.maxLocals = 3 := hml0
  have hown : sS.vm.findClass "java/util/Arrays" = some mM.cls := findClass_of_methodNamed Bd.named
  have X0 : Stand pP l eE r1_1_128_18 sS mM _ bS mS cC s₁ [] 0 0 := Stand.of_body Bd
  have e0 : s₁.heap = h0 := by rw [← hh, Bd.state]; rfl
  have N0 := Fr.nil n0
  obtain ⟨cl101, Ar101, q101, S101, Ng101, Ha101, Ga101⟩ := id V_b
  obtain ⟨T102, h102, k102, X102, e102, E102, A102, B102, st102⟩ := newPE X0 hx hZ (wi hw 3 rfl) e0 (g := (mkF mM 15 #[.val (.ref b), .val (.int (iN nc)), .unset] [(.int (iN nc))])) rfl (hb hj g65_121_1.2.1) rfl (iN_nn (by omega)) (cap := 128) (by rw [iN_nat (by omega)]; omega) (by decide) (by decide) (by decide) (ad := "[B") (by decide)
  obtain ⟨b102, g102⟩ : ∃ z : Nat, z = h0.size := ⟨_, rfl⟩
  rw [← g102] at A102 B102 st102
  have Sz1 : h0.size ≤ h102.size := E102.1
  have V_b102 : Arv Z h102 b102 k102 .byte (iN nc) [] (.int (0 : Int32)) := Arv.new A102 (iN_nn (by omega))
  have c103_V_b : Arv Z h102 b k .byte (iN cap) xs (.int (0 : Int32)) := V_b.ext E102
  obtain ⟨cl104, Ar104, q104, S104, Ng104, Ha104, Ga104⟩ := id c103_V_b
  obtain ⟨_, _, ⟨T105, L105, k105, n105⟩, -, X105, ⟨Lc105, hQ105, l105, y105, z105⟩, st105⟩ := Jvm.LawKit.callS X102 hx (y := y10_) hown (mvT hZ (wi hw 133 rfl)) (mvT hZ (wi hw 134 rfl)) (mvT hZ (wi hw 125 rfl)) (mvT hZ (wi hw 135 rfl)) (by decide) (backOf (W := 4) (rm_min_l l Z a0 hw [] cap nc h102 n0 (by omega) (by omega) (by omega)) hZ (wi hw 135 rfl) (wi hw 125 rfl) (by decide) (by decide)) (g := (mkF mM 25 #[.val (.ref b), .val (.int (iN nc)), .val (.ref b102)] [(.int (iN nc)), (.int (iN cap)), (.int (0 : Int32)), (.ref b102), (.int (0 : Int32)), (.ref b)])) rfl hml.symm (argsL := [(.int (iN cap)), (.int (iN nc))]) (rest := [(.int (0 : Int32)), (.ref b102), (.int (0 : Int32)), (.ref b)]) (lenOf pd_19 rfl) rfl (W0 rfl) (hb hj g65_121_3.2.2.1) (fun _ _ => ⟨rfl, e102, ble rfl, ble rfl⟩)
  dsimp only [Pt.U, Pt.locs, Pt.cells, Pt.slots] at X105 l105 y105 z105 st105 hQ105
  subst y105 z105
  obtain ⟨h105, e105⟩ : ∃ z, T105.heap = z := ⟨_, rfl⟩
  rw [e105] at hQ105
  obtain ⟨rfl, N105q, eq105⟩ := hQ105
  rw [eq105] at e105
  have N105 : Fr n0 L105 := by rw [l105]; exact Fr.app N0 N105q
  have ge106_b102 : @LE.le Nat _ n0 b102 := by omega
  obtain ⟨T107, h107, L107, X107, e107, N107, Kc107, Vc107, st107⟩ := cpAll X105 hx hZ hown (wi hw 136 rfl) (wi hw 100 rfl) (wi hw 98 rfl) (wi hw 99 rfl) e105 c103_V_b V_b102 rfl hl (by rw [iN_nat (by omega)]; omega) (by rw [iN_nat (by omega)]; omega) (by omega) N105 ge106_b102 (g := (mkF mM 28 #[.val (.ref b), .val (.int (iN nc)), .val (.ref b102)] [(.int (iN cap)), (.int (0 : Int32)), (.ref b102), (.int (0 : Int32)), (.ref b)])) rfl hml.symm rfl (hb hj g65_121_3.2.2.2) (by decide) (W := 0) (W0 rfl) (by decide)
  have Sz2 : h102.size ≤ h107.size := Kc107.1
  have c108_E_b102 : Exa Z h107 b102 "[B" := B102.keep Kc107
  have K109 : Keep h0 h102 [] := (Keep.refl h0 []).ext E102
  have K110 : Keep h0 h107 [] := K109.trans Kc107 (allS (Or.inr (by omega : @LE.le Nat _ h0.size b102)) all0)
  obtain ⟨fs, hr, hrun, hended, hW, hsame⟩ := X107.leave (v := some (.ref b102)) (fun h => by rw [Bd.returns] at h; cases h)
  refine ⟨_, _, castTop (ef_copyOf mM b k cap xs nc) ?_, hrun, hended, _, _, rfl, ?_, ⟨_, rfl⟩, hW, hsame.mono (by decide) (by decide)⟩
  · show SS pP eE bS s₁ (mkF mM 0 #[.val (.ref b), .val (.int (iN nc)), .unset] []) _
    refine XS.iloadN X0.here hx rfl (hb hj g65_121_0.1) rfl ?_
    refine XS.aloadN X0.here hx rfl (hb hj g65_121_0.2.1) rfl rfl ?_
    refine X0.arraylength hx (by rw [e0]; exact Ar101.1) (State.isArrayOf_alike hZ.alike Ar101.2.1) (g := (mkF mM 2 #[.val (.ref b), .val (.int (iN nc)), .unset] [(.ref b), (.int (iN nc))])) rfl rfl (hb hj g65_121_0.2.2.1) _ ?_
    rw [len_of S101 Ng101]
    refine XS.icmpYes X0.here hx rfl (pc0 := 3) (pc' := 14) rfl (hb hj g65_121_0.2.2.2) rfl (feq (fun q => absurd ((iN_eq (by omega) (by omega)).mp q) (by omega) : ¬ ((iN nc) = (iN cap)))).2 (by decide) (by decide) ?_
    refine XS.iloadN X0.here hx rfl (hb hj g65_121_1.1) rfl ?_
    refine st102 _ ?_
    refine XS.astoreN X102.here hx rfl (hb hj g65_121_1.2.2.1) rfl rfl (l' := #[.val (.ref b), .val (.int (iN nc)), .val (.ref b102)]) rfl ?_
    refine XS.aloadN X102.here hx rfl (hb hj g65_121_1.2.2.2) rfl rfl ?_
    refine XS.iconst X102.here hx rfl (hb hj g65_121_2.1) ?_
    refine XS.aloadN X102.here hx rfl (hb hj g65_121_2.2.1) rfl rfl ?_
    refine XS.iconst X102.here hx rfl (hb hj g65_121_2.2.2.1) ?_
    refine XS.aloadN X102.here hx rfl (hb hj g65_121_2.2.2.2) rfl rfl ?_
    refine X102.arraylength hx (by rw [e102]; exact Ar104.1) (State.isArrayOf_alike hZ.alike Ar104.2.1) (g := (mkF mM 23 #[.val (.ref b), .val (.int (iN nc)), .val (.ref b102)] [(.ref b), (.int (0 : Int32)), (.ref b102), (.int (0 : Int32)), (.ref b)])) rfl rfl (hb hj g65_121_3.1) _ ?_
    rw [len_of S104 Ng104]
    refine XS.iloadN X102.here hx rfl (hb hj g65_121_3.2.1) rfl ?_
    refine st105 _ ?_
    refine st107 _ ?_
    refine XS.aloadN X107.here hx rfl (hb hj g65_121_4.1) rfl rfl ?_
    jvm_step X107.here [X107.here.top, hx, (hb hj g65_121_4.2), X107.method', Bd.returns, Value.isRef, FieldType.isReference]
    first | (intro acts; rw [hr _ acts rfl rfl rfl]) | rw [hr _ _ rfl rfl rfl]
    exact Steps.refl _
  · show Q_copyOf Z b k cap xs nc h0 n0 _ T107.heap _
    rw [e107]
    exact ⟨b102, k102, rfl, N107, K110, Vc107, (by omega), c108_E_b102⟩
theorem g68_9_3 : decode c68_9 18 = .ok (.aload_n 0, 1) ∧ decode c68_9 19 = .ok (.getfield 15, 3) ∧ decode c68_9 22 = .ok (.aload_n 0, 1) ∧ decode c68_9 23 = .ok (.iload_n 1, 1) := by decide +kernel
theorem g68_9_4 : decode c68_9 24 = .ok (.invokevirtual 104, 3) ∧ decode c68_9 27 = .ok (.aload_n 0, 1) ∧ decode c68_9 28 = .ok (.getfield 22, 3) ∧ decode c68_9 31 = .ok (.ishl, 1) := by decide +kernel
theorem pd_17 : parseMethodDescriptor "(I)I" = some ⟨[.int], some .int⟩ := by decide +kernel
theorem pd_20 : parseMethodDescriptor "([BI)[B" = some ⟨[(.array .byte), .int], some (.array .byte)⟩ := by decide +kernel
def Q_ens (Z : State) (o : Addr) (b : Addr) (k : ClassId) (cap : Nat) (xs : List Value) (tot : Nat) (u : Value) (h0 : Heap) (n0 : Nat) (xv : Option Value) (xh : Heap) (xL : List Loc) : Prop := ∃ b2 : Addr, ∃ k2 : ClassId, xv = none ∧ Fr n0 xL ∧ Keep h0 xh [o] ∧ Exa Z xh o "java/lang/StringBuilder" ∧ Fld Z xh o "java/lang/AbstractStringBuilder" "value" "[B" (.ref b2) ∧ Fld Z xh o "java/lang/AbstractStringBuilder" "coder" "B" (.int (0 : Int32)) ∧ Fld Z xh o "java/lang/AbstractStringBuilder" "count" "I" u ∧ Arv Z xh b2 k2 .byte (iN (ncap cap tot)) xs (.int (0 : Int32)) ∧ (@Eq Nat b2 b ∨ @LE.le Nat _ h0.size b2) ∧ @Ne Nat o b2 ∧ @LE.le Nat _ n0 b2 ∧ Exa Z xh b2 "[B"
abbrev r3_1_128_48 : Room := { frames := 3, cells := 1, slots := 128, locals := 48 }
abbrev y12_ : MethodName := ⟨"java/lang/AbstractStringBuilder", "ensureCapacityInternal", "(I)V"⟩
theorem ef_ens0 (mM : MethodId) (o : Addr) (b : Addr) (k : ClassId) (cap : Nat) (xs : List Value) (tot : Nat) (u : Value) : entryFrame mM #[(.ref o), (.int (iN tot))] 3 = mkF mM 0 #[.val (.ref o), .val (.int (iN tot)), .unset] [] := by
  first | (simp [entryFrame, mkF, argsToLocals, Value.category]; done) | rfl
theorem rm_ens0 (hw : HW a0 Z) (ws : List Jvm.Cond) (o : Addr) (b : Addr) (k : ClassId) (cap : Nat) (xs : List Value) (tot : Nat) (u : Value) (h0 : Heap) (n0 : Nat) (Z0 : n0 ≤ h0.size) (E_o : Exa Z h0 o "java/lang/StringBuilder") (F_value_o : Fld Z h0 o "java/lang/AbstractStringBuilder" "value" "[B" (.ref b)) (F_coder_o : Fld Z h0 o "java/lang/AbstractStringBuilder" "coder" "B" (.int (0 : Int32))) (F_count_o : Fld Z h0 o "java/lang/AbstractStringBuilder" "count" "I" u) (V_b : Arv Z h0 b k .byte (iN cap) xs (.int (0 : Int32))) (ne_o_b : @Ne Nat o b) (g_o : @LE.le Nat _ n0 o) (g_b : @LE.le Nat _ n0 b) (E_b : Exa Z h0 b "[B") (hle : tot ≤ cap) (hC : cap ≤ 128) :
    MF l y12_ jdk_68_method_9_code 3 none ws r3_1_128_48 #[(.ref o), (.int (iN tot))] Z h0 (Q_ens Z o b k cap xs tot u h0 n0) := by
  refine MetFree.of_bodySF (plainFor_of_name pn_java_lang_AbstractStringBuilder) hisR ?_
  intro pP eE sS mM aS bS mS cC s₁ Bd hml0 hP hK
  obtain ⟨rfl, hZ, hh⟩ := hP
  have hx := Bd.exec
  have hj := Bd.bytes
  have hml : cC.maxLocals = 3 := hml0
  have hown : sS.vm.findClass "java/lang/AbstractStringBuilder" = some mM.cls := findClass_of_methodNamed Bd.named
  have X0 : Stand pP l eE r3_1_128_48 sS mM _ bS mS cC s₁ [] 0 0 := Stand.of_body Bd
  have e0 : s₁.heap = h0 := by rw [← hh, Bd.state]; rfl
  have N0 := Fr.nil n0
  obtain ⟨T101, X101, e101, st101⟩ := getF X0 hx hZ hown (host := "") (Or.inl (wi hw 49 rfl)) Via.refl e0 F_value_o (g := (mkF mM 1 #[.val (.ref o), .val (.int (iN tot)), .unset] [(.ref o)])) rfl rfl (hb hj g68_9_0.2.1)
  obtain ⟨cl102, Ar102, q102, S102, Ng102, Ha102, Ga102⟩ := id V_b
  obtain ⟨T103, X103, e103, st103⟩ := getF X101 hx hZ hown (host := "") (Or.inl (wi hw 51 rfl)) Via.refl e101 F_coder_o (g := (mkF mM 6 #[.val (.ref o), .val (.int (iN tot)), .unset] [(.ref o), (.int (iN cap))])) rfl rfl (hb hj g68_9_1.1)
  have Vn : Arv Z h0 b k .byte (iN (ncap cap tot)) xs (.int (0 : Int32)) := by rw [ncap_fit hle]; exact V_b
  have lt_o : @LT.lt Nat _ o h0.size := E_o.lt
  have lt_b : @LT.lt Nat _ b h0.size := V_b.lt
  obtain ⟨fs, hr, hrun, hended, hW, hsame⟩ := X103.leave (v := none) (fun _ => rfl)
  refine ⟨_, _, castTop (ef_ens0 mM o b k cap xs tot u) ?_, hrun, hended, _, _, rfl, ?_, ⟨_, rfl⟩, hW, hsame.mono (by decide) (by decide)⟩
  · show SS pP eE bS s₁ (mkF mM 0 #[.val (.ref o), .val (.int (iN tot)), .unset] []) _
    refine XS.aloadN X0.here hx rfl (hb hj g68_9_0.1) rfl rfl ?_
    refine st101 _ ?_
    refine X101.arraylength hx (by rw [e101]; exact Ar102.1) (State.isArrayOf_alike hZ.alike Ar102.2.1) (g := (mkF mM 4 #[.val (.ref o), .val (.int (iN tot)), .unset] [(.ref b)])) rfl rfl (hb hj g68_9_0.2.2.1) _ ?_
    rw [len_of S102 Ng102]
    refine XS.aloadN X101.here hx rfl (hb hj g68_9_0.2.2.2) rfl rfl ?_
    refine st103 _ ?_
    refine XS.ishr X103.here hx rfl (hb hj g68_9_1.2.1) rfl ?_
    show SS pP eE bS T103 (mkF mM 10 #[.val (.ref o), .val (.int (iN tot)), .unset] [(.int ((iN cap) >>> ((0 : Int32) &&& 31)))]) _
    rw [show ((iN cap) >>> ((0 : Int32) &&& 31)) = (iN cap) from shr0 _]
    refine XS.istoreN X103.here hx rfl (hb hj g68_9_1.2.2.1) rfl (l' := #[.val (.ref o), .val (.int (iN tot)), .val (.int (iN cap))]) rfl ?_
    refine XS.iloadN X103.here hx rfl (hb hj g68_9_1.2.2.2) rfl ?_
    refine XS.iloadN X103.here hx rfl (hb hj g68_9_2.1) rfl ?_
    refine XS.isub X103.here hx rfl (hb hj g68_9_2.2.1) rfl ?_
    refine XS.ifYes X103.here hx rfl (pc0 := 14) (pc' := 38) rfl (hb hj g68_9_2.2.2.1) rfl ((if0 _ _).trans (flt (own_sle hle (by omega) : ¬ ((0 : Int32) < ((iN tot) - (iN cap))))).2.2.2) (by decide) (by decide) ?_
    exact X103.returnOut hx Bd.returns (hb hj g68_9_5.2.2) hr
  · show Q_ens Z o b k cap xs tot u h0 n0 _ T103.heap _
    rw [e103]
    exact ⟨b, k, rfl, N0, (Keep.refl h0 [o]), E_o, F_value_o, F_coder_o, F_count_o, Vn, (Or.inl rfl), (by omega), (by omega), E_b⟩
theorem ef_ensG (mM : MethodId) (o : Addr) (b : Addr) (k : ClassId) (cap : Nat) (xs : List Value) (tot : Nat) (u : Value) : entryFrame mM #[(.ref o), (.int (iN tot))] 3 = mkF mM 0 #[.val (.ref o), .val (.int (iN tot)), .unset] [] := by
  first | (simp [entryFrame, mkF, argsToLocals, Value.category]; done) | rfl
theorem rm_ensG (hw : HW a0 Z) (ws : List Jvm.Cond) (o : Addr) (b : Addr) (k : ClassId) (cap : Nat) (xs : List Value) (tot : Nat) (u : Value) (h0 : Heap) (n0 : Nat) (Z0 : n0 ≤ h0.size) (E_o : Exa Z h0 o "java/lang/StringBuilder") (F_value_o : Fld Z h0 o "java/lang/AbstractStringBuilder" "value" "[B" (.ref b)) (F_coder_o : Fld Z h0 o "java/lang/AbstractStringBuilder" "coder" "B" (.int (0 : Int32))) (F_count_o : Fld Z h0 o "java/lang/AbstractStringBuilder" "count" "I" u) (V_b : Arv Z h0 b k .byte (iN cap) xs (.int (0 : Int32))) (ne_o_b : @Ne Nat o b) (g_o : @LE.le Nat _ n0 o) (g_b : @LE.le Nat _ n0 b) (E_b : Exa Z h0 b "[B") (hG : cap < tot ∧ cap + mx (tot - cap) (cap + 2) ≤ 128 ∧ xs.length ≤ cap) :
    MF l y12_ jdk_68_method_9_code 3 none ws r3_1_128_48 #[(.ref o), (.int (iN tot))] Z h0 (Q_ens Z o b k cap xs tot u h0 n0) := by
  refine MetFree.of_bodySF (plainFor_of_name pn_java_lang_AbstractStringBuilder) hisR ?_
  intro pP eE sS mM aS bS mS cC s₁ Bd hml0 hP hK
  obtain ⟨rfl, hZ, hh⟩ := hP
  have hx := Bd.exec
  have hj := Bd.bytes
  have hml : cC.maxLocals = 3 := hml0
  have hown : sS.vm.findClass "java/lang/AbstractStringBuilder" = some mM.cls := findClass_of_methodNamed Bd.named
  have X0 : Stand pP l eE r3_1_128_48 sS mM _ bS mS cC s₁ [] 0 0 := Stand.of_body Bd
  have e0 : s₁.heap = h0 := by rw [← hh, Bd.state]; rfl
  have N0 := Fr.nil n0
  have hmx := mx_ge (tot - cap) (cap + 2)
  obtain ⟨T101, X101, e101, st101⟩ := getF X0 hx hZ hown (host := "") (Or.inl (wi hw 49 rfl)) Via.refl e0 F_value_o (g := (mkF mM 1 #[.val (.ref o), .val (.int (iN tot)), .unset] [(.ref o)])) rfl rfl (hb hj g68_9_0.2.1)
  obtain ⟨cl102, Ar102, q102, S102, Ng102, Ha102, Ga102⟩ := id V_b
  obtain ⟨T103, X103, e103, st103⟩ := getF X101 hx hZ hown (host := "") (Or.inl (wi hw 51 rfl)) Via.refl e101 F_coder_o (g := (mkF mM 6 #[.val (.ref o), .val (.int (iN tot)), .unset] [(.ref o), (.int (iN cap))])) rfl rfl (hb hj g68_9_1.1)
  obtain ⟨T104, X104, e104, st104⟩ := getF X103 hx hZ hown (host := "") (Or.inl (wi hw 49 rfl)) Via.refl e103 F_value_o (g := (mkF mM 19 #[.val (.ref o), .val (.int (iN tot)), .val (.int (iN cap))] [(.ref o), (.ref o)])) rfl rfl (hb hj g68_9_3.2.1)
  obtain ⟨cq105, kq105, q105a, q105b, q105c⟩ := isOf hZ e104 E_o
  obtain ⟨_, _, ⟨T105, L105, k105, n105⟩, -, X105, ⟨Lc105, hQ105, l105, y105, z105⟩, st105⟩ := X104.virtualBack hx (y := y9_) (z := y9_) hown (mvT hZ (wi hw 114 rfl)) (mvT hZ (own_decl (wi hw 115 rfl) (wi hw 118 rfl))) (notFace_of_selects (args := #[]) (mvT hZ (wi hw 117 rfl))) (mvT hZ (wi hw 117 rfl)) (mvT hZ (wi hw 115 rfl)) (by decide) (backOf (W := 2) (rm_newCap l Z a0 hw [] o b k cap xs tot h0 n0 (by omega) F_value_o F_coder_o V_b (hG.1) (hG.2.1)) hZ (wi hw 118 rfl) (wi hw 45 rfl) (by decide) (by decide)) q105a q105c (g := (mkF mM 24 #[.val (.ref o), .val (.int (iN tot)), .val (.int (iN cap))] [(.int (iN tot)), (.ref o), (.ref b), (.ref o)])) rfl hml.symm (Steps.refl _) (argsL := [(.int (iN tot))]) (rest := [(.ref b), (.ref o)]) (lenOf pd_17 rfl) rfl (W0 rfl) (hb hj g68_9_4.1) (fun _ _ => ⟨rfl, e104, ble rfl, ble rfl⟩)
  dsimp only [Pt.U, Pt.locs, Pt.cells, Pt.slots] at X105 l105 y105 z105 st105 hQ105
  subst y105 z105
  obtain ⟨h105, e105⟩ : ∃ z, T105.heap = z := ⟨_, rfl⟩
  rw [e105] at hQ105
  obtain ⟨rfl, N105q, eq105⟩ := hQ105
  rw [eq105] at e105
  have N105 : Fr n0 L105 := by rw [l105]; exact Fr.app N0 N105q
  obtain ⟨T106, X106, e106, st106⟩ := getF X105 hx hZ hown (host := "") (Or.inl (wi hw 51 rfl)) Via.refl e105 F_coder_o (g := (mkF mM 28 #[.val (.ref o), .val (.int (iN tot)), .val (.int (iN cap))] [(.ref o), (.int (iN (cap + mx (tot - cap) (cap + 2)))), (.ref b), (.ref o)])) rfl rfl (hb hj g68_9_4.2.2.1)
  obtain ⟨_, _, ⟨T107, L107, k107, n107⟩, -, X107, ⟨Lc107, hQ107, l107, y107, z107⟩, st107⟩ := Jvm.LawKit.callS X106 hx (y := y11_) hown (mvT hZ (wi hw 129 rfl)) (mvT hZ (wi hw 130 rfl)) (mvT hZ (wi hw 131 rfl)) (mvT hZ (wi hw 132 rfl)) (by decide) (backOf (W := 1) (rm_copyOf l Z a0 hw [] b k cap xs (cap + mx (tot - cap) (cap + 2)) h0 n0 (by omega) V_b (by omega) (hG.2.2)) hZ (wi hw 132 rfl) (wi hw 131 rfl) (by decide) (by decide)) (g := (mkF mM 32 #[.val (.ref o), .val (.int (iN tot)), .val (.int (iN cap))] [(.int (iN (cap + mx (tot - cap) (cap + 2)))), (.ref b), (.ref o)])) rfl hml.symm (argsL := [(.ref b), (.int (iN (cap + mx (tot - cap) (cap + 2))))]) (rest := [(.ref o)]) (lenOf pd_20 rfl) rfl (W0 rfl) (hb hj g68_9_5.1) (fun _ _ => ⟨rfl, e106, ble rfl, ble rfl⟩)
  dsimp only [Pt.U, Pt.locs, Pt.cells, Pt.slots] at X107 l107 y107 z107 st107 hQ107
  subst y107 z107
  obtain ⟨h107, e107⟩ : ∃ z, T107.heap = z := ⟨_, rfl⟩
  rw [e107] at hQ107
  obtain ⟨b2_107, k2_107, rfl, N107q, Kp107, p107_V_b2, p107_gh_b2, p107_E_b2⟩ := hQ107
  have Sz1 : h0.size ≤ h107.size := Kp107.1
  have N107 : Fr n0 L107 := by rw [l107]; exact Fr.app N105 N107q
  have c108_F_value_o : Fld Z h107 o "java/lang/AbstractStringBuilder" "value" "[B" (.ref b) := F_value_o.keep Kp107 nin0
  have c109_E_o : Exa Z h107 o "java/lang/StringBuilder" := E_o.keep Kp107
  obtain ⟨T110, h110, X110, e110, W110, st110⟩ := putF X107 hx hZ hown (host := "") (Or.inl (wi hw 49 rfl)) Via.refl e107 c108_F_value_o c109_E_o (Or.inl (wi hw 50 rfl)) (wi hw 36 rfl) (ty := (.array .byte)) (by decide) rfl rfl (g := (mkF mM 35 #[.val (.ref o), .val (.int (iN tot)), .val (.int (iN cap))] [(.ref b2_107), (.ref o)])) rfl rfl (hb hj g68_9_5.2.1)
  have Sz2 : h107.size ≤ h110.size := Nat.le_of_eq (Wr.size W110).symm
  have Fw110 : Fld Z h110 o "java/lang/AbstractStringBuilder" "value" "[B" (.ref b2_107) := Fld.same W110 c108_F_value_o
  have N110 := Fr.snoc X110 N107 g_o
  have lt_b2_107 : @LT.lt Nat _ b2_107 h107.size := p107_V_b2.lt
  have lt_o : @LT.lt Nat _ o h0.size := E_o.lt
  have ne_b2_107_o_111 : b2_107 ≠ o := (by omega : @Ne Nat b2_107 o)
  have c112_V_b2_107 : Arv Z h110 b2_107 k2_107 .byte (iN (cap + mx (tot - cap) (cap + 2))) xs (.int (0 : Int32)) := p107_V_b2.other W110 ne_b2_107_o_111
  have Vn : Arv Z h110 b2_107 k2_107 .byte (iN (ncap cap tot)) xs (.int (0 : Int32)) := by rw [ncap_grow (by omega)]; exact c112_V_b2_107
  have c113_E_o : Exa Z h110 o "java/lang/StringBuilder" := Exa.wr W110 c109_E_o
  have c114_F_coder_o : Fld Z h107 o "java/lang/AbstractStringBuilder" "coder" "B" (.int (0 : Int32)) := F_coder_o.keep Kp107 nin0
  have c115_F_coder_o : Fld Z h110 o "java/lang/AbstractStringBuilder" "coder" "B" (.int (0 : Int32)) := Fld.other W110 c114_F_coder_o (Or.inr (slot_ne (Or.inl (wi hw 52 rfl)) (Or.inl (wi hw 50 rfl)) (by decide) (t := .byte) (t' := (.array .byte)) (by decide) (by decide)))
  have c116_F_count_o : Fld Z h107 o "java/lang/AbstractStringBuilder" "count" "I" u := F_count_o.keep Kp107 nin0
  have c117_F_count_o : Fld Z h110 o "java/lang/AbstractStringBuilder" "count" "I" u := Fld.other W110 c116_F_count_o (Or.inr (slot_ne (Or.inl (wi hw 75 rfl)) (Or.inl (wi hw 50 rfl)) (by decide) (t := .int) (t' := (.array .byte)) (by decide) (by decide)))
  have c118_E_b2_107 : Exa Z h110 b2_107 "[B" := Exa.wr W110 p107_E_b2
  have K119 : Keep h0 h107 [o] := (Keep.refl h0 [o]).trans Kp107 all0
  have K120 : Keep h0 h110 [o] := K119.wr W110 (Or.inl (List.mem_of_getElem? (i := 0) rfl))
  obtain ⟨fs, hr, hrun, hended, hW, hsame⟩ := X110.leave (v := none) (fun _ => rfl)
  refine ⟨_, _, castTop (ef_ensG mM o b k cap xs tot u) ?_, hrun, hended, _, _, rfl, ?_, ⟨_, rfl⟩, hW, hsame.mono (by decide) (by decide)⟩
  · show SS pP eE bS s₁ (mkF mM 0 #[.val (.ref o), .val (.int (iN tot)), .unset] []) _
    refine XS.aloadN X0.here hx rfl (hb hj g68_9_0.1) rfl rfl ?_
    refine st101 _ ?_
    refine X101.arraylength hx (by rw [e101]; exact Ar102.1) (State.isArrayOf_alike hZ.alike Ar102.2.1) (g := (mkF mM 4 #[.val (.ref o), .val (.int (iN tot)), .unset] [(.ref b)])) rfl rfl (hb hj g68_9_0.2.2.1) _ ?_
    rw [len_of S102 Ng102]
    refine XS.aloadN X101.here hx rfl (hb hj g68_9_0.2.2.2) rfl rfl ?_
    refine st103 _ ?_
    refine XS.ishr X103.here hx rfl (hb hj g68_9_1.2.1) rfl ?_
    show SS pP eE bS T103 (mkF mM 10 #[.val (.ref o), .val (.int (iN tot)), .unset] [(.int ((iN cap) >>> ((0 : Int32) &&& 31)))]) _
    rw [show ((iN cap) >>> ((0 : Int32) &&& 31)) = (iN cap) from shr0 _]
    refine XS.istoreN X103.here hx rfl (hb hj g68_9_1.2.2.1) rfl (l' := #[.val (.ref o), .val (.int (iN tot)), .val (.int (iN cap))]) rfl ?_
    refine XS.iloadN X103.here hx rfl (hb hj g68_9_1.2.2.2) rfl ?_
    refine XS.iloadN X103.here hx rfl (hb hj g68_9_2.1) rfl ?_
    refine XS.isub X103.here hx rfl (hb hj g68_9_2.2.1) rfl ?_
    refine XS.ifNo X103.here hx rfl (hb hj g68_9_2.2.2.1) rfl ((if0 _ _).trans (tlt (own_sgt hG.1 (by omega) : (0 : Int32) < ((iN tot) - (iN cap)))).2.2.2) ?_
    refine XS.aloadN X103.here hx rfl (hb hj g68_9_2.2.2.2) rfl rfl ?_
    refine XS.aloadN X103.here hx rfl (hb hj g68_9_3.1) rfl rfl ?_
    refine st104 _ ?_
    refine XS.aloadN X104.here hx rfl (hb hj g68_9_3.2.2.1) rfl rfl ?_
    refine XS.iloadN X104.here hx rfl (hb hj g68_9_3.2.2.2) rfl ?_
    refine st105.trans ?_
    refine XS.aloadN X105.here hx rfl (hb hj g68_9_4.2.1) rfl rfl ?_
    refine st106 _ ?_
    refine XS.ishl X106.here hx rfl (hb hj g68_9_4.2.2.2) rfl ?_
    show SS pP eE bS T106 (mkF mM 32 #[.val (.ref o), .val (.int (iN tot)), .val (.int (iN cap))] [(.int ((iN (cap + mx (tot - cap) (cap + 2))) <<< ((0 : Int32) &&& 31))), (.ref b), (.ref o)]) _
    rw [show ((iN (cap + mx (tot - cap) (cap + 2))) <<< ((0 : Int32) &&& 31)) = (iN (cap + mx (tot - cap) (cap + 2))) from shl0 _]
    refine st107 _ ?_
    refine st110 _ ?_
    exact X110.returnOut hx Bd.returns (hb hj g68_9_5.2.2) hr
  · show Q_ens Z o b k cap xs tot u h0 n0 _ T110.heap _
    rw [e110]
    exact ⟨b2_107, k2_107, rfl, N110, K120, c113_E_o, Fw110, c115_F_coder_o, c117_F_count_o, Vn, (Or.inr (by omega)), (by omega), (by omega), c118_E_b2_107⟩
theorem rm_ensJ (hw : HW a0 Z) (ws : List Jvm.Cond) (o : Addr) (b : Addr) (k : ClassId) (cap : Nat) (xs : List Value) (tot : Nat) (u : Value) (h0 : Heap) (n0 : Nat) (Z0 : n0 ≤ h0.size) (E_o : Exa Z h0 o "java/lang/StringBuilder") (F_value_o : Fld Z h0 o "java/lang/AbstractStringBuilder" "value" "[B" (.ref b)) (F_coder_o : Fld Z h0 o "java/lang/AbstractStringBuilder" "coder" "B" (.int (0 : Int32))) (F_count_o : Fld Z h0 o "java/lang/AbstractStringBuilder" "count" "I" u) (V_b : Arv Z h0 b k .byte (iN cap) xs (.int (0 : Int32))) (ne_o_b : @Ne Nat o b) (g_o : @LE.le Nat _ n0 o) (g_b : @LE.le Nat _ n0 b) (E_b : Exa Z h0 b "[B") (hE : ncap cap tot ≤ 128 ∧ cap ≤ 128 ∧ xs.length ≤ cap) :
    MF l y12_ jdk_68_method_9_code 3 none ws r3_1_128_48 #[(.ref o), (.int (iN tot))] Z h0 (Q_ens Z o b k cap xs tot u h0 n0) := by
  by_cases hle : tot ≤ cap
  · exact rm_ens0 l Z a0 hw ws o b k cap xs tot u h0 n0 Z0 E_o F_value_o F_coder_o F_count_o V_b ne_o_b g_o g_b E_b hle (hE.2.1)
  · have hq := hE.1
    rw [ncap_grow hle] at hq
    exact rm_ensG l Z a0 hw ws o b k cap xs tot u h0 n0 Z0 E_o F_value_o F_coder_o F_count_o V_b ne_o_b g_o g_b E_b (⟨by omega, hq, hE.2.2⟩)
abbrev c68_22 := jdk_68_method_22_code
theorem g68_22_0 : decode c68_22 0 = .ok (.aload_n 1, 1) ∧ decode c68_22 1 = .ok (.ifnonnull 8, 3) ∧ decode c68_22 9 = .ok (.aload_n 1, 1) ∧ decode c68_22 10 = .ok (.invokevirtual 32, 3) := by decide +kernel
theorem pd_9 : parseMethodDescriptor "()I" = some ⟨[], some .int⟩ := by decide +kernel
theorem cw_length_A3132 (hw : HW a0 Z) (t : Addr) (tb : Addr) (tk : ClassId) (z : Nat) (ys : List Value) (cs : Int32) (fo : Value) (da : Addr) (ea : Addr) {RR : Room} (h0 : Heap) (n0 : Nat) (Z0 : n0 ≤ h0.size) (hx : pP.tables.exec = Jvm.exec) (hZ : Z.Warmed39 sS.vm) (hown : sS.vm.findClass "java/lang/AbstractStringBuilder" = some mM.cls) (X0 : Stand pP l eE RR sS mM aS bS mS cC s₁ lc0 cl0 sl0) (e0 : s₁.heap = h0) (N0 : Fr n0 lc0) (hcl : cl0 + r1_0_0_13.cells ≤ RR.cells) (hsl : sl0 + r1_0_0_13.slots ≤ RR.slots) (A_t : StrA Z h0 t tb tk z ys) (OL : Old Z n0 h0) (SX : Sts Z cs fo da ea) {g : JFrame} (hg : g.method = mM) (hsz : g.locals.size = cC.maxLocals) {rest : List Value} (hst : g.stack = [(.ref t)] ++ rest) (hd : decode cC.code g.pc = .ok (.invokevirtual 32, 3)) {W : Nat} (hW : 2 * g.monitorRoom + (rest.map fun v => v.category).sum ≤ W) (hfr : r1_0_0_13.frames + 1 ≤ RR.frames) (hlo : W + (1 + 11) + r1_0_0_13.locals ≤ RR.locals) :
    ∃ T' L', Stand pP l eE RR sS mM aS bS mS cC T' L' (cl0 + r1_0_0_13.cells) (sl0 + r1_0_0_13.slots) ∧ T'.heap = h0 ∧ Fr n0 L' ∧ ∀ t', Steps pP.tables eE bS (T'.setTop { g with pc := g.pc + 3, stack := [(.int (iN z))] ++ rest }) t' → Steps pP.tables eE bS (s₁.setTop g) t' := by
  obtain ⟨cq, kq, qa, qb, qc⟩ := isOf hZ e0 A_t.1
  obtain ⟨_, _, ⟨T1, L1, k1, n1⟩, -, X1, ⟨Lc1, hQ1, l1, y1, z1⟩, st1⟩ := X0.virtualBack hx (y := y1_) (z := y1_) hown (mvT hZ (wi hw 64 rfl)) (mvT hZ (wi hw 65 rfl)) (notFace_of_selects (args := #[]) (mvT hZ (wi hw 67 rfl))) (mvT hZ (wi hw 67 rfl)) (mvT hZ (wi hw 66 rfl)) (by decide) (backOf (W := W) (rm_length l Z a0 hw [] t tb tk z ys cs fo da ea h0 n0 Z0 A_t OL SX) hZ (wi hw 68 rfl) (wi hw 1 rfl) hfr hlo) qa qc (g := g) hg hsz (Steps.refl _) (argsL := []) (rest := rest) (lenOf pd_9 rfl) hst hW hd (fun _ _ => ⟨rfl, e0, hcl, hsl⟩)
  dsimp only [Pt.U, Pt.locs, Pt.cells, Pt.slots] at X1 l1 y1 z1 st1 hQ1
  subst y1 z1
  obtain ⟨rfl, Nq, Kq⟩ := hQ1
  exact ⟨T1, L1, X1, Kq, by rw [l1]; exact Fr.app N0 Nq, fun t' hk => st1.trans hk⟩
theorem g68_22_1 : decode c68_22 13 = .ok (.istore_n 2, 1) ∧ decode c68_22 14 = .ok (.aload_n 0, 1) ∧ decode c68_22 15 = .ok (.aload_n 0, 1) ∧ decode c68_22 16 = .ok (.getfield 79, 3) := by decide +kernel
theorem g68_22_2 : decode c68_22 19 = .ok (.iload_n 2, 1) ∧ decode c68_22 20 = .ok (.iadd, 1) ∧ decode c68_22 21 = .ok (.invokevirtual 100, 3) ∧ decode c68_22 24 = .ok (.aload_n 0, 1) := by decide +kernel
theorem g68_22_3 : decode c68_22 25 = .ok (.aload_n 0, 1) ∧ decode c68_22 26 = .ok (.getfield 79, 3) ∧ decode c68_22 29 = .ok (.aload_n 1, 1) ∧ decode c68_22 30 = .ok (.invokevirtual 208, 3) := by decide +kernel
theorem pd_11 : parseMethodDescriptor "(ILjava/lang/String;)V" = some ⟨[.int, (.object "java/lang/String")], none⟩ := by decide +kernel
theorem g68_22_4 : decode c68_22 33 = .ok (.aload_n 0, 1) ∧ decode c68_22 34 = .ok (.dup, 1) ∧ decode c68_22 35 = .ok (.getfield 79, 3) ∧ decode c68_22 38 = .ok (.iload_n 2, 1) := by decide +kernel
theorem g68_22_5 : decode c68_22 39 = .ok (.iadd, 1) ∧ decode c68_22 40 = .ok (.putfield 79, 3) ∧ decode c68_22 43 = .ok (.aload_n 0, 1) ∧ decode c68_22 44 = .ok (.areturn, 1) := by decide +kernel
abbrev r4_1_128_62 : Room := { frames := 4, cells := 1, slots := 128, locals := 62 }
abbrev y13_ : MethodName := ⟨"java/lang/AbstractStringBuilder", "append", "(Ljava/lang/String;)Ljava/lang/AbstractStringBuilder;"⟩
def Q_app (Z : State) (o : Addr) (t : Addr) (tb : Addr) (tk : ClassId) (z : Nat) (ys : List Value) (b : Addr) (k : ClassId) (cap : Nat) (n : Nat) (xs : List Value) (cs : Int32) (fo : Value) (da : Addr) (ea : Addr) (h0 : Heap) (n0 : Nat) (xv : Option Value) (xh : Heap) (xL : List Loc) : Prop := ∃ b2 : Addr, ∃ k2 : ClassId, xv = some (.ref o) ∧ Fr n0 xL ∧ Keep h0 xh [o, b] ∧ Exa Z xh o "java/lang/StringBuilder" ∧ Fld Z xh o "java/lang/AbstractStringBuilder" "value" "[B" (.ref b2) ∧ Fld Z xh o "java/lang/AbstractStringBuilder" "coder" "B" (.int (0 : Int32)) ∧ Fld Z xh o "java/lang/AbstractStringBuilder" "count" "I" (.int (iN (n + z))) ∧ Arv Z xh b2 k2 .byte (iN (ncap cap (n + z))) (xs ++ ys) (.int (0 : Int32)) ∧ (@Eq Nat b2 b ∨ @LE.le Nat _ h0.size b2) ∧ @Ne Nat o b2 ∧ @LE.le Nat _ n0 b2 ∧ Exa Z xh b2 "[B"
theorem ef_app (mM : MethodId) (o : Addr) (t : Addr) (tb : Addr) (tk : ClassId) (z : Nat) (ys : List Value) (b : Addr) (k : ClassId) (cap : Nat) (n : Nat) (xs : List Value) (cs : Int32) (fo : Value) (da : Addr) (ea : Addr) : entryFrame mM #[(.ref o), (.ref t)] 3 = mkF mM 0 #[.val (.ref o), .val (.ref t), .unset] [] := by
  first | (simp [entryFrame, mkF, argsToLocals, Value.category]; done) | rfl
theorem rm_app (hw : HW a0 Z) (ws : List Jvm.Cond) (o : Addr) (t : Addr) (tb : Addr) (tk : ClassId) (z : Nat) (ys : List Value) (b : Addr) (k : ClassId) (cap : Nat) (n : Nat) (xs : List Value) (cs : Int32) (fo : Value) (da : Addr) (ea : Addr) (h0 : Heap) (n0 : Nat) (Z0 : n0 ≤ h0.size) (E_o : Exa Z h0 o "java/lang/StringBuilder") (F_value_o : Fld Z h0 o "java/lang/AbstractStringBuilder" "value" "[B" (.ref b)) (F_coder_o : Fld Z h0 o "java/lang/AbstractStringBuilder" "coder" "B" (.int (0 : Int32))) (F_count_o : Fld Z h0 o "java/lang/AbstractStringBuilder" "count" "I" (.int (iN n))) (A_t : StrA Z h0 t tb tk z ys) (V_b : Arv Z h0 b k .byte (iN cap) xs (.int (0 : Int32))) (ne_o_b : @Ne Nat o b) (ne_o_t : @Ne Nat o t) (ne_o_tb : @Ne Nat o tb) (ne_t_b : @Ne Nat t b) (ne_tb_b : @Ne Nat tb b) (g_o : @LE.le Nat _ n0 o) (g_b : @LE.le Nat _ n0 b) (hn : xs.length = n) (hz : ys.length = z) (E_b : Exa Z h0 b "[B") (hE : ncap cap (n + z) ≤ 128 ∧ cap ≤ 128 ∧ n ≤ cap) (OL : Old Z n0 h0) (SX : Sts Z cs fo da ea) :
    MF l y13_ jdk_68_method_22_code 3 (some (.object "java/lang/AbstractStringBuilder")) ws r4_1_128_62 #[(.ref o), (.ref t)] Z h0 (Q_app Z o t tb tk z ys b k cap n xs cs fo da ea h0 n0) := by
  refine MetFree.of_bodySF (plainFor_of_name pn_java_lang_AbstractStringBuilder) hisR ?_
  intro pP eE sS mM aS bS mS cC s₁ Bd hml0 hP hK
  obtain ⟨rfl, hZ, hh⟩ := hP
  have hx := Bd.exec
  have hj := Bd.bytes
  have hml : cC.maxLocals = 3 := hml0
  have hown : sS.vm.findClass "java/lang/AbstractStringBuilder" = some mM.cls := findClass_of_methodNamed Bd.named
  have X0 : Stand pP l eE r4_1_128_62 sS mM _ bS mS cC s₁ [] 0 0 := Stand.of_body Bd
  have e0 : s₁.heap = h0 := by rw [← hh, Bd.state]; rfl
  have N0 := Fr.nil n0
  have lt_o : @LT.lt Nat _ o h0.size := E_o.lt
  have lt_t : @LT.lt Nat _ t h0.size := A_t.1.lt
  have lt_tb : @LT.lt Nat _ tb h0.size := A_t.2.2.2.lt
  have lt_b : @LT.lt Nat _ b h0.size := V_b.lt
  obtain ⟨T101, L101, X101, e101, N101, st101⟩ := cw_length_A3132 l Z a0 hw t tb tk z ys cs fo da ea h0 n0 (by omega) hx hZ hown X0 e0 N0 (by decide) (by decide) A_t OL SX (g := (mkF mM 10 #[.val (.ref o), .val (.ref t), .unset] [(.ref t)])) rfl hml.symm rfl (hb hj g68_22_0.2.2.2) (W := 0) (W0 rfl) (by decide) (by decide)
  obtain ⟨T102, X102, e102, st102⟩ := getF X101 hx hZ hown (host := "") (Or.inl (wi hw 74 rfl)) Via.refl e101 F_count_o (g := (mkF mM 16 #[.val (.ref o), .val (.ref t), .val (.int (iN z))] [(.ref o), (.ref o)])) rfl rfl (hb hj g68_22_1.2.2.2)
  obtain ⟨cq103, kq103, q103a, q103b, q103c⟩ := isOf hZ e102 E_o
  obtain ⟨_, _, ⟨T103, L103, k103, n103⟩, -, X103, ⟨Lc103, hQ103, l103, y103, z103⟩, st103⟩ := X102.virtualBack hx (y := y12_) (z := y12_) hown (mvT hZ (wi hw 76 rfl)) (mvT hZ (own_decl (wi hw 77 rfl) (wi hw 80 rfl))) (notFace_of_selects (args := #[]) (mvT hZ (wi hw 79 rfl))) (mvT hZ (wi hw 79 rfl)) (mvT hZ (wi hw 77 rfl)) (by decide) (backOf (W := 0) (rm_ensJ l Z a0 hw [] o b k cap xs (n + z) (.int (iN n)) h0 n0 (by omega) E_o F_value_o F_coder_o F_count_o V_b ne_o_b g_o g_b E_b (⟨hE.1, hE.2.1, by omega⟩)) hZ (wi hw 80 rfl) (wi hw 45 rfl) (by decide) (by decide)) q103a q103c (g := (mkF mM 21 #[.val (.ref o), .val (.ref t), .val (.int (iN z))] [(.int (iN (n + z))), (.ref o)])) rfl hml.symm (Steps.refl _) (argsL := [(.int (iN (n + z)))]) (rest := []) (lenOf pd_6 rfl) rfl (W0 rfl) (hb hj g68_22_2.2.2.1) (fun _ _ => ⟨rfl, e102, ble rfl, ble rfl⟩)
  dsimp only [Pt.U, Pt.locs, Pt.cells, Pt.slots] at X103 l103 y103 z103 st103 hQ103
  subst y103 z103
  obtain ⟨h103, e103⟩ : ∃ z, T103.heap = z := ⟨_, rfl⟩
  rw [e103] at hQ103
  obtain ⟨b2_103, k2_103, rfl, N103q, Kp103, p103_E_o, p103_F_value_o, p103_F_coder_o, p103_F_count_o, p103_V_b2, p103_hor, p103_hob, p103_hgb, p103_E_b2⟩ := hQ103
  have Sz1 : h0.size ≤ h103.size := Kp103.1
  have N103 : Fr n0 L103 := by rw [l103]; exact Fr.app N101 N103q
  obtain ⟨T104, X104, e104, st104⟩ := getF X103 hx hZ hown (host := "") (Or.inl (wi hw 74 rfl)) Via.refl e103 p103_F_count_o (g := (mkF mM 26 #[.val (.ref o), .val (.ref t), .val (.int (iN z))] [(.ref o), (.ref o)])) rfl rfl (hb hj g68_22_3.2.1)
  have c106_A_t : StrA Z h103 t tb tk z ys := StrA.keep Kp103 A_t (ninS (Ne.symm ne_o_t) nin0) (ninS (Ne.symm ne_o_tb) nin0)
  have c107_OL : Old Z n0 h103 := OL.keep Kp103 (allS g_o all0)
  have lt_b2_103 : @LT.lt Nat _ b2_103 h103.size := p103_V_b2.lt
  have ne_o_b2_103_108 : o ≠ b2_103 := (by omega : @Ne Nat o b2_103)
  have ne_t_b2_103_109 : t ≠ b2_103 := (by omega : @Ne Nat t b2_103)
  have ne_tb_b2_103_110 : tb ≠ b2_103 := (by omega : @Ne Nat tb b2_103)
  have ge111_b2_103 : @LE.le Nat _ n0 b2_103 := by omega
  obtain ⟨cq105, kq105, q105a, q105b, q105c⟩ := isOf hZ e104 p103_E_o
  obtain ⟨_, _, ⟨T105, L105, k105, n105⟩, -, X105, ⟨Lc105, hQ105, l105, y105, z105⟩, st105⟩ := X104.virtualBack hx (y := y6_) (z := y6_) hown (mvT hZ (wi hw 81 rfl)) (mvT hZ (own_decl (wi hw 82 rfl) (wi hw 85 rfl))) (notFace_of_selects (args := #[]) (mvT hZ (wi hw 84 rfl))) (mvT hZ (wi hw 84 rfl)) (mvT hZ (wi hw 82 rfl)) (by decide) (backOf (W := 0) (rm_putStringAt l Z a0 hw [] o t tb tk z ys b2_103 k2_103 (ncap cap (n + z)) n xs cs fo da ea h103 n0 (by omega) p103_E_o p103_F_value_o p103_F_coder_o c106_A_t p103_V_b2 ne_o_b2_103_108 ne_t_b2_103_109 ne_tb_b2_103_110 ge111_b2_103 hn hz (⟨(ncap_ge cap (n + z)).2, hE.1⟩) c107_OL SX) hZ (wi hw 85 rfl) (wi hw 45 rfl) (by decide) (by decide)) q105a q105c (g := (mkF mM 30 #[.val (.ref o), .val (.ref t), .val (.int (iN z))] [(.ref t), (.int (iN n)), (.ref o)])) rfl hml.symm (Steps.refl _) (argsL := [(.int (iN n)), (.ref t)]) (rest := []) (lenOf pd_11 rfl) rfl (W0 rfl) (hb hj g68_22_3.2.2.2) (fun _ _ => ⟨rfl, e104, ble rfl, ble rfl⟩)
  dsimp only [Pt.U, Pt.locs, Pt.cells, Pt.slots] at X105 l105 y105 z105 st105 hQ105
  subst y105 z105
  obtain ⟨h105, e105⟩ : ∃ z, T105.heap = z := ⟨_, rfl⟩
  rw [e105] at hQ105
  obtain ⟨rfl, N105q, Kp105, p105_V_b⟩ := hQ105
  have Sz2 : h103.size ≤ h105.size := Kp105.1
  have N105 : Fr n0 L105 := by rw [l105]; exact Fr.app N103 N105q
  have c112_F_count_o : Fld Z h105 o "java/lang/AbstractStringBuilder" "count" "I" (.int (iN n)) := p103_F_count_o.keep Kp105 (ninS ne_o_b2_103_108 nin0)
  obtain ⟨T113, X113, e113, st113⟩ := getF X105 hx hZ hown (host := "") (Or.inl (wi hw 74 rfl)) Via.refl e105 c112_F_count_o (g := (mkF mM 35 #[.val (.ref o), .val (.ref t), .val (.int (iN z))] [(.ref o), (.ref o)])) rfl rfl (hb hj g68_22_4.2.2.1)
  have c114_E_o : Exa Z h105 o "java/lang/StringBuilder" := p103_E_o.keep Kp105
  obtain ⟨T115, h115, X115, e115, W115, st115⟩ := putF X113 hx hZ hown (host := "") (Or.inl (wi hw 74 rfl)) Via.refl e113 c112_F_count_o c114_E_o (Or.inl (wi hw 75 rfl)) (wi hw 36 rfl) (ty := .int) (by decide) rfl rfl (g := (mkF mM 40 #[.val (.ref o), .val (.ref t), .val (.int (iN z))] [(.int (iN (n + z))), (.ref o)])) rfl rfl (hb hj g68_22_5.2.1)
  have Sz3 : h105.size ≤ h115.size := Nat.le_of_eq (Wr.size W115).symm
  have Fw115 : Fld Z h115 o "java/lang/AbstractStringBuilder" "count" "I" (.int (iN (n + z))) := Fld.same W115 c112_F_count_o
  have N115 := Fr.snoc X115 N105 g_o
  have c116_F_value_o : Fld Z h105 o "java/lang/AbstractStringBuilder" "value" "[B" (.ref b2_103) := p103_F_value_o.keep Kp105 (ninS ne_o_b2_103_108 nin0)
  have c117_F_value_o : Fld Z h115 o "java/lang/AbstractStringBuilder" "value" "[B" (.ref b2_103) := Fld.other W115 c116_F_value_o (Or.inr (slot_ne (Or.inl (wi hw 50 rfl)) (Or.inl (wi hw 75 rfl)) (by decide) (t := (.array .byte)) (t' := .int) (by decide) (by decide)))
  have ne_b2_103_o_118 : b2_103 ≠ o := (by omega : @Ne Nat b2_103 o)
  have c119_V_b2_103 : Arv Z h115 b2_103 k2_103 .byte (iN (ncap cap (n + z))) (xs ++ ys) (.int (0 : Int32)) := p105_V_b.other W115 ne_b2_103_o_118
  have c120_E_o : Exa Z h115 o "java/lang/StringBuilder" := Exa.wr W115 c114_E_o
  have c121_F_coder_o : Fld Z h105 o "java/lang/AbstractStringBuilder" "coder" "B" (.int (0 : Int32)) := p103_F_coder_o.keep Kp105 (ninS ne_o_b2_103_108 nin0)
  have c122_F_coder_o : Fld Z h115 o "java/lang/AbstractStringBuilder" "coder" "B" (.int (0 : Int32)) := Fld.other W115 c121_F_coder_o (Or.inr (slot_ne (Or.inl (wi hw 52 rfl)) (Or.inl (wi hw 75 rfl)) (by decide) (t := .byte) (t' := .int) (by decide) (by decide)))
  have c123_E_b2_103 : Exa Z h105 b2_103 "[B" := p103_E_b2.keep Kp105
  have c124_E_b2_103 : Exa Z h115 b2_103 "[B" := Exa.wr W115 c123_E_b2_103
  have K125 : Keep h0 h103 [o, b] := (Keep.refl h0 [o, b]).trans Kp103 (allS (Or.inl (List.mem_of_getElem? (i := 0) rfl)) all0)
  have K126 : Keep h0 h105 [o, b] := K125.trans Kp105 (allS (p103_hor.elim (fun q => Or.inl (by rw [q]; exact List.mem_of_getElem? (i := 1) rfl)) (fun q => Or.inr (by omega))) all0)
  have K127 : Keep h0 h115 [o, b] := K126.wr W115 (Or.inl (List.mem_of_getElem? (i := 0) rfl))
  obtain ⟨fs, hr, hrun, hended, hW, hsame⟩ := X115.leave (v := some (.ref o)) (fun h => by rw [Bd.returns] at h; cases h)
  refine ⟨_, _, castTop (ef_app mM o t tb tk z ys b k cap n xs cs fo da ea) ?_, hrun, hended, _, _, rfl, ?_, ⟨_, rfl⟩, hW, hsame.mono (by decide) (by decide)⟩
  · show SS pP eE bS s₁ (mkF mM 0 #[.val (.ref o), .val (.ref t), .unset] []) _
    refine XS.aloadN X0.here hx rfl (hb hj g68_22_0.1) rfl rfl ?_
    refine XS.ifnonnullYes X0.here hx rfl (pc0 := 1) (pc' := 9) rfl (hb hj g68_22_0.2.1) rfl (by decide) (by decide) ?_
    refine XS.aloadN X0.here hx rfl (hb hj g68_22_0.2.2.1) rfl rfl ?_
    refine st101 _ ?_
    refine XS.istoreN X101.here hx rfl (hb hj g68_22_1.1) rfl (l' := #[.val (.ref o), .val (.ref t), .val (.int (iN z))]) rfl ?_
    refine XS.aloadN X101.here hx rfl (hb hj g68_22_1.2.1) rfl rfl ?_
    refine XS.aloadN X101.here hx rfl (hb hj g68_22_1.2.2.1) rfl rfl ?_
    refine st102 _ ?_
    refine XS.iloadN X102.here hx rfl (hb hj g68_22_2.1) rfl ?_
    refine XS.iadd X102.here hx rfl (hb hj g68_22_2.2.1) rfl ?_
    show SS pP eE bS T102 (mkF mM 21 #[.val (.ref o), .val (.ref t), .val (.int (iN z))] [(.int ((iN n) + (iN z))), (.ref o)]) _
    rw [show ((iN n) + (iN z)) = (iN (n + z)) from iN_add n z]
    refine st103.trans ?_
    refine XS.aloadN X103.here hx rfl (hb hj g68_22_2.2.2.2) rfl rfl ?_
    refine XS.aloadN X103.here hx rfl (hb hj g68_22_3.1) rfl rfl ?_
    refine st104 _ ?_
    refine XS.aloadN X104.here hx rfl (hb hj g68_22_3.2.2.1) rfl rfl ?_
    refine st105.trans ?_
    refine XS.aloadN X105.here hx rfl (hb hj g68_22_4.1) rfl rfl ?_
    refine XS.dup X105.here hx rfl (hb hj g68_22_4.2.1) rfl rfl ?_
    refine st113 _ ?_
    refine XS.iloadN X113.here hx rfl (hb hj g68_22_4.2.2.2) rfl ?_
    refine XS.iadd X113.here hx rfl (hb hj g68_22_5.1) rfl ?_
    show SS pP eE bS T113 (mkF mM 40 #[.val (.ref o), .val (.ref t), .val (.int (iN z))] [(.int ((iN n) + (iN z))), (.ref o)]) _
    rw [show ((iN n) + (iN z)) = (iN (n + z)) from iN_add n z]
    refine st115 _ ?_
    refine XS.aloadN X115.here hx rfl (hb hj g68_22_5.2.2.1) rfl rfl ?_
    jvm_step X115.here [X115.here.top, hx, (hb hj g68_22_5.2.2.2), X115.method', Bd.returns, Value.isRef, FieldType.isReference]
    first | (intro acts; rw [hr _ acts rfl rfl rfl]) | rw [hr _ _ rfl rfl rfl]
    exact Steps.refl _
  · show Q_app Z o t tb tk z ys b k cap n xs cs fo da ea h0 n0 _ T115.heap _
    rw [e115]
    exact ⟨b2_103, k2_103, rfl, N115, K127, c120_E_o, c117_F_value_o, c122_F_coder_o, Fw115, c119_V_b2_103, (p103_hor), (p103_hob), (p103_hgb), c124_E_b2_103⟩
abbrev c67_7 := jdk_67_method_7_code
theorem g67_7_0 : decode c67_7 0 = .ok (.aload_n 0, 1) ∧ decode c67_7 1 = .ok (.aload_n 1, 1) ∧ decode c67_7 2 = .ok (.invokespecial 29, 3) ∧ decode c67_7 5 = .ok (.pop, 1) := by decide +kernel
theorem pd_8 : parseMethodDescriptor "(Ljava/lang/String;)Ljava/lang/AbstractStringBuilder;" = some ⟨[(.object "java/lang/String")], some (.object "java/lang/AbstractStringBuilder")⟩ := by decide +kernel
theorem g67_7_1 : decode c67_7 6 = .ok (.aload_n 0, 1) ∧ decode c67_7 7 = .ok (.areturn, 1) := by decide +kernel
abbrev r5_1_128_76 : Room := { frames := 5, cells := 1, slots := 128, locals := 76 }
abbrev y14_ : MethodName := ⟨"java/lang/StringBuilder", "append", "(Ljava/lang/String;)Ljava/lang/StringBuilder;"⟩
def Q_sapp (Z : State) (o : Addr) (t : Addr) (tb : Addr) (tk : ClassId) (z : Nat) (ys : List Value) (b : Addr) (k : ClassId) (cap : Nat) (n : Nat) (xs : List Value) (cs : Int32) (fo : Value) (da : Addr) (ea : Addr) (h0 : Heap) (n0 : Nat) (xv : Option Value) (xh : Heap) (xL : List Loc) : Prop := ∃ b2 : Addr, ∃ k2 : ClassId, xv = some (.ref o) ∧ Fr n0 xL ∧ Keep h0 xh [o, b] ∧ Exa Z xh o "java/lang/StringBuilder" ∧ Fld Z xh o "java/lang/AbstractStringBuilder" "value" "[B" (.ref b2) ∧ Fld Z xh o "java/lang/AbstractStringBuilder" "coder" "B" (.int (0 : Int32)) ∧ Fld Z xh o "java/lang/AbstractStringBuilder" "count" "I" (.int (iN (n + z))) ∧ Arv Z xh b2 k2 .byte (iN (ncap cap (n + z))) (xs ++ ys) (.int (0 : Int32)) ∧ (@Eq Nat b2 b ∨ @LE.le Nat _ h0.size b2) ∧ @Ne Nat o b2 ∧ @LE.le Nat _ n0 b2 ∧ Exa Z xh b2 "[B"
theorem ef_sapp (mM : MethodId) (o : Addr) (t : Addr) (tb : Addr) (tk : ClassId) (z : Nat) (ys : List Value) (b : Addr) (k : ClassId) (cap : Nat) (n : Nat) (xs : List Value) (cs : Int32) (fo : Value) (da : Addr) (ea : Addr) : entryFrame mM #[(.ref o), (.ref t)] 2 = mkF mM 0 #[.val (.ref o), .val (.ref t)] [] := by
  first | (simp [entryFrame, mkF, argsToLocals, Value.category]; done) | rfl
theorem rm_sapp (hw : HW a0 Z) (ws : List Jvm.Cond) (o : Addr) (t : Addr) (tb : Addr) (tk : ClassId) (z : Nat) (ys : List Value) (b : Addr) (k : ClassId) (cap : Nat) (n : Nat) (xs : List Value) (cs : Int32) (fo : Value) (da : Addr) (ea : Addr) (h0 : Heap) (n0 : Nat) (Z0 : n0 ≤ h0.size) (E_o : Exa Z h0 o "java/lang/StringBuilder") (F_value_o : Fld Z h0 o "java/lang/AbstractStringBuilder" "value" "[B" (.ref b)) (F_coder_o : Fld Z h0 o "java/lang/AbstractStringBuilder" "coder" "B" (.int (0 : Int32))) (F_count_o : Fld Z h0 o "java/lang/AbstractStringBuilder" "count" "I" (.int (iN n))) (A_t : StrA Z h0 t tb tk z ys) (V_b : Arv Z h0 b k .byte (iN cap) xs (.int (0 : Int32))) (ne_o_b : @Ne Nat o b) (ne_o_t : @Ne Nat o t) (ne_o_tb : @Ne Nat o tb) (ne_t_b : @Ne Nat t b) (ne_tb_b : @Ne Nat tb b) (g_o : @LE.le Nat _ n0 o) (g_b : @LE.le Nat _ n0 b) (hn : xs.length = n) (hz : ys.length = z) (E_b : Exa Z h0 b "[B") (hE : ncap cap (n + z) ≤ 128 ∧ cap ≤ 128 ∧ n ≤ cap) (OL : Old Z n0 h0) (SX : Sts Z cs fo da ea) :
    MF l y14_ jdk_67_method_7_code 2 (some (.object "java/lang/StringBuilder")) ws r5_1_128_76 #[(.ref o), (.ref t)] Z h0 (Q_sapp Z o t tb tk z ys b k cap n xs cs fo da ea h0 n0) := by
  refine MetFree.of_bodySF (plainFor_of_name pn_java_lang_StringBuilder) hisR ?_
  intro pP eE sS mM aS bS mS cC s₁ Bd hml0 hP hK
  obtain ⟨rfl, hZ, hh⟩ := hP
  have hx := Bd.exec
  have hj := Bd.bytes
  have hml : cC.maxLocals = 2 := hml0
  have hown : sS.vm.findClass "java/lang/StringBuilder" = some mM.cls := findClass_of_methodNamed Bd.named
  have X0 : Stand pP l eE r5_1_128_76 sS mM _ bS mS cC s₁ [] 0 0 := Stand.of_body Bd
  have e0 : s₁.heap = h0 := by rw [← hh, Bd.state]; rfl
  have N0 := Fr.nil n0
  obtain ⟨_, _, ⟨T101, L101, k101, n101⟩, -, X101, ⟨Lc101, hQ101, l101, y101, z101⟩, st101⟩ := superBack X0 hx hZ (y := y13_) hown (wi hw 59 rfl) (own_same (y := y13_) (by decide) (wi hw 60 rfl) (own_nf (y := (⟨"java/lang/AbstractStringBuilder", "ensureCapacityInternal", "(I)V"⟩ : MethodName)) (z := (⟨"java/lang/AbstractStringBuilder", "append", "(Ljava/lang/String;)Ljava/lang/AbstractStringBuilder;"⟩ : MethodName)) (notFace_of_selects (wi hw 79 rfl)) (Cond.code_named (wi hw 80 rfl)) rfl)) (wi hw 60 rfl) (wi hw 61 rfl) (by decide) (backOf (W := 0) (rm_app l Z a0 hw [] o t tb tk z ys b k cap n xs cs fo da ea h0 n0 (by omega) E_o F_value_o F_coder_o F_count_o A_t V_b ne_o_b ne_o_t ne_o_tb ne_t_b ne_tb_b g_o g_b hn hz E_b hE OL SX) hZ (wi hw 63 rfl) (wi hw 45 rfl) (by decide) (by decide)) e0 (Ins.self E_o) (g := (mkF mM 2 #[.val (.ref o), .val (.ref t)] [(.ref t), (.ref o)])) rfl hml.symm (wi hw 63 rfl) (argsL := [(.ref t)]) (rest := []) (lenOf pd_8 rfl) rfl (W0 rfl) (hb hj g67_7_0.2.2.1) (fun _ _ => ⟨rfl, e0, ble rfl, ble rfl⟩)
  dsimp only [Pt.U, Pt.locs, Pt.cells, Pt.slots] at X101 l101 y101 z101 st101 hQ101
  subst y101 z101
  obtain ⟨h101, e101⟩ : ∃ z, T101.heap = z := ⟨_, rfl⟩
  rw [e101] at hQ101
  obtain ⟨b2_101, k2_101, rfl, N101q, Kp101, p101_E_o, p101_F_value_o, p101_F_coder_o, p101_F_count_o, p101_V_b2, p101_hor, p101_hob, p101_hgb, p101_E_b2⟩ := hQ101
  have Sz1 : h0.size ≤ h101.size := Kp101.1
  have N101 : Fr n0 L101 := by rw [l101]; exact Fr.app N0 N101q
  have K102 : Keep h0 h101 [o, b] := (Keep.refl h0 [o, b]).trans Kp101 (allS (Or.inl (List.mem_of_getElem? (i := 0) rfl)) (allS (Or.inl (List.mem_of_getElem? (i := 1) rfl)) all0))
  obtain ⟨fs, hr, hrun, hended, hW, hsame⟩ := X101.leave (v := some (.ref o)) (fun h => by rw [Bd.returns] at h; cases h)
  refine ⟨_, _, castTop (ef_sapp mM o t tb tk z ys b k cap n xs cs fo da ea) ?_, hrun, hended, _, _, rfl, ?_, ⟨_, rfl⟩, hW, hsame.mono (by decide) (by decide)⟩
  · show SS pP eE bS s₁ (mkF mM 0 #[.val (.ref o), .val (.ref t)] []) _
    refine XS.aloadN X0.here hx rfl (hb hj g67_7_0.1) rfl rfl ?_
    refine XS.aloadN X0.here hx rfl (hb hj g67_7_0.2.1) rfl rfl ?_
    refine st101.trans ?_
    refine XS.pop X101.here hx rfl (hb hj g67_7_0.2.2.2) rfl rfl ?_
    refine XS.aloadN X101.here hx rfl (hb hj g67_7_1.1) rfl rfl ?_
    jvm_step X101.here [X101.here.top, hx, (hb hj g67_7_1.2), X101.method', Bd.returns, Value.isRef, FieldType.isReference]
    first | (intro acts; rw [hr _ acts rfl rfl rfl]) | rw [hr _ _ rfl rfl rfl]
    exact Steps.refl _
  · show Q_sapp Z o t tb tk z ys b k cap n xs cs fo da ea h0 n0 _ T101.heap _
    rw [e101]
    exact ⟨b2_101, k2_101, rfl, N101, K102, p101_E_o, p101_F_value_o, p101_F_coder_o, p101_F_count_o, p101_V_b2, (p101_hor), (p101_hob), (p101_hgb), p101_E_b2⟩
abbrev c68_68 := jdk_68_method_68_code
theorem g68_68_0 : decode c68_68 0 = .ok (.getstatic 18, 3) ∧ decode c68_68 3 = .ok (.ifCond .eq 14, 3) ∧ decode c68_68 6 = .ok (.aload_n 0, 1) ∧ decode c68_68 7 = .ok (.getfield 22, 3) := by decide +kernel
theorem g68_68_1 : decode c68_68 10 = .ok (.ifCond .ne 7, 3) ∧ decode c68_68 13 = .ok (.iconst 1, 1) ∧ decode c68_68 14 = .ok (.goto 4, 3) ∧ decode c68_68 18 = .ok (.ireturn, 1) := by decide +kernel
abbrev y15_ : MethodName := ⟨"java/lang/AbstractStringBuilder", "isLatin1", "()Z"⟩
def Q_asb_latin (Z : State) (o : Addr) (cs : Int32) (fo : Value) (da : Addr) (ea : Addr) (h0 : Heap) (n0 : Nat) (xv : Option Value) (xh : Heap) (xL : List Loc) : Prop := xv = some (.int (1 : Int32)) ∧ Fr n0 xL ∧ xh = h0
theorem ef_asb_latin (mM : MethodId) (o : Addr) (cs : Int32) (fo : Value) (da : Addr) (ea : Addr) : entryFrame mM #[(.ref o)] 1 = mkF mM 0 #[.val (.ref o)] [] := by
  first | (simp [entryFrame, mkF, argsToLocals, Value.category]; done) | rfl
theorem rm_asb_latin (hw : HW a0 Z) (ws : List Jvm.Cond) (o : Addr) (cs : Int32) (fo : Value) (da : Addr) (ea : Addr) (h0 : Heap) (n0 : Nat) (Z0 : n0 ≤ h0.size) (F_coder_o : Fld Z h0 o "java/lang/AbstractStringBuilder" "coder" "B" (.int (0 : Int32))) (OL : Old Z n0 h0) (SX : Sts Z cs fo da ea) :
    MF l y15_ jdk_68_method_68_code 1 (some .boolean) ws r0_0_0_0 #[(.ref o)] Z h0 (Q_asb_latin Z o cs fo da ea h0 n0) := by
  refine MetFree.of_bodySF (plainFor_of_name pn_java_lang_AbstractStringBuilder) hisR ?_
  intro pP eE sS mM aS bS mS cC s₁ Bd hml0 hP hK
  obtain ⟨rfl, hZ, hh⟩ := hP
  have hx := Bd.exec
  have hj := Bd.bytes
  have hml : cC.maxLocals = 1 := hml0
  have hown : sS.vm.findClass "java/lang/AbstractStringBuilder" = some mM.cls := findClass_of_methodNamed Bd.named
  have X0 : Stand pP l eE r0_0_0_0 sS mM _ bS mS cC s₁ [] 0 0 := Stand.of_body Bd
  have e0 : s₁.heap = h0 := by rw [← hh, Bd.state]; rfl
  have N0 := Fr.nil n0
  have c101_S_COMPACT_STRINGS : Sta Z h0 "java/lang/String" "COMPACT_STRINGS" "Z" (.int cs) := Sta.ext OL.2 SX.1
  obtain ⟨T102, X102, e102, st102⟩ := getS2 X0 hx hZ hown (host := "") (Or.inl (wi hw 48 rfl)) Via.refl e0 c101_S_COMPACT_STRINGS (g := (mkF mM 0 #[.val (.ref o)] [])) rfl (hb hj g68_68_0.1)
  obtain ⟨T103, X103, e103, st103⟩ := getF X102 hx hZ hown (host := "") (Or.inl (wi hw 51 rfl)) Via.refl e102 F_coder_o (g := (mkF mM 7 #[.val (.ref o)] [(.ref o)])) rfl rfl (hb hj g68_68_0.2.2.2)
  obtain ⟨fs, hr, hrun, hended, hW, hsame⟩ := X103.leave (v := some (.int (1 : Int32))) (fun h => by rw [Bd.returns] at h; cases h)
  refine ⟨_, _, castTop (ef_asb_latin mM o cs fo da ea) ?_, hrun, hended, _, _, rfl, ?_, ⟨_, rfl⟩, hW, hsame.mono (by decide) (by decide)⟩
  · show SS pP eE bS s₁ (mkF mM 0 #[.val (.ref o)] []) _
    refine st102 _ ?_
    refine XS.ifNo X102.here hx rfl (hb hj g68_68_0.2.1) rfl ((if0 _ _).trans (feq SX.2.1).1) ?_
    refine XS.aloadN X102.here hx rfl (hb hj g68_68_0.2.2.1) rfl rfl ?_
    refine st103 _ ?_
    refine XS.ifNo X103.here hx rfl (hb hj g68_68_1.1) rfl ((if0 _ _).trans (teq (by decide : (0 : Int32) = (0 : Int32))).2) ?_
    refine XS.iconst X103.here hx rfl (hb hj g68_68_1.2.1) ?_
    refine XS.goto X103.here hx rfl (pc0 := 14) (pc' := 18) rfl (hb hj g68_68_1.2.2.1) (by decide) (by decide) ?_
    exact retN X103 hx (t := .boolean) Bd.returns (by simp) (hb hj g68_68_1.2.2.2) hr
  · show Q_asb_latin Z o cs fo da ea h0 n0 _ T103.heap _
    rw [e103]
    exact ⟨rfl, N0, rfl⟩
abbrev c68_64 := jdk_68_method_64_code
theorem g68_64_0 : decode c68_64 0 = .ok (.aload_n 0, 1) ∧ decode c68_64 1 = .ok (.getfield 15, 3) ∧ decode c68_64 4 = .ok (.areturn, 1) := by decide +kernel
abbrev y16_ : MethodName := ⟨"java/lang/AbstractStringBuilder", "getValue", "()[B"⟩
def Q_getValue (Z : State) (o : Addr) (b : Addr) (h0 : Heap) (n0 : Nat) (xv : Option Value) (xh : Heap) (xL : List Loc) : Prop := xv = some (.ref b) ∧ Fr n0 xL ∧ xh = h0
theorem ef_getValue (mM : MethodId) (o : Addr) (b : Addr) : entryFrame mM #[(.ref o)] 1 = mkF mM 0 #[.val (.ref o)] [] := by
  first | (simp [entryFrame, mkF, argsToLocals, Value.category]; done) | rfl
theorem rm_getValue (hw : HW a0 Z) (ws : List Jvm.Cond) (o : Addr) (b : Addr) (h0 : Heap) (n0 : Nat) (Z0 : n0 ≤ h0.size) (F_value_o : Fld Z h0 o "java/lang/AbstractStringBuilder" "value" "[B" (.ref b)) :
    MF l y16_ jdk_68_method_64_code 1 (some (.array .byte)) ws r0_0_0_0 #[(.ref o)] Z h0 (Q_getValue Z o b h0 n0) := by
  refine MetFree.of_bodySF (plainFor_of_name pn_java_lang_AbstractStringBuilder) hisR ?_
  intro pP eE sS mM aS bS mS cC s₁ Bd hml0 hP hK
  obtain ⟨rfl, hZ, hh⟩ := hP
  have hx := Bd.exec
  have hj := Bd.bytes
  have hml : cC.maxLocals = 1 := hml0
  have hown : sS.vm.findClass "java/lang/AbstractStringBuilder" = some mM.cls := findClass_of_methodNamed Bd.named
  have X0 : Stand pP l eE r0_0_0_0 sS mM _ bS mS cC s₁ [] 0 0 := Stand.of_body Bd
  have e0 : s₁.heap = h0 := by rw [← hh, Bd.state]; rfl
  have N0 := Fr.nil n0
  obtain ⟨T101, X101, e101, st101⟩ := getF X0 hx hZ hown (host := "") (Or.inl (wi hw 49 rfl)) Via.refl e0 F_value_o (g := (mkF mM 1 #[.val (.ref o)] [(.ref o)])) rfl rfl (hb hj g68_64_0.2.1)
  obtain ⟨fs, hr, hrun, hended, hW, hsame⟩ := X101.leave (v := some (.ref b)) (fun h => by rw [Bd.returns] at h; cases h)
  refine ⟨_, _, castTop (ef_getValue mM o b) ?_, hrun, hended, _, _, rfl, ?_, ⟨_, rfl⟩, hW, hsame.mono (by decide) (by decide)⟩
  · show SS pP eE bS s₁ (mkF mM 0 #[.val (.ref o)] []) _
    refine XS.aloadN X0.here hx rfl (hb hj g68_64_0.1) rfl rfl ?_
    refine st101 _ ?_
    jvm_step X101.here [X101.here.top, hx, (hb hj g68_64_0.2.2), X101.method', Bd.returns, Value.isRef, FieldType.isReference]
    first | (intro acts; rw [hr _ acts rfl rfl rfl]) | rw [hr _ _ rfl rfl rfl]
    exact Steps.refl _
  · show Q_getValue Z o b h0 n0 _ T101.heap _
    rw [e101]
    exact ⟨rfl, N0, rfl⟩
abbrev c68_6 := jdk_68_method_6_code
theorem g68_6_0 : decode c68_6 0 = .ok (.aload_n 0, 1) ∧ decode c68_6 1 = .ok (.getfield 79, 3) ∧ decode c68_6 4 = .ok (.ireturn, 1) := by decide +kernel
abbrev y17_ : MethodName := ⟨"java/lang/AbstractStringBuilder", "length", "()I"⟩
def Q_asb_length (Z : State) (o : Addr) (x : Int32) (h0 : Heap) (n0 : Nat) (xv : Option Value) (xh : Heap) (xL : List Loc) : Prop := xv = some (.int x) ∧ Fr n0 xL ∧ xh = h0
theorem ef_asb_length (mM : MethodId) (o : Addr) (x : Int32) : entryFrame mM #[(.ref o)] 1 = mkF mM 0 #[.val (.ref o)] [] := by
  first | (simp [entryFrame, mkF, argsToLocals, Value.category]; done) | rfl
theorem rm_asb_length (hw : HW a0 Z) (ws : List Jvm.Cond) (o : Addr) (x : Int32) (h0 : Heap) (n0 : Nat) (Z0 : n0 ≤ h0.size) (F_count_o : Fld Z h0 o "java/lang/AbstractStringBuilder" "count" "I" (.int x)) :
    MF l y17_ jdk_68_method_6_code 1 (some .int) ws r0_0_0_0 #[(.ref o)] Z h0 (Q_asb_length Z o x h0 n0) := by
  refine MetFree.of_bodySF (plainFor_of_name pn_java_lang_AbstractStringBuilder) hisR ?_
  intro pP eE sS mM aS bS mS cC s₁ Bd hml0 hP hK
  obtain ⟨rfl, hZ, hh⟩ := hP
  have hx := Bd.exec
  have hj := Bd.bytes
  have hml : cC.maxLocals = 1 := hml0
  have hown : sS.vm.findClass "java/lang/AbstractStringBuilder" = some mM.cls := findClass_of_methodNamed Bd.named
  have X0 : Stand pP l eE r0_0_0_0 sS mM _ bS mS cC s₁ [] 0 0 := Stand.of_body Bd
  have e0 : s₁.heap = h0 := by rw [← hh, Bd.state]; rfl
  have N0 := Fr.nil n0
  obtain ⟨T101, X101, e101, st101⟩ := getF X0 hx hZ hown (host := "") (Or.inl (wi hw 74 rfl)) Via.refl e0 F_count_o (g := (mkF mM 1 #[.val (.ref o)] [(.ref o)])) rfl rfl (hb hj g68_6_0.2.1)
  obtain ⟨fs, hr, hrun, hended, hW, hsame⟩ := X101.leave (v := some (.int x)) (fun h => by rw [Bd.returns] at h; cases h)
  refine ⟨_, _, castTop (ef_asb_length mM o x) ?_, hrun, hended, _, _, rfl, ?_, ⟨_, rfl⟩, hW, hsame.mono (by decide) (by decide)⟩
  · show SS pP eE bS s₁ (mkF mM 0 #[.val (.ref o)] []) _
    refine XS.aloadN X0.here hx rfl (hb hj g68_6_0.1) rfl rfl ?_
    refine st101 _ ?_
    exact retI X101 hx Bd.returns (hb hj g68_6_0.2.2) hr
  · show Q_asb_length Z o x h0 n0 _ T101.heap _
    rw [e101]
    exact ⟨rfl, N0, rfl⟩
abbrev c67_93 := jdk_67_method_93_code
theorem g67_93_0 : decode c67_93 0 = .ok (.aload_n 0, 1) ∧ decode c67_93 1 = .ok (.invokespecial 343, 3) ∧ decode c67_93 4 = .ok (.ireturn, 1) := by decide +kernel
abbrev r1_0_0_12 : Room := { frames := 1, cells := 0, slots := 0, locals := 12 }
abbrev y18_ : MethodName := ⟨"java/lang/StringBuilder", "length", "()I"⟩
def Q_sb_length (Z : State) (o : Addr) (x : Int32) (h0 : Heap) (n0 : Nat) (xv : Option Value) (xh : Heap) (xL : List Loc) : Prop := xv = some (.int x) ∧ Fr n0 xL ∧ xh = h0
theorem ef_sb_length (mM : MethodId) (o : Addr) (x : Int32) : entryFrame mM #[(.ref o)] 1 = mkF mM 0 #[.val (.ref o)] [] := by
  first | (simp [entryFrame, mkF, argsToLocals, Value.category]; done) | rfl
theorem rm_sb_length (hw : HW a0 Z) (ws : List Jvm.Cond) (o : Addr) (x : Int32) (h0 : Heap) (n0 : Nat) (Z0 : n0 ≤ h0.size) (E_o : Exa Z h0 o "java/lang/StringBuilder") (F_count_o : Fld Z h0 o "java/lang/AbstractStringBuilder" "count" "I" (.int x)) :
    MF l y18_ jdk_67_method_93_code 1 (some .int) ws r1_0_0_12 #[(.ref o)] Z h0 (Q_sb_length Z o x h0 n0) := by
  refine MetFree.of_bodySF (plainFor_of_name pn_java_lang_StringBuilder) hisR ?_
  intro pP eE sS mM aS bS mS cC s₁ Bd hml0 hP hK
  obtain ⟨rfl, hZ, hh⟩ := hP
  have hx := Bd.exec
  have hj := Bd.bytes
  have hml : cC.maxLocals = 1 := hml0
  have hown : sS.vm.findClass "java/lang/StringBuilder" = some mM.cls := findClass_of_methodNamed Bd.named
  have X0 : Stand pP l eE r1_0_0_12 sS mM _ bS mS cC s₁ [] 0 0 := Stand.of_body Bd
  have e0 : s₁.heap = h0 := by rw [← hh, Bd.state]; rfl
  have N0 := Fr.nil n0
  obtain ⟨_, _, ⟨T101, L101, k101, n101⟩, -, X101, ⟨Lc101, hQ101, l101, y101, z101⟩, st101⟩ := superBack X0 hx hZ (y := y17_) hown (wi hw 171 rfl) (own_same (y := y17_) (by decide) (wi hw 167 rfl) (own_nf (y := (⟨"java/lang/AbstractStringBuilder", "ensureCapacityInternal", "(I)V"⟩ : MethodName)) (z := (⟨"java/lang/AbstractStringBuilder", "length", "()I"⟩ : MethodName)) (notFace_of_selects (wi hw 79 rfl)) (Cond.code_named (wi hw 80 rfl)) rfl)) (wi hw 167 rfl) (wi hw 61 rfl) (by decide) (backOf (W := 0) (rm_asb_length l Z a0 hw [] o x h0 n0 (by omega) F_count_o) hZ (wi hw 172 rfl) (wi hw 45 rfl) (by decide) (by decide)) e0 (Ins.self E_o) (g := (mkF mM 1 #[.val (.ref o)] [(.ref o)])) rfl hml.symm (wi hw 172 rfl) (argsL := []) (rest := []) (lenOf pd_9 rfl) rfl (W0 rfl) (hb hj g67_93_0.2.1) (fun _ _ => ⟨rfl, e0, ble rfl, ble rfl⟩)
  dsimp only [Pt.U, Pt.locs, Pt.cells, Pt.slots] at X101 l101 y101 z101 st101 hQ101
  subst y101 z101
  obtain ⟨h101, e101⟩ : ∃ z, T101.heap = z := ⟨_, rfl⟩
  rw [e101] at hQ101
  obtain ⟨rfl, N101q, eq101⟩ := hQ101
  rw [eq101] at e101
  have N101 : Fr n0 L101 := by rw [l101]; exact Fr.app N0 N101q
  obtain ⟨fs, hr, hrun, hended, hW, hsame⟩ := X101.leave (v := some (.int x)) (fun h => by rw [Bd.returns] at h; cases h)
  refine ⟨_, _, castTop (ef_sb_length mM o x) ?_, hrun, hended, _, _, rfl, ?_, ⟨_, rfl⟩, hW, hsame.mono (by decide) (by decide)⟩
  · show SS pP eE bS s₁ (mkF mM 0 #[.val (.ref o)] []) _
    refine XS.aloadN X0.here hx rfl (hb hj g67_93_0.1) rfl rfl ?_
    refine st101.trans ?_
    exact retI X101 hx Bd.returns (hb hj g67_93_0.2.2) hr
  · show Q_sb_length Z o x h0 n0 _ T101.heap _
    rw [e101]
    exact ⟨rfl, N101, rfl⟩
def Q_min_r (Z : State) (x : Nat) (y : Nat) (h0 : Heap) (n0 : Nat) (xv : Option Value) (xh : Heap) (xL : List Loc) : Prop := xv = some (.int (iN y)) ∧ Fr n0 xL ∧ xh = h0
theorem ef_min_r (mM : MethodId) (x : Nat) (y : Nat) : entryFrame mM #[(.int (iN x)), (.int (iN y))] 2 = mkF mM 0 #[.val (.int (iN x)), .val (.int (iN y))] [] := by
  first | (simp [entryFrame, mkF, argsToLocals, Value.category]; done) | rfl
theorem rm_min_r (hw : HW a0 Z) (ws : List Jvm.Cond) (x : Nat) (y : Nat) (h0 : Heap) (n0 : Nat) (Z0 : n0 ≤ h0.size) (hxy : y < x) (hy : x < 1000000) :
    MF l y10_ jdk_29_method_69_code 2 (some .int) ws r0_0_0_0 #[(.int (iN x)), (.int (iN y))] Z h0 (Q_min_r Z x y h0 n0) := by
  refine MetFree.of_bodySF (Jvm.Free.JP.mathPlain rfl (by decide +kernel)) hisR ?_
  intro pP eE sS mM aS bS mS cC s₁ Bd hml0 hP hK
  obtain ⟨rfl, hZ, hh⟩ := hP
  have hx := Bd.exec
  have hj := Bd.bytes
  have hml : cC.maxLocals = 2 := hml0
  have hown : sS.vm.findClass "java/lang/Math" = some mM.cls := findClass_of_methodNamed Bd.named
  have X0 : Stand pP l eE r0_0_0_0 sS mM _ bS mS cC s₁ [] 0 0 := Stand.of_body Bd
  have e0 : s₁.heap = h0 := by rw [← hh, Bd.state]; rfl
  have N0 := Fr.nil n0
  obtain ⟨fs, hr, hrun, hended, hW, hsame⟩ := X0.leave (v := some (.int (iN y))) (fun h => by rw [Bd.returns] at h; cases h)
  refine ⟨_, _, castTop (ef_min_r mM x y) ?_, hrun, hended, _, _, rfl, ?_, ⟨_, rfl⟩, hW, hsame.mono (by decide) (by decide)⟩
  · show SS pP eE bS s₁ (mkF mM 0 #[.val (.int (iN x)), .val (.int (iN y))] []) _
    refine XS.iloadN X0.here hx rfl (hb hj g29_69_0.1) rfl ?_
    refine XS.iloadN X0.here hx rfl (hb hj g29_69_0.2.1) rfl ?_
    refine XS.icmpYes X0.here hx rfl (pc0 := 2) (pc' := 9) rfl (hb hj g29_69_0.2.2.1) rfl (tlt ((iN_lt (by omega) (by omega)).mpr hxy : (iN y) < (iN x))).2.2.1 (by decide) (by decide) ?_
    refine XS.iloadN X0.here hx rfl (hb hj g29_69_1.2.1) rfl ?_
    exact retI X0 hx Bd.returns (hb hj g29_69_1.2.2) hr
  · show Q_min_r Z x y h0 n0 _ s₁.heap _
    rw [e0]
    exact ⟨rfl, N0, rfl⟩
abbrev c65_131 := jdk_65_method_131_code
theorem g65_131_0 : decode c65_131 0 = .ok (.iload_n 1, 1) ∧ decode c65_131 1 = .ok (.iload_n 0, 1) ∧ decode c65_131 2 = .ok (.if_icmp .ge 35, 3) ∧ decode c65_131 37 = .ok (.return_, 1) := by decide +kernel
abbrev y19_ : MethodName := ⟨"java/util/Arrays", "checkLength", "(II)V"⟩
def Q_chkLen (Z : State) (n : Nat) (h0 : Heap) (n0 : Nat) (xv : Option Value) (xh : Heap) (xL : List Loc) : Prop := xv = none ∧ Fr n0 xL ∧ xh = h0
theorem ef_chkLen (mM : MethodId) (n : Nat) : entryFrame mM #[(.int (0 : Int32)), (.int (iN n))] 2 = mkF mM 0 #[.val (.int (0 : Int32)), .val (.int (iN n))] [] := by
  first | (simp [entryFrame, mkF, argsToLocals, Value.category]; done) | rfl
theorem rm_chkLen (hw : HW a0 Z) (ws : List Jvm.Cond) (n : Nat) (h0 : Heap) (n0 : Nat) (Z0 : n0 ≤ h0.size) (hC : n ≤ 128) :
    MF l y19_ jdk_65_method_131_code 2 none ws r0_0_0_0 #[(.int (0 : Int32)), (.int (iN n))] Z h0 (Q_chkLen Z n h0 n0) := by
  refine MetFree.of_bodySF (plainFor_of_name pn_java_util_Arrays) hisR ?_
  intro pP eE sS mM aS bS mS cC s₁ Bd hml0 hP hK
  obtain ⟨rfl, hZ, hh⟩ := hP
  have hx := Bd.exec
  have hj := Bd.bytes
  have hml : cC.maxLocals = 2 := hml0
  have hown : sS.vm.findClass "java/util/Arrays" = some mM.cls := findClass_of_methodNamed Bd.named
  have X0 : Stand pP l eE r0_0_0_0 sS mM _ bS mS cC s₁ [] 0 0 := Stand.of_body Bd
  have e0 : s₁.heap = h0 := by rw [← hh, Bd.state]; rfl
  have N0 := Fr.nil n0
  obtain ⟨fs, hr, hrun, hended, hW, hsame⟩ := X0.leave (v := none) (fun _ => rfl)
  refine ⟨_, _, castTop (ef_chkLen mM n) ?_, hrun, hended, _, _, rfl, ?_, ⟨_, rfl⟩, hW, hsame.mono (by decide) (by decide)⟩
  · show SS pP eE bS s₁ (mkF mM 0 #[.val (.int (0 : Int32)), .val (.int (iN n))] []) _
    refine XS.iloadN X0.here hx rfl (hb hj g65_131_0.1) rfl ?_
    refine XS.iloadN X0.here hx rfl (hb hj g65_131_0.2.1) rfl ?_
    refine XS.icmpYes X0.here hx rfl (pc0 := 2) (pc' := 37) rfl (hb hj g65_131_0.2.2.1) rfl (flt (iN_nn (by omega) : ¬ ((iN n) < (0 : Int32)))).2.1 (by decide) (by decide) ?_
    exact X0.returnOut hx Bd.returns (hb hj g65_131_0.2.2.2) hr
  · show Q_chkLen Z n h0 n0 _ s₁.heap _
    rw [e0]
    exact ⟨rfl, N0, rfl⟩
abbrev c65_133 := jdk_65_method_133_code
theorem g65_133_0 : decode c65_133 0 = .ok (.iload_n 1, 1) ∧ decode c65_133 1 = .ok (.iload_n 2, 1) ∧ decode c65_133 2 = .ok (.invokestatic 343, 3) ∧ decode c65_133 5 = .ok (.iload_n 2, 1) := by decide +kernel
theorem pd_28 : parseMethodDescriptor "(II)V" = some ⟨[.int, .int], none⟩ := by decide +kernel
theorem g65_133_1 : decode c65_133 6 = .ok (.iload_n 1, 1) ∧ decode c65_133 7 = .ok (.isub, 1) ∧ decode c65_133 8 = .ok (.istore_n 3, 1) ∧ decode c65_133 9 = .ok (.iload_n 3, 1) := by decide +kernel
theorem g65_133_2 : decode c65_133 10 = .ok (.newarray .byte, 2) ∧ decode c65_133 12 = .ok (.astore 4, 2) ∧ decode c65_133 14 = .ok (.aload_n 0, 1) ∧ decode c65_133 15 = .ok (.iload_n 1, 1) := by decide +kernel
theorem g65_133_3 : decode c65_133 16 = .ok (.aload 4, 2) ∧ decode c65_133 18 = .ok (.iconst 0, 1) ∧ decode c65_133 19 = .ok (.aload_n 0, 1) ∧ decode c65_133 20 = .ok (.arraylength, 1) := by decide +kernel
theorem g65_133_4 : decode c65_133 21 = .ok (.iload_n 1, 1) ∧ decode c65_133 22 = .ok (.isub, 1) ∧ decode c65_133 23 = .ok (.iload_n 3, 1) ∧ decode c65_133 24 = .ok (.invokestatic 304, 3) := by decide +kernel
theorem g65_133_5 : decode c65_133 27 = .ok (.invokestatic 150, 3) ∧ decode c65_133 30 = .ok (.aload 4, 2) ∧ decode c65_133 32 = .ok (.areturn, 1) := by decide +kernel
abbrev y20_ : MethodName := ⟨"java/util/Arrays", "copyOfRangeByte", "([BII)[B"⟩
def Q_corb (Z : State) (b : Addr) (k : ClassId) (cap : Nat) (n : Nat) (xs : List Value) (h0 : Heap) (n0 : Nat) (xv : Option Value) (xh : Heap) (xL : List Loc) : Prop := ∃ b2 : Addr, ∃ k2 : ClassId, xv = some (.ref b2) ∧ Fr n0 xL ∧ Keep h0 xh [] ∧ Arv Z xh b2 k2 .byte (iN n) xs (.int (0 : Int32)) ∧ @LE.le Nat _ h0.size b2
abbrev Lc_corb_0 (b : Addr) (n : Nat) : Array Slot := #[.val (.ref b), .val (.int (0 : Int32)), .val (.int (iN n)), .unset, .unset]
abbrev Lc_corb_1 (b : Addr) (n : Nat) : Array Slot := #[.val (.ref b), .val (.int (0 : Int32)), .val (.int (iN n)), .val (.int (iN n)), .unset]
abbrev Lc_corb_2 (b : Addr) (n : Nat) (b102 : Addr) : Array Slot := #[.val (.ref b), .val (.int (0 : Int32)), .val (.int (iN n)), .val (.int (iN n)), .val (.ref b102)]
theorem ef_corb (mM : MethodId) (b : Addr) (k : ClassId) (cap : Nat) (n : Nat) (xs : List Value) : entryFrame mM #[(.ref b), (.int (0 : Int32)), (.int (iN n))] 5 = mkF mM 0 #[.val (.ref b), .val (.int (0 : Int32)), .val (.int (iN n)), .unset, .unset] [] := by
  first | (simp [entryFrame, mkF, argsToLocals, Value.category]; done) | rfl
theorem rm_corb (hw : HW a0 Z) (ws : List Jvm.Cond) (b : Addr) (k : ClassId) (cap : Nat) (n : Nat) (xs : List Value) (h0 : Heap) (n0 : Nat) (Z0 : n0 ≤ h0.size) (V_b : Arv Z h0 b k .byte (iN cap) xs (.int (0 : Int32))) (hn : xs.length = n) (hB : n < cap ∧ cap ≤ 128) (E_b : Exa Z h0 b "[B") :
    MF l y20_ jdk_65_method_133_code 5 (some (.array .byte)) ws r1_1_128_18 #[(.ref b), (.int (0 : Int32)), (.int (iN n))] Z h0 (Q_corb Z b k cap n xs h0 n0) := by
  refine MetFree.of_bodySF (plainFor_of_name pn_java_util_Arrays) hisR ?_
  intro pP eE sS mM aS bS mS cC s₁ Bd hml0 hP hK
  obtain ⟨rfl, hZ, hh⟩ := hP
  have hx := Bd.exec
  have hj := Bd.bytes
  have hml : cC.maxLocals = 5 := hml0
  have hown : sS.vm.findClass "java/util/Arrays" = some mM.cls := findClass_of_methodNamed Bd.named
  have X0 : Stand pP l eE r1_1_128_18 sS mM _ bS mS cC s₁ [] 0 0 := Stand.of_body Bd
  have e0 : s₁.heap = h0 := by rw [← hh, Bd.state]; rfl
  have N0 := Fr.nil n0
  obtain ⟨_, _, ⟨T101, L101, k101, n101⟩, -, X101, ⟨Lc101, hQ101, l101, y101, z101⟩, st101⟩ := Jvm.LawKit.callS X0 hx (y := y19_) hown (mvT hZ (wi hw 180 rfl)) (mvT hZ (wi hw 181 rfl)) (mvT hZ (wi hw 131 rfl)) (mvT hZ (wi hw 182 rfl)) (by decide) (backOf (W := 0) (rm_chkLen l Z a0 hw [] n h0 n0 (by omega) (by omega)) hZ (wi hw 182 rfl) (wi hw 131 rfl) (by decide) (by decide)) (g := (mkF mM 2 (Lc_corb_0 b n) [(.int (iN n)), (.int (0 : Int32))])) rfl hml.symm (argsL := [(.int (0 : Int32)), (.int (iN n))]) (rest := []) (lenOf pd_28 rfl) rfl (W0 rfl) (hb hj g65_133_0.2.2.1) (fun _ _ => ⟨rfl, e0, ble rfl, ble rfl⟩)
  dsimp only [Pt.U, Pt.locs, Pt.cells, Pt.slots] at X101 l101 y101 z101 st101 hQ101
  subst y101 z101
  obtain ⟨h101, e101⟩ : ∃ z, T101.heap = z := ⟨_, rfl⟩
  rw [e101] at hQ101
  obtain ⟨rfl, N101q, eq101⟩ := hQ101
  rw [eq101] at e101
  have N101 : Fr n0 L101 := by rw [l101]; exact Fr.app N0 N101q
  obtain ⟨T102, h102, k102, X102, e102, E102, A102, B102, st102⟩ := newPE X101 hx hZ (wi hw 3 rfl) e101 (g := (mkF mM 10 (Lc_corb_1 b n) [(.int (iN n))])) rfl (hb hj g65_133_2.1) rfl (iN_nn (by omega)) (cap := 128) (by rw [iN_nat (by omega)]; omega) (by decide) (by decide) (by decide) (ad := "[B") (by decide)
  obtain ⟨b102, g102⟩ : ∃ z : Nat, z = h0.size := ⟨_, rfl⟩
  rw [← g102] at A102 B102 st102
  have Sz1 : h0.size ≤ h102.size := E102.1
  have V_b102 : Arv Z h102 b102 k102 .byte (iN n) [] (.int (0 : Int32)) := Arv.new A102 (iN_nn (by omega))
  have c103_V_b : Arv Z h102 b k .byte (iN cap) xs (.int (0 : Int32)) := V_b.ext E102
  obtain ⟨cl104, Ar104, q104, S104, Ng104, Ha104, Ga104⟩ := id c103_V_b
  obtain ⟨_, _, ⟨T105, L105, k105, n105⟩, -, X105, ⟨Lc105, hQ105, l105, y105, z105⟩, st105⟩ := Jvm.LawKit.callS X102 hx (y := y10_) hown (mvT hZ (wi hw 133 rfl)) (mvT hZ (wi hw 134 rfl)) (mvT hZ (wi hw 125 rfl)) (mvT hZ (wi hw 135 rfl)) (by decide) (backOf (W := 4) (rm_min_r l Z a0 hw [] cap n h102 n0 (by omega) (hB.1) (by omega)) hZ (wi hw 135 rfl) (wi hw 125 rfl) (by decide) (by decide)) (g := (mkF mM 24 (Lc_corb_2 b n b102) [(.int (iN n)), (.int (iN cap)), (.int (0 : Int32)), (.ref b102), (.int (0 : Int32)), (.ref b)])) rfl hml.symm (argsL := [(.int (iN cap)), (.int (iN n))]) (rest := [(.int (0 : Int32)), (.ref b102), (.int (0 : Int32)), (.ref b)]) (lenOf pd_19 rfl) rfl (W0 rfl) (hb hj g65_133_4.2.2.2) (fun _ _ => ⟨rfl, e102, ble rfl, ble rfl⟩)
  dsimp only [Pt.U, Pt.locs, Pt.cells, Pt.slots] at X105 l105 y105 z105 st105 hQ105
  subst y105 z105
  obtain ⟨h105, e105⟩ : ∃ z, T105.heap = z := ⟨_, rfl⟩
  rw [e105] at hQ105
  obtain ⟨rfl, N105q, eq105⟩ := hQ105
  rw [eq105] at e105
  have N105 : Fr n0 L105 := by rw [l105]; exact Fr.app N101 N105q
  have ge106_b102 : @LE.le Nat _ n0 b102 := by omega
  obtain ⟨T107, h107, L107, X107, e107, N107, Kc107, Vc107, st107⟩ := cpAll X105 hx hZ hown (wi hw 136 rfl) (wi hw 100 rfl) (wi hw 98 rfl) (wi hw 99 rfl) e105 c103_V_b V_b102 rfl (by omega) (by rw [iN_nat (by omega)]; omega) (by rw [iN_nat (by omega)]; omega) (by omega) N105 ge106_b102 (g := (mkF mM 27 (Lc_corb_2 b n b102) [(.int (iN n)), (.int (0 : Int32)), (.ref b102), (.int (0 : Int32)), (.ref b)])) rfl hml.symm rfl (hb hj g65_133_5.1) (by decide) (W := 0) (W0 rfl) (by decide)
  have Sz2 : h102.size ≤ h107.size := Kc107.1
  have K108 : Keep h0 h102 [] := (Keep.refl h0 []).ext E102
  have K109 : Keep h0 h107 [] := K108.trans Kc107 (allS (Or.inr (by omega : @LE.le Nat _ h0.size b102)) all0)
  obtain ⟨fs, hr, hrun, hended, hW, hsame⟩ := X107.leave (v := some (.ref b102)) (fun h => by rw [Bd.returns] at h; cases h)
  refine ⟨_, _, castTop (ef_corb mM b k cap n xs) ?_, hrun, hended, _, _, rfl, ?_, ⟨_, rfl⟩, hW, hsame.mono (by decide) (by decide)⟩
  · show SS pP eE bS s₁ (mkF mM 0 (Lc_corb_0 b n) []) _
    refine XS.iloadN X0.here hx rfl (hb hj g65_133_0.1) rfl ?_
    refine XS.iloadN X0.here hx rfl (hb hj g65_133_0.2.1) rfl ?_
    refine st101 _ ?_
    refine XS.iloadN X101.here hx rfl (hb hj g65_133_0.2.2.2) rfl ?_
    refine XS.iloadN X101.here hx rfl (hb hj g65_133_1.1) rfl ?_
    refine XS.isub X101.here hx rfl (hb hj g65_133_1.2.1) rfl ?_
    show SS pP eE bS T101 (mkF mM 8 (Lc_corb_0 b n) [(.int ((iN n) - (0 : Int32)))]) _
    rw [show ((iN n) - (0 : Int32)) = (iN n) from Int32.sub_zero _]
    refine XS.istoreN X101.here hx rfl (hb hj g65_133_1.2.2.1) rfl (l' := (Lc_corb_1 b n)) rfl ?_
    refine XS.iloadN X101.here hx rfl (hb hj g65_133_1.2.2.2) rfl ?_
    refine st102 _ ?_
    refine XS.astore X102.here hx rfl (hb hj g65_133_2.2.1) rfl rfl (l' := (Lc_corb_2 b n b102)) rfl ?_
    refine XS.aloadN X102.here hx rfl (hb hj g65_133_2.2.2.1) rfl rfl ?_
    refine XS.iloadN X102.here hx rfl (hb hj g65_133_2.2.2.2) rfl ?_
    refine XS.aload X102.here hx rfl (hb hj g65_133_3.1) rfl rfl ?_
    refine XS.iconst X102.here hx rfl (hb hj g65_133_3.2.1) ?_
    refine XS.aloadN X102.here hx rfl (hb hj g65_133_3.2.2.1) rfl rfl ?_
    refine X102.arraylength hx (by rw [e102]; exact Ar104.1) (State.isArrayOf_alike hZ.alike Ar104.2.1) (g := (mkF mM 20 (Lc_corb_2 b n b102) [(.ref b), (.int (0 : Int32)), (.ref b102), (.int (0 : Int32)), (.ref b)])) rfl rfl (hb hj g65_133_3.2.2.2) _ ?_
    rw [len_of S104 Ng104]
    refine XS.iloadN X102.here hx rfl (hb hj g65_133_4.1) rfl ?_
    refine XS.isub X102.here hx rfl (hb hj g65_133_4.2.1) rfl ?_
    show SS pP eE bS T102 (mkF mM 23 (Lc_corb_2 b n b102) [(.int ((iN cap) - (0 : Int32))), (.int (0 : Int32)), (.ref b102), (.int (0 : Int32)), (.ref b)]) _
    rw [show ((iN cap) - (0 : Int32)) = (iN cap) from Int32.sub_zero _]
    refine XS.iloadN X102.here hx rfl (hb hj g65_133_4.2.2.1) rfl ?_
    refine st105 _ ?_
    refine st107 _ ?_
    refine XS.aload X107.here hx rfl (hb hj g65_133_5.2.1) rfl rfl ?_
    jvm_step X107.here [X107.here.top, hx, (hb hj g65_133_5.2.2), X107.method', Bd.returns, Value.isRef, FieldType.isReference]
    first | (intro acts; rw [hr _ acts rfl rfl rfl]) | rw [hr _ _ rfl rfl rfl]
    exact Steps.refl _
  · show Q_corb Z b k cap n xs h0 n0 _ T107.heap _
    rw [e107]
    exact ⟨b102, k102, rfl, N107, K109, Vc107, (by omega)⟩
abbrev c65_132 := jdk_65_method_132_code
theorem g65_132_0 : decode c65_132 0 = .ok (.iload_n 1, 1) ∧ decode c65_132 1 = .ok (.ifCond .ne 9, 3) ∧ decode c65_132 4 = .ok (.iload_n 2, 1) ∧ decode c65_132 5 = .ok (.aload_n 0, 1) := by decide +kernel
theorem g65_132_1 : decode c65_132 6 = .ok (.arraylength, 1) ∧ decode c65_132 7 = .ok (.if_icmp .eq 10, 3) ∧ decode c65_132 10 = .ok (.aload_n 0, 1) ∧ decode c65_132 11 = .ok (.iload_n 1, 1) := by decide +kernel
theorem g65_132_2 : decode c65_132 12 = .ok (.iload_n 2, 1) ∧ decode c65_132 13 = .ok (.invokestatic 339, 3) ∧ decode c65_132 16 = .ok (.areturn, 1) ∧ decode c65_132 17 = .ok (.aload_n 0, 1) := by decide +kernel
theorem g65_132_3 : decode c65_132 18 = .ok (.invokevirtual 310, 3) ∧ decode c65_132 21 = .ok (.checkcast 311, 3) ∧ decode c65_132 24 = .ok (.areturn, 1) := by decide +kernel
def Q_corN (Z : State) (n : Nat) (xs : List Value) (h0 : Heap) (n0 : Nat) (xv : Option Value) (xh : Heap) (xL : List Loc) : Prop := ∃ b2 : Addr, ∃ k2 : ClassId, xv = some (.ref b2) ∧ Fr n0 xL ∧ Keep h0 xh [] ∧ Arv Z xh b2 k2 .byte (iN n) xs (.int (0 : Int32)) ∧ @LE.le Nat _ h0.size b2
theorem pd_27 : parseMethodDescriptor "([BII)[B" = some ⟨[(.array .byte), .int, .int], some (.array .byte)⟩ := by decide +kernel
abbrev r2_1_128_34 : Room := { frames := 2, cells := 1, slots := 128, locals := 34 }
abbrev y21_ : MethodName := ⟨"java/util/Arrays", "copyOfRange", "([BII)[B"⟩
theorem ef_cor_fit (mM : MethodId) (b : Addr) (k : ClassId) (cap : Nat) (n : Nat) (xs : List Value) : entryFrame mM #[(.ref b), (.int (0 : Int32)), (.int (iN n))] 3 = mkF mM 0 #[.val (.ref b), .val (.int (0 : Int32)), .val (.int (iN n))] [] := by
  first | (simp [entryFrame, mkF, argsToLocals, Value.category]; done) | rfl
theorem rm_cor_fit (hw : HW a0 Z) (ws : List Jvm.Cond) (b : Addr) (k : ClassId) (cap : Nat) (n : Nat) (xs : List Value) (h0 : Heap) (n0 : Nat) (Z0 : n0 ≤ h0.size) (V_b : Arv Z h0 b k .byte (iN cap) xs (.int (0 : Int32))) (hn : xs.length = n) (hB : n < cap ∧ cap ≤ 128) (E_b : Exa Z h0 b "[B") :
    MF l y21_ jdk_65_method_132_code 3 (some (.array .byte)) ws r2_1_128_34 #[(.ref b), (.int (0 : Int32)), (.int (iN n))] Z h0 (Q_corN Z n xs h0 n0) := by
  refine MetFree.of_bodySF (plainFor_of_name pn_java_util_Arrays) hisR ?_
  intro pP eE sS mM aS bS mS cC s₁ Bd hml0 hP hK
  obtain ⟨rfl, hZ, hh⟩ := hP
  have hx := Bd.exec
  have hj := Bd.bytes
  have hml : cC.maxLocals = 3 := hml0
  have hown : sS.vm.findClass "java/util/Arrays" = some mM.cls := findClass_of_methodNamed Bd.named
  have X0 : Stand pP l eE r2_1_128_34 sS mM _ bS mS cC s₁ [] 0 0 := Stand.of_body Bd
  have e0 : s₁.heap = h0 := by rw [← hh, Bd.state]; rfl
  have N0 := Fr.nil n0
  obtain ⟨cl101, Ar101, q101, S101, Ng101, Ha101, Ga101⟩ := id V_b
  obtain ⟨_, _, ⟨T102, L102, k102, n102⟩, -, X102, ⟨Lc102, hQ102, l102, y102, z102⟩, st102⟩ := Jvm.LawKit.callS X0 hx (y := y20_) hown (mvT hZ (wi hw 177 rfl)) (mvT hZ (wi hw 178 rfl)) (mvT hZ (wi hw 131 rfl)) (mvT hZ (wi hw 179 rfl)) (by decide) (backOf (W := 0) (rm_corb l Z a0 hw [] b k cap n xs h0 n0 (by omega) V_b hn hB E_b) hZ (wi hw 179 rfl) (wi hw 131 rfl) (by decide) (by decide)) (g := (mkF mM 13 #[.val (.ref b), .val (.int (0 : Int32)), .val (.int (iN n))] [(.int (iN n)), (.int (0 : Int32)), (.ref b)])) rfl hml.symm (argsL := [(.ref b), (.int (0 : Int32)), (.int (iN n))]) (rest := []) (lenOf pd_27 rfl) rfl (W0 rfl) (hb hj g65_132_2.2.1) (fun _ _ => ⟨rfl, e0, ble rfl, ble rfl⟩)
  dsimp only [Pt.U, Pt.locs, Pt.cells, Pt.slots] at X102 l102 y102 z102 st102 hQ102
  subst y102 z102
  obtain ⟨h102, e102⟩ : ∃ z, T102.heap = z := ⟨_, rfl⟩
  rw [e102] at hQ102
  obtain ⟨b2_102, k2_102, rfl, N102q, Kp102, p102_V_b2, p102_gh_b2⟩ := hQ102
  have Sz1 : h0.size ≤ h102.size := Kp102.1
  have N102 : Fr n0 L102 := by rw [l102]; exact Fr.app N0 N102q
  have K103 : Keep h0 h102 [] := (Keep.refl h0 []).trans Kp102 all0
  obtain ⟨fs, hr, hrun, hended, hW, hsame⟩ := X102.leave (v := some (.ref b2_102)) (fun h => by rw [Bd.returns] at h; cases h)
  refine ⟨_, _, castTop (ef_cor_fit mM b k cap n xs) ?_, hrun, hended, _, _, rfl, ?_, ⟨_, rfl⟩, hW, hsame.mono (by decide) (by decide)⟩
  · show SS pP eE bS s₁ (mkF mM 0 #[.val (.ref b), .val (.int (0 : Int32)), .val (.int (iN n))] []) _
    refine XS.iloadN X0.here hx rfl (hb hj g65_132_0.1) rfl ?_
    refine XS.ifNo X0.here hx rfl (hb hj g65_132_0.2.1) rfl ((if0 _ _).trans (teq (by decide : (0 : Int32) = (0 : Int32))).2) ?_
    refine XS.iloadN X0.here hx rfl (hb hj g65_132_0.2.2.1) rfl ?_
    refine XS.aloadN X0.here hx rfl (hb hj g65_132_0.2.2.2) rfl rfl ?_
    refine X0.arraylength hx (by rw [e0]; exact Ar101.1) (State.isArrayOf_alike hZ.alike Ar101.2.1) (g := (mkF mM 6 #[.val (.ref b), .val (.int (0 : Int32)), .val (.int (iN n))] [(.ref b), (.int (iN n))])) rfl rfl (hb hj g65_132_1.1) _ ?_
    rw [len_of S101 Ng101]
    refine XS.icmpNo X0.here hx rfl (hb hj g65_132_1.2.1) rfl (feq (fun q => absurd ((iN_eq (by omega) (by omega)).mp q) (by omega) : ¬ ((iN n) = (iN cap)))).1 ?_
    refine XS.aloadN X0.here hx rfl (hb hj g65_132_1.2.2.1) rfl rfl ?_
    refine XS.iloadN X0.here hx rfl (hb hj g65_132_1.2.2.2) rfl ?_
    refine XS.iloadN X0.here hx rfl (hb hj g65_132_2.1) rfl ?_
    refine st102 _ ?_
    jvm_step X102.here [X102.here.top, hx, (hb hj g65_132_2.2.2.1), X102.method', Bd.returns, Value.isRef, FieldType.isReference]
    first | (intro acts; rw [hr _ acts rfl rfl rfl]) | rw [hr _ _ rfl rfl rfl]
    exact Steps.refl _
  · show Q_corN Z n xs h0 n0 _ T102.heap _
    rw [e102]
    exact ⟨b2_102, k2_102, rfl, N102, K103, p102_V_b2, (by omega)⟩
theorem ef_cor_full (mM : MethodId) (b : Addr) (k : ClassId) (n : Nat) (xs : List Value) : entryFrame mM #[(.ref b), (.int (0 : Int32)), (.int (iN n))] 3 = mkF mM 0 #[.val (.ref b), .val (.int (0 : Int32)), .val (.int (iN n))] [] := by
  first | (simp [entryFrame, mkF, argsToLocals, Value.category]; done) | rfl
theorem rm_cor_full (hw : HW a0 Z) (ws : List Jvm.Cond) (b : Addr) (k : ClassId) (n : Nat) (xs : List Value) (h0 : Heap) (n0 : Nat) (Z0 : n0 ≤ h0.size) (V_b : Arv Z h0 b k .byte (iN n) xs (.int (0 : Int32))) (hB : n ≤ 128) (E_b : Exa Z h0 b "[B") :
    MF l y21_ jdk_65_method_132_code 3 (some (.array .byte)) ws r2_1_128_34 #[(.ref b), (.int (0 : Int32)), (.int (iN n))] Z h0 (Q_corN Z n xs h0 n0) := by
  refine MetFree.of_bodySF (plainFor_of_name pn_java_util_Arrays) hisR ?_
  intro pP eE sS mM aS bS mS cC s₁ Bd hml0 hP hK
  obtain ⟨rfl, hZ, hh⟩ := hP
  have hx := Bd.exec
  have hj := Bd.bytes
  have hml : cC.maxLocals = 3 := hml0
  have hown : sS.vm.findClass "java/util/Arrays" = some mM.cls := findClass_of_methodNamed Bd.named
  have X0 : Stand pP l eE r2_1_128_34 sS mM _ bS mS cC s₁ [] 0 0 := Stand.of_body Bd
  have e0 : s₁.heap = h0 := by rw [← hh, Bd.state]; rfl
  have N0 := Fr.nil n0
  obtain ⟨cl101, Ar101, q101, S101, Ng101, Ha101, Ga101⟩ := id V_b
  obtain ⟨T102, h102, X102, e102, E102, A102, B102, st102⟩ := cloneH X0 hx hZ hown (wi hw 238 rfl) (wi hw 239 rfl) (wi hw 243 rfl) (wi hw 241 rfl) (wi hw 242 rfl) (wi hw 244 rfl) e0 (hs := []) V_b E_b (g := (mkF mM 18 #[.val (.ref b), .val (.int (0 : Int32)), .val (.int (iN n))] [(.ref b)])) rfl hml.symm rfl (hb hj g65_132_3.1) (by decide) (W := 0) (cap := 128) (W0 rfl) (by decide) (by rw [iN_nat (by omega)]; omega) (by decide) (by decide)
  obtain ⟨b102, g102⟩ : ∃ z : Nat, z = h0.size := ⟨_, rfl⟩
  rw [← g102] at A102 B102 st102
  have Sz1 : h0.size ≤ h102.size := E102.1
  have V_b102 : Arv Z h102 b102 k .byte (iN n) xs (.int (0 : Int32)) := A102
  obtain ⟨T103, X103, e103, st103⟩ := castY X102 hx hZ hown (wi hw 245 rfl) e102 (Ins.self B102) (g := (mkF mM 21 #[.val (.ref b), .val (.int (0 : Int32)), .val (.int (iN n))] [(.ref b102)])) rfl rfl (hb hj g65_132_3.2.1)
  have K104 : Keep h0 h102 [] := (Keep.refl h0 []).ext E102
  obtain ⟨fs, hr, hrun, hended, hW, hsame⟩ := X103.leave (v := some (.ref b102)) (fun h => by rw [Bd.returns] at h; cases h)
  refine ⟨_, _, castTop (ef_cor_full mM b k n xs) ?_, hrun, hended, _, _, rfl, ?_, ⟨_, rfl⟩, hW, hsame.mono (by decide) (by decide)⟩
  · show SS pP eE bS s₁ (mkF mM 0 #[.val (.ref b), .val (.int (0 : Int32)), .val (.int (iN n))] []) _
    refine XS.iloadN X0.here hx rfl (hb hj g65_132_0.1) rfl ?_
    refine XS.ifNo X0.here hx rfl (hb hj g65_132_0.2.1) rfl ((if0 _ _).trans (teq (by decide : (0 : Int32) = (0 : Int32))).2) ?_
    refine XS.iloadN X0.here hx rfl (hb hj g65_132_0.2.2.1) rfl ?_
    refine XS.aloadN X0.here hx rfl (hb hj g65_132_0.2.2.2) rfl rfl ?_
    refine X0.arraylength hx (by rw [e0]; exact Ar101.1) (State.isArrayOf_alike hZ.alike Ar101.2.1) (g := (mkF mM 6 #[.val (.ref b), .val (.int (0 : Int32)), .val (.int (iN n))] [(.ref b), (.int (iN n))])) rfl rfl (hb hj g65_132_1.1) _ ?_
    rw [len_of S101 Ng101]
    refine XS.icmpYes X0.here hx rfl (pc0 := 7) (pc' := 17) rfl (hb hj g65_132_1.2.1) rfl (teq (rfl : (iN n) = (iN n))).1 (by decide) (by decide) ?_
    refine XS.aloadN X0.here hx rfl (hb hj g65_132_2.2.2.2) rfl rfl ?_
    refine st102 _ ?_
    refine st103 _ ?_
    jvm_step X103.here [X103.here.top, hx, (hb hj g65_132_3.2.2), X103.method', Bd.returns, Value.isRef, FieldType.isReference]
    first | (intro acts; rw [hr _ acts rfl rfl rfl]) | rw [hr _ _ rfl rfl rfl]
    exact Steps.refl _
  · show Q_corN Z n xs h0 n0 _ T103.heap _
    rw [e103]
    exact ⟨b102, k, rfl, N0, K104, V_b102, (by omega)⟩
theorem rm_corJ (hw : HW a0 Z) (ws : List Jvm.Cond) (b : Addr) (k : ClassId) (cap : Nat) (n : Nat) (xs : List Value) (h0 : Heap) (n0 : Nat) (Z0 : n0 ≤ h0.size) (V_b : Arv Z h0 b k .byte (iN cap) xs (.int (0 : Int32))) (hn : xs.length = n) (hB : n ≤ cap ∧ cap ≤ 128) (E_b : Exa Z h0 b "[B") :
    MF l y21_ jdk_65_method_132_code 3 (some (.array .byte)) ws r2_1_128_34 #[(.ref b), (.int (0 : Int32)), (.int (iN n))] Z h0 (Q_corN Z n xs h0 n0) := by
  by_cases hf : n < cap
  · exact rm_cor_fit l Z a0 hw ws b k cap n xs h0 n0 Z0 V_b hn (⟨hf, hB.2⟩) E_b
  · obtain rfl : n = cap := by omega
    exact rm_cor_full l Z a0 hw ws b k n xs h0 n0 Z0 V_b (hB.2) E_b
abbrev c42_150 := jdk_42_method_150_code
theorem g42_150_0 : decode c42_150 0 = .ok (.aload_n 0, 1) ∧ decode c42_150 1 = .ok (.invokespecial 1, 3) ∧ decode c42_150 4 = .ok (.aload_n 1, 1) ∧ decode c42_150 5 = .ok (.invokevirtual 552, 3) := by decide +kernel
theorem pd_26 : parseMethodDescriptor "()[B" = some ⟨[], some (.array .byte)⟩ := by decide +kernel
theorem g42_150_1 : decode c42_150 8 = .ok (.astore_n 3, 1) ∧ decode c42_150 9 = .ok (.aload_n 1, 1) ∧ decode c42_150 10 = .ok (.invokevirtual 549, 3) ∧ decode c42_150 13 = .ok (.istore 4, 2) := by decide +kernel
theorem g42_150_2 : decode c42_150 15 = .ok (.aload_n 1, 1) ∧ decode c42_150 16 = .ok (.invokevirtual 1047, 3) ∧ decode c42_150 19 = .ok (.ifCond .eq 22, 3) ∧ decode c42_150 22 = .ok (.aload_n 0, 1) := by decide +kernel
theorem pd_21 : parseMethodDescriptor "()Z" = some ⟨[], some .boolean⟩ := by decide +kernel
theorem g42_150_3 : decode c42_150 23 = .ok (.iconst 0, 1) ∧ decode c42_150 24 = .ok (.putfield 15, 3) ∧ decode c42_150 27 = .ok (.aload_n 0, 1) ∧ decode c42_150 28 = .ok (.aload_n 3, 1) := by decide +kernel
theorem g42_150_4 : decode c42_150 29 = .ok (.iconst 0, 1) ∧ decode c42_150 30 = .ok (.iload 4, 2) ∧ decode c42_150 32 = .ok (.invokestatic 54, 3) ∧ decode c42_150 35 = .ok (.putfield 9, 3) := by decide +kernel
theorem g42_150_5 : decode c42_150 38 = .ok (.goto 59, 3) ∧ decode c42_150 97 = .ok (.return_, 1) := by decide +kernel
abbrev r3_1_128_49 : Room := { frames := 3, cells := 1, slots := 128, locals := 49 }
abbrev y22_ : MethodName := ⟨"java/lang/String", "<init>", "(Ljava/lang/AbstractStringBuilder;Ljava/lang/Void;)V"⟩
def Q_str_asb (Z : State) (t : Addr) (o : Addr) (b : Addr) (k : ClassId) (cap : Nat) (n : Nat) (xs : List Value) (w1 : Value) (w2 : Value) (cs : Int32) (fo : Value) (da : Addr) (ea : Addr) (h0 : Heap) (n0 : Nat) (xv : Option Value) (xh : Heap) (xL : List Loc) : Prop := ∃ b2 : Addr, ∃ k2 : ClassId, xv = none ∧ Fr n0 xL ∧ Keep h0 xh [t] ∧ Exa Z xh t "java/lang/String" ∧ Fld Z xh t "java/lang/String" "value" "[B" (.ref b2) ∧ Fld Z xh t "java/lang/String" "coder" "B" (.int (0 : Int32)) ∧ Arv Z xh b2 k2 .byte (iN n) xs (.int (0 : Int32)) ∧ @LE.le Nat _ h0.size b2
abbrev Lc_str_asb_0 (t : Addr) (o : Addr) (b : Addr) (n : Nat) : Array Slot := #[.val (.ref t), .val (.ref o), .val .null, .val (.ref b), .val (.int (iN n))]
theorem ef_str_asb (mM : MethodId) (t : Addr) (o : Addr) (b : Addr) (k : ClassId) (cap : Nat) (n : Nat) (xs : List Value) (w1 : Value) (w2 : Value) (cs : Int32) (fo : Value) (da : Addr) (ea : Addr) : entryFrame mM #[(.ref t), (.ref o), .null] 5 = mkF mM 0 #[.val (.ref t), .val (.ref o), .val .null, .unset, .unset] [] := by
  first | (simp [entryFrame, mkF, argsToLocals, Value.category]; done) | rfl
theorem rm_str_asb (hw : HW a0 Z) (ws : List Jvm.Cond) (t : Addr) (o : Addr) (b : Addr) (k : ClassId) (cap : Nat) (n : Nat) (xs : List Value) (w1 : Value) (w2 : Value) (cs : Int32) (fo : Value) (da : Addr) (ea : Addr) (h0 : Heap) (n0 : Nat) (Z0 : n0 ≤ h0.size) (E_t : Exa Z h0 t "java/lang/String") (F_value_t : Fld Z h0 t "java/lang/String" "value" "[B" w1) (F_coder_t : Fld Z h0 t "java/lang/String" "coder" "B" w2) (E_o : Exa Z h0 o "java/lang/StringBuilder") (F_value_o : Fld Z h0 o "java/lang/AbstractStringBuilder" "value" "[B" (.ref b)) (F_coder_o : Fld Z h0 o "java/lang/AbstractStringBuilder" "coder" "B" (.int (0 : Int32))) (F_count_o : Fld Z h0 o "java/lang/AbstractStringBuilder" "count" "I" (.int (iN n))) (V_b : Arv Z h0 b k .byte (iN cap) xs (.int (0 : Int32))) (hn : xs.length = n) (hB : n ≤ cap ∧ cap ≤ 128) (E_b : Exa Z h0 b "[B") (ne_t_o : @Ne Nat t o) (ne_t_b : @Ne Nat t b) (g_t : @LE.le Nat _ n0 t) (OL : Old Z n0 h0) (SX : Sts Z cs fo da ea) :
    MF l y22_ jdk_42_method_150_code 5 none ws r3_1_128_49 #[(.ref t), (.ref o), .null] Z h0 (Q_str_asb Z t o b k cap n xs w1 w2 cs fo da ea h0 n0) := by
  refine MetFree.of_bodySF (plainFor_of_name pn_java_lang_String) hisR ?_
  intro pP eE sS mM aS bS mS cC s₁ Bd hml0 hP hK
  obtain ⟨rfl, hZ, hh⟩ := hP
  have hx := Bd.exec
  have hj := Bd.bytes
  have hml : cC.maxLocals = 5 := hml0
  have hown : sS.vm.findClass "java/lang/String" = some mM.cls := findClass_of_methodNamed Bd.named
  have hnm := (name_of_methodNamed Bd.named Bd.method).1
  have X0 : Stand pP l eE r3_1_128_49 sS mM _ bS mS cC s₁ [] 0 0 := Stand.of_body Bd
  have e0 : s₁.heap = h0 := by rw [← hh, Bd.state]; rfl
  have N0 := Fr.nil n0
  obtain ⟨T101, X101, e101, st101⟩ := initO X0 hx hZ hown (wi hw 30 rfl) (wi hw 31 rfl) (wi hw 32 rfl) e0 (g := (mkF mM 1 #[.val (.ref t), .val (.ref o), .val .null, .unset, .unset] [(.ref t)])) rfl hml.symm rfl (hb hj g42_150_0.2.1) (by decide) (W := 0) (W0 rfl) (by decide)
  obtain ⟨cq102, kq102, q102a, q102b, q102c⟩ := isOf hZ e101 E_o
  obtain ⟨_, _, ⟨T102, L102, k102, n102⟩, -, X102, ⟨Lc102, hQ102, l102, y102, z102⟩, st102⟩ := X101.virtualBack hx (y := y16_) (z := y16_) hown (mvT hZ (wi hw 160 rfl)) (mvT hZ (wi hw 161 rfl)) (notFace_of_selects (args := #[]) (mvT hZ (wi hw 163 rfl))) (mvT hZ (wi hw 163 rfl)) (mvT hZ (wi hw 162 rfl)) (by decide) (backOf (W := 0) (rm_getValue l Z a0 hw [] o b h0 n0 (by omega) F_value_o) hZ (wi hw 164 rfl) (wi hw 45 rfl) (by decide) (by decide)) q102a q102c (g := (mkF mM 5 #[.val (.ref t), .val (.ref o), .val .null, .unset, .unset] [(.ref o)])) rfl hml.symm (Steps.refl _) (argsL := []) (rest := []) (lenOf pd_26 rfl) rfl (W0 rfl) (hb hj g42_150_0.2.2.2) (fun _ _ => ⟨rfl, e101, ble rfl, ble rfl⟩)
  dsimp only [Pt.U, Pt.locs, Pt.cells, Pt.slots] at X102 l102 y102 z102 st102 hQ102
  subst y102 z102
  obtain ⟨h102, e102⟩ : ∃ z, T102.heap = z := ⟨_, rfl⟩
  rw [e102] at hQ102
  obtain ⟨rfl, N102q, eq102⟩ := hQ102
  rw [eq102] at e102
  have N102 : Fr n0 L102 := by rw [l102]; exact Fr.app N0 N102q
  obtain ⟨cq103, kq103, q103a, q103b, q103c⟩ := isOf hZ e102 E_o
  obtain ⟨_, _, ⟨T103, L103, k103, n103⟩, -, X103, ⟨Lc103, hQ103, l103, y103, z103⟩, st103⟩ := X102.virtualBack hx (y := y17_) (z := y18_) hown (mvT hZ (wi hw 165 rfl)) (mvT hZ (wi hw 166 rfl)) (own_nf (y := (⟨"java/lang/AbstractStringBuilder", "ensureCapacityInternal", "(I)V"⟩ : MethodName)) (z := (⟨"java/lang/AbstractStringBuilder", "length", "()I"⟩ : MethodName)) (notFace_of_selects (args := #[]) (mvT hZ (wi hw 79 rfl))) (Cond.code_named (args := #[]) (mvT hZ (wi hw 80 rfl))) rfl) (mvT hZ (wi hw 168 rfl)) (mvT hZ (wi hw 169 rfl)) (by decide) (backOf (W := 0) (rm_sb_length l Z a0 hw [] o (iN n) h0 n0 (by omega) E_o F_count_o) hZ (wi hw 170 rfl) (wi hw 37 rfl) (by decide) (by decide)) q103a q103c (g := (mkF mM 10 #[.val (.ref t), .val (.ref o), .val .null, .val (.ref b), .unset] [(.ref o)])) rfl hml.symm (Steps.refl _) (argsL := []) (rest := []) (lenOf pd_9 rfl) rfl (W0 rfl) (hb hj g42_150_1.2.2.1) (fun _ _ => ⟨rfl, e102, ble rfl, ble rfl⟩)
  dsimp only [Pt.U, Pt.locs, Pt.cells, Pt.slots] at X103 l103 y103 z103 st103 hQ103
  subst y103 z103
  obtain ⟨h103, e103⟩ : ∃ z, T103.heap = z := ⟨_, rfl⟩
  rw [e103] at hQ103
  obtain ⟨rfl, N103q, eq103⟩ := hQ103
  rw [eq103] at e103
  have N103 : Fr n0 L103 := by rw [l103]; exact Fr.app N102 N103q
  obtain ⟨cq104, kq104, q104a, q104b, q104c⟩ := isOf hZ e103 E_o
  obtain ⟨_, _, ⟨T104, L104, k104, n104⟩, -, X104, ⟨Lc104, hQ104, l104, y104, z104⟩, st104⟩ := X103.virtualBack hx (y := y15_) (z := y15_) hown (mvT hZ (wi hw 173 rfl)) (mvT hZ (wi hw 138 rfl)) (notFace_of_selects (args := #[]) (mvT hZ (wi hw 140 rfl))) (mvT hZ (wi hw 140 rfl)) (mvT hZ (wi hw 139 rfl)) (by decide) (backOf (W := 0) (rm_asb_latin l Z a0 hw [] o cs fo da ea h0 n0 (by omega) F_coder_o OL SX) hZ (wi hw 141 rfl) (wi hw 45 rfl) (by decide) (by decide)) q104a q104c (g := (mkF mM 16 (Lc_str_asb_0 t o b n) [(.ref o)])) rfl hml.symm (Steps.refl _) (argsL := []) (rest := []) (lenOf pd_21 rfl) rfl (W0 rfl) (hb hj g42_150_2.2.1) (fun _ _ => ⟨rfl, e103, ble rfl, ble rfl⟩)
  dsimp only [Pt.U, Pt.locs, Pt.cells, Pt.slots] at X104 l104 y104 z104 st104 hQ104
  subst y104 z104
  obtain ⟨h104, e104⟩ : ∃ z, T104.heap = z := ⟨_, rfl⟩
  rw [e104] at hQ104
  obtain ⟨rfl, N104q, eq104⟩ := hQ104
  rw [eq104] at e104
  have N104 : Fr n0 L104 := by rw [l104]; exact Fr.app N103 N104q
  obtain ⟨T105, h105, X105, e105, W105, st105⟩ := putFN X104 hx hZ hown (wi hw 34 rfl) Via.refl e104 F_coder_t E_t (Or.inr ⟨(wi hw 5 rfl), rfl, hnm⟩) (wi hw 2 rfl) (ty := .byte) (v' := (.int (0 : Int32))) (by decide) (rfl) (rfl) (g := (mkF mM 24 (Lc_str_asb_0 t o b n) [(.int (0 : Int32)), (.ref t)])) rfl rfl (hb hj g42_150_3.2.1)
  have Sz1 : h0.size ≤ h105.size := Nat.le_of_eq (Wr.size W105).symm
  have Fw105 : Fld Z h105 t "java/lang/String" "coder" "B" (.int (0 : Int32)) := Fld.same W105 F_coder_t
  have N105 := Fr.snoc X105 N104 g_t
  have c107_V_b : Arv Z h105 b k .byte (iN cap) xs (.int (0 : Int32)) := V_b.other W105 (Ne.symm ne_t_b)
  have c108_E_b : Exa Z h105 b "[B" := Exa.wr W105 E_b
  obtain ⟨_, _, ⟨T106, L106, k106, n106⟩, -, X106, ⟨Lc106, hQ106, l106, y106, z106⟩, st106⟩ := Jvm.LawKit.callS X105 hx (y := y21_) hown (mvT hZ (wi hw 174 rfl)) (mvT hZ (wi hw 175 rfl)) (mvT hZ (wi hw 131 rfl)) (mvT hZ (wi hw 176 rfl)) (by decide) (backOf (W := 1) (rm_corJ l Z a0 hw [] b k cap n xs h105 n0 (by omega) c107_V_b hn hB c108_E_b) hZ (wi hw 176 rfl) (wi hw 131 rfl) (by decide) (by decide)) (g := (mkF mM 32 (Lc_str_asb_0 t o b n) [(.int (iN n)), (.int (0 : Int32)), (.ref b), (.ref t)])) rfl hml.symm (argsL := [(.ref b), (.int (0 : Int32)), (.int (iN n))]) (rest := [(.ref t)]) (lenOf pd_27 rfl) rfl (W0 rfl) (hb hj g42_150_4.2.2.1) (fun _ _ => ⟨rfl, e105, ble rfl, ble rfl⟩)
  dsimp only [Pt.U, Pt.locs, Pt.cells, Pt.slots] at X106 l106 y106 z106 st106 hQ106
  subst y106 z106
  obtain ⟨h106, e106⟩ : ∃ z, T106.heap = z := ⟨_, rfl⟩
  rw [e106] at hQ106
  obtain ⟨b2_106, k2_106, rfl, N106q, Kp106, p106_V_b2, p106_gh_b2⟩ := hQ106
  have Sz2 : h105.size ≤ h106.size := Kp106.1
  have N106 : Fr n0 L106 := by rw [l106]; exact Fr.app N105 N106q
  have c109_F_value_t : Fld Z h105 t "java/lang/String" "value" "[B" w1 := Fld.other W105 F_value_t (Or.inr (slot_ne (Or.inr (wi hw 4 rfl)) (Or.inr (wi hw 5 rfl)) (by decide) (t := (.array .byte)) (t' := .byte) (by decide) (by decide)))
  have c110_F_value_t : Fld Z h106 t "java/lang/String" "value" "[B" w1 := c109_F_value_t.keep Kp106 nin0
  have c111_E_t : Exa Z h105 t "java/lang/String" := Exa.wr W105 E_t
  have c112_E_t : Exa Z h106 t "java/lang/String" := c111_E_t.keep Kp106
  obtain ⟨T113, h113, X113, e113, W113, st113⟩ := putF X106 hx hZ hown (host := "") (Or.inl (wi hw 33 rfl)) Via.refl e106 c110_F_value_t c112_E_t (Or.inr ⟨(wi hw 4 rfl), rfl, hnm⟩) (wi hw 2 rfl) (ty := (.array .byte)) (by decide) rfl rfl (g := (mkF mM 35 (Lc_str_asb_0 t o b n) [(.ref b2_106), (.ref t)])) rfl rfl (hb hj g42_150_4.2.2.2)
  have Sz3 : h106.size ≤ h113.size := Nat.le_of_eq (Wr.size W113).symm
  have Fw113 : Fld Z h113 t "java/lang/String" "value" "[B" (.ref b2_106) := Fld.same W113 c110_F_value_t
  have N113 := Fr.snoc X113 N106 g_t
  have lt_b2_106 : @LT.lt Nat _ b2_106 h106.size := p106_V_b2.lt
  have lt_t : @LT.lt Nat _ t h0.size := E_t.lt
  have ne_b2_106_t_114 : b2_106 ≠ t := (by omega : @Ne Nat b2_106 t)
  have c115_V_b2_106 : Arv Z h113 b2_106 k2_106 .byte (iN n) xs (.int (0 : Int32)) := p106_V_b2.other W113 ne_b2_106_t_114
  have c116_E_t : Exa Z h113 t "java/lang/String" := Exa.wr W113 c112_E_t
  have c117_F_coder_t : Fld Z h106 t "java/lang/String" "coder" "B" (.int (0 : Int32)) := Fw105.keep Kp106 nin0
  have c118_F_coder_t : Fld Z h113 t "java/lang/String" "coder" "B" (.int (0 : Int32)) := Fld.other W113 c117_F_coder_t (Or.inr (slot_ne (Or.inr (wi hw 5 rfl)) (Or.inr (wi hw 4 rfl)) (by decide) (t := .byte) (t' := (.array .byte)) (by decide) (by decide)))
  have K119 : Keep h0 h105 [t] := (Keep.refl h0 [t]).wr W105 (Or.inl (List.mem_of_getElem? (i := 0) rfl))
  have K120 : Keep h0 h106 [t] := K119.trans Kp106 all0
  have K121 : Keep h0 h113 [t] := K120.wr W113 (Or.inl (List.mem_of_getElem? (i := 0) rfl))
  obtain ⟨fs, hr, hrun, hended, hW, hsame⟩ := X113.leave (v := none) (fun _ => rfl)
  refine ⟨_, _, castTop (ef_str_asb mM t o b k cap n xs w1 w2 cs fo da ea) ?_, hrun, hended, _, _, rfl, ?_, ⟨_, rfl⟩, hW, hsame.mono (by decide) (by decide)⟩
  · show SS pP eE bS s₁ (mkF mM 0 #[.val (.ref t), .val (.ref o), .val .null, .unset, .unset] []) _
    refine XS.aloadN X0.here hx rfl (hb hj g42_150_0.1) rfl rfl ?_
    refine st101 _ ?_
    refine XS.aloadN X101.here hx rfl (hb hj g42_150_0.2.2.1) rfl rfl ?_
    refine st102.trans ?_
    refine XS.astoreN X102.here hx rfl (hb hj g42_150_1.1) rfl rfl (l' := #[.val (.ref t), .val (.ref o), .val .null, .val (.ref b), .unset]) rfl ?_
    refine XS.aloadN X102.here hx rfl (hb hj g42_150_1.2.1) rfl rfl ?_
    refine st103.trans ?_
    refine XS.istore X103.here hx rfl (hb hj g42_150_1.2.2.2) rfl (l' := (Lc_str_asb_0 t o b n)) rfl ?_
    refine XS.aloadN X103.here hx rfl (hb hj g42_150_2.1) rfl rfl ?_
    refine st104.trans ?_
    refine XS.ifNo X104.here hx rfl (hb hj g42_150_2.2.2.1) rfl ((if0 _ _).trans (feq (by decide : ¬ ((1 : Int32) = (0 : Int32)))).1) ?_
    refine XS.aloadN X104.here hx rfl (hb hj g42_150_2.2.2.2) rfl rfl ?_
    refine XS.iconst X104.here hx rfl (hb hj g42_150_3.1) ?_
    refine st105 _ ?_
    refine XS.aloadN X105.here hx rfl (hb hj g42_150_3.2.2.1) rfl rfl ?_
    refine XS.aloadN X105.here hx rfl (hb hj g42_150_3.2.2.2) rfl rfl ?_
    refine XS.iconst X105.here hx rfl (hb hj g42_150_4.1) ?_
    refine XS.iload X105.here hx rfl (hb hj g42_150_4.2.1) rfl ?_
    refine st106 _ ?_
    refine st113 _ ?_
    refine XS.goto X113.here hx rfl (pc0 := 38) (pc' := 97) rfl (hb hj g42_150_5.1) (by decide) (by decide) ?_
    exact X113.returnOut hx Bd.returns (hb hj g42_150_5.2) hr
  · show Q_str_asb Z t o b k cap n xs w1 w2 cs fo da ea h0 n0 _ T113.heap _
    rw [e113]
    exact ⟨b2_106, k2_106, rfl, N113, K121, c116_E_t, Fw113, c118_F_coder_t, c115_V_b2_106, (by omega)⟩
abbrev c42_53 := jdk_42_method_53_code
theorem g42_53_0 : decode c42_53 0 = .ok (.aload_n 0, 1) ∧ decode c42_53 1 = .ok (.aload_n 1, 1) ∧ decode c42_53 2 = .ok (.aconst_null, 1) ∧ decode c42_53 3 = .ok (.invokespecial 489, 3) := by decide +kernel
theorem pd_25 : parseMethodDescriptor "(Ljava/lang/AbstractStringBuilder;Ljava/lang/Void;)V" = some ⟨[(.object "java/lang/AbstractStringBuilder"), (.object "java/lang/Void")], none⟩ := by decide +kernel
theorem g42_53_1 : decode c42_53 6 = .ok (.return_, 1) := by decide +kernel
abbrev r4_1_128_65 : Room := { frames := 4, cells := 1, slots := 128, locals := 65 }
abbrev y23_ : MethodName := ⟨"java/lang/String", "<init>", "(Ljava/lang/StringBuilder;)V"⟩
def Q_str_sb (Z : State) (t : Addr) (o : Addr) (b : Addr) (k : ClassId) (cap : Nat) (n : Nat) (xs : List Value) (w1 : Value) (w2 : Value) (cs : Int32) (fo : Value) (da : Addr) (ea : Addr) (h0 : Heap) (n0 : Nat) (xv : Option Value) (xh : Heap) (xL : List Loc) : Prop := ∃ b2 : Addr, ∃ k2 : ClassId, xv = none ∧ Fr n0 xL ∧ Keep h0 xh [t] ∧ Exa Z xh t "java/lang/String" ∧ Fld Z xh t "java/lang/String" "value" "[B" (.ref b2) ∧ Fld Z xh t "java/lang/String" "coder" "B" (.int (0 : Int32)) ∧ Arv Z xh b2 k2 .byte (iN n) xs (.int (0 : Int32)) ∧ @LE.le Nat _ h0.size b2
theorem ef_str_sb (mM : MethodId) (t : Addr) (o : Addr) (b : Addr) (k : ClassId) (cap : Nat) (n : Nat) (xs : List Value) (w1 : Value) (w2 : Value) (cs : Int32) (fo : Value) (da : Addr) (ea : Addr) : entryFrame mM #[(.ref t), (.ref o)] 2 = mkF mM 0 #[.val (.ref t), .val (.ref o)] [] := by
  first | (simp [entryFrame, mkF, argsToLocals, Value.category]; done) | rfl
theorem rm_str_sb (hw : HW a0 Z) (ws : List Jvm.Cond) (t : Addr) (o : Addr) (b : Addr) (k : ClassId) (cap : Nat) (n : Nat) (xs : List Value) (w1 : Value) (w2 : Value) (cs : Int32) (fo : Value) (da : Addr) (ea : Addr) (h0 : Heap) (n0 : Nat) (Z0 : n0 ≤ h0.size) (E_t : Exa Z h0 t "java/lang/String") (F_value_t : Fld Z h0 t "java/lang/String" "value" "[B" w1) (F_coder_t : Fld Z h0 t "java/lang/String" "coder" "B" w2) (E_o : Exa Z h0 o "java/lang/StringBuilder") (F_value_o : Fld Z h0 o "java/lang/AbstractStringBuilder" "value" "[B" (.ref b)) (F_coder_o : Fld Z h0 o "java/lang/AbstractStringBuilder" "coder" "B" (.int (0 : Int32))) (F_count_o : Fld Z h0 o "java/lang/AbstractStringBuilder" "count" "I" (.int (iN n))) (V_b : Arv Z h0 b k .byte (iN cap) xs (.int (0 : Int32))) (hn : xs.length = n) (hB : n ≤ cap ∧ cap ≤ 128) (E_b : Exa Z h0 b "[B") (ne_t_o : @Ne Nat t o) (ne_t_b : @Ne Nat t b) (g_t : @LE.le Nat _ n0 t) (OL : Old Z n0 h0) (SX : Sts Z cs fo da ea) :
    MF l y23_ jdk_42_method_53_code 2 none ws r4_1_128_65 #[(.ref t), (.ref o)] Z h0 (Q_str_sb Z t o b k cap n xs w1 w2 cs fo da ea h0 n0) := by
  refine MetFree.of_bodySF (plainFor_of_name pn_java_lang_String) hisR ?_
  intro pP eE sS mM aS bS mS cC s₁ Bd hml0 hP hK
  obtain ⟨rfl, hZ, hh⟩ := hP
  have hx := Bd.exec
  have hj := Bd.bytes
  have hml : cC.maxLocals = 2 := hml0
  have hown : sS.vm.findClass "java/lang/String" = some mM.cls := findClass_of_methodNamed Bd.named
  have X0 : Stand pP l eE r4_1_128_65 sS mM _ bS mS cC s₁ [] 0 0 := Stand.of_body Bd
  have e0 : s₁.heap = h0 := by rw [← hh, Bd.state]; rfl
  have N0 := Fr.nil n0
  obtain ⟨_, _, ⟨T101, L101, k101, n101⟩, -, X101, ⟨Lc101, hQ101, l101, y101, z101⟩, st101⟩ := X0.specialBack hx (y := y22_) rfl hown (mvT hZ (wi hw 157 rfl)) (mvT hZ (wi hw 158 rfl)) (mvT hZ (wi hw 159 rfl)) (by decide) (backOf (W := 0) (rm_str_asb l Z a0 hw [] t o b k cap n xs w1 w2 cs fo da ea h0 n0 (by omega) E_t F_value_t F_coder_t E_o F_value_o F_coder_o F_count_o V_b hn hB E_b ne_t_o ne_t_b g_t OL SX) hZ (wi hw 159 rfl) (wi hw 1 rfl) (by decide) (by decide)) (g := (mkF mM 3 #[.val (.ref t), .val (.ref o)] [.null, (.ref o), (.ref t)])) rfl hml.symm (Steps.refl _) (a := t) (argsL := [(.ref o), .null]) (rest := []) (lenOf pd_25 rfl) rfl (W0 rfl) (hb hj g42_53_0.2.2.2) (fun _ _ => ⟨rfl, e0, ble rfl, ble rfl⟩)
  dsimp only [Pt.U, Pt.locs, Pt.cells, Pt.slots] at X101 l101 y101 z101 st101 hQ101
  subst y101 z101
  obtain ⟨h101, e101⟩ : ∃ z, T101.heap = z := ⟨_, rfl⟩
  rw [e101] at hQ101
  obtain ⟨b2_101, k2_101, rfl, N101q, Kp101, p101_E_t, p101_F_value_t, p101_F_coder_t, p101_V_b2, p101_gh_b2⟩ := hQ101
  have Sz1 : h0.size ≤ h101.size := Kp101.1
  have N101 : Fr n0 L101 := by rw [l101]; exact Fr.app N0 N101q
  have K102 : Keep h0 h101 [t] := (Keep.refl h0 [t]).trans Kp101 (allS (Or.inl (List.mem_of_getElem? (i := 0) rfl)) all0)
  obtain ⟨fs, hr, hrun, hended, hW, hsame⟩ := X101.leave (v := none) (fun _ => rfl)
  refine ⟨_, _, castTop (ef_str_sb mM t o b k cap n xs w1 w2 cs fo da ea) ?_, hrun, hended, _, _, rfl, ?_, ⟨_, rfl⟩, hW, hsame.mono (by decide) (by decide)⟩
  · show SS pP eE bS s₁ (mkF mM 0 #[.val (.ref t), .val (.ref o)] []) _
    refine XS.aloadN X0.here hx rfl (hb hj g42_53_0.1) rfl rfl ?_
    refine XS.aloadN X0.here hx rfl (hb hj g42_53_0.2.1) rfl rfl ?_
    refine XS.aconstNull X0.here hx rfl (hb hj g42_53_0.2.2.1) ?_
    refine st101.trans ?_
    exact X101.returnOut hx Bd.returns (hb hj g42_53_1) hr
  · show Q_str_sb Z t o b k cap n xs w1 w2 cs fo da ea h0 n0 _ T101.heap _
    rw [e101]
    exact ⟨b2_101, k2_101, rfl, N101, K102, p101_E_t, p101_F_value_t, p101_F_coder_t, p101_V_b2, (by omega)⟩
abbrev c67_42 := jdk_67_method_42_code
theorem g67_42_0 : decode c67_42 0 = .ok (.new 18, 3) ∧ decode c67_42 3 = .ok (.dup, 1) ∧ decode c67_42 4 = .ok (.aload_n 0, 1) ∧ decode c67_42 5 = .ok (.invokespecial 137, 3) := by decide +kernel
theorem pd_24 : parseMethodDescriptor "(Ljava/lang/StringBuilder;)V" = some ⟨[(.object "java/lang/StringBuilder")], none⟩ := by decide +kernel
theorem g67_42_1 : decode c67_42 8 = .ok (.areturn, 1) := by decide +kernel
abbrev r5_2_132_79 : Room := { frames := 5, cells := 2, slots := 132, locals := 79 }
abbrev y24_ : MethodName := ⟨"java/lang/StringBuilder", "toString", "()Ljava/lang/String;"⟩
def Q_toString (Z : State) (o : Addr) (b : Addr) (k : ClassId) (cap : Nat) (n : Nat) (xs : List Value) (cs : Int32) (fo : Value) (da : Addr) (ea : Addr) (h0 : Heap) (n0 : Nat) (xv : Option Value) (xh : Heap) (xL : List Loc) : Prop := ∃ t : Addr, ∃ b2 : Addr, ∃ k2 : ClassId, xv = some (.ref t) ∧ Fr n0 xL ∧ Keep h0 xh [] ∧ StrA Z xh t b2 k2 n xs ∧ @LE.le Nat _ h0.size t ∧ @LE.le Nat _ h0.size b2
theorem ef_toString (mM : MethodId) (o : Addr) (b : Addr) (k : ClassId) (cap : Nat) (n : Nat) (xs : List Value) (cs : Int32) (fo : Value) (da : Addr) (ea : Addr) : entryFrame mM #[(.ref o)] 1 = mkF mM 0 #[.val (.ref o)] [] := by
  first | (simp [entryFrame, mkF, argsToLocals, Value.category]; done) | rfl
theorem rm_toString (hw : HW a0 Z) (ws : List Jvm.Cond) (o : Addr) (b : Addr) (k : ClassId) (cap : Nat) (n : Nat) (xs : List Value) (cs : Int32) (fo : Value) (da : Addr) (ea : Addr) (h0 : Heap) (n0 : Nat) (Z0 : n0 ≤ h0.size) (E_o : Exa Z h0 o "java/lang/StringBuilder") (F_value_o : Fld Z h0 o "java/lang/AbstractStringBuilder" "value" "[B" (.ref b)) (F_coder_o : Fld Z h0 o "java/lang/AbstractStringBuilder" "coder" "B" (.int (0 : Int32))) (F_count_o : Fld Z h0 o "java/lang/AbstractStringBuilder" "count" "I" (.int (iN n))) (V_b : Arv Z h0 b k .byte (iN cap) xs (.int (0 : Int32))) (hn : xs.length = n) (hB : n ≤ cap ∧ cap ≤ 128) (E_b : Exa Z h0 b "[B") (OL : Old Z n0 h0) (SX : Sts Z cs fo da ea) :
    MF l y24_ jdk_67_method_42_code 1 (some (.object "java/lang/String")) ws r5_2_132_79 #[(.ref o)] Z h0 (Q_toString Z o b k cap n xs cs fo da ea h0 n0) := by
  refine MetFree.of_bodySF (plainFor_of_name pn_java_lang_StringBuilder) hisR ?_
  intro pP eE sS mM aS bS mS cC s₁ Bd hml0 hP hK
  obtain ⟨rfl, hZ, hh⟩ := hP
  have hx := Bd.exec
  have hj := Bd.bytes
  have hml : cC.maxLocals = 1 := hml0
  have hown : sS.vm.findClass "java/lang/StringBuilder" = some mM.cls := findClass_of_methodNamed Bd.named
  have X0 : Stand pP l eE r5_2_132_79 sS mM _ bS mS cC s₁ [] 0 0 := Stand.of_body Bd
  have e0 : s₁.heap = h0 := by rw [← hh, Bd.state]; rfl
  have N0 := Fr.nil n0
  obtain ⟨T101, h101, X101, e101, E101, A101, D101, B101, st101⟩ := newO X0 hx hZ hown (wi hw 153 rfl) (wi hw 2 rfl) (wi hw 1 rfl) e0 (g := (mkF mM 0 #[.val (.ref o)] [])) rfl (hb hj g67_42_0.1) (by decide) (by decide)
  obtain ⟨b101, g101⟩ : ∃ z : Nat, z = h0.size := ⟨_, rfl⟩
  rw [← g101] at A101 D101 B101 st101
  have Sz1 : h0.size ≤ h101.size := E101.1
  have F101_value : Fld Z h101 b101 "java/lang/String" "value" "[B" .null := D101 (Or.inr (wi hw 4 rfl)) (ty := (.array .byte)) (by decide)
  have F101_coder : Fld Z h101 b101 "java/lang/String" "coder" "B" (.int (0 : Int32)) := D101 (Or.inr (wi hw 5 rfl)) (ty := .byte) (by decide)
  have c103_E_o : Exa Z h101 o "java/lang/StringBuilder" := Exa.ext E101 E_o
  have c104_F_value_o : Fld Z h101 o "java/lang/AbstractStringBuilder" "value" "[B" (.ref b) := Fld.ext E101 F_value_o
  have c105_F_coder_o : Fld Z h101 o "java/lang/AbstractStringBuilder" "coder" "B" (.int (0 : Int32)) := Fld.ext E101 F_coder_o
  have c106_F_count_o : Fld Z h101 o "java/lang/AbstractStringBuilder" "count" "I" (.int (iN n)) := Fld.ext E101 F_count_o
  have c107_V_b : Arv Z h101 b k .byte (iN cap) xs (.int (0 : Int32)) := V_b.ext E101
  have c108_E_b : Exa Z h101 b "[B" := Exa.ext E101 E_b
  have c109_OL : Old Z n0 h101 := OL.ext E101
  have lt_b101 : @LT.lt Nat _ b101 h101.size := A101.lt
  have lt_o : @LT.lt Nat _ o h0.size := E_o.lt
  have ne_b101_o_110 : b101 ≠ o := (by omega : @Ne Nat b101 o)
  have lt_b : @LT.lt Nat _ b h0.size := V_b.lt
  have ne_b101_b_111 : b101 ≠ b := (by omega : @Ne Nat b101 b)
  have ge112_b101 : @LE.le Nat _ n0 b101 := by omega
  obtain ⟨_, _, ⟨T102, L102, k102, n102⟩, -, X102, ⟨Lc102, hQ102, l102, y102, z102⟩, st102⟩ := X101.specialBack hx (y := y23_) rfl hown (mvT hZ (wi hw 154 rfl)) (mvT hZ (wi hw 155 rfl)) (mvT hZ (wi hw 156 rfl)) (by decide) (backOf (W := 1) (rm_str_sb l Z a0 hw [] b101 o b k cap n xs .null (.int (0 : Int32)) cs fo da ea h101 n0 (by omega) A101 F101_value F101_coder c103_E_o c104_F_value_o c105_F_coder_o c106_F_count_o c107_V_b hn hB c108_E_b ne_b101_o_110 ne_b101_b_111 ge112_b101 c109_OL SX) hZ (wi hw 156 rfl) (wi hw 1 rfl) (by decide) (by decide)) (g := (mkF mM 5 #[.val (.ref o)] [(.ref o), (.ref b101), (.ref b101)])) rfl hml.symm (Steps.refl _) (a := b101) (argsL := [(.ref o)]) (rest := [(.ref b101)]) (lenOf pd_24 rfl) rfl (W0 rfl) (hb hj g67_42_0.2.2.2) (fun _ _ => ⟨rfl, e101, ble rfl, ble rfl⟩)
  dsimp only [Pt.U, Pt.locs, Pt.cells, Pt.slots] at X102 l102 y102 z102 st102 hQ102
  subst y102 z102
  obtain ⟨h102, e102⟩ : ∃ z, T102.heap = z := ⟨_, rfl⟩
  rw [e102] at hQ102
  obtain ⟨b2_102, k2_102, rfl, N102q, Kp102, p102_E_t, p102_F_value_t, p102_F_coder_t, p102_V_b2, p102_gh_b2⟩ := hQ102
  have Sz2 : h101.size ≤ h102.size := Kp102.1
  have N102 : Fr n0 L102 := by rw [l102]; exact Fr.app N0 N102q
  have c113_A_b101 : StrA Z h102 b101 b2_102 k2_102 n xs := ⟨p102_E_t, p102_F_value_t, p102_F_coder_t, p102_V_b2⟩
  have K114 : Keep h0 h101 [] := (Keep.refl h0 []).ext E101
  have K115 : Keep h0 h102 [] := K114.trans Kp102 (allS (Or.inr (by omega : @LE.le Nat _ h0.size b101)) all0)
  obtain ⟨fs, hr, hrun, hended, hW, hsame⟩ := X102.leave (v := some (.ref b101)) (fun h => by rw [Bd.returns] at h; cases h)
  refine ⟨_, _, castTop (ef_toString mM o b k cap n xs cs fo da ea) ?_, hrun, hended, _, _, rfl, ?_, ⟨_, rfl⟩, hW, hsame.mono (by decide) (by decide)⟩
  · show SS pP eE bS s₁ (mkF mM 0 #[.val (.ref o)] []) _
    refine st101 _ ?_
    refine XS.dup X101.here hx rfl (hb hj g67_42_0.2.1) rfl rfl ?_
    refine XS.aloadN X101.here hx rfl (hb hj g67_42_0.2.2.1) rfl rfl ?_
    refine st102.trans ?_
    jvm_step X102.here [X102.here.top, hx, (hb hj g67_42_1), X102.method', Bd.returns, Value.isRef, FieldType.isReference]
    first | (intro acts; rw [hr _ acts rfl rfl rfl]) | rw [hr _ _ rfl rfl rfl]
    exact Steps.refl _
  · show Q_toString Z o b k cap n xs cs fo da ea h0 n0 _ T102.heap _
    rw [e102]
    exact ⟨b101, b2_102, k2_102, rfl, N102, K115, c113_A_b101, (by omega), (by omega)⟩
abbrev c43_3 := jdk_43_method_3_code
theorem g43_3_0 : decode c43_3 0 = .ok (.iload_n 0, 1) ∧ decode c43_3 1 = .ok (.sipush 255, 3) ∧ decode c43_3 4 = .ok (.if_icmp .gt 7, 3) ∧ decode c43_3 7 = .ok (.iconst 1, 1) := by decide +kernel
theorem g43_3_1 : decode c43_3 8 = .ok (.goto 4, 3) ∧ decode c43_3 12 = .ok (.ireturn, 1) := by decide +kernel
abbrev y25_ : MethodName := ⟨"java/lang/StringLatin1", "canEncode", "(C)Z"⟩
theorem pn_java_lang_StringLatin1 : plainName "java/lang/StringLatin1" = true := by first | (simp [plainName, overriddenIn]; done) | decide +kernel
def Q_canEnc (Z : State) (c0 : Int32) (h0 : Heap) (n0 : Nat) (xv : Option Value) (xh : Heap) (xL : List Loc) : Prop := xv = some (.int (1 : Int32)) ∧ Fr n0 xL ∧ xh = h0
theorem ef_canEnc (mM : MethodId) (c0 : Int32) : entryFrame mM #[(.int c0)] 1 = mkF mM 0 #[.val (.int c0)] [] := by
  first | (simp [entryFrame, mkF, argsToLocals, Value.category]; done) | rfl
theorem rm_canEnc (hw : HW a0 Z) (ws : List Jvm.Cond) (c0 : Int32) (h0 : Heap) (n0 : Nat) (Z0 : n0 ≤ h0.size) (q0 : ¬ ((255 : Int32) < c0)) :
    MF l y25_ jdk_43_method_3_code 1 (some .boolean) ws r0_0_0_0 #[(.int c0)] Z h0 (Q_canEnc Z c0 h0 n0) := by
  refine MetFree.of_bodySF (plainFor_of_name pn_java_lang_StringLatin1) hisR ?_
  intro pP eE sS mM aS bS mS cC s₁ Bd hml0 hP hK
  obtain ⟨rfl, hZ, hh⟩ := hP
  have hx := Bd.exec
  have hj := Bd.bytes
  have hml : cC.maxLocals = 1 := hml0
  have hown : sS.vm.findClass "java/lang/StringLatin1" = some mM.cls := findClass_of_methodNamed Bd.named
  have X0 : Stand pP l eE r0_0_0_0 sS mM _ bS mS cC s₁ [] 0 0 := Stand.of_body Bd
  have e0 : s₁.heap = h0 := by rw [← hh, Bd.state]; rfl
  have N0 := Fr.nil n0
  obtain ⟨fs, hr, hrun, hended, hW, hsame⟩ := X0.leave (v := some (.int (1 : Int32))) (fun h => by rw [Bd.returns] at h; cases h)
  refine ⟨_, _, castTop (ef_canEnc mM c0) ?_, hrun, hended, _, _, rfl, ?_, ⟨_, rfl⟩, hW, hsame.mono (by decide) (by decide)⟩
  · show SS pP eE bS s₁ (mkF mM 0 #[.val (.int c0)] []) _
    refine XS.iloadN X0.here hx rfl (hb hj g43_3_0.1) rfl ?_
    refine XS.sipush X0.here hx rfl (hb hj g43_3_0.2.1) ?_
    refine XS.icmpNo X0.here hx rfl (hb hj g43_3_0.2.2.1) rfl (flt q0).2.2.1 ?_
    refine XS.iconst X0.here hx rfl (hb hj g43_3_0.2.2.2) ?_
    refine XS.goto X0.here hx rfl (pc0 := 8) (pc' := 12) rfl (hb hj g43_3_1.1) (by decide) (by decide) ?_
    exact retN X0 hx (t := .boolean) Bd.returns (by simp) (hb hj g43_3_1.2) hr
  · show Q_canEnc Z c0 h0 n0 _ s₁.heap _
    rw [e0]
    exact ⟨rfl, N0, rfl⟩
theorem own_b8 (x : Int32) : (x.toInt8.toInt32).toInt8.toInt32 = x.toInt8.toInt32 := by simp
abbrev c43_46 := jdk_43_method_46_code
theorem g43_46_0 : decode c43_46 0 = .ok (.iconst 1, 1) ∧ decode c43_46 1 = .ok (.newarray .byte, 2) ∧ decode c43_46 3 = .ok (.dup, 1) ∧ decode c43_46 4 = .ok (.iconst 0, 1) := by decide +kernel
theorem g43_46_1 : decode c43_46 5 = .ok (.iload_n 0, 1) ∧ decode c43_46 6 = .ok (.i2b, 1) ∧ decode c43_46 7 = .ok (.bastore, 1) ∧ decode c43_46 8 = .ok (.areturn, 1) := by decide +kernel
abbrev r0_1_1_0 : Room := { frames := 0, cells := 1, slots := 1, locals := 0 }
abbrev y26_ : MethodName := ⟨"java/lang/StringLatin1", "toBytes", "(C)[B"⟩
def Q_toBytes (Z : State) (c0 : Int32) (h0 : Heap) (n0 : Nat) (xv : Option Value) (xh : Heap) (xL : List Loc) : Prop := ∃ b : Addr, ∃ k : ClassId, xv = some (.ref b) ∧ Fr n0 xL ∧ Keep h0 xh [] ∧ Arv Z xh b k .byte (1 : Int32) [(.int c0.toInt8.toInt32)] (.int (0 : Int32)) ∧ @LE.le Nat _ h0.size b
theorem ef_toBytes (mM : MethodId) (c0 : Int32) : entryFrame mM #[(.int c0)] 1 = mkF mM 0 #[.val (.int c0)] [] := by
  first | (simp [entryFrame, mkF, argsToLocals, Value.category]; done) | rfl
theorem rm_toBytes (hw : HW a0 Z) (ws : List Jvm.Cond) (c0 : Int32) (h0 : Heap) (n0 : Nat) (Z0 : n0 ≤ h0.size) :
    MF l y26_ jdk_43_method_46_code 1 (some (.array .byte)) ws r0_1_1_0 #[(.int c0)] Z h0 (Q_toBytes Z c0 h0 n0) := by
  refine MetFree.of_bodySF (plainFor_of_name pn_java_lang_StringLatin1) hisR ?_
  intro pP eE sS mM aS bS mS cC s₁ Bd hml0 hP hK
  obtain ⟨rfl, hZ, hh⟩ := hP
  have hx := Bd.exec
  have hj := Bd.bytes
  have hml : cC.maxLocals = 1 := hml0
  have hown : sS.vm.findClass "java/lang/StringLatin1" = some mM.cls := findClass_of_methodNamed Bd.named
  have X0 : Stand pP l eE r0_1_1_0 sS mM _ bS mS cC s₁ [] 0 0 := Stand.of_body Bd
  have e0 : s₁.heap = h0 := by rw [← hh, Bd.state]; rfl
  have N0 := Fr.nil n0
  obtain ⟨T101, h101, k101, X101, e101, E101, A101, B101, st101⟩ := newPE X0 hx hZ (wi hw 3 rfl) e0 (g := (mkF mM 1 #[.val (.int c0)] [(.int (1 : Int32))])) rfl (hb hj g43_46_0.2.1) rfl (by decide) (cap := 1) (by decide) (by decide) (by decide) (by decide) (ad := "[B") (by decide)
  obtain ⟨b101, g101⟩ : ∃ z : Nat, z = h0.size := ⟨_, rfl⟩
  rw [← g101] at A101 B101 st101
  have Sz1 : h0.size ≤ h101.size := E101.1
  have V_b101 : Arv Z h101 b101 k101 .byte (1 : Int32) [(.int (0 : Int32))] (.int (0 : Int32)) := (Arv.new A101 (by decide)).pad (pad_rep [] (.int (0 : Int32)) 1)
  obtain ⟨cl102, Ar102, q102, S102, Ng102, Ha102, Ga102⟩ := id V_b101
  have hin102 : ¬ ((0 : Int32) < 0 ∨ cl102.slots.size ≤ ((0 : Int32)).toNatClampNeg) := inb_of S102 ⟨by decide, by decide⟩
  obtain ⟨T103, h103, X103, e103, W103, st103⟩ := stB X101 hx hZ e101 Ar102 (j := (0 : Int32)) hin102 (g := (mkF mM 7 #[.val (.int c0)] [(.int (c0.toInt8.toInt32)), (.int (0 : Int32)), (.ref b101), (.ref b101)])) rfl rfl (hb hj g43_46_1.2.2.1)
  have ge104_b101 : @LE.le Nat _ n0 b101 := by omega
  have Sz2 : h101.size ≤ h103.size := Nat.le_of_eq (Wr.size W103).symm
  have Vs103 := Arv.set Ar102 q102 S102 Ng102 Ha102 Ga102 (fits_nar_byte _) W103 0 rfl (Nat.le_of_ble_eq_true rfl)
  have Vt103 : Arv Z h103 b101 k101 .byte (1 : Int32) [(.int c0.toInt8.toInt32)] (.int (0 : Int32)) := by
    have q : Arv Z h103 b101 k101 .byte (1 : Int32) [(.int (c0.toInt8.toInt32).toInt8.toInt32)] (.int (0 : Int32)) := Vs103
    rw [show ((.int (c0.toInt8.toInt32).toInt8.toInt32) : Value) = (.int c0.toInt8.toInt32) from congrArg Value.int (own_b8 c0)] at q
    exact q
  have N103 := Fr.snoc X103 N0 ge104_b101
  have K105 : Keep h0 h101 [] := (Keep.refl h0 []).ext E101
  have K106 : Keep h0 h103 [] := K105.wr W103 (Or.inr (by omega : @LE.le Nat _ h0.size b101))
  obtain ⟨fs, hr, hrun, hended, hW, hsame⟩ := X103.leave (v := some (.ref b101)) (fun h => by rw [Bd.returns] at h; cases h)
  refine ⟨_, _, castTop (ef_toBytes mM c0) ?_, hrun, hended, _, _, rfl, ?_, ⟨_, rfl⟩, hW, hsame.mono (by decide) (by decide)⟩
  · show SS pP eE bS s₁ (mkF mM 0 #[.val (.int c0)] []) _
    refine XS.iconst X0.here hx rfl (hb hj g43_46_0.1) ?_
    refine st101 _ ?_
    refine XS.dup X101.here hx rfl (hb hj g43_46_0.2.2.1) rfl rfl ?_
    refine XS.iconst X101.here hx rfl (hb hj g43_46_0.2.2.2) ?_
    refine XS.iloadN X101.here hx rfl (hb hj g43_46_1.1) rfl ?_
    refine XS.i2b X101.here hx rfl (hb hj g43_46_1.2.1) rfl ?_
    refine st103 _ ?_
    jvm_step X103.here [X103.here.top, hx, (hb hj g43_46_1.2.2.2), X103.method', Bd.returns, Value.isRef, FieldType.isReference]
    first | (intro acts; rw [hr _ acts rfl rfl rfl]) | rw [hr _ _ rfl rfl rfl]
    exact Steps.refl _
  · show Q_toBytes Z c0 h0 n0 _ T103.heap _
    rw [e103]
    exact ⟨b101, k101, rfl, N103, K106, Vt103, (by omega)⟩
abbrev c42_151 := jdk_42_method_151_code
theorem g42_151_0 : decode c42_151 0 = .ok (.aload_n 0, 1) ∧ decode c42_151 1 = .ok (.invokespecial 1, 3) ∧ decode c42_151 4 = .ok (.aload_n 0, 1) ∧ decode c42_151 5 = .ok (.aload_n 1, 1) := by decide +kernel
theorem g42_151_1 : decode c42_151 6 = .ok (.putfield 9, 3) ∧ decode c42_151 9 = .ok (.aload_n 0, 1) ∧ decode c42_151 10 = .ok (.iload_n 2, 1) ∧ decode c42_151 11 = .ok (.putfield 15, 3) := by decide +kernel
theorem g42_151_2 : decode c42_151 14 = .ok (.return_, 1) := by decide +kernel
abbrev y27_ : MethodName := ⟨"java/lang/String", "<init>", "([BB)V"⟩
def Q_str_bb (Z : State) (o : Addr) (b : Addr) (u1 : Value) (u2 : Value) (h0 : Heap) (n0 : Nat) (xv : Option Value) (xh : Heap) (xL : List Loc) : Prop := xv = none ∧ Fr n0 xL ∧ Keep h0 xh [o] ∧ Exa Z xh o "java/lang/String" ∧ Fld Z xh o "java/lang/String" "value" "[B" (.ref b) ∧ Fld Z xh o "java/lang/String" "coder" "B" (.int (0 : Int32))
theorem ef_str_bb (mM : MethodId) (o : Addr) (b : Addr) (u1 : Value) (u2 : Value) : entryFrame mM #[(.ref o), (.ref b), (.int (0 : Int32))] 3 = mkF mM 0 #[.val (.ref o), .val (.ref b), .val (.int (0 : Int32))] [] := by
  first | (simp [entryFrame, mkF, argsToLocals, Value.category]; done) | rfl
theorem rm_str_bb (hw : HW a0 Z) (ws : List Jvm.Cond) (o : Addr) (b : Addr) (u1 : Value) (u2 : Value) (h0 : Heap) (n0 : Nat) (Z0 : n0 ≤ h0.size) (E_o : Exa Z h0 o "java/lang/String") (F_value_o : Fld Z h0 o "java/lang/String" "value" "[B" u1) (F_coder_o : Fld Z h0 o "java/lang/String" "coder" "B" u2) (g_o : @LE.le Nat _ n0 o) :
    MF l y27_ jdk_42_method_151_code 3 none ws r1_0_0_12 #[(.ref o), (.ref b), (.int (0 : Int32))] Z h0 (Q_str_bb Z o b u1 u2 h0 n0) := by
  refine MetFree.of_bodySF (plainFor_of_name pn_java_lang_String) hisR ?_
  intro pP eE sS mM aS bS mS cC s₁ Bd hml0 hP hK
  obtain ⟨rfl, hZ, hh⟩ := hP
  have hx := Bd.exec
  have hj := Bd.bytes
  have hml : cC.maxLocals = 3 := hml0
  have hown : sS.vm.findClass "java/lang/String" = some mM.cls := findClass_of_methodNamed Bd.named
  have hnm := (name_of_methodNamed Bd.named Bd.method).1
  have X0 : Stand pP l eE r1_0_0_12 sS mM _ bS mS cC s₁ [] 0 0 := Stand.of_body Bd
  have e0 : s₁.heap = h0 := by rw [← hh, Bd.state]; rfl
  have N0 := Fr.nil n0
  obtain ⟨T101, X101, e101, st101⟩ := initO X0 hx hZ hown (wi hw 30 rfl) (wi hw 31 rfl) (wi hw 32 rfl) e0 (g := (mkF mM 1 #[.val (.ref o), .val (.ref b), .val (.int (0 : Int32))] [(.ref o)])) rfl hml.symm rfl (hb hj g42_151_0.2.1) (by decide) (W := 0) (W0 rfl) (by decide)
  obtain ⟨T102, h102, X102, e102, W102, st102⟩ := putF X101 hx hZ hown (host := "") (Or.inl (wi hw 33 rfl)) Via.refl e101 F_value_o E_o (Or.inr ⟨(wi hw 4 rfl), rfl, hnm⟩) (wi hw 2 rfl) (ty := (.array .byte)) (by decide) rfl rfl (g := (mkF mM 6 #[.val (.ref o), .val (.ref b), .val (.int (0 : Int32))] [(.ref b), (.ref o)])) rfl rfl (hb hj g42_151_1.1)
  have Sz1 : h0.size ≤ h102.size := Nat.le_of_eq (Wr.size W102).symm
  have Fw102 : Fld Z h102 o "java/lang/String" "value" "[B" (.ref b) := Fld.same W102 F_value_o
  have N102 := Fr.snoc X102 N0 g_o
  have c103_F_coder_o : Fld Z h102 o "java/lang/String" "coder" "B" u2 := Fld.other W102 F_coder_o (Or.inr (slot_ne (Or.inr (wi hw 5 rfl)) (Or.inr (wi hw 4 rfl)) (by decide) (t := .byte) (t' := (.array .byte)) (by decide) (by decide)))
  have c104_E_o : Exa Z h102 o "java/lang/String" := Exa.wr W102 E_o
  obtain ⟨T105, h105, X105, e105, W105, st105⟩ := putFN X102 hx hZ hown (wi hw 34 rfl) Via.refl e102 c103_F_coder_o c104_E_o (Or.inr ⟨(wi hw 5 rfl), rfl, hnm⟩) (wi hw 2 rfl) (ty := .byte) (v' := (.int (0 : Int32))) (by decide) (rfl) (rfl) (g := (mkF mM 11 #[.val (.ref o), .val (.ref b), .val (.int (0 : Int32))] [(.int (0 : Int32)), (.ref o)])) rfl rfl (hb hj g42_151_1.2.2.2)
  have Sz2 : h102.size ≤ h105.size := Nat.le_of_eq (Wr.size W105).symm
  have Fw105 : Fld Z h105 o "java/lang/String" "coder" "B" (.int (0 : Int32)) := Fld.same W105 c103_F_coder_o
  have N105 := Fr.snoc X105 N102 g_o
  have c106_E_o : Exa Z h105 o "java/lang/String" := Exa.wr W105 c104_E_o
  have c107_F_value_o : Fld Z h105 o "java/lang/String" "value" "[B" (.ref b) := Fld.other W105 Fw102 (Or.inr (slot_ne (Or.inr (wi hw 4 rfl)) (Or.inr (wi hw 5 rfl)) (by decide) (t := (.array .byte)) (t' := .byte) (by decide) (by decide)))
  have K108 : Keep h0 h102 [o] := (Keep.refl h0 [o]).wr W102 (Or.inl (List.mem_of_getElem? (i := 0) rfl))
  have K109 : Keep h0 h105 [o] := K108.wr W105 (Or.inl (List.mem_of_getElem? (i := 0) rfl))
  obtain ⟨fs, hr, hrun, hended, hW, hsame⟩ := X105.leave (v := none) (fun _ => rfl)
  refine ⟨_, _, castTop (ef_str_bb mM o b u1 u2) ?_, hrun, hended, _, _, rfl, ?_, ⟨_, rfl⟩, hW, hsame.mono (by decide) (by decide)⟩
  · show SS pP eE bS s₁ (mkF mM 0 #[.val (.ref o), .val (.ref b), .val (.int (0 : Int32))] []) _
    refine XS.aloadN X0.here hx rfl (hb hj g42_151_0.1) rfl rfl ?_
    refine st101 _ ?_
    refine XS.aloadN X101.here hx rfl (hb hj g42_151_0.2.2.1) rfl rfl ?_
    refine XS.aloadN X101.here hx rfl (hb hj g42_151_0.2.2.2) rfl rfl ?_
    refine st102 _ ?_
    refine XS.aloadN X102.here hx rfl (hb hj g42_151_1.2.1) rfl rfl ?_
    refine XS.iloadN X102.here hx rfl (hb hj g42_151_1.2.2.1) rfl ?_
    refine st105 _ ?_
    exact X105.returnOut hx Bd.returns (hb hj g42_151_2) hr
  · show Q_str_bb Z o b u1 u2 h0 n0 _ T105.heap _
    rw [e105]
    exact ⟨rfl, N105, K109, c106_E_o, c107_F_value_o, Fw105⟩
abbrev c42_139 := jdk_42_method_139_code
theorem g42_139_0 : decode c42_139 0 = .ok (.getstatic 38, 3) ∧ decode c42_139 3 = .ok (.ifCond .eq 23, 3) ∧ decode c42_139 6 = .ok (.iload_n 0, 1) ∧ decode c42_139 7 = .ok (.invokestatic 1015, 3) := by decide +kernel
theorem pd_2 : parseMethodDescriptor "(C)Z" = some ⟨[.char], some .boolean⟩ := by decide +kernel
theorem g42_139_1 : decode c42_139 10 = .ok (.ifCond .eq 16, 3) ∧ decode c42_139 13 = .ok (.new 10, 3) ∧ decode c42_139 16 = .ok (.dup, 1) ∧ decode c42_139 17 = .ok (.iload_n 0, 1) := by decide +kernel
theorem g42_139_2 : decode c42_139 18 = .ok (.invokestatic 1018, 3) ∧ decode c42_139 21 = .ok (.iconst 0, 1) ∧ decode c42_139 22 = .ok (.invokespecial 209, 3) ∧ decode c42_139 25 = .ok (.areturn, 1) := by decide +kernel
theorem pd_3 : parseMethodDescriptor "(C)[B" = some ⟨[.char], some (.array .byte)⟩ := by decide +kernel
theorem pd_4 : parseMethodDescriptor "([BB)V" = some ⟨[(.array .byte), .byte], none⟩ := by decide +kernel
abbrev r2_2_5_27 : Room := { frames := 2, cells := 2, slots := 5, locals := 27 }
abbrev y28_ : MethodName := ⟨"java/lang/String", "valueOf", "(C)Ljava/lang/String;"⟩
def Q_valueOf (Z : State) (c0 : Int32) (cs : Int32) (fo : Value) (da : Addr) (ea : Addr) (h0 : Heap) (n0 : Nat) (xv : Option Value) (xh : Heap) (xL : List Loc) : Prop := ∃ t : Addr, ∃ b : Addr, ∃ k : ClassId, xv = some (.ref t) ∧ Fr n0 xL ∧ Keep h0 xh [] ∧ Exa Z xh t "java/lang/String" ∧ Fld Z xh t "java/lang/String" "value" "[B" (.ref b) ∧ Fld Z xh t "java/lang/String" "coder" "B" (.int (0 : Int32)) ∧ Arv Z xh b k .byte (1 : Int32) [(.int c0.toInt8.toInt32)] (.int (0 : Int32)) ∧ @LE.le Nat _ h0.size t ∧ @LE.le Nat _ h0.size b
theorem ef_valueOf (mM : MethodId) (c0 : Int32) (cs : Int32) (fo : Value) (da : Addr) (ea : Addr) : entryFrame mM #[(.int c0)] 1 = mkF mM 0 #[.val (.int c0)] [] := by
  first | (simp [entryFrame, mkF, argsToLocals, Value.category]; done) | rfl
theorem rm_valueOf (hw : HW a0 Z) (ws : List Jvm.Cond) (c0 : Int32) (cs : Int32) (fo : Value) (da : Addr) (ea : Addr) (h0 : Heap) (n0 : Nat) (Z0 : n0 ≤ h0.size) (q0 : ¬ ((255 : Int32) < c0)) (OL : Old Z n0 h0) (SX : Sts Z cs fo da ea) :
    MF l y28_ jdk_42_method_139_code 1 (some (.object "java/lang/String")) ws r2_2_5_27 #[(.int c0)] Z h0 (Q_valueOf Z c0 cs fo da ea h0 n0) := by
  refine MetFree.of_bodySF (plainFor_of_name pn_java_lang_String) hisR ?_
  intro pP eE sS mM aS bS mS cC s₁ Bd hml0 hP hK
  obtain ⟨rfl, hZ, hh⟩ := hP
  have hx := Bd.exec
  have hj := Bd.bytes
  have hml : cC.maxLocals = 1 := hml0
  have hown : sS.vm.findClass "java/lang/String" = some mM.cls := findClass_of_methodNamed Bd.named
  have X0 : Stand pP l eE r2_2_5_27 sS mM _ bS mS cC s₁ [] 0 0 := Stand.of_body Bd
  have e0 : s₁.heap = h0 := by rw [← hh, Bd.state]; rfl
  have N0 := Fr.nil n0
  have c101_S_COMPACT_STRINGS : Sta Z h0 "java/lang/String" "COMPACT_STRINGS" "Z" (.int cs) := Sta.ext OL.2 SX.1
  obtain ⟨T102, X102, e102, st102⟩ := getS2 X0 hx hZ hown (host := "") (Or.inl (wi hw 17 rfl)) Via.refl e0 c101_S_COMPACT_STRINGS (g := (mkF mM 0 #[.val (.int c0)] [])) rfl (hb hj g42_139_0.1)
  obtain ⟨_, _, ⟨T103, L103, k103, n103⟩, -, X103, ⟨Lc103, hQ103, l103, y103, z103⟩, st103⟩ := Jvm.LawKit.callS X102 hx (y := y25_) hown (mvT hZ (wi hw 18 rfl)) (mvT hZ (wi hw 19 rfl)) (mvT hZ (wi hw 20 rfl)) (mvT hZ (wi hw 21 rfl)) (by decide) (backOf (W := 0) (rm_canEnc l Z a0 hw [] c0 h0 n0 (by omega) q0) hZ (wi hw 21 rfl) (wi hw 20 rfl) (by decide) (by decide)) (g := (mkF mM 7 #[.val (.int c0)] [(.int c0)])) rfl hml.symm (argsL := [(.int c0)]) (rest := []) (lenOf pd_2 rfl) rfl (W0 rfl) (hb hj g42_139_0.2.2.2) (fun _ _ => ⟨rfl, e102, ble rfl, ble rfl⟩)
  dsimp only [Pt.U, Pt.locs, Pt.cells, Pt.slots] at X103 l103 y103 z103 st103 hQ103
  subst y103 z103
  obtain ⟨h103, e103⟩ : ∃ z, T103.heap = z := ⟨_, rfl⟩
  rw [e103] at hQ103
  obtain ⟨rfl, N103q, eq103⟩ := hQ103
  rw [eq103] at e103
  have N103 : Fr n0 L103 := by rw [l103]; exact Fr.app N0 N103q
  obtain ⟨T104, h104, X104, e104, E104, A104, D104, B104, st104⟩ := newO X103 hx hZ hown (wi hw 22 rfl) (wi hw 2 rfl) (wi hw 1 rfl) e103 (g := (mkF mM 13 #[.val (.int c0)] [])) rfl (hb hj g42_139_1.2.1) (by decide) (by decide)
  obtain ⟨b104, g104⟩ : ∃ z : Nat, z = h0.size := ⟨_, rfl⟩
  rw [← g104] at A104 D104 B104 st104
  have Sz1 : h0.size ≤ h104.size := E104.1
  have F104_value : Fld Z h104 b104 "java/lang/String" "value" "[B" .null := D104 (Or.inr (wi hw 4 rfl)) (ty := (.array .byte)) (by decide)
  have F104_coder : Fld Z h104 b104 "java/lang/String" "coder" "B" (.int (0 : Int32)) := D104 (Or.inr (wi hw 5 rfl)) (ty := .byte) (by decide)
  obtain ⟨_, _, ⟨T105, L105, k105, n105⟩, -, X105, ⟨Lc105, hQ105, l105, y105, z105⟩, st105⟩ := Jvm.LawKit.callS X104 hx (y := y26_) hown (mvT hZ (wi hw 23 rfl)) (mvT hZ (wi hw 24 rfl)) (mvT hZ (wi hw 20 rfl)) (mvT hZ (wi hw 25 rfl)) (by decide) (backOf (W := 2) (rm_toBytes l Z a0 hw [] c0 h104 n0 (by omega) ) hZ (wi hw 25 rfl) (wi hw 20 rfl) (by decide) (by decide)) (g := (mkF mM 18 #[.val (.int c0)] [(.int c0), (.ref b104), (.ref b104)])) rfl hml.symm (argsL := [(.int c0)]) (rest := [(.ref b104), (.ref b104)]) (lenOf pd_3 rfl) rfl (W0 rfl) (hb hj g42_139_2.1) (fun _ _ => ⟨rfl, e104, ble rfl, ble rfl⟩)
  dsimp only [Pt.U, Pt.locs, Pt.cells, Pt.slots] at X105 l105 y105 z105 st105 hQ105
  subst y105 z105
  obtain ⟨h105, e105⟩ : ∃ z, T105.heap = z := ⟨_, rfl⟩
  rw [e105] at hQ105
  obtain ⟨b_105, k_105, rfl, N105q, Kp105, p105_V_b, p105_gh_b⟩ := hQ105
  have Sz2 : h104.size ≤ h105.size := Kp105.1
  have N105 : Fr n0 L105 := by rw [l105]; exact Fr.app N103 N105q
  have c107_E_b104 : Exa Z h105 b104 "java/lang/String" := A104.keep Kp105
  have c108_F_value_b104 : Fld Z h105 b104 "java/lang/String" "value" "[B" .null := F104_value.keep Kp105 nin0
  have c109_F_coder_b104 : Fld Z h105 b104 "java/lang/String" "coder" "B" (.int (0 : Int32)) := F104_coder.keep Kp105 nin0
  have ge110_b104 : @LE.le Nat _ n0 b104 := by omega
  obtain ⟨_, _, ⟨T106, L106, k106, n106⟩, -, X106, ⟨Lc106, hQ106, l106, y106, z106⟩, st106⟩ := X105.specialBack hx (y := y27_) rfl hown (mvT hZ (wi hw 26 rfl)) (mvT hZ (wi hw 27 rfl)) (mvT hZ (wi hw 29 rfl)) (by decide) (backOf (W := 1) (rm_str_bb l Z a0 hw [] b104 b_105 .null (.int (0 : Int32)) h105 n0 (by omega) c107_E_b104 c108_F_value_b104 c109_F_coder_b104 ge110_b104) hZ (wi hw 29 rfl) (wi hw 1 rfl) (by decide) (by decide)) (g := (mkF mM 22 #[.val (.int c0)] [(.int (0 : Int32)), (.ref b_105), (.ref b104), (.ref b104)])) rfl hml.symm (Steps.refl _) (a := b104) (argsL := [(.ref b_105), (.int (0 : Int32))]) (rest := [(.ref b104)]) (lenOf pd_4 rfl) rfl (W0 rfl) (hb hj g42_139_2.2.2.1) (fun _ _ => ⟨rfl, e105, ble rfl, ble rfl⟩)
  dsimp only [Pt.U, Pt.locs, Pt.cells, Pt.slots] at X106 l106 y106 z106 st106 hQ106
  subst y106 z106
  obtain ⟨h106, e106⟩ : ∃ z, T106.heap = z := ⟨_, rfl⟩
  rw [e106] at hQ106
  obtain ⟨rfl, N106q, Kp106, p106_E_o, p106_F_value_o, p106_F_coder_o⟩ := hQ106
  have Sz3 : h105.size ≤ h106.size := Kp106.1
  have N106 : Fr n0 L106 := by rw [l106]; exact Fr.app N105 N106q
  have lt_b_105 : @LT.lt Nat _ b_105 h105.size := p105_V_b.lt
  have lt_b104 : @LT.lt Nat _ b104 h104.size := A104.lt
  have ne_b_105_b104_111 : b_105 ≠ b104 := (by omega : @Ne Nat b_105 b104)
  have c112_V_b_105 : Arv Z h106 b_105 k_105 .byte (1 : Int32) [(.int c0.toInt8.toInt32)] (.int (0 : Int32)) := p105_V_b.keep Kp106 (ninS ne_b_105_b104_111 nin0)
  have K113 : Keep h0 h104 [] := (Keep.refl h0 []).ext E104
  have K114 : Keep h0 h105 [] := K113.trans Kp105 all0
  have K115 : Keep h0 h106 [] := K114.trans Kp106 (allS (Or.inr (by omega : @LE.le Nat _ h0.size b104)) all0)
  obtain ⟨fs, hr, hrun, hended, hW, hsame⟩ := X106.leave (v := some (.ref b104)) (fun h => by rw [Bd.returns] at h; cases h)
  refine ⟨_, _, castTop (ef_valueOf mM c0 cs fo da ea) ?_, hrun, hended, _, _, rfl, ?_, ⟨_, rfl⟩, hW, hsame.mono (by decide) (by decide)⟩
  · show SS pP eE bS s₁ (mkF mM 0 #[.val (.int c0)] []) _
    refine st102 _ ?_
    refine XS.ifNo X102.here hx rfl (hb hj g42_139_0.2.1) rfl ((if0 _ _).trans (feq SX.2.1).1) ?_
    refine XS.iloadN X102.here hx rfl (hb hj g42_139_0.2.2.1) rfl ?_
    refine st103 _ ?_
    refine XS.ifNo X103.here hx rfl (hb hj g42_139_1.1) rfl ((if0 _ _).trans (feq (by decide : ¬ ((1 : Int32) = (0 : Int32)))).1) ?_
    refine st104 _ ?_
    refine XS.dup X104.here hx rfl (hb hj g42_139_1.2.2.1) rfl rfl ?_
    refine XS.iloadN X104.here hx rfl (hb hj g42_139_1.2.2.2) rfl ?_
    refine st105 _ ?_
    refine XS.iconst X105.here hx rfl (hb hj g42_139_2.2.1) ?_
    refine st106.trans ?_
    jvm_step X106.here [X106.here.top, hx, (hb hj g42_139_2.2.2.2), X106.method', Bd.returns, Value.isRef, FieldType.isReference]
    first | (intro acts; rw [hr _ acts rfl rfl rfl]) | rw [hr _ _ rfl rfl rfl]
    exact Steps.refl _
  · show Q_valueOf Z c0 cs fo da ea h0 n0 _ T106.heap _
    rw [e106]
    exact ⟨b104, b_105, k_105, rfl, N106, K115, p106_E_o, p106_F_value_o, p106_F_coder_o, c112_V_b_105, (by omega), (by omega)⟩
abbrev c3 := method_3_code
theorem g3_0 : decode c3 0 = .ok (.lload_n 0, 1) ∧ decode c3 1 = .ok (.ldc2_w 57, 3) ∧ decode c3 4 = .ok (.lcmp, 1) ∧ decode c3 5 = .ok (.ifCond .ge 5, 3) := by decide +kernel
theorem g3_1 : decode c3 8 = .ok (.iconst 1, 1) ∧ decode c3 9 = .ok (.ireturn, 1) ∧ decode c3 10 = .ok (.lload_n 0, 1) ∧ decode c3 11 = .ok (.ldc2_w 59, 3) := by decide +kernel
theorem g3_2 : decode c3 14 = .ok (.lcmp, 1) ∧ decode c3 15 = .ok (.ifCond .ge 5, 3) ∧ decode c3 18 = .ok (.iconst 2, 1) ∧ decode c3 19 = .ok (.ireturn, 1) := by decide +kernel
theorem g3_3 : decode c3 20 = .ok (.lload_n 0, 1) ∧ decode c3 21 = .ok (.ldc2_w 61, 3) ∧ decode c3 24 = .ok (.lcmp, 1) ∧ decode c3 25 = .ok (.ifCond .ge 5, 3) := by decide +kernel
theorem g3_4 : decode c3 28 = .ok (.iconst 3, 1) ∧ decode c3 29 = .ok (.ireturn, 1) ∧ decode c3 30 = .ok (.lload_n 0, 1) ∧ decode c3 31 = .ok (.ldc2_w 63, 3) := by decide +kernel
theorem g3_5 : decode c3 34 = .ok (.lcmp, 1) ∧ decode c3 35 = .ok (.ifCond .ge 5, 3) ∧ decode c3 38 = .ok (.iconst 4, 1) ∧ decode c3 39 = .ok (.ireturn, 1) := by decide +kernel
theorem g3_6 : decode c3 40 = .ok (.lload_n 0, 1) ∧ decode c3 41 = .ok (.ldc2_w 65, 3) ∧ decode c3 44 = .ok (.lcmp, 1) ∧ decode c3 45 = .ok (.ifCond .ge 5, 3) := by decide +kernel
theorem g3_7 : decode c3 48 = .ok (.iconst 5, 1) ∧ decode c3 49 = .ok (.ireturn, 1) ∧ decode c3 50 = .ok (.lload_n 0, 1) ∧ decode c3 51 = .ok (.ldc2_w 67, 3) := by decide +kernel
theorem g3_8 : decode c3 54 = .ok (.lcmp, 1) ∧ decode c3 55 = .ok (.ifCond .ge 6, 3) ∧ decode c3 58 = .ok (.bipush 6, 2) ∧ decode c3 60 = .ok (.ireturn, 1) := by decide +kernel
theorem g3_9 : decode c3 61 = .ok (.lload_n 0, 1) ∧ decode c3 62 = .ok (.ldc2_w 69, 3) ∧ decode c3 65 = .ok (.lcmp, 1) ∧ decode c3 66 = .ok (.ifCond .ge 6, 3) := by decide +kernel
theorem g3_10 : decode c3 69 = .ok (.bipush 7, 2) ∧ decode c3 71 = .ok (.ireturn, 1) ∧ decode c3 72 = .ok (.lload_n 0, 1) ∧ decode c3 73 = .ok (.ldc2_w 71, 3) := by decide +kernel
theorem g3_11 : decode c3 76 = .ok (.lcmp, 1) ∧ decode c3 77 = .ok (.ifCond .ge 6, 3) ∧ decode c3 80 = .ok (.bipush 8, 2) ∧ decode c3 82 = .ok (.ireturn, 1) := by decide +kernel
theorem g3_12 : decode c3 83 = .ok (.lload_n 0, 1) ∧ decode c3 84 = .ok (.ldc2_w 73, 3) ∧ decode c3 87 = .ok (.lcmp, 1) ∧ decode c3 88 = .ok (.ifCond .ge 6, 3) := by decide +kernel
theorem g3_13 : decode c3 91 = .ok (.bipush 9, 2) ∧ decode c3 93 = .ok (.ireturn, 1) ∧ decode c3 94 = .ok (.bipush 10, 2) ∧ decode c3 96 = .ok (.ireturn, 1) := by decide +kernel
def Q_dig (Z : State) (m : Nat) (h0 : Heap) (n0 : Nat) (xv : Option Value) (xh : Heap) (xL : List Loc) : Prop := xv = some (.int (iN (nd m))) ∧ Fr n0 xL ∧ xh = h0
abbrev y29_ : MethodName := ⟨"com/example/tessera/tessera/sql/SqlTextPagedPinLaw", "digits", "(J)I"⟩
theorem pn_com_example_tessera_tessera_sql_SqlTextPagedPinLaw : plainName "com/example/tessera/tessera/sql/SqlTextPagedPinLaw" = true := by first | (simp [plainName, overriddenIn]; done) | decide +kernel
theorem ef_dig1 (mM : MethodId) (m : Nat) : entryFrame mM #[(.long (jN m))] 2 = mkF mM 0 #[.val (.long (jN m)), .second] [] := by
  first | (simp [entryFrame, mkF, argsToLocals, Value.category]; done) | rfl
theorem rm_dig1 (hw : HW a0 Z) (ws : List Jvm.Cond) (m : Nat) (h0 : Heap) (n0 : Nat) (Z0 : n0 ≤ h0.size) (hm : m < 10000000000) (hnd : nd m = 1) (hhi : m < 10) :
    MF l y29_ method_3_code 2 (some .int) ws r0_0_0_0 #[(.long (jN m))] Z h0 (Q_dig Z m h0 n0) := by
  refine MetFree.of_bodySF (plainFor_of_name pn_com_example_tessera_tessera_sql_SqlTextPagedPinLaw) hisR ?_
  intro pP eE sS mM aS bS mS cC s₁ Bd hml0 hP hK
  obtain ⟨rfl, hZ, hh⟩ := hP
  have hx := Bd.exec
  have hj := Bd.bytes
  have hml : cC.maxLocals = 2 := hml0
  have hown : sS.vm.findClass "com/example/tessera/tessera/sql/SqlTextPagedPinLaw" = some mM.cls := findClass_of_methodNamed Bd.named
  have X0 : Stand pP l eE r0_0_0_0 sS mM _ bS mS cC s₁ [] 0 0 := Stand.of_body Bd
  have e0 : s₁.heap = h0 := by rw [← hh, Bd.state]; rfl
  have N0 := Fr.nil n0
  obtain ⟨fs, hr, hrun, hended, hW, hsame⟩ := X0.leave (v := some (.int (1 : Int32))) (fun h => by rw [Bd.returns] at h; cases h)
  refine ⟨_, _, castTop (ef_dig1 mM m) ?_, hrun, hended, _, _, rfl, ?_, ⟨_, rfl⟩, hW, hsame.mono (by decide) (by decide)⟩
  · show SS pP eE bS s₁ (mkF mM 0 #[.val (.long (jN m)), .second] []) _
    refine XS.lloadN X0.here hx rfl (hb hj g3_0.1) rfl ?_
    refine X0.ldc2Long hx hown (mvT hZ (wi hw 191 rfl)) (g := (mkF mM 1 #[.val (.long (jN m)), .second] [(.long (jN m))])) rfl (hb hj g3_0.2.1) _ ?_
    refine XS.lcmp X0.here hx rfl (hb hj g3_0.2.2.1) rfl ?_
    refine XS.ifNo X0.here hx rfl (hb hj g3_0.2.2.2) rfl ((if0 _ _).trans (tlt (own_jlt (K := 10) (by omega) hm (by omega) : (lcmpW (jN m) (10 : Int64)) < (0 : Int32))).2.1) ?_
    refine XS.iconst X0.here hx rfl (hb hj g3_1.1) ?_
    exact retI X0 hx Bd.returns (hb hj g3_1.2.1) hr
  · show Q_dig Z m h0 n0 _ s₁.heap _
    rw [e0]
    exact ⟨(congrArg (fun k => some (Value.int (iN k))) hnd).symm, N0, rfl⟩
theorem ef_dig2 (mM : MethodId) (m : Nat) : entryFrame mM #[(.long (jN m))] 2 = mkF mM 0 #[.val (.long (jN m)), .second] [] := by
  first | (simp [entryFrame, mkF, argsToLocals, Value.category]; done) | rfl
theorem rm_dig2 (hw : HW a0 Z) (ws : List Jvm.Cond) (m : Nat) (h0 : Heap) (n0 : Nat) (Z0 : n0 ≤ h0.size) (hm : m < 10000000000) (hnd : nd m = 2) (hlo : 10 ≤ m) (hhi : m < 100) :
    MF l y29_ method_3_code 2 (some .int) ws r0_0_0_0 #[(.long (jN m))] Z h0 (Q_dig Z m h0 n0) := by
  refine MetFree.of_bodySF (plainFor_of_name pn_com_example_tessera_tessera_sql_SqlTextPagedPinLaw) hisR ?_
  intro pP eE sS mM aS bS mS cC s₁ Bd hml0 hP hK
  obtain ⟨rfl, hZ, hh⟩ := hP
  have hx := Bd.exec
  have hj := Bd.bytes
  have hml : cC.maxLocals = 2 := hml0
  have hown : sS.vm.findClass "com/example/tessera/tessera/sql/SqlTextPagedPinLaw" = some mM.cls := findClass_of_methodNamed Bd.named
  have X0 : Stand pP l eE r0_0_0_0 sS mM _ bS mS cC s₁ [] 0 0 := Stand.of_body Bd
  have e0 : s₁.heap = h0 := by rw [← hh, Bd.state]; rfl
  have N0 := Fr.nil n0
  obtain ⟨fs, hr, hrun, hended, hW, hsame⟩ := X0.leave (v := some (.int (2 : Int32))) (fun h => by rw [Bd.returns] at h; cases h)
  refine ⟨_, _, castTop (ef_dig2 mM m) ?_, hrun, hended, _, _, rfl, ?_, ⟨_, rfl⟩, hW, hsame.mono (by decide) (by decide)⟩
  · show SS pP eE bS s₁ (mkF mM 0 #[.val (.long (jN m)), .second] []) _
    refine XS.lloadN X0.here hx rfl (hb hj g3_0.1) rfl ?_
    refine X0.ldc2Long hx hown (mvT hZ (wi hw 191 rfl)) (g := (mkF mM 1 #[.val (.long (jN m)), .second] [(.long (jN m))])) rfl (hb hj g3_0.2.1) _ ?_
    refine XS.lcmp X0.here hx rfl (hb hj g3_0.2.2.1) rfl ?_
    refine XS.ifYes X0.here hx rfl (pc0 := 5) (pc' := 10) rfl (hb hj g3_0.2.2.2) rfl ((if0 _ _).trans (flt (own_jge (K := 10) (by omega) hm : ¬ ((lcmpW (jN m) (10 : Int64)) < (0 : Int32)))).2.1) (by decide) (by decide) ?_
    refine XS.lloadN X0.here hx rfl (hb hj g3_1.2.2.1) rfl ?_
    refine X0.ldc2Long hx hown (mvT hZ (wi hw 192 rfl)) (g := (mkF mM 11 #[.val (.long (jN m)), .second] [(.long (jN m))])) rfl (hb hj g3_1.2.2.2) _ ?_
    refine XS.lcmp X0.here hx rfl (hb hj g3_2.1) rfl ?_
    refine XS.ifNo X0.here hx rfl (hb hj g3_2.2.1) rfl ((if0 _ _).trans (tlt (own_jlt (K := 100) (by omega) hm (by omega) : (lcmpW (jN m) (100 : Int64)) < (0 : Int32))).2.1) ?_
    refine XS.iconst X0.here hx rfl (hb hj g3_2.2.2.1) ?_
    exact retI X0 hx Bd.returns (hb hj g3_2.2.2.2) hr
  · show Q_dig Z m h0 n0 _ s₁.heap _
    rw [e0]
    exact ⟨(congrArg (fun k => some (Value.int (iN k))) hnd).symm, N0, rfl⟩
theorem ef_dig3 (mM : MethodId) (m : Nat) : entryFrame mM #[(.long (jN m))] 2 = mkF mM 0 #[.val (.long (jN m)), .second] [] := by
  first | (simp [entryFrame, mkF, argsToLocals, Value.category]; done) | rfl
theorem rm_dig3 (hw : HW a0 Z) (ws : List Jvm.Cond) (m : Nat) (h0 : Heap) (n0 : Nat) (Z0 : n0 ≤ h0.size) (hm : m < 10000000000) (hnd : nd m = 3) (hlo : 100 ≤ m) (hhi : m < 1000) :
    MF l y29_ method_3_code 2 (some .int) ws r0_0_0_0 #[(.long (jN m))] Z h0 (Q_dig Z m h0 n0) := by
  refine MetFree.of_bodySF (plainFor_of_name pn_com_example_tessera_tessera_sql_SqlTextPagedPinLaw) hisR ?_
  intro pP eE sS mM aS bS mS cC s₁ Bd hml0 hP hK
  obtain ⟨rfl, hZ, hh⟩ := hP
  have hx := Bd.exec
  have hj := Bd.bytes
  have hml : cC.maxLocals = 2 := hml0
  have hown : sS.vm.findClass "com/example/tessera/tessera/sql/SqlTextPagedPinLaw" = some mM.cls := findClass_of_methodNamed Bd.named
  have X0 : Stand pP l eE r0_0_0_0 sS mM _ bS mS cC s₁ [] 0 0 := Stand.of_body Bd
  have e0 : s₁.heap = h0 := by rw [← hh, Bd.state]; rfl
  have N0 := Fr.nil n0
  obtain ⟨fs, hr, hrun, hended, hW, hsame⟩ := X0.leave (v := some (.int (3 : Int32))) (fun h => by rw [Bd.returns] at h; cases h)
  refine ⟨_, _, castTop (ef_dig3 mM m) ?_, hrun, hended, _, _, rfl, ?_, ⟨_, rfl⟩, hW, hsame.mono (by decide) (by decide)⟩
  · show SS pP eE bS s₁ (mkF mM 0 #[.val (.long (jN m)), .second] []) _
    refine XS.lloadN X0.here hx rfl (hb hj g3_0.1) rfl ?_
    refine X0.ldc2Long hx hown (mvT hZ (wi hw 191 rfl)) (g := (mkF mM 1 #[.val (.long (jN m)), .second] [(.long (jN m))])) rfl (hb hj g3_0.2.1) _ ?_
    refine XS.lcmp X0.here hx rfl (hb hj g3_0.2.2.1) rfl ?_
    refine XS.ifYes X0.here hx rfl (pc0 := 5) (pc' := 10) rfl (hb hj g3_0.2.2.2) rfl ((if0 _ _).trans (flt (own_jge (K := 10) (by omega) hm : ¬ ((lcmpW (jN m) (10 : Int64)) < (0 : Int32)))).2.1) (by decide) (by decide) ?_
    refine XS.lloadN X0.here hx rfl (hb hj g3_1.2.2.1) rfl ?_
    refine X0.ldc2Long hx hown (mvT hZ (wi hw 192 rfl)) (g := (mkF mM 11 #[.val (.long (jN m)), .second] [(.long (jN m))])) rfl (hb hj g3_1.2.2.2) _ ?_
    refine XS.lcmp X0.here hx rfl (hb hj g3_2.1) rfl ?_
    refine XS.ifYes X0.here hx rfl (pc0 := 15) (pc' := 20) rfl (hb hj g3_2.2.1) rfl ((if0 _ _).trans (flt (own_jge (K := 100) (by omega) hm : ¬ ((lcmpW (jN m) (100 : Int64)) < (0 : Int32)))).2.1) (by decide) (by decide) ?_
    refine XS.lloadN X0.here hx rfl (hb hj g3_3.1) rfl ?_
    refine X0.ldc2Long hx hown (mvT hZ (wi hw 193 rfl)) (g := (mkF mM 21 #[.val (.long (jN m)), .second] [(.long (jN m))])) rfl (hb hj g3_3.2.1) _ ?_
    refine XS.lcmp X0.here hx rfl (hb hj g3_3.2.2.1) rfl ?_
    refine XS.ifNo X0.here hx rfl (hb hj g3_3.2.2.2) rfl ((if0 _ _).trans (tlt (own_jlt (K := 1000) (by omega) hm (by omega) : (lcmpW (jN m) (1000 : Int64)) < (0 : Int32))).2.1) ?_
    refine XS.iconst X0.here hx rfl (hb hj g3_4.1) ?_
    exact retI X0 hx Bd.returns (hb hj g3_4.2.1) hr
  · show Q_dig Z m h0 n0 _ s₁.heap _
    rw [e0]
    exact ⟨(congrArg (fun k => some (Value.int (iN k))) hnd).symm, N0, rfl⟩
theorem ef_dig4 (mM : MethodId) (m : Nat) : entryFrame mM #[(.long (jN m))] 2 = mkF mM 0 #[.val (.long (jN m)), .second] [] := by
  first | (simp [entryFrame, mkF, argsToLocals, Value.category]; done) | rfl
theorem rm_dig4 (hw : HW a0 Z) (ws : List Jvm.Cond) (m : Nat) (h0 : Heap) (n0 : Nat) (Z0 : n0 ≤ h0.size) (hm : m < 10000000000) (hnd : nd m = 4) (hlo : 1000 ≤ m) (hhi : m < 10000) :
    MF l y29_ method_3_code 2 (some .int) ws r0_0_0_0 #[(.long (jN m))] Z h0 (Q_dig Z m h0 n0) := by
  refine MetFree.of_bodySF (plainFor_of_name pn_com_example_tessera_tessera_sql_SqlTextPagedPinLaw) hisR ?_
  intro pP eE sS mM aS bS mS cC s₁ Bd hml0 hP hK
  obtain ⟨rfl, hZ, hh⟩ := hP
  have hx := Bd.exec
  have hj := Bd.bytes
  have hml : cC.maxLocals = 2 := hml0
  have hown : sS.vm.findClass "com/example/tessera/tessera/sql/SqlTextPagedPinLaw" = some mM.cls := findClass_of_methodNamed Bd.named
  have X0 : Stand pP l eE r0_0_0_0 sS mM _ bS mS cC s₁ [] 0 0 := Stand.of_body Bd
  have e0 : s₁.heap = h0 := by rw [← hh, Bd.state]; rfl
  have N0 := Fr.nil n0
  obtain ⟨fs, hr, hrun, hended, hW, hsame⟩ := X0.leave (v := some (.int (4 : Int32))) (fun h => by rw [Bd.returns] at h; cases h)
  refine ⟨_, _, castTop (ef_dig4 mM m) ?_, hrun, hended, _, _, rfl, ?_, ⟨_, rfl⟩, hW, hsame.mono (by decide) (by decide)⟩
  · show SS pP eE bS s₁ (mkF mM 0 #[.val (.long (jN m)), .second] []) _
    refine XS.lloadN X0.here hx rfl (hb hj g3_0.1) rfl ?_
    refine X0.ldc2Long hx hown (mvT hZ (wi hw 191 rfl)) (g := (mkF mM 1 #[.val (.long (jN m)), .second] [(.long (jN m))])) rfl (hb hj g3_0.2.1) _ ?_
    refine XS.lcmp X0.here hx rfl (hb hj g3_0.2.2.1) rfl ?_
    refine XS.ifYes X0.here hx rfl (pc0 := 5) (pc' := 10) rfl (hb hj g3_0.2.2.2) rfl ((if0 _ _).trans (flt (own_jge (K := 10) (by omega) hm : ¬ ((lcmpW (jN m) (10 : Int64)) < (0 : Int32)))).2.1) (by decide) (by decide) ?_
    refine XS.lloadN X0.here hx rfl (hb hj g3_1.2.2.1) rfl ?_
    refine X0.ldc2Long hx hown (mvT hZ (wi hw 192 rfl)) (g := (mkF mM 11 #[.val (.long (jN m)), .second] [(.long (jN m))])) rfl (hb hj g3_1.2.2.2) _ ?_
    refine XS.lcmp X0.here hx rfl (hb hj g3_2.1) rfl ?_
    refine XS.ifYes X0.here hx rfl (pc0 := 15) (pc' := 20) rfl (hb hj g3_2.2.1) rfl ((if0 _ _).trans (flt (own_jge (K := 100) (by omega) hm : ¬ ((lcmpW (jN m) (100 : Int64)) < (0 : Int32)))).2.1) (by decide) (by decide) ?_
    refine XS.lloadN X0.here hx rfl (hb hj g3_3.1) rfl ?_
    refine X0.ldc2Long hx hown (mvT hZ (wi hw 193 rfl)) (g := (mkF mM 21 #[.val (.long (jN m)), .second] [(.long (jN m))])) rfl (hb hj g3_3.2.1) _ ?_
    refine XS.lcmp X0.here hx rfl (hb hj g3_3.2.2.1) rfl ?_
    refine XS.ifYes X0.here hx rfl (pc0 := 25) (pc' := 30) rfl (hb hj g3_3.2.2.2) rfl ((if0 _ _).trans (flt (own_jge (K := 1000) (by omega) hm : ¬ ((lcmpW (jN m) (1000 : Int64)) < (0 : Int32)))).2.1) (by decide) (by decide) ?_
    refine XS.lloadN X0.here hx rfl (hb hj g3_4.2.2.1) rfl ?_
    refine X0.ldc2Long hx hown (mvT hZ (wi hw 194 rfl)) (g := (mkF mM 31 #[.val (.long (jN m)), .second] [(.long (jN m))])) rfl (hb hj g3_4.2.2.2) _ ?_
    refine XS.lcmp X0.here hx rfl (hb hj g3_5.1) rfl ?_
    refine XS.ifNo X0.here hx rfl (hb hj g3_5.2.1) rfl ((if0 _ _).trans (tlt (own_jlt (K := 10000) (by omega) hm (by omega) : (lcmpW (jN m) (10000 : Int64)) < (0 : Int32))).2.1) ?_
    refine XS.iconst X0.here hx rfl (hb hj g3_5.2.2.1) ?_
    exact retI X0 hx Bd.returns (hb hj g3_5.2.2.2) hr
  · show Q_dig Z m h0 n0 _ s₁.heap _
    rw [e0]
    exact ⟨(congrArg (fun k => some (Value.int (iN k))) hnd).symm, N0, rfl⟩
theorem ef_dig5 (mM : MethodId) (m : Nat) : entryFrame mM #[(.long (jN m))] 2 = mkF mM 0 #[.val (.long (jN m)), .second] [] := by
  first | (simp [entryFrame, mkF, argsToLocals, Value.category]; done) | rfl
theorem rm_dig5 (hw : HW a0 Z) (ws : List Jvm.Cond) (m : Nat) (h0 : Heap) (n0 : Nat) (Z0 : n0 ≤ h0.size) (hm : m < 10000000000) (hnd : nd m = 5) (hlo : 10000 ≤ m) (hhi : m < 100000) :
    MF l y29_ method_3_code 2 (some .int) ws r0_0_0_0 #[(.long (jN m))] Z h0 (Q_dig Z m h0 n0) := by
  refine MetFree.of_bodySF (plainFor_of_name pn_com_example_tessera_tessera_sql_SqlTextPagedPinLaw) hisR ?_
  intro pP eE sS mM aS bS mS cC s₁ Bd hml0 hP hK
  obtain ⟨rfl, hZ, hh⟩ := hP
  have hx := Bd.exec
  have hj := Bd.bytes
  have hml : cC.maxLocals = 2 := hml0
  have hown : sS.vm.findClass "com/example/tessera/tessera/sql/SqlTextPagedPinLaw" = some mM.cls := findClass_of_methodNamed Bd.named
  have X0 : Stand pP l eE r0_0_0_0 sS mM _ bS mS cC s₁ [] 0 0 := Stand.of_body Bd
  have e0 : s₁.heap = h0 := by rw [← hh, Bd.state]; rfl
  have N0 := Fr.nil n0
  obtain ⟨fs, hr, hrun, hended, hW, hsame⟩ := X0.leave (v := some (.int (5 : Int32))) (fun h => by rw [Bd.returns] at h; cases h)
  refine ⟨_, _, castTop (ef_dig5 mM m) ?_, hrun, hended, _, _, rfl, ?_, ⟨_, rfl⟩, hW, hsame.mono (by decide) (by decide)⟩
  · show SS pP eE bS s₁ (mkF mM 0 #[.val (.long (jN m)), .second] []) _
    refine XS.lloadN X0.here hx rfl (hb hj g3_0.1) rfl ?_
    refine X0.ldc2Long hx hown (mvT hZ (wi hw 191 rfl)) (g := (mkF mM 1 #[.val (.long (jN m)), .second] [(.long (jN m))])) rfl (hb hj g3_0.2.1) _ ?_
    refine XS.lcmp X0.here hx rfl (hb hj g3_0.2.2.1) rfl ?_
    refine XS.ifYes X0.here hx rfl (pc0 := 5) (pc' := 10) rfl (hb hj g3_0.2.2.2) rfl ((if0 _ _).trans (flt (own_jge (K := 10) (by omega) hm : ¬ ((lcmpW (jN m) (10 : Int64)) < (0 : Int32)))).2.1) (by decide) (by decide) ?_
    refine XS.lloadN X0.here hx rfl (hb hj g3_1.2.2.1) rfl ?_
    refine X0.ldc2Long hx hown (mvT hZ (wi hw 192 rfl)) (g := (mkF mM 11 #[.val (.long (jN m)), .second] [(.long (jN m))])) rfl (hb hj g3_1.2.2.2) _ ?_
    refine XS.lcmp X0.here hx rfl (hb hj g3_2.1) rfl ?_
    refine XS.ifYes X0.here hx rfl (pc0 := 15) (pc' := 20) rfl (hb hj g3_2.2.1) rfl ((if0 _ _).trans (flt (own_jge (K := 100) (by omega) hm : ¬ ((lcmpW (jN m) (100 : Int64)) < (0 : Int32)))).2.1) (by decide) (by decide) ?_
    refine XS.lloadN X0.here hx rfl (hb hj g3_3.1) rfl ?_
    refine X0.ldc2Long hx hown (mvT hZ (wi hw 193 rfl)) (g := (mkF mM 21 #[.val (.long (jN m)), .second] [(.long (jN m))])) rfl (hb hj g3_3.2.1) _ ?_
    refine XS.lcmp X0.here hx rfl (hb hj g3_3.2.2.1) rfl ?_
    refine XS.ifYes X0.here hx rfl (pc0 := 25) (pc' := 30) rfl (hb hj g3_3.2.2.2) rfl ((if0 _ _).trans (flt (own_jge (K := 1000) (by omega) hm : ¬ ((lcmpW (jN m) (1000 : Int64)) < (0 : Int32)))).2.1) (by decide) (by decide) ?_
    refine XS.lloadN X0.here hx rfl (hb hj g3_4.2.2.1) rfl ?_
    refine X0.ldc2Long hx hown (mvT hZ (wi hw 194 rfl)) (g := (mkF mM 31 #[.val (.long (jN m)), .second] [(.long (jN m))])) rfl (hb hj g3_4.2.2.2) _ ?_
    refine XS.lcmp X0.here hx rfl (hb hj g3_5.1) rfl ?_
    refine XS.ifYes X0.here hx rfl (pc0 := 35) (pc' := 40) rfl (hb hj g3_5.2.1) rfl ((if0 _ _).trans (flt (own_jge (K := 10000) (by omega) hm : ¬ ((lcmpW (jN m) (10000 : Int64)) < (0 : Int32)))).2.1) (by decide) (by decide) ?_
    refine XS.lloadN X0.here hx rfl (hb hj g3_6.1) rfl ?_
    refine X0.ldc2Long hx hown (mvT hZ (wi hw 195 rfl)) (g := (mkF mM 41 #[.val (.long (jN m)), .second] [(.long (jN m))])) rfl (hb hj g3_6.2.1) _ ?_
    refine XS.lcmp X0.here hx rfl (hb hj g3_6.2.2.1) rfl ?_
    refine XS.ifNo X0.here hx rfl (hb hj g3_6.2.2.2) rfl ((if0 _ _).trans (tlt (own_jlt (K := 100000) (by omega) hm (by omega) : (lcmpW (jN m) (100000 : Int64)) < (0 : Int32))).2.1) ?_
    refine XS.iconst X0.here hx rfl (hb hj g3_7.1) ?_
    exact retI X0 hx Bd.returns (hb hj g3_7.2.1) hr
  · show Q_dig Z m h0 n0 _ s₁.heap _
    rw [e0]
    exact ⟨(congrArg (fun k => some (Value.int (iN k))) hnd).symm, N0, rfl⟩
theorem ef_dig6 (mM : MethodId) (m : Nat) : entryFrame mM #[(.long (jN m))] 2 = mkF mM 0 #[.val (.long (jN m)), .second] [] := by
  first | (simp [entryFrame, mkF, argsToLocals, Value.category]; done) | rfl
theorem rm_dig6 (hw : HW a0 Z) (ws : List Jvm.Cond) (m : Nat) (h0 : Heap) (n0 : Nat) (Z0 : n0 ≤ h0.size) (hm : m < 10000000000) (hnd : nd m = 6) (hlo : 100000 ≤ m) (hhi : m < 1000000) :
    MF l y29_ method_3_code 2 (some .int) ws r0_0_0_0 #[(.long (jN m))] Z h0 (Q_dig Z m h0 n0) := by
  refine MetFree.of_bodySF (plainFor_of_name pn_com_example_tessera_tessera_sql_SqlTextPagedPinLaw) hisR ?_
  intro pP eE sS mM aS bS mS cC s₁ Bd hml0 hP hK
  obtain ⟨rfl, hZ, hh⟩ := hP
  have hx := Bd.exec
  have hj := Bd.bytes
  have hml : cC.maxLocals = 2 := hml0
  have hown : sS.vm.findClass "com/example/tessera/tessera/sql/SqlTextPagedPinLaw" = some mM.cls := findClass_of_methodNamed Bd.named
  have X0 : Stand pP l eE r0_0_0_0 sS mM _ bS mS cC s₁ [] 0 0 := Stand.of_body Bd
  have e0 : s₁.heap = h0 := by rw [← hh, Bd.state]; rfl
  have N0 := Fr.nil n0
  obtain ⟨fs, hr, hrun, hended, hW, hsame⟩ := X0.leave (v := some (.int (6 : Int32))) (fun h => by rw [Bd.returns] at h; cases h)
  refine ⟨_, _, castTop (ef_dig6 mM m) ?_, hrun, hended, _, _, rfl, ?_, ⟨_, rfl⟩, hW, hsame.mono (by decide) (by decide)⟩
  · show SS pP eE bS s₁ (mkF mM 0 #[.val (.long (jN m)), .second] []) _
    refine XS.lloadN X0.here hx rfl (hb hj g3_0.1) rfl ?_
    refine X0.ldc2Long hx hown (mvT hZ (wi hw 191 rfl)) (g := (mkF mM 1 #[.val (.long (jN m)), .second] [(.long (jN m))])) rfl (hb hj g3_0.2.1) _ ?_
    refine XS.lcmp X0.here hx rfl (hb hj g3_0.2.2.1) rfl ?_
    refine XS.ifYes X0.here hx rfl (pc0 := 5) (pc' := 10) rfl (hb hj g3_0.2.2.2) rfl ((if0 _ _).trans (flt (own_jge (K := 10) (by omega) hm : ¬ ((lcmpW (jN m) (10 : Int64)) < (0 : Int32)))).2.1) (by decide) (by decide) ?_
    refine XS.lloadN X0.here hx rfl (hb hj g3_1.2.2.1) rfl ?_
    refine X0.ldc2Long hx hown (mvT hZ (wi hw 192 rfl)) (g := (mkF mM 11 #[.val (.long (jN m)), .second] [(.long (jN m))])) rfl (hb hj g3_1.2.2.2) _ ?_
    refine XS.lcmp X0.here hx rfl (hb hj g3_2.1) rfl ?_
    refine XS.ifYes X0.here hx rfl (pc0 := 15) (pc' := 20) rfl (hb hj g3_2.2.1) rfl ((if0 _ _).trans (flt (own_jge (K := 100) (by omega) hm : ¬ ((lcmpW (jN m) (100 : Int64)) < (0 : Int32)))).2.1) (by decide) (by decide) ?_
    refine XS.lloadN X0.here hx rfl (hb hj g3_3.1) rfl ?_
    refine X0.ldc2Long hx hown (mvT hZ (wi hw 193 rfl)) (g := (mkF mM 21 #[.val (.long (jN m)), .second] [(.long (jN m))])) rfl (hb hj g3_3.2.1) _ ?_
    refine XS.lcmp X0.here hx rfl (hb hj g3_3.2.2.1) rfl ?_
    refine XS.ifYes X0.here hx rfl (pc0 := 25) (pc' := 30) rfl (hb hj g3_3.2.2.2) rfl ((if0 _ _).trans (flt (own_jge (K := 1000) (by omega) hm : ¬ ((lcmpW (jN m) (1000 : Int64)) < (0 : Int32)))).2.1) (by decide) (by decide) ?_
    refine XS.lloadN X0.here hx rfl (hb hj g3_4.2.2.1) rfl ?_
    refine X0.ldc2Long hx hown (mvT hZ (wi hw 194 rfl)) (g := (mkF mM 31 #[.val (.long (jN m)), .second] [(.long (jN m))])) rfl (hb hj g3_4.2.2.2) _ ?_
    refine XS.lcmp X0.here hx rfl (hb hj g3_5.1) rfl ?_
    refine XS.ifYes X0.here hx rfl (pc0 := 35) (pc' := 40) rfl (hb hj g3_5.2.1) rfl ((if0 _ _).trans (flt (own_jge (K := 10000) (by omega) hm : ¬ ((lcmpW (jN m) (10000 : Int64)) < (0 : Int32)))).2.1) (by decide) (by decide) ?_
    refine XS.lloadN X0.here hx rfl (hb hj g3_6.1) rfl ?_
    refine X0.ldc2Long hx hown (mvT hZ (wi hw 195 rfl)) (g := (mkF mM 41 #[.val (.long (jN m)), .second] [(.long (jN m))])) rfl (hb hj g3_6.2.1) _ ?_
    refine XS.lcmp X0.here hx rfl (hb hj g3_6.2.2.1) rfl ?_
    refine XS.ifYes X0.here hx rfl (pc0 := 45) (pc' := 50) rfl (hb hj g3_6.2.2.2) rfl ((if0 _ _).trans (flt (own_jge (K := 100000) (by omega) hm : ¬ ((lcmpW (jN m) (100000 : Int64)) < (0 : Int32)))).2.1) (by decide) (by decide) ?_
    refine XS.lloadN X0.here hx rfl (hb hj g3_7.2.2.1) rfl ?_
    refine X0.ldc2Long hx hown (mvT hZ (wi hw 196 rfl)) (g := (mkF mM 51 #[.val (.long (jN m)), .second] [(.long (jN m))])) rfl (hb hj g3_7.2.2.2) _ ?_
    refine XS.lcmp X0.here hx rfl (hb hj g3_8.1) rfl ?_
    refine XS.ifNo X0.here hx rfl (hb hj g3_8.2.1) rfl ((if0 _ _).trans (tlt (own_jlt (K := 1000000) (by omega) hm (by omega) : (lcmpW (jN m) (1000000 : Int64)) < (0 : Int32))).2.1) ?_
    refine XS.bipush X0.here hx rfl (hb hj g3_8.2.2.1) ?_
    exact retI X0 hx Bd.returns (hb hj g3_8.2.2.2) hr
  · show Q_dig Z m h0 n0 _ s₁.heap _
    rw [e0]
    exact ⟨(congrArg (fun k => some (Value.int (iN k))) hnd).symm, N0, rfl⟩
theorem ef_dig7 (mM : MethodId) (m : Nat) : entryFrame mM #[(.long (jN m))] 2 = mkF mM 0 #[.val (.long (jN m)), .second] [] := by
  first | (simp [entryFrame, mkF, argsToLocals, Value.category]; done) | rfl
theorem rm_dig7 (hw : HW a0 Z) (ws : List Jvm.Cond) (m : Nat) (h0 : Heap) (n0 : Nat) (Z0 : n0 ≤ h0.size) (hm : m < 10000000000) (hnd : nd m = 7) (hlo : 1000000 ≤ m) (hhi : m < 10000000) :
    MF l y29_ method_3_code 2 (some .int) ws r0_0_0_0 #[(.long (jN m))] Z h0 (Q_dig Z m h0 n0) := by
  refine MetFree.of_bodySF (plainFor_of_name pn_com_example_tessera_tessera_sql_SqlTextPagedPinLaw) hisR ?_
  intro pP eE sS mM aS bS mS cC s₁ Bd hml0 hP hK
  obtain ⟨rfl, hZ, hh⟩ := hP
  have hx := Bd.exec
  have hj := Bd.bytes
  have hml : cC.maxLocals = 2 := hml0
  have hown : sS.vm.findClass "com/example/tessera/tessera/sql/SqlTextPagedPinLaw" = some mM.cls := findClass_of_methodNamed Bd.named
  have X0 : Stand pP l eE r0_0_0_0 sS mM _ bS mS cC s₁ [] 0 0 := Stand.of_body Bd
  have e0 : s₁.heap = h0 := by rw [← hh, Bd.state]; rfl
  have N0 := Fr.nil n0
  obtain ⟨fs, hr, hrun, hended, hW, hsame⟩ := X0.leave (v := some (.int (7 : Int32))) (fun h => by rw [Bd.returns] at h; cases h)
  refine ⟨_, _, castTop (ef_dig7 mM m) ?_, hrun, hended, _, _, rfl, ?_, ⟨_, rfl⟩, hW, hsame.mono (by decide) (by decide)⟩
  · show SS pP eE bS s₁ (mkF mM 0 #[.val (.long (jN m)), .second] []) _
    refine XS.lloadN X0.here hx rfl (hb hj g3_0.1) rfl ?_
    refine X0.ldc2Long hx hown (mvT hZ (wi hw 191 rfl)) (g := (mkF mM 1 #[.val (.long (jN m)), .second] [(.long (jN m))])) rfl (hb hj g3_0.2.1) _ ?_
    refine XS.lcmp X0.here hx rfl (hb hj g3_0.2.2.1) rfl ?_
    refine XS.ifYes X0.here hx rfl (pc0 := 5) (pc' := 10) rfl (hb hj g3_0.2.2.2) rfl ((if0 _ _).trans (flt (own_jge (K := 10) (by omega) hm : ¬ ((lcmpW (jN m) (10 : Int64)) < (0 : Int32)))).2.1) (by decide) (by decide) ?_
    refine XS.lloadN X0.here hx rfl (hb hj g3_1.2.2.1) rfl ?_
    refine X0.ldc2Long hx hown (mvT hZ (wi hw 192 rfl)) (g := (mkF mM 11 #[.val (.long (jN m)), .second] [(.long (jN m))])) rfl (hb hj g3_1.2.2.2) _ ?_
    refine XS.lcmp X0.here hx rfl (hb hj g3_2.1) rfl ?_
    refine XS.ifYes X0.here hx rfl (pc0 := 15) (pc' := 20) rfl (hb hj g3_2.2.1) rfl ((if0 _ _).trans (flt (own_jge (K := 100) (by omega) hm : ¬ ((lcmpW (jN m) (100 : Int64)) < (0 : Int32)))).2.1) (by decide) (by decide) ?_
    refine XS.lloadN X0.here hx rfl (hb hj g3_3.1) rfl ?_
    refine X0.ldc2Long hx hown (mvT hZ (wi hw 193 rfl)) (g := (mkF mM 21 #[.val (.long (jN m)), .second] [(.long (jN m))])) rfl (hb hj g3_3.2.1) _ ?_
    refine XS.lcmp X0.here hx rfl (hb hj g3_3.2.2.1) rfl ?_
    refine XS.ifYes X0.here hx rfl (pc0 := 25) (pc' := 30) rfl (hb hj g3_3.2.2.2) rfl ((if0 _ _).trans (flt (own_jge (K := 1000) (by omega) hm : ¬ ((lcmpW (jN m) (1000 : Int64)) < (0 : Int32)))).2.1) (by decide) (by decide) ?_
    refine XS.lloadN X0.here hx rfl (hb hj g3_4.2.2.1) rfl ?_
    refine X0.ldc2Long hx hown (mvT hZ (wi hw 194 rfl)) (g := (mkF mM 31 #[.val (.long (jN m)), .second] [(.long (jN m))])) rfl (hb hj g3_4.2.2.2) _ ?_
    refine XS.lcmp X0.here hx rfl (hb hj g3_5.1) rfl ?_
    refine XS.ifYes X0.here hx rfl (pc0 := 35) (pc' := 40) rfl (hb hj g3_5.2.1) rfl ((if0 _ _).trans (flt (own_jge (K := 10000) (by omega) hm : ¬ ((lcmpW (jN m) (10000 : Int64)) < (0 : Int32)))).2.1) (by decide) (by decide) ?_
    refine XS.lloadN X0.here hx rfl (hb hj g3_6.1) rfl ?_
    refine X0.ldc2Long hx hown (mvT hZ (wi hw 195 rfl)) (g := (mkF mM 41 #[.val (.long (jN m)), .second] [(.long (jN m))])) rfl (hb hj g3_6.2.1) _ ?_
    refine XS.lcmp X0.here hx rfl (hb hj g3_6.2.2.1) rfl ?_
    refine XS.ifYes X0.here hx rfl (pc0 := 45) (pc' := 50) rfl (hb hj g3_6.2.2.2) rfl ((if0 _ _).trans (flt (own_jge (K := 100000) (by omega) hm : ¬ ((lcmpW (jN m) (100000 : Int64)) < (0 : Int32)))).2.1) (by decide) (by decide) ?_
    refine XS.lloadN X0.here hx rfl (hb hj g3_7.2.2.1) rfl ?_
    refine X0.ldc2Long hx hown (mvT hZ (wi hw 196 rfl)) (g := (mkF mM 51 #[.val (.long (jN m)), .second] [(.long (jN m))])) rfl (hb hj g3_7.2.2.2) _ ?_
    refine XS.lcmp X0.here hx rfl (hb hj g3_8.1) rfl ?_
    refine XS.ifYes X0.here hx rfl (pc0 := 55) (pc' := 61) rfl (hb hj g3_8.2.1) rfl ((if0 _ _).trans (flt (own_jge (K := 1000000) (by omega) hm : ¬ ((lcmpW (jN m) (1000000 : Int64)) < (0 : Int32)))).2.1) (by decide) (by decide) ?_
    refine XS.lloadN X0.here hx rfl (hb hj g3_9.1) rfl ?_
    refine X0.ldc2Long hx hown (mvT hZ (wi hw 197 rfl)) (g := (mkF mM 62 #[.val (.long (jN m)), .second] [(.long (jN m))])) rfl (hb hj g3_9.2.1) _ ?_
    refine XS.lcmp X0.here hx rfl (hb hj g3_9.2.2.1) rfl ?_
    refine XS.ifNo X0.here hx rfl (hb hj g3_9.2.2.2) rfl ((if0 _ _).trans (tlt (own_jlt (K := 10000000) (by omega) hm (by omega) : (lcmpW (jN m) (10000000 : Int64)) < (0 : Int32))).2.1) ?_
    refine XS.bipush X0.here hx rfl (hb hj g3_10.1) ?_
    exact retI X0 hx Bd.returns (hb hj g3_10.2.1) hr
  · show Q_dig Z m h0 n0 _ s₁.heap _
    rw [e0]
    exact ⟨(congrArg (fun k => some (Value.int (iN k))) hnd).symm, N0, rfl⟩
theorem ef_dig8 (mM : MethodId) (m : Nat) : entryFrame mM #[(.long (jN m))] 2 = mkF mM 0 #[.val (.long (jN m)), .second] [] := by
  first | (simp [entryFrame, mkF, argsToLocals, Value.category]; done) | rfl
theorem rm_dig8 (hw : HW a0 Z) (ws : List Jvm.Cond) (m : Nat) (h0 : Heap) (n0 : Nat) (Z0 : n0 ≤ h0.size) (hm : m < 10000000000) (hnd : nd m = 8) (hlo : 10000000 ≤ m) (hhi : m < 100000000) :
    MF l y29_ method_3_code 2 (some .int) ws r0_0_0_0 #[(.long (jN m))] Z h0 (Q_dig Z m h0 n0) := by
  refine MetFree.of_bodySF (plainFor_of_name pn_com_example_tessera_tessera_sql_SqlTextPagedPinLaw) hisR ?_
  intro pP eE sS mM aS bS mS cC s₁ Bd hml0 hP hK
  obtain ⟨rfl, hZ, hh⟩ := hP
  have hx := Bd.exec
  have hj := Bd.bytes
  have hml : cC.maxLocals = 2 := hml0
  have hown : sS.vm.findClass "com/example/tessera/tessera/sql/SqlTextPagedPinLaw" = some mM.cls := findClass_of_methodNamed Bd.named
  have X0 : Stand pP l eE r0_0_0_0 sS mM _ bS mS cC s₁ [] 0 0 := Stand.of_body Bd
  have e0 : s₁.heap = h0 := by rw [← hh, Bd.state]; rfl
  have N0 := Fr.nil n0
  obtain ⟨fs, hr, hrun, hended, hW, hsame⟩ := X0.leave (v := some (.int (8 : Int32))) (fun h => by rw [Bd.returns] at h; cases h)
  refine ⟨_, _, castTop (ef_dig8 mM m) ?_, hrun, hended, _, _, rfl, ?_, ⟨_, rfl⟩, hW, hsame.mono (by decide) (by decide)⟩
  · show SS pP eE bS s₁ (mkF mM 0 #[.val (.long (jN m)), .second] []) _
    refine XS.lloadN X0.here hx rfl (hb hj g3_0.1) rfl ?_
    refine X0.ldc2Long hx hown (mvT hZ (wi hw 191 rfl)) (g := (mkF mM 1 #[.val (.long (jN m)), .second] [(.long (jN m))])) rfl (hb hj g3_0.2.1) _ ?_
    refine XS.lcmp X0.here hx rfl (hb hj g3_0.2.2.1) rfl ?_
    refine XS.ifYes X0.here hx rfl (pc0 := 5) (pc' := 10) rfl (hb hj g3_0.2.2.2) rfl ((if0 _ _).trans (flt (own_jge (K := 10) (by omega) hm : ¬ ((lcmpW (jN m) (10 : Int64)) < (0 : Int32)))).2.1) (by decide) (by decide) ?_
    refine XS.lloadN X0.here hx rfl (hb hj g3_1.2.2.1) rfl ?_
    refine X0.ldc2Long hx hown (mvT hZ (wi hw 192 rfl)) (g := (mkF mM 11 #[.val (.long (jN m)), .second] [(.long (jN m))])) rfl (hb hj g3_1.2.2.2) _ ?_
    refine XS.lcmp X0.here hx rfl (hb hj g3_2.1) rfl ?_
    refine XS.ifYes X0.here hx rfl (pc0 := 15) (pc' := 20) rfl (hb hj g3_2.2.1) rfl ((if0 _ _).trans (flt (own_jge (K := 100) (by omega) hm : ¬ ((lcmpW (jN m) (100 : Int64)) < (0 : Int32)))).2.1) (by decide) (by decide) ?_
    refine XS.lloadN X0.here hx rfl (hb hj g3_3.1) rfl ?_
    refine X0.ldc2Long hx hown (mvT hZ (wi hw 193 rfl)) (g := (mkF mM 21 #[.val (.long (jN m)), .second] [(.long (jN m))])) rfl (hb hj g3_3.2.1) _ ?_
    refine XS.lcmp X0.here hx rfl (hb hj g3_3.2.2.1) rfl ?_
    refine XS.ifYes X0.here hx rfl (pc0 := 25) (pc' := 30) rfl (hb hj g3_3.2.2.2) rfl ((if0 _ _).trans (flt (own_jge (K := 1000) (by omega) hm : ¬ ((lcmpW (jN m) (1000 : Int64)) < (0 : Int32)))).2.1) (by decide) (by decide) ?_
    refine XS.lloadN X0.here hx rfl (hb hj g3_4.2.2.1) rfl ?_
    refine X0.ldc2Long hx hown (mvT hZ (wi hw 194 rfl)) (g := (mkF mM 31 #[.val (.long (jN m)), .second] [(.long (jN m))])) rfl (hb hj g3_4.2.2.2) _ ?_
    refine XS.lcmp X0.here hx rfl (hb hj g3_5.1) rfl ?_
    refine XS.ifYes X0.here hx rfl (pc0 := 35) (pc' := 40) rfl (hb hj g3_5.2.1) rfl ((if0 _ _).trans (flt (own_jge (K := 10000) (by omega) hm : ¬ ((lcmpW (jN m) (10000 : Int64)) < (0 : Int32)))).2.1) (by decide) (by decide) ?_
    refine XS.lloadN X0.here hx rfl (hb hj g3_6.1) rfl ?_
    refine X0.ldc2Long hx hown (mvT hZ (wi hw 195 rfl)) (g := (mkF mM 41 #[.val (.long (jN m)), .second] [(.long (jN m))])) rfl (hb hj g3_6.2.1) _ ?_
    refine XS.lcmp X0.here hx rfl (hb hj g3_6.2.2.1) rfl ?_
    refine XS.ifYes X0.here hx rfl (pc0 := 45) (pc' := 50) rfl (hb hj g3_6.2.2.2) rfl ((if0 _ _).trans (flt (own_jge (K := 100000) (by omega) hm : ¬ ((lcmpW (jN m) (100000 : Int64)) < (0 : Int32)))).2.1) (by decide) (by decide) ?_
    refine XS.lloadN X0.here hx rfl (hb hj g3_7.2.2.1) rfl ?_
    refine X0.ldc2Long hx hown (mvT hZ (wi hw 196 rfl)) (g := (mkF mM 51 #[.val (.long (jN m)), .second] [(.long (jN m))])) rfl (hb hj g3_7.2.2.2) _ ?_
    refine XS.lcmp X0.here hx rfl (hb hj g3_8.1) rfl ?_
    refine XS.ifYes X0.here hx rfl (pc0 := 55) (pc' := 61) rfl (hb hj g3_8.2.1) rfl ((if0 _ _).trans (flt (own_jge (K := 1000000) (by omega) hm : ¬ ((lcmpW (jN m) (1000000 : Int64)) < (0 : Int32)))).2.1) (by decide) (by decide) ?_
    refine XS.lloadN X0.here hx rfl (hb hj g3_9.1) rfl ?_
    refine X0.ldc2Long hx hown (mvT hZ (wi hw 197 rfl)) (g := (mkF mM 62 #[.val (.long (jN m)), .second] [(.long (jN m))])) rfl (hb hj g3_9.2.1) _ ?_
    refine XS.lcmp X0.here hx rfl (hb hj g3_9.2.2.1) rfl ?_
    refine XS.ifYes X0.here hx rfl (pc0 := 66) (pc' := 72) rfl (hb hj g3_9.2.2.2) rfl ((if0 _ _).trans (flt (own_jge (K := 10000000) (by omega) hm : ¬ ((lcmpW (jN m) (10000000 : Int64)) < (0 : Int32)))).2.1) (by decide) (by decide) ?_
    refine XS.lloadN X0.here hx rfl (hb hj g3_10.2.2.1) rfl ?_
    refine X0.ldc2Long hx hown (mvT hZ (wi hw 198 rfl)) (g := (mkF mM 73 #[.val (.long (jN m)), .second] [(.long (jN m))])) rfl (hb hj g3_10.2.2.2) _ ?_
    refine XS.lcmp X0.here hx rfl (hb hj g3_11.1) rfl ?_
    refine XS.ifNo X0.here hx rfl (hb hj g3_11.2.1) rfl ((if0 _ _).trans (tlt (own_jlt (K := 100000000) (by omega) hm (by omega) : (lcmpW (jN m) (100000000 : Int64)) < (0 : Int32))).2.1) ?_
    refine XS.bipush X0.here hx rfl (hb hj g3_11.2.2.1) ?_
    exact retI X0 hx Bd.returns (hb hj g3_11.2.2.2) hr
  · show Q_dig Z m h0 n0 _ s₁.heap _
    rw [e0]
    exact ⟨(congrArg (fun k => some (Value.int (iN k))) hnd).symm, N0, rfl⟩
theorem ef_dig9 (mM : MethodId) (m : Nat) : entryFrame mM #[(.long (jN m))] 2 = mkF mM 0 #[.val (.long (jN m)), .second] [] := by
  first | (simp [entryFrame, mkF, argsToLocals, Value.category]; done) | rfl
theorem rm_dig9 (hw : HW a0 Z) (ws : List Jvm.Cond) (m : Nat) (h0 : Heap) (n0 : Nat) (Z0 : n0 ≤ h0.size) (hm : m < 10000000000) (hnd : nd m = 9) (hlo : 100000000 ≤ m) (hhi : m < 1000000000) :
    MF l y29_ method_3_code 2 (some .int) ws r0_0_0_0 #[(.long (jN m))] Z h0 (Q_dig Z m h0 n0) := by
  refine MetFree.of_bodySF (plainFor_of_name pn_com_example_tessera_tessera_sql_SqlTextPagedPinLaw) hisR ?_
  intro pP eE sS mM aS bS mS cC s₁ Bd hml0 hP hK
  obtain ⟨rfl, hZ, hh⟩ := hP
  have hx := Bd.exec
  have hj := Bd.bytes
  have hml : cC.maxLocals = 2 := hml0
  have hown : sS.vm.findClass "com/example/tessera/tessera/sql/SqlTextPagedPinLaw" = some mM.cls := findClass_of_methodNamed Bd.named
  have X0 : Stand pP l eE r0_0_0_0 sS mM _ bS mS cC s₁ [] 0 0 := Stand.of_body Bd
  have e0 : s₁.heap = h0 := by rw [← hh, Bd.state]; rfl
  have N0 := Fr.nil n0
  obtain ⟨fs, hr, hrun, hended, hW, hsame⟩ := X0.leave (v := some (.int (9 : Int32))) (fun h => by rw [Bd.returns] at h; cases h)
  refine ⟨_, _, castTop (ef_dig9 mM m) ?_, hrun, hended, _, _, rfl, ?_, ⟨_, rfl⟩, hW, hsame.mono (by decide) (by decide)⟩
  · show SS pP eE bS s₁ (mkF mM 0 #[.val (.long (jN m)), .second] []) _
    refine XS.lloadN X0.here hx rfl (hb hj g3_0.1) rfl ?_
    refine X0.ldc2Long hx hown (mvT hZ (wi hw 191 rfl)) (g := (mkF mM 1 #[.val (.long (jN m)), .second] [(.long (jN m))])) rfl (hb hj g3_0.2.1) _ ?_
    refine XS.lcmp X0.here hx rfl (hb hj g3_0.2.2.1) rfl ?_
    refine XS.ifYes X0.here hx rfl (pc0 := 5) (pc' := 10) rfl (hb hj g3_0.2.2.2) rfl ((if0 _ _).trans (flt (own_jge (K := 10) (by omega) hm : ¬ ((lcmpW (jN m) (10 : Int64)) < (0 : Int32)))).2.1) (by decide) (by decide) ?_
    refine XS.lloadN X0.here hx rfl (hb hj g3_1.2.2.1) rfl ?_
    refine X0.ldc2Long hx hown (mvT hZ (wi hw 192 rfl)) (g := (mkF mM 11 #[.val (.long (jN m)), .second] [(.long (jN m))])) rfl (hb hj g3_1.2.2.2) _ ?_
    refine XS.lcmp X0.here hx rfl (hb hj g3_2.1) rfl ?_
    refine XS.ifYes X0.here hx rfl (pc0 := 15) (pc' := 20) rfl (hb hj g3_2.2.1) rfl ((if0 _ _).trans (flt (own_jge (K := 100) (by omega) hm : ¬ ((lcmpW (jN m) (100 : Int64)) < (0 : Int32)))).2.1) (by decide) (by decide) ?_
    refine XS.lloadN X0.here hx rfl (hb hj g3_3.1) rfl ?_
    refine X0.ldc2Long hx hown (mvT hZ (wi hw 193 rfl)) (g := (mkF mM 21 #[.val (.long (jN m)), .second] [(.long (jN m))])) rfl (hb hj g3_3.2.1) _ ?_
    refine XS.lcmp X0.here hx rfl (hb hj g3_3.2.2.1) rfl ?_
    refine XS.ifYes X0.here hx rfl (pc0 := 25) (pc' := 30) rfl (hb hj g3_3.2.2.2) rfl ((if0 _ _).trans (flt (own_jge (K := 1000) (by omega) hm : ¬ ((lcmpW (jN m) (1000 : Int64)) < (0 : Int32)))).2.1) (by decide) (by decide) ?_
    refine XS.lloadN X0.here hx rfl (hb hj g3_4.2.2.1) rfl ?_
    refine X0.ldc2Long hx hown (mvT hZ (wi hw 194 rfl)) (g := (mkF mM 31 #[.val (.long (jN m)), .second] [(.long (jN m))])) rfl (hb hj g3_4.2.2.2) _ ?_
    refine XS.lcmp X0.here hx rfl (hb hj g3_5.1) rfl ?_
    refine XS.ifYes X0.here hx rfl (pc0 := 35) (pc' := 40) rfl (hb hj g3_5.2.1) rfl ((if0 _ _).trans (flt (own_jge (K := 10000) (by omega) hm : ¬ ((lcmpW (jN m) (10000 : Int64)) < (0 : Int32)))).2.1) (by decide) (by decide) ?_
    refine XS.lloadN X0.here hx rfl (hb hj g3_6.1) rfl ?_
    refine X0.ldc2Long hx hown (mvT hZ (wi hw 195 rfl)) (g := (mkF mM 41 #[.val (.long (jN m)), .second] [(.long (jN m))])) rfl (hb hj g3_6.2.1) _ ?_
    refine XS.lcmp X0.here hx rfl (hb hj g3_6.2.2.1) rfl ?_
    refine XS.ifYes X0.here hx rfl (pc0 := 45) (pc' := 50) rfl (hb hj g3_6.2.2.2) rfl ((if0 _ _).trans (flt (own_jge (K := 100000) (by omega) hm : ¬ ((lcmpW (jN m) (100000 : Int64)) < (0 : Int32)))).2.1) (by decide) (by decide) ?_
    refine XS.lloadN X0.here hx rfl (hb hj g3_7.2.2.1) rfl ?_
    refine X0.ldc2Long hx hown (mvT hZ (wi hw 196 rfl)) (g := (mkF mM 51 #[.val (.long (jN m)), .second] [(.long (jN m))])) rfl (hb hj g3_7.2.2.2) _ ?_
    refine XS.lcmp X0.here hx rfl (hb hj g3_8.1) rfl ?_
    refine XS.ifYes X0.here hx rfl (pc0 := 55) (pc' := 61) rfl (hb hj g3_8.2.1) rfl ((if0 _ _).trans (flt (own_jge (K := 1000000) (by omega) hm : ¬ ((lcmpW (jN m) (1000000 : Int64)) < (0 : Int32)))).2.1) (by decide) (by decide) ?_
    refine XS.lloadN X0.here hx rfl (hb hj g3_9.1) rfl ?_
    refine X0.ldc2Long hx hown (mvT hZ (wi hw 197 rfl)) (g := (mkF mM 62 #[.val (.long (jN m)), .second] [(.long (jN m))])) rfl (hb hj g3_9.2.1) _ ?_
    refine XS.lcmp X0.here hx rfl (hb hj g3_9.2.2.1) rfl ?_
    refine XS.ifYes X0.here hx rfl (pc0 := 66) (pc' := 72) rfl (hb hj g3_9.2.2.2) rfl ((if0 _ _).trans (flt (own_jge (K := 10000000) (by omega) hm : ¬ ((lcmpW (jN m) (10000000 : Int64)) < (0 : Int32)))).2.1) (by decide) (by decide) ?_
    refine XS.lloadN X0.here hx rfl (hb hj g3_10.2.2.1) rfl ?_
    refine X0.ldc2Long hx hown (mvT hZ (wi hw 198 rfl)) (g := (mkF mM 73 #[.val (.long (jN m)), .second] [(.long (jN m))])) rfl (hb hj g3_10.2.2.2) _ ?_
    refine XS.lcmp X0.here hx rfl (hb hj g3_11.1) rfl ?_
    refine XS.ifYes X0.here hx rfl (pc0 := 77) (pc' := 83) rfl (hb hj g3_11.2.1) rfl ((if0 _ _).trans (flt (own_jge (K := 100000000) (by omega) hm : ¬ ((lcmpW (jN m) (100000000 : Int64)) < (0 : Int32)))).2.1) (by decide) (by decide) ?_
    refine XS.lloadN X0.here hx rfl (hb hj g3_12.1) rfl ?_
    refine X0.ldc2Long hx hown (mvT hZ (wi hw 199 rfl)) (g := (mkF mM 84 #[.val (.long (jN m)), .second] [(.long (jN m))])) rfl (hb hj g3_12.2.1) _ ?_
    refine XS.lcmp X0.here hx rfl (hb hj g3_12.2.2.1) rfl ?_
    refine XS.ifNo X0.here hx rfl (hb hj g3_12.2.2.2) rfl ((if0 _ _).trans (tlt (own_jlt (K := 1000000000) (by omega) hm (by omega) : (lcmpW (jN m) (1000000000 : Int64)) < (0 : Int32))).2.1) ?_
    refine XS.bipush X0.here hx rfl (hb hj g3_13.1) ?_
    exact retI X0 hx Bd.returns (hb hj g3_13.2.1) hr
  · show Q_dig Z m h0 n0 _ s₁.heap _
    rw [e0]
    exact ⟨(congrArg (fun k => some (Value.int (iN k))) hnd).symm, N0, rfl⟩
theorem ef_dig10 (mM : MethodId) (m : Nat) : entryFrame mM #[(.long (jN m))] 2 = mkF mM 0 #[.val (.long (jN m)), .second] [] := by
  first | (simp [entryFrame, mkF, argsToLocals, Value.category]; done) | rfl
theorem rm_dig10 (hw : HW a0 Z) (ws : List Jvm.Cond) (m : Nat) (h0 : Heap) (n0 : Nat) (Z0 : n0 ≤ h0.size) (hm : m < 10000000000) (hnd : nd m = 10) (hlo : 1000000000 ≤ m) :
    MF l y29_ method_3_code 2 (some .int) ws r0_0_0_0 #[(.long (jN m))] Z h0 (Q_dig Z m h0 n0) := by
  refine MetFree.of_bodySF (plainFor_of_name pn_com_example_tessera_tessera_sql_SqlTextPagedPinLaw) hisR ?_
  intro pP eE sS mM aS bS mS cC s₁ Bd hml0 hP hK
  obtain ⟨rfl, hZ, hh⟩ := hP
  have hx := Bd.exec
  have hj := Bd.bytes
  have hml : cC.maxLocals = 2 := hml0
  have hown : sS.vm.findClass "com/example/tessera/tessera/sql/SqlTextPagedPinLaw" = some mM.cls := findClass_of_methodNamed Bd.named
  have X0 : Stand pP l eE r0_0_0_0 sS mM _ bS mS cC s₁ [] 0 0 := Stand.of_body Bd
  have e0 : s₁.heap = h0 := by rw [← hh, Bd.state]; rfl
  have N0 := Fr.nil n0
  obtain ⟨fs, hr, hrun, hended, hW, hsame⟩ := X0.leave (v := some (.int (10 : Int32))) (fun h => by rw [Bd.returns] at h; cases h)
  refine ⟨_, _, castTop (ef_dig10 mM m) ?_, hrun, hended, _, _, rfl, ?_, ⟨_, rfl⟩, hW, hsame.mono (by decide) (by decide)⟩
  · show SS pP eE bS s₁ (mkF mM 0 #[.val (.long (jN m)), .second] []) _
    refine XS.lloadN X0.here hx rfl (hb hj g3_0.1) rfl ?_
    refine X0.ldc2Long hx hown (mvT hZ (wi hw 191 rfl)) (g := (mkF mM 1 #[.val (.long (jN m)), .second] [(.long (jN m))])) rfl (hb hj g3_0.2.1) _ ?_
    refine XS.lcmp X0.here hx rfl (hb hj g3_0.2.2.1) rfl ?_
    refine XS.ifYes X0.here hx rfl (pc0 := 5) (pc' := 10) rfl (hb hj g3_0.2.2.2) rfl ((if0 _ _).trans (flt (own_jge (K := 10) (by omega) hm : ¬ ((lcmpW (jN m) (10 : Int64)) < (0 : Int32)))).2.1) (by decide) (by decide) ?_
    refine XS.lloadN X0.here hx rfl (hb hj g3_1.2.2.1) rfl ?_
    refine X0.ldc2Long hx hown (mvT hZ (wi hw 192 rfl)) (g := (mkF mM 11 #[.val (.long (jN m)), .second] [(.long (jN m))])) rfl (hb hj g3_1.2.2.2) _ ?_
    refine XS.lcmp X0.here hx rfl (hb hj g3_2.1) rfl ?_
    refine XS.ifYes X0.here hx rfl (pc0 := 15) (pc' := 20) rfl (hb hj g3_2.2.1) rfl ((if0 _ _).trans (flt (own_jge (K := 100) (by omega) hm : ¬ ((lcmpW (jN m) (100 : Int64)) < (0 : Int32)))).2.1) (by decide) (by decide) ?_
    refine XS.lloadN X0.here hx rfl (hb hj g3_3.1) rfl ?_
    refine X0.ldc2Long hx hown (mvT hZ (wi hw 193 rfl)) (g := (mkF mM 21 #[.val (.long (jN m)), .second] [(.long (jN m))])) rfl (hb hj g3_3.2.1) _ ?_
    refine XS.lcmp X0.here hx rfl (hb hj g3_3.2.2.1) rfl ?_
    refine XS.ifYes X0.here hx rfl (pc0 := 25) (pc' := 30) rfl (hb hj g3_3.2.2.2) rfl ((if0 _ _).trans (flt (own_jge (K := 1000) (by omega) hm : ¬ ((lcmpW (jN m) (1000 : Int64)) < (0 : Int32)))).2.1) (by decide) (by decide) ?_
    refine XS.lloadN X0.here hx rfl (hb hj g3_4.2.2.1) rfl ?_
    refine X0.ldc2Long hx hown (mvT hZ (wi hw 194 rfl)) (g := (mkF mM 31 #[.val (.long (jN m)), .second] [(.long (jN m))])) rfl (hb hj g3_4.2.2.2) _ ?_
    refine XS.lcmp X0.here hx rfl (hb hj g3_5.1) rfl ?_
    refine XS.ifYes X0.here hx rfl (pc0 := 35) (pc' := 40) rfl (hb hj g3_5.2.1) rfl ((if0 _ _).trans (flt (own_jge (K := 10000) (by omega) hm : ¬ ((lcmpW (jN m) (10000 : Int64)) < (0 : Int32)))).2.1) (by decide) (by decide) ?_
    refine XS.lloadN X0.here hx rfl (hb hj g3_6.1) rfl ?_
    refine X0.ldc2Long hx hown (mvT hZ (wi hw 195 rfl)) (g := (mkF mM 41 #[.val (.long (jN m)), .second] [(.long (jN m))])) rfl (hb hj g3_6.2.1) _ ?_
    refine XS.lcmp X0.here hx rfl (hb hj g3_6.2.2.1) rfl ?_
    refine XS.ifYes X0.here hx rfl (pc0 := 45) (pc' := 50) rfl (hb hj g3_6.2.2.2) rfl ((if0 _ _).trans (flt (own_jge (K := 100000) (by omega) hm : ¬ ((lcmpW (jN m) (100000 : Int64)) < (0 : Int32)))).2.1) (by decide) (by decide) ?_
    refine XS.lloadN X0.here hx rfl (hb hj g3_7.2.2.1) rfl ?_
    refine X0.ldc2Long hx hown (mvT hZ (wi hw 196 rfl)) (g := (mkF mM 51 #[.val (.long (jN m)), .second] [(.long (jN m))])) rfl (hb hj g3_7.2.2.2) _ ?_
    refine XS.lcmp X0.here hx rfl (hb hj g3_8.1) rfl ?_
    refine XS.ifYes X0.here hx rfl (pc0 := 55) (pc' := 61) rfl (hb hj g3_8.2.1) rfl ((if0 _ _).trans (flt (own_jge (K := 1000000) (by omega) hm : ¬ ((lcmpW (jN m) (1000000 : Int64)) < (0 : Int32)))).2.1) (by decide) (by decide) ?_
    refine XS.lloadN X0.here hx rfl (hb hj g3_9.1) rfl ?_
    refine X0.ldc2Long hx hown (mvT hZ (wi hw 197 rfl)) (g := (mkF mM 62 #[.val (.long (jN m)), .second] [(.long (jN m))])) rfl (hb hj g3_9.2.1) _ ?_
    refine XS.lcmp X0.here hx rfl (hb hj g3_9.2.2.1) rfl ?_
    refine XS.ifYes X0.here hx rfl (pc0 := 66) (pc' := 72) rfl (hb hj g3_9.2.2.2) rfl ((if0 _ _).trans (flt (own_jge (K := 10000000) (by omega) hm : ¬ ((lcmpW (jN m) (10000000 : Int64)) < (0 : Int32)))).2.1) (by decide) (by decide) ?_
    refine XS.lloadN X0.here hx rfl (hb hj g3_10.2.2.1) rfl ?_
    refine X0.ldc2Long hx hown (mvT hZ (wi hw 198 rfl)) (g := (mkF mM 73 #[.val (.long (jN m)), .second] [(.long (jN m))])) rfl (hb hj g3_10.2.2.2) _ ?_
    refine XS.lcmp X0.here hx rfl (hb hj g3_11.1) rfl ?_
    refine XS.ifYes X0.here hx rfl (pc0 := 77) (pc' := 83) rfl (hb hj g3_11.2.1) rfl ((if0 _ _).trans (flt (own_jge (K := 100000000) (by omega) hm : ¬ ((lcmpW (jN m) (100000000 : Int64)) < (0 : Int32)))).2.1) (by decide) (by decide) ?_
    refine XS.lloadN X0.here hx rfl (hb hj g3_12.1) rfl ?_
    refine X0.ldc2Long hx hown (mvT hZ (wi hw 199 rfl)) (g := (mkF mM 84 #[.val (.long (jN m)), .second] [(.long (jN m))])) rfl (hb hj g3_12.2.1) _ ?_
    refine XS.lcmp X0.here hx rfl (hb hj g3_12.2.2.1) rfl ?_
    refine XS.ifYes X0.here hx rfl (pc0 := 88) (pc' := 94) rfl (hb hj g3_12.2.2.2) rfl ((if0 _ _).trans (flt (own_jge (K := 1000000000) (by omega) hm : ¬ ((lcmpW (jN m) (1000000000 : Int64)) < (0 : Int32)))).2.1) (by decide) (by decide) ?_
    refine XS.bipush X0.here hx rfl (hb hj g3_13.2.2.1) ?_
    exact retI X0 hx Bd.returns (hb hj g3_13.2.2.2) hr
  · show Q_dig Z m h0 n0 _ s₁.heap _
    rw [e0]
    exact ⟨(congrArg (fun k => some (Value.int (iN k))) hnd).symm, N0, rfl⟩
theorem rm_dig (hw : HW a0 Z) (ws : List Jvm.Cond) (m : Nat) (h0 : Heap) (n0 : Nat) (Z0 : n0 ≤ h0.size) (hm : m < 10000000000) :
    MF l y29_ method_3_code 2 (some .int) ws r0_0_0_0 #[(.long (jN m))] Z h0 (Q_dig Z m h0 n0) := by
  by_cases h1 : m < 10
  · exact rm_dig1 l Z a0 hw ws m h0 n0 Z0 hm (by unfold nd; (repeat' split) <;> omega) (by omega)
  by_cases h2 : m < 100
  · exact rm_dig2 l Z a0 hw ws m h0 n0 Z0 hm (by unfold nd; (repeat' split) <;> omega) (by omega) (by omega)
  by_cases h3 : m < 1000
  · exact rm_dig3 l Z a0 hw ws m h0 n0 Z0 hm (by unfold nd; (repeat' split) <;> omega) (by omega) (by omega)
  by_cases h4 : m < 10000
  · exact rm_dig4 l Z a0 hw ws m h0 n0 Z0 hm (by unfold nd; (repeat' split) <;> omega) (by omega) (by omega)
  by_cases h5 : m < 100000
  · exact rm_dig5 l Z a0 hw ws m h0 n0 Z0 hm (by unfold nd; (repeat' split) <;> omega) (by omega) (by omega)
  by_cases h6 : m < 1000000
  · exact rm_dig6 l Z a0 hw ws m h0 n0 Z0 hm (by unfold nd; (repeat' split) <;> omega) (by omega) (by omega)
  by_cases h7 : m < 10000000
  · exact rm_dig7 l Z a0 hw ws m h0 n0 Z0 hm (by unfold nd; (repeat' split) <;> omega) (by omega) (by omega)
  by_cases h8 : m < 100000000
  · exact rm_dig8 l Z a0 hw ws m h0 n0 Z0 hm (by unfold nd; (repeat' split) <;> omega) (by omega) (by omega)
  by_cases h9 : m < 1000000000
  · exact rm_dig9 l Z a0 hw ws m h0 n0 Z0 hm (by unfold nd; (repeat' split) <;> omega) (by omega) (by omega)
  exact rm_dig10 l Z a0 hw ws m h0 n0 Z0 hm (by unfold nd; (repeat' split) <;> omega) (by omega)
def Q_wid (Z : State) (v : Int32) (h0 : Heap) (n0 : Nat) (xv : Option Value) (xh : Heap) (xL : List Loc) : Prop := xv = some (.int (iN (wd v))) ∧ Fr n0 xL ∧ xh = h0
abbrev c4 := method_4_code
theorem g4_0 : decode c4 0 = .ok (.iload_n 0, 1) ∧ decode c4 1 = .ok (.i2l, 1) ∧ decode c4 2 = .ok (.lstore_n 1, 1) ∧ decode c4 3 = .ok (.lload_n 1, 1) := by decide +kernel
theorem g4_1 : decode c4 4 = .ok (.lconst 0, 1) ∧ decode c4 5 = .ok (.lcmp, 1) ∧ decode c4 6 = .ok (.ifCond .ge 11, 3) ∧ decode c4 9 = .ok (.iconst 1, 1) := by decide +kernel
theorem g4_2 : decode c4 10 = .ok (.lload_n 1, 1) ∧ decode c4 11 = .ok (.lneg, 1) ∧ decode c4 12 = .ok (.invokestatic 75, 3) ∧ decode c4 15 = .ok (.iadd, 1) := by decide +kernel
theorem pd_29 : parseMethodDescriptor "(J)I" = some ⟨[.long], some .int⟩ := by decide +kernel
theorem cw_dig_S5075 (hw : HW a0 Z) (m : Nat) {RR : Room} (h0 : Heap) (n0 : Nat) (Z0 : n0 ≤ h0.size) (hx : pP.tables.exec = Jvm.exec) (hZ : Z.Warmed39 sS.vm) (hown : sS.vm.findClass "com/example/tessera/tessera/sql/SqlTextPagedPinLaw" = some mM.cls) (X0 : Stand pP l eE RR sS mM aS bS mS cC s₁ lc0 cl0 sl0) (e0 : s₁.heap = h0) (N0 : Fr n0 lc0) (hcl : cl0 + r0_0_0_0.cells ≤ RR.cells) (hsl : sl0 + r0_0_0_0.slots ≤ RR.slots) (hm : m < 10000000000) {g : JFrame} (hg : g.method = mM) (hsz : g.locals.size = cC.maxLocals) {rest : List Value} (hst : g.stack = [(.long (jN m))] ++ rest) (hd : decode cC.code g.pc = .ok (.invokestatic 75, 3)) {W : Nat} (hW : 2 * g.monitorRoom + (rest.map fun v => v.category).sum ≤ W) (hfr : r0_0_0_0.frames + 1 ≤ RR.frames) (hlo : W + (2 + 11) + r0_0_0_0.locals ≤ RR.locals) :
    ∃ T' L', Stand pP l eE RR sS mM aS bS mS cC T' L' (cl0 + r0_0_0_0.cells) (sl0 + r0_0_0_0.slots) ∧ T'.heap = h0 ∧ Fr n0 L' ∧ ∀ t', Steps pP.tables eE bS (T'.setTop { g with pc := g.pc + 3, stack := [(.int (iN (nd m)))] ++ rest }) t' → Steps pP.tables eE bS (s₁.setTop g) t' := by
  obtain ⟨_, _, ⟨T1, L1, k1, n1⟩, -, X1, ⟨Lc1, hQ1, l1, y1, z1⟩, st1⟩ := Jvm.LawKit.callS X0 hx (y := y29_) hown (mvT hZ (wi hw 188 rfl)) (mvT hZ (wi hw 189 rfl)) (mvT hZ (wi hw 186 rfl)) (mvT hZ (wi hw 190 rfl)) (by decide) (backOf (W := W) (rm_dig l Z a0 hw [] m h0 n0 Z0 hm) hZ (wi hw 190 rfl) (wi hw 186 rfl) hfr hlo) (g := g) hg hsz (argsL := [(.long (jN m))]) (rest := rest) (lenOf pd_29 rfl) hst hW hd (fun _ _ => ⟨rfl, e0, hcl, hsl⟩)
  dsimp only [Pt.U, Pt.locs, Pt.cells, Pt.slots] at X1 l1 y1 z1 st1 hQ1
  subst y1 z1
  obtain ⟨rfl, Nq, Kq⟩ := hQ1
  exact ⟨T1, L1, X1, Kq, by rw [l1]; exact Fr.app N0 Nq, fun t' hk => st1 t' hk⟩
theorem g4_3 : decode c4 16 = .ok (.ireturn, 1) ∧ decode c4 17 = .ok (.lload_n 1, 1) ∧ decode c4 18 = .ok (.invokestatic 75, 3) ∧ decode c4 21 = .ok (.ireturn, 1) := by decide +kernel
abbrev y30_ : MethodName := ⟨"com/example/tessera/tessera/sql/SqlTextPagedPinLaw", "width", "(I)I"⟩
theorem ef_wid_n (mM : MethodId) (v : Int32) : entryFrame mM #[(.int v)] 3 = mkF mM 0 #[.val (.int v), .unset, .unset] [] := by
  first | (simp [entryFrame, mkF, argsToLocals, Value.category]; done) | rfl
theorem rm_wid_n (hw : HW a0 Z) (ws : List Jvm.Cond) (v : Int32) (h0 : Heap) (n0 : Nat) (Z0 : n0 ≤ h0.size) (hv : v < (0 : Int32)) :
    MF l y30_ method_4_code 3 (some .int) ws r1_0_0_14 #[(.int v)] Z h0 (Q_wid Z v h0 n0) := by
  refine MetFree.of_bodySF (plainFor_of_name pn_com_example_tessera_tessera_sql_SqlTextPagedPinLaw) hisR ?_
  intro pP eE sS mM aS bS mS cC s₁ Bd hml0 hP hK
  obtain ⟨rfl, hZ, hh⟩ := hP
  have hx := Bd.exec
  have hj := Bd.bytes
  have hml : cC.maxLocals = 3 := hml0
  have hown : sS.vm.findClass "com/example/tessera/tessera/sql/SqlTextPagedPinLaw" = some mM.cls := findClass_of_methodNamed Bd.named
  have X0 : Stand pP l eE r1_0_0_14 sS mM _ bS mS cC s₁ [] 0 0 := Stand.of_body Bd
  have e0 : s₁.heap = h0 := by rw [← hh, Bd.state]; rfl
  have N0 := Fr.nil n0
  obtain ⟨T101, L101, X101, e101, N101, st101⟩ := cw_dig_S5075 l Z a0 hw (absN v) h0 n0 (by omega) hx hZ hown X0 e0 N0 (by decide) (by decide) (by have := absN_le v; omega) (g := (mkF mM 12 #[.val (.int v), .val (.long (v.toInt64)), .second] [(.long (jN (absN v))), (.int (1 : Int32))])) rfl hml.symm rfl (hb hj g4_2.2.2.1) (W := 1) (W0 rfl) (by decide) (by decide)
  obtain ⟨fs, hr, hrun, hended, hW, hsame⟩ := X101.leave (v := some (.int (iN (wd v)))) (fun h => by rw [Bd.returns] at h; cases h)
  refine ⟨_, _, castTop (ef_wid_n mM v) ?_, hrun, hended, _, _, rfl, ?_, ⟨_, rfl⟩, hW, hsame.mono (by decide) (by decide)⟩
  · show SS pP eE bS s₁ (mkF mM 0 #[.val (.int v), .unset, .unset] []) _
    refine XS.iloadN X0.here hx rfl (hb hj g4_0.1) rfl ?_
    refine XS.i2l X0.here hx rfl (hb hj g4_0.2.1) rfl ?_
    refine XS.lstoreN X0.here hx rfl (hb hj g4_0.2.2.1) rfl (l' := #[.val (.int v), .val (.long (v.toInt64)), .second]) rfl ?_
    refine XS.lloadN X0.here hx rfl (hb hj g4_0.2.2.2) rfl ?_
    refine XS.lconst X0.here hx rfl (hb hj g4_1.1) ?_
    refine XS.lcmp X0.here hx rfl (hb hj g4_1.2.1) rfl ?_
    refine XS.ifNo X0.here hx rfl (hb hj g4_1.2.2.1) rfl ((if0 _ _).trans (tlt (own_vneg hv : (lcmpW (v.toInt64) (0 : Int64)) < (0 : Int32))).2.1) ?_
    refine XS.iconst X0.here hx rfl (hb hj g4_1.2.2.2) ?_
    refine XS.lloadN X0.here hx rfl (hb hj g4_2.1) rfl ?_
    refine XS.lneg X0.here hx rfl (hb hj g4_2.2.1) rfl ?_
    show SS pP eE bS s₁ (mkF mM 12 #[.val (.int v), .val (.long (v.toInt64)), .second] [(.long (-(v.toInt64))), (.int (1 : Int32))]) _
    rw [show (-(v.toInt64)) = (jN (absN v)) from own_negj hv]
    refine st101 _ ?_
    refine XS.iadd X101.here hx rfl (hb hj g4_2.2.2.2) rfl ?_
    show SS pP eE bS T101 (mkF mM 16 #[.val (.int v), .val (.long (v.toInt64)), .second] [(.int ((1 : Int32) + (iN (nd (absN v)))))]) _
    rw [show ((1 : Int32) + (iN (nd (absN v)))) = (iN (wd v)) from own_wdn hv]
    exact retI X101 hx Bd.returns (hb hj g4_3.1) hr
  · show Q_wid Z v h0 n0 _ T101.heap _
    rw [e101]
    exact ⟨rfl, N101, rfl⟩
theorem ef_wid_p (mM : MethodId) (v : Int32) : entryFrame mM #[(.int v)] 3 = mkF mM 0 #[.val (.int v), .unset, .unset] [] := by
  first | (simp [entryFrame, mkF, argsToLocals, Value.category]; done) | rfl
theorem rm_wid_p (hw : HW a0 Z) (ws : List Jvm.Cond) (v : Int32) (h0 : Heap) (n0 : Nat) (Z0 : n0 ≤ h0.size) (hv : ¬ (v < (0 : Int32))) :
    MF l y30_ method_4_code 3 (some .int) ws r1_0_0_14 #[(.int v)] Z h0 (Q_wid Z v h0 n0) := by
  refine MetFree.of_bodySF (plainFor_of_name pn_com_example_tessera_tessera_sql_SqlTextPagedPinLaw) hisR ?_
  intro pP eE sS mM aS bS mS cC s₁ Bd hml0 hP hK
  obtain ⟨rfl, hZ, hh⟩ := hP
  have hx := Bd.exec
  have hj := Bd.bytes
  have hml : cC.maxLocals = 3 := hml0
  have hown : sS.vm.findClass "com/example/tessera/tessera/sql/SqlTextPagedPinLaw" = some mM.cls := findClass_of_methodNamed Bd.named
  have X0 : Stand pP l eE r1_0_0_14 sS mM _ bS mS cC s₁ [] 0 0 := Stand.of_body Bd
  have e0 : s₁.heap = h0 := by rw [← hh, Bd.state]; rfl
  have N0 := Fr.nil n0
  obtain ⟨T101, L101, X101, e101, N101, st101⟩ := cw_dig_S5075 l Z a0 hw (absN v) h0 n0 (by omega) hx hZ hown X0 e0 N0 (by decide) (by decide) (by have := absN_le v; omega) (g := (mkF mM 18 #[.val (.int v), .val (.long (jN (absN v))), .second] [(.long (jN (absN v)))])) rfl hml.symm rfl (hb hj g4_3.2.2.1) (W := 0) (W0 rfl) (by decide) (by decide)
  obtain ⟨fs, hr, hrun, hended, hW, hsame⟩ := X101.leave (v := some (.int (iN (nd (absN v))))) (fun h => by rw [Bd.returns] at h; cases h)
  refine ⟨_, _, castTop (ef_wid_p mM v) ?_, hrun, hended, _, _, rfl, ?_, ⟨_, rfl⟩, hW, hsame.mono (by decide) (by decide)⟩
  · show SS pP eE bS s₁ (mkF mM 0 #[.val (.int v), .unset, .unset] []) _
    refine XS.iloadN X0.here hx rfl (hb hj g4_0.1) rfl ?_
    refine XS.i2l X0.here hx rfl (hb hj g4_0.2.1) rfl ?_
    show SS pP eE bS s₁ (mkF mM 2 #[.val (.int v), .unset, .unset] [(.long (v.toInt64))]) _
    rw [show (v.toInt64) = (jN (absN v)) from own_posj hv]
    refine XS.lstoreN X0.here hx rfl (hb hj g4_0.2.2.1) rfl (l' := #[.val (.int v), .val (.long (jN (absN v))), .second]) rfl ?_
    refine XS.lloadN X0.here hx rfl (hb hj g4_0.2.2.2) rfl ?_
    refine XS.lconst X0.here hx rfl (hb hj g4_1.1) ?_
    refine XS.lcmp X0.here hx rfl (hb hj g4_1.2.1) rfl ?_
    refine XS.ifYes X0.here hx rfl (pc0 := 6) (pc' := 17) rfl (hb hj g4_1.2.2.1) rfl ((if0 _ _).trans (flt (own_jge (K := 0) (by omega) (by have := absN_le v; omega) : ¬ ((lcmpW (jN (absN v)) (0 : Int64)) < (0 : Int32)))).2.1) (by decide) (by decide) ?_
    refine XS.lloadN X0.here hx rfl (hb hj g4_3.2.1) rfl ?_
    refine st101 _ ?_
    exact retI X101 hx Bd.returns (hb hj g4_3.2.2.2) hr
  · show Q_wid Z v h0 n0 _ T101.heap _
    rw [e101]
    exact ⟨congrArg (fun k => some (Value.int (iN k))) (own_wdp hv), N101, rfl⟩
theorem rm_wid (hw : HW a0 Z) (ws : List Jvm.Cond) (v : Int32) (h0 : Heap) (n0 : Nat) (Z0 : n0 ≤ h0.size) :
    MF l y30_ method_4_code 3 (some .int) ws r1_0_0_14 #[(.int v)] Z h0 (Q_wid Z v h0 n0) := by
  by_cases hv : v < (0 : Int32)
  · exact rm_wid_n l Z a0 hw ws v h0 n0 Z0 hv
  · exact rm_wid_p l Z a0 hw ws v h0 n0 Z0 hv
abbrev c41_11 := jdk_41_method_11_code
theorem g41_11_0 : decode c41_11 0 = .ok (.iload_n 0, 1) ∧ decode c41_11 1 = .ok (.ifCond .lt 8, 3) ∧ decode c41_11 4 = .ok (.iload_n 0, 1) ∧ decode c41_11 5 = .ok (.iload_n 1, 1) := by decide +kernel
theorem g41_11_1 : decode c41_11 6 = .ok (.if_icmp .lt 10, 3) ∧ decode c41_11 16 = .ok (.iload_n 0, 1) ∧ decode c41_11 17 = .ok (.ireturn, 1) := by decide +kernel
abbrev y31_ : MethodName := ⟨"jdk/internal/util/Preconditions", "checkIndex", "(IILjava/util/function/BiFunction;)I"⟩
theorem pn_jdk_internal_util_Preconditions : plainName "jdk/internal/util/Preconditions" = true := by first | (simp [plainName, overriddenIn]; done) | decide +kernel
def Q_pck (Z : State) (i : Int32) (x : Int32) (fo : Value) (h0 : Heap) (n0 : Nat) (xv : Option Value) (xh : Heap) (xL : List Loc) : Prop := xv = some (.int i) ∧ Fr n0 xL ∧ xh = h0
theorem ef_pck (mM : MethodId) (i : Int32) (x : Int32) (fo : Value) (hr_fo : (fo).isRef = true) : entryFrame mM #[(.int i), (.int x), fo] 3 = mkF mM 0 #[.val (.int i), .val (.int x), .val fo] [] := by
  cases fo <;> first | (exact Bool.noConfusion (show false = true from hr_fo)) | skip
  all_goals first | (simp [entryFrame, mkF, argsToLocals, Value.category]; done) | rfl
theorem rm_pck (hw : HW a0 Z) (ws : List Jvm.Cond) (i : Int32) (x : Int32) (fo : Value) (h0 : Heap) (n0 : Nat) (Z0 : n0 ≤ h0.size) (hfo : (fo).isRef = true) (h0i : ¬ (i < (0 : Int32))) (hix : i < x) :
    MF l y31_ jdk_41_method_11_code 3 (some .int) ws r0_0_0_0 #[(.int i), (.int x), fo] Z h0 (Q_pck Z i x fo h0 n0) := by
  refine MetFree.of_bodySF (plainFor_of_name pn_jdk_internal_util_Preconditions) hisR ?_
  intro pP eE sS mM aS bS mS cC s₁ Bd hml0 hP hK
  obtain ⟨rfl, hZ, hh⟩ := hP
  have hx := Bd.exec
  have hj := Bd.bytes
  have hml : cC.maxLocals = 3 := hml0
  have hown : sS.vm.findClass "jdk/internal/util/Preconditions" = some mM.cls := findClass_of_methodNamed Bd.named
  have X0 : Stand pP l eE r0_0_0_0 sS mM _ bS mS cC s₁ [] 0 0 := Stand.of_body Bd
  have e0 : s₁.heap = h0 := by rw [← hh, Bd.state]; rfl
  have N0 := Fr.nil n0
  obtain ⟨fs, hr, hrun, hended, hW, hsame⟩ := X0.leave (v := some (.int i)) (fun h => by rw [Bd.returns] at h; cases h)
  refine ⟨_, _, castTop (ef_pck mM i x fo hfo) ?_, hrun, hended, _, _, rfl, ?_, ⟨_, rfl⟩, hW, hsame.mono (by decide) (by decide)⟩
  · show SS pP eE bS s₁ (mkF mM 0 #[.val (.int i), .val (.int x), .val fo] []) _
    refine XS.iloadN X0.here hx rfl (hb hj g41_11_0.1) rfl ?_
    refine XS.ifNo X0.here hx rfl (hb hj g41_11_0.2.1) rfl ((if0 _ _).trans (flt h0i).1) ?_
    refine XS.iloadN X0.here hx rfl (hb hj g41_11_0.2.2.1) rfl ?_
    refine XS.iloadN X0.here hx rfl (hb hj g41_11_0.2.2.2) rfl ?_
    refine XS.icmpYes X0.here hx rfl (pc0 := 6) (pc' := 16) rfl (hb hj g41_11_1.1) rfl (tlt hix).1 (by decide) (by decide) ?_
    refine XS.iloadN X0.here hx rfl (hb hj g41_11_1.2.1) rfl ?_
    exact retI X0 hx Bd.returns (hb hj g41_11_1.2.2) hr
  · show Q_pck Z i x fo h0 n0 _ s₁.heap _
    rw [e0]
    exact ⟨rfl, N0, rfl⟩
abbrev c42_155 := jdk_42_method_155_code
theorem g42_155_0 : decode c42_155 0 = .ok (.iload_n 0, 1) ∧ decode c42_155 1 = .ok (.iload_n 1, 1) ∧ decode c42_155 2 = .ok (.getstatic 1053, 3) ∧ decode c42_155 5 = .ok (.invokestatic 1059, 3) := by decide +kernel
theorem pd_32 : parseMethodDescriptor "(IILjava/util/function/BiFunction;)I" = some ⟨[.int, .int, (.object "java/util/function/BiFunction")], some .int⟩ := by decide +kernel
theorem g42_155_1 : decode c42_155 8 = .ok (.pop, 1) ∧ decode c42_155 9 = .ok (.return_, 1) := by decide +kernel
abbrev y32_ : MethodName := ⟨"java/lang/String", "checkIndex", "(II)V"⟩
def Q_sck (Z : State) (i : Int32) (x : Int32) (fo : Value) (cs : Int32) (da : Addr) (ea : Addr) (h0 : Heap) (n0 : Nat) (xv : Option Value) (xh : Heap) (xL : List Loc) : Prop := xv = none ∧ Fr n0 xL ∧ xh = h0
theorem ef_sck (mM : MethodId) (i : Int32) (x : Int32) (fo : Value) (cs : Int32) (da : Addr) (ea : Addr) : entryFrame mM #[(.int i), (.int x)] 2 = mkF mM 0 #[.val (.int i), .val (.int x)] [] := by
  first | (simp [entryFrame, mkF, argsToLocals, Value.category]; done) | rfl
theorem rm_sck (hw : HW a0 Z) (ws : List Jvm.Cond) (i : Int32) (x : Int32) (fo : Value) (cs : Int32) (da : Addr) (ea : Addr) (h0 : Heap) (n0 : Nat) (Z0 : n0 ≤ h0.size) (h0i : ¬ (i < (0 : Int32))) (hix : i < x) (OL : Old Z n0 h0) (SX : Sts Z cs fo da ea) :
    MF l y32_ jdk_42_method_155_code 2 none ws r1_0_0_14 #[(.int i), (.int x)] Z h0 (Q_sck Z i x fo cs da ea h0 n0) := by
  refine MetFree.of_bodySF (plainFor_of_name pn_java_lang_String) hisR ?_
  intro pP eE sS mM aS bS mS cC s₁ Bd hml0 hP hK
  obtain ⟨rfl, hZ, hh⟩ := hP
  have hx := Bd.exec
  have hj := Bd.bytes
  have hml : cC.maxLocals = 2 := hml0
  have hown : sS.vm.findClass "java/lang/String" = some mM.cls := findClass_of_methodNamed Bd.named
  have X0 : Stand pP l eE r1_0_0_14 sS mM _ bS mS cC s₁ [] 0 0 := Stand.of_body Bd
  have e0 : s₁.heap = h0 := by rw [← hh, Bd.state]; rfl
  have N0 := Fr.nil n0
  have c101_S_SIOOBE_FORMATTER : Sta Z h0 "jdk/internal/util/Preconditions" "SIOOBE_FORMATTER" "Ljava/util/function/BiFunction;" fo := Sta.ext OL.2 SX.2.2.1
  obtain ⟨T102, X102, e102, st102⟩ := getS2 X0 hx hZ hown (host := "") (Or.inl (wi hw 217 rfl)) Via.refl e0 c101_S_SIOOBE_FORMATTER (g := (mkF mM 2 #[.val (.int i), .val (.int x)] [(.int x), (.int i)])) rfl (hb hj g42_155_0.2.2.1)
  obtain ⟨_, _, ⟨T103, L103, k103, n103⟩, -, X103, ⟨Lc103, hQ103, l103, y103, z103⟩, st103⟩ := Jvm.LawKit.callS X102 hx (y := y31_) hown (mvT hZ (wi hw 219 rfl)) (mvT hZ (wi hw 220 rfl)) (mvT hZ (wi hw 218 rfl)) (mvT hZ (wi hw 221 rfl)) (by decide) (backOf (W := 0) (rm_pck l Z a0 hw [] i x fo h0 n0 (by omega) SX.2.2.2.1 h0i hix) hZ (wi hw 221 rfl) (wi hw 218 rfl) (by decide) (by decide)) (g := (mkF mM 5 #[.val (.int i), .val (.int x)] [fo, (.int x), (.int i)])) rfl hml.symm (argsL := [(.int i), (.int x), fo]) (rest := []) (lenOf pd_32 rfl) rfl (W0 rfl) (hb hj g42_155_0.2.2.2) (fun _ _ => ⟨rfl, e102, ble rfl, ble rfl⟩)
  dsimp only [Pt.U, Pt.locs, Pt.cells, Pt.slots] at X103 l103 y103 z103 st103 hQ103
  subst y103 z103
  obtain ⟨h103, e103⟩ : ∃ z, T103.heap = z := ⟨_, rfl⟩
  rw [e103] at hQ103
  obtain ⟨rfl, N103q, eq103⟩ := hQ103
  rw [eq103] at e103
  have N103 : Fr n0 L103 := by rw [l103]; exact Fr.app N0 N103q
  obtain ⟨fs, hr, hrun, hended, hW, hsame⟩ := X103.leave (v := none) (fun _ => rfl)
  refine ⟨_, _, castTop (ef_sck mM i x fo cs da ea) ?_, hrun, hended, _, _, rfl, ?_, ⟨_, rfl⟩, hW, hsame.mono (by decide) (by decide)⟩
  · show SS pP eE bS s₁ (mkF mM 0 #[.val (.int i), .val (.int x)] []) _
    refine XS.iloadN X0.here hx rfl (hb hj g42_155_0.1) rfl ?_
    refine XS.iloadN X0.here hx rfl (hb hj g42_155_0.2.1) rfl ?_
    refine st102 _ ?_
    refine st103 _ ?_
    refine XS.pop X103.here hx rfl (hb hj g42_155_1.1) rfl rfl ?_
    exact X103.returnOut hx Bd.returns (hb hj g42_155_1.2) hr
  · show Q_sck Z i x fo cs da ea h0 n0 _ T103.heap _
    rw [e103]
    exact ⟨rfl, N103, rfl⟩
abbrev c43_2 := jdk_43_method_2_code
theorem g43_2_0 : decode c43_2 0 = .ok (.iload_n 1, 1) ∧ decode c43_2 1 = .ok (.aload_n 0, 1) ∧ decode c43_2 2 = .ok (.arraylength, 1) ∧ decode c43_2 3 = .ok (.invokestatic 9, 3) := by decide +kernel
theorem g43_2_1 : decode c43_2 6 = .ok (.aload_n 0, 1) ∧ decode c43_2 7 = .ok (.iload_n 1, 1) ∧ decode c43_2 8 = .ok (.baload, 1) ∧ decode c43_2 9 = .ok (.sipush 255, 3) := by decide +kernel
theorem g43_2_2 : decode c43_2 12 = .ok (.iand, 1) ∧ decode c43_2 13 = .ok (.i2c, 1) ∧ decode c43_2 14 = .ok (.ireturn, 1) := by decide +kernel
abbrev r2_0_0_27 : Room := { frames := 2, cells := 0, slots := 0, locals := 27 }
abbrev y33_ : MethodName := ⟨"java/lang/StringLatin1", "charAt", "([BI)C"⟩
def Q_l1char (Z : State) (tb : Addr) (tk : ClassId) (z : Nat) (ys : List Value) (i : Nat) (c : Int32) (v : Int32) (fo : Value) (cs : Int32) (da : Addr) (ea : Addr) (h0 : Heap) (n0 : Nat) (xv : Option Value) (xh : Heap) (xL : List Loc) : Prop := xv = some (.int c) ∧ Fr n0 xL ∧ xh = h0
theorem ef_l1char (mM : MethodId) (tb : Addr) (tk : ClassId) (z : Nat) (ys : List Value) (i : Nat) (c : Int32) (v : Int32) (fo : Value) (cs : Int32) (da : Addr) (ea : Addr) : entryFrame mM #[(.ref tb), (.int (iN i))] 2 = mkF mM 0 #[.val (.ref tb), .val (.int (iN i))] [] := by
  first | (simp [entryFrame, mkF, argsToLocals, Value.category]; done) | rfl
theorem rm_l1char (hw : HW a0 Z) (ws : List Jvm.Cond) (tb : Addr) (tk : ClassId) (z : Nat) (ys : List Value) (i : Nat) (c : Int32) (v : Int32) (fo : Value) (cs : Int32) (da : Addr) (ea : Addr) (h0 : Heap) (n0 : Nat) (Z0 : n0 ≤ h0.size) (V_tb : Arv Z h0 tb tk .byte (iN z) ys (.int (0 : Int32))) (SX : Sts Z cs fo da ea) (OL : Old Z n0 h0) (hbd : i < z ∧ z < 1000000) (hv : ys.getD i (.int (0 : Int32)) = (.int v)) (hvc : (v &&& (255 : Int32)) = c) (hch : (c.toUInt32.toUInt16.toUInt32.toInt32) = c) :
    MF l y33_ jdk_43_method_2_code 2 (some .char) ws r2_0_0_27 #[(.ref tb), (.int (iN i))] Z h0 (Q_l1char Z tb tk z ys i c v fo cs da ea h0 n0) := by
  refine MetFree.of_bodySF (plainFor_of_name pn_java_lang_StringLatin1) hisR ?_
  intro pP eE sS mM aS bS mS cC s₁ Bd hml0 hP hK
  obtain ⟨rfl, hZ, hh⟩ := hP
  have hx := Bd.exec
  have hj := Bd.bytes
  have hml : cC.maxLocals = 2 := hml0
  have hown : sS.vm.findClass "java/lang/StringLatin1" = some mM.cls := findClass_of_methodNamed Bd.named
  have X0 : Stand pP l eE r2_0_0_27 sS mM _ bS mS cC s₁ [] 0 0 := Stand.of_body Bd
  have e0 : s₁.heap = h0 := by rw [← hh, Bd.state]; rfl
  have N0 := Fr.nil n0
  obtain ⟨cl101, Ar101, q101, S101, Ng101, Ha101, Ga101⟩ := id V_tb
  obtain ⟨_, _, ⟨T102, L102, k102, n102⟩, -, X102, ⟨Lc102, hQ102, l102, y102, z102⟩, st102⟩ := Jvm.LawKit.callS X0 hx (y := y32_) hown (mvT hZ (wi hw 214 rfl)) (mvT hZ (wi hw 215 rfl)) (mvT hZ (wi hw 1 rfl)) (mvT hZ (wi hw 216 rfl)) (by decide) (backOf (W := 0) (rm_sck l Z a0 hw [] (iN i) (iN z) fo cs da ea h0 n0 (by omega) (iN_nn (by omega)) ((iN_lt (by omega) (by omega)).mpr hbd.1) OL SX) hZ (wi hw 216 rfl) (wi hw 1 rfl) (by decide) (by decide)) (g := (mkF mM 3 #[.val (.ref tb), .val (.int (iN i))] [(.int (iN z)), (.int (iN i))])) rfl hml.symm (argsL := [(.int (iN i)), (.int (iN z))]) (rest := []) (lenOf pd_28 rfl) rfl (W0 rfl) (hb hj g43_2_0.2.2.2) (fun _ _ => ⟨rfl, e0, ble rfl, ble rfl⟩)
  dsimp only [Pt.U, Pt.locs, Pt.cells, Pt.slots] at X102 l102 y102 z102 st102 hQ102
  subst y102 z102
  obtain ⟨h102, e102⟩ : ∃ z, T102.heap = z := ⟨_, rfl⟩
  rw [e102] at hQ102
  obtain ⟨rfl, N102q, eq102⟩ := hQ102
  rw [eq102] at e102
  have N102 : Fr n0 L102 := by rw [l102]; exact Fr.app N0 N102q
  obtain ⟨cl103, Ar103, q103, S103, Ng103, Ha103, Ga103⟩ := id V_tb
  have hin103 : ¬ ((iN i) < 0 ∨ cl103.slots.size ≤ ((iN i)).toNatClampNeg) := inb_of S103 ⟨iN_nn (by omega), (iN_lt (by omega) (by omega)).mpr hbd.1⟩
  have hat103 : cl103.slots[((iN i)).toNatClampNeg]? = some (.int v) := Ha103.at hin103 (by rw [iN_nat (by omega)]; exact hv)
  obtain ⟨fs, hr, hrun, hended, hW, hsame⟩ := X102.leave (v := some (.int (nar .char c))) (fun h => by rw [Bd.returns] at h; cases h)
  refine ⟨_, _, castTop (ef_l1char mM tb tk z ys i c v fo cs da ea) ?_, hrun, hended, _, _, rfl, ?_, ⟨_, rfl⟩, hW, hsame.mono (by decide) (by decide)⟩
  · show SS pP eE bS s₁ (mkF mM 0 #[.val (.ref tb), .val (.int (iN i))] []) _
    refine XS.iloadN X0.here hx rfl (hb hj g43_2_0.1) rfl ?_
    refine XS.aloadN X0.here hx rfl (hb hj g43_2_0.2.1) rfl rfl ?_
    refine X0.arraylength hx (by rw [e0]; exact Ar101.1) (State.isArrayOf_alike hZ.alike Ar101.2.1) (g := (mkF mM 2 #[.val (.ref tb), .val (.int (iN i))] [(.ref tb), (.int (iN i))])) rfl rfl (hb hj g43_2_0.2.2.1) _ ?_
    rw [len_of S101 Ng101]
    refine st102 _ ?_
    refine XS.aloadN X102.here hx rfl (hb hj g43_2_1.1) rfl rfl ?_
    refine XS.iloadN X102.here hx rfl (hb hj g43_2_1.2.1) rfl ?_
    refine X102.baloadBytes hx (j := (iN i)) (v := (.int v)) (by rw [e102]; exact Ar103.1) (State.isArrayOf_alike hZ.alike Ar103.2.1) Ar103.2.2 hin103 hat103 (g := (mkF mM 8 #[.val (.ref tb), .val (.int (iN i))] [(.int (iN i)), (.ref tb)])) rfl rfl (hb hj g43_2_1.2.2.1) _ ?_
    refine XS.sipush X102.here hx rfl (hb hj g43_2_1.2.2.2) ?_
    refine XS.iand X102.here hx rfl (hb hj g43_2_2.1) rfl ?_
    show SS pP eE bS T102 (mkF mM 13 #[.val (.ref tb), .val (.int (iN i))] [(.int (v &&& (255 : Int32)))]) _
    rw [show (v &&& (255 : Int32)) = c from hvc]
    refine XS.i2c X102.here hx rfl (hb hj g43_2_2.2.1) rfl ?_
    show SS pP eE bS T102 (mkF mM 14 #[.val (.ref tb), .val (.int (iN i))] [(.int (c.toUInt32.toUInt16.toUInt32.toInt32))]) _
    rw [show (c.toUInt32.toUInt16.toUInt32.toInt32) = c from hch]
    exact retN X102 hx (t := .char) Bd.returns (by simp) (hb hj g43_2_2.2.2) hr
  · show Q_l1char Z tb tk z ys i c v fo cs da ea h0 n0 _ T102.heap _
    rw [e102]
    exact ⟨congrArg (fun x => some (Value.int x)) hch, N102, rfl⟩
abbrev c42_154 := jdk_42_method_154_code
theorem g42_154_0 : decode c42_154 0 = .ok (.getstatic 38, 3) ∧ decode c42_154 3 = .ok (.ifCond .eq 14, 3) ∧ decode c42_154 6 = .ok (.aload_n 0, 1) ∧ decode c42_154 7 = .ok (.getfield 15, 3) := by decide +kernel
theorem g42_154_1 : decode c42_154 10 = .ok (.ifCond .ne 7, 3) ∧ decode c42_154 13 = .ok (.iconst 1, 1) ∧ decode c42_154 14 = .ok (.goto 4, 3) ∧ decode c42_154 18 = .ok (.ireturn, 1) := by decide +kernel
abbrev y34_ : MethodName := ⟨"java/lang/String", "isLatin1", "()Z"⟩
def Q_latin1 (Z : State) (t : Addr) (cs : Int32) (fo : Value) (da : Addr) (ea : Addr) (h0 : Heap) (n0 : Nat) (xv : Option Value) (xh : Heap) (xL : List Loc) : Prop := xv = some (.int (1 : Int32)) ∧ Fr n0 xL ∧ xh = h0
theorem ef_latin1 (mM : MethodId) (t : Addr) (cs : Int32) (fo : Value) (da : Addr) (ea : Addr) : entryFrame mM #[(.ref t)] 1 = mkF mM 0 #[.val (.ref t)] [] := by
  first | (simp [entryFrame, mkF, argsToLocals, Value.category]; done) | rfl
theorem rm_latin1 (hw : HW a0 Z) (ws : List Jvm.Cond) (t : Addr) (cs : Int32) (fo : Value) (da : Addr) (ea : Addr) (h0 : Heap) (n0 : Nat) (Z0 : n0 ≤ h0.size) (F_coder_t : Fld Z h0 t "java/lang/String" "coder" "B" (.int (0 : Int32))) (OL : Old Z n0 h0) (SX : Sts Z cs fo da ea) :
    MF l y34_ jdk_42_method_154_code 1 (some .boolean) ws r0_0_0_0 #[(.ref t)] Z h0 (Q_latin1 Z t cs fo da ea h0 n0) := by
  refine MetFree.of_bodySF (plainFor_of_name pn_java_lang_String) hisR ?_
  intro pP eE sS mM aS bS mS cC s₁ Bd hml0 hP hK
  obtain ⟨rfl, hZ, hh⟩ := hP
  have hx := Bd.exec
  have hj := Bd.bytes
  have hml : cC.maxLocals = 1 := hml0
  have hown : sS.vm.findClass "java/lang/String" = some mM.cls := findClass_of_methodNamed Bd.named
  have X0 : Stand pP l eE r0_0_0_0 sS mM _ bS mS cC s₁ [] 0 0 := Stand.of_body Bd
  have e0 : s₁.heap = h0 := by rw [← hh, Bd.state]; rfl
  have N0 := Fr.nil n0
  have c101_S_COMPACT_STRINGS : Sta Z h0 "java/lang/String" "COMPACT_STRINGS" "Z" (.int cs) := Sta.ext OL.2 SX.1
  obtain ⟨T102, X102, e102, st102⟩ := getS2 X0 hx hZ hown (host := "") (Or.inl (wi hw 17 rfl)) Via.refl e0 c101_S_COMPACT_STRINGS (g := (mkF mM 0 #[.val (.ref t)] [])) rfl (hb hj g42_154_0.1)
  obtain ⟨T103, X103, e103, st103⟩ := getF X102 hx hZ hown (host := "") (Or.inl (wi hw 34 rfl)) Via.refl e102 F_coder_t (g := (mkF mM 7 #[.val (.ref t)] [(.ref t)])) rfl rfl (hb hj g42_154_0.2.2.2)
  obtain ⟨fs, hr, hrun, hended, hW, hsame⟩ := X103.leave (v := some (.int (1 : Int32))) (fun h => by rw [Bd.returns] at h; cases h)
  refine ⟨_, _, castTop (ef_latin1 mM t cs fo da ea) ?_, hrun, hended, _, _, rfl, ?_, ⟨_, rfl⟩, hW, hsame.mono (by decide) (by decide)⟩
  · show SS pP eE bS s₁ (mkF mM 0 #[.val (.ref t)] []) _
    refine st102 _ ?_
    refine XS.ifNo X102.here hx rfl (hb hj g42_154_0.2.1) rfl ((if0 _ _).trans (feq SX.2.1).1) ?_
    refine XS.aloadN X102.here hx rfl (hb hj g42_154_0.2.2.1) rfl rfl ?_
    refine st103 _ ?_
    refine XS.ifNo X103.here hx rfl (hb hj g42_154_1.1) rfl ((if0 _ _).trans (teq (by decide : (0 : Int32) = (0 : Int32))).2) ?_
    refine XS.iconst X103.here hx rfl (hb hj g42_154_1.2.1) ?_
    refine XS.goto X103.here hx rfl (pc0 := 14) (pc' := 18) rfl (hb hj g42_154_1.2.2.1) (by decide) (by decide) ?_
    exact retN X103 hx (t := .boolean) Bd.returns (by simp) (hb hj g42_154_1.2.2.2) hr
  · show Q_latin1 Z t cs fo da ea h0 n0 _ T103.heap _
    rw [e103]
    exact ⟨rfl, N0, rfl⟩
abbrev c42_56 := jdk_42_method_56_code
theorem g42_56_0 : decode c42_56 0 = .ok (.aload_n 0, 1) ∧ decode c42_56 1 = .ok (.invokevirtual 492, 3) ∧ decode c42_56 4 = .ok (.ifCond .eq 12, 3) ∧ decode c42_56 7 = .ok (.aload_n 0, 1) := by decide +kernel
theorem g42_56_1 : decode c42_56 8 = .ok (.getfield 9, 3) ∧ decode c42_56 11 = .ok (.iload_n 1, 1) ∧ decode c42_56 12 = .ok (.invokestatic 495, 3) ∧ decode c42_56 15 = .ok (.ireturn, 1) := by decide +kernel
theorem pd_31 : parseMethodDescriptor "([BI)C" = some ⟨[(.array .byte), .int], some .char⟩ := by decide +kernel
def Q_ch (Z : State) (c : Int32) (h0 : Heap) (n0 : Nat) (xv : Option Value) (xh : Heap) (xL : List Loc) : Prop := xv = some (.int c) ∧ Fr n0 xL ∧ xh = h0
abbrev r3_0_0_40 : Room := { frames := 3, cells := 0, slots := 0, locals := 40 }
abbrev y35_ : MethodName := ⟨"java/lang/String", "charAt", "(I)C"⟩
theorem ef_charAt0 (mM : MethodId) (t : Addr) (tb : Addr) (tk : ClassId) (z : Nat) (ys : List Value) (i : Nat) (c : Int32) (v : Int32) (fo : Value) (cs : Int32) (da : Addr) (ea : Addr) : entryFrame mM #[(.ref t), (.int (iN i))] 2 = mkF mM 0 #[.val (.ref t), .val (.int (iN i))] [] := by
  first | (simp [entryFrame, mkF, argsToLocals, Value.category]; done) | rfl
theorem rm_charAt0 (hw : HW a0 Z) (ws : List Jvm.Cond) (t : Addr) (tb : Addr) (tk : ClassId) (z : Nat) (ys : List Value) (i : Nat) (c : Int32) (v : Int32) (fo : Value) (cs : Int32) (da : Addr) (ea : Addr) (h0 : Heap) (n0 : Nat) (Z0 : n0 ≤ h0.size) (A_t : StrA Z h0 t tb tk z ys) (SX : Sts Z cs fo da ea) (OL : Old Z n0 h0) (hbd : i < z ∧ z < 1000000) (hv : ys.getD i (.int (0 : Int32)) = (.int v)) (hvc : (v &&& (255 : Int32)) = c) (hch : (c.toUInt32.toUInt16.toUInt32.toInt32) = c) :
    MF l y35_ jdk_42_method_56_code 2 (some .char) ws r3_0_0_40 #[(.ref t), (.int (iN i))] Z h0 (Q_ch Z c h0 n0) := by
  refine MetFree.of_bodySF (plainFor_of_name pn_java_lang_String) hisR ?_
  intro pP eE sS mM aS bS mS cC s₁ Bd hml0 hP hK
  obtain ⟨rfl, hZ, hh⟩ := hP
  have hx := Bd.exec
  have hj := Bd.bytes
  have hml : cC.maxLocals = 2 := hml0
  have hown : sS.vm.findClass "java/lang/String" = some mM.cls := findClass_of_methodNamed Bd.named
  have X0 : Stand pP l eE r3_0_0_40 sS mM _ bS mS cC s₁ [] 0 0 := Stand.of_body Bd
  have e0 : s₁.heap = h0 := by rw [← hh, Bd.state]; rfl
  have N0 := Fr.nil n0
  obtain ⟨cq101, kq101, q101a, q101b, q101c⟩ := isOf hZ e0 A_t.1
  obtain ⟨_, _, ⟨T101, L101, k101, n101⟩, -, X101, ⟨Lc101, hQ101, l101, y101, z101⟩, st101⟩ := X0.virtualBack hx (y := y34_) (z := y34_) hown (mvT hZ (wi hw 206 rfl)) (mvT hZ (wi hw 207 rfl)) (notFace_of_selects (args := #[]) (mvT hZ (wi hw 209 rfl))) (mvT hZ (wi hw 209 rfl)) (mvT hZ (wi hw 208 rfl)) (by decide) (backOf (W := 0) (rm_latin1 l Z a0 hw [] t cs fo da ea h0 n0 (by omega) A_t.2.2.1 OL SX) hZ (wi hw 210 rfl) (wi hw 1 rfl) (by decide) (by decide)) q101a q101c (g := (mkF mM 1 #[.val (.ref t), .val (.int (iN i))] [(.ref t)])) rfl hml.symm (Steps.refl _) (argsL := []) (rest := []) (lenOf pd_21 rfl) rfl (W0 rfl) (hb hj g42_56_0.2.1) (fun _ _ => ⟨rfl, e0, ble rfl, ble rfl⟩)
  dsimp only [Pt.U, Pt.locs, Pt.cells, Pt.slots] at X101 l101 y101 z101 st101 hQ101
  subst y101 z101
  obtain ⟨h101, e101⟩ : ∃ z, T101.heap = z := ⟨_, rfl⟩
  rw [e101] at hQ101
  obtain ⟨rfl, N101q, eq101⟩ := hQ101
  rw [eq101] at e101
  have N101 : Fr n0 L101 := by rw [l101]; exact Fr.app N0 N101q
  obtain ⟨T102, X102, e102, st102⟩ := getF X101 hx hZ hown (host := "") (Or.inl (wi hw 33 rfl)) Via.refl e101 A_t.2.1 (g := (mkF mM 8 #[.val (.ref t), .val (.int (iN i))] [(.ref t)])) rfl rfl (hb hj g42_56_1.1)
  obtain ⟨_, _, ⟨T103, L103, k103, n103⟩, -, X103, ⟨Lc103, hQ103, l103, y103, z103⟩, st103⟩ := Jvm.LawKit.callS X102 hx (y := y33_) hown (mvT hZ (wi hw 211 rfl)) (mvT hZ (wi hw 212 rfl)) (mvT hZ (wi hw 20 rfl)) (mvT hZ (wi hw 213 rfl)) (by decide) (backOf (W := 0) (rm_l1char l Z a0 hw [] tb tk z ys i c v fo cs da ea h0 n0 (by omega) A_t.2.2.2 SX OL hbd hv hvc hch) hZ (wi hw 213 rfl) (wi hw 20 rfl) (by decide) (by decide)) (g := (mkF mM 12 #[.val (.ref t), .val (.int (iN i))] [(.int (iN i)), (.ref tb)])) rfl hml.symm (argsL := [(.ref tb), (.int (iN i))]) (rest := []) (lenOf pd_31 rfl) rfl (W0 rfl) (hb hj g42_56_1.2.2.1) (fun _ _ => ⟨rfl, e102, ble rfl, ble rfl⟩)
  dsimp only [Pt.U, Pt.locs, Pt.cells, Pt.slots] at X103 l103 y103 z103 st103 hQ103
  subst y103 z103
  obtain ⟨h103, e103⟩ : ∃ z, T103.heap = z := ⟨_, rfl⟩
  rw [e103] at hQ103
  obtain ⟨rfl, N103q, eq103⟩ := hQ103
  rw [eq103] at e103
  have N103 : Fr n0 L103 := by rw [l103]; exact Fr.app N101 N103q
  obtain ⟨fs, hr, hrun, hended, hW, hsame⟩ := X103.leave (v := some (.int (nar .char c))) (fun h => by rw [Bd.returns] at h; cases h)
  refine ⟨_, _, castTop (ef_charAt0 mM t tb tk z ys i c v fo cs da ea) ?_, hrun, hended, _, _, rfl, ?_, ⟨_, rfl⟩, hW, hsame.mono (by decide) (by decide)⟩
  · show SS pP eE bS s₁ (mkF mM 0 #[.val (.ref t), .val (.int (iN i))] []) _
    refine XS.aloadN X0.here hx rfl (hb hj g42_56_0.1) rfl rfl ?_
    refine st101.trans ?_
    refine XS.ifNo X101.here hx rfl (hb hj g42_56_0.2.2.1) rfl ((if0 _ _).trans (feq (by decide : ¬ ((1 : Int32) = (0 : Int32)))).1) ?_
    refine XS.aloadN X101.here hx rfl (hb hj g42_56_0.2.2.2) rfl rfl ?_
    refine st102 _ ?_
    refine XS.iloadN X102.here hx rfl (hb hj g42_56_1.2.1) rfl ?_
    refine st103 _ ?_
    exact retN X103 hx (t := .char) Bd.returns (by simp) (hb hj g42_56_1.2.2.2) hr
  · show Q_ch Z c h0 n0 _ T103.heap _
    rw [e103]
    exact ⟨congrArg (fun x => some (Value.int x)) hch, N103, rfl⟩
theorem rm_charAt (hw : HW a0 Z) (ws : List Jvm.Cond) (t : Addr) (tb : Addr) (tk : ClassId) (z : Nat) (ys : List Value) (i : Nat) (c : Int32) (fo : Value) (cs : Int32) (da : Addr) (ea : Addr) (h0 : Heap) (n0 : Nat) (Z0 : n0 ≤ h0.size) (A_t : StrA Z h0 t tb tk z ys) (SX : Sts Z cs fo da ea) (OL : Old Z n0 h0) (hat : LatAt z ys i c) :
    MF l y35_ jdk_42_method_56_code 2 (some .char) ws r3_0_0_40 #[(.ref t), (.int (iN i))] Z h0 (Q_ch Z c h0 n0) := by
  obtain ⟨hbd, v, hv, hvc, hch⟩ := hat
  exact rm_charAt0 l Z a0 hw ws t tb tk z ys i c v fo cs da ea h0 n0 Z0 A_t SX OL hbd hv hvc hch
abbrev c5 := method_5_code
theorem g5_0 : decode c5 0 = .ok (.bipush 10, 2) ∧ decode c5 2 = .ok (.newarray .long, 2) ∧ decode c5 4 = .ok (.dup, 1) ∧ decode c5 5 = .ok (.iconst 0, 1) := by decide +kernel
theorem g5_1 : decode c5 6 = .ok (.lconst 1, 1) ∧ decode c5 7 = .ok (.lastore, 1) ∧ decode c5 8 = .ok (.dup, 1) ∧ decode c5 9 = .ok (.iconst 1, 1) := by decide +kernel
theorem g5_2 : decode c5 10 = .ok (.ldc2_w 57, 3) ∧ decode c5 13 = .ok (.lastore, 1) ∧ decode c5 14 = .ok (.dup, 1) ∧ decode c5 15 = .ok (.iconst 2, 1) := by decide +kernel
theorem g5_3 : decode c5 16 = .ok (.ldc2_w 59, 3) ∧ decode c5 19 = .ok (.lastore, 1) ∧ decode c5 20 = .ok (.dup, 1) ∧ decode c5 21 = .ok (.iconst 3, 1) := by decide +kernel
theorem g5_4 : decode c5 22 = .ok (.ldc2_w 61, 3) ∧ decode c5 25 = .ok (.lastore, 1) ∧ decode c5 26 = .ok (.dup, 1) ∧ decode c5 27 = .ok (.iconst 4, 1) := by decide +kernel
theorem g5_5 : decode c5 28 = .ok (.ldc2_w 63, 3) ∧ decode c5 31 = .ok (.lastore, 1) ∧ decode c5 32 = .ok (.dup, 1) ∧ decode c5 33 = .ok (.iconst 5, 1) := by decide +kernel
theorem g5_6 : decode c5 34 = .ok (.ldc2_w 65, 3) ∧ decode c5 37 = .ok (.lastore, 1) ∧ decode c5 38 = .ok (.dup, 1) ∧ decode c5 39 = .ok (.bipush 6, 2) := by decide +kernel
theorem g5_7 : decode c5 41 = .ok (.ldc2_w 67, 3) ∧ decode c5 44 = .ok (.lastore, 1) ∧ decode c5 45 = .ok (.dup, 1) ∧ decode c5 46 = .ok (.bipush 7, 2) := by decide +kernel
theorem g5_8 : decode c5 48 = .ok (.ldc2_w 69, 3) ∧ decode c5 51 = .ok (.lastore, 1) ∧ decode c5 52 = .ok (.dup, 1) ∧ decode c5 53 = .ok (.bipush 8, 2) := by decide +kernel
theorem g5_9 : decode c5 55 = .ok (.ldc2_w 71, 3) ∧ decode c5 58 = .ok (.lastore, 1) ∧ decode c5 59 = .ok (.dup, 1) ∧ decode c5 60 = .ok (.bipush 9, 2) := by decide +kernel
theorem g5_10 : decode c5 62 = .ok (.ldc2_w 73, 3) ∧ decode c5 65 = .ok (.lastore, 1) ∧ decode c5 66 = .ok (.astore 5, 2) ∧ decode c5 68 = .ok (.lload_n 2, 1) := by decide +kernel
theorem g5_11 : decode c5 69 = .ok (.aload 5, 2) ∧ decode c5 71 = .ok (.iload 4, 2) ∧ decode c5 73 = .ok (.laload, 1) ∧ decode c5 74 = .ok (.ldiv, 1) := by decide +kernel
theorem g5_12 : decode c5 75 = .ok (.ldc2_w 57, 3) ∧ decode c5 78 = .ok (.lrem, 1) ∧ decode c5 79 = .ok (.l2i, 1) ∧ decode c5 80 = .ok (.istore 6, 2) := by decide +kernel
theorem g5_13 : decode c5 82 = .ok (.aload_n 0, 1) ∧ decode c5 83 = .ok (.iload_n 1, 1) ∧ decode c5 84 = .ok (.invokevirtual 37, 3) ∧ decode c5 87 = .ok (.bipush 48, 2) := by decide +kernel
theorem pd_30 : parseMethodDescriptor "(I)C" = some ⟨[.int], some .char⟩ := by decide +kernel
theorem cw_charAt_S5037 (hw : HW a0 Z) (t : Addr) (tb : Addr) (tk : ClassId) (z : Nat) (ys : List Value) (i : Nat) (c : Int32) (fo : Value) (cs : Int32) (da : Addr) (ea : Addr) {RR : Room} (h0 : Heap) (n0 : Nat) (Z0 : n0 ≤ h0.size) (hx : pP.tables.exec = Jvm.exec) (hZ : Z.Warmed39 sS.vm) (hown : sS.vm.findClass "com/example/tessera/tessera/sql/SqlTextPagedPinLaw" = some mM.cls) (X0 : Stand pP l eE RR sS mM aS bS mS cC s₁ lc0 cl0 sl0) (e0 : s₁.heap = h0) (N0 : Fr n0 lc0) (hcl : cl0 + r3_0_0_40.cells ≤ RR.cells) (hsl : sl0 + r3_0_0_40.slots ≤ RR.slots) (A_t : StrA Z h0 t tb tk z ys) (SX : Sts Z cs fo da ea) (OL : Old Z n0 h0) (hat : LatAt z ys i c) {g : JFrame} (hg : g.method = mM) (hsz : g.locals.size = cC.maxLocals) {rest : List Value} (hst : g.stack = [(.int (iN i)), (.ref t)] ++ rest) (hd : decode cC.code g.pc = .ok (.invokevirtual 37, 3)) {W : Nat} (hW : 2 * g.monitorRoom + (rest.map fun v => v.category).sum ≤ W) (hfr : r3_0_0_40.frames + 1 ≤ RR.frames) (hlo : W + (2 + 11) + r3_0_0_40.locals ≤ RR.locals) :
    ∃ T' L', Stand pP l eE RR sS mM aS bS mS cC T' L' (cl0 + r3_0_0_40.cells) (sl0 + r3_0_0_40.slots) ∧ T'.heap = h0 ∧ Fr n0 L' ∧ ∀ t', Steps pP.tables eE bS (T'.setTop { g with pc := g.pc + 3, stack := [(.int c)] ++ rest }) t' → Steps pP.tables eE bS (s₁.setTop g) t' := by
  obtain ⟨cq, kq, qa, qb, qc⟩ := isOf hZ e0 A_t.1
  obtain ⟨_, _, ⟨T1, L1, k1, n1⟩, -, X1, ⟨Lc1, hQ1, l1, y1, z1⟩, st1⟩ := X0.virtualBack hx (y := y35_) (z := y35_) hown (mvT hZ (wi hw 201 rfl)) (mvT hZ (wi hw 202 rfl)) (notFace_of_selects (args := #[]) (mvT hZ (wi hw 204 rfl))) (mvT hZ (wi hw 204 rfl)) (mvT hZ (wi hw 203 rfl)) (by decide) (backOf (W := W) (rm_charAt l Z a0 hw [] t tb tk z ys i c fo cs da ea h0 n0 Z0 A_t SX OL hat) hZ (wi hw 205 rfl) (wi hw 1 rfl) hfr hlo) qa qc (g := g) hg hsz (Steps.refl _) (argsL := [(.int (iN i))]) (rest := rest) (lenOf pd_30 rfl) hst hW hd (fun _ _ => ⟨rfl, e0, hcl, hsl⟩)
  dsimp only [Pt.U, Pt.locs, Pt.cells, Pt.slots] at X1 l1 y1 z1 st1 hQ1
  subst y1 z1
  obtain ⟨rfl, Nq, Kq⟩ := hQ1
  exact ⟨T1, L1, X1, Kq, by rw [l1]; exact Fr.app N0 Nq, fun t' hk => st1.trans hk⟩
theorem g5_14 : decode c5 89 = .ok (.iload 6, 2) ∧ decode c5 91 = .ok (.iadd, 1) ∧ decode c5 92 = .ok (.i2c, 1) ∧ decode c5 93 = .ok (.if_icmp .ne 7, 3) := by decide +kernel
theorem g5_15 : decode c5 96 = .ok (.iconst 1, 1) ∧ decode c5 97 = .ok (.goto 4, 3) ∧ decode c5 101 = .ok (.ireturn, 1) := by decide +kernel
abbrev r4_1_10_53 : Room := { frames := 4, cells := 1, slots := 10, locals := 53 }
abbrev y36_ : MethodName := ⟨"com/example/tessera/tessera/sql/SqlTextPagedPinLaw", "ok", "(Ljava/lang/String;IJI)Z"⟩
def Q_ok (Z : State) (t : Addr) (tb : Addr) (tk : ClassId) (z : Nat) (ys : List Value) (i : Nat) (m : Nat) (k : Nat) (fo : Value) (cs : Int32) (da : Addr) (ea : Addr) (h0 : Heap) (n0 : Nat) (xv : Option Value) (xh : Heap) (xL : List Loc) : Prop := xv = some (.int (1 : Int32)) ∧ Fr n0 xL ∧ Keep h0 xh []
abbrev Lc_ok_0 (t : Addr) (i : Nat) (m : Nat) (k : Nat) : Array Slot := #[.val (.ref t), .val (.int (iN i)), .val (.long (jN m)), .second, .val (.int (iN k)), .unset, .unset]
abbrev Lc_ok_1 (t : Addr) (i : Nat) (m : Nat) (k : Nat) (b101 : Addr) : Array Slot := #[.val (.ref t), .val (.int (iN i)), .val (.long (jN m)), .second, .val (.int (iN k)), .val (.ref b101), .unset]
abbrev Lc_ok_2 (t : Addr) (i : Nat) (m : Nat) (k : Nat) (b101 : Addr) : Array Slot := #[.val (.ref t), .val (.int (iN i)), .val (.long (jN m)), .second, .val (.int (iN k)), .val (.ref b101), .val (.int (iN (m / 10 ^ k % 10)))]
theorem ef_ok (mM : MethodId) (t : Addr) (tb : Addr) (tk : ClassId) (z : Nat) (ys : List Value) (i : Nat) (m : Nat) (k : Nat) (fo : Value) (cs : Int32) (da : Addr) (ea : Addr) : entryFrame mM #[(.ref t), (.int (iN i)), (.long (jN m)), (.int (iN k))] 7 = mkF mM 0 #[.val (.ref t), .val (.int (iN i)), .val (.long (jN m)), .second, .val (.int (iN k)), .unset, .unset] [] := by
  first | (simp [entryFrame, mkF, argsToLocals, Value.category]; done) | rfl
theorem rm_ok (hw : HW a0 Z) (ws : List Jvm.Cond) (t : Addr) (tb : Addr) (tk : ClassId) (z : Nat) (ys : List Value) (i : Nat) (m : Nat) (k : Nat) (fo : Value) (cs : Int32) (da : Addr) (ea : Addr) (h0 : Heap) (n0 : Nat) (Z0 : n0 ≤ h0.size) (A_t : StrA Z h0 t tb tk z ys) (SX : Sts Z cs fo da ea) (OL : Old Z n0 h0) (hat : LatAt z ys i (iN (48 + m / 10 ^ k % 10))) (hk : k ≤ 9) (hm : m < 10000000000) :
    MF l y36_ method_5_code 7 (some .boolean) ws r4_1_10_53 #[(.ref t), (.int (iN i)), (.long (jN m)), (.int (iN k))] Z h0 (Q_ok Z t tb tk z ys i m k fo cs da ea h0 n0) := by
  refine MetFree.of_bodySF (plainFor_of_name pn_com_example_tessera_tessera_sql_SqlTextPagedPinLaw) hisR ?_
  intro pP eE sS mM aS bS mS cC s₁ Bd hml0 hP hK
  obtain ⟨rfl, hZ, hh⟩ := hP
  have hx := Bd.exec
  have hj := Bd.bytes
  have hml : cC.maxLocals = 7 := hml0
  have hown : sS.vm.findClass "com/example/tessera/tessera/sql/SqlTextPagedPinLaw" = some mM.cls := findClass_of_methodNamed Bd.named
  have X0 : Stand pP l eE r4_1_10_53 sS mM _ bS mS cC s₁ [] 0 0 := Stand.of_body Bd
  have e0 : s₁.heap = h0 := by rw [← hh, Bd.state]; rfl
  have N0 := Fr.nil n0
  have hd := Nat.div_le_self m (10 ^ k)
  obtain ⟨T101, h101, k101, X101, e101, E101, A101, st101⟩ := newP X0 hx hZ (wi hw 232 rfl) e0 (g := (mkF mM 2 (Lc_ok_0 t i m k) [(.int (10 : Int32))])) rfl (hb hj g5_0.2.1) rfl (by decide) (cap := 10) (by decide) (by decide) (by decide) (by decide)
  obtain ⟨b101, g101⟩ : ∃ z : Nat, z = h0.size := ⟨_, rfl⟩
  rw [← g101] at A101 st101
  have Sz1 : h0.size ≤ h101.size := E101.1
  have V_b101 : Arv Z h101 b101 k101 .long (10 : Int32) [(.long (0 : Int64)), (.long (0 : Int64)), (.long (0 : Int64)), (.long (0 : Int64)), (.long (0 : Int64)), (.long (0 : Int64)), (.long (0 : Int64)), (.long (0 : Int64)), (.long (0 : Int64)), (.long (0 : Int64))] (.long (0 : Int64)) := (Arv.new A101 (by decide)).pad (pad_rep [] (.long (0 : Int64)) 10)
  obtain ⟨cl102, Ar102, q102, S102, Ng102, Ha102, Ga102⟩ := id V_b101
  have hin102 : ¬ ((0 : Int32) < 0 ∨ cl102.slots.size ≤ ((0 : Int32)).toNatClampNeg) := inb_of S102 ⟨by decide, by decide⟩
  obtain ⟨T103, h103, X103, e103, W103, st103⟩ := stJ X101 hx hZ e101 Ar102 (j := (0 : Int32)) hin102 (g := (mkF mM 7 (Lc_ok_0 t i m k) [(.long (1 : Int64)), (.int (0 : Int32)), (.ref b101), (.ref b101)])) rfl rfl (hb hj g5_1.2.1)
  have ge104_b101 : @LE.le Nat _ n0 b101 := by omega
  have Sz2 : h101.size ≤ h103.size := Nat.le_of_eq (Wr.size W103).symm
  have Vs103 := Arv.set Ar102 q102 S102 Ng102 Ha102 Ga102 rfl W103 0 rfl (Nat.le_of_ble_eq_true rfl)
  have Vt103 : Arv Z h103 b101 k101 .long (10 : Int32) [(.long (1 : Int64)), (.long (0 : Int64)), (.long (0 : Int64)), (.long (0 : Int64)), (.long (0 : Int64)), (.long (0 : Int64)), (.long (0 : Int64)), (.long (0 : Int64)), (.long (0 : Int64)), (.long (0 : Int64))] (.long (0 : Int64)) := Vs103
  have N103 := Fr.snoc X103 N0 ge104_b101
  obtain ⟨cl105, Ar105, q105, S105, Ng105, Ha105, Ga105⟩ := id Vt103
  have hin105 : ¬ ((1 : Int32) < 0 ∨ cl105.slots.size ≤ ((1 : Int32)).toNatClampNeg) := inb_of S105 ⟨by decide, by decide⟩
  obtain ⟨T106, h106, X106, e106, W106, st106⟩ := stJ X103 hx hZ e103 Ar105 (j := (1 : Int32)) hin105 (g := (mkF mM 13 (Lc_ok_0 t i m k) [(.long (10 : Int64)), (.int (1 : Int32)), (.ref b101), (.ref b101)])) rfl rfl (hb hj g5_2.2.1)
  have Sz3 : h103.size ≤ h106.size := Nat.le_of_eq (Wr.size W106).symm
  have Vs106 := Arv.set Ar105 q105 S105 Ng105 Ha105 Ga105 rfl W106 1 rfl (Nat.le_of_ble_eq_true rfl)
  have Vt106 : Arv Z h106 b101 k101 .long (10 : Int32) [(.long (1 : Int64)), (.long (10 : Int64)), (.long (0 : Int64)), (.long (0 : Int64)), (.long (0 : Int64)), (.long (0 : Int64)), (.long (0 : Int64)), (.long (0 : Int64)), (.long (0 : Int64)), (.long (0 : Int64))] (.long (0 : Int64)) := Vs106
  have N106 := Fr.snoc X106 N103 ge104_b101
  obtain ⟨cl107, Ar107, q107, S107, Ng107, Ha107, Ga107⟩ := id Vt106
  have hin107 : ¬ ((2 : Int32) < 0 ∨ cl107.slots.size ≤ ((2 : Int32)).toNatClampNeg) := inb_of S107 ⟨by decide, by decide⟩
  obtain ⟨T108, h108, X108, e108, W108, st108⟩ := stJ X106 hx hZ e106 Ar107 (j := (2 : Int32)) hin107 (g := (mkF mM 19 (Lc_ok_0 t i m k) [(.long (100 : Int64)), (.int (2 : Int32)), (.ref b101), (.ref b101)])) rfl rfl (hb hj g5_3.2.1)
  have Sz4 : h106.size ≤ h108.size := Nat.le_of_eq (Wr.size W108).symm
  have Vs108 := Arv.set Ar107 q107 S107 Ng107 Ha107 Ga107 rfl W108 2 rfl (Nat.le_of_ble_eq_true rfl)
  have Vt108 : Arv Z h108 b101 k101 .long (10 : Int32) [(.long (1 : Int64)), (.long (10 : Int64)), (.long (100 : Int64)), (.long (0 : Int64)), (.long (0 : Int64)), (.long (0 : Int64)), (.long (0 : Int64)), (.long (0 : Int64)), (.long (0 : Int64)), (.long (0 : Int64))] (.long (0 : Int64)) := Vs108
  have N108 := Fr.snoc X108 N106 ge104_b101
  obtain ⟨cl109, Ar109, q109, S109, Ng109, Ha109, Ga109⟩ := id Vt108
  have hin109 : ¬ ((3 : Int32) < 0 ∨ cl109.slots.size ≤ ((3 : Int32)).toNatClampNeg) := inb_of S109 ⟨by decide, by decide⟩
  obtain ⟨T110, h110, X110, e110, W110, st110⟩ := stJ X108 hx hZ e108 Ar109 (j := (3 : Int32)) hin109 (g := (mkF mM 25 (Lc_ok_0 t i m k) [(.long (1000 : Int64)), (.int (3 : Int32)), (.ref b101), (.ref b101)])) rfl rfl (hb hj g5_4.2.1)
  have Sz5 : h108.size ≤ h110.size := Nat.le_of_eq (Wr.size W110).symm
  have Vs110 := Arv.set Ar109 q109 S109 Ng109 Ha109 Ga109 rfl W110 3 rfl (Nat.le_of_ble_eq_true rfl)
  have Vt110 : Arv Z h110 b101 k101 .long (10 : Int32) [(.long (1 : Int64)), (.long (10 : Int64)), (.long (100 : Int64)), (.long (1000 : Int64)), (.long (0 : Int64)), (.long (0 : Int64)), (.long (0 : Int64)), (.long (0 : Int64)), (.long (0 : Int64)), (.long (0 : Int64))] (.long (0 : Int64)) := Vs110
  have N110 := Fr.snoc X110 N108 ge104_b101
  obtain ⟨cl111, Ar111, q111, S111, Ng111, Ha111, Ga111⟩ := id Vt110
  have hin111 : ¬ ((4 : Int32) < 0 ∨ cl111.slots.size ≤ ((4 : Int32)).toNatClampNeg) := inb_of S111 ⟨by decide, by decide⟩
  obtain ⟨T112, h112, X112, e112, W112, st112⟩ := stJ X110 hx hZ e110 Ar111 (j := (4 : Int32)) hin111 (g := (mkF mM 31 (Lc_ok_0 t i m k) [(.long (10000 : Int64)), (.int (4 : Int32)), (.ref b101), (.ref b101)])) rfl rfl (hb hj g5_5.2.1)
  have Sz6 : h110.size ≤ h112.size := Nat.le_of_eq (Wr.size W112).symm
  have Vs112 := Arv.set Ar111 q111 S111 Ng111 Ha111 Ga111 rfl W112 4 rfl (Nat.le_of_ble_eq_true rfl)
  have Vt112 : Arv Z h112 b101 k101 .long (10 : Int32) [(.long (1 : Int64)), (.long (10 : Int64)), (.long (100 : Int64)), (.long (1000 : Int64)), (.long (10000 : Int64)), (.long (0 : Int64)), (.long (0 : Int64)), (.long (0 : Int64)), (.long (0 : Int64)), (.long (0 : Int64))] (.long (0 : Int64)) := Vs112
  have N112 := Fr.snoc X112 N110 ge104_b101
  obtain ⟨cl113, Ar113, q113, S113, Ng113, Ha113, Ga113⟩ := id Vt112
  have hin113 : ¬ ((5 : Int32) < 0 ∨ cl113.slots.size ≤ ((5 : Int32)).toNatClampNeg) := inb_of S113 ⟨by decide, by decide⟩
  obtain ⟨T114, h114, X114, e114, W114, st114⟩ := stJ X112 hx hZ e112 Ar113 (j := (5 : Int32)) hin113 (g := (mkF mM 37 (Lc_ok_0 t i m k) [(.long (100000 : Int64)), (.int (5 : Int32)), (.ref b101), (.ref b101)])) rfl rfl (hb hj g5_6.2.1)
  have Sz7 : h112.size ≤ h114.size := Nat.le_of_eq (Wr.size W114).symm
  have Vs114 := Arv.set Ar113 q113 S113 Ng113 Ha113 Ga113 rfl W114 5 rfl (Nat.le_of_ble_eq_true rfl)
  have Vt114 : Arv Z h114 b101 k101 .long (10 : Int32) [(.long (1 : Int64)), (.long (10 : Int64)), (.long (100 : Int64)), (.long (1000 : Int64)), (.long (10000 : Int64)), (.long (100000 : Int64)), (.long (0 : Int64)), (.long (0 : Int64)), (.long (0 : Int64)), (.long (0 : Int64))] (.long (0 : Int64)) := Vs114
  have N114 := Fr.snoc X114 N112 ge104_b101
  obtain ⟨cl115, Ar115, q115, S115, Ng115, Ha115, Ga115⟩ := id Vt114
  have hin115 : ¬ ((6 : Int32) < 0 ∨ cl115.slots.size ≤ ((6 : Int32)).toNatClampNeg) := inb_of S115 ⟨by decide, by decide⟩
  obtain ⟨T116, h116, X116, e116, W116, st116⟩ := stJ X114 hx hZ e114 Ar115 (j := (6 : Int32)) hin115 (g := (mkF mM 44 (Lc_ok_0 t i m k) [(.long (1000000 : Int64)), (.int (6 : Int32)), (.ref b101), (.ref b101)])) rfl rfl (hb hj g5_7.2.1)
  have Sz8 : h114.size ≤ h116.size := Nat.le_of_eq (Wr.size W116).symm
  have Vs116 := Arv.set Ar115 q115 S115 Ng115 Ha115 Ga115 rfl W116 6 rfl (Nat.le_of_ble_eq_true rfl)
  have Vt116 : Arv Z h116 b101 k101 .long (10 : Int32) [(.long (1 : Int64)), (.long (10 : Int64)), (.long (100 : Int64)), (.long (1000 : Int64)), (.long (10000 : Int64)), (.long (100000 : Int64)), (.long (1000000 : Int64)), (.long (0 : Int64)), (.long (0 : Int64)), (.long (0 : Int64))] (.long (0 : Int64)) := Vs116
  have N116 := Fr.snoc X116 N114 ge104_b101
  obtain ⟨cl117, Ar117, q117, S117, Ng117, Ha117, Ga117⟩ := id Vt116
  have hin117 : ¬ ((7 : Int32) < 0 ∨ cl117.slots.size ≤ ((7 : Int32)).toNatClampNeg) := inb_of S117 ⟨by decide, by decide⟩
  obtain ⟨T118, h118, X118, e118, W118, st118⟩ := stJ X116 hx hZ e116 Ar117 (j := (7 : Int32)) hin117 (g := (mkF mM 51 (Lc_ok_0 t i m k) [(.long (10000000 : Int64)), (.int (7 : Int32)), (.ref b101), (.ref b101)])) rfl rfl (hb hj g5_8.2.1)
  have Sz9 : h116.size ≤ h118.size := Nat.le_of_eq (Wr.size W118).symm
  have Vs118 := Arv.set Ar117 q117 S117 Ng117 Ha117 Ga117 rfl W118 7 rfl (Nat.le_of_ble_eq_true rfl)
  have Vt118 : Arv Z h118 b101 k101 .long (10 : Int32) [(.long (1 : Int64)), (.long (10 : Int64)), (.long (100 : Int64)), (.long (1000 : Int64)), (.long (10000 : Int64)), (.long (100000 : Int64)), (.long (1000000 : Int64)), (.long (10000000 : Int64)), (.long (0 : Int64)), (.long (0 : Int64))] (.long (0 : Int64)) := Vs118
  have N118 := Fr.snoc X118 N116 ge104_b101
  obtain ⟨cl119, Ar119, q119, S119, Ng119, Ha119, Ga119⟩ := id Vt118
  have hin119 : ¬ ((8 : Int32) < 0 ∨ cl119.slots.size ≤ ((8 : Int32)).toNatClampNeg) := inb_of S119 ⟨by decide, by decide⟩
  obtain ⟨T120, h120, X120, e120, W120, st120⟩ := stJ X118 hx hZ e118 Ar119 (j := (8 : Int32)) hin119 (g := (mkF mM 58 (Lc_ok_0 t i m k) [(.long (100000000 : Int64)), (.int (8 : Int32)), (.ref b101), (.ref b101)])) rfl rfl (hb hj g5_9.2.1)
  have Sz10 : h118.size ≤ h120.size := Nat.le_of_eq (Wr.size W120).symm
  have Vs120 := Arv.set Ar119 q119 S119 Ng119 Ha119 Ga119 rfl W120 8 rfl (Nat.le_of_ble_eq_true rfl)
  have Vt120 : Arv Z h120 b101 k101 .long (10 : Int32) [(.long (1 : Int64)), (.long (10 : Int64)), (.long (100 : Int64)), (.long (1000 : Int64)), (.long (10000 : Int64)), (.long (100000 : Int64)), (.long (1000000 : Int64)), (.long (10000000 : Int64)), (.long (100000000 : Int64)), (.long (0 : Int64))] (.long (0 : Int64)) := Vs120
  have N120 := Fr.snoc X120 N118 ge104_b101
  obtain ⟨cl121, Ar121, q121, S121, Ng121, Ha121, Ga121⟩ := id Vt120
  have hin121 : ¬ ((9 : Int32) < 0 ∨ cl121.slots.size ≤ ((9 : Int32)).toNatClampNeg) := inb_of S121 ⟨by decide, by decide⟩
  obtain ⟨T122, h122, X122, e122, W122, st122⟩ := stJ X120 hx hZ e120 Ar121 (j := (9 : Int32)) hin121 (g := (mkF mM 65 (Lc_ok_0 t i m k) [(.long (1000000000 : Int64)), (.int (9 : Int32)), (.ref b101), (.ref b101)])) rfl rfl (hb hj g5_10.2.1)
  have Sz11 : h120.size ≤ h122.size := Nat.le_of_eq (Wr.size W122).symm
  have Vs122 := Arv.set Ar121 q121 S121 Ng121 Ha121 Ga121 rfl W122 9 rfl (Nat.le_of_ble_eq_true rfl)
  have Vt122 : Arv Z h122 b101 k101 .long (10 : Int32) [(.long (1 : Int64)), (.long (10 : Int64)), (.long (100 : Int64)), (.long (1000 : Int64)), (.long (10000 : Int64)), (.long (100000 : Int64)), (.long (1000000 : Int64)), (.long (10000000 : Int64)), (.long (100000000 : Int64)), (.long (1000000000 : Int64))] (.long (0 : Int64)) := Vs122
  have N122 := Fr.snoc X122 N120 ge104_b101
  obtain ⟨cl123, Ar123, q123, S123, Ng123, Ha123, Ga123⟩ := id Vt122
  have hin123 : ¬ ((iN k) < 0 ∨ cl123.slots.size ≤ ((iN k)).toNatClampNeg) := inb_of S123 ⟨iN_nn (by omega), (iN_lt (a := k) (b := 10) (by omega) (by omega)).mpr (by omega)⟩
  have hat123 : cl123.slots[((iN k)).toNatClampNeg]? = some (.long (jN (10 ^ k))) := Ha123.at hin123 (own_pw hk)
  have c125_A_t : StrA Z h101 t tb tk z ys := StrA.ext E101 A_t
  have lt_t : @LT.lt Nat _ t h0.size := A_t.1.lt
  have lt_b101 : @LT.lt Nat _ b101 h101.size := V_b101.lt
  have ne_t_b101_126 : t ≠ b101 := (by omega : @Ne Nat t b101)
  have lt_tb : @LT.lt Nat _ tb h0.size := A_t.2.2.2.lt
  have ne_tb_b101_127 : tb ≠ b101 := (by omega : @Ne Nat tb b101)
  have c128_A_t : StrA Z h103 t tb tk z ys := StrA.wr W103 c125_A_t ne_t_b101_126 ne_tb_b101_127
  have c129_A_t : StrA Z h106 t tb tk z ys := StrA.wr W106 c128_A_t ne_t_b101_126 ne_tb_b101_127
  have c130_A_t : StrA Z h108 t tb tk z ys := StrA.wr W108 c129_A_t ne_t_b101_126 ne_tb_b101_127
  have c131_A_t : StrA Z h110 t tb tk z ys := StrA.wr W110 c130_A_t ne_t_b101_126 ne_tb_b101_127
  have c132_A_t : StrA Z h112 t tb tk z ys := StrA.wr W112 c131_A_t ne_t_b101_126 ne_tb_b101_127
  have c133_A_t : StrA Z h114 t tb tk z ys := StrA.wr W114 c132_A_t ne_t_b101_126 ne_tb_b101_127
  have c134_A_t : StrA Z h116 t tb tk z ys := StrA.wr W116 c133_A_t ne_t_b101_126 ne_tb_b101_127
  have c135_A_t : StrA Z h118 t tb tk z ys := StrA.wr W118 c134_A_t ne_t_b101_126 ne_tb_b101_127
  have c136_A_t : StrA Z h120 t tb tk z ys := StrA.wr W120 c135_A_t ne_t_b101_126 ne_tb_b101_127
  have c137_A_t : StrA Z h122 t tb tk z ys := StrA.wr W122 c136_A_t ne_t_b101_126 ne_tb_b101_127
  have c138_OL : Old Z n0 h101 := OL.ext E101
  have c139_OL : Old Z n0 h103 := c138_OL.wr W103 ge104_b101
  have c140_OL : Old Z n0 h106 := c139_OL.wr W106 ge104_b101
  have c141_OL : Old Z n0 h108 := c140_OL.wr W108 ge104_b101
  have c142_OL : Old Z n0 h110 := c141_OL.wr W110 ge104_b101
  have c143_OL : Old Z n0 h112 := c142_OL.wr W112 ge104_b101
  have c144_OL : Old Z n0 h114 := c143_OL.wr W114 ge104_b101
  have c145_OL : Old Z n0 h116 := c144_OL.wr W116 ge104_b101
  have c146_OL : Old Z n0 h118 := c145_OL.wr W118 ge104_b101
  have c147_OL : Old Z n0 h120 := c146_OL.wr W120 ge104_b101
  have c148_OL : Old Z n0 h122 := c147_OL.wr W122 ge104_b101
  obtain ⟨T124, L124, X124, e124, N124, st124⟩ := cw_charAt_S5037 l Z a0 hw t tb tk z ys i (iN (48 + m / 10 ^ k % 10)) fo cs da ea h122 n0 (by omega) hx hZ hown X122 e122 N122 (by decide) (by decide) c137_A_t SX c148_OL hat (g := (mkF mM 84 (Lc_ok_2 t i m k b101) [(.int (iN i)), (.ref t)])) rfl hml.symm rfl (hb hj g5_13.2.2.1) (W := 0) (W0 rfl) (by decide) (by decide)
  have K149 : Keep h0 h101 [] := (Keep.refl h0 []).ext E101
  have K150 : Keep h0 h103 [] := K149.wr W103 (Or.inr (by omega : @LE.le Nat _ h0.size b101))
  have K151 : Keep h0 h106 [] := K150.wr W106 (Or.inr (by omega : @LE.le Nat _ h0.size b101))
  have K152 : Keep h0 h108 [] := K151.wr W108 (Or.inr (by omega : @LE.le Nat _ h0.size b101))
  have K153 : Keep h0 h110 [] := K152.wr W110 (Or.inr (by omega : @LE.le Nat _ h0.size b101))
  have K154 : Keep h0 h112 [] := K153.wr W112 (Or.inr (by omega : @LE.le Nat _ h0.size b101))
  have K155 : Keep h0 h114 [] := K154.wr W114 (Or.inr (by omega : @LE.le Nat _ h0.size b101))
  have K156 : Keep h0 h116 [] := K155.wr W116 (Or.inr (by omega : @LE.le Nat _ h0.size b101))
  have K157 : Keep h0 h118 [] := K156.wr W118 (Or.inr (by omega : @LE.le Nat _ h0.size b101))
  have K158 : Keep h0 h120 [] := K157.wr W120 (Or.inr (by omega : @LE.le Nat _ h0.size b101))
  have K159 : Keep h0 h122 [] := K158.wr W122 (Or.inr (by omega : @LE.le Nat _ h0.size b101))
  obtain ⟨fs, hr, hrun, hended, hW, hsame⟩ := X124.leave (v := some (.int (1 : Int32))) (fun h => by rw [Bd.returns] at h; cases h)
  refine ⟨_, _, castTop (ef_ok mM t tb tk z ys i m k fo cs da ea) ?_, hrun, hended, _, _, rfl, ?_, ⟨_, rfl⟩, hW, hsame.mono (by decide) (by decide)⟩
  · show SS pP eE bS s₁ (mkF mM 0 (Lc_ok_0 t i m k) []) _
    refine XS.bipush X0.here hx rfl (hb hj g5_0.1) ?_
    refine st101 _ ?_
    refine XS.dup X101.here hx rfl (hb hj g5_0.2.2.1) rfl rfl ?_
    refine XS.iconst X101.here hx rfl (hb hj g5_0.2.2.2) ?_
    refine XS.lconst X101.here hx rfl (hb hj g5_1.1) ?_
    refine st103 _ ?_
    refine XS.dup X103.here hx rfl (hb hj g5_1.2.2.1) rfl rfl ?_
    refine XS.iconst X103.here hx rfl (hb hj g5_1.2.2.2) ?_
    refine X103.ldc2Long hx hown (mvT hZ (wi hw 191 rfl)) (g := (mkF mM 10 (Lc_ok_0 t i m k) [(.int (1 : Int32)), (.ref b101), (.ref b101)])) rfl (hb hj g5_2.1) _ ?_
    refine st106 _ ?_
    refine XS.dup X106.here hx rfl (hb hj g5_2.2.2.1) rfl rfl ?_
    refine XS.iconst X106.here hx rfl (hb hj g5_2.2.2.2) ?_
    refine X106.ldc2Long hx hown (mvT hZ (wi hw 192 rfl)) (g := (mkF mM 16 (Lc_ok_0 t i m k) [(.int (2 : Int32)), (.ref b101), (.ref b101)])) rfl (hb hj g5_3.1) _ ?_
    refine st108 _ ?_
    refine XS.dup X108.here hx rfl (hb hj g5_3.2.2.1) rfl rfl ?_
    refine XS.iconst X108.here hx rfl (hb hj g5_3.2.2.2) ?_
    refine X108.ldc2Long hx hown (mvT hZ (wi hw 193 rfl)) (g := (mkF mM 22 (Lc_ok_0 t i m k) [(.int (3 : Int32)), (.ref b101), (.ref b101)])) rfl (hb hj g5_4.1) _ ?_
    refine st110 _ ?_
    refine XS.dup X110.here hx rfl (hb hj g5_4.2.2.1) rfl rfl ?_
    refine XS.iconst X110.here hx rfl (hb hj g5_4.2.2.2) ?_
    refine X110.ldc2Long hx hown (mvT hZ (wi hw 194 rfl)) (g := (mkF mM 28 (Lc_ok_0 t i m k) [(.int (4 : Int32)), (.ref b101), (.ref b101)])) rfl (hb hj g5_5.1) _ ?_
    refine st112 _ ?_
    refine XS.dup X112.here hx rfl (hb hj g5_5.2.2.1) rfl rfl ?_
    refine XS.iconst X112.here hx rfl (hb hj g5_5.2.2.2) ?_
    refine X112.ldc2Long hx hown (mvT hZ (wi hw 195 rfl)) (g := (mkF mM 34 (Lc_ok_0 t i m k) [(.int (5 : Int32)), (.ref b101), (.ref b101)])) rfl (hb hj g5_6.1) _ ?_
    refine st114 _ ?_
    refine XS.dup X114.here hx rfl (hb hj g5_6.2.2.1) rfl rfl ?_
    refine XS.bipush X114.here hx rfl (hb hj g5_6.2.2.2) ?_
    refine X114.ldc2Long hx hown (mvT hZ (wi hw 196 rfl)) (g := (mkF mM 41 (Lc_ok_0 t i m k) [(.int (6 : Int32)), (.ref b101), (.ref b101)])) rfl (hb hj g5_7.1) _ ?_
    refine st116 _ ?_
    refine XS.dup X116.here hx rfl (hb hj g5_7.2.2.1) rfl rfl ?_
    refine XS.bipush X116.here hx rfl (hb hj g5_7.2.2.2) ?_
    refine X116.ldc2Long hx hown (mvT hZ (wi hw 197 rfl)) (g := (mkF mM 48 (Lc_ok_0 t i m k) [(.int (7 : Int32)), (.ref b101), (.ref b101)])) rfl (hb hj g5_8.1) _ ?_
    refine st118 _ ?_
    refine XS.dup X118.here hx rfl (hb hj g5_8.2.2.1) rfl rfl ?_
    refine XS.bipush X118.here hx rfl (hb hj g5_8.2.2.2) ?_
    refine X118.ldc2Long hx hown (mvT hZ (wi hw 198 rfl)) (g := (mkF mM 55 (Lc_ok_0 t i m k) [(.int (8 : Int32)), (.ref b101), (.ref b101)])) rfl (hb hj g5_9.1) _ ?_
    refine st120 _ ?_
    refine XS.dup X120.here hx rfl (hb hj g5_9.2.2.1) rfl rfl ?_
    refine XS.bipush X120.here hx rfl (hb hj g5_9.2.2.2) ?_
    refine X120.ldc2Long hx hown (mvT hZ (wi hw 199 rfl)) (g := (mkF mM 62 (Lc_ok_0 t i m k) [(.int (9 : Int32)), (.ref b101), (.ref b101)])) rfl (hb hj g5_10.1) _ ?_
    refine st122 _ ?_
    refine XS.astore X122.here hx rfl (hb hj g5_10.2.2.1) rfl rfl (l' := (Lc_ok_1 t i m k b101)) rfl ?_
    refine XS.lloadN X122.here hx rfl (hb hj g5_10.2.2.2) rfl ?_
    refine XS.aload X122.here hx rfl (hb hj g5_11.1) rfl rfl ?_
    refine XS.iload X122.here hx rfl (hb hj g5_11.2.1) rfl ?_
    refine X122.laload hx (j := (iN k)) (v := (.long (jN (10 ^ k)))) (by rw [e122]; exact Ar123.1) (State.isArrayOf_alike hZ.alike Ar123.2.1) Ar123.2.2 hin123 hat123 (g := (mkF mM 73 (Lc_ok_1 t i m k b101) [(.int (iN k)), (.ref b101), (.long (jN m))])) rfl rfl (hb hj g5_11.2.2.1) _ ?_
    refine XS.ldiv X122.here hx rfl (hb hj g5_11.2.2.2) rfl (own_pnz hk : ¬ ((jN (10 ^ k)) = (0 : Int64))) ?_
    show SS pP eE bS T122 (mkF mM 75 (Lc_ok_1 t i m k b101) [(.long ((jN m) / (jN (10 ^ k))))]) _
    rw [show ((jN m) / (jN (10 ^ k))) = (jN (m / 10 ^ k)) from own_jdiv hm hk]
    refine X122.ldc2Long hx hown (mvT hZ (wi hw 191 rfl)) (g := (mkF mM 75 (Lc_ok_1 t i m k b101) [(.long (jN (m / 10 ^ k)))])) rfl (hb hj g5_12.1) _ ?_
    refine XS.lrem X122.here hx rfl (hb hj g5_12.2.1) rfl (by decide : ¬ ((10 : Int64) = (0 : Int64))) ?_
    show SS pP eE bS T122 (mkF mM 79 (Lc_ok_1 t i m k b101) [(.long ((jN (m / 10 ^ k)) - (jN (m / 10 ^ k)) / (10 : Int64) * (10 : Int64)))]) _
    rw [show ((jN (m / 10 ^ k)) - (jN (m / 10 ^ k)) / (10 : Int64) * (10 : Int64)) = (jN (m / 10 ^ k % 10)) from own_jmod (by omega)]
    refine XS.l2i X122.here hx rfl (hb hj g5_12.2.2.1) rfl ?_
    show SS pP eE bS T122 (mkF mM 80 (Lc_ok_1 t i m k b101) [(.int ((jN (m / 10 ^ k % 10)).toInt32))]) _
    rw [show ((jN (m / 10 ^ k % 10)).toInt32) = (iN (m / 10 ^ k % 10)) from own_jl2i (by omega)]
    refine XS.istore X122.here hx rfl (hb hj g5_12.2.2.2) rfl (l' := (Lc_ok_2 t i m k b101)) rfl ?_
    refine XS.aloadN X122.here hx rfl (hb hj g5_13.1) rfl rfl ?_
    refine XS.iloadN X122.here hx rfl (hb hj g5_13.2.1) rfl ?_
    refine st124 _ ?_
    refine XS.bipush X124.here hx rfl (hb hj g5_13.2.2.2) ?_
    refine XS.iload X124.here hx rfl (hb hj g5_14.1) rfl ?_
    refine XS.iadd X124.here hx rfl (hb hj g5_14.2.1) rfl ?_
    show SS pP eE bS T124 (mkF mM 92 (Lc_ok_2 t i m k b101) [(.int ((48 : Int32) + (iN (m / 10 ^ k % 10)))), (.int (iN (48 + m / 10 ^ k % 10)))]) _
    rw [show ((48 : Int32) + (iN (m / 10 ^ k % 10))) = (iN (48 + m / 10 ^ k % 10)) from iN_add 48 _]
    refine XS.i2c X124.here hx rfl (hb hj g5_14.2.2.1) rfl ?_
    show SS pP eE bS T124 (mkF mM 93 (Lc_ok_2 t i m k b101) [(.int ((iN (48 + m / 10 ^ k % 10)).toUInt32.toUInt16.toUInt32.toInt32)), (.int (iN (48 + m / 10 ^ k % 10)))]) _
    rw [show ((iN (48 + m / 10 ^ k % 10)).toUInt32.toUInt16.toUInt32.toInt32) = (iN (48 + m / 10 ^ k % 10)) from own_i2cN (by omega)]
    refine XS.icmpNo X124.here hx rfl (hb hj g5_14.2.2.2) rfl (teq (rfl : (iN (48 + m / 10 ^ k % 10)) = (iN (48 + m / 10 ^ k % 10)))).2 ?_
    refine XS.iconst X124.here hx rfl (hb hj g5_15.1) ?_
    refine XS.goto X124.here hx rfl (pc0 := 97) (pc' := 101) rfl (hb hj g5_15.2.1) (by decide) (by decide) ?_
    exact retN X124 hx (t := .boolean) Bd.returns (by simp) (hb hj g5_15.2.2) hr
  · show Q_ok Z t tb tk z ys i m k fo cs da ea h0 n0 _ T124.heap _
    rw [e124]
    exact ⟨rfl, N124, K159⟩
abbrev c33_13 := jdk_33_method_13_code
theorem g33_13_3 : decode c33_13 15 = .ok (.istore_n 3, 1) ∧ decode c33_13 16 = .ok (.iload_n 3, 1) ∧ decode c33_13 17 = .ok (.bipush 10, 2) ∧ decode c33_13 19 = .ok (.if_icmp .ge 23, 3) := by decide +kernel
theorem g33_13_4 : decode c33_13 22 = .ok (.iload_n 0, 1) ∧ decode c33_13 23 = .ok (.iload_n 2, 1) ∧ decode c33_13 24 = .ok (.if_icmp .le 7, 3) ∧ decode c33_13 27 = .ok (.iload_n 3, 1) := by decide +kernel
theorem g33_13_5 : decode c33_13 28 = .ok (.iload_n 1, 1) ∧ decode c33_13 29 = .ok (.iadd, 1) ∧ decode c33_13 30 = .ok (.ireturn, 1) ∧ decode c33_13 31 = .ok (.bipush 10, 2) := by decide +kernel
theorem g33_13_6 : decode c33_13 33 = .ok (.iload_n 2, 1) ∧ decode c33_13 34 = .ok (.imul, 1) ∧ decode c33_13 35 = .ok (.istore_n 2, 1) ∧ decode c33_13 36 = .ok (.iinc 3 1, 3) := by decide +kernel
theorem g33_13_7 : decode c33_13 39 = .ok (.goto (-23), 3) ∧ decode c33_13 42 = .ok (.bipush 10, 2) ∧ decode c33_13 44 = .ok (.iload_n 1, 1) ∧ decode c33_13 45 = .ok (.iadd, 1) := by decide +kernel
abbrev r1_0_0_20 : Room := { frames := 1, cells := 0, slots := 0, locals := 20 }
abbrev Lc_ss_t_0 (x : Int32) (d : Int32) (p2 : Int32) (i : Int32) : Array Slot := #[.val (.int x), .val (.int d), .val (.int p2), .val (.int (i + (1 : Int32)))]
theorem sg_ss_t (hw : HW a0 Z) (x : Int32) (d : Int32) (p : Int32) (p2 : Int32) (i : Int32) (i2 : Int32) (h0 : Heap) (n0 : Nat) (G : SG l Z pP eE r1_0_0_20 sS mM aS bS mS cC s₁ lc0 cl0 sl0 h0 n0 jdk_33_method_13_code 4 "java/lang/Integer" 0 0) (hi : i < (10 : Int32)) (hle : ¬ (p < x)) (hp : ((10 : Int32) * p) = p2) (hi2 : (i + (1 : Int32)) = i2) :
    ∃ T' L', Stand pP l eE r1_0_0_20 sS mM aS bS mS cC T' L' (cl0 + 0) (sl0 + 0) ∧ T'.heap = h0 ∧ Fr n0 L' ∧ ∀ t', SS pP eE bS T' (mkF mM 16 #[.val (.int x), .val (.int d), .val (.int p2), .val (.int i2)] []) t' → SS pP eE bS s₁ (mkF mM 16 #[.val (.int x), .val (.int d), .val (.int p), .val (.int i)] []) t' := by
  obtain ⟨Z0, hx, hj, hml, hZ, hown, X0, e0, N0, hcl, hsl⟩ := id G
  refine ⟨s₁, _, X0, e0, N0, fun t' hk' => ?_⟩
  show SS pP eE bS s₁ (mkF mM 16 #[.val (.int x), .val (.int d), .val (.int p), .val (.int i)] []) _
  refine XS.iloadN X0.here hx rfl (hb hj g33_13_3.2.1) rfl ?_
  refine XS.bipush X0.here hx rfl (hb hj g33_13_3.2.2.1) ?_
  refine XS.icmpNo X0.here hx rfl (hb hj g33_13_3.2.2.2) rfl (tlt (hi : i < (10 : Int32))).2.1 ?_
  refine XS.iloadN X0.here hx rfl (hb hj g33_13_4.1) rfl ?_
  refine XS.iloadN X0.here hx rfl (hb hj g33_13_4.2.1) rfl ?_
  refine XS.icmpYes X0.here hx rfl (pc0 := 24) (pc' := 31) rfl (hb hj g33_13_4.2.2.1) rfl (flt hle).2.2.2 (by decide) (by decide) ?_
  refine XS.bipush X0.here hx rfl (hb hj g33_13_5.2.2.2) ?_
  refine XS.iloadN X0.here hx rfl (hb hj g33_13_6.1) rfl ?_
  refine XS.imul X0.here hx rfl (hb hj g33_13_6.2.1) rfl ?_
  show SS pP eE bS s₁ (mkF mM 35 #[.val (.int x), .val (.int d), .val (.int p), .val (.int i)] [(.int ((10 : Int32) * p))]) _
  rw [show ((10 : Int32) * p) = p2 from hp]
  refine XS.istoreN X0.here hx rfl (hb hj g33_13_6.2.2.1) rfl (l' := #[.val (.int x), .val (.int d), .val (.int p2), .val (.int i)]) rfl ?_
  refine XS.iinc X0.here hx rfl (hb hj g33_13_6.2.2.2) rfl (l' := (Lc_ss_t_0 x d p2 i)) rfl ?_
  show SS pP eE bS s₁ (mkF mM 39 #[.val (.int x), .val (.int d), .val (.int p2), .val (.int (i + (1 : Int32)))] []) _
  rw [show (i + (1 : Int32)) = i2 from hi2]
  refine XS.goto X0.here hx rfl (pc0 := 39) (pc' := 16) rfl (hb hj g33_13_7.1) (by decide) (by decide) ?_
  exact hk'
abbrev Lc_ss_e9_0 (x : Int32) (d : Int32) : Array Slot := #[.val (.int x), .val (.int d), .val (.int (-1000000000 : Int32)), .val (.int (9 : Int32))]
theorem sg_ss_e9 (hw : HW a0 Z) (m : Nat) (x : Int32) (d : Int32) (h0 : Heap) (n0 : Nat) (G : SG l Z pP eE r1_0_0_20 sS mM aS bS mS cC s₁ lc0 cl0 sl0 h0 n0 jdk_33_method_13_code 4 "java/lang/Integer" 0 0) (hxm : x.toInt = -(m : Int)) (hk : m < 1000000000) (hnd : nd m = 9) :
    ∃ pe : Int32, ∃ T' L', Stand pP l eE r1_0_0_20 sS mM aS bS mS cC T' L' (cl0 + 0) (sl0 + 0) ∧ T'.heap = h0 ∧ Fr n0 L' ∧ ∀ t', SS pP eE bS T' (mkF mM 27 #[.val (.int x), .val (.int d), .val (.int pe), .val (.int (iN (nd m)))] []) t' → SS pP eE bS s₁ (mkF mM 16 #[.val (.int x), .val (.int d), .val (.int (-1000000000 : Int32)), .val (.int (9 : Int32))] []) t' := by
  obtain ⟨Z0, hx, hj, hml, hZ, hown, X0, e0, N0, hcl, hsl⟩ := id G
  refine ⟨(-1000000000 : Int32), s₁, _, X0, e0, N0, fun t' hk' => ?_⟩
  show SS pP eE bS s₁ (mkF mM 16 (Lc_ss_e9_0 x d) []) _
  refine XS.iloadN X0.here hx rfl (hb hj g33_13_3.2.1) rfl ?_
  refine XS.bipush X0.here hx rfl (hb hj g33_13_3.2.2.1) ?_
  refine XS.icmpNo X0.here hx rfl (hb hj g33_13_3.2.2.2) rfl (tlt (by decide : (9 : Int32) < (10 : Int32))).2.1 ?_
  refine XS.iloadN X0.here hx rfl (hb hj g33_13_4.1) rfl ?_
  refine XS.iloadN X0.here hx rfl (hb hj g33_13_4.2.1) rfl ?_
  refine XS.icmpNo X0.here hx rfl (hb hj g33_13_4.2.2.1) rfl (tlt (own_sslt (K := 1000000000) hxm hk (by decide) : (-1000000000 : Int32) < x)).2.2.2 ?_
  rw [show (iN (nd m)) = (9 : Int32) from by rw [hnd]; rfl] at hk'
  exact hk'
theorem sg_ss_l9 (hw : HW a0 Z) (m : Nat) (x : Int32) (d : Int32) (h0 : Heap) (n0 : Nat) (G : SG l Z pP eE r1_0_0_20 sS mM aS bS mS cC s₁ lc0 cl0 sl0 h0 n0 jdk_33_method_13_code 4 "java/lang/Integer" 0 0) (hxm : x.toInt = -(m : Int)) (hlo : 100000000 ≤ m) (hbd : m < 1000000000) :
    ∃ pe : Int32, ∃ T' L', Stand pP l eE r1_0_0_20 sS mM aS bS mS cC T' L' (cl0 + 0) (sl0 + 0) ∧ T'.heap = h0 ∧ Fr n0 L' ∧ ∀ t', SS pP eE bS T' (mkF mM 27 #[.val (.int x), .val (.int d), .val (.int pe), .val (.int (iN (nd m)))] []) t' → SS pP eE bS s₁ (mkF mM 16 #[.val (.int x), .val (.int d), .val (.int (-1000000000 : Int32)), .val (.int (9 : Int32))] []) t' := by
  by_cases hk : m < 1000000000
  · exact sg_ss_e9 l Z a0 hw m x d h0 n0 G hxm hk (by unfold nd; (repeat' split) <;> omega)
  · omega
abbrev Lc_ss_e8_0 (x : Int32) (d : Int32) : Array Slot := #[.val (.int x), .val (.int d), .val (.int (-100000000 : Int32)), .val (.int (8 : Int32))]
theorem sg_ss_e8 (hw : HW a0 Z) (m : Nat) (x : Int32) (d : Int32) (h0 : Heap) (n0 : Nat) (G : SG l Z pP eE r1_0_0_20 sS mM aS bS mS cC s₁ lc0 cl0 sl0 h0 n0 jdk_33_method_13_code 4 "java/lang/Integer" 0 0) (hxm : x.toInt = -(m : Int)) (hk : m < 100000000) (hnd : nd m = 8) :
    ∃ pe : Int32, ∃ T' L', Stand pP l eE r1_0_0_20 sS mM aS bS mS cC T' L' (cl0 + 0) (sl0 + 0) ∧ T'.heap = h0 ∧ Fr n0 L' ∧ ∀ t', SS pP eE bS T' (mkF mM 27 #[.val (.int x), .val (.int d), .val (.int pe), .val (.int (iN (nd m)))] []) t' → SS pP eE bS s₁ (mkF mM 16 #[.val (.int x), .val (.int d), .val (.int (-100000000 : Int32)), .val (.int (8 : Int32))] []) t' := by
  obtain ⟨Z0, hx, hj, hml, hZ, hown, X0, e0, N0, hcl, hsl⟩ := id G
  refine ⟨(-100000000 : Int32), s₁, _, X0, e0, N0, fun t' hk' => ?_⟩
  show SS pP eE bS s₁ (mkF mM 16 (Lc_ss_e8_0 x d) []) _
  refine XS.iloadN X0.here hx rfl (hb hj g33_13_3.2.1) rfl ?_
  refine XS.bipush X0.here hx rfl (hb hj g33_13_3.2.2.1) ?_
  refine XS.icmpNo X0.here hx rfl (hb hj g33_13_3.2.2.2) rfl (tlt (by decide : (8 : Int32) < (10 : Int32))).2.1 ?_
  refine XS.iloadN X0.here hx rfl (hb hj g33_13_4.1) rfl ?_
  refine XS.iloadN X0.here hx rfl (hb hj g33_13_4.2.1) rfl ?_
  refine XS.icmpNo X0.here hx rfl (hb hj g33_13_4.2.2.1) rfl (tlt (own_sslt (K := 100000000) hxm hk (by decide) : (-100000000 : Int32) < x)).2.2.2 ?_
  rw [show (iN (nd m)) = (8 : Int32) from by rw [hnd]; rfl] at hk'
  exact hk'
abbrev Lc_ss_n8_0 (x : Int32) (d : Int32) : Array Slot := #[.val (.int x), .val (.int d), .val (.int (-100000000 : Int32)), .val (.int (8 : Int32))]
abbrev Lc_ss_n8_1 (x : Int32) (d : Int32) (pe_102 : Int32) (m : Nat) : Array Slot := #[.val (.int x), .val (.int d), .val (.int pe_102), .val (.int (iN (nd m)))]
theorem sg_ss_n8 (hw : HW a0 Z) (m : Nat) (x : Int32) (d : Int32) (h0 : Heap) (n0 : Nat) (G : SG l Z pP eE r1_0_0_20 sS mM aS bS mS cC s₁ lc0 cl0 sl0 h0 n0 jdk_33_method_13_code 4 "java/lang/Integer" 0 0) (hxm : x.toInt = -(m : Int)) (hk : 100000000 ≤ m) (hbd : m < 1000000000) :
    ∃ pe : Int32, ∃ T' L', Stand pP l eE r1_0_0_20 sS mM aS bS mS cC T' L' (cl0 + 0) (sl0 + 0) ∧ T'.heap = h0 ∧ Fr n0 L' ∧ ∀ t', SS pP eE bS T' (mkF mM 27 #[.val (.int x), .val (.int d), .val (.int pe), .val (.int (iN (nd m)))] []) t' → SS pP eE bS s₁ (mkF mM 16 #[.val (.int x), .val (.int d), .val (.int (-100000000 : Int32)), .val (.int (8 : Int32))] []) t' := by
  obtain ⟨Z0, hx, hj, hml, hZ, hown, X0, e0, N0, hcl, hsl⟩ := id G
  obtain ⟨T101, L101, X101, e101, N101, st101⟩ := sg_ss_t l Z a0 hw x d (-100000000 : Int32) (-1000000000 : Int32) (8 : Int32) (9 : Int32) h0 n0 ⟨by omega, hx, hj, hml, hZ, hown, X0, e0, N0, segle (k := 0) hcl (by decide), segle (k := 0) hsl (by decide)⟩ (by decide) (own_ssle (K := 100000000) hxm hk (by decide)) (by decide) (by decide)
  obtain ⟨pe_102, T102, L102, X102, e102, N102, st102⟩ := sg_ss_l9 l Z a0 hw m x d h0 n0 ⟨by omega, hx, hj, hml, hZ, hown, X101, e101, N101, segle (k := 0) hcl (by decide), segle (k := 0) hsl (by decide)⟩ hxm (by omega) hbd
  refine ⟨pe_102, T102, _, X102, e102, N102, fun t' hk' => ?_⟩
  show SS pP eE bS s₁ (mkF mM 16 (Lc_ss_n8_0 x d) []) _
  refine st101 _ ?_
  refine st102 _ ?_
  exact hk'
theorem sg_ss_l8 (hw : HW a0 Z) (m : Nat) (x : Int32) (d : Int32) (h0 : Heap) (n0 : Nat) (G : SG l Z pP eE r1_0_0_20 sS mM aS bS mS cC s₁ lc0 cl0 sl0 h0 n0 jdk_33_method_13_code 4 "java/lang/Integer" 0 0) (hxm : x.toInt = -(m : Int)) (hlo : 10000000 ≤ m) (hbd : m < 1000000000) :
    ∃ pe : Int32, ∃ T' L', Stand pP l eE r1_0_0_20 sS mM aS bS mS cC T' L' (cl0 + 0) (sl0 + 0) ∧ T'.heap = h0 ∧ Fr n0 L' ∧ ∀ t', SS pP eE bS T' (mkF mM 27 #[.val (.int x), .val (.int d), .val (.int pe), .val (.int (iN (nd m)))] []) t' → SS pP eE bS s₁ (mkF mM 16 #[.val (.int x), .val (.int d), .val (.int (-100000000 : Int32)), .val (.int (8 : Int32))] []) t' := by
  by_cases hk : m < 100000000
  · exact sg_ss_e8 l Z a0 hw m x d h0 n0 G hxm hk (by unfold nd; (repeat' split) <;> omega)
  · exact sg_ss_n8 l Z a0 hw m x d h0 n0 G hxm (by omega) hbd
abbrev Lc_ss_e7_0 (x : Int32) (d : Int32) : Array Slot := #[.val (.int x), .val (.int d), .val (.int (-10000000 : Int32)), .val (.int (7 : Int32))]
theorem sg_ss_e7 (hw : HW a0 Z) (m : Nat) (x : Int32) (d : Int32) (h0 : Heap) (n0 : Nat) (G : SG l Z pP eE r1_0_0_20 sS mM aS bS mS cC s₁ lc0 cl0 sl0 h0 n0 jdk_33_method_13_code 4 "java/lang/Integer" 0 0) (hxm : x.toInt = -(m : Int)) (hk : m < 10000000) (hnd : nd m = 7) :
    ∃ pe : Int32, ∃ T' L', Stand pP l eE r1_0_0_20 sS mM aS bS mS cC T' L' (cl0 + 0) (sl0 + 0) ∧ T'.heap = h0 ∧ Fr n0 L' ∧ ∀ t', SS pP eE bS T' (mkF mM 27 #[.val (.int x), .val (.int d), .val (.int pe), .val (.int (iN (nd m)))] []) t' → SS pP eE bS s₁ (mkF mM 16 #[.val (.int x), .val (.int d), .val (.int (-10000000 : Int32)), .val (.int (7 : Int32))] []) t' := by
  obtain ⟨Z0, hx, hj, hml, hZ, hown, X0, e0, N0, hcl, hsl⟩ := id G
  refine ⟨(-10000000 : Int32), s₁, _, X0, e0, N0, fun t' hk' => ?_⟩
  show SS pP eE bS s₁ (mkF mM 16 (Lc_ss_e7_0 x d) []) _
  refine XS.iloadN X0.here hx rfl (hb hj g33_13_3.2.1) rfl ?_
  refine XS.bipush X0.here hx rfl (hb hj g33_13_3.2.2.1) ?_
  refine XS.icmpNo X0.here hx rfl (hb hj g33_13_3.2.2.2) rfl (tlt (by decide : (7 : Int32) < (10 : Int32))).2.1 ?_
  refine XS.iloadN X0.here hx rfl (hb hj g33_13_4.1) rfl ?_
  refine XS.iloadN X0.here hx rfl (hb hj g33_13_4.2.1) rfl ?_
  refine XS.icmpNo X0.here hx rfl (hb hj g33_13_4.2.2.1) rfl (tlt (own_sslt (K := 10000000) hxm hk (by decide) : (-10000000 : Int32) < x)).2.2.2 ?_
  rw [show (iN (nd m)) = (7 : Int32) from by rw [hnd]; rfl] at hk'
  exact hk'
abbrev Lc_ss_n7_0 (x : Int32) (d : Int32) : Array Slot := #[.val (.int x), .val (.int d), .val (.int (-10000000 : Int32)), .val (.int (7 : Int32))]
abbrev Lc_ss_n7_1 (x : Int32) (d : Int32) (pe_102 : Int32) (m : Nat) : Array Slot := #[.val (.int x), .val (.int d), .val (.int pe_102), .val (.int (iN (nd m)))]
theorem sg_ss_n7 (hw : HW a0 Z) (m : Nat) (x : Int32) (d : Int32) (h0 : Heap) (n0 : Nat) (G : SG l Z pP eE r1_0_0_20 sS mM aS bS mS cC s₁ lc0 cl0 sl0 h0 n0 jdk_33_method_13_code 4 "java/lang/Integer" 0 0) (hxm : x.toInt = -(m : Int)) (hk : 10000000 ≤ m) (hbd : m < 1000000000) :
    ∃ pe : Int32, ∃ T' L', Stand pP l eE r1_0_0_20 sS mM aS bS mS cC T' L' (cl0 + 0) (sl0 + 0) ∧ T'.heap = h0 ∧ Fr n0 L' ∧ ∀ t', SS pP eE bS T' (mkF mM 27 #[.val (.int x), .val (.int d), .val (.int pe), .val (.int (iN (nd m)))] []) t' → SS pP eE bS s₁ (mkF mM 16 #[.val (.int x), .val (.int d), .val (.int (-10000000 : Int32)), .val (.int (7 : Int32))] []) t' := by
  obtain ⟨Z0, hx, hj, hml, hZ, hown, X0, e0, N0, hcl, hsl⟩ := id G
  obtain ⟨T101, L101, X101, e101, N101, st101⟩ := sg_ss_t l Z a0 hw x d (-10000000 : Int32) (-100000000 : Int32) (7 : Int32) (8 : Int32) h0 n0 ⟨by omega, hx, hj, hml, hZ, hown, X0, e0, N0, segle (k := 0) hcl (by decide), segle (k := 0) hsl (by decide)⟩ (by decide) (own_ssle (K := 10000000) hxm hk (by decide)) (by decide) (by decide)
  obtain ⟨pe_102, T102, L102, X102, e102, N102, st102⟩ := sg_ss_l8 l Z a0 hw m x d h0 n0 ⟨by omega, hx, hj, hml, hZ, hown, X101, e101, N101, segle (k := 0) hcl (by decide), segle (k := 0) hsl (by decide)⟩ hxm (by omega) hbd
  refine ⟨pe_102, T102, _, X102, e102, N102, fun t' hk' => ?_⟩
  show SS pP eE bS s₁ (mkF mM 16 (Lc_ss_n7_0 x d) []) _
  refine st101 _ ?_
  refine st102 _ ?_
  exact hk'
theorem sg_ss_l7 (hw : HW a0 Z) (m : Nat) (x : Int32) (d : Int32) (h0 : Heap) (n0 : Nat) (G : SG l Z pP eE r1_0_0_20 sS mM aS bS mS cC s₁ lc0 cl0 sl0 h0 n0 jdk_33_method_13_code 4 "java/lang/Integer" 0 0) (hxm : x.toInt = -(m : Int)) (hlo : 1000000 ≤ m) (hbd : m < 1000000000) :
    ∃ pe : Int32, ∃ T' L', Stand pP l eE r1_0_0_20 sS mM aS bS mS cC T' L' (cl0 + 0) (sl0 + 0) ∧ T'.heap = h0 ∧ Fr n0 L' ∧ ∀ t', SS pP eE bS T' (mkF mM 27 #[.val (.int x), .val (.int d), .val (.int pe), .val (.int (iN (nd m)))] []) t' → SS pP eE bS s₁ (mkF mM 16 #[.val (.int x), .val (.int d), .val (.int (-10000000 : Int32)), .val (.int (7 : Int32))] []) t' := by
  by_cases hk : m < 10000000
  · exact sg_ss_e7 l Z a0 hw m x d h0 n0 G hxm hk (by unfold nd; (repeat' split) <;> omega)
  · exact sg_ss_n7 l Z a0 hw m x d h0 n0 G hxm (by omega) hbd
abbrev Lc_ss_e6_0 (x : Int32) (d : Int32) : Array Slot := #[.val (.int x), .val (.int d), .val (.int (-1000000 : Int32)), .val (.int (6 : Int32))]
theorem sg_ss_e6 (hw : HW a0 Z) (m : Nat) (x : Int32) (d : Int32) (h0 : Heap) (n0 : Nat) (G : SG l Z pP eE r1_0_0_20 sS mM aS bS mS cC s₁ lc0 cl0 sl0 h0 n0 jdk_33_method_13_code 4 "java/lang/Integer" 0 0) (hxm : x.toInt = -(m : Int)) (hk : m < 1000000) (hnd : nd m = 6) :
    ∃ pe : Int32, ∃ T' L', Stand pP l eE r1_0_0_20 sS mM aS bS mS cC T' L' (cl0 + 0) (sl0 + 0) ∧ T'.heap = h0 ∧ Fr n0 L' ∧ ∀ t', SS pP eE bS T' (mkF mM 27 #[.val (.int x), .val (.int d), .val (.int pe), .val (.int (iN (nd m)))] []) t' → SS pP eE bS s₁ (mkF mM 16 #[.val (.int x), .val (.int d), .val (.int (-1000000 : Int32)), .val (.int (6 : Int32))] []) t' := by
  obtain ⟨Z0, hx, hj, hml, hZ, hown, X0, e0, N0, hcl, hsl⟩ := id G
  refine ⟨(-1000000 : Int32), s₁, _, X0, e0, N0, fun t' hk' => ?_⟩
  show SS pP eE bS s₁ (mkF mM 16 (Lc_ss_e6_0 x d) []) _
  refine XS.iloadN X0.here hx rfl (hb hj g33_13_3.2.1) rfl ?_
  refine XS.bipush X0.here hx rfl (hb hj g33_13_3.2.2.1) ?_
  refine XS.icmpNo X0.here hx rfl (hb hj g33_13_3.2.2.2) rfl (tlt (by decide : (6 : Int32) < (10 : Int32))).2.1 ?_
  refine XS.iloadN X0.here hx rfl (hb hj g33_13_4.1) rfl ?_
  refine XS.iloadN X0.here hx rfl (hb hj g33_13_4.2.1) rfl ?_
  refine XS.icmpNo X0.here hx rfl (hb hj g33_13_4.2.2.1) rfl (tlt (own_sslt (K := 1000000) hxm hk (by decide) : (-1000000 : Int32) < x)).2.2.2 ?_
  rw [show (iN (nd m)) = (6 : Int32) from by rw [hnd]; rfl] at hk'
  exact hk'
abbrev Lc_ss_n6_0 (x : Int32) (d : Int32) : Array Slot := #[.val (.int x), .val (.int d), .val (.int (-1000000 : Int32)), .val (.int (6 : Int32))]
abbrev Lc_ss_n6_1 (x : Int32) (d : Int32) (pe_102 : Int32) (m : Nat) : Array Slot := #[.val (.int x), .val (.int d), .val (.int pe_102), .val (.int (iN (nd m)))]
theorem sg_ss_n6 (hw : HW a0 Z) (m : Nat) (x : Int32) (d : Int32) (h0 : Heap) (n0 : Nat) (G : SG l Z pP eE r1_0_0_20 sS mM aS bS mS cC s₁ lc0 cl0 sl0 h0 n0 jdk_33_method_13_code 4 "java/lang/Integer" 0 0) (hxm : x.toInt = -(m : Int)) (hk : 1000000 ≤ m) (hbd : m < 1000000000) :
    ∃ pe : Int32, ∃ T' L', Stand pP l eE r1_0_0_20 sS mM aS bS mS cC T' L' (cl0 + 0) (sl0 + 0) ∧ T'.heap = h0 ∧ Fr n0 L' ∧ ∀ t', SS pP eE bS T' (mkF mM 27 #[.val (.int x), .val (.int d), .val (.int pe), .val (.int (iN (nd m)))] []) t' → SS pP eE bS s₁ (mkF mM 16 #[.val (.int x), .val (.int d), .val (.int (-1000000 : Int32)), .val (.int (6 : Int32))] []) t' := by
  obtain ⟨Z0, hx, hj, hml, hZ, hown, X0, e0, N0, hcl, hsl⟩ := id G
  obtain ⟨T101, L101, X101, e101, N101, st101⟩ := sg_ss_t l Z a0 hw x d (-1000000 : Int32) (-10000000 : Int32) (6 : Int32) (7 : Int32) h0 n0 ⟨by omega, hx, hj, hml, hZ, hown, X0, e0, N0, segle (k := 0) hcl (by decide), segle (k := 0) hsl (by decide)⟩ (by decide) (own_ssle (K := 1000000) hxm hk (by decide)) (by decide) (by decide)
  obtain ⟨pe_102, T102, L102, X102, e102, N102, st102⟩ := sg_ss_l7 l Z a0 hw m x d h0 n0 ⟨by omega, hx, hj, hml, hZ, hown, X101, e101, N101, segle (k := 0) hcl (by decide), segle (k := 0) hsl (by decide)⟩ hxm (by omega) hbd
  refine ⟨pe_102, T102, _, X102, e102, N102, fun t' hk' => ?_⟩
  show SS pP eE bS s₁ (mkF mM 16 (Lc_ss_n6_0 x d) []) _
  refine st101 _ ?_
  refine st102 _ ?_
  exact hk'
theorem sg_ss_l6 (hw : HW a0 Z) (m : Nat) (x : Int32) (d : Int32) (h0 : Heap) (n0 : Nat) (G : SG l Z pP eE r1_0_0_20 sS mM aS bS mS cC s₁ lc0 cl0 sl0 h0 n0 jdk_33_method_13_code 4 "java/lang/Integer" 0 0) (hxm : x.toInt = -(m : Int)) (hlo : 100000 ≤ m) (hbd : m < 1000000000) :
    ∃ pe : Int32, ∃ T' L', Stand pP l eE r1_0_0_20 sS mM aS bS mS cC T' L' (cl0 + 0) (sl0 + 0) ∧ T'.heap = h0 ∧ Fr n0 L' ∧ ∀ t', SS pP eE bS T' (mkF mM 27 #[.val (.int x), .val (.int d), .val (.int pe), .val (.int (iN (nd m)))] []) t' → SS pP eE bS s₁ (mkF mM 16 #[.val (.int x), .val (.int d), .val (.int (-1000000 : Int32)), .val (.int (6 : Int32))] []) t' := by
  by_cases hk : m < 1000000
  · exact sg_ss_e6 l Z a0 hw m x d h0 n0 G hxm hk (by unfold nd; (repeat' split) <;> omega)
  · exact sg_ss_n6 l Z a0 hw m x d h0 n0 G hxm (by omega) hbd
abbrev Lc_ss_e5_0 (x : Int32) (d : Int32) : Array Slot := #[.val (.int x), .val (.int d), .val (.int (-100000 : Int32)), .val (.int (5 : Int32))]
theorem sg_ss_e5 (hw : HW a0 Z) (m : Nat) (x : Int32) (d : Int32) (h0 : Heap) (n0 : Nat) (G : SG l Z pP eE r1_0_0_20 sS mM aS bS mS cC s₁ lc0 cl0 sl0 h0 n0 jdk_33_method_13_code 4 "java/lang/Integer" 0 0) (hxm : x.toInt = -(m : Int)) (hk : m < 100000) (hnd : nd m = 5) :
    ∃ pe : Int32, ∃ T' L', Stand pP l eE r1_0_0_20 sS mM aS bS mS cC T' L' (cl0 + 0) (sl0 + 0) ∧ T'.heap = h0 ∧ Fr n0 L' ∧ ∀ t', SS pP eE bS T' (mkF mM 27 #[.val (.int x), .val (.int d), .val (.int pe), .val (.int (iN (nd m)))] []) t' → SS pP eE bS s₁ (mkF mM 16 #[.val (.int x), .val (.int d), .val (.int (-100000 : Int32)), .val (.int (5 : Int32))] []) t' := by
  obtain ⟨Z0, hx, hj, hml, hZ, hown, X0, e0, N0, hcl, hsl⟩ := id G
  refine ⟨(-100000 : Int32), s₁, _, X0, e0, N0, fun t' hk' => ?_⟩
  show SS pP eE bS s₁ (mkF mM 16 (Lc_ss_e5_0 x d) []) _
  refine XS.iloadN X0.here hx rfl (hb hj g33_13_3.2.1) rfl ?_
  refine XS.bipush X0.here hx rfl (hb hj g33_13_3.2.2.1) ?_
  refine XS.icmpNo X0.here hx rfl (hb hj g33_13_3.2.2.2) rfl (tlt (by decide : (5 : Int32) < (10 : Int32))).2.1 ?_
  refine XS.iloadN X0.here hx rfl (hb hj g33_13_4.1) rfl ?_
  refine XS.iloadN X0.here hx rfl (hb hj g33_13_4.2.1) rfl ?_
  refine XS.icmpNo X0.here hx rfl (hb hj g33_13_4.2.2.1) rfl (tlt (own_sslt (K := 100000) hxm hk (by decide) : (-100000 : Int32) < x)).2.2.2 ?_
  rw [show (iN (nd m)) = (5 : Int32) from by rw [hnd]; rfl] at hk'
  exact hk'
abbrev Lc_ss_n5_0 (x : Int32) (d : Int32) : Array Slot := #[.val (.int x), .val (.int d), .val (.int (-100000 : Int32)), .val (.int (5 : Int32))]
abbrev Lc_ss_n5_1 (x : Int32) (d : Int32) (pe_102 : Int32) (m : Nat) : Array Slot := #[.val (.int x), .val (.int d), .val (.int pe_102), .val (.int (iN (nd m)))]
theorem sg_ss_n5 (hw : HW a0 Z) (m : Nat) (x : Int32) (d : Int32) (h0 : Heap) (n0 : Nat) (G : SG l Z pP eE r1_0_0_20 sS mM aS bS mS cC s₁ lc0 cl0 sl0 h0 n0 jdk_33_method_13_code 4 "java/lang/Integer" 0 0) (hxm : x.toInt = -(m : Int)) (hk : 100000 ≤ m) (hbd : m < 1000000000) :
    ∃ pe : Int32, ∃ T' L', Stand pP l eE r1_0_0_20 sS mM aS bS mS cC T' L' (cl0 + 0) (sl0 + 0) ∧ T'.heap = h0 ∧ Fr n0 L' ∧ ∀ t', SS pP eE bS T' (mkF mM 27 #[.val (.int x), .val (.int d), .val (.int pe), .val (.int (iN (nd m)))] []) t' → SS pP eE bS s₁ (mkF mM 16 #[.val (.int x), .val (.int d), .val (.int (-100000 : Int32)), .val (.int (5 : Int32))] []) t' := by
  obtain ⟨Z0, hx, hj, hml, hZ, hown, X0, e0, N0, hcl, hsl⟩ := id G
  obtain ⟨T101, L101, X101, e101, N101, st101⟩ := sg_ss_t l Z a0 hw x d (-100000 : Int32) (-1000000 : Int32) (5 : Int32) (6 : Int32) h0 n0 ⟨by omega, hx, hj, hml, hZ, hown, X0, e0, N0, segle (k := 0) hcl (by decide), segle (k := 0) hsl (by decide)⟩ (by decide) (own_ssle (K := 100000) hxm hk (by decide)) (by decide) (by decide)
  obtain ⟨pe_102, T102, L102, X102, e102, N102, st102⟩ := sg_ss_l6 l Z a0 hw m x d h0 n0 ⟨by omega, hx, hj, hml, hZ, hown, X101, e101, N101, segle (k := 0) hcl (by decide), segle (k := 0) hsl (by decide)⟩ hxm (by omega) hbd
  refine ⟨pe_102, T102, _, X102, e102, N102, fun t' hk' => ?_⟩
  show SS pP eE bS s₁ (mkF mM 16 (Lc_ss_n5_0 x d) []) _
  refine st101 _ ?_
  refine st102 _ ?_
  exact hk'
theorem sg_ss_l5 (hw : HW a0 Z) (m : Nat) (x : Int32) (d : Int32) (h0 : Heap) (n0 : Nat) (G : SG l Z pP eE r1_0_0_20 sS mM aS bS mS cC s₁ lc0 cl0 sl0 h0 n0 jdk_33_method_13_code 4 "java/lang/Integer" 0 0) (hxm : x.toInt = -(m : Int)) (hlo : 10000 ≤ m) (hbd : m < 1000000000) :
    ∃ pe : Int32, ∃ T' L', Stand pP l eE r1_0_0_20 sS mM aS bS mS cC T' L' (cl0 + 0) (sl0 + 0) ∧ T'.heap = h0 ∧ Fr n0 L' ∧ ∀ t', SS pP eE bS T' (mkF mM 27 #[.val (.int x), .val (.int d), .val (.int pe), .val (.int (iN (nd m)))] []) t' → SS pP eE bS s₁ (mkF mM 16 #[.val (.int x), .val (.int d), .val (.int (-100000 : Int32)), .val (.int (5 : Int32))] []) t' := by
  by_cases hk : m < 100000
  · exact sg_ss_e5 l Z a0 hw m x d h0 n0 G hxm hk (by unfold nd; (repeat' split) <;> omega)
  · exact sg_ss_n5 l Z a0 hw m x d h0 n0 G hxm (by omega) hbd
abbrev Lc_ss_e4_0 (x : Int32) (d : Int32) : Array Slot := #[.val (.int x), .val (.int d), .val (.int (-10000 : Int32)), .val (.int (4 : Int32))]
theorem sg_ss_e4 (hw : HW a0 Z) (m : Nat) (x : Int32) (d : Int32) (h0 : Heap) (n0 : Nat) (G : SG l Z pP eE r1_0_0_20 sS mM aS bS mS cC s₁ lc0 cl0 sl0 h0 n0 jdk_33_method_13_code 4 "java/lang/Integer" 0 0) (hxm : x.toInt = -(m : Int)) (hk : m < 10000) (hnd : nd m = 4) :
    ∃ pe : Int32, ∃ T' L', Stand pP l eE r1_0_0_20 sS mM aS bS mS cC T' L' (cl0 + 0) (sl0 + 0) ∧ T'.heap = h0 ∧ Fr n0 L' ∧ ∀ t', SS pP eE bS T' (mkF mM 27 #[.val (.int x), .val (.int d), .val (.int pe), .val (.int (iN (nd m)))] []) t' → SS pP eE bS s₁ (mkF mM 16 #[.val (.int x), .val (.int d), .val (.int (-10000 : Int32)), .val (.int (4 : Int32))] []) t' := by
  obtain ⟨Z0, hx, hj, hml, hZ, hown, X0, e0, N0, hcl, hsl⟩ := id G
  refine ⟨(-10000 : Int32), s₁, _, X0, e0, N0, fun t' hk' => ?_⟩
  show SS pP eE bS s₁ (mkF mM 16 (Lc_ss_e4_0 x d) []) _
  refine XS.iloadN X0.here hx rfl (hb hj g33_13_3.2.1) rfl ?_
  refine XS.bipush X0.here hx rfl (hb hj g33_13_3.2.2.1) ?_
  refine XS.icmpNo X0.here hx rfl (hb hj g33_13_3.2.2.2) rfl (tlt (by decide : (4 : Int32) < (10 : Int32))).2.1 ?_
  refine XS.iloadN X0.here hx rfl (hb hj g33_13_4.1) rfl ?_
  refine XS.iloadN X0.here hx rfl (hb hj g33_13_4.2.1) rfl ?_
  refine XS.icmpNo X0.here hx rfl (hb hj g33_13_4.2.2.1) rfl (tlt (own_sslt (K := 10000) hxm hk (by decide) : (-10000 : Int32) < x)).2.2.2 ?_
  rw [show (iN (nd m)) = (4 : Int32) from by rw [hnd]; rfl] at hk'
  exact hk'
abbrev Lc_ss_n4_0 (x : Int32) (d : Int32) : Array Slot := #[.val (.int x), .val (.int d), .val (.int (-10000 : Int32)), .val (.int (4 : Int32))]
abbrev Lc_ss_n4_1 (x : Int32) (d : Int32) (pe_102 : Int32) (m : Nat) : Array Slot := #[.val (.int x), .val (.int d), .val (.int pe_102), .val (.int (iN (nd m)))]
theorem sg_ss_n4 (hw : HW a0 Z) (m : Nat) (x : Int32) (d : Int32) (h0 : Heap) (n0 : Nat) (G : SG l Z pP eE r1_0_0_20 sS mM aS bS mS cC s₁ lc0 cl0 sl0 h0 n0 jdk_33_method_13_code 4 "java/lang/Integer" 0 0) (hxm : x.toInt = -(m : Int)) (hk : 10000 ≤ m) (hbd : m < 1000000000) :
    ∃ pe : Int32, ∃ T' L', Stand pP l eE r1_0_0_20 sS mM aS bS mS cC T' L' (cl0 + 0) (sl0 + 0) ∧ T'.heap = h0 ∧ Fr n0 L' ∧ ∀ t', SS pP eE bS T' (mkF mM 27 #[.val (.int x), .val (.int d), .val (.int pe), .val (.int (iN (nd m)))] []) t' → SS pP eE bS s₁ (mkF mM 16 #[.val (.int x), .val (.int d), .val (.int (-10000 : Int32)), .val (.int (4 : Int32))] []) t' := by
  obtain ⟨Z0, hx, hj, hml, hZ, hown, X0, e0, N0, hcl, hsl⟩ := id G
  obtain ⟨T101, L101, X101, e101, N101, st101⟩ := sg_ss_t l Z a0 hw x d (-10000 : Int32) (-100000 : Int32) (4 : Int32) (5 : Int32) h0 n0 ⟨by omega, hx, hj, hml, hZ, hown, X0, e0, N0, segle (k := 0) hcl (by decide), segle (k := 0) hsl (by decide)⟩ (by decide) (own_ssle (K := 10000) hxm hk (by decide)) (by decide) (by decide)
  obtain ⟨pe_102, T102, L102, X102, e102, N102, st102⟩ := sg_ss_l5 l Z a0 hw m x d h0 n0 ⟨by omega, hx, hj, hml, hZ, hown, X101, e101, N101, segle (k := 0) hcl (by decide), segle (k := 0) hsl (by decide)⟩ hxm (by omega) hbd
  refine ⟨pe_102, T102, _, X102, e102, N102, fun t' hk' => ?_⟩
  show SS pP eE bS s₁ (mkF mM 16 (Lc_ss_n4_0 x d) []) _
  refine st101 _ ?_
  refine st102 _ ?_
  exact hk'
theorem sg_ss_l4 (hw : HW a0 Z) (m : Nat) (x : Int32) (d : Int32) (h0 : Heap) (n0 : Nat) (G : SG l Z pP eE r1_0_0_20 sS mM aS bS mS cC s₁ lc0 cl0 sl0 h0 n0 jdk_33_method_13_code 4 "java/lang/Integer" 0 0) (hxm : x.toInt = -(m : Int)) (hlo : 1000 ≤ m) (hbd : m < 1000000000) :
    ∃ pe : Int32, ∃ T' L', Stand pP l eE r1_0_0_20 sS mM aS bS mS cC T' L' (cl0 + 0) (sl0 + 0) ∧ T'.heap = h0 ∧ Fr n0 L' ∧ ∀ t', SS pP eE bS T' (mkF mM 27 #[.val (.int x), .val (.int d), .val (.int pe), .val (.int (iN (nd m)))] []) t' → SS pP eE bS s₁ (mkF mM 16 #[.val (.int x), .val (.int d), .val (.int (-10000 : Int32)), .val (.int (4 : Int32))] []) t' := by
  by_cases hk : m < 10000
  · exact sg_ss_e4 l Z a0 hw m x d h0 n0 G hxm hk (by unfold nd; (repeat' split) <;> omega)
  · exact sg_ss_n4 l Z a0 hw m x d h0 n0 G hxm (by omega) hbd
abbrev Lc_ss_e3_0 (x : Int32) (d : Int32) : Array Slot := #[.val (.int x), .val (.int d), .val (.int (-1000 : Int32)), .val (.int (3 : Int32))]
theorem sg_ss_e3 (hw : HW a0 Z) (m : Nat) (x : Int32) (d : Int32) (h0 : Heap) (n0 : Nat) (G : SG l Z pP eE r1_0_0_20 sS mM aS bS mS cC s₁ lc0 cl0 sl0 h0 n0 jdk_33_method_13_code 4 "java/lang/Integer" 0 0) (hxm : x.toInt = -(m : Int)) (hk : m < 1000) (hnd : nd m = 3) :
    ∃ pe : Int32, ∃ T' L', Stand pP l eE r1_0_0_20 sS mM aS bS mS cC T' L' (cl0 + 0) (sl0 + 0) ∧ T'.heap = h0 ∧ Fr n0 L' ∧ ∀ t', SS pP eE bS T' (mkF mM 27 #[.val (.int x), .val (.int d), .val (.int pe), .val (.int (iN (nd m)))] []) t' → SS pP eE bS s₁ (mkF mM 16 #[.val (.int x), .val (.int d), .val (.int (-1000 : Int32)), .val (.int (3 : Int32))] []) t' := by
  obtain ⟨Z0, hx, hj, hml, hZ, hown, X0, e0, N0, hcl, hsl⟩ := id G
  refine ⟨(-1000 : Int32), s₁, _, X0, e0, N0, fun t' hk' => ?_⟩
  show SS pP eE bS s₁ (mkF mM 16 (Lc_ss_e3_0 x d) []) _
  refine XS.iloadN X0.here hx rfl (hb hj g33_13_3.2.1) rfl ?_
  refine XS.bipush X0.here hx rfl (hb hj g33_13_3.2.2.1) ?_
  refine XS.icmpNo X0.here hx rfl (hb hj g33_13_3.2.2.2) rfl (tlt (by decide : (3 : Int32) < (10 : Int32))).2.1 ?_
  refine XS.iloadN X0.here hx rfl (hb hj g33_13_4.1) rfl ?_
  refine XS.iloadN X0.here hx rfl (hb hj g33_13_4.2.1) rfl ?_
  refine XS.icmpNo X0.here hx rfl (hb hj g33_13_4.2.2.1) rfl (tlt (own_sslt (K := 1000) hxm hk (by decide) : (-1000 : Int32) < x)).2.2.2 ?_
  rw [show (iN (nd m)) = (3 : Int32) from by rw [hnd]; rfl] at hk'
  exact hk'
abbrev Lc_ss_n3_0 (x : Int32) (d : Int32) : Array Slot := #[.val (.int x), .val (.int d), .val (.int (-1000 : Int32)), .val (.int (3 : Int32))]
abbrev Lc_ss_n3_1 (x : Int32) (d : Int32) (pe_102 : Int32) (m : Nat) : Array Slot := #[.val (.int x), .val (.int d), .val (.int pe_102), .val (.int (iN (nd m)))]
theorem sg_ss_n3 (hw : HW a0 Z) (m : Nat) (x : Int32) (d : Int32) (h0 : Heap) (n0 : Nat) (G : SG l Z pP eE r1_0_0_20 sS mM aS bS mS cC s₁ lc0 cl0 sl0 h0 n0 jdk_33_method_13_code 4 "java/lang/Integer" 0 0) (hxm : x.toInt = -(m : Int)) (hk : 1000 ≤ m) (hbd : m < 1000000000) :
    ∃ pe : Int32, ∃ T' L', Stand pP l eE r1_0_0_20 sS mM aS bS mS cC T' L' (cl0 + 0) (sl0 + 0) ∧ T'.heap = h0 ∧ Fr n0 L' ∧ ∀ t', SS pP eE bS T' (mkF mM 27 #[.val (.int x), .val (.int d), .val (.int pe), .val (.int (iN (nd m)))] []) t' → SS pP eE bS s₁ (mkF mM 16 #[.val (.int x), .val (.int d), .val (.int (-1000 : Int32)), .val (.int (3 : Int32))] []) t' := by
  obtain ⟨Z0, hx, hj, hml, hZ, hown, X0, e0, N0, hcl, hsl⟩ := id G
  obtain ⟨T101, L101, X101, e101, N101, st101⟩ := sg_ss_t l Z a0 hw x d (-1000 : Int32) (-10000 : Int32) (3 : Int32) (4 : Int32) h0 n0 ⟨by omega, hx, hj, hml, hZ, hown, X0, e0, N0, segle (k := 0) hcl (by decide), segle (k := 0) hsl (by decide)⟩ (by decide) (own_ssle (K := 1000) hxm hk (by decide)) (by decide) (by decide)
  obtain ⟨pe_102, T102, L102, X102, e102, N102, st102⟩ := sg_ss_l4 l Z a0 hw m x d h0 n0 ⟨by omega, hx, hj, hml, hZ, hown, X101, e101, N101, segle (k := 0) hcl (by decide), segle (k := 0) hsl (by decide)⟩ hxm (by omega) hbd
  refine ⟨pe_102, T102, _, X102, e102, N102, fun t' hk' => ?_⟩
  show SS pP eE bS s₁ (mkF mM 16 (Lc_ss_n3_0 x d) []) _
  refine st101 _ ?_
  refine st102 _ ?_
  exact hk'
theorem sg_ss_l3 (hw : HW a0 Z) (m : Nat) (x : Int32) (d : Int32) (h0 : Heap) (n0 : Nat) (G : SG l Z pP eE r1_0_0_20 sS mM aS bS mS cC s₁ lc0 cl0 sl0 h0 n0 jdk_33_method_13_code 4 "java/lang/Integer" 0 0) (hxm : x.toInt = -(m : Int)) (hlo : 100 ≤ m) (hbd : m < 1000000000) :
    ∃ pe : Int32, ∃ T' L', Stand pP l eE r1_0_0_20 sS mM aS bS mS cC T' L' (cl0 + 0) (sl0 + 0) ∧ T'.heap = h0 ∧ Fr n0 L' ∧ ∀ t', SS pP eE bS T' (mkF mM 27 #[.val (.int x), .val (.int d), .val (.int pe), .val (.int (iN (nd m)))] []) t' → SS pP eE bS s₁ (mkF mM 16 #[.val (.int x), .val (.int d), .val (.int (-1000 : Int32)), .val (.int (3 : Int32))] []) t' := by
  by_cases hk : m < 1000
  · exact sg_ss_e3 l Z a0 hw m x d h0 n0 G hxm hk (by unfold nd; (repeat' split) <;> omega)
  · exact sg_ss_n3 l Z a0 hw m x d h0 n0 G hxm (by omega) hbd
abbrev Lc_ss_e2_0 (x : Int32) (d : Int32) : Array Slot := #[.val (.int x), .val (.int d), .val (.int (-100 : Int32)), .val (.int (2 : Int32))]
theorem sg_ss_e2 (hw : HW a0 Z) (m : Nat) (x : Int32) (d : Int32) (h0 : Heap) (n0 : Nat) (G : SG l Z pP eE r1_0_0_20 sS mM aS bS mS cC s₁ lc0 cl0 sl0 h0 n0 jdk_33_method_13_code 4 "java/lang/Integer" 0 0) (hxm : x.toInt = -(m : Int)) (hk : m < 100) (hnd : nd m = 2) :
    ∃ pe : Int32, ∃ T' L', Stand pP l eE r1_0_0_20 sS mM aS bS mS cC T' L' (cl0 + 0) (sl0 + 0) ∧ T'.heap = h0 ∧ Fr n0 L' ∧ ∀ t', SS pP eE bS T' (mkF mM 27 #[.val (.int x), .val (.int d), .val (.int pe), .val (.int (iN (nd m)))] []) t' → SS pP eE bS s₁ (mkF mM 16 #[.val (.int x), .val (.int d), .val (.int (-100 : Int32)), .val (.int (2 : Int32))] []) t' := by
  obtain ⟨Z0, hx, hj, hml, hZ, hown, X0, e0, N0, hcl, hsl⟩ := id G
  refine ⟨(-100 : Int32), s₁, _, X0, e0, N0, fun t' hk' => ?_⟩
  show SS pP eE bS s₁ (mkF mM 16 (Lc_ss_e2_0 x d) []) _
  refine XS.iloadN X0.here hx rfl (hb hj g33_13_3.2.1) rfl ?_
  refine XS.bipush X0.here hx rfl (hb hj g33_13_3.2.2.1) ?_
  refine XS.icmpNo X0.here hx rfl (hb hj g33_13_3.2.2.2) rfl (tlt (by decide : (2 : Int32) < (10 : Int32))).2.1 ?_
  refine XS.iloadN X0.here hx rfl (hb hj g33_13_4.1) rfl ?_
  refine XS.iloadN X0.here hx rfl (hb hj g33_13_4.2.1) rfl ?_
  refine XS.icmpNo X0.here hx rfl (hb hj g33_13_4.2.2.1) rfl (tlt (own_sslt (K := 100) hxm hk (by decide) : (-100 : Int32) < x)).2.2.2 ?_
  rw [show (iN (nd m)) = (2 : Int32) from by rw [hnd]; rfl] at hk'
  exact hk'
abbrev Lc_ss_n2_0 (x : Int32) (d : Int32) : Array Slot := #[.val (.int x), .val (.int d), .val (.int (-100 : Int32)), .val (.int (2 : Int32))]
abbrev Lc_ss_n2_1 (x : Int32) (d : Int32) (pe_102 : Int32) (m : Nat) : Array Slot := #[.val (.int x), .val (.int d), .val (.int pe_102), .val (.int (iN (nd m)))]
theorem sg_ss_n2 (hw : HW a0 Z) (m : Nat) (x : Int32) (d : Int32) (h0 : Heap) (n0 : Nat) (G : SG l Z pP eE r1_0_0_20 sS mM aS bS mS cC s₁ lc0 cl0 sl0 h0 n0 jdk_33_method_13_code 4 "java/lang/Integer" 0 0) (hxm : x.toInt = -(m : Int)) (hk : 100 ≤ m) (hbd : m < 1000000000) :
    ∃ pe : Int32, ∃ T' L', Stand pP l eE r1_0_0_20 sS mM aS bS mS cC T' L' (cl0 + 0) (sl0 + 0) ∧ T'.heap = h0 ∧ Fr n0 L' ∧ ∀ t', SS pP eE bS T' (mkF mM 27 #[.val (.int x), .val (.int d), .val (.int pe), .val (.int (iN (nd m)))] []) t' → SS pP eE bS s₁ (mkF mM 16 #[.val (.int x), .val (.int d), .val (.int (-100 : Int32)), .val (.int (2 : Int32))] []) t' := by
  obtain ⟨Z0, hx, hj, hml, hZ, hown, X0, e0, N0, hcl, hsl⟩ := id G
  obtain ⟨T101, L101, X101, e101, N101, st101⟩ := sg_ss_t l Z a0 hw x d (-100 : Int32) (-1000 : Int32) (2 : Int32) (3 : Int32) h0 n0 ⟨by omega, hx, hj, hml, hZ, hown, X0, e0, N0, segle (k := 0) hcl (by decide), segle (k := 0) hsl (by decide)⟩ (by decide) (own_ssle (K := 100) hxm hk (by decide)) (by decide) (by decide)
  obtain ⟨pe_102, T102, L102, X102, e102, N102, st102⟩ := sg_ss_l3 l Z a0 hw m x d h0 n0 ⟨by omega, hx, hj, hml, hZ, hown, X101, e101, N101, segle (k := 0) hcl (by decide), segle (k := 0) hsl (by decide)⟩ hxm (by omega) hbd
  refine ⟨pe_102, T102, _, X102, e102, N102, fun t' hk' => ?_⟩
  show SS pP eE bS s₁ (mkF mM 16 (Lc_ss_n2_0 x d) []) _
  refine st101 _ ?_
  refine st102 _ ?_
  exact hk'
theorem sg_ss_l2 (hw : HW a0 Z) (m : Nat) (x : Int32) (d : Int32) (h0 : Heap) (n0 : Nat) (G : SG l Z pP eE r1_0_0_20 sS mM aS bS mS cC s₁ lc0 cl0 sl0 h0 n0 jdk_33_method_13_code 4 "java/lang/Integer" 0 0) (hxm : x.toInt = -(m : Int)) (hlo : 10 ≤ m) (hbd : m < 1000000000) :
    ∃ pe : Int32, ∃ T' L', Stand pP l eE r1_0_0_20 sS mM aS bS mS cC T' L' (cl0 + 0) (sl0 + 0) ∧ T'.heap = h0 ∧ Fr n0 L' ∧ ∀ t', SS pP eE bS T' (mkF mM 27 #[.val (.int x), .val (.int d), .val (.int pe), .val (.int (iN (nd m)))] []) t' → SS pP eE bS s₁ (mkF mM 16 #[.val (.int x), .val (.int d), .val (.int (-100 : Int32)), .val (.int (2 : Int32))] []) t' := by
  by_cases hk : m < 100
  · exact sg_ss_e2 l Z a0 hw m x d h0 n0 G hxm hk (by unfold nd; (repeat' split) <;> omega)
  · exact sg_ss_n2 l Z a0 hw m x d h0 n0 G hxm (by omega) hbd
abbrev Lc_ss_e1_0 (x : Int32) (d : Int32) : Array Slot := #[.val (.int x), .val (.int d), .val (.int (-10 : Int32)), .val (.int (1 : Int32))]
theorem sg_ss_e1 (hw : HW a0 Z) (m : Nat) (x : Int32) (d : Int32) (h0 : Heap) (n0 : Nat) (G : SG l Z pP eE r1_0_0_20 sS mM aS bS mS cC s₁ lc0 cl0 sl0 h0 n0 jdk_33_method_13_code 4 "java/lang/Integer" 0 0) (hxm : x.toInt = -(m : Int)) (hk : m < 10) (hnd : nd m = 1) :
    ∃ pe : Int32, ∃ T' L', Stand pP l eE r1_0_0_20 sS mM aS bS mS cC T' L' (cl0 + 0) (sl0 + 0) ∧ T'.heap = h0 ∧ Fr n0 L' ∧ ∀ t', SS pP eE bS T' (mkF mM 27 #[.val (.int x), .val (.int d), .val (.int pe), .val (.int (iN (nd m)))] []) t' → SS pP eE bS s₁ (mkF mM 16 #[.val (.int x), .val (.int d), .val (.int (-10 : Int32)), .val (.int (1 : Int32))] []) t' := by
  obtain ⟨Z0, hx, hj, hml, hZ, hown, X0, e0, N0, hcl, hsl⟩ := id G
  refine ⟨(-10 : Int32), s₁, _, X0, e0, N0, fun t' hk' => ?_⟩
  show SS pP eE bS s₁ (mkF mM 16 (Lc_ss_e1_0 x d) []) _
  refine XS.iloadN X0.here hx rfl (hb hj g33_13_3.2.1) rfl ?_
  refine XS.bipush X0.here hx rfl (hb hj g33_13_3.2.2.1) ?_
  refine XS.icmpNo X0.here hx rfl (hb hj g33_13_3.2.2.2) rfl (tlt (by decide : (1 : Int32) < (10 : Int32))).2.1 ?_
  refine XS.iloadN X0.here hx rfl (hb hj g33_13_4.1) rfl ?_
  refine XS.iloadN X0.here hx rfl (hb hj g33_13_4.2.1) rfl ?_
  refine XS.icmpNo X0.here hx rfl (hb hj g33_13_4.2.2.1) rfl (tlt (own_sslt (K := 10) hxm hk (by decide) : (-10 : Int32) < x)).2.2.2 ?_
  rw [show (iN (nd m)) = (1 : Int32) from by rw [hnd]; rfl] at hk'
  exact hk'
abbrev Lc_ss_n1_0 (x : Int32) (d : Int32) : Array Slot := #[.val (.int x), .val (.int d), .val (.int (-10 : Int32)), .val (.int (1 : Int32))]
abbrev Lc_ss_n1_1 (x : Int32) (d : Int32) (pe_102 : Int32) (m : Nat) : Array Slot := #[.val (.int x), .val (.int d), .val (.int pe_102), .val (.int (iN (nd m)))]
theorem sg_ss_n1 (hw : HW a0 Z) (m : Nat) (x : Int32) (d : Int32) (h0 : Heap) (n0 : Nat) (G : SG l Z pP eE r1_0_0_20 sS mM aS bS mS cC s₁ lc0 cl0 sl0 h0 n0 jdk_33_method_13_code 4 "java/lang/Integer" 0 0) (hxm : x.toInt = -(m : Int)) (hk : 10 ≤ m) (hbd : m < 1000000000) :
    ∃ pe : Int32, ∃ T' L', Stand pP l eE r1_0_0_20 sS mM aS bS mS cC T' L' (cl0 + 0) (sl0 + 0) ∧ T'.heap = h0 ∧ Fr n0 L' ∧ ∀ t', SS pP eE bS T' (mkF mM 27 #[.val (.int x), .val (.int d), .val (.int pe), .val (.int (iN (nd m)))] []) t' → SS pP eE bS s₁ (mkF mM 16 #[.val (.int x), .val (.int d), .val (.int (-10 : Int32)), .val (.int (1 : Int32))] []) t' := by
  obtain ⟨Z0, hx, hj, hml, hZ, hown, X0, e0, N0, hcl, hsl⟩ := id G
  obtain ⟨T101, L101, X101, e101, N101, st101⟩ := sg_ss_t l Z a0 hw x d (-10 : Int32) (-100 : Int32) (1 : Int32) (2 : Int32) h0 n0 ⟨by omega, hx, hj, hml, hZ, hown, X0, e0, N0, segle (k := 0) hcl (by decide), segle (k := 0) hsl (by decide)⟩ (by decide) (own_ssle (K := 10) hxm hk (by decide)) (by decide) (by decide)
  obtain ⟨pe_102, T102, L102, X102, e102, N102, st102⟩ := sg_ss_l2 l Z a0 hw m x d h0 n0 ⟨by omega, hx, hj, hml, hZ, hown, X101, e101, N101, segle (k := 0) hcl (by decide), segle (k := 0) hsl (by decide)⟩ hxm (by omega) hbd
  refine ⟨pe_102, T102, _, X102, e102, N102, fun t' hk' => ?_⟩
  show SS pP eE bS s₁ (mkF mM 16 (Lc_ss_n1_0 x d) []) _
  refine st101 _ ?_
  refine st102 _ ?_
  exact hk'
theorem sg_ss_l1 (hw : HW a0 Z) (m : Nat) (x : Int32) (d : Int32) (h0 : Heap) (n0 : Nat) (G : SG l Z pP eE r1_0_0_20 sS mM aS bS mS cC s₁ lc0 cl0 sl0 h0 n0 jdk_33_method_13_code 4 "java/lang/Integer" 0 0) (hxm : x.toInt = -(m : Int)) (hlo : 0 ≤ m) (hbd : m < 1000000000) :
    ∃ pe : Int32, ∃ T' L', Stand pP l eE r1_0_0_20 sS mM aS bS mS cC T' L' (cl0 + 0) (sl0 + 0) ∧ T'.heap = h0 ∧ Fr n0 L' ∧ ∀ t', SS pP eE bS T' (mkF mM 27 #[.val (.int x), .val (.int d), .val (.int pe), .val (.int (iN (nd m)))] []) t' → SS pP eE bS s₁ (mkF mM 16 #[.val (.int x), .val (.int d), .val (.int (-10 : Int32)), .val (.int (1 : Int32))] []) t' := by
  by_cases hk : m < 10
  · exact sg_ss_e1 l Z a0 hw m x d h0 n0 G hxm hk (by unfold nd; (repeat' split) <;> omega)
  · exact sg_ss_n1 l Z a0 hw m x d h0 n0 G hxm (by omega) hbd
def Q_ss (Z : State) (v : Int32) (h0 : Heap) (n0 : Nat) (xv : Option Value) (xh : Heap) (xL : List Loc) : Prop := xv = some (.int (iN (wd v))) ∧ Fr n0 xL ∧ xh = h0
theorem g33_13_0 : decode c33_13 0 = .ok (.iconst 1, 1) ∧ decode c33_13 1 = .ok (.istore_n 1, 1) ∧ decode c33_13 2 = .ok (.iload_n 0, 1) ∧ decode c33_13 3 = .ok (.ifCond .lt 8, 3) := by decide +kernel
theorem g33_13_2 : decode c33_13 10 = .ok (.istore_n 0, 1) ∧ decode c33_13 11 = .ok (.bipush (-10), 2) ∧ decode c33_13 13 = .ok (.istore_n 2, 1) ∧ decode c33_13 14 = .ok (.iconst 1, 1) := by decide +kernel
theorem g33_13_8 : decode c33_13 46 = .ok (.ireturn, 1) := by decide +kernel
theorem g33_13_1 : decode c33_13 6 = .ok (.iconst 0, 1) ∧ decode c33_13 7 = .ok (.istore_n 1, 1) ∧ decode c33_13 8 = .ok (.iload_n 0, 1) ∧ decode c33_13 9 = .ok (.ineg, 1) := by decide +kernel
abbrev y37_ : MethodName := ⟨"java/lang/Integer", "stringSize", "(I)I"⟩
theorem pn_java_lang_Integer : plainName "java/lang/Integer" = true := by first | (simp [plainName, overriddenIn]; done) | decide +kernel
abbrev Lc_ss_a1_0 (v : Int32) : Array Slot := #[.val (.int v), .val (.int (1 : Int32)), .val (.int (-10 : Int32)), .unset]
abbrev Lc_ss_a1_1 (v : Int32) : Array Slot := #[.val (.int v), .val (.int (1 : Int32)), .val (.int (-10 : Int32)), .val (.int (1 : Int32))]
abbrev Lc_ss_a1_2 (v : Int32) (pe_101 : Int32) : Array Slot := #[.val (.int v), .val (.int (1 : Int32)), .val (.int pe_101), .val (.int (iN (nd (absN v))))]
theorem ef_ss_a1 (mM : MethodId) (v : Int32) : entryFrame mM #[(.int v)] 4 = mkF mM 0 #[.val (.int v), .unset, .unset, .unset] [] := by
  first | (simp [entryFrame, mkF, argsToLocals, Value.category]; done) | rfl
theorem rm_ss_a1 (hw : HW a0 Z) (ws : List Jvm.Cond) (v : Int32) (h0 : Heap) (n0 : Nat) (Z0 : n0 ≤ h0.size) (hv : v < (0 : Int32)) (hbd : (absN v) < 1000000000) :
    MF l y37_ jdk_33_method_13_code 4 (some .int) ws r1_0_0_20 #[(.int v)] Z h0 (Q_ss Z v h0 n0) := by
  refine MetFree.of_bodySF (plainFor_of_name pn_java_lang_Integer) hisR ?_
  intro pP eE sS mM aS bS mS cC s₁ Bd hml0 hP hK
  obtain ⟨rfl, hZ, hh⟩ := hP
  have hx := Bd.exec
  have hj := Bd.bytes
  have hml : cC.maxLocals = 4 := hml0
  have hown : sS.vm.findClass "java/lang/Integer" = some mM.cls := findClass_of_methodNamed Bd.named
  have X0 : Stand pP l eE r1_0_0_20 sS mM _ bS mS cC s₁ [] 0 0 := Stand.of_body Bd
  have e0 : s₁.heap = h0 := by rw [← hh, Bd.state]; rfl
  have N0 := Fr.nil n0
  obtain ⟨pe_101, T101, L101, X101, e101, N101, st101⟩ := sg_ss_l1 l Z a0 hw (absN v) v (1 : Int32) h0 n0 ⟨by omega, hx, hj, hml, hZ, hown, X0, e0, N0, by decide, by decide⟩ (own_xneg hv) (Nat.zero_le _) hbd
  obtain ⟨fs, hr, hrun, hended, hW, hsame⟩ := X101.leave (v := some (.int (iN (wd v)))) (fun h => by rw [Bd.returns] at h; cases h)
  refine ⟨_, _, castTop (ef_ss_a1 mM v) ?_, hrun, hended, _, _, rfl, ?_, ⟨_, rfl⟩, hW, hsame.mono (by decide) (by decide)⟩
  · show SS pP eE bS s₁ (mkF mM 0 #[.val (.int v), .unset, .unset, .unset] []) _
    refine XS.iconst X0.here hx rfl (hb hj g33_13_0.1) ?_
    refine XS.istoreN X0.here hx rfl (hb hj g33_13_0.2.1) rfl (l' := #[.val (.int v), .val (.int (1 : Int32)), .unset, .unset]) rfl ?_
    refine XS.iloadN X0.here hx rfl (hb hj g33_13_0.2.2.1) rfl ?_
    refine XS.ifYes X0.here hx rfl (pc0 := 3) (pc' := 11) rfl (hb hj g33_13_0.2.2.2) rfl ((if0 _ _).trans (tlt hv).1) (by decide) (by decide) ?_
    refine XS.bipush X0.here hx rfl (hb hj g33_13_2.2.1) ?_
    refine XS.istoreN X0.here hx rfl (hb hj g33_13_2.2.2.1) rfl (l' := (Lc_ss_a1_0 v)) rfl ?_
    refine XS.iconst X0.here hx rfl (hb hj g33_13_2.2.2.2) ?_
    refine XS.istoreN X0.here hx rfl (hb hj g33_13_3.1) rfl (l' := (Lc_ss_a1_1 v)) rfl ?_
    refine st101 _ ?_
    refine XS.iloadN X101.here hx rfl (hb hj g33_13_4.2.2.2) rfl ?_
    refine XS.iloadN X101.here hx rfl (hb hj g33_13_5.1) rfl ?_
    refine XS.iadd X101.here hx rfl (hb hj g33_13_5.2.1) rfl ?_
    show SS pP eE bS T101 (mkF mM 30 (Lc_ss_a1_2 v pe_101) [(.int ((iN (nd (absN v))) + (1 : Int32)))]) _
    rw [show ((iN (nd (absN v))) + (1 : Int32)) = (iN (wd v)) from (iN_add _ _).trans (congrArg iN (own_wd1 hv))]
    exact retI X101 hx Bd.returns (hb hj g33_13_5.2.2.1) hr
  · show Q_ss Z v h0 n0 _ T101.heap _
    rw [e101]
    exact ⟨rfl, N101, rfl⟩
abbrev Lc_ss_b1_0 (v : Int32) : Array Slot := #[.val (.int v), .val (.int (1 : Int32)), .val (.int (-10 : Int32)), .unset]
abbrev Lc_ss_b1_1 (v : Int32) : Array Slot := #[.val (.int v), .val (.int (1 : Int32)), .val (.int (-10 : Int32)), .val (.int (1 : Int32))]
theorem ef_ss_b1 (mM : MethodId) (v : Int32) : entryFrame mM #[(.int v)] 4 = mkF mM 0 #[.val (.int v), .unset, .unset, .unset] [] := by
  first | (simp [entryFrame, mkF, argsToLocals, Value.category]; done) | rfl
theorem rm_ss_b1 (hw : HW a0 Z) (ws : List Jvm.Cond) (v : Int32) (h0 : Heap) (n0 : Nat) (Z0 : n0 ≤ h0.size) (hv : v < (0 : Int32)) (hbd : ¬ ((absN v) < 1000000000)) :
    MF l y37_ jdk_33_method_13_code 4 (some .int) ws r1_0_0_20 #[(.int v)] Z h0 (Q_ss Z v h0 n0) := by
  refine MetFree.of_bodySF (plainFor_of_name pn_java_lang_Integer) hisR ?_
  intro pP eE sS mM aS bS mS cC s₁ Bd hml0 hP hK
  obtain ⟨rfl, hZ, hh⟩ := hP
  have hx := Bd.exec
  have hj := Bd.bytes
  have hml : cC.maxLocals = 4 := hml0
  have hown : sS.vm.findClass "java/lang/Integer" = some mM.cls := findClass_of_methodNamed Bd.named
  have X0 : Stand pP l eE r1_0_0_20 sS mM _ bS mS cC s₁ [] 0 0 := Stand.of_body Bd
  have e0 : s₁.heap = h0 := by rw [← hh, Bd.state]; rfl
  have N0 := Fr.nil n0
  obtain ⟨T101, L101, X101, e101, N101, st101⟩ := sg_ss_t l Z a0 hw v (1 : Int32) (-10 : Int32) (-100 : Int32) (1 : Int32) (2 : Int32) h0 n0 ⟨by omega, hx, hj, hml, hZ, hown, X0, e0, N0, by decide, by decide⟩ (by decide) (own_ssle (K := 10) (own_xneg hv) (by omega) (by decide)) (by decide) (by decide)
  obtain ⟨T102, L102, X102, e102, N102, st102⟩ := sg_ss_t l Z a0 hw v (1 : Int32) (-100 : Int32) (-1000 : Int32) (2 : Int32) (3 : Int32) h0 n0 ⟨by omega, hx, hj, hml, hZ, hown, X101, e101, N101, by decide, by decide⟩ (by decide) (own_ssle (K := 100) (own_xneg hv) (by omega) (by decide)) (by decide) (by decide)
  obtain ⟨T103, L103, X103, e103, N103, st103⟩ := sg_ss_t l Z a0 hw v (1 : Int32) (-1000 : Int32) (-10000 : Int32) (3 : Int32) (4 : Int32) h0 n0 ⟨by omega, hx, hj, hml, hZ, hown, X102, e102, N102, by decide, by decide⟩ (by decide) (own_ssle (K := 1000) (own_xneg hv) (by omega) (by decide)) (by decide) (by decide)
  obtain ⟨T104, L104, X104, e104, N104, st104⟩ := sg_ss_t l Z a0 hw v (1 : Int32) (-10000 : Int32) (-100000 : Int32) (4 : Int32) (5 : Int32) h0 n0 ⟨by omega, hx, hj, hml, hZ, hown, X103, e103, N103, by decide, by decide⟩ (by decide) (own_ssle (K := 10000) (own_xneg hv) (by omega) (by decide)) (by decide) (by decide)
  obtain ⟨T105, L105, X105, e105, N105, st105⟩ := sg_ss_t l Z a0 hw v (1 : Int32) (-100000 : Int32) (-1000000 : Int32) (5 : Int32) (6 : Int32) h0 n0 ⟨by omega, hx, hj, hml, hZ, hown, X104, e104, N104, by decide, by decide⟩ (by decide) (own_ssle (K := 100000) (own_xneg hv) (by omega) (by decide)) (by decide) (by decide)
  obtain ⟨T106, L106, X106, e106, N106, st106⟩ := sg_ss_t l Z a0 hw v (1 : Int32) (-1000000 : Int32) (-10000000 : Int32) (6 : Int32) (7 : Int32) h0 n0 ⟨by omega, hx, hj, hml, hZ, hown, X105, e105, N105, by decide, by decide⟩ (by decide) (own_ssle (K := 1000000) (own_xneg hv) (by omega) (by decide)) (by decide) (by decide)
  obtain ⟨T107, L107, X107, e107, N107, st107⟩ := sg_ss_t l Z a0 hw v (1 : Int32) (-10000000 : Int32) (-100000000 : Int32) (7 : Int32) (8 : Int32) h0 n0 ⟨by omega, hx, hj, hml, hZ, hown, X106, e106, N106, by decide, by decide⟩ (by decide) (own_ssle (K := 10000000) (own_xneg hv) (by omega) (by decide)) (by decide) (by decide)
  obtain ⟨T108, L108, X108, e108, N108, st108⟩ := sg_ss_t l Z a0 hw v (1 : Int32) (-100000000 : Int32) (-1000000000 : Int32) (8 : Int32) (9 : Int32) h0 n0 ⟨by omega, hx, hj, hml, hZ, hown, X107, e107, N107, by decide, by decide⟩ (by decide) (own_ssle (K := 100000000) (own_xneg hv) (by omega) (by decide)) (by decide) (by decide)
  obtain ⟨T109, L109, X109, e109, N109, st109⟩ := sg_ss_t l Z a0 hw v (1 : Int32) (-1000000000 : Int32) (-1410065408 : Int32) (9 : Int32) (10 : Int32) h0 n0 ⟨by omega, hx, hj, hml, hZ, hown, X108, e108, N108, by decide, by decide⟩ (by decide) (own_ssle (K := 1000000000) (own_xneg hv) (by omega) (by decide)) (by decide) (by decide)
  obtain ⟨fs, hr, hrun, hended, hW, hsame⟩ := X109.leave (v := some (.int (11 : Int32))) (fun h => by rw [Bd.returns] at h; cases h)
  refine ⟨_, _, castTop (ef_ss_b1 mM v) ?_, hrun, hended, _, _, rfl, ?_, ⟨_, rfl⟩, hW, hsame.mono (by decide) (by decide)⟩
  · show SS pP eE bS s₁ (mkF mM 0 #[.val (.int v), .unset, .unset, .unset] []) _
    refine XS.iconst X0.here hx rfl (hb hj g33_13_0.1) ?_
    refine XS.istoreN X0.here hx rfl (hb hj g33_13_0.2.1) rfl (l' := #[.val (.int v), .val (.int (1 : Int32)), .unset, .unset]) rfl ?_
    refine XS.iloadN X0.here hx rfl (hb hj g33_13_0.2.2.1) rfl ?_
    refine XS.ifYes X0.here hx rfl (pc0 := 3) (pc' := 11) rfl (hb hj g33_13_0.2.2.2) rfl ((if0 _ _).trans (tlt hv).1) (by decide) (by decide) ?_
    refine XS.bipush X0.here hx rfl (hb hj g33_13_2.2.1) ?_
    refine XS.istoreN X0.here hx rfl (hb hj g33_13_2.2.2.1) rfl (l' := (Lc_ss_b1_0 v)) rfl ?_
    refine XS.iconst X0.here hx rfl (hb hj g33_13_2.2.2.2) ?_
    refine XS.istoreN X0.here hx rfl (hb hj g33_13_3.1) rfl (l' := (Lc_ss_b1_1 v)) rfl ?_
    refine st101 _ ?_
    refine st102 _ ?_
    refine st103 _ ?_
    refine st104 _ ?_
    refine st105 _ ?_
    refine st106 _ ?_
    refine st107 _ ?_
    refine st108 _ ?_
    refine st109 _ ?_
    refine XS.iloadN X109.here hx rfl (hb hj g33_13_3.2.1) rfl ?_
    refine XS.bipush X109.here hx rfl (hb hj g33_13_3.2.2.1) ?_
    refine XS.icmpYes X109.here hx rfl (pc0 := 19) (pc' := 42) rfl (hb hj g33_13_3.2.2.2) rfl (flt (by decide : ¬ ((10 : Int32) < (10 : Int32)))).2.1 (by decide) (by decide) ?_
    refine XS.bipush X109.here hx rfl (hb hj g33_13_7.2.1) ?_
    refine XS.iloadN X109.here hx rfl (hb hj g33_13_7.2.2.1) rfl ?_
    refine XS.iadd X109.here hx rfl (hb hj g33_13_7.2.2.2) rfl ?_
    exact retI X109 hx Bd.returns (hb hj g33_13_8) hr
  · show Q_ss Z v h0 n0 _ T109.heap _
    rw [e109]
    exact ⟨congrArg (fun k => some (Value.int (iN k))) (own_wd1' hv (own_nd10 hbd)), N109, rfl⟩
abbrev Lc_ss_a0_0 (v : Int32) : Array Slot := #[.val (.int (-v)), .val (.int (0 : Int32)), .val (.int (-10 : Int32)), .unset]
abbrev Lc_ss_a0_1 (v : Int32) : Array Slot := #[.val (.int (-v)), .val (.int (0 : Int32)), .val (.int (-10 : Int32)), .val (.int (1 : Int32))]
abbrev Lc_ss_a0_2 (v : Int32) (pe_101 : Int32) : Array Slot := #[.val (.int (-v)), .val (.int (0 : Int32)), .val (.int pe_101), .val (.int (iN (nd (absN v))))]
theorem ef_ss_a0 (mM : MethodId) (v : Int32) : entryFrame mM #[(.int v)] 4 = mkF mM 0 #[.val (.int v), .unset, .unset, .unset] [] := by
  first | (simp [entryFrame, mkF, argsToLocals, Value.category]; done) | rfl
theorem rm_ss_a0 (hw : HW a0 Z) (ws : List Jvm.Cond) (v : Int32) (h0 : Heap) (n0 : Nat) (Z0 : n0 ≤ h0.size) (hv : ¬ (v < (0 : Int32))) (hbd : (absN v) < 1000000000) :
    MF l y37_ jdk_33_method_13_code 4 (some .int) ws r1_0_0_20 #[(.int v)] Z h0 (Q_ss Z v h0 n0) := by
  refine MetFree.of_bodySF (plainFor_of_name pn_java_lang_Integer) hisR ?_
  intro pP eE sS mM aS bS mS cC s₁ Bd hml0 hP hK
  obtain ⟨rfl, hZ, hh⟩ := hP
  have hx := Bd.exec
  have hj := Bd.bytes
  have hml : cC.maxLocals = 4 := hml0
  have hown : sS.vm.findClass "java/lang/Integer" = some mM.cls := findClass_of_methodNamed Bd.named
  have X0 : Stand pP l eE r1_0_0_20 sS mM _ bS mS cC s₁ [] 0 0 := Stand.of_body Bd
  have e0 : s₁.heap = h0 := by rw [← hh, Bd.state]; rfl
  have N0 := Fr.nil n0
  obtain ⟨pe_101, T101, L101, X101, e101, N101, st101⟩ := sg_ss_l1 l Z a0 hw (absN v) (-v) (0 : Int32) h0 n0 ⟨by omega, hx, hj, hml, hZ, hown, X0, e0, N0, by decide, by decide⟩ (own_xpos hv) (Nat.zero_le _) hbd
  obtain ⟨fs, hr, hrun, hended, hW, hsame⟩ := X101.leave (v := some (.int (iN (wd v)))) (fun h => by rw [Bd.returns] at h; cases h)
  refine ⟨_, _, castTop (ef_ss_a0 mM v) ?_, hrun, hended, _, _, rfl, ?_, ⟨_, rfl⟩, hW, hsame.mono (by decide) (by decide)⟩
  · show SS pP eE bS s₁ (mkF mM 0 #[.val (.int v), .unset, .unset, .unset] []) _
    refine XS.iconst X0.here hx rfl (hb hj g33_13_0.1) ?_
    refine XS.istoreN X0.here hx rfl (hb hj g33_13_0.2.1) rfl (l' := #[.val (.int v), .val (.int (1 : Int32)), .unset, .unset]) rfl ?_
    refine XS.iloadN X0.here hx rfl (hb hj g33_13_0.2.2.1) rfl ?_
    refine XS.ifNo X0.here hx rfl (hb hj g33_13_0.2.2.2) rfl ((if0 _ _).trans (flt hv).1) ?_
    refine XS.iconst X0.here hx rfl (hb hj g33_13_1.1) ?_
    refine XS.istoreN X0.here hx rfl (hb hj g33_13_1.2.1) rfl (l' := #[.val (.int v), .val (.int (0 : Int32)), .unset, .unset]) rfl ?_
    refine XS.iloadN X0.here hx rfl (hb hj g33_13_1.2.2.1) rfl ?_
    refine XS.ineg X0.here hx rfl (hb hj g33_13_1.2.2.2) rfl ?_
    refine XS.istoreN X0.here hx rfl (hb hj g33_13_2.1) rfl (l' := #[.val (.int (-v)), .val (.int (0 : Int32)), .unset, .unset]) rfl ?_
    refine XS.bipush X0.here hx rfl (hb hj g33_13_2.2.1) ?_
    refine XS.istoreN X0.here hx rfl (hb hj g33_13_2.2.2.1) rfl (l' := (Lc_ss_a0_0 v)) rfl ?_
    refine XS.iconst X0.here hx rfl (hb hj g33_13_2.2.2.2) ?_
    refine XS.istoreN X0.here hx rfl (hb hj g33_13_3.1) rfl (l' := (Lc_ss_a0_1 v)) rfl ?_
    refine st101 _ ?_
    refine XS.iloadN X101.here hx rfl (hb hj g33_13_4.2.2.2) rfl ?_
    refine XS.iloadN X101.here hx rfl (hb hj g33_13_5.1) rfl ?_
    refine XS.iadd X101.here hx rfl (hb hj g33_13_5.2.1) rfl ?_
    show SS pP eE bS T101 (mkF mM 30 (Lc_ss_a0_2 v pe_101) [(.int ((iN (nd (absN v))) + (0 : Int32)))]) _
    rw [show ((iN (nd (absN v))) + (0 : Int32)) = (iN (wd v)) from (iN_add _ _).trans (congrArg iN (own_wd0 hv))]
    exact retI X101 hx Bd.returns (hb hj g33_13_5.2.2.1) hr
  · show Q_ss Z v h0 n0 _ T101.heap _
    rw [e101]
    exact ⟨rfl, N101, rfl⟩
abbrev Lc_ss_b0_0 (v : Int32) : Array Slot := #[.val (.int (-v)), .val (.int (0 : Int32)), .val (.int (-10 : Int32)), .unset]
abbrev Lc_ss_b0_1 (v : Int32) : Array Slot := #[.val (.int (-v)), .val (.int (0 : Int32)), .val (.int (-10 : Int32)), .val (.int (1 : Int32))]
theorem ef_ss_b0 (mM : MethodId) (v : Int32) : entryFrame mM #[(.int v)] 4 = mkF mM 0 #[.val (.int v), .unset, .unset, .unset] [] := by
  first | (simp [entryFrame, mkF, argsToLocals, Value.category]; done) | rfl
theorem rm_ss_b0 (hw : HW a0 Z) (ws : List Jvm.Cond) (v : Int32) (h0 : Heap) (n0 : Nat) (Z0 : n0 ≤ h0.size) (hv : ¬ (v < (0 : Int32))) (hbd : ¬ ((absN v) < 1000000000)) :
    MF l y37_ jdk_33_method_13_code 4 (some .int) ws r1_0_0_20 #[(.int v)] Z h0 (Q_ss Z v h0 n0) := by
  refine MetFree.of_bodySF (plainFor_of_name pn_java_lang_Integer) hisR ?_
  intro pP eE sS mM aS bS mS cC s₁ Bd hml0 hP hK
  obtain ⟨rfl, hZ, hh⟩ := hP
  have hx := Bd.exec
  have hj := Bd.bytes
  have hml : cC.maxLocals = 4 := hml0
  have hown : sS.vm.findClass "java/lang/Integer" = some mM.cls := findClass_of_methodNamed Bd.named
  have X0 : Stand pP l eE r1_0_0_20 sS mM _ bS mS cC s₁ [] 0 0 := Stand.of_body Bd
  have e0 : s₁.heap = h0 := by rw [← hh, Bd.state]; rfl
  have N0 := Fr.nil n0
  obtain ⟨T101, L101, X101, e101, N101, st101⟩ := sg_ss_t l Z a0 hw (-v) (0 : Int32) (-10 : Int32) (-100 : Int32) (1 : Int32) (2 : Int32) h0 n0 ⟨by omega, hx, hj, hml, hZ, hown, X0, e0, N0, by decide, by decide⟩ (by decide) (own_ssle (K := 10) (own_xpos hv) (by omega) (by decide)) (by decide) (by decide)
  obtain ⟨T102, L102, X102, e102, N102, st102⟩ := sg_ss_t l Z a0 hw (-v) (0 : Int32) (-100 : Int32) (-1000 : Int32) (2 : Int32) (3 : Int32) h0 n0 ⟨by omega, hx, hj, hml, hZ, hown, X101, e101, N101, by decide, by decide⟩ (by decide) (own_ssle (K := 100) (own_xpos hv) (by omega) (by decide)) (by decide) (by decide)
  obtain ⟨T103, L103, X103, e103, N103, st103⟩ := sg_ss_t l Z a0 hw (-v) (0 : Int32) (-1000 : Int32) (-10000 : Int32) (3 : Int32) (4 : Int32) h0 n0 ⟨by omega, hx, hj, hml, hZ, hown, X102, e102, N102, by decide, by decide⟩ (by decide) (own_ssle (K := 1000) (own_xpos hv) (by omega) (by decide)) (by decide) (by decide)
  obtain ⟨T104, L104, X104, e104, N104, st104⟩ := sg_ss_t l Z a0 hw (-v) (0 : Int32) (-10000 : Int32) (-100000 : Int32) (4 : Int32) (5 : Int32) h0 n0 ⟨by omega, hx, hj, hml, hZ, hown, X103, e103, N103, by decide, by decide⟩ (by decide) (own_ssle (K := 10000) (own_xpos hv) (by omega) (by decide)) (by decide) (by decide)
  obtain ⟨T105, L105, X105, e105, N105, st105⟩ := sg_ss_t l Z a0 hw (-v) (0 : Int32) (-100000 : Int32) (-1000000 : Int32) (5 : Int32) (6 : Int32) h0 n0 ⟨by omega, hx, hj, hml, hZ, hown, X104, e104, N104, by decide, by decide⟩ (by decide) (own_ssle (K := 100000) (own_xpos hv) (by omega) (by decide)) (by decide) (by decide)
  obtain ⟨T106, L106, X106, e106, N106, st106⟩ := sg_ss_t l Z a0 hw (-v) (0 : Int32) (-1000000 : Int32) (-10000000 : Int32) (6 : Int32) (7 : Int32) h0 n0 ⟨by omega, hx, hj, hml, hZ, hown, X105, e105, N105, by decide, by decide⟩ (by decide) (own_ssle (K := 1000000) (own_xpos hv) (by omega) (by decide)) (by decide) (by decide)
  obtain ⟨T107, L107, X107, e107, N107, st107⟩ := sg_ss_t l Z a0 hw (-v) (0 : Int32) (-10000000 : Int32) (-100000000 : Int32) (7 : Int32) (8 : Int32) h0 n0 ⟨by omega, hx, hj, hml, hZ, hown, X106, e106, N106, by decide, by decide⟩ (by decide) (own_ssle (K := 10000000) (own_xpos hv) (by omega) (by decide)) (by decide) (by decide)
  obtain ⟨T108, L108, X108, e108, N108, st108⟩ := sg_ss_t l Z a0 hw (-v) (0 : Int32) (-100000000 : Int32) (-1000000000 : Int32) (8 : Int32) (9 : Int32) h0 n0 ⟨by omega, hx, hj, hml, hZ, hown, X107, e107, N107, by decide, by decide⟩ (by decide) (own_ssle (K := 100000000) (own_xpos hv) (by omega) (by decide)) (by decide) (by decide)
  obtain ⟨T109, L109, X109, e109, N109, st109⟩ := sg_ss_t l Z a0 hw (-v) (0 : Int32) (-1000000000 : Int32) (-1410065408 : Int32) (9 : Int32) (10 : Int32) h0 n0 ⟨by omega, hx, hj, hml, hZ, hown, X108, e108, N108, by decide, by decide⟩ (by decide) (own_ssle (K := 1000000000) (own_xpos hv) (by omega) (by decide)) (by decide) (by decide)
  obtain ⟨fs, hr, hrun, hended, hW, hsame⟩ := X109.leave (v := some (.int (10 : Int32))) (fun h => by rw [Bd.returns] at h; cases h)
  refine ⟨_, _, castTop (ef_ss_b0 mM v) ?_, hrun, hended, _, _, rfl, ?_, ⟨_, rfl⟩, hW, hsame.mono (by decide) (by decide)⟩
  · show SS pP eE bS s₁ (mkF mM 0 #[.val (.int v), .unset, .unset, .unset] []) _
    refine XS.iconst X0.here hx rfl (hb hj g33_13_0.1) ?_
    refine XS.istoreN X0.here hx rfl (hb hj g33_13_0.2.1) rfl (l' := #[.val (.int v), .val (.int (1 : Int32)), .unset, .unset]) rfl ?_
    refine XS.iloadN X0.here hx rfl (hb hj g33_13_0.2.2.1) rfl ?_
    refine XS.ifNo X0.here hx rfl (hb hj g33_13_0.2.2.2) rfl ((if0 _ _).trans (flt hv).1) ?_
    refine XS.iconst X0.here hx rfl (hb hj g33_13_1.1) ?_
    refine XS.istoreN X0.here hx rfl (hb hj g33_13_1.2.1) rfl (l' := #[.val (.int v), .val (.int (0 : Int32)), .unset, .unset]) rfl ?_
    refine XS.iloadN X0.here hx rfl (hb hj g33_13_1.2.2.1) rfl ?_
    refine XS.ineg X0.here hx rfl (hb hj g33_13_1.2.2.2) rfl ?_
    refine XS.istoreN X0.here hx rfl (hb hj g33_13_2.1) rfl (l' := #[.val (.int (-v)), .val (.int (0 : Int32)), .unset, .unset]) rfl ?_
    refine XS.bipush X0.here hx rfl (hb hj g33_13_2.2.1) ?_
    refine XS.istoreN X0.here hx rfl (hb hj g33_13_2.2.2.1) rfl (l' := (Lc_ss_b0_0 v)) rfl ?_
    refine XS.iconst X0.here hx rfl (hb hj g33_13_2.2.2.2) ?_
    refine XS.istoreN X0.here hx rfl (hb hj g33_13_3.1) rfl (l' := (Lc_ss_b0_1 v)) rfl ?_
    refine st101 _ ?_
    refine st102 _ ?_
    refine st103 _ ?_
    refine st104 _ ?_
    refine st105 _ ?_
    refine st106 _ ?_
    refine st107 _ ?_
    refine st108 _ ?_
    refine st109 _ ?_
    refine XS.iloadN X109.here hx rfl (hb hj g33_13_3.2.1) rfl ?_
    refine XS.bipush X109.here hx rfl (hb hj g33_13_3.2.2.1) ?_
    refine XS.icmpYes X109.here hx rfl (pc0 := 19) (pc' := 42) rfl (hb hj g33_13_3.2.2.2) rfl (flt (by decide : ¬ ((10 : Int32) < (10 : Int32)))).2.1 (by decide) (by decide) ?_
    refine XS.bipush X109.here hx rfl (hb hj g33_13_7.2.1) ?_
    refine XS.iloadN X109.here hx rfl (hb hj g33_13_7.2.2.1) rfl ?_
    refine XS.iadd X109.here hx rfl (hb hj g33_13_7.2.2.2) rfl ?_
    exact retI X109 hx Bd.returns (hb hj g33_13_8) hr
  · show Q_ss Z v h0 n0 _ T109.heap _
    rw [e109]
    exact ⟨congrArg (fun k => some (Value.int (iN k))) (own_wd0' hv (own_nd10 hbd)), N109, rfl⟩
theorem rm_ss (hw : HW a0 Z) (ws : List Jvm.Cond) (v : Int32) (h0 : Heap) (n0 : Nat) (Z0 : n0 ≤ h0.size) :
    MF l y37_ jdk_33_method_13_code 4 (some .int) ws r1_0_0_20 #[(.int v)] Z h0 (Q_ss Z v h0 n0) := by
  by_cases hv : v < (0 : Int32)
  · by_cases hbd : absN v < 1000000000
    · exact rm_ss_a1 l Z a0 hw ws v h0 n0 Z0 hv hbd
    · exact rm_ss_b1 l Z a0 hw ws v h0 n0 Z0 hv hbd
  · by_cases hbd : absN v < 1000000000
    · exact rm_ss_a0 l Z a0 hw ws v h0 n0 Z0 hv hbd
    · exact rm_ss_b0 l Z a0 hw ws v h0 n0 Z0 hv hbd
abbrev r5_0_0_70 : Room := { frames := 5, cells := 0, slots := 0, locals := 70 }
abbrev c7 := method_7_code
theorem g7_0 : decode c7 0 = .ok (.aload_n 2, 1) ∧ decode c7 1 = .ok (.invokevirtual 33, 3) ∧ decode c7 4 = .ok (.ifCond .le 18, 3) ∧ decode c7 7 = .ok (.aload_n 0, 1) := by decide +kernel
theorem cw_length_S5033 (hw : HW a0 Z) (t : Addr) (tb : Addr) (tk : ClassId) (z : Nat) (ys : List Value) (cs : Int32) (fo : Value) (da : Addr) (ea : Addr) {RR : Room} (h0 : Heap) (n0 : Nat) (Z0 : n0 ≤ h0.size) (hx : pP.tables.exec = Jvm.exec) (hZ : Z.Warmed39 sS.vm) (hown : sS.vm.findClass "com/example/tessera/tessera/sql/SqlTextPagedPinLaw" = some mM.cls) (X0 : Stand pP l eE RR sS mM aS bS mS cC s₁ lc0 cl0 sl0) (e0 : s₁.heap = h0) (N0 : Fr n0 lc0) (hcl : cl0 + r1_0_0_13.cells ≤ RR.cells) (hsl : sl0 + r1_0_0_13.slots ≤ RR.slots) (A_t : StrA Z h0 t tb tk z ys) (OL : Old Z n0 h0) (SX : Sts Z cs fo da ea) {g : JFrame} (hg : g.method = mM) (hsz : g.locals.size = cC.maxLocals) {rest : List Value} (hst : g.stack = [(.ref t)] ++ rest) (hd : decode cC.code g.pc = .ok (.invokevirtual 33, 3)) {W : Nat} (hW : 2 * g.monitorRoom + (rest.map fun v => v.category).sum ≤ W) (hfr : r1_0_0_13.frames + 1 ≤ RR.frames) (hlo : W + (1 + 11) + r1_0_0_13.locals ≤ RR.locals) :
    ∃ T' L', Stand pP l eE RR sS mM aS bS mS cC T' L' (cl0 + r1_0_0_13.cells) (sl0 + r1_0_0_13.slots) ∧ T'.heap = h0 ∧ Fr n0 L' ∧ ∀ t', Steps pP.tables eE bS (T'.setTop { g with pc := g.pc + 3, stack := [(.int (iN z))] ++ rest }) t' → Steps pP.tables eE bS (s₁.setTop g) t' := by
  obtain ⟨cq, kq, qa, qb, qc⟩ := isOf hZ e0 A_t.1
  obtain ⟨_, _, ⟨T1, L1, k1, n1⟩, -, X1, ⟨Lc1, hQ1, l1, y1, z1⟩, st1⟩ := X0.virtualBack hx (y := y1_) (z := y1_) hown (mvT hZ (wi hw 200 rfl)) (mvT hZ (wi hw 65 rfl)) (notFace_of_selects (args := #[]) (mvT hZ (wi hw 67 rfl))) (mvT hZ (wi hw 67 rfl)) (mvT hZ (wi hw 66 rfl)) (by decide) (backOf (W := W) (rm_length l Z a0 hw [] t tb tk z ys cs fo da ea h0 n0 Z0 A_t OL SX) hZ (wi hw 68 rfl) (wi hw 1 rfl) hfr hlo) qa qc (g := g) hg hsz (Steps.refl _) (argsL := []) (rest := rest) (lenOf pd_9 rfl) hst hW hd (fun _ _ => ⟨rfl, e0, hcl, hsl⟩)
  dsimp only [Pt.U, Pt.locs, Pt.cells, Pt.slots] at X1 l1 y1 z1 st1 hQ1
  subst y1 z1
  obtain ⟨rfl, Nq, Kq⟩ := hQ1
  exact ⟨T1, L1, X1, Kq, by rw [l1]; exact Fr.app N0 Nq, fun t' hk => st1.trans hk⟩
theorem g7_1 : decode c7 8 = .ok (.iload_n 1, 1) ∧ decode c7 9 = .ok (.invokevirtual 37, 3) ∧ decode c7 12 = .ok (.aload_n 2, 1) ∧ decode c7 13 = .ok (.iconst 0, 1) := by decide +kernel
theorem g7_2 : decode c7 14 = .ok (.invokevirtual 37, 3) ∧ decode c7 17 = .ok (.if_icmp .eq 5, 3) ∧ decode c7 22 = .ok (.aload_n 2, 1) ∧ decode c7 23 = .ok (.invokevirtual 33, 3) := by decide +kernel
theorem g7_3 : decode c7 26 = .ok (.iconst 1, 1) ∧ decode c7 27 = .ok (.if_icmp .le 20, 3) ∧ decode c7 30 = .ok (.aload_n 0, 1) ∧ decode c7 31 = .ok (.iload_n 1, 1) := by decide +kernel
theorem g7_4 : decode c7 32 = .ok (.iconst 1, 1) ∧ decode c7 33 = .ok (.iadd, 1) ∧ decode c7 34 = .ok (.invokevirtual 37, 3) ∧ decode c7 37 = .ok (.aload_n 2, 1) := by decide +kernel
theorem g7_5 : decode c7 38 = .ok (.iconst 1, 1) ∧ decode c7 39 = .ok (.invokevirtual 37, 3) ∧ decode c7 42 = .ok (.if_icmp .eq 5, 3) ∧ decode c7 47 = .ok (.aload_n 2, 1) := by decide +kernel
theorem g7_6 : decode c7 48 = .ok (.invokevirtual 33, 3) ∧ decode c7 51 = .ok (.iconst 2, 1) ∧ decode c7 52 = .ok (.if_icmp .le 20, 3) ∧ decode c7 55 = .ok (.aload_n 0, 1) := by decide +kernel
theorem g7_7 : decode c7 56 = .ok (.iload_n 1, 1) ∧ decode c7 57 = .ok (.iconst 2, 1) ∧ decode c7 58 = .ok (.iadd, 1) ∧ decode c7 59 = .ok (.invokevirtual 37, 3) := by decide +kernel
theorem g7_8 : decode c7 62 = .ok (.aload_n 2, 1) ∧ decode c7 63 = .ok (.iconst 2, 1) ∧ decode c7 64 = .ok (.invokevirtual 37, 3) ∧ decode c7 67 = .ok (.if_icmp .eq 5, 3) := by decide +kernel
theorem g7_9 : decode c7 72 = .ok (.aload_n 2, 1) ∧ decode c7 73 = .ok (.invokevirtual 33, 3) ∧ decode c7 76 = .ok (.iconst 3, 1) ∧ decode c7 77 = .ok (.if_icmp .le 20, 3) := by decide +kernel
theorem g7_10 : decode c7 80 = .ok (.aload_n 0, 1) ∧ decode c7 81 = .ok (.iload_n 1, 1) ∧ decode c7 82 = .ok (.iconst 3, 1) ∧ decode c7 83 = .ok (.iadd, 1) := by decide +kernel
theorem g7_11 : decode c7 84 = .ok (.invokevirtual 37, 3) ∧ decode c7 87 = .ok (.aload_n 2, 1) ∧ decode c7 88 = .ok (.iconst 3, 1) ∧ decode c7 89 = .ok (.invokevirtual 37, 3) := by decide +kernel
theorem g7_12 : decode c7 92 = .ok (.if_icmp .eq 5, 3) ∧ decode c7 97 = .ok (.aload_n 2, 1) ∧ decode c7 98 = .ok (.invokevirtual 33, 3) ∧ decode c7 101 = .ok (.iconst 4, 1) := by decide +kernel
theorem g7_13 : decode c7 102 = .ok (.if_icmp .le 20, 3) ∧ decode c7 105 = .ok (.aload_n 0, 1) ∧ decode c7 106 = .ok (.iload_n 1, 1) ∧ decode c7 107 = .ok (.iconst 4, 1) := by decide +kernel
theorem g7_14 : decode c7 108 = .ok (.iadd, 1) ∧ decode c7 109 = .ok (.invokevirtual 37, 3) ∧ decode c7 112 = .ok (.aload_n 2, 1) ∧ decode c7 113 = .ok (.iconst 4, 1) := by decide +kernel
theorem g7_15 : decode c7 114 = .ok (.invokevirtual 37, 3) ∧ decode c7 117 = .ok (.if_icmp .eq 5, 3) ∧ decode c7 122 = .ok (.aload_n 2, 1) ∧ decode c7 123 = .ok (.invokevirtual 33, 3) := by decide +kernel
theorem g7_16 : decode c7 126 = .ok (.iconst 5, 1) ∧ decode c7 127 = .ok (.if_icmp .le 20, 3) ∧ decode c7 130 = .ok (.aload_n 0, 1) ∧ decode c7 131 = .ok (.iload_n 1, 1) := by decide +kernel
theorem g7_17 : decode c7 132 = .ok (.iconst 5, 1) ∧ decode c7 133 = .ok (.iadd, 1) ∧ decode c7 134 = .ok (.invokevirtual 37, 3) ∧ decode c7 137 = .ok (.aload_n 2, 1) := by decide +kernel
theorem g7_18 : decode c7 138 = .ok (.iconst 5, 1) ∧ decode c7 139 = .ok (.invokevirtual 37, 3) ∧ decode c7 142 = .ok (.if_icmp .eq 5, 3) ∧ decode c7 147 = .ok (.aload_n 2, 1) := by decide +kernel
theorem g7_19 : decode c7 148 = .ok (.invokevirtual 33, 3) ∧ decode c7 151 = .ok (.bipush 6, 2) ∧ decode c7 153 = .ok (.if_icmp .le 22, 3) ∧ decode c7 156 = .ok (.aload_n 0, 1) := by decide +kernel
theorem g7_20 : decode c7 157 = .ok (.iload_n 1, 1) ∧ decode c7 158 = .ok (.bipush 6, 2) ∧ decode c7 160 = .ok (.iadd, 1) ∧ decode c7 161 = .ok (.invokevirtual 37, 3) := by decide +kernel
theorem g7_21 : decode c7 164 = .ok (.aload_n 2, 1) ∧ decode c7 165 = .ok (.bipush 6, 2) ∧ decode c7 167 = .ok (.invokevirtual 37, 3) ∧ decode c7 170 = .ok (.if_icmp .eq 5, 3) := by decide +kernel
theorem g7_22 : decode c7 175 = .ok (.aload_n 2, 1) ∧ decode c7 176 = .ok (.invokevirtual 33, 3) ∧ decode c7 179 = .ok (.bipush 7, 2) ∧ decode c7 181 = .ok (.if_icmp .le 22, 3) := by decide +kernel
theorem g7_23 : decode c7 184 = .ok (.aload_n 0, 1) ∧ decode c7 185 = .ok (.iload_n 1, 1) ∧ decode c7 186 = .ok (.bipush 7, 2) ∧ decode c7 188 = .ok (.iadd, 1) := by decide +kernel
theorem g7_24 : decode c7 189 = .ok (.invokevirtual 37, 3) ∧ decode c7 192 = .ok (.aload_n 2, 1) ∧ decode c7 193 = .ok (.bipush 7, 2) ∧ decode c7 195 = .ok (.invokevirtual 37, 3) := by decide +kernel
theorem g7_25 : decode c7 198 = .ok (.if_icmp .eq 5, 3) ∧ decode c7 203 = .ok (.aload_n 2, 1) ∧ decode c7 204 = .ok (.invokevirtual 33, 3) ∧ decode c7 207 = .ok (.bipush 8, 2) := by decide +kernel
theorem g7_26 : decode c7 209 = .ok (.if_icmp .le 22, 3) ∧ decode c7 212 = .ok (.aload_n 0, 1) ∧ decode c7 213 = .ok (.iload_n 1, 1) ∧ decode c7 214 = .ok (.bipush 8, 2) := by decide +kernel
theorem g7_27 : decode c7 216 = .ok (.iadd, 1) ∧ decode c7 217 = .ok (.invokevirtual 37, 3) ∧ decode c7 220 = .ok (.aload_n 2, 1) ∧ decode c7 221 = .ok (.bipush 8, 2) := by decide +kernel
theorem g7_28 : decode c7 223 = .ok (.invokevirtual 37, 3) ∧ decode c7 226 = .ok (.if_icmp .eq 5, 3) ∧ decode c7 231 = .ok (.aload_n 2, 1) ∧ decode c7 232 = .ok (.invokevirtual 33, 3) := by decide +kernel
theorem g7_29 : decode c7 235 = .ok (.bipush 9, 2) ∧ decode c7 237 = .ok (.if_icmp .le 22, 3) ∧ decode c7 240 = .ok (.aload_n 0, 1) ∧ decode c7 241 = .ok (.iload_n 1, 1) := by decide +kernel
theorem g7_30 : decode c7 242 = .ok (.bipush 9, 2) ∧ decode c7 244 = .ok (.iadd, 1) ∧ decode c7 245 = .ok (.invokevirtual 37, 3) ∧ decode c7 248 = .ok (.aload_n 2, 1) := by decide +kernel
theorem g7_31 : decode c7 249 = .ok (.bipush 9, 2) ∧ decode c7 251 = .ok (.invokevirtual 37, 3) ∧ decode c7 254 = .ok (.if_icmp .eq 5, 3) ∧ decode c7 259 = .ok (.aload_n 2, 1) := by decide +kernel
theorem g7_32 : decode c7 260 = .ok (.invokevirtual 33, 3) ∧ decode c7 263 = .ok (.bipush 10, 2) ∧ decode c7 265 = .ok (.if_icmp .le 22, 3) ∧ decode c7 268 = .ok (.aload_n 0, 1) := by decide +kernel
theorem g7_33 : decode c7 269 = .ok (.iload_n 1, 1) ∧ decode c7 270 = .ok (.bipush 10, 2) ∧ decode c7 272 = .ok (.iadd, 1) ∧ decode c7 273 = .ok (.invokevirtual 37, 3) := by decide +kernel
theorem g7_34 : decode c7 276 = .ok (.aload_n 2, 1) ∧ decode c7 277 = .ok (.bipush 10, 2) ∧ decode c7 279 = .ok (.invokevirtual 37, 3) ∧ decode c7 282 = .ok (.if_icmp .eq 5, 3) := by decide +kernel
theorem g7_35 : decode c7 287 = .ok (.aload_n 2, 1) ∧ decode c7 288 = .ok (.invokevirtual 33, 3) ∧ decode c7 291 = .ok (.bipush 11, 2) ∧ decode c7 293 = .ok (.if_icmp .le 22, 3) := by decide +kernel
theorem g7_36 : decode c7 296 = .ok (.aload_n 0, 1) ∧ decode c7 297 = .ok (.iload_n 1, 1) ∧ decode c7 298 = .ok (.bipush 11, 2) ∧ decode c7 300 = .ok (.iadd, 1) := by decide +kernel
theorem g7_37 : decode c7 301 = .ok (.invokevirtual 37, 3) ∧ decode c7 304 = .ok (.aload_n 2, 1) ∧ decode c7 305 = .ok (.bipush 11, 2) ∧ decode c7 307 = .ok (.invokevirtual 37, 3) := by decide +kernel
theorem g7_38 : decode c7 310 = .ok (.if_icmp .eq 5, 3) ∧ decode c7 315 = .ok (.aload_n 2, 1) ∧ decode c7 316 = .ok (.invokevirtual 33, 3) ∧ decode c7 319 = .ok (.bipush 12, 2) := by decide +kernel
theorem g7_39 : decode c7 321 = .ok (.if_icmp .le 22, 3) ∧ decode c7 324 = .ok (.aload_n 0, 1) ∧ decode c7 325 = .ok (.iload_n 1, 1) ∧ decode c7 326 = .ok (.bipush 12, 2) := by decide +kernel
theorem g7_40 : decode c7 328 = .ok (.iadd, 1) ∧ decode c7 329 = .ok (.invokevirtual 37, 3) ∧ decode c7 332 = .ok (.aload_n 2, 1) ∧ decode c7 333 = .ok (.bipush 12, 2) := by decide +kernel
theorem g7_41 : decode c7 335 = .ok (.invokevirtual 37, 3) ∧ decode c7 338 = .ok (.if_icmp .eq 5, 3) ∧ decode c7 343 = .ok (.iconst 1, 1) ∧ decode c7 344 = .ok (.ireturn, 1) := by decide +kernel
abbrev y38_ : MethodName := ⟨"com/example/tessera/tessera/sql/SqlTextPagedPinLaw", "lit", "(Ljava/lang/String;ILjava/lang/String;)Z"⟩
def Q_lit (Z : State) (t : Addr) (tb : Addr) (tk : ClassId) (z : Nat) (ys : List Value) (p : Nat) (q : Addr) (qb : Addr) (qk : ClassId) (lz : Nat) (ls : List Value) (fo : Value) (cs : Int32) (da : Addr) (ea : Addr) (h0 : Heap) (n0 : Nat) (xv : Option Value) (xh : Heap) (xL : List Loc) : Prop := xv = some (.int (1 : Int32)) ∧ Fr n0 xL ∧ xh = h0
theorem ef_lit (mM : MethodId) (t : Addr) (tb : Addr) (tk : ClassId) (z : Nat) (ys : List Value) (p : Nat) (q : Addr) (qb : Addr) (qk : ClassId) (lz : Nat) (ls : List Value) (fo : Value) (cs : Int32) (da : Addr) (ea : Addr) : entryFrame mM #[(.ref t), (.int (iN p)), (.ref q)] 3 = mkF mM 0 #[.val (.ref t), .val (.int (iN p)), .val (.ref q)] [] := by
  first | (simp [entryFrame, mkF, argsToLocals, Value.category]; done) | rfl
theorem rm_lit (hw : HW a0 Z) (ws : List Jvm.Cond) (t : Addr) (tb : Addr) (tk : ClassId) (z : Nat) (ys : List Value) (p : Nat) (q : Addr) (qb : Addr) (qk : ClassId) (lz : Nat) (ls : List Value) (fo : Value) (cs : Int32) (da : Addr) (ea : Addr) (h0 : Heap) (n0 : Nat) (Z0 : n0 ≤ h0.size) (A_t : StrA Z h0 t tb tk z ys) (A_q : StrA Z h0 q qb qk lz ls) (SX : Sts Z cs fo da ea) (OL : Old Z n0 h0) (hbd : lz < 1000 ∧ p + lz < 1000000) (hl : ∀ k, LitK z ys lz ls p k) :
    MF l y38_ method_7_code 3 (some .boolean) ws r5_0_0_70 #[(.ref t), (.int (iN p)), (.ref q)] Z h0 (Q_lit Z t tb tk z ys p q qb qk lz ls fo cs da ea h0 n0) := by
  refine MetFree.of_bodySF (plainFor_of_name pn_com_example_tessera_tessera_sql_SqlTextPagedPinLaw) hisR ?_
  intro pP eE sS mM aS bS mS cC s₁ Bd hml0 hP hK
  obtain ⟨rfl, hZ, hh⟩ := hP
  have hx := Bd.exec
  have hj := Bd.bytes
  have hml : cC.maxLocals = 3 := hml0
  have hown : sS.vm.findClass "com/example/tessera/tessera/sql/SqlTextPagedPinLaw" = some mM.cls := findClass_of_methodNamed Bd.named
  have X0 : Stand pP l eE r5_0_0_70 sS mM _ bS mS cC s₁ [] 0 0 := Stand.of_body Bd
  have e0 : s₁.heap = h0 := by rw [← hh, Bd.state]; rfl
  have N0 := Fr.nil n0
  obtain ⟨T101, L101, X101, e101, N101, st101⟩ := cw_length_S5033 l Z a0 hw q qb qk lz ls cs fo da ea h0 n0 (by omega) hx hZ hown X0 e0 N0 (by decide) (by decide) A_q OL SX (g := (mkF mM 1 #[.val (.ref t), .val (.int (iN p)), .val (.ref q)] [(.ref q)])) rfl hml.symm rfl (hb hj g7_0.2.1) (W := 0) (W0 rfl) (by decide) (by decide)
  obtain ⟨T102, L102, X102, e102, N102, st102⟩ : ∃ T' L', Stand pP l eE r5_0_0_70 sS mM #[(.ref t), (.int (iN p)), (.ref q)] bS mS cC T' L' 0 0 ∧ T'.heap = h0 ∧ Fr n0 L' ∧ ∀ t', SS pP eE bS T' (mkF mM 22 #[.val (.ref t), .val (.int (iN p)), .val (.ref q)] []) t' → SS pP eE bS T101 (mkF mM 4 #[.val (.ref t), .val (.int (iN p)), .val (.ref q)] [(.int (iN lz))]) t' := by
    rcases hl 0 with hk | ⟨hk, c, h1, h2⟩
    · refine ⟨T101, _, X101, e101, N101, fun t' hk' => ?_⟩
      show SS pP eE bS T101 (mkF mM 4 #[.val (.ref t), .val (.int (iN p)), .val (.ref q)] [(.int (iN lz))]) _
      refine XS.ifYes X101.here hx rfl (pc0 := 4) (pc' := 22) rfl (hb hj g7_0.2.2.1) rfl ((if0 _ _).trans (flt (fun x => hk ((iN_lt (a := 0) (by omega) (by omega)).mp x) : ¬ ((0 : Int32) < (iN lz)))).2.2.2) (by decide) (by decide) ?_
      exact hk'
    · obtain ⟨T103, L103, X103, e103, N103, st103⟩ := cw_charAt_S5037 l Z a0 hw t tb tk z ys p c fo cs da ea h0 n0 (by omega) hx hZ hown X101 e101 N101 (by decide) (by decide) A_t SX OL h1 (g := (mkF mM 9 #[.val (.ref t), .val (.int (iN p)), .val (.ref q)] [(.int (iN p)), (.ref t)])) rfl hml.symm rfl (hb hj g7_1.2.1) (W := 0) (W0 rfl) (by decide) (by decide)
      obtain ⟨T104, L104, X104, e104, N104, st104⟩ := cw_charAt_S5037 l Z a0 hw q qb qk lz ls 0 c fo cs da ea h0 n0 (by omega) hx hZ hown X103 e103 N103 (by decide) (by decide) A_q SX OL h2 (g := (mkF mM 14 #[.val (.ref t), .val (.int (iN p)), .val (.ref q)] [(.int (0 : Int32)), (.ref q), (.int c)])) rfl hml.symm rfl (hb hj g7_2.1) (W := 1) (W0 rfl) (by decide) (by decide)
      refine ⟨T104, _, X104, e104, N104, fun t' hk' => ?_⟩
      show SS pP eE bS T101 (mkF mM 4 #[.val (.ref t), .val (.int (iN p)), .val (.ref q)] [(.int (iN lz))]) _
      refine XS.ifNo X101.here hx rfl (hb hj g7_0.2.2.1) rfl ((if0 _ _).trans (tlt ((iN_lt (a := 0) (by omega) (by omega)).mpr hk : (0 : Int32) < (iN lz))).2.2.2) ?_
      refine XS.aloadN X101.here hx rfl (hb hj g7_0.2.2.2) rfl rfl ?_
      refine XS.iloadN X101.here hx rfl (hb hj g7_1.1) rfl ?_
      refine st103 _ ?_
      refine XS.aloadN X103.here hx rfl (hb hj g7_1.2.2.1) rfl rfl ?_
      refine XS.iconst X103.here hx rfl (hb hj g7_1.2.2.2) ?_
      refine st104 _ ?_
      refine XS.icmpYes X104.here hx rfl (pc0 := 17) (pc' := 22) rfl (hb hj g7_2.2.1) rfl (teq (rfl : c = c)).1 (by decide) (by decide) ?_
      exact hk'
  obtain ⟨T105, L105, X105, e105, N105, st105⟩ := cw_length_S5033 l Z a0 hw q qb qk lz ls cs fo da ea h0 n0 (by omega) hx hZ hown X102 e102 N102 (by decide) (by decide) A_q OL SX (g := (mkF mM 23 #[.val (.ref t), .val (.int (iN p)), .val (.ref q)] [(.ref q)])) rfl hml.symm rfl (hb hj g7_2.2.2.2) (W := 0) (W0 rfl) (by decide) (by decide)
  obtain ⟨T106, L106, X106, e106, N106, st106⟩ : ∃ T' L', Stand pP l eE r5_0_0_70 sS mM #[(.ref t), (.int (iN p)), (.ref q)] bS mS cC T' L' 0 0 ∧ T'.heap = h0 ∧ Fr n0 L' ∧ ∀ t', SS pP eE bS T' (mkF mM 47 #[.val (.ref t), .val (.int (iN p)), .val (.ref q)] []) t' → SS pP eE bS T105 (mkF mM 26 #[.val (.ref t), .val (.int (iN p)), .val (.ref q)] [(.int (iN lz))]) t' := by
    rcases hl 1 with hk | ⟨hk, c, h1, h2⟩
    · refine ⟨T105, _, X105, e105, N105, fun t' hk' => ?_⟩
      show SS pP eE bS T105 (mkF mM 26 #[.val (.ref t), .val (.int (iN p)), .val (.ref q)] [(.int (iN lz))]) _
      refine XS.iconst X105.here hx rfl (hb hj g7_3.1) ?_
      refine XS.icmpYes X105.here hx rfl (pc0 := 27) (pc' := 47) rfl (hb hj g7_3.2.1) rfl (flt (fun x => hk ((iN_lt (a := 1) (by omega) (by omega)).mp x) : ¬ ((1 : Int32) < (iN lz)))).2.2.2 (by decide) (by decide) ?_
      exact hk'
    · obtain ⟨T107, L107, X107, e107, N107, st107⟩ := cw_charAt_S5037 l Z a0 hw t tb tk z ys (p + 1) c fo cs da ea h0 n0 (by omega) hx hZ hown X105 e105 N105 (by decide) (by decide) A_t SX OL h1 (g := (mkF mM 34 #[.val (.ref t), .val (.int (iN p)), .val (.ref q)] [(.int (iN (p + 1))), (.ref t)])) rfl hml.symm rfl (hb hj g7_4.2.2.1) (W := 0) (W0 rfl) (by decide) (by decide)
      obtain ⟨T108, L108, X108, e108, N108, st108⟩ := cw_charAt_S5037 l Z a0 hw q qb qk lz ls 1 c fo cs da ea h0 n0 (by omega) hx hZ hown X107 e107 N107 (by decide) (by decide) A_q SX OL h2 (g := (mkF mM 39 #[.val (.ref t), .val (.int (iN p)), .val (.ref q)] [(.int (1 : Int32)), (.ref q), (.int c)])) rfl hml.symm rfl (hb hj g7_5.2.1) (W := 1) (W0 rfl) (by decide) (by decide)
      refine ⟨T108, _, X108, e108, N108, fun t' hk' => ?_⟩
      show SS pP eE bS T105 (mkF mM 26 #[.val (.ref t), .val (.int (iN p)), .val (.ref q)] [(.int (iN lz))]) _
      refine XS.iconst X105.here hx rfl (hb hj g7_3.1) ?_
      refine XS.icmpNo X105.here hx rfl (hb hj g7_3.2.1) rfl (tlt ((iN_lt (a := 1) (by omega) (by omega)).mpr hk : (1 : Int32) < (iN lz))).2.2.2 ?_
      refine XS.aloadN X105.here hx rfl (hb hj g7_3.2.2.1) rfl rfl ?_
      refine XS.iloadN X105.here hx rfl (hb hj g7_3.2.2.2) rfl ?_
      refine XS.iconst X105.here hx rfl (hb hj g7_4.1) ?_
      refine XS.iadd X105.here hx rfl (hb hj g7_4.2.1) rfl ?_
      show SS pP eE bS T105 (mkF mM 34 #[.val (.ref t), .val (.int (iN p)), .val (.ref q)] [(.int ((iN p) + (1 : Int32))), (.ref t)]) _
      rw [show ((iN p) + (1 : Int32)) = (iN (p + 1)) from iN_add p 1]
      refine st107 _ ?_
      refine XS.aloadN X107.here hx rfl (hb hj g7_4.2.2.2) rfl rfl ?_
      refine XS.iconst X107.here hx rfl (hb hj g7_5.1) ?_
      refine st108 _ ?_
      refine XS.icmpYes X108.here hx rfl (pc0 := 42) (pc' := 47) rfl (hb hj g7_5.2.2.1) rfl (teq (rfl : c = c)).1 (by decide) (by decide) ?_
      exact hk'
  obtain ⟨T109, L109, X109, e109, N109, st109⟩ := cw_length_S5033 l Z a0 hw q qb qk lz ls cs fo da ea h0 n0 (by omega) hx hZ hown X106 e106 N106 (by decide) (by decide) A_q OL SX (g := (mkF mM 48 #[.val (.ref t), .val (.int (iN p)), .val (.ref q)] [(.ref q)])) rfl hml.symm rfl (hb hj g7_6.1) (W := 0) (W0 rfl) (by decide) (by decide)
  obtain ⟨T110, L110, X110, e110, N110, st110⟩ : ∃ T' L', Stand pP l eE r5_0_0_70 sS mM #[(.ref t), (.int (iN p)), (.ref q)] bS mS cC T' L' 0 0 ∧ T'.heap = h0 ∧ Fr n0 L' ∧ ∀ t', SS pP eE bS T' (mkF mM 72 #[.val (.ref t), .val (.int (iN p)), .val (.ref q)] []) t' → SS pP eE bS T109 (mkF mM 51 #[.val (.ref t), .val (.int (iN p)), .val (.ref q)] [(.int (iN lz))]) t' := by
    rcases hl 2 with hk | ⟨hk, c, h1, h2⟩
    · refine ⟨T109, _, X109, e109, N109, fun t' hk' => ?_⟩
      show SS pP eE bS T109 (mkF mM 51 #[.val (.ref t), .val (.int (iN p)), .val (.ref q)] [(.int (iN lz))]) _
      refine XS.iconst X109.here hx rfl (hb hj g7_6.2.1) ?_
      refine XS.icmpYes X109.here hx rfl (pc0 := 52) (pc' := 72) rfl (hb hj g7_6.2.2.1) rfl (flt (fun x => hk ((iN_lt (a := 2) (by omega) (by omega)).mp x) : ¬ ((2 : Int32) < (iN lz)))).2.2.2 (by decide) (by decide) ?_
      exact hk'
    · obtain ⟨T111, L111, X111, e111, N111, st111⟩ := cw_charAt_S5037 l Z a0 hw t tb tk z ys (p + 2) c fo cs da ea h0 n0 (by omega) hx hZ hown X109 e109 N109 (by decide) (by decide) A_t SX OL h1 (g := (mkF mM 59 #[.val (.ref t), .val (.int (iN p)), .val (.ref q)] [(.int (iN (p + 2))), (.ref t)])) rfl hml.symm rfl (hb hj g7_7.2.2.2) (W := 0) (W0 rfl) (by decide) (by decide)
      obtain ⟨T112, L112, X112, e112, N112, st112⟩ := cw_charAt_S5037 l Z a0 hw q qb qk lz ls 2 c fo cs da ea h0 n0 (by omega) hx hZ hown X111 e111 N111 (by decide) (by decide) A_q SX OL h2 (g := (mkF mM 64 #[.val (.ref t), .val (.int (iN p)), .val (.ref q)] [(.int (2 : Int32)), (.ref q), (.int c)])) rfl hml.symm rfl (hb hj g7_8.2.2.1) (W := 1) (W0 rfl) (by decide) (by decide)
      refine ⟨T112, _, X112, e112, N112, fun t' hk' => ?_⟩
      show SS pP eE bS T109 (mkF mM 51 #[.val (.ref t), .val (.int (iN p)), .val (.ref q)] [(.int (iN lz))]) _
      refine XS.iconst X109.here hx rfl (hb hj g7_6.2.1) ?_
      refine XS.icmpNo X109.here hx rfl (hb hj g7_6.2.2.1) rfl (tlt ((iN_lt (a := 2) (by omega) (by omega)).mpr hk : (2 : Int32) < (iN lz))).2.2.2 ?_
      refine XS.aloadN X109.here hx rfl (hb hj g7_6.2.2.2) rfl rfl ?_
      refine XS.iloadN X109.here hx rfl (hb hj g7_7.1) rfl ?_
      refine XS.iconst X109.here hx rfl (hb hj g7_7.2.1) ?_
      refine XS.iadd X109.here hx rfl (hb hj g7_7.2.2.1) rfl ?_
      show SS pP eE bS T109 (mkF mM 59 #[.val (.ref t), .val (.int (iN p)), .val (.ref q)] [(.int ((iN p) + (2 : Int32))), (.ref t)]) _
      rw [show ((iN p) + (2 : Int32)) = (iN (p + 2)) from iN_add p 2]
      refine st111 _ ?_
      refine XS.aloadN X111.here hx rfl (hb hj g7_8.1) rfl rfl ?_
      refine XS.iconst X111.here hx rfl (hb hj g7_8.2.1) ?_
      refine st112 _ ?_
      refine XS.icmpYes X112.here hx rfl (pc0 := 67) (pc' := 72) rfl (hb hj g7_8.2.2.2) rfl (teq (rfl : c = c)).1 (by decide) (by decide) ?_
      exact hk'
  obtain ⟨T113, L113, X113, e113, N113, st113⟩ := cw_length_S5033 l Z a0 hw q qb qk lz ls cs fo da ea h0 n0 (by omega) hx hZ hown X110 e110 N110 (by decide) (by decide) A_q OL SX (g := (mkF mM 73 #[.val (.ref t), .val (.int (iN p)), .val (.ref q)] [(.ref q)])) rfl hml.symm rfl (hb hj g7_9.2.1) (W := 0) (W0 rfl) (by decide) (by decide)
  obtain ⟨T114, L114, X114, e114, N114, st114⟩ : ∃ T' L', Stand pP l eE r5_0_0_70 sS mM #[(.ref t), (.int (iN p)), (.ref q)] bS mS cC T' L' 0 0 ∧ T'.heap = h0 ∧ Fr n0 L' ∧ ∀ t', SS pP eE bS T' (mkF mM 97 #[.val (.ref t), .val (.int (iN p)), .val (.ref q)] []) t' → SS pP eE bS T113 (mkF mM 76 #[.val (.ref t), .val (.int (iN p)), .val (.ref q)] [(.int (iN lz))]) t' := by
    rcases hl 3 with hk | ⟨hk, c, h1, h2⟩
    · refine ⟨T113, _, X113, e113, N113, fun t' hk' => ?_⟩
      show SS pP eE bS T113 (mkF mM 76 #[.val (.ref t), .val (.int (iN p)), .val (.ref q)] [(.int (iN lz))]) _
      refine XS.iconst X113.here hx rfl (hb hj g7_9.2.2.1) ?_
      refine XS.icmpYes X113.here hx rfl (pc0 := 77) (pc' := 97) rfl (hb hj g7_9.2.2.2) rfl (flt (fun x => hk ((iN_lt (a := 3) (by omega) (by omega)).mp x) : ¬ ((3 : Int32) < (iN lz)))).2.2.2 (by decide) (by decide) ?_
      exact hk'
    · obtain ⟨T115, L115, X115, e115, N115, st115⟩ := cw_charAt_S5037 l Z a0 hw t tb tk z ys (p + 3) c fo cs da ea h0 n0 (by omega) hx hZ hown X113 e113 N113 (by decide) (by decide) A_t SX OL h1 (g := (mkF mM 84 #[.val (.ref t), .val (.int (iN p)), .val (.ref q)] [(.int (iN (p + 3))), (.ref t)])) rfl hml.symm rfl (hb hj g7_11.1) (W := 0) (W0 rfl) (by decide) (by decide)
      obtain ⟨T116, L116, X116, e116, N116, st116⟩ := cw_charAt_S5037 l Z a0 hw q qb qk lz ls 3 c fo cs da ea h0 n0 (by omega) hx hZ hown X115 e115 N115 (by decide) (by decide) A_q SX OL h2 (g := (mkF mM 89 #[.val (.ref t), .val (.int (iN p)), .val (.ref q)] [(.int (3 : Int32)), (.ref q), (.int c)])) rfl hml.symm rfl (hb hj g7_11.2.2.2) (W := 1) (W0 rfl) (by decide) (by decide)
      refine ⟨T116, _, X116, e116, N116, fun t' hk' => ?_⟩
      show SS pP eE bS T113 (mkF mM 76 #[.val (.ref t), .val (.int (iN p)), .val (.ref q)] [(.int (iN lz))]) _
      refine XS.iconst X113.here hx rfl (hb hj g7_9.2.2.1) ?_
      refine XS.icmpNo X113.here hx rfl (hb hj g7_9.2.2.2) rfl (tlt ((iN_lt (a := 3) (by omega) (by omega)).mpr hk : (3 : Int32) < (iN lz))).2.2.2 ?_
      refine XS.aloadN X113.here hx rfl (hb hj g7_10.1) rfl rfl ?_
      refine XS.iloadN X113.here hx rfl (hb hj g7_10.2.1) rfl ?_
      refine XS.iconst X113.here hx rfl (hb hj g7_10.2.2.1) ?_
      refine XS.iadd X113.here hx rfl (hb hj g7_10.2.2.2) rfl ?_
      show SS pP eE bS T113 (mkF mM 84 #[.val (.ref t), .val (.int (iN p)), .val (.ref q)] [(.int ((iN p) + (3 : Int32))), (.ref t)]) _
      rw [show ((iN p) + (3 : Int32)) = (iN (p + 3)) from iN_add p 3]
      refine st115 _ ?_
      refine XS.aloadN X115.here hx rfl (hb hj g7_11.2.1) rfl rfl ?_
      refine XS.iconst X115.here hx rfl (hb hj g7_11.2.2.1) ?_
      refine st116 _ ?_
      refine XS.icmpYes X116.here hx rfl (pc0 := 92) (pc' := 97) rfl (hb hj g7_12.1) rfl (teq (rfl : c = c)).1 (by decide) (by decide) ?_
      exact hk'
  obtain ⟨T117, L117, X117, e117, N117, st117⟩ := cw_length_S5033 l Z a0 hw q qb qk lz ls cs fo da ea h0 n0 (by omega) hx hZ hown X114 e114 N114 (by decide) (by decide) A_q OL SX (g := (mkF mM 98 #[.val (.ref t), .val (.int (iN p)), .val (.ref q)] [(.ref q)])) rfl hml.symm rfl (hb hj g7_12.2.2.1) (W := 0) (W0 rfl) (by decide) (by decide)
  obtain ⟨T118, L118, X118, e118, N118, st118⟩ : ∃ T' L', Stand pP l eE r5_0_0_70 sS mM #[(.ref t), (.int (iN p)), (.ref q)] bS mS cC T' L' 0 0 ∧ T'.heap = h0 ∧ Fr n0 L' ∧ ∀ t', SS pP eE bS T' (mkF mM 122 #[.val (.ref t), .val (.int (iN p)), .val (.ref q)] []) t' → SS pP eE bS T117 (mkF mM 101 #[.val (.ref t), .val (.int (iN p)), .val (.ref q)] [(.int (iN lz))]) t' := by
    rcases hl 4 with hk | ⟨hk, c, h1, h2⟩
    · refine ⟨T117, _, X117, e117, N117, fun t' hk' => ?_⟩
      show SS pP eE bS T117 (mkF mM 101 #[.val (.ref t), .val (.int (iN p)), .val (.ref q)] [(.int (iN lz))]) _
      refine XS.iconst X117.here hx rfl (hb hj g7_12.2.2.2) ?_
      refine XS.icmpYes X117.here hx rfl (pc0 := 102) (pc' := 122) rfl (hb hj g7_13.1) rfl (flt (fun x => hk ((iN_lt (a := 4) (by omega) (by omega)).mp x) : ¬ ((4 : Int32) < (iN lz)))).2.2.2 (by decide) (by decide) ?_
      exact hk'
    · obtain ⟨T119, L119, X119, e119, N119, st119⟩ := cw_charAt_S5037 l Z a0 hw t tb tk z ys (p + 4) c fo cs da ea h0 n0 (by omega) hx hZ hown X117 e117 N117 (by decide) (by decide) A_t SX OL h1 (g := (mkF mM 109 #[.val (.ref t), .val (.int (iN p)), .val (.ref q)] [(.int (iN (p + 4))), (.ref t)])) rfl hml.symm rfl (hb hj g7_14.2.1) (W := 0) (W0 rfl) (by decide) (by decide)
      obtain ⟨T120, L120, X120, e120, N120, st120⟩ := cw_charAt_S5037 l Z a0 hw q qb qk lz ls 4 c fo cs da ea h0 n0 (by omega) hx hZ hown X119 e119 N119 (by decide) (by decide) A_q SX OL h2 (g := (mkF mM 114 #[.val (.ref t), .val (.int (iN p)), .val (.ref q)] [(.int (4 : Int32)), (.ref q), (.int c)])) rfl hml.symm rfl (hb hj g7_15.1) (W := 1) (W0 rfl) (by decide) (by decide)
      refine ⟨T120, _, X120, e120, N120, fun t' hk' => ?_⟩
      show SS pP eE bS T117 (mkF mM 101 #[.val (.ref t), .val (.int (iN p)), .val (.ref q)] [(.int (iN lz))]) _
      refine XS.iconst X117.here hx rfl (hb hj g7_12.2.2.2) ?_
      refine XS.icmpNo X117.here hx rfl (hb hj g7_13.1) rfl (tlt ((iN_lt (a := 4) (by omega) (by omega)).mpr hk : (4 : Int32) < (iN lz))).2.2.2 ?_
      refine XS.aloadN X117.here hx rfl (hb hj g7_13.2.1) rfl rfl ?_
      refine XS.iloadN X117.here hx rfl (hb hj g7_13.2.2.1) rfl ?_
      refine XS.iconst X117.here hx rfl (hb hj g7_13.2.2.2) ?_
      refine XS.iadd X117.here hx rfl (hb hj g7_14.1) rfl ?_
      show SS pP eE bS T117 (mkF mM 109 #[.val (.ref t), .val (.int (iN p)), .val (.ref q)] [(.int ((iN p) + (4 : Int32))), (.ref t)]) _
      rw [show ((iN p) + (4 : Int32)) = (iN (p + 4)) from iN_add p 4]
      refine st119 _ ?_
      refine XS.aloadN X119.here hx rfl (hb hj g7_14.2.2.1) rfl rfl ?_
      refine XS.iconst X119.here hx rfl (hb hj g7_14.2.2.2) ?_
      refine st120 _ ?_
      refine XS.icmpYes X120.here hx rfl (pc0 := 117) (pc' := 122) rfl (hb hj g7_15.2.1) rfl (teq (rfl : c = c)).1 (by decide) (by decide) ?_
      exact hk'
  obtain ⟨T121, L121, X121, e121, N121, st121⟩ := cw_length_S5033 l Z a0 hw q qb qk lz ls cs fo da ea h0 n0 (by omega) hx hZ hown X118 e118 N118 (by decide) (by decide) A_q OL SX (g := (mkF mM 123 #[.val (.ref t), .val (.int (iN p)), .val (.ref q)] [(.ref q)])) rfl hml.symm rfl (hb hj g7_15.2.2.2) (W := 0) (W0 rfl) (by decide) (by decide)
  obtain ⟨T122, L122, X122, e122, N122, st122⟩ : ∃ T' L', Stand pP l eE r5_0_0_70 sS mM #[(.ref t), (.int (iN p)), (.ref q)] bS mS cC T' L' 0 0 ∧ T'.heap = h0 ∧ Fr n0 L' ∧ ∀ t', SS pP eE bS T' (mkF mM 147 #[.val (.ref t), .val (.int (iN p)), .val (.ref q)] []) t' → SS pP eE bS T121 (mkF mM 126 #[.val (.ref t), .val (.int (iN p)), .val (.ref q)] [(.int (iN lz))]) t' := by
    rcases hl 5 with hk | ⟨hk, c, h1, h2⟩
    · refine ⟨T121, _, X121, e121, N121, fun t' hk' => ?_⟩
      show SS pP eE bS T121 (mkF mM 126 #[.val (.ref t), .val (.int (iN p)), .val (.ref q)] [(.int (iN lz))]) _
      refine XS.iconst X121.here hx rfl (hb hj g7_16.1) ?_
      refine XS.icmpYes X121.here hx rfl (pc0 := 127) (pc' := 147) rfl (hb hj g7_16.2.1) rfl (flt (fun x => hk ((iN_lt (a := 5) (by omega) (by omega)).mp x) : ¬ ((5 : Int32) < (iN lz)))).2.2.2 (by decide) (by decide) ?_
      exact hk'
    · obtain ⟨T123, L123, X123, e123, N123, st123⟩ := cw_charAt_S5037 l Z a0 hw t tb tk z ys (p + 5) c fo cs da ea h0 n0 (by omega) hx hZ hown X121 e121 N121 (by decide) (by decide) A_t SX OL h1 (g := (mkF mM 134 #[.val (.ref t), .val (.int (iN p)), .val (.ref q)] [(.int (iN (p + 5))), (.ref t)])) rfl hml.symm rfl (hb hj g7_17.2.2.1) (W := 0) (W0 rfl) (by decide) (by decide)
      obtain ⟨T124, L124, X124, e124, N124, st124⟩ := cw_charAt_S5037 l Z a0 hw q qb qk lz ls 5 c fo cs da ea h0 n0 (by omega) hx hZ hown X123 e123 N123 (by decide) (by decide) A_q SX OL h2 (g := (mkF mM 139 #[.val (.ref t), .val (.int (iN p)), .val (.ref q)] [(.int (5 : Int32)), (.ref q), (.int c)])) rfl hml.symm rfl (hb hj g7_18.2.1) (W := 1) (W0 rfl) (by decide) (by decide)
      refine ⟨T124, _, X124, e124, N124, fun t' hk' => ?_⟩
      show SS pP eE bS T121 (mkF mM 126 #[.val (.ref t), .val (.int (iN p)), .val (.ref q)] [(.int (iN lz))]) _
      refine XS.iconst X121.here hx rfl (hb hj g7_16.1) ?_
      refine XS.icmpNo X121.here hx rfl (hb hj g7_16.2.1) rfl (tlt ((iN_lt (a := 5) (by omega) (by omega)).mpr hk : (5 : Int32) < (iN lz))).2.2.2 ?_
      refine XS.aloadN X121.here hx rfl (hb hj g7_16.2.2.1) rfl rfl ?_
      refine XS.iloadN X121.here hx rfl (hb hj g7_16.2.2.2) rfl ?_
      refine XS.iconst X121.here hx rfl (hb hj g7_17.1) ?_
      refine XS.iadd X121.here hx rfl (hb hj g7_17.2.1) rfl ?_
      show SS pP eE bS T121 (mkF mM 134 #[.val (.ref t), .val (.int (iN p)), .val (.ref q)] [(.int ((iN p) + (5 : Int32))), (.ref t)]) _
      rw [show ((iN p) + (5 : Int32)) = (iN (p + 5)) from iN_add p 5]
      refine st123 _ ?_
      refine XS.aloadN X123.here hx rfl (hb hj g7_17.2.2.2) rfl rfl ?_
      refine XS.iconst X123.here hx rfl (hb hj g7_18.1) ?_
      refine st124 _ ?_
      refine XS.icmpYes X124.here hx rfl (pc0 := 142) (pc' := 147) rfl (hb hj g7_18.2.2.1) rfl (teq (rfl : c = c)).1 (by decide) (by decide) ?_
      exact hk'
  obtain ⟨T125, L125, X125, e125, N125, st125⟩ := cw_length_S5033 l Z a0 hw q qb qk lz ls cs fo da ea h0 n0 (by omega) hx hZ hown X122 e122 N122 (by decide) (by decide) A_q OL SX (g := (mkF mM 148 #[.val (.ref t), .val (.int (iN p)), .val (.ref q)] [(.ref q)])) rfl hml.symm rfl (hb hj g7_19.1) (W := 0) (W0 rfl) (by decide) (by decide)
  obtain ⟨T126, L126, X126, e126, N126, st126⟩ : ∃ T' L', Stand pP l eE r5_0_0_70 sS mM #[(.ref t), (.int (iN p)), (.ref q)] bS mS cC T' L' 0 0 ∧ T'.heap = h0 ∧ Fr n0 L' ∧ ∀ t', SS pP eE bS T' (mkF mM 175 #[.val (.ref t), .val (.int (iN p)), .val (.ref q)] []) t' → SS pP eE bS T125 (mkF mM 151 #[.val (.ref t), .val (.int (iN p)), .val (.ref q)] [(.int (iN lz))]) t' := by
    rcases hl 6 with hk | ⟨hk, c, h1, h2⟩
    · refine ⟨T125, _, X125, e125, N125, fun t' hk' => ?_⟩
      show SS pP eE bS T125 (mkF mM 151 #[.val (.ref t), .val (.int (iN p)), .val (.ref q)] [(.int (iN lz))]) _
      refine XS.bipush X125.here hx rfl (hb hj g7_19.2.1) ?_
      refine XS.icmpYes X125.here hx rfl (pc0 := 153) (pc' := 175) rfl (hb hj g7_19.2.2.1) rfl (flt (fun x => hk ((iN_lt (a := 6) (by omega) (by omega)).mp x) : ¬ ((6 : Int32) < (iN lz)))).2.2.2 (by decide) (by decide) ?_
      exact hk'
    · obtain ⟨T127, L127, X127, e127, N127, st127⟩ := cw_charAt_S5037 l Z a0 hw t tb tk z ys (p + 6) c fo cs da ea h0 n0 (by omega) hx hZ hown X125 e125 N125 (by decide) (by decide) A_t SX OL h1 (g := (mkF mM 161 #[.val (.ref t), .val (.int (iN p)), .val (.ref q)] [(.int (iN (p + 6))), (.ref t)])) rfl hml.symm rfl (hb hj g7_20.2.2.2) (W := 0) (W0 rfl) (by decide) (by decide)
      obtain ⟨T128, L128, X128, e128, N128, st128⟩ := cw_charAt_S5037 l Z a0 hw q qb qk lz ls 6 c fo cs da ea h0 n0 (by omega) hx hZ hown X127 e127 N127 (by decide) (by decide) A_q SX OL h2 (g := (mkF mM 167 #[.val (.ref t), .val (.int (iN p)), .val (.ref q)] [(.int (6 : Int32)), (.ref q), (.int c)])) rfl hml.symm rfl (hb hj g7_21.2.2.1) (W := 1) (W0 rfl) (by decide) (by decide)
      refine ⟨T128, _, X128, e128, N128, fun t' hk' => ?_⟩
      show SS pP eE bS T125 (mkF mM 151 #[.val (.ref t), .val (.int (iN p)), .val (.ref q)] [(.int (iN lz))]) _
      refine XS.bipush X125.here hx rfl (hb hj g7_19.2.1) ?_
      refine XS.icmpNo X125.here hx rfl (hb hj g7_19.2.2.1) rfl (tlt ((iN_lt (a := 6) (by omega) (by omega)).mpr hk : (6 : Int32) < (iN lz))).2.2.2 ?_
      refine XS.aloadN X125.here hx rfl (hb hj g7_19.2.2.2) rfl rfl ?_
      refine XS.iloadN X125.here hx rfl (hb hj g7_20.1) rfl ?_
      refine XS.bipush X125.here hx rfl (hb hj g7_20.2.1) ?_
      refine XS.iadd X125.here hx rfl (hb hj g7_20.2.2.1) rfl ?_
      show SS pP eE bS T125 (mkF mM 161 #[.val (.ref t), .val (.int (iN p)), .val (.ref q)] [(.int ((iN p) + (6 : Int32))), (.ref t)]) _
      rw [show ((iN p) + (6 : Int32)) = (iN (p + 6)) from iN_add p 6]
      refine st127 _ ?_
      refine XS.aloadN X127.here hx rfl (hb hj g7_21.1) rfl rfl ?_
      refine XS.bipush X127.here hx rfl (hb hj g7_21.2.1) ?_
      refine st128 _ ?_
      refine XS.icmpYes X128.here hx rfl (pc0 := 170) (pc' := 175) rfl (hb hj g7_21.2.2.2) rfl (teq (rfl : c = c)).1 (by decide) (by decide) ?_
      exact hk'
  obtain ⟨T129, L129, X129, e129, N129, st129⟩ := cw_length_S5033 l Z a0 hw q qb qk lz ls cs fo da ea h0 n0 (by omega) hx hZ hown X126 e126 N126 (by decide) (by decide) A_q OL SX (g := (mkF mM 176 #[.val (.ref t), .val (.int (iN p)), .val (.ref q)] [(.ref q)])) rfl hml.symm rfl (hb hj g7_22.2.1) (W := 0) (W0 rfl) (by decide) (by decide)
  obtain ⟨T130, L130, X130, e130, N130, st130⟩ : ∃ T' L', Stand pP l eE r5_0_0_70 sS mM #[(.ref t), (.int (iN p)), (.ref q)] bS mS cC T' L' 0 0 ∧ T'.heap = h0 ∧ Fr n0 L' ∧ ∀ t', SS pP eE bS T' (mkF mM 203 #[.val (.ref t), .val (.int (iN p)), .val (.ref q)] []) t' → SS pP eE bS T129 (mkF mM 179 #[.val (.ref t), .val (.int (iN p)), .val (.ref q)] [(.int (iN lz))]) t' := by
    rcases hl 7 with hk | ⟨hk, c, h1, h2⟩
    · refine ⟨T129, _, X129, e129, N129, fun t' hk' => ?_⟩
      show SS pP eE bS T129 (mkF mM 179 #[.val (.ref t), .val (.int (iN p)), .val (.ref q)] [(.int (iN lz))]) _
      refine XS.bipush X129.here hx rfl (hb hj g7_22.2.2.1) ?_
      refine XS.icmpYes X129.here hx rfl (pc0 := 181) (pc' := 203) rfl (hb hj g7_22.2.2.2) rfl (flt (fun x => hk ((iN_lt (a := 7) (by omega) (by omega)).mp x) : ¬ ((7 : Int32) < (iN lz)))).2.2.2 (by decide) (by decide) ?_
      exact hk'
    · obtain ⟨T131, L131, X131, e131, N131, st131⟩ := cw_charAt_S5037 l Z a0 hw t tb tk z ys (p + 7) c fo cs da ea h0 n0 (by omega) hx hZ hown X129 e129 N129 (by decide) (by decide) A_t SX OL h1 (g := (mkF mM 189 #[.val (.ref t), .val (.int (iN p)), .val (.ref q)] [(.int (iN (p + 7))), (.ref t)])) rfl hml.symm rfl (hb hj g7_24.1) (W := 0) (W0 rfl) (by decide) (by decide)
      obtain ⟨T132, L132, X132, e132, N132, st132⟩ := cw_charAt_S5037 l Z a0 hw q qb qk lz ls 7 c fo cs da ea h0 n0 (by omega) hx hZ hown X131 e131 N131 (by decide) (by decide) A_q SX OL h2 (g := (mkF mM 195 #[.val (.ref t), .val (.int (iN p)), .val (.ref q)] [(.int (7 : Int32)), (.ref q), (.int c)])) rfl hml.symm rfl (hb hj g7_24.2.2.2) (W := 1) (W0 rfl) (by decide) (by decide)
      refine ⟨T132, _, X132, e132, N132, fun t' hk' => ?_⟩
      show SS pP eE bS T129 (mkF mM 179 #[.val (.ref t), .val (.int (iN p)), .val (.ref q)] [(.int (iN lz))]) _
      refine XS.bipush X129.here hx rfl (hb hj g7_22.2.2.1) ?_
      refine XS.icmpNo X129.here hx rfl (hb hj g7_22.2.2.2) rfl (tlt ((iN_lt (a := 7) (by omega) (by omega)).mpr hk : (7 : Int32) < (iN lz))).2.2.2 ?_
      refine XS.aloadN X129.here hx rfl (hb hj g7_23.1) rfl rfl ?_
      refine XS.iloadN X129.here hx rfl (hb hj g7_23.2.1) rfl ?_
      refine XS.bipush X129.here hx rfl (hb hj g7_23.2.2.1) ?_
      refine XS.iadd X129.here hx rfl (hb hj g7_23.2.2.2) rfl ?_
      show SS pP eE bS T129 (mkF mM 189 #[.val (.ref t), .val (.int (iN p)), .val (.ref q)] [(.int ((iN p) + (7 : Int32))), (.ref t)]) _
      rw [show ((iN p) + (7 : Int32)) = (iN (p + 7)) from iN_add p 7]
      refine st131 _ ?_
      refine XS.aloadN X131.here hx rfl (hb hj g7_24.2.1) rfl rfl ?_
      refine XS.bipush X131.here hx rfl (hb hj g7_24.2.2.1) ?_
      refine st132 _ ?_
      refine XS.icmpYes X132.here hx rfl (pc0 := 198) (pc' := 203) rfl (hb hj g7_25.1) rfl (teq (rfl : c = c)).1 (by decide) (by decide) ?_
      exact hk'
  obtain ⟨T133, L133, X133, e133, N133, st133⟩ := cw_length_S5033 l Z a0 hw q qb qk lz ls cs fo da ea h0 n0 (by omega) hx hZ hown X130 e130 N130 (by decide) (by decide) A_q OL SX (g := (mkF mM 204 #[.val (.ref t), .val (.int (iN p)), .val (.ref q)] [(.ref q)])) rfl hml.symm rfl (hb hj g7_25.2.2.1) (W := 0) (W0 rfl) (by decide) (by decide)
  obtain ⟨T134, L134, X134, e134, N134, st134⟩ : ∃ T' L', Stand pP l eE r5_0_0_70 sS mM #[(.ref t), (.int (iN p)), (.ref q)] bS mS cC T' L' 0 0 ∧ T'.heap = h0 ∧ Fr n0 L' ∧ ∀ t', SS pP eE bS T' (mkF mM 231 #[.val (.ref t), .val (.int (iN p)), .val (.ref q)] []) t' → SS pP eE bS T133 (mkF mM 207 #[.val (.ref t), .val (.int (iN p)), .val (.ref q)] [(.int (iN lz))]) t' := by
    rcases hl 8 with hk | ⟨hk, c, h1, h2⟩
    · refine ⟨T133, _, X133, e133, N133, fun t' hk' => ?_⟩
      show SS pP eE bS T133 (mkF mM 207 #[.val (.ref t), .val (.int (iN p)), .val (.ref q)] [(.int (iN lz))]) _
      refine XS.bipush X133.here hx rfl (hb hj g7_25.2.2.2) ?_
      refine XS.icmpYes X133.here hx rfl (pc0 := 209) (pc' := 231) rfl (hb hj g7_26.1) rfl (flt (fun x => hk ((iN_lt (a := 8) (by omega) (by omega)).mp x) : ¬ ((8 : Int32) < (iN lz)))).2.2.2 (by decide) (by decide) ?_
      exact hk'
    · obtain ⟨T135, L135, X135, e135, N135, st135⟩ := cw_charAt_S5037 l Z a0 hw t tb tk z ys (p + 8) c fo cs da ea h0 n0 (by omega) hx hZ hown X133 e133 N133 (by decide) (by decide) A_t SX OL h1 (g := (mkF mM 217 #[.val (.ref t), .val (.int (iN p)), .val (.ref q)] [(.int (iN (p + 8))), (.ref t)])) rfl hml.symm rfl (hb hj g7_27.2.1) (W := 0) (W0 rfl) (by decide) (by decide)
      obtain ⟨T136, L136, X136, e136, N136, st136⟩ := cw_charAt_S5037 l Z a0 hw q qb qk lz ls 8 c fo cs da ea h0 n0 (by omega) hx hZ hown X135 e135 N135 (by decide) (by decide) A_q SX OL h2 (g := (mkF mM 223 #[.val (.ref t), .val (.int (iN p)), .val (.ref q)] [(.int (8 : Int32)), (.ref q), (.int c)])) rfl hml.symm rfl (hb hj g7_28.1) (W := 1) (W0 rfl) (by decide) (by decide)
      refine ⟨T136, _, X136, e136, N136, fun t' hk' => ?_⟩
      show SS pP eE bS T133 (mkF mM 207 #[.val (.ref t), .val (.int (iN p)), .val (.ref q)] [(.int (iN lz))]) _
      refine XS.bipush X133.here hx rfl (hb hj g7_25.2.2.2) ?_
      refine XS.icmpNo X133.here hx rfl (hb hj g7_26.1) rfl (tlt ((iN_lt (a := 8) (by omega) (by omega)).mpr hk : (8 : Int32) < (iN lz))).2.2.2 ?_
      refine XS.aloadN X133.here hx rfl (hb hj g7_26.2.1) rfl rfl ?_
      refine XS.iloadN X133.here hx rfl (hb hj g7_26.2.2.1) rfl ?_
      refine XS.bipush X133.here hx rfl (hb hj g7_26.2.2.2) ?_
      refine XS.iadd X133.here hx rfl (hb hj g7_27.1) rfl ?_
      show SS pP eE bS T133 (mkF mM 217 #[.val (.ref t), .val (.int (iN p)), .val (.ref q)] [(.int ((iN p) + (8 : Int32))), (.ref t)]) _
      rw [show ((iN p) + (8 : Int32)) = (iN (p + 8)) from iN_add p 8]
      refine st135 _ ?_
      refine XS.aloadN X135.here hx rfl (hb hj g7_27.2.2.1) rfl rfl ?_
      refine XS.bipush X135.here hx rfl (hb hj g7_27.2.2.2) ?_
      refine st136 _ ?_
      refine XS.icmpYes X136.here hx rfl (pc0 := 226) (pc' := 231) rfl (hb hj g7_28.2.1) rfl (teq (rfl : c = c)).1 (by decide) (by decide) ?_
      exact hk'
  obtain ⟨T137, L137, X137, e137, N137, st137⟩ := cw_length_S5033 l Z a0 hw q qb qk lz ls cs fo da ea h0 n0 (by omega) hx hZ hown X134 e134 N134 (by decide) (by decide) A_q OL SX (g := (mkF mM 232 #[.val (.ref t), .val (.int (iN p)), .val (.ref q)] [(.ref q)])) rfl hml.symm rfl (hb hj g7_28.2.2.2) (W := 0) (W0 rfl) (by decide) (by decide)
  obtain ⟨T138, L138, X138, e138, N138, st138⟩ : ∃ T' L', Stand pP l eE r5_0_0_70 sS mM #[(.ref t), (.int (iN p)), (.ref q)] bS mS cC T' L' 0 0 ∧ T'.heap = h0 ∧ Fr n0 L' ∧ ∀ t', SS pP eE bS T' (mkF mM 259 #[.val (.ref t), .val (.int (iN p)), .val (.ref q)] []) t' → SS pP eE bS T137 (mkF mM 235 #[.val (.ref t), .val (.int (iN p)), .val (.ref q)] [(.int (iN lz))]) t' := by
    rcases hl 9 with hk | ⟨hk, c, h1, h2⟩
    · refine ⟨T137, _, X137, e137, N137, fun t' hk' => ?_⟩
      show SS pP eE bS T137 (mkF mM 235 #[.val (.ref t), .val (.int (iN p)), .val (.ref q)] [(.int (iN lz))]) _
      refine XS.bipush X137.here hx rfl (hb hj g7_29.1) ?_
      refine XS.icmpYes X137.here hx rfl (pc0 := 237) (pc' := 259) rfl (hb hj g7_29.2.1) rfl (flt (fun x => hk ((iN_lt (a := 9) (by omega) (by omega)).mp x) : ¬ ((9 : Int32) < (iN lz)))).2.2.2 (by decide) (by decide) ?_
      exact hk'
    · obtain ⟨T139, L139, X139, e139, N139, st139⟩ := cw_charAt_S5037 l Z a0 hw t tb tk z ys (p + 9) c fo cs da ea h0 n0 (by omega) hx hZ hown X137 e137 N137 (by decide) (by decide) A_t SX OL h1 (g := (mkF mM 245 #[.val (.ref t), .val (.int (iN p)), .val (.ref q)] [(.int (iN (p + 9))), (.ref t)])) rfl hml.symm rfl (hb hj g7_30.2.2.1) (W := 0) (W0 rfl) (by decide) (by decide)
      obtain ⟨T140, L140, X140, e140, N140, st140⟩ := cw_charAt_S5037 l Z a0 hw q qb qk lz ls 9 c fo cs da ea h0 n0 (by omega) hx hZ hown X139 e139 N139 (by decide) (by decide) A_q SX OL h2 (g := (mkF mM 251 #[.val (.ref t), .val (.int (iN p)), .val (.ref q)] [(.int (9 : Int32)), (.ref q), (.int c)])) rfl hml.symm rfl (hb hj g7_31.2.1) (W := 1) (W0 rfl) (by decide) (by decide)
      refine ⟨T140, _, X140, e140, N140, fun t' hk' => ?_⟩
      show SS pP eE bS T137 (mkF mM 235 #[.val (.ref t), .val (.int (iN p)), .val (.ref q)] [(.int (iN lz))]) _
      refine XS.bipush X137.here hx rfl (hb hj g7_29.1) ?_
      refine XS.icmpNo X137.here hx rfl (hb hj g7_29.2.1) rfl (tlt ((iN_lt (a := 9) (by omega) (by omega)).mpr hk : (9 : Int32) < (iN lz))).2.2.2 ?_
      refine XS.aloadN X137.here hx rfl (hb hj g7_29.2.2.1) rfl rfl ?_
      refine XS.iloadN X137.here hx rfl (hb hj g7_29.2.2.2) rfl ?_
      refine XS.bipush X137.here hx rfl (hb hj g7_30.1) ?_
      refine XS.iadd X137.here hx rfl (hb hj g7_30.2.1) rfl ?_
      show SS pP eE bS T137 (mkF mM 245 #[.val (.ref t), .val (.int (iN p)), .val (.ref q)] [(.int ((iN p) + (9 : Int32))), (.ref t)]) _
      rw [show ((iN p) + (9 : Int32)) = (iN (p + 9)) from iN_add p 9]
      refine st139 _ ?_
      refine XS.aloadN X139.here hx rfl (hb hj g7_30.2.2.2) rfl rfl ?_
      refine XS.bipush X139.here hx rfl (hb hj g7_31.1) ?_
      refine st140 _ ?_
      refine XS.icmpYes X140.here hx rfl (pc0 := 254) (pc' := 259) rfl (hb hj g7_31.2.2.1) rfl (teq (rfl : c = c)).1 (by decide) (by decide) ?_
      exact hk'
  obtain ⟨T141, L141, X141, e141, N141, st141⟩ := cw_length_S5033 l Z a0 hw q qb qk lz ls cs fo da ea h0 n0 (by omega) hx hZ hown X138 e138 N138 (by decide) (by decide) A_q OL SX (g := (mkF mM 260 #[.val (.ref t), .val (.int (iN p)), .val (.ref q)] [(.ref q)])) rfl hml.symm rfl (hb hj g7_32.1) (W := 0) (W0 rfl) (by decide) (by decide)
  obtain ⟨T142, L142, X142, e142, N142, st142⟩ : ∃ T' L', Stand pP l eE r5_0_0_70 sS mM #[(.ref t), (.int (iN p)), (.ref q)] bS mS cC T' L' 0 0 ∧ T'.heap = h0 ∧ Fr n0 L' ∧ ∀ t', SS pP eE bS T' (mkF mM 287 #[.val (.ref t), .val (.int (iN p)), .val (.ref q)] []) t' → SS pP eE bS T141 (mkF mM 263 #[.val (.ref t), .val (.int (iN p)), .val (.ref q)] [(.int (iN lz))]) t' := by
    rcases hl 10 with hk | ⟨hk, c, h1, h2⟩
    · refine ⟨T141, _, X141, e141, N141, fun t' hk' => ?_⟩
      show SS pP eE bS T141 (mkF mM 263 #[.val (.ref t), .val (.int (iN p)), .val (.ref q)] [(.int (iN lz))]) _
      refine XS.bipush X141.here hx rfl (hb hj g7_32.2.1) ?_
      refine XS.icmpYes X141.here hx rfl (pc0 := 265) (pc' := 287) rfl (hb hj g7_32.2.2.1) rfl (flt (fun x => hk ((iN_lt (a := 10) (by omega) (by omega)).mp x) : ¬ ((10 : Int32) < (iN lz)))).2.2.2 (by decide) (by decide) ?_
      exact hk'
    · obtain ⟨T143, L143, X143, e143, N143, st143⟩ := cw_charAt_S5037 l Z a0 hw t tb tk z ys (p + 10) c fo cs da ea h0 n0 (by omega) hx hZ hown X141 e141 N141 (by decide) (by decide) A_t SX OL h1 (g := (mkF mM 273 #[.val (.ref t), .val (.int (iN p)), .val (.ref q)] [(.int (iN (p + 10))), (.ref t)])) rfl hml.symm rfl (hb hj g7_33.2.2.2) (W := 0) (W0 rfl) (by decide) (by decide)
      obtain ⟨T144, L144, X144, e144, N144, st144⟩ := cw_charAt_S5037 l Z a0 hw q qb qk lz ls 10 c fo cs da ea h0 n0 (by omega) hx hZ hown X143 e143 N143 (by decide) (by decide) A_q SX OL h2 (g := (mkF mM 279 #[.val (.ref t), .val (.int (iN p)), .val (.ref q)] [(.int (10 : Int32)), (.ref q), (.int c)])) rfl hml.symm rfl (hb hj g7_34.2.2.1) (W := 1) (W0 rfl) (by decide) (by decide)
      refine ⟨T144, _, X144, e144, N144, fun t' hk' => ?_⟩
      show SS pP eE bS T141 (mkF mM 263 #[.val (.ref t), .val (.int (iN p)), .val (.ref q)] [(.int (iN lz))]) _
      refine XS.bipush X141.here hx rfl (hb hj g7_32.2.1) ?_
      refine XS.icmpNo X141.here hx rfl (hb hj g7_32.2.2.1) rfl (tlt ((iN_lt (a := 10) (by omega) (by omega)).mpr hk : (10 : Int32) < (iN lz))).2.2.2 ?_
      refine XS.aloadN X141.here hx rfl (hb hj g7_32.2.2.2) rfl rfl ?_
      refine XS.iloadN X141.here hx rfl (hb hj g7_33.1) rfl ?_
      refine XS.bipush X141.here hx rfl (hb hj g7_33.2.1) ?_
      refine XS.iadd X141.here hx rfl (hb hj g7_33.2.2.1) rfl ?_
      show SS pP eE bS T141 (mkF mM 273 #[.val (.ref t), .val (.int (iN p)), .val (.ref q)] [(.int ((iN p) + (10 : Int32))), (.ref t)]) _
      rw [show ((iN p) + (10 : Int32)) = (iN (p + 10)) from iN_add p 10]
      refine st143 _ ?_
      refine XS.aloadN X143.here hx rfl (hb hj g7_34.1) rfl rfl ?_
      refine XS.bipush X143.here hx rfl (hb hj g7_34.2.1) ?_
      refine st144 _ ?_
      refine XS.icmpYes X144.here hx rfl (pc0 := 282) (pc' := 287) rfl (hb hj g7_34.2.2.2) rfl (teq (rfl : c = c)).1 (by decide) (by decide) ?_
      exact hk'
  obtain ⟨T145, L145, X145, e145, N145, st145⟩ := cw_length_S5033 l Z a0 hw q qb qk lz ls cs fo da ea h0 n0 (by omega) hx hZ hown X142 e142 N142 (by decide) (by decide) A_q OL SX (g := (mkF mM 288 #[.val (.ref t), .val (.int (iN p)), .val (.ref q)] [(.ref q)])) rfl hml.symm rfl (hb hj g7_35.2.1) (W := 0) (W0 rfl) (by decide) (by decide)
  obtain ⟨T146, L146, X146, e146, N146, st146⟩ : ∃ T' L', Stand pP l eE r5_0_0_70 sS mM #[(.ref t), (.int (iN p)), (.ref q)] bS mS cC T' L' 0 0 ∧ T'.heap = h0 ∧ Fr n0 L' ∧ ∀ t', SS pP eE bS T' (mkF mM 315 #[.val (.ref t), .val (.int (iN p)), .val (.ref q)] []) t' → SS pP eE bS T145 (mkF mM 291 #[.val (.ref t), .val (.int (iN p)), .val (.ref q)] [(.int (iN lz))]) t' := by
    rcases hl 11 with hk | ⟨hk, c, h1, h2⟩
    · refine ⟨T145, _, X145, e145, N145, fun t' hk' => ?_⟩
      show SS pP eE bS T145 (mkF mM 291 #[.val (.ref t), .val (.int (iN p)), .val (.ref q)] [(.int (iN lz))]) _
      refine XS.bipush X145.here hx rfl (hb hj g7_35.2.2.1) ?_
      refine XS.icmpYes X145.here hx rfl (pc0 := 293) (pc' := 315) rfl (hb hj g7_35.2.2.2) rfl (flt (fun x => hk ((iN_lt (a := 11) (by omega) (by omega)).mp x) : ¬ ((11 : Int32) < (iN lz)))).2.2.2 (by decide) (by decide) ?_
      exact hk'
    · obtain ⟨T147, L147, X147, e147, N147, st147⟩ := cw_charAt_S5037 l Z a0 hw t tb tk z ys (p + 11) c fo cs da ea h0 n0 (by omega) hx hZ hown X145 e145 N145 (by decide) (by decide) A_t SX OL h1 (g := (mkF mM 301 #[.val (.ref t), .val (.int (iN p)), .val (.ref q)] [(.int (iN (p + 11))), (.ref t)])) rfl hml.symm rfl (hb hj g7_37.1) (W := 0) (W0 rfl) (by decide) (by decide)
      obtain ⟨T148, L148, X148, e148, N148, st148⟩ := cw_charAt_S5037 l Z a0 hw q qb qk lz ls 11 c fo cs da ea h0 n0 (by omega) hx hZ hown X147 e147 N147 (by decide) (by decide) A_q SX OL h2 (g := (mkF mM 307 #[.val (.ref t), .val (.int (iN p)), .val (.ref q)] [(.int (11 : Int32)), (.ref q), (.int c)])) rfl hml.symm rfl (hb hj g7_37.2.2.2) (W := 1) (W0 rfl) (by decide) (by decide)
      refine ⟨T148, _, X148, e148, N148, fun t' hk' => ?_⟩
      show SS pP eE bS T145 (mkF mM 291 #[.val (.ref t), .val (.int (iN p)), .val (.ref q)] [(.int (iN lz))]) _
      refine XS.bipush X145.here hx rfl (hb hj g7_35.2.2.1) ?_
      refine XS.icmpNo X145.here hx rfl (hb hj g7_35.2.2.2) rfl (tlt ((iN_lt (a := 11) (by omega) (by omega)).mpr hk : (11 : Int32) < (iN lz))).2.2.2 ?_
      refine XS.aloadN X145.here hx rfl (hb hj g7_36.1) rfl rfl ?_
      refine XS.iloadN X145.here hx rfl (hb hj g7_36.2.1) rfl ?_
      refine XS.bipush X145.here hx rfl (hb hj g7_36.2.2.1) ?_
      refine XS.iadd X145.here hx rfl (hb hj g7_36.2.2.2) rfl ?_
      show SS pP eE bS T145 (mkF mM 301 #[.val (.ref t), .val (.int (iN p)), .val (.ref q)] [(.int ((iN p) + (11 : Int32))), (.ref t)]) _
      rw [show ((iN p) + (11 : Int32)) = (iN (p + 11)) from iN_add p 11]
      refine st147 _ ?_
      refine XS.aloadN X147.here hx rfl (hb hj g7_37.2.1) rfl rfl ?_
      refine XS.bipush X147.here hx rfl (hb hj g7_37.2.2.1) ?_
      refine st148 _ ?_
      refine XS.icmpYes X148.here hx rfl (pc0 := 310) (pc' := 315) rfl (hb hj g7_38.1) rfl (teq (rfl : c = c)).1 (by decide) (by decide) ?_
      exact hk'
  obtain ⟨T149, L149, X149, e149, N149, st149⟩ := cw_length_S5033 l Z a0 hw q qb qk lz ls cs fo da ea h0 n0 (by omega) hx hZ hown X146 e146 N146 (by decide) (by decide) A_q OL SX (g := (mkF mM 316 #[.val (.ref t), .val (.int (iN p)), .val (.ref q)] [(.ref q)])) rfl hml.symm rfl (hb hj g7_38.2.2.1) (W := 0) (W0 rfl) (by decide) (by decide)
  obtain ⟨T150, L150, X150, e150, N150, st150⟩ : ∃ T' L', Stand pP l eE r5_0_0_70 sS mM #[(.ref t), (.int (iN p)), (.ref q)] bS mS cC T' L' 0 0 ∧ T'.heap = h0 ∧ Fr n0 L' ∧ ∀ t', SS pP eE bS T' (mkF mM 343 #[.val (.ref t), .val (.int (iN p)), .val (.ref q)] []) t' → SS pP eE bS T149 (mkF mM 319 #[.val (.ref t), .val (.int (iN p)), .val (.ref q)] [(.int (iN lz))]) t' := by
    rcases hl 12 with hk | ⟨hk, c, h1, h2⟩
    · refine ⟨T149, _, X149, e149, N149, fun t' hk' => ?_⟩
      show SS pP eE bS T149 (mkF mM 319 #[.val (.ref t), .val (.int (iN p)), .val (.ref q)] [(.int (iN lz))]) _
      refine XS.bipush X149.here hx rfl (hb hj g7_38.2.2.2) ?_
      refine XS.icmpYes X149.here hx rfl (pc0 := 321) (pc' := 343) rfl (hb hj g7_39.1) rfl (flt (fun x => hk ((iN_lt (a := 12) (by omega) (by omega)).mp x) : ¬ ((12 : Int32) < (iN lz)))).2.2.2 (by decide) (by decide) ?_
      exact hk'
    · obtain ⟨T151, L151, X151, e151, N151, st151⟩ := cw_charAt_S5037 l Z a0 hw t tb tk z ys (p + 12) c fo cs da ea h0 n0 (by omega) hx hZ hown X149 e149 N149 (by decide) (by decide) A_t SX OL h1 (g := (mkF mM 329 #[.val (.ref t), .val (.int (iN p)), .val (.ref q)] [(.int (iN (p + 12))), (.ref t)])) rfl hml.symm rfl (hb hj g7_40.2.1) (W := 0) (W0 rfl) (by decide) (by decide)
      obtain ⟨T152, L152, X152, e152, N152, st152⟩ := cw_charAt_S5037 l Z a0 hw q qb qk lz ls 12 c fo cs da ea h0 n0 (by omega) hx hZ hown X151 e151 N151 (by decide) (by decide) A_q SX OL h2 (g := (mkF mM 335 #[.val (.ref t), .val (.int (iN p)), .val (.ref q)] [(.int (12 : Int32)), (.ref q), (.int c)])) rfl hml.symm rfl (hb hj g7_41.1) (W := 1) (W0 rfl) (by decide) (by decide)
      refine ⟨T152, _, X152, e152, N152, fun t' hk' => ?_⟩
      show SS pP eE bS T149 (mkF mM 319 #[.val (.ref t), .val (.int (iN p)), .val (.ref q)] [(.int (iN lz))]) _
      refine XS.bipush X149.here hx rfl (hb hj g7_38.2.2.2) ?_
      refine XS.icmpNo X149.here hx rfl (hb hj g7_39.1) rfl (tlt ((iN_lt (a := 12) (by omega) (by omega)).mpr hk : (12 : Int32) < (iN lz))).2.2.2 ?_
      refine XS.aloadN X149.here hx rfl (hb hj g7_39.2.1) rfl rfl ?_
      refine XS.iloadN X149.here hx rfl (hb hj g7_39.2.2.1) rfl ?_
      refine XS.bipush X149.here hx rfl (hb hj g7_39.2.2.2) ?_
      refine XS.iadd X149.here hx rfl (hb hj g7_40.1) rfl ?_
      show SS pP eE bS T149 (mkF mM 329 #[.val (.ref t), .val (.int (iN p)), .val (.ref q)] [(.int ((iN p) + (12 : Int32))), (.ref t)]) _
      rw [show ((iN p) + (12 : Int32)) = (iN (p + 12)) from iN_add p 12]
      refine st151 _ ?_
      refine XS.aloadN X151.here hx rfl (hb hj g7_40.2.2.1) rfl rfl ?_
      refine XS.bipush X151.here hx rfl (hb hj g7_40.2.2.2) ?_
      refine st152 _ ?_
      refine XS.icmpYes X152.here hx rfl (pc0 := 338) (pc' := 343) rfl (hb hj g7_41.2.1) rfl (teq (rfl : c = c)).1 (by decide) (by decide) ?_
      exact hk'
  obtain ⟨fs, hr, hrun, hended, hW, hsame⟩ := X150.leave (v := some (.int (1 : Int32))) (fun h => by rw [Bd.returns] at h; cases h)
  refine ⟨_, _, castTop (ef_lit mM t tb tk z ys p q qb qk lz ls fo cs da ea) ?_, hrun, hended, _, _, rfl, ?_, ⟨_, rfl⟩, hW, hsame.mono (by decide) (by decide)⟩
  · show SS pP eE bS s₁ (mkF mM 0 #[.val (.ref t), .val (.int (iN p)), .val (.ref q)] []) _
    refine XS.aloadN X0.here hx rfl (hb hj g7_0.1) rfl rfl ?_
    refine st101 _ ?_
    refine st102 _ ?_
    show SS pP eE bS T102 (mkF mM 22 #[.val (.ref t), .val (.int (iN p)), .val (.ref q)] []) _
    refine XS.aloadN X102.here hx rfl (hb hj g7_2.2.2.1) rfl rfl ?_
    refine st105 _ ?_
    refine st106 _ ?_
    show SS pP eE bS T106 (mkF mM 47 #[.val (.ref t), .val (.int (iN p)), .val (.ref q)] []) _
    refine XS.aloadN X106.here hx rfl (hb hj g7_5.2.2.2) rfl rfl ?_
    refine st109 _ ?_
    refine st110 _ ?_
    show SS pP eE bS T110 (mkF mM 72 #[.val (.ref t), .val (.int (iN p)), .val (.ref q)] []) _
    refine XS.aloadN X110.here hx rfl (hb hj g7_9.1) rfl rfl ?_
    refine st113 _ ?_
    refine st114 _ ?_
    show SS pP eE bS T114 (mkF mM 97 #[.val (.ref t), .val (.int (iN p)), .val (.ref q)] []) _
    refine XS.aloadN X114.here hx rfl (hb hj g7_12.2.1) rfl rfl ?_
    refine st117 _ ?_
    refine st118 _ ?_
    show SS pP eE bS T118 (mkF mM 122 #[.val (.ref t), .val (.int (iN p)), .val (.ref q)] []) _
    refine XS.aloadN X118.here hx rfl (hb hj g7_15.2.2.1) rfl rfl ?_
    refine st121 _ ?_
    refine st122 _ ?_
    show SS pP eE bS T122 (mkF mM 147 #[.val (.ref t), .val (.int (iN p)), .val (.ref q)] []) _
    refine XS.aloadN X122.here hx rfl (hb hj g7_18.2.2.2) rfl rfl ?_
    refine st125 _ ?_
    refine st126 _ ?_
    show SS pP eE bS T126 (mkF mM 175 #[.val (.ref t), .val (.int (iN p)), .val (.ref q)] []) _
    refine XS.aloadN X126.here hx rfl (hb hj g7_22.1) rfl rfl ?_
    refine st129 _ ?_
    refine st130 _ ?_
    show SS pP eE bS T130 (mkF mM 203 #[.val (.ref t), .val (.int (iN p)), .val (.ref q)] []) _
    refine XS.aloadN X130.here hx rfl (hb hj g7_25.2.1) rfl rfl ?_
    refine st133 _ ?_
    refine st134 _ ?_
    show SS pP eE bS T134 (mkF mM 231 #[.val (.ref t), .val (.int (iN p)), .val (.ref q)] []) _
    refine XS.aloadN X134.here hx rfl (hb hj g7_28.2.2.1) rfl rfl ?_
    refine st137 _ ?_
    refine st138 _ ?_
    show SS pP eE bS T138 (mkF mM 259 #[.val (.ref t), .val (.int (iN p)), .val (.ref q)] []) _
    refine XS.aloadN X138.here hx rfl (hb hj g7_31.2.2.2) rfl rfl ?_
    refine st141 _ ?_
    refine st142 _ ?_
    show SS pP eE bS T142 (mkF mM 287 #[.val (.ref t), .val (.int (iN p)), .val (.ref q)] []) _
    refine XS.aloadN X142.here hx rfl (hb hj g7_35.1) rfl rfl ?_
    refine st145 _ ?_
    refine st146 _ ?_
    show SS pP eE bS T146 (mkF mM 315 #[.val (.ref t), .val (.int (iN p)), .val (.ref q)] []) _
    refine XS.aloadN X146.here hx rfl (hb hj g7_38.2.1) rfl rfl ?_
    refine st149 _ ?_
    refine st150 _ ?_
    show SS pP eE bS T150 (mkF mM 343 #[.val (.ref t), .val (.int (iN p)), .val (.ref q)] []) _
    refine XS.iconst X150.here hx rfl (hb hj g7_41.2.2.1) ?_
    exact retN X150 hx (t := .boolean) Bd.returns (by simp) (hb hj g7_41.2.2.2) hr
  · show Q_lit Z t tb tk z ys p q qb qk lz ls fo cs da ea h0 n0 _ T150.heap _
    rw [e150]
    exact ⟨rfl, N150, rfl⟩
abbrev r6_10_100_90 : Room := { frames := 6, cells := 10, slots := 100, locals := 90 }
abbrev c6 := method_6_code
theorem g6_6 : decode c6 40 = .ok (.iload 6, 2) ∧ decode c6 42 = .ok (.ifCond .le 19, 3) ∧ decode c6 45 = .ok (.aload_n 0, 1) ∧ decode c6 46 = .ok (.iload 5, 2) := by decide +kernel
theorem g6_7 : decode c6 48 = .ok (.lload_n 3, 1) ∧ decode c6 49 = .ok (.iload 6, 2) ∧ decode c6 51 = .ok (.iconst 1, 1) ∧ decode c6 52 = .ok (.isub, 1) := by decide +kernel
theorem g6_8 : decode c6 53 = .ok (.invokestatic 79, 3) ∧ decode c6 56 = .ok (.ifCond .ne 5, 3) ∧ decode c6 61 = .ok (.iload 6, 2) ∧ decode c6 63 = .ok (.iconst 1, 1) := by decide +kernel
theorem pd_35 : parseMethodDescriptor "(Ljava/lang/String;IJI)Z" = some ⟨[(.object "java/lang/String"), .int, .long, .int], some .boolean⟩ := by decide +kernel
theorem cw_ok_S5079 (hw : HW a0 Z) (t : Addr) (tb : Addr) (tk : ClassId) (z : Nat) (ys : List Value) (i : Nat) (m : Nat) (k : Nat) (fo : Value) (cs : Int32) (da : Addr) (ea : Addr) {RR : Room} (h0 : Heap) (n0 : Nat) (Z0 : n0 ≤ h0.size) (hx : pP.tables.exec = Jvm.exec) (hZ : Z.Warmed39 sS.vm) (hown : sS.vm.findClass "com/example/tessera/tessera/sql/SqlTextPagedPinLaw" = some mM.cls) (X0 : Stand pP l eE RR sS mM aS bS mS cC s₁ lc0 cl0 sl0) (e0 : s₁.heap = h0) (N0 : Fr n0 lc0) (hcl : cl0 + r4_1_10_53.cells ≤ RR.cells) (hsl : sl0 + r4_1_10_53.slots ≤ RR.slots) (A_t : StrA Z h0 t tb tk z ys) (SX : Sts Z cs fo da ea) (OL : Old Z n0 h0) (hat : LatAt z ys i (iN (48 + m / 10 ^ k % 10))) (hk : k ≤ 9) (hm : m < 10000000000) {g : JFrame} (hg : g.method = mM) (hsz : g.locals.size = cC.maxLocals) {rest : List Value} (hst : g.stack = [(.int (iN k)), (.long (jN m)), (.int (iN i)), (.ref t)] ++ rest) (hd : decode cC.code g.pc = .ok (.invokestatic 79, 3)) {W : Nat} (hW : 2 * g.monitorRoom + (rest.map fun v => v.category).sum ≤ W) (hfr : r4_1_10_53.frames + 1 ≤ RR.frames) (hlo : W + (7 + 11) + r4_1_10_53.locals ≤ RR.locals) :
    ∃ T' h' L', Stand pP l eE RR sS mM aS bS mS cC T' L' (cl0 + r4_1_10_53.cells) (sl0 + r4_1_10_53.slots) ∧ T'.heap = h' ∧ Fr n0 L' ∧ Keep h0 h' [] ∧ ∀ t', Steps pP.tables eE bS (T'.setTop { g with pc := g.pc + 3, stack := [(.int (1 : Int32))] ++ rest }) t' → Steps pP.tables eE bS (s₁.setTop g) t' := by
  obtain ⟨_, _, ⟨T1, L1, k1, n1⟩, -, X1, ⟨Lc1, hQ1, l1, y1, z1⟩, st1⟩ := Jvm.LawKit.callS X0 hx (y := y36_) hown (mvT hZ (wi hw 229 rfl)) (mvT hZ (wi hw 230 rfl)) (mvT hZ (wi hw 186 rfl)) (mvT hZ (wi hw 231 rfl)) (by decide) (backOf (W := W) (rm_ok l Z a0 hw [] t tb tk z ys i m k fo cs da ea h0 n0 Z0 A_t SX OL hat hk hm) hZ (wi hw 231 rfl) (wi hw 186 rfl) hfr hlo) (g := g) hg hsz (argsL := [(.ref t), (.int (iN i)), (.long (jN m)), (.int (iN k))]) (rest := rest) (lenOf pd_35 rfl) hst hW hd (fun _ _ => ⟨rfl, e0, hcl, hsl⟩)
  dsimp only [Pt.U, Pt.locs, Pt.cells, Pt.slots] at X1 l1 y1 z1 st1 hQ1
  subst y1 z1
  obtain ⟨rfl, Nq, Kq⟩ := hQ1
  exact ⟨T1, _, L1, X1, rfl, by rw [l1]; exact Fr.app N0 Nq, Kq, fun t' hk => st1 t' hk⟩
theorem g6_9 : decode c6 64 = .ok (.if_icmp .le 21, 3) ∧ decode c6 67 = .ok (.aload_n 0, 1) ∧ decode c6 68 = .ok (.iload 5, 2) ∧ decode c6 70 = .ok (.iconst 1, 1) := by decide +kernel
theorem g6_10 : decode c6 71 = .ok (.iadd, 1) ∧ decode c6 72 = .ok (.lload_n 3, 1) ∧ decode c6 73 = .ok (.iload 6, 2) ∧ decode c6 75 = .ok (.iconst 2, 1) := by decide +kernel
theorem g6_11 : decode c6 76 = .ok (.isub, 1) ∧ decode c6 77 = .ok (.invokestatic 79, 3) ∧ decode c6 80 = .ok (.ifCond .ne 5, 3) ∧ decode c6 85 = .ok (.iload 6, 2) := by decide +kernel
theorem g6_12 : decode c6 87 = .ok (.iconst 2, 1) ∧ decode c6 88 = .ok (.if_icmp .le 21, 3) ∧ decode c6 91 = .ok (.aload_n 0, 1) ∧ decode c6 92 = .ok (.iload 5, 2) := by decide +kernel
theorem g6_13 : decode c6 94 = .ok (.iconst 2, 1) ∧ decode c6 95 = .ok (.iadd, 1) ∧ decode c6 96 = .ok (.lload_n 3, 1) ∧ decode c6 97 = .ok (.iload 6, 2) := by decide +kernel
theorem g6_14 : decode c6 99 = .ok (.iconst 3, 1) ∧ decode c6 100 = .ok (.isub, 1) ∧ decode c6 101 = .ok (.invokestatic 79, 3) ∧ decode c6 104 = .ok (.ifCond .ne 5, 3) := by decide +kernel
theorem g6_15 : decode c6 109 = .ok (.iload 6, 2) ∧ decode c6 111 = .ok (.iconst 3, 1) ∧ decode c6 112 = .ok (.if_icmp .le 21, 3) ∧ decode c6 115 = .ok (.aload_n 0, 1) := by decide +kernel
theorem g6_16 : decode c6 116 = .ok (.iload 5, 2) ∧ decode c6 118 = .ok (.iconst 3, 1) ∧ decode c6 119 = .ok (.iadd, 1) ∧ decode c6 120 = .ok (.lload_n 3, 1) := by decide +kernel
theorem g6_17 : decode c6 121 = .ok (.iload 6, 2) ∧ decode c6 123 = .ok (.iconst 4, 1) ∧ decode c6 124 = .ok (.isub, 1) ∧ decode c6 125 = .ok (.invokestatic 79, 3) := by decide +kernel
theorem g6_18 : decode c6 128 = .ok (.ifCond .ne 5, 3) ∧ decode c6 133 = .ok (.iload 6, 2) ∧ decode c6 135 = .ok (.iconst 4, 1) ∧ decode c6 136 = .ok (.if_icmp .le 21, 3) := by decide +kernel
theorem g6_19 : decode c6 139 = .ok (.aload_n 0, 1) ∧ decode c6 140 = .ok (.iload 5, 2) ∧ decode c6 142 = .ok (.iconst 4, 1) ∧ decode c6 143 = .ok (.iadd, 1) := by decide +kernel
theorem g6_20 : decode c6 144 = .ok (.lload_n 3, 1) ∧ decode c6 145 = .ok (.iload 6, 2) ∧ decode c6 147 = .ok (.iconst 5, 1) ∧ decode c6 148 = .ok (.isub, 1) := by decide +kernel
theorem g6_21 : decode c6 149 = .ok (.invokestatic 79, 3) ∧ decode c6 152 = .ok (.ifCond .ne 5, 3) ∧ decode c6 157 = .ok (.iload 6, 2) ∧ decode c6 159 = .ok (.iconst 5, 1) := by decide +kernel
theorem g6_22 : decode c6 160 = .ok (.if_icmp .le 22, 3) ∧ decode c6 163 = .ok (.aload_n 0, 1) ∧ decode c6 164 = .ok (.iload 5, 2) ∧ decode c6 166 = .ok (.iconst 5, 1) := by decide +kernel
theorem g6_23 : decode c6 167 = .ok (.iadd, 1) ∧ decode c6 168 = .ok (.lload_n 3, 1) ∧ decode c6 169 = .ok (.iload 6, 2) ∧ decode c6 171 = .ok (.bipush 6, 2) := by decide +kernel
theorem g6_24 : decode c6 173 = .ok (.isub, 1) ∧ decode c6 174 = .ok (.invokestatic 79, 3) ∧ decode c6 177 = .ok (.ifCond .ne 5, 3) ∧ decode c6 182 = .ok (.iload 6, 2) := by decide +kernel
theorem g6_25 : decode c6 184 = .ok (.bipush 6, 2) ∧ decode c6 186 = .ok (.if_icmp .le 23, 3) ∧ decode c6 189 = .ok (.aload_n 0, 1) ∧ decode c6 190 = .ok (.iload 5, 2) := by decide +kernel
theorem g6_26 : decode c6 192 = .ok (.bipush 6, 2) ∧ decode c6 194 = .ok (.iadd, 1) ∧ decode c6 195 = .ok (.lload_n 3, 1) ∧ decode c6 196 = .ok (.iload 6, 2) := by decide +kernel
theorem g6_27 : decode c6 198 = .ok (.bipush 7, 2) ∧ decode c6 200 = .ok (.isub, 1) ∧ decode c6 201 = .ok (.invokestatic 79, 3) ∧ decode c6 204 = .ok (.ifCond .ne 5, 3) := by decide +kernel
theorem g6_28 : decode c6 209 = .ok (.iload 6, 2) ∧ decode c6 211 = .ok (.bipush 7, 2) ∧ decode c6 213 = .ok (.if_icmp .le 23, 3) ∧ decode c6 216 = .ok (.aload_n 0, 1) := by decide +kernel
theorem g6_29 : decode c6 217 = .ok (.iload 5, 2) ∧ decode c6 219 = .ok (.bipush 7, 2) ∧ decode c6 221 = .ok (.iadd, 1) ∧ decode c6 222 = .ok (.lload_n 3, 1) := by decide +kernel
theorem g6_30 : decode c6 223 = .ok (.iload 6, 2) ∧ decode c6 225 = .ok (.bipush 8, 2) ∧ decode c6 227 = .ok (.isub, 1) ∧ decode c6 228 = .ok (.invokestatic 79, 3) := by decide +kernel
theorem g6_31 : decode c6 231 = .ok (.ifCond .ne 5, 3) ∧ decode c6 236 = .ok (.iload 6, 2) ∧ decode c6 238 = .ok (.bipush 8, 2) ∧ decode c6 240 = .ok (.if_icmp .le 23, 3) := by decide +kernel
theorem g6_32 : decode c6 243 = .ok (.aload_n 0, 1) ∧ decode c6 244 = .ok (.iload 5, 2) ∧ decode c6 246 = .ok (.bipush 8, 2) ∧ decode c6 248 = .ok (.iadd, 1) := by decide +kernel
theorem g6_33 : decode c6 249 = .ok (.lload_n 3, 1) ∧ decode c6 250 = .ok (.iload 6, 2) ∧ decode c6 252 = .ok (.bipush 9, 2) ∧ decode c6 254 = .ok (.isub, 1) := by decide +kernel
theorem g6_34 : decode c6 255 = .ok (.invokestatic 79, 3) ∧ decode c6 258 = .ok (.ifCond .ne 5, 3) ∧ decode c6 263 = .ok (.iload 6, 2) ∧ decode c6 265 = .ok (.bipush 9, 2) := by decide +kernel
theorem g6_35 : decode c6 267 = .ok (.if_icmp .le 23, 3) ∧ decode c6 270 = .ok (.aload_n 0, 1) ∧ decode c6 271 = .ok (.iload 5, 2) ∧ decode c6 273 = .ok (.bipush 9, 2) := by decide +kernel
theorem g6_36 : decode c6 275 = .ok (.iadd, 1) ∧ decode c6 276 = .ok (.lload_n 3, 1) ∧ decode c6 277 = .ok (.iload 6, 2) ∧ decode c6 279 = .ok (.bipush 10, 2) := by decide +kernel
theorem g6_37 : decode c6 281 = .ok (.isub, 1) ∧ decode c6 282 = .ok (.invokestatic 79, 3) ∧ decode c6 285 = .ok (.ifCond .ne 5, 3) ∧ decode c6 290 = .ok (.iconst 1, 1) := by decide +kernel
abbrev Lc_numT_0 (t : Addr) (s1 : Slot) (s2 : Slot) (m : Nat) (q : Nat) : Array Slot := #[.val (.ref t), s1, s2, .val (.long (jN m)), .second, .val (.int (iN q)), .val (.int (iN (nd m)))]
theorem sg_numT (hw : HW a0 Z) (t : Addr) (tb : Addr) (tk : ClassId) (z : Nat) (ys : List Value) (m : Nat) (q : Nat) (s1 : Slot) (s2 : Slot) (fo : Value) (cs : Int32) (da : Addr) (ea : Addr) (h0 : Heap) (n0 : Nat) (G : SG l Z pP eE r6_10_100_90 sS mM aS bS mS cC s₁ lc0 cl0 sl0 h0 n0 method_6_code 7 "com/example/tessera/tessera/sql/SqlTextPagedPinLaw" 10 100) (A_t : StrA Z h0 t tb tk z ys) (SX : Sts Z cs fo da ea) (OL : Old Z n0 h0) (hm : m < 10000000000) (hnum : ∀ k, k < nd m → LatAt z ys (q + k) (iN (48 + m / 10 ^ (nd m - (k + 1)) % 10))) :
    ∃ T' h' L', Stand pP l eE r6_10_100_90 sS mM aS bS mS cC T' L' (cl0 + 10) (sl0 + 100) ∧ T'.heap = h' ∧ Fr n0 L' ∧ Keep h0 h' [] ∧ ∀ t', SS pP eE bS T' (mkF mM 290 #[.val (.ref t), s1, s2, .val (.long (jN m)), .second, .val (.int (iN q)), .val (.int (iN (nd m)))] []) t' → SS pP eE bS s₁ (mkF mM 40 #[.val (.ref t), s1, s2, .val (.long (jN m)), .second, .val (.int (iN q)), .val (.int (iN (nd m)))] []) t' := by
  obtain ⟨Z0, hx, hj, hml, hZ, hown, X0, e0, N0, hcl, hsl⟩ := id G
  have hnd := nd_le m
  obtain ⟨T101, h101, L101, X101, e101, N101, Kp101, st101⟩ : ∃ T' h' L', Stand pP l eE r6_10_100_90 sS mM aS bS mS cC T' L' (cl0 + 1) (sl0 + 10) ∧ T'.heap = h' ∧ Fr n0 L' ∧ Keep h0 h' [] ∧ ∀ t', SS pP eE bS T' (mkF mM 61 (Lc_numT_0 t s1 s2 m q) []) t' → SS pP eE bS s₁ (mkF mM 40 (Lc_numT_0 t s1 s2 m q) []) t' := by
    rcases Nat.lt_or_ge 0 (nd m) with hk | hk
    · obtain ⟨T102, h102, L102, X102, e102, N102, Kp102, st102⟩ := cw_ok_S5079 l Z a0 hw t tb tk z ys q m (nd m - 1) fo cs da ea h0 n0 (by omega) hx hZ hown X0 e0 N0 (segle (k := 0) hcl (by decide)) (segle (k := 0) hsl (by decide)) A_t SX OL (hnum 0 hk) (by omega) hm (g := (mkF mM 53 (Lc_numT_0 t s1 s2 m q) [(.int (iN (nd m - 1))), (.long (jN m)), (.int (iN q)), (.ref t)])) rfl hml.symm rfl (hb hj g6_8.1) (W := 0) (W0 rfl) (by decide) (by decide)
      have Sz1 : h0.size ≤ h102.size := Kp102.1
      have K103 : Keep h0 h102 [] := (Keep.refl h0 []).trans Kp102 all0
      refine ⟨T102, h102, _, X102, e102, N102, K103, fun t' hk' => ?_⟩
      show SS pP eE bS s₁ (mkF mM 40 (Lc_numT_0 t s1 s2 m q) []) _
      refine XS.iload X0.here hx rfl (hb hj g6_6.1) rfl ?_
      refine XS.ifNo X0.here hx rfl (hb hj g6_6.2.1) rfl ((if0 _ _).trans (tlt ((iN_lt (a := 0) (by omega) (by omega)).mpr hk : (0 : Int32) < (iN (nd m)))).2.2.2) ?_
      refine XS.aloadN X0.here hx rfl (hb hj g6_6.2.2.1) rfl rfl ?_
      refine XS.iload X0.here hx rfl (hb hj g6_6.2.2.2) rfl ?_
      refine XS.lloadN X0.here hx rfl (hb hj g6_7.1) rfl ?_
      refine XS.iload X0.here hx rfl (hb hj g6_7.2.1) rfl ?_
      refine XS.iconst X0.here hx rfl (hb hj g6_7.2.2.1) ?_
      refine XS.isub X0.here hx rfl (hb hj g6_7.2.2.2) rfl ?_
      show SS pP eE bS s₁ (mkF mM 53 (Lc_numT_0 t s1 s2 m q) [(.int ((iN (nd m)) - (1 : Int32))), (.long (jN m)), (.int (iN q)), (.ref t)]) _
      rw [show ((iN (nd m)) - (1 : Int32)) = (iN (nd m - 1)) from iN_sub (a := nd m) (b := 1) (by omega) (by omega)]
      refine st102 _ ?_
      refine XS.ifYes X102.here hx rfl (pc0 := 56) (pc' := 61) rfl (hb hj g6_8.2.1) rfl ((if0 _ _).trans (feq (by decide : ¬ ((1 : Int32) = (0 : Int32)))).2) (by decide) (by decide) ?_
      exact hk'
    · refine ⟨s₁, h0, _, (X0.mono (by omega) (by omega)), e0, N0, (Keep.refl h0 []), fun t' hk' => ?_⟩
      show SS pP eE bS s₁ (mkF mM 40 (Lc_numT_0 t s1 s2 m q) []) _
      refine XS.iload X0.here hx rfl (hb hj g6_6.1) rfl ?_
      refine XS.ifYes X0.here hx rfl (pc0 := 42) (pc' := 61) rfl (hb hj g6_6.2.1) rfl ((if0 _ _).trans (flt (fun x => absurd ((iN_lt (a := 0) (by omega) (by omega)).mp x) (by omega) : ¬ ((0 : Int32) < (iN (nd m))))).2.2.2) (by decide) (by decide) ?_
      exact hk'
  have Sz1 : h0.size ≤ h101.size := Kp101.1
  obtain ⟨T103, h103, L103, X103, e103, N103, Kp103, st103⟩ : ∃ T' h' L', Stand pP l eE r6_10_100_90 sS mM aS bS mS cC T' L' (cl0 + 2) (sl0 + 20) ∧ T'.heap = h' ∧ Fr n0 L' ∧ Keep h101 h' [] ∧ ∀ t', SS pP eE bS T' (mkF mM 85 (Lc_numT_0 t s1 s2 m q) []) t' → SS pP eE bS T101 (mkF mM 61 (Lc_numT_0 t s1 s2 m q) []) t' := by
    rcases Nat.lt_or_ge 1 (nd m) with hk | hk
    · have c105_A_t : StrA Z h101 t tb tk z ys := StrA.keep Kp101 A_t nin0 nin0
      have c106_OL : Old Z n0 h101 := OL.keep Kp101 all0
      obtain ⟨T104, h104, L104, X104, e104, N104, Kp104, st104⟩ := cw_ok_S5079 l Z a0 hw t tb tk z ys (q + 1) m (nd m - 2) fo cs da ea h101 n0 (by omega) hx hZ hown X101 e101 N101 (segle (k := 1) hcl (by decide)) (segle (k := 10) hsl (by decide)) c105_A_t SX c106_OL (hnum 1 hk) (by omega) hm (g := (mkF mM 77 (Lc_numT_0 t s1 s2 m q) [(.int (iN (nd m - 2))), (.long (jN m)), (.int (iN (q + 1))), (.ref t)])) rfl hml.symm rfl (hb hj g6_11.2.1) (W := 0) (W0 rfl) (by decide) (by decide)
      have Sz2 : h101.size ≤ h104.size := Kp104.1
      have K107 : Keep h101 h104 [] := (Keep.refl h101 []).trans Kp104 all0
      refine ⟨T104, h104, _, X104, e104, N104, K107, fun t' hk' => ?_⟩
      show SS pP eE bS T101 (mkF mM 61 (Lc_numT_0 t s1 s2 m q) []) _
      refine XS.iload X101.here hx rfl (hb hj g6_8.2.2.1) rfl ?_
      refine XS.iconst X101.here hx rfl (hb hj g6_8.2.2.2) ?_
      refine XS.icmpNo X101.here hx rfl (hb hj g6_9.1) rfl (tlt ((iN_lt (a := 1) (by omega) (by omega)).mpr hk : (1 : Int32) < (iN (nd m)))).2.2.2 ?_
      refine XS.aloadN X101.here hx rfl (hb hj g6_9.2.1) rfl rfl ?_
      refine XS.iload X101.here hx rfl (hb hj g6_9.2.2.1) rfl ?_
      refine XS.iconst X101.here hx rfl (hb hj g6_9.2.2.2) ?_
      refine XS.iadd X101.here hx rfl (hb hj g6_10.1) rfl ?_
      show SS pP eE bS T101 (mkF mM 72 (Lc_numT_0 t s1 s2 m q) [(.int ((iN q) + (1 : Int32))), (.ref t)]) _
      rw [show ((iN q) + (1 : Int32)) = (iN (q + 1)) from iN_add q 1]
      refine XS.lloadN X101.here hx rfl (hb hj g6_10.2.1) rfl ?_
      refine XS.iload X101.here hx rfl (hb hj g6_10.2.2.1) rfl ?_
      refine XS.iconst X101.here hx rfl (hb hj g6_10.2.2.2) ?_
      refine XS.isub X101.here hx rfl (hb hj g6_11.1) rfl ?_
      show SS pP eE bS T101 (mkF mM 77 (Lc_numT_0 t s1 s2 m q) [(.int ((iN (nd m)) - (2 : Int32))), (.long (jN m)), (.int (iN (q + 1))), (.ref t)]) _
      rw [show ((iN (nd m)) - (2 : Int32)) = (iN (nd m - 2)) from iN_sub (a := nd m) (b := 2) (by omega) (by omega)]
      refine st104 _ ?_
      refine XS.ifYes X104.here hx rfl (pc0 := 80) (pc' := 85) rfl (hb hj g6_11.2.2.1) rfl ((if0 _ _).trans (feq (by decide : ¬ ((1 : Int32) = (0 : Int32)))).2) (by decide) (by decide) ?_
      exact hk'
    · refine ⟨T101, h101, _, (X101.mono (by omega) (by omega)), e101, N101, (Keep.refl h101 []), fun t' hk' => ?_⟩
      show SS pP eE bS T101 (mkF mM 61 (Lc_numT_0 t s1 s2 m q) []) _
      refine XS.iload X101.here hx rfl (hb hj g6_8.2.2.1) rfl ?_
      refine XS.iconst X101.here hx rfl (hb hj g6_8.2.2.2) ?_
      refine XS.icmpYes X101.here hx rfl (pc0 := 64) (pc' := 85) rfl (hb hj g6_9.1) rfl (flt (fun x => absurd ((iN_lt (a := 1) (by omega) (by omega)).mp x) (by omega) : ¬ ((1 : Int32) < (iN (nd m))))).2.2.2 (by decide) (by decide) ?_
      exact hk'
  have Sz2 : h101.size ≤ h103.size := Kp103.1
  obtain ⟨T107, h107, L107, X107, e107, N107, Kp107, st107⟩ : ∃ T' h' L', Stand pP l eE r6_10_100_90 sS mM aS bS mS cC T' L' (cl0 + 3) (sl0 + 30) ∧ T'.heap = h' ∧ Fr n0 L' ∧ Keep h103 h' [] ∧ ∀ t', SS pP eE bS T' (mkF mM 109 (Lc_numT_0 t s1 s2 m q) []) t' → SS pP eE bS T103 (mkF mM 85 (Lc_numT_0 t s1 s2 m q) []) t' := by
    rcases Nat.lt_or_ge 2 (nd m) with hk | hk
    · have c109_A_t : StrA Z h101 t tb tk z ys := StrA.keep Kp101 A_t nin0 nin0
      have c110_A_t : StrA Z h103 t tb tk z ys := StrA.keep Kp103 c109_A_t nin0 nin0
      have c111_OL : Old Z n0 h101 := OL.keep Kp101 all0
      have c112_OL : Old Z n0 h103 := c111_OL.keep Kp103 all0
      obtain ⟨T108, h108, L108, X108, e108, N108, Kp108, st108⟩ := cw_ok_S5079 l Z a0 hw t tb tk z ys (q + 2) m (nd m - 3) fo cs da ea h103 n0 (by omega) hx hZ hown X103 e103 N103 (segle (k := 2) hcl (by decide)) (segle (k := 20) hsl (by decide)) c110_A_t SX c112_OL (hnum 2 hk) (by omega) hm (g := (mkF mM 101 (Lc_numT_0 t s1 s2 m q) [(.int (iN (nd m - 3))), (.long (jN m)), (.int (iN (q + 2))), (.ref t)])) rfl hml.symm rfl (hb hj g6_14.2.2.1) (W := 0) (W0 rfl) (by decide) (by decide)
      have Sz3 : h103.size ≤ h108.size := Kp108.1
      have K113 : Keep h103 h108 [] := (Keep.refl h103 []).trans Kp108 all0
      refine ⟨T108, h108, _, X108, e108, N108, K113, fun t' hk' => ?_⟩
      show SS pP eE bS T103 (mkF mM 85 (Lc_numT_0 t s1 s2 m q) []) _
      refine XS.iload X103.here hx rfl (hb hj g6_11.2.2.2) rfl ?_
      refine XS.iconst X103.here hx rfl (hb hj g6_12.1) ?_
      refine XS.icmpNo X103.here hx rfl (hb hj g6_12.2.1) rfl (tlt ((iN_lt (a := 2) (by omega) (by omega)).mpr hk : (2 : Int32) < (iN (nd m)))).2.2.2 ?_
      refine XS.aloadN X103.here hx rfl (hb hj g6_12.2.2.1) rfl rfl ?_
      refine XS.iload X103.here hx rfl (hb hj g6_12.2.2.2) rfl ?_
      refine XS.iconst X103.here hx rfl (hb hj g6_13.1) ?_
      refine XS.iadd X103.here hx rfl (hb hj g6_13.2.1) rfl ?_
      show SS pP eE bS T103 (mkF mM 96 (Lc_numT_0 t s1 s2 m q) [(.int ((iN q) + (2 : Int32))), (.ref t)]) _
      rw [show ((iN q) + (2 : Int32)) = (iN (q + 2)) from iN_add q 2]
      refine XS.lloadN X103.here hx rfl (hb hj g6_13.2.2.1) rfl ?_
      refine XS.iload X103.here hx rfl (hb hj g6_13.2.2.2) rfl ?_
      refine XS.iconst X103.here hx rfl (hb hj g6_14.1) ?_
      refine XS.isub X103.here hx rfl (hb hj g6_14.2.1) rfl ?_
      show SS pP eE bS T103 (mkF mM 101 (Lc_numT_0 t s1 s2 m q) [(.int ((iN (nd m)) - (3 : Int32))), (.long (jN m)), (.int (iN (q + 2))), (.ref t)]) _
      rw [show ((iN (nd m)) - (3 : Int32)) = (iN (nd m - 3)) from iN_sub (a := nd m) (b := 3) (by omega) (by omega)]
      refine st108 _ ?_
      refine XS.ifYes X108.here hx rfl (pc0 := 104) (pc' := 109) rfl (hb hj g6_14.2.2.2) rfl ((if0 _ _).trans (feq (by decide : ¬ ((1 : Int32) = (0 : Int32)))).2) (by decide) (by decide) ?_
      exact hk'
    · refine ⟨T103, h103, _, (X103.mono (by omega) (by omega)), e103, N103, (Keep.refl h103 []), fun t' hk' => ?_⟩
      show SS pP eE bS T103 (mkF mM 85 (Lc_numT_0 t s1 s2 m q) []) _
      refine XS.iload X103.here hx rfl (hb hj g6_11.2.2.2) rfl ?_
      refine XS.iconst X103.here hx rfl (hb hj g6_12.1) ?_
      refine XS.icmpYes X103.here hx rfl (pc0 := 88) (pc' := 109) rfl (hb hj g6_12.2.1) rfl (flt (fun x => absurd ((iN_lt (a := 2) (by omega) (by omega)).mp x) (by omega) : ¬ ((2 : Int32) < (iN (nd m))))).2.2.2 (by decide) (by decide) ?_
      exact hk'
  have Sz3 : h103.size ≤ h107.size := Kp107.1
  obtain ⟨T113, h113, L113, X113, e113, N113, Kp113, st113⟩ : ∃ T' h' L', Stand pP l eE r6_10_100_90 sS mM aS bS mS cC T' L' (cl0 + 4) (sl0 + 40) ∧ T'.heap = h' ∧ Fr n0 L' ∧ Keep h107 h' [] ∧ ∀ t', SS pP eE bS T' (mkF mM 133 (Lc_numT_0 t s1 s2 m q) []) t' → SS pP eE bS T107 (mkF mM 109 (Lc_numT_0 t s1 s2 m q) []) t' := by
    rcases Nat.lt_or_ge 3 (nd m) with hk | hk
    · have c115_A_t : StrA Z h101 t tb tk z ys := StrA.keep Kp101 A_t nin0 nin0
      have c116_A_t : StrA Z h103 t tb tk z ys := StrA.keep Kp103 c115_A_t nin0 nin0
      have c117_A_t : StrA Z h107 t tb tk z ys := StrA.keep Kp107 c116_A_t nin0 nin0
      have c118_OL : Old Z n0 h101 := OL.keep Kp101 all0
      have c119_OL : Old Z n0 h103 := c118_OL.keep Kp103 all0
      have c120_OL : Old Z n0 h107 := c119_OL.keep Kp107 all0
      obtain ⟨T114, h114, L114, X114, e114, N114, Kp114, st114⟩ := cw_ok_S5079 l Z a0 hw t tb tk z ys (q + 3) m (nd m - 4) fo cs da ea h107 n0 (by omega) hx hZ hown X107 e107 N107 (segle (k := 3) hcl (by decide)) (segle (k := 30) hsl (by decide)) c117_A_t SX c120_OL (hnum 3 hk) (by omega) hm (g := (mkF mM 125 (Lc_numT_0 t s1 s2 m q) [(.int (iN (nd m - 4))), (.long (jN m)), (.int (iN (q + 3))), (.ref t)])) rfl hml.symm rfl (hb hj g6_17.2.2.2) (W := 0) (W0 rfl) (by decide) (by decide)
      have Sz4 : h107.size ≤ h114.size := Kp114.1
      have K121 : Keep h107 h114 [] := (Keep.refl h107 []).trans Kp114 all0
      refine ⟨T114, h114, _, X114, e114, N114, K121, fun t' hk' => ?_⟩
      show SS pP eE bS T107 (mkF mM 109 (Lc_numT_0 t s1 s2 m q) []) _
      refine XS.iload X107.here hx rfl (hb hj g6_15.1) rfl ?_
      refine XS.iconst X107.here hx rfl (hb hj g6_15.2.1) ?_
      refine XS.icmpNo X107.here hx rfl (hb hj g6_15.2.2.1) rfl (tlt ((iN_lt (a := 3) (by omega) (by omega)).mpr hk : (3 : Int32) < (iN (nd m)))).2.2.2 ?_
      refine XS.aloadN X107.here hx rfl (hb hj g6_15.2.2.2) rfl rfl ?_
      refine XS.iload X107.here hx rfl (hb hj g6_16.1) rfl ?_
      refine XS.iconst X107.here hx rfl (hb hj g6_16.2.1) ?_
      refine XS.iadd X107.here hx rfl (hb hj g6_16.2.2.1) rfl ?_
      show SS pP eE bS T107 (mkF mM 120 (Lc_numT_0 t s1 s2 m q) [(.int ((iN q) + (3 : Int32))), (.ref t)]) _
      rw [show ((iN q) + (3 : Int32)) = (iN (q + 3)) from iN_add q 3]
      refine XS.lloadN X107.here hx rfl (hb hj g6_16.2.2.2) rfl ?_
      refine XS.iload X107.here hx rfl (hb hj g6_17.1) rfl ?_
      refine XS.iconst X107.here hx rfl (hb hj g6_17.2.1) ?_
      refine XS.isub X107.here hx rfl (hb hj g6_17.2.2.1) rfl ?_
      show SS pP eE bS T107 (mkF mM 125 (Lc_numT_0 t s1 s2 m q) [(.int ((iN (nd m)) - (4 : Int32))), (.long (jN m)), (.int (iN (q + 3))), (.ref t)]) _
      rw [show ((iN (nd m)) - (4 : Int32)) = (iN (nd m - 4)) from iN_sub (a := nd m) (b := 4) (by omega) (by omega)]
      refine st114 _ ?_
      refine XS.ifYes X114.here hx rfl (pc0 := 128) (pc' := 133) rfl (hb hj g6_18.1) rfl ((if0 _ _).trans (feq (by decide : ¬ ((1 : Int32) = (0 : Int32)))).2) (by decide) (by decide) ?_
      exact hk'
    · refine ⟨T107, h107, _, (X107.mono (by omega) (by omega)), e107, N107, (Keep.refl h107 []), fun t' hk' => ?_⟩
      show SS pP eE bS T107 (mkF mM 109 (Lc_numT_0 t s1 s2 m q) []) _
      refine XS.iload X107.here hx rfl (hb hj g6_15.1) rfl ?_
      refine XS.iconst X107.here hx rfl (hb hj g6_15.2.1) ?_
      refine XS.icmpYes X107.here hx rfl (pc0 := 112) (pc' := 133) rfl (hb hj g6_15.2.2.1) rfl (flt (fun x => absurd ((iN_lt (a := 3) (by omega) (by omega)).mp x) (by omega) : ¬ ((3 : Int32) < (iN (nd m))))).2.2.2 (by decide) (by decide) ?_
      exact hk'
  have Sz4 : h107.size ≤ h113.size := Kp113.1
  obtain ⟨T121, h121, L121, X121, e121, N121, Kp121, st121⟩ : ∃ T' h' L', Stand pP l eE r6_10_100_90 sS mM aS bS mS cC T' L' (cl0 + 5) (sl0 + 50) ∧ T'.heap = h' ∧ Fr n0 L' ∧ Keep h113 h' [] ∧ ∀ t', SS pP eE bS T' (mkF mM 157 (Lc_numT_0 t s1 s2 m q) []) t' → SS pP eE bS T113 (mkF mM 133 (Lc_numT_0 t s1 s2 m q) []) t' := by
    rcases Nat.lt_or_ge 4 (nd m) with hk | hk
    · have c123_A_t : StrA Z h101 t tb tk z ys := StrA.keep Kp101 A_t nin0 nin0
      have c124_A_t : StrA Z h103 t tb tk z ys := StrA.keep Kp103 c123_A_t nin0 nin0
      have c125_A_t : StrA Z h107 t tb tk z ys := StrA.keep Kp107 c124_A_t nin0 nin0
      have c126_A_t : StrA Z h113 t tb tk z ys := StrA.keep Kp113 c125_A_t nin0 nin0
      have c127_OL : Old Z n0 h101 := OL.keep Kp101 all0
      have c128_OL : Old Z n0 h103 := c127_OL.keep Kp103 all0
      have c129_OL : Old Z n0 h107 := c128_OL.keep Kp107 all0
      have c130_OL : Old Z n0 h113 := c129_OL.keep Kp113 all0
      obtain ⟨T122, h122, L122, X122, e122, N122, Kp122, st122⟩ := cw_ok_S5079 l Z a0 hw t tb tk z ys (q + 4) m (nd m - 5) fo cs da ea h113 n0 (by omega) hx hZ hown X113 e113 N113 (segle (k := 4) hcl (by decide)) (segle (k := 40) hsl (by decide)) c126_A_t SX c130_OL (hnum 4 hk) (by omega) hm (g := (mkF mM 149 (Lc_numT_0 t s1 s2 m q) [(.int (iN (nd m - 5))), (.long (jN m)), (.int (iN (q + 4))), (.ref t)])) rfl hml.symm rfl (hb hj g6_21.1) (W := 0) (W0 rfl) (by decide) (by decide)
      have Sz5 : h113.size ≤ h122.size := Kp122.1
      have K131 : Keep h113 h122 [] := (Keep.refl h113 []).trans Kp122 all0
      refine ⟨T122, h122, _, X122, e122, N122, K131, fun t' hk' => ?_⟩
      show SS pP eE bS T113 (mkF mM 133 (Lc_numT_0 t s1 s2 m q) []) _
      refine XS.iload X113.here hx rfl (hb hj g6_18.2.1) rfl ?_
      refine XS.iconst X113.here hx rfl (hb hj g6_18.2.2.1) ?_
      refine XS.icmpNo X113.here hx rfl (hb hj g6_18.2.2.2) rfl (tlt ((iN_lt (a := 4) (by omega) (by omega)).mpr hk : (4 : Int32) < (iN (nd m)))).2.2.2 ?_
      refine XS.aloadN X113.here hx rfl (hb hj g6_19.1) rfl rfl ?_
      refine XS.iload X113.here hx rfl (hb hj g6_19.2.1) rfl ?_
      refine XS.iconst X113.here hx rfl (hb hj g6_19.2.2.1) ?_
      refine XS.iadd X113.here hx rfl (hb hj g6_19.2.2.2) rfl ?_
      show SS pP eE bS T113 (mkF mM 144 (Lc_numT_0 t s1 s2 m q) [(.int ((iN q) + (4 : Int32))), (.ref t)]) _
      rw [show ((iN q) + (4 : Int32)) = (iN (q + 4)) from iN_add q 4]
      refine XS.lloadN X113.here hx rfl (hb hj g6_20.1) rfl ?_
      refine XS.iload X113.here hx rfl (hb hj g6_20.2.1) rfl ?_
      refine XS.iconst X113.here hx rfl (hb hj g6_20.2.2.1) ?_
      refine XS.isub X113.here hx rfl (hb hj g6_20.2.2.2) rfl ?_
      show SS pP eE bS T113 (mkF mM 149 (Lc_numT_0 t s1 s2 m q) [(.int ((iN (nd m)) - (5 : Int32))), (.long (jN m)), (.int (iN (q + 4))), (.ref t)]) _
      rw [show ((iN (nd m)) - (5 : Int32)) = (iN (nd m - 5)) from iN_sub (a := nd m) (b := 5) (by omega) (by omega)]
      refine st122 _ ?_
      refine XS.ifYes X122.here hx rfl (pc0 := 152) (pc' := 157) rfl (hb hj g6_21.2.1) rfl ((if0 _ _).trans (feq (by decide : ¬ ((1 : Int32) = (0 : Int32)))).2) (by decide) (by decide) ?_
      exact hk'
    · refine ⟨T113, h113, _, (X113.mono (by omega) (by omega)), e113, N113, (Keep.refl h113 []), fun t' hk' => ?_⟩
      show SS pP eE bS T113 (mkF mM 133 (Lc_numT_0 t s1 s2 m q) []) _
      refine XS.iload X113.here hx rfl (hb hj g6_18.2.1) rfl ?_
      refine XS.iconst X113.here hx rfl (hb hj g6_18.2.2.1) ?_
      refine XS.icmpYes X113.here hx rfl (pc0 := 136) (pc' := 157) rfl (hb hj g6_18.2.2.2) rfl (flt (fun x => absurd ((iN_lt (a := 4) (by omega) (by omega)).mp x) (by omega) : ¬ ((4 : Int32) < (iN (nd m))))).2.2.2 (by decide) (by decide) ?_
      exact hk'
  have Sz5 : h113.size ≤ h121.size := Kp121.1
  obtain ⟨T131, h131, L131, X131, e131, N131, Kp131, st131⟩ : ∃ T' h' L', Stand pP l eE r6_10_100_90 sS mM aS bS mS cC T' L' (cl0 + 6) (sl0 + 60) ∧ T'.heap = h' ∧ Fr n0 L' ∧ Keep h121 h' [] ∧ ∀ t', SS pP eE bS T' (mkF mM 182 (Lc_numT_0 t s1 s2 m q) []) t' → SS pP eE bS T121 (mkF mM 157 (Lc_numT_0 t s1 s2 m q) []) t' := by
    rcases Nat.lt_or_ge 5 (nd m) with hk | hk
    · have c133_A_t : StrA Z h101 t tb tk z ys := StrA.keep Kp101 A_t nin0 nin0
      have c134_A_t : StrA Z h103 t tb tk z ys := StrA.keep Kp103 c133_A_t nin0 nin0
      have c135_A_t : StrA Z h107 t tb tk z ys := StrA.keep Kp107 c134_A_t nin0 nin0
      have c136_A_t : StrA Z h113 t tb tk z ys := StrA.keep Kp113 c135_A_t nin0 nin0
      have c137_A_t : StrA Z h121 t tb tk z ys := StrA.keep Kp121 c136_A_t nin0 nin0
      have c138_OL : Old Z n0 h101 := OL.keep Kp101 all0
      have c139_OL : Old Z n0 h103 := c138_OL.keep Kp103 all0
      have c140_OL : Old Z n0 h107 := c139_OL.keep Kp107 all0
      have c141_OL : Old Z n0 h113 := c140_OL.keep Kp113 all0
      have c142_OL : Old Z n0 h121 := c141_OL.keep Kp121 all0
      obtain ⟨T132, h132, L132, X132, e132, N132, Kp132, st132⟩ := cw_ok_S5079 l Z a0 hw t tb tk z ys (q + 5) m (nd m - 6) fo cs da ea h121 n0 (by omega) hx hZ hown X121 e121 N121 (segle (k := 5) hcl (by decide)) (segle (k := 50) hsl (by decide)) c137_A_t SX c142_OL (hnum 5 hk) (by omega) hm (g := (mkF mM 174 (Lc_numT_0 t s1 s2 m q) [(.int (iN (nd m - 6))), (.long (jN m)), (.int (iN (q + 5))), (.ref t)])) rfl hml.symm rfl (hb hj g6_24.2.1) (W := 0) (W0 rfl) (by decide) (by decide)
      have Sz6 : h121.size ≤ h132.size := Kp132.1
      have K143 : Keep h121 h132 [] := (Keep.refl h121 []).trans Kp132 all0
      refine ⟨T132, h132, _, X132, e132, N132, K143, fun t' hk' => ?_⟩
      show SS pP eE bS T121 (mkF mM 157 (Lc_numT_0 t s1 s2 m q) []) _
      refine XS.iload X121.here hx rfl (hb hj g6_21.2.2.1) rfl ?_
      refine XS.iconst X121.here hx rfl (hb hj g6_21.2.2.2) ?_
      refine XS.icmpNo X121.here hx rfl (hb hj g6_22.1) rfl (tlt ((iN_lt (a := 5) (by omega) (by omega)).mpr hk : (5 : Int32) < (iN (nd m)))).2.2.2 ?_
      refine XS.aloadN X121.here hx rfl (hb hj g6_22.2.1) rfl rfl ?_
      refine XS.iload X121.here hx rfl (hb hj g6_22.2.2.1) rfl ?_
      refine XS.iconst X121.here hx rfl (hb hj g6_22.2.2.2) ?_
      refine XS.iadd X121.here hx rfl (hb hj g6_23.1) rfl ?_
      show SS pP eE bS T121 (mkF mM 168 (Lc_numT_0 t s1 s2 m q) [(.int ((iN q) + (5 : Int32))), (.ref t)]) _
      rw [show ((iN q) + (5 : Int32)) = (iN (q + 5)) from iN_add q 5]
      refine XS.lloadN X121.here hx rfl (hb hj g6_23.2.1) rfl ?_
      refine XS.iload X121.here hx rfl (hb hj g6_23.2.2.1) rfl ?_
      refine XS.bipush X121.here hx rfl (hb hj g6_23.2.2.2) ?_
      refine XS.isub X121.here hx rfl (hb hj g6_24.1) rfl ?_
      show SS pP eE bS T121 (mkF mM 174 (Lc_numT_0 t s1 s2 m q) [(.int ((iN (nd m)) - (6 : Int32))), (.long (jN m)), (.int (iN (q + 5))), (.ref t)]) _
      rw [show ((iN (nd m)) - (6 : Int32)) = (iN (nd m - 6)) from iN_sub (a := nd m) (b := 6) (by omega) (by omega)]
      refine st132 _ ?_
      refine XS.ifYes X132.here hx rfl (pc0 := 177) (pc' := 182) rfl (hb hj g6_24.2.2.1) rfl ((if0 _ _).trans (feq (by decide : ¬ ((1 : Int32) = (0 : Int32)))).2) (by decide) (by decide) ?_
      exact hk'
    · refine ⟨T121, h121, _, (X121.mono (by omega) (by omega)), e121, N121, (Keep.refl h121 []), fun t' hk' => ?_⟩
      show SS pP eE bS T121 (mkF mM 157 (Lc_numT_0 t s1 s2 m q) []) _
      refine XS.iload X121.here hx rfl (hb hj g6_21.2.2.1) rfl ?_
      refine XS.iconst X121.here hx rfl (hb hj g6_21.2.2.2) ?_
      refine XS.icmpYes X121.here hx rfl (pc0 := 160) (pc' := 182) rfl (hb hj g6_22.1) rfl (flt (fun x => absurd ((iN_lt (a := 5) (by omega) (by omega)).mp x) (by omega) : ¬ ((5 : Int32) < (iN (nd m))))).2.2.2 (by decide) (by decide) ?_
      exact hk'
  have Sz6 : h121.size ≤ h131.size := Kp131.1
  obtain ⟨T143, h143, L143, X143, e143, N143, Kp143, st143⟩ : ∃ T' h' L', Stand pP l eE r6_10_100_90 sS mM aS bS mS cC T' L' (cl0 + 7) (sl0 + 70) ∧ T'.heap = h' ∧ Fr n0 L' ∧ Keep h131 h' [] ∧ ∀ t', SS pP eE bS T' (mkF mM 209 (Lc_numT_0 t s1 s2 m q) []) t' → SS pP eE bS T131 (mkF mM 182 (Lc_numT_0 t s1 s2 m q) []) t' := by
    rcases Nat.lt_or_ge 6 (nd m) with hk | hk
    · have c145_A_t : StrA Z h101 t tb tk z ys := StrA.keep Kp101 A_t nin0 nin0
      have c146_A_t : StrA Z h103 t tb tk z ys := StrA.keep Kp103 c145_A_t nin0 nin0
      have c147_A_t : StrA Z h107 t tb tk z ys := StrA.keep Kp107 c146_A_t nin0 nin0
      have c148_A_t : StrA Z h113 t tb tk z ys := StrA.keep Kp113 c147_A_t nin0 nin0
      have c149_A_t : StrA Z h121 t tb tk z ys := StrA.keep Kp121 c148_A_t nin0 nin0
      have c150_A_t : StrA Z h131 t tb tk z ys := StrA.keep Kp131 c149_A_t nin0 nin0
      have c151_OL : Old Z n0 h101 := OL.keep Kp101 all0
      have c152_OL : Old Z n0 h103 := c151_OL.keep Kp103 all0
      have c153_OL : Old Z n0 h107 := c152_OL.keep Kp107 all0
      have c154_OL : Old Z n0 h113 := c153_OL.keep Kp113 all0
      have c155_OL : Old Z n0 h121 := c154_OL.keep Kp121 all0
      have c156_OL : Old Z n0 h131 := c155_OL.keep Kp131 all0
      obtain ⟨T144, h144, L144, X144, e144, N144, Kp144, st144⟩ := cw_ok_S5079 l Z a0 hw t tb tk z ys (q + 6) m (nd m - 7) fo cs da ea h131 n0 (by omega) hx hZ hown X131 e131 N131 (segle (k := 6) hcl (by decide)) (segle (k := 60) hsl (by decide)) c150_A_t SX c156_OL (hnum 6 hk) (by omega) hm (g := (mkF mM 201 (Lc_numT_0 t s1 s2 m q) [(.int (iN (nd m - 7))), (.long (jN m)), (.int (iN (q + 6))), (.ref t)])) rfl hml.symm rfl (hb hj g6_27.2.2.1) (W := 0) (W0 rfl) (by decide) (by decide)
      have Sz7 : h131.size ≤ h144.size := Kp144.1
      have K157 : Keep h131 h144 [] := (Keep.refl h131 []).trans Kp144 all0
      refine ⟨T144, h144, _, X144, e144, N144, K157, fun t' hk' => ?_⟩
      show SS pP eE bS T131 (mkF mM 182 (Lc_numT_0 t s1 s2 m q) []) _
      refine XS.iload X131.here hx rfl (hb hj g6_24.2.2.2) rfl ?_
      refine XS.bipush X131.here hx rfl (hb hj g6_25.1) ?_
      refine XS.icmpNo X131.here hx rfl (hb hj g6_25.2.1) rfl (tlt ((iN_lt (a := 6) (by omega) (by omega)).mpr hk : (6 : Int32) < (iN (nd m)))).2.2.2 ?_
      refine XS.aloadN X131.here hx rfl (hb hj g6_25.2.2.1) rfl rfl ?_
      refine XS.iload X131.here hx rfl (hb hj g6_25.2.2.2) rfl ?_
      refine XS.bipush X131.here hx rfl (hb hj g6_26.1) ?_
      refine XS.iadd X131.here hx rfl (hb hj g6_26.2.1) rfl ?_
      show SS pP eE bS T131 (mkF mM 195 (Lc_numT_0 t s1 s2 m q) [(.int ((iN q) + (6 : Int32))), (.ref t)]) _
      rw [show ((iN q) + (6 : Int32)) = (iN (q + 6)) from iN_add q 6]
      refine XS.lloadN X131.here hx rfl (hb hj g6_26.2.2.1) rfl ?_
      refine XS.iload X131.here hx rfl (hb hj g6_26.2.2.2) rfl ?_
      refine XS.bipush X131.here hx rfl (hb hj g6_27.1) ?_
      refine XS.isub X131.here hx rfl (hb hj g6_27.2.1) rfl ?_
      show SS pP eE bS T131 (mkF mM 201 (Lc_numT_0 t s1 s2 m q) [(.int ((iN (nd m)) - (7 : Int32))), (.long (jN m)), (.int (iN (q + 6))), (.ref t)]) _
      rw [show ((iN (nd m)) - (7 : Int32)) = (iN (nd m - 7)) from iN_sub (a := nd m) (b := 7) (by omega) (by omega)]
      refine st144 _ ?_
      refine XS.ifYes X144.here hx rfl (pc0 := 204) (pc' := 209) rfl (hb hj g6_27.2.2.2) rfl ((if0 _ _).trans (feq (by decide : ¬ ((1 : Int32) = (0 : Int32)))).2) (by decide) (by decide) ?_
      exact hk'
    · refine ⟨T131, h131, _, (X131.mono (by omega) (by omega)), e131, N131, (Keep.refl h131 []), fun t' hk' => ?_⟩
      show SS pP eE bS T131 (mkF mM 182 (Lc_numT_0 t s1 s2 m q) []) _
      refine XS.iload X131.here hx rfl (hb hj g6_24.2.2.2) rfl ?_
      refine XS.bipush X131.here hx rfl (hb hj g6_25.1) ?_
      refine XS.icmpYes X131.here hx rfl (pc0 := 186) (pc' := 209) rfl (hb hj g6_25.2.1) rfl (flt (fun x => absurd ((iN_lt (a := 6) (by omega) (by omega)).mp x) (by omega) : ¬ ((6 : Int32) < (iN (nd m))))).2.2.2 (by decide) (by decide) ?_
      exact hk'
  have Sz7 : h131.size ≤ h143.size := Kp143.1
  obtain ⟨T157, h157, L157, X157, e157, N157, Kp157, st157⟩ : ∃ T' h' L', Stand pP l eE r6_10_100_90 sS mM aS bS mS cC T' L' (cl0 + 8) (sl0 + 80) ∧ T'.heap = h' ∧ Fr n0 L' ∧ Keep h143 h' [] ∧ ∀ t', SS pP eE bS T' (mkF mM 236 (Lc_numT_0 t s1 s2 m q) []) t' → SS pP eE bS T143 (mkF mM 209 (Lc_numT_0 t s1 s2 m q) []) t' := by
    rcases Nat.lt_or_ge 7 (nd m) with hk | hk
    · have c159_A_t : StrA Z h101 t tb tk z ys := StrA.keep Kp101 A_t nin0 nin0
      have c160_A_t : StrA Z h103 t tb tk z ys := StrA.keep Kp103 c159_A_t nin0 nin0
      have c161_A_t : StrA Z h107 t tb tk z ys := StrA.keep Kp107 c160_A_t nin0 nin0
      have c162_A_t : StrA Z h113 t tb tk z ys := StrA.keep Kp113 c161_A_t nin0 nin0
      have c163_A_t : StrA Z h121 t tb tk z ys := StrA.keep Kp121 c162_A_t nin0 nin0
      have c164_A_t : StrA Z h131 t tb tk z ys := StrA.keep Kp131 c163_A_t nin0 nin0
      have c165_A_t : StrA Z h143 t tb tk z ys := StrA.keep Kp143 c164_A_t nin0 nin0
      have c166_OL : Old Z n0 h101 := OL.keep Kp101 all0
      have c167_OL : Old Z n0 h103 := c166_OL.keep Kp103 all0
      have c168_OL : Old Z n0 h107 := c167_OL.keep Kp107 all0
      have c169_OL : Old Z n0 h113 := c168_OL.keep Kp113 all0
      have c170_OL : Old Z n0 h121 := c169_OL.keep Kp121 all0
      have c171_OL : Old Z n0 h131 := c170_OL.keep Kp131 all0
      have c172_OL : Old Z n0 h143 := c171_OL.keep Kp143 all0
      obtain ⟨T158, h158, L158, X158, e158, N158, Kp158, st158⟩ := cw_ok_S5079 l Z a0 hw t tb tk z ys (q + 7) m (nd m - 8) fo cs da ea h143 n0 (by omega) hx hZ hown X143 e143 N143 (segle (k := 7) hcl (by decide)) (segle (k := 70) hsl (by decide)) c165_A_t SX c172_OL (hnum 7 hk) (by omega) hm (g := (mkF mM 228 (Lc_numT_0 t s1 s2 m q) [(.int (iN (nd m - 8))), (.long (jN m)), (.int (iN (q + 7))), (.ref t)])) rfl hml.symm rfl (hb hj g6_30.2.2.2) (W := 0) (W0 rfl) (by decide) (by decide)
      have Sz8 : h143.size ≤ h158.size := Kp158.1
      have K173 : Keep h143 h158 [] := (Keep.refl h143 []).trans Kp158 all0
      refine ⟨T158, h158, _, X158, e158, N158, K173, fun t' hk' => ?_⟩
      show SS pP eE bS T143 (mkF mM 209 (Lc_numT_0 t s1 s2 m q) []) _
      refine XS.iload X143.here hx rfl (hb hj g6_28.1) rfl ?_
      refine XS.bipush X143.here hx rfl (hb hj g6_28.2.1) ?_
      refine XS.icmpNo X143.here hx rfl (hb hj g6_28.2.2.1) rfl (tlt ((iN_lt (a := 7) (by omega) (by omega)).mpr hk : (7 : Int32) < (iN (nd m)))).2.2.2 ?_
      refine XS.aloadN X143.here hx rfl (hb hj g6_28.2.2.2) rfl rfl ?_
      refine XS.iload X143.here hx rfl (hb hj g6_29.1) rfl ?_
      refine XS.bipush X143.here hx rfl (hb hj g6_29.2.1) ?_
      refine XS.iadd X143.here hx rfl (hb hj g6_29.2.2.1) rfl ?_
      show SS pP eE bS T143 (mkF mM 222 (Lc_numT_0 t s1 s2 m q) [(.int ((iN q) + (7 : Int32))), (.ref t)]) _
      rw [show ((iN q) + (7 : Int32)) = (iN (q + 7)) from iN_add q 7]
      refine XS.lloadN X143.here hx rfl (hb hj g6_29.2.2.2) rfl ?_
      refine XS.iload X143.here hx rfl (hb hj g6_30.1) rfl ?_
      refine XS.bipush X143.here hx rfl (hb hj g6_30.2.1) ?_
      refine XS.isub X143.here hx rfl (hb hj g6_30.2.2.1) rfl ?_
      show SS pP eE bS T143 (mkF mM 228 (Lc_numT_0 t s1 s2 m q) [(.int ((iN (nd m)) - (8 : Int32))), (.long (jN m)), (.int (iN (q + 7))), (.ref t)]) _
      rw [show ((iN (nd m)) - (8 : Int32)) = (iN (nd m - 8)) from iN_sub (a := nd m) (b := 8) (by omega) (by omega)]
      refine st158 _ ?_
      refine XS.ifYes X158.here hx rfl (pc0 := 231) (pc' := 236) rfl (hb hj g6_31.1) rfl ((if0 _ _).trans (feq (by decide : ¬ ((1 : Int32) = (0 : Int32)))).2) (by decide) (by decide) ?_
      exact hk'
    · refine ⟨T143, h143, _, (X143.mono (by omega) (by omega)), e143, N143, (Keep.refl h143 []), fun t' hk' => ?_⟩
      show SS pP eE bS T143 (mkF mM 209 (Lc_numT_0 t s1 s2 m q) []) _
      refine XS.iload X143.here hx rfl (hb hj g6_28.1) rfl ?_
      refine XS.bipush X143.here hx rfl (hb hj g6_28.2.1) ?_
      refine XS.icmpYes X143.here hx rfl (pc0 := 213) (pc' := 236) rfl (hb hj g6_28.2.2.1) rfl (flt (fun x => absurd ((iN_lt (a := 7) (by omega) (by omega)).mp x) (by omega) : ¬ ((7 : Int32) < (iN (nd m))))).2.2.2 (by decide) (by decide) ?_
      exact hk'
  have Sz8 : h143.size ≤ h157.size := Kp157.1
  obtain ⟨T173, h173, L173, X173, e173, N173, Kp173, st173⟩ : ∃ T' h' L', Stand pP l eE r6_10_100_90 sS mM aS bS mS cC T' L' (cl0 + 9) (sl0 + 90) ∧ T'.heap = h' ∧ Fr n0 L' ∧ Keep h157 h' [] ∧ ∀ t', SS pP eE bS T' (mkF mM 263 (Lc_numT_0 t s1 s2 m q) []) t' → SS pP eE bS T157 (mkF mM 236 (Lc_numT_0 t s1 s2 m q) []) t' := by
    rcases Nat.lt_or_ge 8 (nd m) with hk | hk
    · have c175_A_t : StrA Z h101 t tb tk z ys := StrA.keep Kp101 A_t nin0 nin0
      have c176_A_t : StrA Z h103 t tb tk z ys := StrA.keep Kp103 c175_A_t nin0 nin0
      have c177_A_t : StrA Z h107 t tb tk z ys := StrA.keep Kp107 c176_A_t nin0 nin0
      have c178_A_t : StrA Z h113 t tb tk z ys := StrA.keep Kp113 c177_A_t nin0 nin0
      have c179_A_t : StrA Z h121 t tb tk z ys := StrA.keep Kp121 c178_A_t nin0 nin0
      have c180_A_t : StrA Z h131 t tb tk z ys := StrA.keep Kp131 c179_A_t nin0 nin0
      have c181_A_t : StrA Z h143 t tb tk z ys := StrA.keep Kp143 c180_A_t nin0 nin0
      have c182_A_t : StrA Z h157 t tb tk z ys := StrA.keep Kp157 c181_A_t nin0 nin0
      have c183_OL : Old Z n0 h101 := OL.keep Kp101 all0
      have c184_OL : Old Z n0 h103 := c183_OL.keep Kp103 all0
      have c185_OL : Old Z n0 h107 := c184_OL.keep Kp107 all0
      have c186_OL : Old Z n0 h113 := c185_OL.keep Kp113 all0
      have c187_OL : Old Z n0 h121 := c186_OL.keep Kp121 all0
      have c188_OL : Old Z n0 h131 := c187_OL.keep Kp131 all0
      have c189_OL : Old Z n0 h143 := c188_OL.keep Kp143 all0
      have c190_OL : Old Z n0 h157 := c189_OL.keep Kp157 all0
      obtain ⟨T174, h174, L174, X174, e174, N174, Kp174, st174⟩ := cw_ok_S5079 l Z a0 hw t tb tk z ys (q + 8) m (nd m - 9) fo cs da ea h157 n0 (by omega) hx hZ hown X157 e157 N157 (segle (k := 8) hcl (by decide)) (segle (k := 80) hsl (by decide)) c182_A_t SX c190_OL (hnum 8 hk) (by omega) hm (g := (mkF mM 255 (Lc_numT_0 t s1 s2 m q) [(.int (iN (nd m - 9))), (.long (jN m)), (.int (iN (q + 8))), (.ref t)])) rfl hml.symm rfl (hb hj g6_34.1) (W := 0) (W0 rfl) (by decide) (by decide)
      have Sz9 : h157.size ≤ h174.size := Kp174.1
      have K191 : Keep h157 h174 [] := (Keep.refl h157 []).trans Kp174 all0
      refine ⟨T174, h174, _, X174, e174, N174, K191, fun t' hk' => ?_⟩
      show SS pP eE bS T157 (mkF mM 236 (Lc_numT_0 t s1 s2 m q) []) _
      refine XS.iload X157.here hx rfl (hb hj g6_31.2.1) rfl ?_
      refine XS.bipush X157.here hx rfl (hb hj g6_31.2.2.1) ?_
      refine XS.icmpNo X157.here hx rfl (hb hj g6_31.2.2.2) rfl (tlt ((iN_lt (a := 8) (by omega) (by omega)).mpr hk : (8 : Int32) < (iN (nd m)))).2.2.2 ?_
      refine XS.aloadN X157.here hx rfl (hb hj g6_32.1) rfl rfl ?_
      refine XS.iload X157.here hx rfl (hb hj g6_32.2.1) rfl ?_
      refine XS.bipush X157.here hx rfl (hb hj g6_32.2.2.1) ?_
      refine XS.iadd X157.here hx rfl (hb hj g6_32.2.2.2) rfl ?_
      show SS pP eE bS T157 (mkF mM 249 (Lc_numT_0 t s1 s2 m q) [(.int ((iN q) + (8 : Int32))), (.ref t)]) _
      rw [show ((iN q) + (8 : Int32)) = (iN (q + 8)) from iN_add q 8]
      refine XS.lloadN X157.here hx rfl (hb hj g6_33.1) rfl ?_
      refine XS.iload X157.here hx rfl (hb hj g6_33.2.1) rfl ?_
      refine XS.bipush X157.here hx rfl (hb hj g6_33.2.2.1) ?_
      refine XS.isub X157.here hx rfl (hb hj g6_33.2.2.2) rfl ?_
      show SS pP eE bS T157 (mkF mM 255 (Lc_numT_0 t s1 s2 m q) [(.int ((iN (nd m)) - (9 : Int32))), (.long (jN m)), (.int (iN (q + 8))), (.ref t)]) _
      rw [show ((iN (nd m)) - (9 : Int32)) = (iN (nd m - 9)) from iN_sub (a := nd m) (b := 9) (by omega) (by omega)]
      refine st174 _ ?_
      refine XS.ifYes X174.here hx rfl (pc0 := 258) (pc' := 263) rfl (hb hj g6_34.2.1) rfl ((if0 _ _).trans (feq (by decide : ¬ ((1 : Int32) = (0 : Int32)))).2) (by decide) (by decide) ?_
      exact hk'
    · refine ⟨T157, h157, _, (X157.mono (by omega) (by omega)), e157, N157, (Keep.refl h157 []), fun t' hk' => ?_⟩
      show SS pP eE bS T157 (mkF mM 236 (Lc_numT_0 t s1 s2 m q) []) _
      refine XS.iload X157.here hx rfl (hb hj g6_31.2.1) rfl ?_
      refine XS.bipush X157.here hx rfl (hb hj g6_31.2.2.1) ?_
      refine XS.icmpYes X157.here hx rfl (pc0 := 240) (pc' := 263) rfl (hb hj g6_31.2.2.2) rfl (flt (fun x => absurd ((iN_lt (a := 8) (by omega) (by omega)).mp x) (by omega) : ¬ ((8 : Int32) < (iN (nd m))))).2.2.2 (by decide) (by decide) ?_
      exact hk'
  have Sz9 : h157.size ≤ h173.size := Kp173.1
  obtain ⟨T191, h191, L191, X191, e191, N191, Kp191, st191⟩ : ∃ T' h' L', Stand pP l eE r6_10_100_90 sS mM aS bS mS cC T' L' (cl0 + 10) (sl0 + 100) ∧ T'.heap = h' ∧ Fr n0 L' ∧ Keep h173 h' [] ∧ ∀ t', SS pP eE bS T' (mkF mM 290 (Lc_numT_0 t s1 s2 m q) []) t' → SS pP eE bS T173 (mkF mM 263 (Lc_numT_0 t s1 s2 m q) []) t' := by
    rcases Nat.lt_or_ge 9 (nd m) with hk | hk
    · have c193_A_t : StrA Z h101 t tb tk z ys := StrA.keep Kp101 A_t nin0 nin0
      have c194_A_t : StrA Z h103 t tb tk z ys := StrA.keep Kp103 c193_A_t nin0 nin0
      have c195_A_t : StrA Z h107 t tb tk z ys := StrA.keep Kp107 c194_A_t nin0 nin0
      have c196_A_t : StrA Z h113 t tb tk z ys := StrA.keep Kp113 c195_A_t nin0 nin0
      have c197_A_t : StrA Z h121 t tb tk z ys := StrA.keep Kp121 c196_A_t nin0 nin0
      have c198_A_t : StrA Z h131 t tb tk z ys := StrA.keep Kp131 c197_A_t nin0 nin0
      have c199_A_t : StrA Z h143 t tb tk z ys := StrA.keep Kp143 c198_A_t nin0 nin0
      have c200_A_t : StrA Z h157 t tb tk z ys := StrA.keep Kp157 c199_A_t nin0 nin0
      have c201_A_t : StrA Z h173 t tb tk z ys := StrA.keep Kp173 c200_A_t nin0 nin0
      have c202_OL : Old Z n0 h101 := OL.keep Kp101 all0
      have c203_OL : Old Z n0 h103 := c202_OL.keep Kp103 all0
      have c204_OL : Old Z n0 h107 := c203_OL.keep Kp107 all0
      have c205_OL : Old Z n0 h113 := c204_OL.keep Kp113 all0
      have c206_OL : Old Z n0 h121 := c205_OL.keep Kp121 all0
      have c207_OL : Old Z n0 h131 := c206_OL.keep Kp131 all0
      have c208_OL : Old Z n0 h143 := c207_OL.keep Kp143 all0
      have c209_OL : Old Z n0 h157 := c208_OL.keep Kp157 all0
      have c210_OL : Old Z n0 h173 := c209_OL.keep Kp173 all0
      obtain ⟨T192, h192, L192, X192, e192, N192, Kp192, st192⟩ := cw_ok_S5079 l Z a0 hw t tb tk z ys (q + 9) m (nd m - 10) fo cs da ea h173 n0 (by omega) hx hZ hown X173 e173 N173 (segle (k := 9) hcl (by decide)) (segle (k := 90) hsl (by decide)) c201_A_t SX c210_OL (hnum 9 hk) (by omega) hm (g := (mkF mM 282 (Lc_numT_0 t s1 s2 m q) [(.int (iN (nd m - 10))), (.long (jN m)), (.int (iN (q + 9))), (.ref t)])) rfl hml.symm rfl (hb hj g6_37.2.1) (W := 0) (W0 rfl) (by decide) (by decide)
      have Sz10 : h173.size ≤ h192.size := Kp192.1
      have K211 : Keep h173 h192 [] := (Keep.refl h173 []).trans Kp192 all0
      refine ⟨T192, h192, _, X192, e192, N192, K211, fun t' hk' => ?_⟩
      show SS pP eE bS T173 (mkF mM 263 (Lc_numT_0 t s1 s2 m q) []) _
      refine XS.iload X173.here hx rfl (hb hj g6_34.2.2.1) rfl ?_
      refine XS.bipush X173.here hx rfl (hb hj g6_34.2.2.2) ?_
      refine XS.icmpNo X173.here hx rfl (hb hj g6_35.1) rfl (tlt ((iN_lt (a := 9) (by omega) (by omega)).mpr hk : (9 : Int32) < (iN (nd m)))).2.2.2 ?_
      refine XS.aloadN X173.here hx rfl (hb hj g6_35.2.1) rfl rfl ?_
      refine XS.iload X173.here hx rfl (hb hj g6_35.2.2.1) rfl ?_
      refine XS.bipush X173.here hx rfl (hb hj g6_35.2.2.2) ?_
      refine XS.iadd X173.here hx rfl (hb hj g6_36.1) rfl ?_
      show SS pP eE bS T173 (mkF mM 276 (Lc_numT_0 t s1 s2 m q) [(.int ((iN q) + (9 : Int32))), (.ref t)]) _
      rw [show ((iN q) + (9 : Int32)) = (iN (q + 9)) from iN_add q 9]
      refine XS.lloadN X173.here hx rfl (hb hj g6_36.2.1) rfl ?_
      refine XS.iload X173.here hx rfl (hb hj g6_36.2.2.1) rfl ?_
      refine XS.bipush X173.here hx rfl (hb hj g6_36.2.2.2) ?_
      refine XS.isub X173.here hx rfl (hb hj g6_37.1) rfl ?_
      show SS pP eE bS T173 (mkF mM 282 (Lc_numT_0 t s1 s2 m q) [(.int ((iN (nd m)) - (10 : Int32))), (.long (jN m)), (.int (iN (q + 9))), (.ref t)]) _
      rw [show ((iN (nd m)) - (10 : Int32)) = (iN (nd m - 10)) from iN_sub (a := nd m) (b := 10) (by omega) (by omega)]
      refine st192 _ ?_
      refine XS.ifYes X192.here hx rfl (pc0 := 285) (pc' := 290) rfl (hb hj g6_37.2.2.1) rfl ((if0 _ _).trans (feq (by decide : ¬ ((1 : Int32) = (0 : Int32)))).2) (by decide) (by decide) ?_
      exact hk'
    · refine ⟨T173, h173, _, (X173.mono (by omega) (by omega)), e173, N173, (Keep.refl h173 []), fun t' hk' => ?_⟩
      show SS pP eE bS T173 (mkF mM 263 (Lc_numT_0 t s1 s2 m q) []) _
      refine XS.iload X173.here hx rfl (hb hj g6_34.2.2.1) rfl ?_
      refine XS.bipush X173.here hx rfl (hb hj g6_34.2.2.2) ?_
      refine XS.icmpYes X173.here hx rfl (pc0 := 267) (pc' := 290) rfl (hb hj g6_35.1) rfl (flt (fun x => absurd ((iN_lt (a := 9) (by omega) (by omega)).mp x) (by omega) : ¬ ((9 : Int32) < (iN (nd m))))).2.2.2 (by decide) (by decide) ?_
      exact hk'
  have Sz10 : h173.size ≤ h191.size := Kp191.1
  have K211 : Keep h0 h101 [] := (Keep.refl h0 []).trans Kp101 all0
  have K212 : Keep h0 h103 [] := K211.trans Kp103 all0
  have K213 : Keep h0 h107 [] := K212.trans Kp107 all0
  have K214 : Keep h0 h113 [] := K213.trans Kp113 all0
  have K215 : Keep h0 h121 [] := K214.trans Kp121 all0
  have K216 : Keep h0 h131 [] := K215.trans Kp131 all0
  have K217 : Keep h0 h143 [] := K216.trans Kp143 all0
  have K218 : Keep h0 h157 [] := K217.trans Kp157 all0
  have K219 : Keep h0 h173 [] := K218.trans Kp173 all0
  have K220 : Keep h0 h191 [] := K219.trans Kp191 all0
  refine ⟨T191, h191, _, X191, e191, N191, K220, fun t' hk' => ?_⟩
  show SS pP eE bS s₁ (mkF mM 40 (Lc_numT_0 t s1 s2 m q) []) _
  refine st101 _ ?_
  show SS pP eE bS T101 (mkF mM 61 (Lc_numT_0 t s1 s2 m q) []) _
  refine st103 _ ?_
  show SS pP eE bS T103 (mkF mM 85 (Lc_numT_0 t s1 s2 m q) []) _
  refine st107 _ ?_
  show SS pP eE bS T107 (mkF mM 109 (Lc_numT_0 t s1 s2 m q) []) _
  refine st113 _ ?_
  show SS pP eE bS T113 (mkF mM 133 (Lc_numT_0 t s1 s2 m q) []) _
  refine st121 _ ?_
  show SS pP eE bS T121 (mkF mM 157 (Lc_numT_0 t s1 s2 m q) []) _
  refine st131 _ ?_
  show SS pP eE bS T131 (mkF mM 182 (Lc_numT_0 t s1 s2 m q) []) _
  refine st143 _ ?_
  show SS pP eE bS T143 (mkF mM 209 (Lc_numT_0 t s1 s2 m q) []) _
  refine st157 _ ?_
  show SS pP eE bS T157 (mkF mM 236 (Lc_numT_0 t s1 s2 m q) []) _
  refine st173 _ ?_
  show SS pP eE bS T173 (mkF mM 263 (Lc_numT_0 t s1 s2 m q) []) _
  refine st191 _ ?_
  exact hk'
def Q_num (Z : State)  (h0 : Heap) (n0 : Nat) (xv : Option Value) (xh : Heap) (xL : List Loc) : Prop := xv = some (.int (1 : Int32)) ∧ Fr n0 xL ∧ Keep h0 xh []
theorem g6_0 : decode c6 0 = .ok (.iload_n 2, 1) ∧ decode c6 1 = .ok (.i2l, 1) ∧ decode c6 2 = .ok (.lstore_n 3, 1) ∧ decode c6 3 = .ok (.iload_n 1, 1) := by decide +kernel
theorem g6_1 : decode c6 4 = .ok (.istore 5, 2) ∧ decode c6 6 = .ok (.lload_n 3, 1) ∧ decode c6 7 = .ok (.lconst 0, 1) ∧ decode c6 8 = .ok (.lcmp, 1) := by decide +kernel
theorem g6_2 : decode c6 9 = .ok (.ifCond .ge 25, 3) ∧ decode c6 12 = .ok (.aload_n 0, 1) ∧ decode c6 13 = .ok (.iload 5, 2) ∧ decode c6 15 = .ok (.invokevirtual 37, 3) := by decide +kernel
theorem g6_3 : decode c6 18 = .ok (.bipush 45, 2) ∧ decode c6 20 = .ok (.if_icmp .eq 5, 3) ∧ decode c6 25 = .ok (.iload 5, 2) ∧ decode c6 27 = .ok (.iconst 1, 1) := by decide +kernel
theorem g6_4 : decode c6 28 = .ok (.iadd, 1) ∧ decode c6 29 = .ok (.istore 5, 2) ∧ decode c6 31 = .ok (.lload_n 3, 1) ∧ decode c6 32 = .ok (.lneg, 1) := by decide +kernel
theorem g6_5 : decode c6 33 = .ok (.lstore_n 3, 1) ∧ decode c6 34 = .ok (.lload_n 3, 1) ∧ decode c6 35 = .ok (.invokestatic 75, 3) ∧ decode c6 38 = .ok (.istore 6, 2) := by decide +kernel
theorem g6_38 : decode c6 291 = .ok (.ireturn, 1) := by decide +kernel
abbrev y39_ : MethodName := ⟨"com/example/tessera/tessera/sql/SqlTextPagedPinLaw", "num", "(Ljava/lang/String;II)Z"⟩
abbrev Lc_num_n_0 (t : Addr) (p : Nat) (v : Int32) : Array Slot := #[.val (.ref t), .val (.int (iN p)), .val (.int v), .unset, .unset, .unset, .unset]
abbrev Lc_num_n_1 (t : Addr) (p : Nat) (v : Int32) : Array Slot := #[.val (.ref t), .val (.int (iN p)), .val (.int v), .val (.long (v.toInt64)), .second, .unset, .unset]
abbrev Lc_num_n_2 (t : Addr) (p : Nat) (v : Int32) : Array Slot := #[.val (.ref t), .val (.int (iN p)), .val (.int v), .val (.long (v.toInt64)), .second, .val (.int (iN p)), .unset]
abbrev Lc_num_n_3 (t : Addr) (p : Nat) (v : Int32) : Array Slot := #[.val (.ref t), .val (.int (iN p)), .val (.int v), .val (.long (v.toInt64)), .second, .val (.int (iN (p + 1))), .unset]
abbrev Lc_num_n_4 (t : Addr) (p : Nat) (v : Int32) : Array Slot := #[.val (.ref t), .val (.int (iN p)), .val (.int v), .val (.long (jN (absN v))), .second, .val (.int (iN (p + 1))), .unset]
abbrev Lc_num_n_5 (t : Addr) (p : Nat) (v : Int32) : Array Slot := #[.val (.ref t), .val (.int (iN p)), .val (.int v), .val (.long (jN (absN v))), .second, .val (.int (iN (p + 1))), .val (.int (iN (nd (absN v))))]
theorem ef_num_n (mM : MethodId) (t : Addr) (tb : Addr) (tk : ClassId) (z : Nat) (ys : List Value) (p : Nat) (v : Int32) (fo : Value) (cs : Int32) (da : Addr) (ea : Addr) : entryFrame mM #[(.ref t), (.int (iN p)), (.int v)] 7 = mkF mM 0 #[.val (.ref t), .val (.int (iN p)), .val (.int v), .unset, .unset, .unset, .unset] [] := by
  first | (simp [entryFrame, mkF, argsToLocals, Value.category]; done) | rfl
theorem rm_num_n (hw : HW a0 Z) (ws : List Jvm.Cond) (t : Addr) (tb : Addr) (tk : ClassId) (z : Nat) (ys : List Value) (p : Nat) (v : Int32) (fo : Value) (cs : Int32) (da : Addr) (ea : Addr) (h0 : Heap) (n0 : Nat) (Z0 : n0 ≤ h0.size) (A_t : StrA Z h0 t tb tk z ys) (SX : Sts Z cs fo da ea) (OL : Old Z n0 h0) (hv : v < (0 : Int32)) (hat : LatAt z ys p (45 : Int32)) (hnum : ∀ k, k < nd (absN v) → LatAt z ys ((p + 1) + k) (iN (48 + (absN v) / 10 ^ (nd (absN v) - (k + 1)) % 10))) :
    MF l y39_ method_6_code 7 (some .boolean) ws r6_10_100_90 #[(.ref t), (.int (iN p)), (.int v)] Z h0 (Q_num Z   h0 n0) := by
  refine MetFree.of_bodySF (plainFor_of_name pn_com_example_tessera_tessera_sql_SqlTextPagedPinLaw) hisR ?_
  intro pP eE sS mM aS bS mS cC s₁ Bd hml0 hP hK
  obtain ⟨rfl, hZ, hh⟩ := hP
  have hx := Bd.exec
  have hj := Bd.bytes
  have hml : cC.maxLocals = 7 := hml0
  have hown : sS.vm.findClass "com/example/tessera/tessera/sql/SqlTextPagedPinLaw" = some mM.cls := findClass_of_methodNamed Bd.named
  have X0 : Stand pP l eE r6_10_100_90 sS mM _ bS mS cC s₁ [] 0 0 := Stand.of_body Bd
  have e0 : s₁.heap = h0 := by rw [← hh, Bd.state]; rfl
  have N0 := Fr.nil n0
  obtain ⟨T101, L101, X101, e101, N101, st101⟩ := cw_charAt_S5037 l Z a0 hw t tb tk z ys p (45 : Int32) fo cs da ea h0 n0 (by omega) hx hZ hown X0 e0 N0 (by decide) (by decide) A_t SX OL hat (g := (mkF mM 15 (Lc_num_n_2 t p v) [(.int (iN p)), (.ref t)])) rfl hml.symm rfl (hb hj g6_2.2.2.2) (W := 0) (W0 rfl) (by decide) (by decide)
  obtain ⟨T102, L102, X102, e102, N102, st102⟩ := cw_dig_S5075 l Z a0 hw (absN v) h0 n0 (by omega) hx hZ hown X101 e101 N101 (by decide) (by decide) (by have := absN_le v; omega) (g := (mkF mM 35 (Lc_num_n_4 t p v) [(.long (jN (absN v)))])) rfl hml.symm rfl (hb hj g6_5.2.2.1) (W := 0) (W0 rfl) (by decide) (by decide)
  obtain ⟨T103, h103, L103, X103, e103, N103, Kp103, st103⟩ := sg_numT l Z a0 hw t tb tk z ys (absN v) (p + 1) (.val (.int (iN p))) (.val (.int v)) fo cs da ea h0 n0 ⟨by omega, hx, hj, hml, hZ, hown, X102, e102, N102, by decide, by decide⟩ A_t SX OL (by have := absN_le v; omega) hnum
  have Sz1 : h0.size ≤ h103.size := Kp103.1
  have K104 : Keep h0 h103 [] := (Keep.refl h0 []).trans Kp103 all0
  obtain ⟨fs, hr, hrun, hended, hW, hsame⟩ := X103.leave (v := some (.int (1 : Int32))) (fun h => by rw [Bd.returns] at h; cases h)
  refine ⟨_, _, castTop (ef_num_n mM t tb tk z ys p v fo cs da ea) ?_, hrun, hended, _, _, rfl, ?_, ⟨_, rfl⟩, hW, hsame.mono (by decide) (by decide)⟩
  · show SS pP eE bS s₁ (mkF mM 0 (Lc_num_n_0 t p v) []) _
    refine XS.iloadN X0.here hx rfl (hb hj g6_0.1) rfl ?_
    refine XS.i2l X0.here hx rfl (hb hj g6_0.2.1) rfl ?_
    refine XS.lstoreN X0.here hx rfl (hb hj g6_0.2.2.1) rfl (l' := (Lc_num_n_1 t p v)) rfl ?_
    refine XS.iloadN X0.here hx rfl (hb hj g6_0.2.2.2) rfl ?_
    refine XS.istore X0.here hx rfl (hb hj g6_1.1) rfl (l' := (Lc_num_n_2 t p v)) rfl ?_
    refine XS.lloadN X0.here hx rfl (hb hj g6_1.2.1) rfl ?_
    refine XS.lconst X0.here hx rfl (hb hj g6_1.2.2.1) ?_
    refine XS.lcmp X0.here hx rfl (hb hj g6_1.2.2.2) rfl ?_
    refine XS.ifNo X0.here hx rfl (hb hj g6_2.1) rfl ((if0 _ _).trans (tlt (own_vneg hv : (lcmpW (v.toInt64) (0 : Int64)) < (0 : Int32))).2.1) ?_
    refine XS.aloadN X0.here hx rfl (hb hj g6_2.2.1) rfl rfl ?_
    refine XS.iload X0.here hx rfl (hb hj g6_2.2.2.1) rfl ?_
    refine st101 _ ?_
    refine XS.bipush X101.here hx rfl (hb hj g6_3.1) ?_
    refine XS.icmpYes X101.here hx rfl (pc0 := 20) (pc' := 25) rfl (hb hj g6_3.2.1) rfl (teq (by decide : (45 : Int32) = (45 : Int32))).1 (by decide) (by decide) ?_
    refine XS.iload X101.here hx rfl (hb hj g6_3.2.2.1) rfl ?_
    refine XS.iconst X101.here hx rfl (hb hj g6_3.2.2.2) ?_
    refine XS.iadd X101.here hx rfl (hb hj g6_4.1) rfl ?_
    show SS pP eE bS T101 (mkF mM 29 (Lc_num_n_2 t p v) [(.int ((iN p) + (1 : Int32)))]) _
    rw [show ((iN p) + (1 : Int32)) = (iN (p + 1)) from iN_add p 1]
    refine XS.istore X101.here hx rfl (hb hj g6_4.2.1) rfl (l' := (Lc_num_n_3 t p v)) rfl ?_
    refine XS.lloadN X101.here hx rfl (hb hj g6_4.2.2.1) rfl ?_
    refine XS.lneg X101.here hx rfl (hb hj g6_4.2.2.2) rfl ?_
    show SS pP eE bS T101 (mkF mM 33 (Lc_num_n_3 t p v) [(.long (-(v.toInt64)))]) _
    rw [show (-(v.toInt64)) = (jN (absN v)) from own_negj hv]
    refine XS.lstoreN X101.here hx rfl (hb hj g6_5.1) rfl (l' := (Lc_num_n_4 t p v)) rfl ?_
    refine XS.lloadN X101.here hx rfl (hb hj g6_5.2.1) rfl ?_
    refine st102 _ ?_
    refine XS.istore X102.here hx rfl (hb hj g6_5.2.2.2) rfl (l' := (Lc_num_n_5 t p v)) rfl ?_
    refine st103 _ ?_
    refine XS.iconst X103.here hx rfl (hb hj g6_37.2.2.2) ?_
    exact retN X103 hx (t := .boolean) Bd.returns (by simp) (hb hj g6_38) hr
  · show Q_num Z   h0 n0 _ T103.heap _
    rw [e103]
    exact ⟨rfl, N103, K104⟩
abbrev Lc_num_p_0 (t : Addr) (p : Nat) (v : Int32) : Array Slot := #[.val (.ref t), .val (.int (iN p)), .val (.int v), .unset, .unset, .unset, .unset]
abbrev Lc_num_p_1 (t : Addr) (p : Nat) (v : Int32) : Array Slot := #[.val (.ref t), .val (.int (iN p)), .val (.int v), .val (.long (jN (absN v))), .second, .unset, .unset]
abbrev Lc_num_p_2 (t : Addr) (p : Nat) (v : Int32) : Array Slot := #[.val (.ref t), .val (.int (iN p)), .val (.int v), .val (.long (jN (absN v))), .second, .val (.int (iN p)), .unset]
abbrev Lc_num_p_3 (t : Addr) (p : Nat) (v : Int32) : Array Slot := #[.val (.ref t), .val (.int (iN p)), .val (.int v), .val (.long (jN (absN v))), .second, .val (.int (iN p)), .val (.int (iN (nd (absN v))))]
theorem ef_num_p (mM : MethodId) (t : Addr) (tb : Addr) (tk : ClassId) (z : Nat) (ys : List Value) (p : Nat) (v : Int32) (fo : Value) (cs : Int32) (da : Addr) (ea : Addr) : entryFrame mM #[(.ref t), (.int (iN p)), (.int v)] 7 = mkF mM 0 #[.val (.ref t), .val (.int (iN p)), .val (.int v), .unset, .unset, .unset, .unset] [] := by
  first | (simp [entryFrame, mkF, argsToLocals, Value.category]; done) | rfl
theorem rm_num_p (hw : HW a0 Z) (ws : List Jvm.Cond) (t : Addr) (tb : Addr) (tk : ClassId) (z : Nat) (ys : List Value) (p : Nat) (v : Int32) (fo : Value) (cs : Int32) (da : Addr) (ea : Addr) (h0 : Heap) (n0 : Nat) (Z0 : n0 ≤ h0.size) (A_t : StrA Z h0 t tb tk z ys) (SX : Sts Z cs fo da ea) (OL : Old Z n0 h0) (hv : ¬ (v < (0 : Int32))) (hnum : ∀ k, k < nd (absN v) → LatAt z ys (p + k) (iN (48 + (absN v) / 10 ^ (nd (absN v) - (k + 1)) % 10))) :
    MF l y39_ method_6_code 7 (some .boolean) ws r6_10_100_90 #[(.ref t), (.int (iN p)), (.int v)] Z h0 (Q_num Z   h0 n0) := by
  refine MetFree.of_bodySF (plainFor_of_name pn_com_example_tessera_tessera_sql_SqlTextPagedPinLaw) hisR ?_
  intro pP eE sS mM aS bS mS cC s₁ Bd hml0 hP hK
  obtain ⟨rfl, hZ, hh⟩ := hP
  have hx := Bd.exec
  have hj := Bd.bytes
  have hml : cC.maxLocals = 7 := hml0
  have hown : sS.vm.findClass "com/example/tessera/tessera/sql/SqlTextPagedPinLaw" = some mM.cls := findClass_of_methodNamed Bd.named
  have X0 : Stand pP l eE r6_10_100_90 sS mM _ bS mS cC s₁ [] 0 0 := Stand.of_body Bd
  have e0 : s₁.heap = h0 := by rw [← hh, Bd.state]; rfl
  have N0 := Fr.nil n0
  obtain ⟨T101, L101, X101, e101, N101, st101⟩ := cw_dig_S5075 l Z a0 hw (absN v) h0 n0 (by omega) hx hZ hown X0 e0 N0 (by decide) (by decide) (by have := absN_le v; omega) (g := (mkF mM 35 (Lc_num_p_2 t p v) [(.long (jN (absN v)))])) rfl hml.symm rfl (hb hj g6_5.2.2.1) (W := 0) (W0 rfl) (by decide) (by decide)
  obtain ⟨T102, h102, L102, X102, e102, N102, Kp102, st102⟩ := sg_numT l Z a0 hw t tb tk z ys (absN v) p (.val (.int (iN p))) (.val (.int v)) fo cs da ea h0 n0 ⟨by omega, hx, hj, hml, hZ, hown, X101, e101, N101, by decide, by decide⟩ A_t SX OL (by have := absN_le v; omega) hnum
  have Sz1 : h0.size ≤ h102.size := Kp102.1
  have K103 : Keep h0 h102 [] := (Keep.refl h0 []).trans Kp102 all0
  obtain ⟨fs, hr, hrun, hended, hW, hsame⟩ := X102.leave (v := some (.int (1 : Int32))) (fun h => by rw [Bd.returns] at h; cases h)
  refine ⟨_, _, castTop (ef_num_p mM t tb tk z ys p v fo cs da ea) ?_, hrun, hended, _, _, rfl, ?_, ⟨_, rfl⟩, hW, hsame.mono (by decide) (by decide)⟩
  · show SS pP eE bS s₁ (mkF mM 0 (Lc_num_p_0 t p v) []) _
    refine XS.iloadN X0.here hx rfl (hb hj g6_0.1) rfl ?_
    refine XS.i2l X0.here hx rfl (hb hj g6_0.2.1) rfl ?_
    show SS pP eE bS s₁ (mkF mM 2 (Lc_num_p_0 t p v) [(.long (v.toInt64))]) _
    rw [show (v.toInt64) = (jN (absN v)) from own_posj hv]
    refine XS.lstoreN X0.here hx rfl (hb hj g6_0.2.2.1) rfl (l' := (Lc_num_p_1 t p v)) rfl ?_
    refine XS.iloadN X0.here hx rfl (hb hj g6_0.2.2.2) rfl ?_
    refine XS.istore X0.here hx rfl (hb hj g6_1.1) rfl (l' := (Lc_num_p_2 t p v)) rfl ?_
    refine XS.lloadN X0.here hx rfl (hb hj g6_1.2.1) rfl ?_
    refine XS.lconst X0.here hx rfl (hb hj g6_1.2.2.1) ?_
    refine XS.lcmp X0.here hx rfl (hb hj g6_1.2.2.2) rfl ?_
    refine XS.ifYes X0.here hx rfl (pc0 := 9) (pc' := 34) rfl (hb hj g6_2.1) rfl ((if0 _ _).trans (flt (own_jge (K := 0) (by omega) (by have := absN_le v; omega) : ¬ ((lcmpW (jN (absN v)) (0 : Int64)) < (0 : Int32)))).2.1) (by decide) (by decide) ?_
    refine XS.lloadN X0.here hx rfl (hb hj g6_5.2.1) rfl ?_
    refine st101 _ ?_
    refine XS.istore X101.here hx rfl (hb hj g6_5.2.2.2) rfl (l' := (Lc_num_p_3 t p v)) rfl ?_
    refine st102 _ ?_
    refine XS.iconst X102.here hx rfl (hb hj g6_37.2.2.2) ?_
    exact retN X102 hx (t := .boolean) Bd.returns (by simp) (hb hj g6_38) hr
  · show Q_num Z   h0 n0 _ T102.heap _
    rw [e102]
    exact ⟨rfl, N102, K103⟩
theorem rm_num (hw : HW a0 Z) (ws : List Jvm.Cond) (t : Addr) (tb : Addr) (tk : ClassId) (z : Nat) (ys : List Value) (p : Nat) (v : Int32) (fo : Value) (cs : Int32) (da : Addr) (ea : Addr) (h0 : Heap) (n0 : Nat) (Z0 : n0 ≤ h0.size) (A_t : StrA Z h0 t tb tk z ys) (SX : Sts Z cs fo da ea) (OL : Old Z n0 h0) (hn : NumP z ys p v) :
    MF l y39_ method_6_code 7 (some .boolean) ws r6_10_100_90 #[(.ref t), (.int (iN p)), (.int v)] Z h0 (Q_num Z   h0 n0) := by
  rcases hn with ⟨hv, hat, hnum⟩ | ⟨hv, hnum⟩
  · exact rm_num_n l Z a0 hw ws t tb tk z ys p v fo cs da ea h0 n0 Z0 A_t SX OL hv hat hnum
  · exact rm_num_p l Z a0 hw ws t tb tk z ys p v fo cs da ea h0 n0 Z0 A_t SX OL hv hnum
abbrev c33_12 := jdk_33_method_12_code
theorem g33_12_3 : decode c33_12 21 = .ok (.istore_n 0, 1) ∧ decode c33_12 22 = .ok (.iload_n 0, 1) ∧ decode c33_12 23 = .ok (.bipush (-100), 2) ∧ decode c33_12 25 = .ok (.if_icmp .gt 47, 3) := by decide +kernel
theorem g33_12_4 : decode c33_12 28 = .ok (.iload_n 0, 1) ∧ decode c33_12 29 = .ok (.bipush 100, 2) ∧ decode c33_12 31 = .ok (.idiv, 1) ∧ decode c33_12 32 = .ok (.istore_n 3, 1) := by decide +kernel
theorem g33_12_5 : decode c33_12 33 = .ok (.iload_n 3, 1) ∧ decode c33_12 34 = .ok (.bipush 100, 2) ∧ decode c33_12 36 = .ok (.imul, 1) ∧ decode c33_12 37 = .ok (.iload_n 0, 1) := by decide +kernel
theorem g33_12_6 : decode c33_12 38 = .ok (.isub, 1) ∧ decode c33_12 39 = .ok (.istore 4, 2) ∧ decode c33_12 41 = .ok (.iload_n 3, 1) ∧ decode c33_12 42 = .ok (.istore_n 0, 1) := by decide +kernel
theorem g33_12_7 : decode c33_12 43 = .ok (.aload_n 2, 1) ∧ decode c33_12 44 = .ok (.iinc 5 (-1), 3) ∧ decode c33_12 47 = .ok (.iload 5, 2) ∧ decode c33_12 49 = .ok (.getstatic 83, 3) := by decide +kernel
theorem g33_12_8 : decode c33_12 52 = .ok (.iload 4, 2) ∧ decode c33_12 54 = .ok (.baload, 1) ∧ decode c33_12 55 = .ok (.bastore, 1) ∧ decode c33_12 56 = .ok (.aload_n 2, 1) := by decide +kernel
theorem g33_12_9 : decode c33_12 57 = .ok (.iinc 5 (-1), 3) ∧ decode c33_12 60 = .ok (.iload 5, 2) ∧ decode c33_12 62 = .ok (.getstatic 87, 3) ∧ decode c33_12 65 = .ok (.iload 4, 2) := by decide +kernel
theorem g33_12_10 : decode c33_12 67 = .ok (.baload, 1) ∧ decode c33_12 68 = .ok (.bastore, 1) ∧ decode c33_12 69 = .ok (.goto (-47), 3) ∧ decode c33_12 72 = .ok (.aload_n 2, 1) := by decide +kernel
abbrev r1_0_0_24 : Room := { frames := 1, cells := 0, slots := 0, locals := 24 }
abbrev Lc_gc_t0_0 (m : Nat) (s1 : Slot) (b : Addr) (e : Nat) (sg : Int32) : Array Slot := #[.val (.int (iM m)), s1, .val (.ref b), .unset, .unset, .val (.int (iN (e + 2))), .val (.int sg)]
abbrev Lc_gc_t0_1 (m : Nat) (s1 : Slot) (b : Addr) (e : Nat) (sg : Int32) : Array Slot := #[.val (.int (iM m)), s1, .val (.ref b), .val (.int (iM (m / 100))), .unset, .val (.int (iN (e + 2))), .val (.int sg)]
abbrev Lc_gc_t0_2 (m : Nat) (s1 : Slot) (b : Addr) (e : Nat) (sg : Int32) : Array Slot := #[.val (.int (iM m)), s1, .val (.ref b), .val (.int (iM (m / 100))), .val (.int (iN (m % 100))), .val (.int (iN (e + 2))), .val (.int sg)]
abbrev Lc_gc_t0_3 (m : Nat) (s1 : Slot) (b : Addr) (e : Nat) (sg : Int32) : Array Slot := #[.val (.int (iM (m / 100))), s1, .val (.ref b), .val (.int (iM (m / 100))), .val (.int (iN (m % 100))), .val (.int (iN (e + 2))), .val (.int sg)]
abbrev Lc_gc_t0_4 (m : Nat) (s1 : Slot) (b : Addr) (e : Nat) (sg : Int32) : Array Slot := #[.val (.int (iM (m / 100))), s1, .val (.ref b), .val (.int (iM (m / 100))), .val (.int (iN (m % 100))), .val (.int ((iN (e + 2)) + (-1 : Int32))), .val (.int sg)]
abbrev Lc_gc_t0_5 (m : Nat) (s1 : Slot) (b : Addr) (e : Nat) (sg : Int32) : Array Slot := #[.val (.int (iM (m / 100))), s1, .val (.ref b), .val (.int (iM (m / 100))), .val (.int (iN (m % 100))), .val (.int (iN (e + 1))), .val (.int sg)]
abbrev Lc_gc_t0_6 (m : Nat) (s1 : Slot) (b : Addr) (e : Nat) (sg : Int32) : Array Slot := #[.val (.int (iM (m / 100))), s1, .val (.ref b), .val (.int (iM (m / 100))), .val (.int (iN (m % 100))), .val (.int ((iN (e + 1)) + (-1 : Int32))), .val (.int sg)]
abbrev Lc_gc_t0_7 (m : Nat) (s1 : Slot) (b : Addr) (e : Nat) (sg : Int32) : Array Slot := #[.val (.int (iM (m / 100))), s1, .val (.ref b), .val (.int (iM (m / 100))), .val (.int (iN (m % 100))), .val (.int (iN e)), .val (.int sg)]
theorem sg_gc_t0 (hw : HW a0 Z) (b : Addr) (k : ClassId) (cap : Nat) (A : List Value) (B : List Value) (m : Nat) (s1 : Slot) (sg : Int32) (da : Addr) (dk : ClassId) (ea : Addr) (ek : ClassId) (C : List Value) (u1 : Value) (u2 : Value) (e : Nat) (cs : Int32) (fo : Value) (h0 : Heap) (n0 : Nat) (G : SG l Z pP eE r1_0_0_24 sS mM aS bS mS cC s₁ lc0 cl0 sl0 h0 n0 jdk_33_method_12_code 7 "java/lang/Integer" 0 0) (V_b : Arv Z h0 b k .byte (iN cap) (A ++ (C ++ [u1, u2]) ++ B) (.int (0 : Int32))) (ne_da_b : @Ne Nat da b) (ne_ea_b : @Ne Nat ea b) (g_b : @LE.le Nat _ n0 b) (hm2 : m ≤ 2147483648) (hge : 100 ≤ m) (he : A.length + C.length = e) (hcap : e + 2 ≤ cap ∧ cap < 1000000) (V_da : Arv Z h0 da dk .byte (100 : Int32) onesL (.int (0 : Int32))) (V_ea : Arv Z h0 ea ek .byte (100 : Int32) tensL (.int (0 : Int32))) (OL : Old Z n0 h0) (SX : Sts Z cs fo da ea) :
    ∃ T' h' L', Stand pP l eE r1_0_0_24 sS mM aS bS mS cC T' L' (cl0 + 0) (sl0 + 0) ∧ T'.heap = h' ∧ Fr n0 L' ∧ Keep h0 h' [b] ∧ Arv Z h' b k .byte (iN cap) (A ++ (C ++ [(.int (iN (48 + m % 100 / 10))), (.int (iN (48 + m % 100 % 10)))]) ++ B) (.int (0 : Int32)) ∧ ∀ t', SS pP eE bS T' (mkF mM 22 #[.val (.int (iM (m / 100))), s1, .val (.ref b), .val (.int (iM (m / 100))), .val (.int (iN (m % 100))), .val (.int (iN e)), .val (.int sg)] []) t' → SS pP eE bS s₁ (mkF mM 22 #[.val (.int (iM m)), s1, .val (.ref b), .unset, .unset, .val (.int (iN (e + 2))), .val (.int sg)] []) t' := by
  obtain ⟨Z0, hx, hj, hml, hZ, hown, X0, e0, N0, hcl, hsl⟩ := id G
  have c101_S_DigitOnes : Sta Z h0 "java/lang/Integer" "DigitOnes" "[B" (.ref da) := Sta.ext OL.2 SX.2.2.2.2.1
  obtain ⟨T102, X102, e102, st102⟩ := getS2 X0 hx hZ hown (host := "") (Or.inl (wi hw 145 rfl)) Via.refl e0 c101_S_DigitOnes (g := (mkF mM 49 (Lc_gc_t0_5 m s1 b e sg) [(.int (iN (e + 1))), (.ref b)])) rfl (hb hj g33_12_7.2.2.2)
  obtain ⟨cl103, Ar103, q103, S103, Ng103, Ha103, Ga103⟩ := id V_da
  have hin103 : ¬ ((iN (m % 100)) < 0 ∨ cl103.slots.size ≤ ((iN (m % 100))).toNatClampNeg) := inb_of S103 ⟨iN_nn (by omega), (iN_lt (a := m % 100) (b := 100) (by omega) (by omega)).mpr (by omega)⟩
  have hat103 : cl103.slots[((iN (m % 100))).toNatClampNeg]? = some (.int (iN (48 + m % 100 % 10))) := Ha103.at hin103 (by rw [iN_nat (by omega)]; exact own_ones (by omega))
  obtain ⟨cl104, Ar104, q104, S104, Ng104, Ha104, Ga104⟩ := id V_b
  have hin104 : ¬ ((iN (e + 1)) < 0 ∨ cl104.slots.size ≤ ((iN (e + 1))).toNatClampNeg) := inb_of S104 ⟨iN_nn (by omega), (iN_lt (by omega) (by omega)).mpr (by omega)⟩
  obtain ⟨T105, h105, X105, e105, W105, st105⟩ := stB X102 hx hZ e102 Ar104 (j := (iN (e + 1))) hin104 (g := (mkF mM 55 (Lc_gc_t0_5 m s1 b e sg) [(.int (iN (48 + m % 100 % 10))), (.int (iN (e + 1))), (.ref b)])) rfl rfl (hb hj g33_12_8.2.2.1)
  have Sz1 : h0.size ≤ h105.size := Nat.le_of_eq (Wr.size W105).symm
  have Vt105 : Arv Z h105 b k .byte (iN cap) (A ++ (C ++ [u1, (.int (iN (48 + m % 100 % 10)))]) ++ B) (.int (0 : Int32)) := by
    have q := Arv.set Ar104 q104 S104 Ng104 Ha104 Ga104 (fits_nar_byte _) W105 (e + 1) (iN_nat (by omega)) (by simp; omega)
    rw [own_b8N (n := 48 + m % 100 % 10) (by omega), own_setq he] at q
    exact q
  have N105 := Fr.snoc X105 N0 g_b
  have c106_OL : Old Z n0 h105 := OL.wr W105 g_b
  have c107_S_DigitTens : Sta Z h105 "java/lang/Integer" "DigitTens" "[B" (.ref ea) := Sta.ext c106_OL.2 SX.2.2.2.2.2
  obtain ⟨T108, X108, e108, st108⟩ := getS2 X105 hx hZ hown (host := "") (Or.inl (wi hw 146 rfl)) Via.refl e105 c107_S_DigitTens (g := (mkF mM 62 (Lc_gc_t0_7 m s1 b e sg) [(.int (iN e)), (.ref b)])) rfl (hb hj g33_12_9.2.2.1)
  have c109_V_ea : Arv Z h105 ea ek .byte (100 : Int32) tensL (.int (0 : Int32)) := V_ea.other W105 ne_ea_b
  obtain ⟨cl110, Ar110, q110, S110, Ng110, Ha110, Ga110⟩ := id c109_V_ea
  have hin110 : ¬ ((iN (m % 100)) < 0 ∨ cl110.slots.size ≤ ((iN (m % 100))).toNatClampNeg) := inb_of S110 ⟨iN_nn (by omega), (iN_lt (a := m % 100) (b := 100) (by omega) (by omega)).mpr (by omega)⟩
  have hat110 : cl110.slots[((iN (m % 100))).toNatClampNeg]? = some (.int (iN (48 + m % 100 / 10))) := Ha110.at hin110 (by rw [iN_nat (by omega)]; exact own_tens (by omega))
  obtain ⟨cl111, Ar111, q111, S111, Ng111, Ha111, Ga111⟩ := id Vt105
  have hin111 : ¬ ((iN e) < 0 ∨ cl111.slots.size ≤ ((iN e)).toNatClampNeg) := inb_of S111 ⟨iN_nn (by omega), (iN_lt (by omega) (by omega)).mpr (by omega)⟩
  obtain ⟨T112, h112, X112, e112, W112, st112⟩ := stB X108 hx hZ e108 Ar111 (j := (iN e)) hin111 (g := (mkF mM 68 (Lc_gc_t0_7 m s1 b e sg) [(.int (iN (48 + m % 100 / 10))), (.int (iN e)), (.ref b)])) rfl rfl (hb hj g33_12_10.2.1)
  have Sz2 : h105.size ≤ h112.size := Nat.le_of_eq (Wr.size W112).symm
  have Vt112 : Arv Z h112 b k .byte (iN cap) (A ++ (C ++ [(.int (iN (48 + m % 100 / 10))), (.int (iN (48 + m % 100 % 10)))]) ++ B) (.int (0 : Int32)) := by
    have q := Arv.set Ar111 q111 S111 Ng111 Ha111 Ga111 (fits_nar_byte _) W112 e (iN_nat (by omega)) (by simp; omega)
    rw [own_b8N (n := 48 + m % 100 / 10) (by omega), own_setp he] at q
    exact q
  have N112 := Fr.snoc X112 N105 g_b
  have K113 : Keep h0 h105 [b] := (Keep.refl h0 [b]).wr W105 (Or.inl (List.mem_of_getElem? (i := 0) rfl))
  have K114 : Keep h0 h112 [b] := K113.wr W112 (Or.inl (List.mem_of_getElem? (i := 0) rfl))
  refine ⟨T112, h112, _, X112, e112, N112, K114, Vt112, fun t' hk' => ?_⟩
  show SS pP eE bS s₁ (mkF mM 22 (Lc_gc_t0_0 m s1 b e sg) []) _
  refine XS.iloadN X0.here hx rfl (hb hj g33_12_3.2.1) rfl ?_
  refine XS.bipush X0.here hx rfl (hb hj g33_12_3.2.2.1) ?_
  refine XS.icmpNo X0.here hx rfl (hb hj g33_12_3.2.2.2) rfl (flt (own_mle hge hm2 : ¬ ((-100 : Int32) < (iM m)))).2.2.1 ?_
  refine XS.iloadN X0.here hx rfl (hb hj g33_12_4.1) rfl ?_
  refine XS.bipush X0.here hx rfl (hb hj g33_12_4.2.1) ?_
  refine XS.idiv X0.here hx rfl (hb hj g33_12_4.2.2.1) rfl (by decide : ¬ ((100 : Int32) = (0 : Int32))) ?_
  show SS pP eE bS s₁ (mkF mM 32 (Lc_gc_t0_0 m s1 b e sg) [(.int ((iM m) / (100 : Int32)))]) _
  rw [show ((iM m) / (100 : Int32)) = (iM (m / 100)) from own_q hm2]
  refine XS.istoreN X0.here hx rfl (hb hj g33_12_4.2.2.2) rfl (l' := (Lc_gc_t0_1 m s1 b e sg)) rfl ?_
  refine XS.iloadN X0.here hx rfl (hb hj g33_12_5.1) rfl ?_
  refine XS.bipush X0.here hx rfl (hb hj g33_12_5.2.1) ?_
  refine XS.imul X0.here hx rfl (hb hj g33_12_5.2.2.1) rfl ?_
  refine XS.iloadN X0.here hx rfl (hb hj g33_12_5.2.2.2) rfl ?_
  refine XS.isub X0.here hx rfl (hb hj g33_12_6.1) rfl ?_
  show SS pP eE bS s₁ (mkF mM 39 (Lc_gc_t0_1 m s1 b e sg) [(.int (((iM (m / 100)) * (100 : Int32)) - (iM m)))]) _
  rw [show (((iM (m / 100)) * (100 : Int32)) - (iM m)) = (iN (m % 100)) from own_r hm2]
  refine XS.istore X0.here hx rfl (hb hj g33_12_6.2.1) rfl (l' := (Lc_gc_t0_2 m s1 b e sg)) rfl ?_
  refine XS.iloadN X0.here hx rfl (hb hj g33_12_6.2.2.1) rfl ?_
  refine XS.istoreN X0.here hx rfl (hb hj g33_12_6.2.2.2) rfl (l' := (Lc_gc_t0_3 m s1 b e sg)) rfl ?_
  refine XS.aloadN X0.here hx rfl (hb hj g33_12_7.1) rfl rfl ?_
  refine XS.iinc X0.here hx rfl (hb hj g33_12_7.2.1) rfl (l' := (Lc_gc_t0_4 m s1 b e sg)) rfl ?_
  show SS pP eE bS s₁ (mkF mM 47 #[.val (.int (iM (m / 100))), s1, .val (.ref b), .val (.int (iM (m / 100))), .val (.int (iN (m % 100))), .val (.int ((iN (e + 2)) + (-1 : Int32))), .val (.int sg)] [(.ref b)]) _
  rw [show ((iN (e + 2)) + (-1 : Int32)) = (iN (e + 1)) from iN_pred (e + 1)]
  refine XS.iload X0.here hx rfl (hb hj g33_12_7.2.2.1) rfl ?_
  refine st102 _ ?_
  refine XS.iload X102.here hx rfl (hb hj g33_12_8.1) rfl ?_
  refine X102.baloadBytes hx (j := (iN (m % 100))) (v := (.int (iN (48 + m % 100 % 10)))) (by rw [e102]; exact Ar103.1) (State.isArrayOf_alike hZ.alike Ar103.2.1) Ar103.2.2 hin103 hat103 (g := (mkF mM 54 (Lc_gc_t0_5 m s1 b e sg) [(.int (iN (m % 100))), (.ref da), (.int (iN (e + 1))), (.ref b)])) rfl rfl (hb hj g33_12_8.2.1) _ ?_
  refine st105 _ ?_
  refine XS.aloadN X105.here hx rfl (hb hj g33_12_8.2.2.2) rfl rfl ?_
  refine XS.iinc X105.here hx rfl (hb hj g33_12_9.1) rfl (l' := (Lc_gc_t0_6 m s1 b e sg)) rfl ?_
  show SS pP eE bS T105 (mkF mM 60 #[.val (.int (iM (m / 100))), s1, .val (.ref b), .val (.int (iM (m / 100))), .val (.int (iN (m % 100))), .val (.int ((iN (e + 1)) + (-1 : Int32))), .val (.int sg)] [(.ref b)]) _
  rw [show ((iN (e + 1)) + (-1 : Int32)) = (iN e) from iN_pred e]
  refine XS.iload X105.here hx rfl (hb hj g33_12_9.2.1) rfl ?_
  refine st108 _ ?_
  refine XS.iload X108.here hx rfl (hb hj g33_12_9.2.2.2) rfl ?_
  refine X108.baloadBytes hx (j := (iN (m % 100))) (v := (.int (iN (48 + m % 100 / 10)))) (by rw [e108]; exact Ar110.1) (State.isArrayOf_alike hZ.alike Ar110.2.1) Ar110.2.2 hin110 hat110 (g := (mkF mM 67 (Lc_gc_t0_7 m s1 b e sg) [(.int (iN (m % 100))), (.ref ea), (.int (iN e)), (.ref b)])) rfl rfl (hb hj g33_12_10.1) _ ?_
  refine st112 _ ?_
  refine XS.goto X112.here hx rfl (pc0 := 69) (pc' := 22) rfl (hb hj g33_12_10.2.2.1) (by decide) (by decide) ?_
  exact hk'
abbrev Lc_gc_t1_0 (m : Nat) (s1 : Slot) (b : Addr) (x3 : Int32) (x4 : Int32) (e : Nat) (sg : Int32) : Array Slot := #[.val (.int (iM m)), s1, .val (.ref b), .val (.int x3), .val (.int x4), .val (.int (iN (e + 2))), .val (.int sg)]
abbrev Lc_gc_t1_1 (m : Nat) (s1 : Slot) (b : Addr) (x4 : Int32) (e : Nat) (sg : Int32) : Array Slot := #[.val (.int (iM m)), s1, .val (.ref b), .val (.int (iM (m / 100))), .val (.int x4), .val (.int (iN (e + 2))), .val (.int sg)]
abbrev Lc_gc_t1_2 (m : Nat) (s1 : Slot) (b : Addr) (e : Nat) (sg : Int32) : Array Slot := #[.val (.int (iM m)), s1, .val (.ref b), .val (.int (iM (m / 100))), .val (.int (iN (m % 100))), .val (.int (iN (e + 2))), .val (.int sg)]
abbrev Lc_gc_t1_3 (m : Nat) (s1 : Slot) (b : Addr) (e : Nat) (sg : Int32) : Array Slot := #[.val (.int (iM (m / 100))), s1, .val (.ref b), .val (.int (iM (m / 100))), .val (.int (iN (m % 100))), .val (.int (iN (e + 2))), .val (.int sg)]
abbrev Lc_gc_t1_4 (m : Nat) (s1 : Slot) (b : Addr) (e : Nat) (sg : Int32) : Array Slot := #[.val (.int (iM (m / 100))), s1, .val (.ref b), .val (.int (iM (m / 100))), .val (.int (iN (m % 100))), .val (.int ((iN (e + 2)) + (-1 : Int32))), .val (.int sg)]
abbrev Lc_gc_t1_5 (m : Nat) (s1 : Slot) (b : Addr) (e : Nat) (sg : Int32) : Array Slot := #[.val (.int (iM (m / 100))), s1, .val (.ref b), .val (.int (iM (m / 100))), .val (.int (iN (m % 100))), .val (.int (iN (e + 1))), .val (.int sg)]
abbrev Lc_gc_t1_6 (m : Nat) (s1 : Slot) (b : Addr) (e : Nat) (sg : Int32) : Array Slot := #[.val (.int (iM (m / 100))), s1, .val (.ref b), .val (.int (iM (m / 100))), .val (.int (iN (m % 100))), .val (.int ((iN (e + 1)) + (-1 : Int32))), .val (.int sg)]
abbrev Lc_gc_t1_7 (m : Nat) (s1 : Slot) (b : Addr) (e : Nat) (sg : Int32) : Array Slot := #[.val (.int (iM (m / 100))), s1, .val (.ref b), .val (.int (iM (m / 100))), .val (.int (iN (m % 100))), .val (.int (iN e)), .val (.int sg)]
theorem sg_gc_t1 (hw : HW a0 Z) (b : Addr) (k : ClassId) (cap : Nat) (A : List Value) (B : List Value) (m : Nat) (s1 : Slot) (sg : Int32) (da : Addr) (dk : ClassId) (ea : Addr) (ek : ClassId) (x3 : Int32) (x4 : Int32) (C : List Value) (u1 : Value) (u2 : Value) (e : Nat) (cs : Int32) (fo : Value) (h0 : Heap) (n0 : Nat) (G : SG l Z pP eE r1_0_0_24 sS mM aS bS mS cC s₁ lc0 cl0 sl0 h0 n0 jdk_33_method_12_code 7 "java/lang/Integer" 0 0) (V_b : Arv Z h0 b k .byte (iN cap) (A ++ (C ++ [u1, u2]) ++ B) (.int (0 : Int32))) (ne_da_b : @Ne Nat da b) (ne_ea_b : @Ne Nat ea b) (g_b : @LE.le Nat _ n0 b) (hm2 : m ≤ 2147483648) (hge : 100 ≤ m) (he : A.length + C.length = e) (hcap : e + 2 ≤ cap ∧ cap < 1000000) (V_da : Arv Z h0 da dk .byte (100 : Int32) onesL (.int (0 : Int32))) (V_ea : Arv Z h0 ea ek .byte (100 : Int32) tensL (.int (0 : Int32))) (OL : Old Z n0 h0) (SX : Sts Z cs fo da ea) :
    ∃ T' h' L', Stand pP l eE r1_0_0_24 sS mM aS bS mS cC T' L' (cl0 + 0) (sl0 + 0) ∧ T'.heap = h' ∧ Fr n0 L' ∧ Keep h0 h' [b] ∧ Arv Z h' b k .byte (iN cap) (A ++ (C ++ [(.int (iN (48 + m % 100 / 10))), (.int (iN (48 + m % 100 % 10)))]) ++ B) (.int (0 : Int32)) ∧ ∀ t', SS pP eE bS T' (mkF mM 22 #[.val (.int (iM (m / 100))), s1, .val (.ref b), .val (.int (iM (m / 100))), .val (.int (iN (m % 100))), .val (.int (iN e)), .val (.int sg)] []) t' → SS pP eE bS s₁ (mkF mM 22 #[.val (.int (iM m)), s1, .val (.ref b), .val (.int x3), .val (.int x4), .val (.int (iN (e + 2))), .val (.int sg)] []) t' := by
  obtain ⟨Z0, hx, hj, hml, hZ, hown, X0, e0, N0, hcl, hsl⟩ := id G
  have c101_S_DigitOnes : Sta Z h0 "java/lang/Integer" "DigitOnes" "[B" (.ref da) := Sta.ext OL.2 SX.2.2.2.2.1
  obtain ⟨T102, X102, e102, st102⟩ := getS2 X0 hx hZ hown (host := "") (Or.inl (wi hw 145 rfl)) Via.refl e0 c101_S_DigitOnes (g := (mkF mM 49 (Lc_gc_t1_5 m s1 b e sg) [(.int (iN (e + 1))), (.ref b)])) rfl (hb hj g33_12_7.2.2.2)
  obtain ⟨cl103, Ar103, q103, S103, Ng103, Ha103, Ga103⟩ := id V_da
  have hin103 : ¬ ((iN (m % 100)) < 0 ∨ cl103.slots.size ≤ ((iN (m % 100))).toNatClampNeg) := inb_of S103 ⟨iN_nn (by omega), (iN_lt (a := m % 100) (b := 100) (by omega) (by omega)).mpr (by omega)⟩
  have hat103 : cl103.slots[((iN (m % 100))).toNatClampNeg]? = some (.int (iN (48 + m % 100 % 10))) := Ha103.at hin103 (by rw [iN_nat (by omega)]; exact own_ones (by omega))
  obtain ⟨cl104, Ar104, q104, S104, Ng104, Ha104, Ga104⟩ := id V_b
  have hin104 : ¬ ((iN (e + 1)) < 0 ∨ cl104.slots.size ≤ ((iN (e + 1))).toNatClampNeg) := inb_of S104 ⟨iN_nn (by omega), (iN_lt (by omega) (by omega)).mpr (by omega)⟩
  obtain ⟨T105, h105, X105, e105, W105, st105⟩ := stB X102 hx hZ e102 Ar104 (j := (iN (e + 1))) hin104 (g := (mkF mM 55 (Lc_gc_t1_5 m s1 b e sg) [(.int (iN (48 + m % 100 % 10))), (.int (iN (e + 1))), (.ref b)])) rfl rfl (hb hj g33_12_8.2.2.1)
  have Sz1 : h0.size ≤ h105.size := Nat.le_of_eq (Wr.size W105).symm
  have Vt105 : Arv Z h105 b k .byte (iN cap) (A ++ (C ++ [u1, (.int (iN (48 + m % 100 % 10)))]) ++ B) (.int (0 : Int32)) := by
    have q := Arv.set Ar104 q104 S104 Ng104 Ha104 Ga104 (fits_nar_byte _) W105 (e + 1) (iN_nat (by omega)) (by simp; omega)
    rw [own_b8N (n := 48 + m % 100 % 10) (by omega), own_setq he] at q
    exact q
  have N105 := Fr.snoc X105 N0 g_b
  have c106_OL : Old Z n0 h105 := OL.wr W105 g_b
  have c107_S_DigitTens : Sta Z h105 "java/lang/Integer" "DigitTens" "[B" (.ref ea) := Sta.ext c106_OL.2 SX.2.2.2.2.2
  obtain ⟨T108, X108, e108, st108⟩ := getS2 X105 hx hZ hown (host := "") (Or.inl (wi hw 146 rfl)) Via.refl e105 c107_S_DigitTens (g := (mkF mM 62 (Lc_gc_t1_7 m s1 b e sg) [(.int (iN e)), (.ref b)])) rfl (hb hj g33_12_9.2.2.1)
  have c109_V_ea : Arv Z h105 ea ek .byte (100 : Int32) tensL (.int (0 : Int32)) := V_ea.other W105 ne_ea_b
  obtain ⟨cl110, Ar110, q110, S110, Ng110, Ha110, Ga110⟩ := id c109_V_ea
  have hin110 : ¬ ((iN (m % 100)) < 0 ∨ cl110.slots.size ≤ ((iN (m % 100))).toNatClampNeg) := inb_of S110 ⟨iN_nn (by omega), (iN_lt (a := m % 100) (b := 100) (by omega) (by omega)).mpr (by omega)⟩
  have hat110 : cl110.slots[((iN (m % 100))).toNatClampNeg]? = some (.int (iN (48 + m % 100 / 10))) := Ha110.at hin110 (by rw [iN_nat (by omega)]; exact own_tens (by omega))
  obtain ⟨cl111, Ar111, q111, S111, Ng111, Ha111, Ga111⟩ := id Vt105
  have hin111 : ¬ ((iN e) < 0 ∨ cl111.slots.size ≤ ((iN e)).toNatClampNeg) := inb_of S111 ⟨iN_nn (by omega), (iN_lt (by omega) (by omega)).mpr (by omega)⟩
  obtain ⟨T112, h112, X112, e112, W112, st112⟩ := stB X108 hx hZ e108 Ar111 (j := (iN e)) hin111 (g := (mkF mM 68 (Lc_gc_t1_7 m s1 b e sg) [(.int (iN (48 + m % 100 / 10))), (.int (iN e)), (.ref b)])) rfl rfl (hb hj g33_12_10.2.1)
  have Sz2 : h105.size ≤ h112.size := Nat.le_of_eq (Wr.size W112).symm
  have Vt112 : Arv Z h112 b k .byte (iN cap) (A ++ (C ++ [(.int (iN (48 + m % 100 / 10))), (.int (iN (48 + m % 100 % 10)))]) ++ B) (.int (0 : Int32)) := by
    have q := Arv.set Ar111 q111 S111 Ng111 Ha111 Ga111 (fits_nar_byte _) W112 e (iN_nat (by omega)) (by simp; omega)
    rw [own_b8N (n := 48 + m % 100 / 10) (by omega), own_setp he] at q
    exact q
  have N112 := Fr.snoc X112 N105 g_b
  have K113 : Keep h0 h105 [b] := (Keep.refl h0 [b]).wr W105 (Or.inl (List.mem_of_getElem? (i := 0) rfl))
  have K114 : Keep h0 h112 [b] := K113.wr W112 (Or.inl (List.mem_of_getElem? (i := 0) rfl))
  refine ⟨T112, h112, _, X112, e112, N112, K114, Vt112, fun t' hk' => ?_⟩
  show SS pP eE bS s₁ (mkF mM 22 (Lc_gc_t1_0 m s1 b x3 x4 e sg) []) _
  refine XS.iloadN X0.here hx rfl (hb hj g33_12_3.2.1) rfl ?_
  refine XS.bipush X0.here hx rfl (hb hj g33_12_3.2.2.1) ?_
  refine XS.icmpNo X0.here hx rfl (hb hj g33_12_3.2.2.2) rfl (flt (own_mle hge hm2 : ¬ ((-100 : Int32) < (iM m)))).2.2.1 ?_
  refine XS.iloadN X0.here hx rfl (hb hj g33_12_4.1) rfl ?_
  refine XS.bipush X0.here hx rfl (hb hj g33_12_4.2.1) ?_
  refine XS.idiv X0.here hx rfl (hb hj g33_12_4.2.2.1) rfl (by decide : ¬ ((100 : Int32) = (0 : Int32))) ?_
  show SS pP eE bS s₁ (mkF mM 32 (Lc_gc_t1_0 m s1 b x3 x4 e sg) [(.int ((iM m) / (100 : Int32)))]) _
  rw [show ((iM m) / (100 : Int32)) = (iM (m / 100)) from own_q hm2]
  refine XS.istoreN X0.here hx rfl (hb hj g33_12_4.2.2.2) rfl (l' := (Lc_gc_t1_1 m s1 b x4 e sg)) rfl ?_
  refine XS.iloadN X0.here hx rfl (hb hj g33_12_5.1) rfl ?_
  refine XS.bipush X0.here hx rfl (hb hj g33_12_5.2.1) ?_
  refine XS.imul X0.here hx rfl (hb hj g33_12_5.2.2.1) rfl ?_
  refine XS.iloadN X0.here hx rfl (hb hj g33_12_5.2.2.2) rfl ?_
  refine XS.isub X0.here hx rfl (hb hj g33_12_6.1) rfl ?_
  show SS pP eE bS s₁ (mkF mM 39 (Lc_gc_t1_1 m s1 b x4 e sg) [(.int (((iM (m / 100)) * (100 : Int32)) - (iM m)))]) _
  rw [show (((iM (m / 100)) * (100 : Int32)) - (iM m)) = (iN (m % 100)) from own_r hm2]
  refine XS.istore X0.here hx rfl (hb hj g33_12_6.2.1) rfl (l' := (Lc_gc_t1_2 m s1 b e sg)) rfl ?_
  refine XS.iloadN X0.here hx rfl (hb hj g33_12_6.2.2.1) rfl ?_
  refine XS.istoreN X0.here hx rfl (hb hj g33_12_6.2.2.2) rfl (l' := (Lc_gc_t1_3 m s1 b e sg)) rfl ?_
  refine XS.aloadN X0.here hx rfl (hb hj g33_12_7.1) rfl rfl ?_
  refine XS.iinc X0.here hx rfl (hb hj g33_12_7.2.1) rfl (l' := (Lc_gc_t1_4 m s1 b e sg)) rfl ?_
  show SS pP eE bS s₁ (mkF mM 47 #[.val (.int (iM (m / 100))), s1, .val (.ref b), .val (.int (iM (m / 100))), .val (.int (iN (m % 100))), .val (.int ((iN (e + 2)) + (-1 : Int32))), .val (.int sg)] [(.ref b)]) _
  rw [show ((iN (e + 2)) + (-1 : Int32)) = (iN (e + 1)) from iN_pred (e + 1)]
  refine XS.iload X0.here hx rfl (hb hj g33_12_7.2.2.1) rfl ?_
  refine st102 _ ?_
  refine XS.iload X102.here hx rfl (hb hj g33_12_8.1) rfl ?_
  refine X102.baloadBytes hx (j := (iN (m % 100))) (v := (.int (iN (48 + m % 100 % 10)))) (by rw [e102]; exact Ar103.1) (State.isArrayOf_alike hZ.alike Ar103.2.1) Ar103.2.2 hin103 hat103 (g := (mkF mM 54 (Lc_gc_t1_5 m s1 b e sg) [(.int (iN (m % 100))), (.ref da), (.int (iN (e + 1))), (.ref b)])) rfl rfl (hb hj g33_12_8.2.1) _ ?_
  refine st105 _ ?_
  refine XS.aloadN X105.here hx rfl (hb hj g33_12_8.2.2.2) rfl rfl ?_
  refine XS.iinc X105.here hx rfl (hb hj g33_12_9.1) rfl (l' := (Lc_gc_t1_6 m s1 b e sg)) rfl ?_
  show SS pP eE bS T105 (mkF mM 60 #[.val (.int (iM (m / 100))), s1, .val (.ref b), .val (.int (iM (m / 100))), .val (.int (iN (m % 100))), .val (.int ((iN (e + 1)) + (-1 : Int32))), .val (.int sg)] [(.ref b)]) _
  rw [show ((iN (e + 1)) + (-1 : Int32)) = (iN e) from iN_pred e]
  refine XS.iload X105.here hx rfl (hb hj g33_12_9.2.1) rfl ?_
  refine st108 _ ?_
  refine XS.iload X108.here hx rfl (hb hj g33_12_9.2.2.2) rfl ?_
  refine X108.baloadBytes hx (j := (iN (m % 100))) (v := (.int (iN (48 + m % 100 / 10)))) (by rw [e108]; exact Ar110.1) (State.isArrayOf_alike hZ.alike Ar110.2.1) Ar110.2.2 hin110 hat110 (g := (mkF mM 67 (Lc_gc_t1_7 m s1 b e sg) [(.int (iN (m % 100))), (.ref ea), (.int (iN e)), (.ref b)])) rfl rfl (hb hj g33_12_10.1) _ ?_
  refine st112 _ ?_
  refine XS.goto X112.here hx rfl (pc0 := 69) (pc' := 22) rfl (hb hj g33_12_10.2.2.1) (by decide) (by decide) ?_
  exact hk'
theorem g33_12_11 : decode c33_12 73 = .ok (.iinc 5 (-1), 3) ∧ decode c33_12 76 = .ok (.iload 5, 2) ∧ decode c33_12 78 = .ok (.getstatic 83, 3) ∧ decode c33_12 81 = .ok (.iload_n 0, 1) := by decide +kernel
theorem g33_12_12 : decode c33_12 82 = .ok (.ineg, 1) ∧ decode c33_12 83 = .ok (.baload, 1) ∧ decode c33_12 84 = .ok (.bastore, 1) ∧ decode c33_12 85 = .ok (.iload_n 0, 1) := by decide +kernel
theorem g33_12_13 : decode c33_12 86 = .ok (.bipush (-9), 2) ∧ decode c33_12 88 = .ok (.if_icmp .ge 16, 3) ∧ decode c33_12 91 = .ok (.aload_n 2, 1) ∧ decode c33_12 92 = .ok (.iinc 5 (-1), 3) := by decide +kernel
abbrev Lc_gc_1_0 (m : Nat) (s1 : Slot) (b : Addr) (s3 : Slot) (s4 : Slot) (e : Nat) (sg : Int32) : Array Slot := #[.val (.int (iM m)), s1, .val (.ref b), s3, s4, .val (.int (iN (e + 1))), .val (.int sg)]
abbrev Lc_gc_1_1 (m : Nat) (s1 : Slot) (b : Addr) (s3 : Slot) (s4 : Slot) (e : Nat) (sg : Int32) : Array Slot := #[.val (.int (iM m)), s1, .val (.ref b), s3, s4, .val (.int ((iN (e + 1)) + (-1 : Int32))), .val (.int sg)]
abbrev Lc_gc_1_2 (m : Nat) (s1 : Slot) (b : Addr) (s3 : Slot) (s4 : Slot) (e : Nat) (sg : Int32) : Array Slot := #[.val (.int (iM m)), s1, .val (.ref b), s3, s4, .val (.int (iN e)), .val (.int sg)]
theorem sg_gc_1 (hw : HW a0 Z) (b : Addr) (k : ClassId) (cap : Nat) (A : List Value) (B : List Value) (m : Nat) (s1 : Slot) (s3 : Slot) (s4 : Slot) (sg : Int32) (da : Addr) (dk : ClassId) (ea : Addr) (ek : ClassId) (u1 : Value) (e : Nat) (cs : Int32) (fo : Value) (h0 : Heap) (n0 : Nat) (G : SG l Z pP eE r1_0_0_24 sS mM aS bS mS cC s₁ lc0 cl0 sl0 h0 n0 jdk_33_method_12_code 7 "java/lang/Integer" 0 0) (V_b : Arv Z h0 b k .byte (iN cap) (A ++ [u1] ++ B) (.int (0 : Int32))) (ne_da_b : @Ne Nat da b) (ne_ea_b : @Ne Nat ea b) (g_b : @LE.le Nat _ n0 b) (hlt : m < 10) (he : A.length = e) (hcap : e + 1 ≤ cap ∧ cap < 1000000) (V_da : Arv Z h0 da dk .byte (100 : Int32) onesL (.int (0 : Int32))) (V_ea : Arv Z h0 ea ek .byte (100 : Int32) tensL (.int (0 : Int32))) (OL : Old Z n0 h0) (SX : Sts Z cs fo da ea) :
    ∃ T' h' L', Stand pP l eE r1_0_0_24 sS mM aS bS mS cC T' L' (cl0 + 0) (sl0 + 0) ∧ T'.heap = h' ∧ Fr n0 L' ∧ Keep h0 h' [b] ∧ Arv Z h' b k .byte (iN cap) (A ++ [(.int (iN (48 + m)))] ++ B) (.int (0 : Int32)) ∧ ∀ t', SS pP eE bS T' (mkF mM 104 #[.val (.int (iM m)), s1, .val (.ref b), s3, s4, .val (.int (iN e)), .val (.int sg)] []) t' → SS pP eE bS s₁ (mkF mM 22 #[.val (.int (iM m)), s1, .val (.ref b), s3, s4, .val (.int (iN (e + 1))), .val (.int sg)] []) t' := by
  obtain ⟨Z0, hx, hj, hml, hZ, hown, X0, e0, N0, hcl, hsl⟩ := id G
  have c101_S_DigitOnes : Sta Z h0 "java/lang/Integer" "DigitOnes" "[B" (.ref da) := Sta.ext OL.2 SX.2.2.2.2.1
  obtain ⟨T102, X102, e102, st102⟩ := getS2 X0 hx hZ hown (host := "") (Or.inl (wi hw 145 rfl)) Via.refl e0 c101_S_DigitOnes (g := (mkF mM 78 (Lc_gc_1_2 m s1 b s3 s4 e sg) [(.int (iN e)), (.ref b)])) rfl (hb hj g33_12_11.2.2.1)
  obtain ⟨cl103, Ar103, q103, S103, Ng103, Ha103, Ga103⟩ := id V_da
  have hin103 : ¬ ((iN m) < 0 ∨ cl103.slots.size ≤ ((iN m)).toNatClampNeg) := inb_of S103 ⟨iN_nn (by omega), (iN_lt (a := m) (b := 100) (by omega) (by omega)).mpr (by omega)⟩
  have hat103 : cl103.slots[((iN m)).toNatClampNeg]? = some (.int (iN (48 + m))) := Ha103.at hin103 (by rw [iN_nat (by omega), own_ones (by omega), Nat.mod_eq_of_lt hlt])
  obtain ⟨cl104, Ar104, q104, S104, Ng104, Ha104, Ga104⟩ := id V_b
  have hin104 : ¬ ((iN e) < 0 ∨ cl104.slots.size ≤ ((iN e)).toNatClampNeg) := inb_of S104 ⟨iN_nn (by omega), (iN_lt (by omega) (by omega)).mpr (by omega)⟩
  obtain ⟨T105, h105, X105, e105, W105, st105⟩ := stB X102 hx hZ e102 Ar104 (j := (iN e)) hin104 (g := (mkF mM 84 (Lc_gc_1_2 m s1 b s3 s4 e sg) [(.int (iN (48 + m))), (.int (iN e)), (.ref b)])) rfl rfl (hb hj g33_12_12.2.2.1)
  have Sz1 : h0.size ≤ h105.size := Nat.le_of_eq (Wr.size W105).symm
  have Vt105 : Arv Z h105 b k .byte (iN cap) (A ++ [(.int (iN (48 + m)))] ++ B) (.int (0 : Int32)) := by
    have q := Arv.set Ar104 q104 S104 Ng104 Ha104 Ga104 (fits_nar_byte _) W105 e (iN_nat (by omega)) (by simp; omega)
    rw [own_b8N (n := 48 + m) (by omega), own_set1 he] at q
    exact q
  have N105 := Fr.snoc X105 N0 g_b
  have K106 : Keep h0 h105 [b] := (Keep.refl h0 [b]).wr W105 (Or.inl (List.mem_of_getElem? (i := 0) rfl))
  refine ⟨T105, h105, _, X105, e105, N105, K106, Vt105, fun t' hk' => ?_⟩
  show SS pP eE bS s₁ (mkF mM 22 (Lc_gc_1_0 m s1 b s3 s4 e sg) []) _
  refine XS.iloadN X0.here hx rfl (hb hj g33_12_3.2.1) rfl ?_
  refine XS.bipush X0.here hx rfl (hb hj g33_12_3.2.2.1) ?_
  refine XS.icmpYes X0.here hx rfl (pc0 := 25) (pc' := 72) rfl (hb hj g33_12_3.2.2.2) rfl (tlt (own_mgt (by omega) : (-100 : Int32) < (iM m))).2.2.1 (by decide) (by decide) ?_
  refine XS.aloadN X0.here hx rfl (hb hj g33_12_10.2.2.2) rfl rfl ?_
  refine XS.iinc X0.here hx rfl (hb hj g33_12_11.1) rfl (l' := (Lc_gc_1_1 m s1 b s3 s4 e sg)) rfl ?_
  show SS pP eE bS s₁ (mkF mM 76 #[.val (.int (iM m)), s1, .val (.ref b), s3, s4, .val (.int ((iN (e + 1)) + (-1 : Int32))), .val (.int sg)] [(.ref b)]) _
  rw [show ((iN (e + 1)) + (-1 : Int32)) = (iN e) from iN_pred e]
  refine XS.iload X0.here hx rfl (hb hj g33_12_11.2.1) rfl ?_
  refine st102 _ ?_
  refine XS.iloadN X102.here hx rfl (hb hj g33_12_11.2.2.2) rfl ?_
  refine XS.ineg X102.here hx rfl (hb hj g33_12_12.1) rfl ?_
  show SS pP eE bS T102 (mkF mM 83 (Lc_gc_1_2 m s1 b s3 s4 e sg) [(.int (-(iM m))), (.ref da), (.int (iN e)), (.ref b)]) _
  rw [show (-(iM m)) = (iN m) from own_mneg (by omega)]
  refine X102.baloadBytes hx (j := (iN m)) (v := (.int (iN (48 + m)))) (by rw [e102]; exact Ar103.1) (State.isArrayOf_alike hZ.alike Ar103.2.1) Ar103.2.2 hin103 hat103 (g := (mkF mM 83 (Lc_gc_1_2 m s1 b s3 s4 e sg) [(.int (iN m)), (.ref da), (.int (iN e)), (.ref b)])) rfl rfl (hb hj g33_12_12.2.1) _ ?_
  refine st105 _ ?_
  refine XS.iloadN X105.here hx rfl (hb hj g33_12_12.2.2.2) rfl ?_
  refine XS.bipush X105.here hx rfl (hb hj g33_12_13.1) ?_
  refine XS.icmpYes X105.here hx rfl (pc0 := 88) (pc' := 104) rfl (hb hj g33_12_13.2.1) rfl (flt (own_m9 hlt : ¬ ((iM m) < (-9 : Int32)))).2.1 (by decide) (by decide) ?_
  exact hk'
theorem g33_12_14 : decode c33_12 95 = .ok (.iload 5, 2) ∧ decode c33_12 97 = .ok (.getstatic 87, 3) ∧ decode c33_12 100 = .ok (.iload_n 0, 1) ∧ decode c33_12 101 = .ok (.ineg, 1) := by decide +kernel
theorem g33_12_15 : decode c33_12 102 = .ok (.baload, 1) ∧ decode c33_12 103 = .ok (.bastore, 1) ∧ decode c33_12 104 = .ok (.iload 6, 2) ∧ decode c33_12 106 = .ok (.ifCond .eq 12, 3) := by decide +kernel
abbrev Lc_gc_2_0 (m : Nat) (s1 : Slot) (b : Addr) (s3 : Slot) (s4 : Slot) (e : Nat) (sg : Int32) : Array Slot := #[.val (.int (iM m)), s1, .val (.ref b), s3, s4, .val (.int (iN (e + 2))), .val (.int sg)]
abbrev Lc_gc_2_1 (m : Nat) (s1 : Slot) (b : Addr) (s3 : Slot) (s4 : Slot) (e : Nat) (sg : Int32) : Array Slot := #[.val (.int (iM m)), s1, .val (.ref b), s3, s4, .val (.int ((iN (e + 2)) + (-1 : Int32))), .val (.int sg)]
abbrev Lc_gc_2_2 (m : Nat) (s1 : Slot) (b : Addr) (s3 : Slot) (s4 : Slot) (e : Nat) (sg : Int32) : Array Slot := #[.val (.int (iM m)), s1, .val (.ref b), s3, s4, .val (.int (iN (e + 1))), .val (.int sg)]
abbrev Lc_gc_2_3 (m : Nat) (s1 : Slot) (b : Addr) (s3 : Slot) (s4 : Slot) (e : Nat) (sg : Int32) : Array Slot := #[.val (.int (iM m)), s1, .val (.ref b), s3, s4, .val (.int ((iN (e + 1)) + (-1 : Int32))), .val (.int sg)]
abbrev Lc_gc_2_4 (m : Nat) (s1 : Slot) (b : Addr) (s3 : Slot) (s4 : Slot) (e : Nat) (sg : Int32) : Array Slot := #[.val (.int (iM m)), s1, .val (.ref b), s3, s4, .val (.int (iN e)), .val (.int sg)]
theorem sg_gc_2 (hw : HW a0 Z) (b : Addr) (k : ClassId) (cap : Nat) (A : List Value) (B : List Value) (m : Nat) (s1 : Slot) (s3 : Slot) (s4 : Slot) (sg : Int32) (da : Addr) (dk : ClassId) (ea : Addr) (ek : ClassId) (u1 : Value) (u2 : Value) (e : Nat) (cs : Int32) (fo : Value) (h0 : Heap) (n0 : Nat) (G : SG l Z pP eE r1_0_0_24 sS mM aS bS mS cC s₁ lc0 cl0 sl0 h0 n0 jdk_33_method_12_code 7 "java/lang/Integer" 0 0) (V_b : Arv Z h0 b k .byte (iN cap) (A ++ ([] ++ [u1, u2]) ++ B) (.int (0 : Int32))) (ne_da_b : @Ne Nat da b) (ne_ea_b : @Ne Nat ea b) (g_b : @LE.le Nat _ n0 b) (hlo : 10 ≤ m) (hlt : m < 100) (he : A.length = e) (hcap : e + 2 ≤ cap ∧ cap < 1000000) (V_da : Arv Z h0 da dk .byte (100 : Int32) onesL (.int (0 : Int32))) (V_ea : Arv Z h0 ea ek .byte (100 : Int32) tensL (.int (0 : Int32))) (OL : Old Z n0 h0) (SX : Sts Z cs fo da ea) :
    ∃ T' h' L', Stand pP l eE r1_0_0_24 sS mM aS bS mS cC T' L' (cl0 + 0) (sl0 + 0) ∧ T'.heap = h' ∧ Fr n0 L' ∧ Keep h0 h' [b] ∧ Arv Z h' b k .byte (iN cap) (A ++ ([] ++ [(.int (iN (48 + m / 10))), (.int (iN (48 + m % 10)))]) ++ B) (.int (0 : Int32)) ∧ ∀ t', SS pP eE bS T' (mkF mM 104 #[.val (.int (iM m)), s1, .val (.ref b), s3, s4, .val (.int (iN e)), .val (.int sg)] []) t' → SS pP eE bS s₁ (mkF mM 22 #[.val (.int (iM m)), s1, .val (.ref b), s3, s4, .val (.int (iN (e + 2))), .val (.int sg)] []) t' := by
  obtain ⟨Z0, hx, hj, hml, hZ, hown, X0, e0, N0, hcl, hsl⟩ := id G
  have c101_S_DigitOnes : Sta Z h0 "java/lang/Integer" "DigitOnes" "[B" (.ref da) := Sta.ext OL.2 SX.2.2.2.2.1
  obtain ⟨T102, X102, e102, st102⟩ := getS2 X0 hx hZ hown (host := "") (Or.inl (wi hw 145 rfl)) Via.refl e0 c101_S_DigitOnes (g := (mkF mM 78 (Lc_gc_2_2 m s1 b s3 s4 e sg) [(.int (iN (e + 1))), (.ref b)])) rfl (hb hj g33_12_11.2.2.1)
  obtain ⟨cl103, Ar103, q103, S103, Ng103, Ha103, Ga103⟩ := id V_da
  have hin103 : ¬ ((iN m) < 0 ∨ cl103.slots.size ≤ ((iN m)).toNatClampNeg) := inb_of S103 ⟨iN_nn (by omega), (iN_lt (a := m) (b := 100) (by omega) (by omega)).mpr (by omega)⟩
  have hat103 : cl103.slots[((iN m)).toNatClampNeg]? = some (.int (iN (48 + m % 10))) := Ha103.at hin103 (by rw [iN_nat (by omega)]; exact own_ones hlt)
  obtain ⟨cl104, Ar104, q104, S104, Ng104, Ha104, Ga104⟩ := id V_b
  have hin104 : ¬ ((iN (e + 1)) < 0 ∨ cl104.slots.size ≤ ((iN (e + 1))).toNatClampNeg) := inb_of S104 ⟨iN_nn (by omega), (iN_lt (by omega) (by omega)).mpr (by omega)⟩
  obtain ⟨T105, h105, X105, e105, W105, st105⟩ := stB X102 hx hZ e102 Ar104 (j := (iN (e + 1))) hin104 (g := (mkF mM 84 (Lc_gc_2_2 m s1 b s3 s4 e sg) [(.int (iN (48 + m % 10))), (.int (iN (e + 1))), (.ref b)])) rfl rfl (hb hj g33_12_12.2.2.1)
  have Sz1 : h0.size ≤ h105.size := Nat.le_of_eq (Wr.size W105).symm
  have Vt105 : Arv Z h105 b k .byte (iN cap) (A ++ ([] ++ [u1, (.int (iN (48 + m % 10)))]) ++ B) (.int (0 : Int32)) := by
    have q := Arv.set Ar104 q104 S104 Ng104 Ha104 Ga104 (fits_nar_byte _) W105 (e + 1) (iN_nat (by omega)) (by simp; omega)
    rw [own_b8N (n := 48 + m % 10) (by omega), own_setq (C := []) (e := e) (by simpa using he)] at q
    exact q
  have N105 := Fr.snoc X105 N0 g_b
  have c106_OL : Old Z n0 h105 := OL.wr W105 g_b
  have c107_S_DigitTens : Sta Z h105 "java/lang/Integer" "DigitTens" "[B" (.ref ea) := Sta.ext c106_OL.2 SX.2.2.2.2.2
  obtain ⟨T108, X108, e108, st108⟩ := getS2 X105 hx hZ hown (host := "") (Or.inl (wi hw 146 rfl)) Via.refl e105 c107_S_DigitTens (g := (mkF mM 97 (Lc_gc_2_4 m s1 b s3 s4 e sg) [(.int (iN e)), (.ref b)])) rfl (hb hj g33_12_14.2.1)
  have c109_V_ea : Arv Z h105 ea ek .byte (100 : Int32) tensL (.int (0 : Int32)) := V_ea.other W105 ne_ea_b
  obtain ⟨cl110, Ar110, q110, S110, Ng110, Ha110, Ga110⟩ := id c109_V_ea
  have hin110 : ¬ ((iN m) < 0 ∨ cl110.slots.size ≤ ((iN m)).toNatClampNeg) := inb_of S110 ⟨iN_nn (by omega), (iN_lt (a := m) (b := 100) (by omega) (by omega)).mpr (by omega)⟩
  have hat110 : cl110.slots[((iN m)).toNatClampNeg]? = some (.int (iN (48 + m / 10))) := Ha110.at hin110 (by rw [iN_nat (by omega)]; exact own_tens hlt)
  obtain ⟨cl111, Ar111, q111, S111, Ng111, Ha111, Ga111⟩ := id Vt105
  have hin111 : ¬ ((iN e) < 0 ∨ cl111.slots.size ≤ ((iN e)).toNatClampNeg) := inb_of S111 ⟨iN_nn (by omega), (iN_lt (by omega) (by omega)).mpr (by omega)⟩
  obtain ⟨T112, h112, X112, e112, W112, st112⟩ := stB X108 hx hZ e108 Ar111 (j := (iN e)) hin111 (g := (mkF mM 103 (Lc_gc_2_4 m s1 b s3 s4 e sg) [(.int (iN (48 + m / 10))), (.int (iN e)), (.ref b)])) rfl rfl (hb hj g33_12_15.2.1)
  have Sz2 : h105.size ≤ h112.size := Nat.le_of_eq (Wr.size W112).symm
  have Vt112 : Arv Z h112 b k .byte (iN cap) (A ++ ([] ++ [(.int (iN (48 + m / 10))), (.int (iN (48 + m % 10)))]) ++ B) (.int (0 : Int32)) := by
    have q := Arv.set Ar111 q111 S111 Ng111 Ha111 Ga111 (fits_nar_byte _) W112 e (iN_nat (by omega)) (by simp; omega)
    rw [own_b8N (n := 48 + m / 10) (by omega), own_setp (C := []) (e := e) (by simpa using he)] at q
    exact q
  have N112 := Fr.snoc X112 N105 g_b
  have K113 : Keep h0 h105 [b] := (Keep.refl h0 [b]).wr W105 (Or.inl (List.mem_of_getElem? (i := 0) rfl))
  have K114 : Keep h0 h112 [b] := K113.wr W112 (Or.inl (List.mem_of_getElem? (i := 0) rfl))
  refine ⟨T112, h112, _, X112, e112, N112, K114, Vt112, fun t' hk' => ?_⟩
  show SS pP eE bS s₁ (mkF mM 22 (Lc_gc_2_0 m s1 b s3 s4 e sg) []) _
  refine XS.iloadN X0.here hx rfl (hb hj g33_12_3.2.1) rfl ?_
  refine XS.bipush X0.here hx rfl (hb hj g33_12_3.2.2.1) ?_
  refine XS.icmpYes X0.here hx rfl (pc0 := 25) (pc' := 72) rfl (hb hj g33_12_3.2.2.2) rfl (tlt (own_mgt hlt : (-100 : Int32) < (iM m))).2.2.1 (by decide) (by decide) ?_
  refine XS.aloadN X0.here hx rfl (hb hj g33_12_10.2.2.2) rfl rfl ?_
  refine XS.iinc X0.here hx rfl (hb hj g33_12_11.1) rfl (l' := (Lc_gc_2_1 m s1 b s3 s4 e sg)) rfl ?_
  show SS pP eE bS s₁ (mkF mM 76 #[.val (.int (iM m)), s1, .val (.ref b), s3, s4, .val (.int ((iN (e + 2)) + (-1 : Int32))), .val (.int sg)] [(.ref b)]) _
  rw [show ((iN (e + 2)) + (-1 : Int32)) = (iN (e + 1)) from iN_pred (e + 1)]
  refine XS.iload X0.here hx rfl (hb hj g33_12_11.2.1) rfl ?_
  refine st102 _ ?_
  refine XS.iloadN X102.here hx rfl (hb hj g33_12_11.2.2.2) rfl ?_
  refine XS.ineg X102.here hx rfl (hb hj g33_12_12.1) rfl ?_
  show SS pP eE bS T102 (mkF mM 83 (Lc_gc_2_2 m s1 b s3 s4 e sg) [(.int (-(iM m))), (.ref da), (.int (iN (e + 1))), (.ref b)]) _
  rw [show (-(iM m)) = (iN m) from own_mneg (by omega)]
  refine X102.baloadBytes hx (j := (iN m)) (v := (.int (iN (48 + m % 10)))) (by rw [e102]; exact Ar103.1) (State.isArrayOf_alike hZ.alike Ar103.2.1) Ar103.2.2 hin103 hat103 (g := (mkF mM 83 (Lc_gc_2_2 m s1 b s3 s4 e sg) [(.int (iN m)), (.ref da), (.int (iN (e + 1))), (.ref b)])) rfl rfl (hb hj g33_12_12.2.1) _ ?_
  refine st105 _ ?_
  refine XS.iloadN X105.here hx rfl (hb hj g33_12_12.2.2.2) rfl ?_
  refine XS.bipush X105.here hx rfl (hb hj g33_12_13.1) ?_
  refine XS.icmpNo X105.here hx rfl (hb hj g33_12_13.2.1) rfl (tlt (own_m9' hlo (by omega) : (iM m) < (-9 : Int32))).2.1 ?_
  refine XS.aloadN X105.here hx rfl (hb hj g33_12_13.2.2.1) rfl rfl ?_
  refine XS.iinc X105.here hx rfl (hb hj g33_12_13.2.2.2) rfl (l' := (Lc_gc_2_3 m s1 b s3 s4 e sg)) rfl ?_
  show SS pP eE bS T105 (mkF mM 95 #[.val (.int (iM m)), s1, .val (.ref b), s3, s4, .val (.int ((iN (e + 1)) + (-1 : Int32))), .val (.int sg)] [(.ref b)]) _
  rw [show ((iN (e + 1)) + (-1 : Int32)) = (iN e) from iN_pred e]
  refine XS.iload X105.here hx rfl (hb hj g33_12_14.1) rfl ?_
  refine st108 _ ?_
  refine XS.iloadN X108.here hx rfl (hb hj g33_12_14.2.2.1) rfl ?_
  refine XS.ineg X108.here hx rfl (hb hj g33_12_14.2.2.2) rfl ?_
  show SS pP eE bS T108 (mkF mM 102 (Lc_gc_2_4 m s1 b s3 s4 e sg) [(.int (-(iM m))), (.ref ea), (.int (iN e)), (.ref b)]) _
  rw [show (-(iM m)) = (iN m) from own_mneg (by omega)]
  refine X108.baloadBytes hx (j := (iN m)) (v := (.int (iN (48 + m / 10)))) (by rw [e108]; exact Ar110.1) (State.isArrayOf_alike hZ.alike Ar110.2.1) Ar110.2.2 hin110 hat110 (g := (mkF mM 102 (Lc_gc_2_4 m s1 b s3 s4 e sg) [(.int (iN m)), (.ref ea), (.int (iN e)), (.ref b)])) rfl rfl (hb hj g33_12_15.1) _ ?_
  refine st112 _ ?_
  exact hk'
theorem sg_gc_l {s₁ : State} {lc0 : List Loc} {cl0 sl0 : Nat} (l : Launch) (Z : State) (a0 : Array Value) (hw : HW a0 Z) (b : Addr) (k : ClassId) (cap : Nat) (A : List Value) (B : List Value) (m : Nat) (s1 : Slot) (s3 : Slot) (s4 : Slot) (sg : Int32) (da : Addr) (dk : ClassId) (ea : Addr) (ek : ClassId) (C : List Value) (e : Nat) (cs : Int32) (fo : Value) (h0 : Heap) (n0 : Nat) (G : SG l Z pP eE r1_0_0_24 sS mM aS bS mS cC s₁ lc0 cl0 sl0 h0 n0 jdk_33_method_12_code 7 "java/lang/Integer" 0 0) (V_b : Arv Z h0 b k .byte (iN cap) (A ++ C ++ B) (.int (0 : Int32))) (ne_da_b : @Ne Nat da b) (ne_ea_b : @Ne Nat ea b) (g_b : @LE.le Nat _ n0 b) (hm2 : m ≤ 2147483648) (hsl4 : (s3 = .unset ∧ s4 = .unset) ∨ ∃ x3 x4 : Int32, s3 = .val (.int x3) ∧ s4 = .val (.int x4)) (hC : C.length = nd m) (he : A.length + C.length = e) (hcap : e ≤ cap ∧ cap < 1000000) (V_da : Arv Z h0 da dk .byte (100 : Int32) onesL (.int (0 : Int32))) (V_ea : Arv Z h0 ea ek .byte (100 : Int32) tensL (.int (0 : Int32))) (OL : Old Z n0 h0) (SX : Sts Z cs fo da ea) :
    ∃ r : Nat, ∃ t3 : Slot, ∃ t4 : Slot, ∃ T' h' L', Stand pP l eE r1_0_0_24 sS mM aS bS mS cC T' L' (cl0 + 0) (sl0 + 0) ∧ T'.heap = h' ∧ Fr n0 L' ∧ Keep h0 h' [b] ∧ Arv Z h' b k .byte (iN cap) (A ++ decM m ++ B) (.int (0 : Int32)) ∧ ∀ t', SS pP eE bS T' (mkF mM 104 #[.val (.int (iM r)), s1, .val (.ref b), t3, t4, .val (.int (iN A.length)), .val (.int sg)] []) t' → SS pP eE bS s₁ (mkF mM 22 #[.val (.int (iM m)), s1, .val (.ref b), s3, s4, .val (.int (iN e)), .val (.int sg)] []) t' := by
  obtain ⟨Z0, hx, hj, hml, hZ, hown, X0, e0, N0, hcl, hsl⟩ := id G
  by_cases h100 : m < 100
  · by_cases h10 : m < 10
    · have e1 : nd m = 1 := by unfold nd; rw [if_pos h10]
      rw [e1] at hC
      obtain ⟨u1, rfl⟩ := List.length_eq_one_iff.mp hC
      obtain rfl : e = A.length + 1 := by simpa using he.symm
      obtain ⟨T', h', L', X', e', N', K', V', st'⟩ := sg_gc_1 l Z a0 hw b k cap A B m s1 s3 s4 sg da dk ea ek u1 A.length cs fo h0 n0 G V_b ne_da_b ne_ea_b g_b h10 rfl hcap V_da V_ea OL SX
      exact ⟨m, s3, s4, T', h', L', X', e', N', K', by rw [decM_one h10]; exact V', st'⟩
    · have e1 : nd m = 2 := by unfold nd; rw [if_neg h10, if_pos h100]
      rw [e1] at hC
      obtain ⟨u1, u2, rfl⟩ := own_len2 hC
      obtain rfl : e = A.length + 2 := by simpa using he.symm
      obtain ⟨T', h', L', X', e', N', K', V', st'⟩ := sg_gc_2 l Z a0 hw b k cap A B m s1 s3 s4 sg da dk ea ek u1 u2 A.length cs fo h0 n0 G V_b ne_da_b ne_ea_b g_b (by omega) h100 rfl hcap V_da V_ea OL SX
      exact ⟨m, s3, s4, T', h', L', X', e', N', K', by rw [decM_two (by omega) h100]; exact V', st'⟩
  · have hn := nd_100 (m := m) (by omega) (by omega)
    obtain ⟨C', u1, u2, rfl⟩ := own_split2 (L := C) (by omega)
    have hC' : C'.length = nd (m / 100) := by simp at hC; omega
    obtain rfl : e = (A.length + C'.length) + 2 := by simp at he; omega
    obtain ⟨T1, h1, L1, X1, e1, N1, K1, V1, st1⟩ : ∃ T1 h1 L1, Stand pP l eE r1_0_0_24 sS mM aS bS mS cC T1 L1 (cl0 + 0) (sl0 + 0) ∧ T1.heap = h1 ∧ Fr n0 L1 ∧ Keep h0 h1 [b] ∧ Arv Z h1 b k .byte (iN cap) (A ++ (C' ++ [(.int (iN (48 + m % 100 / 10))), (.int (iN (48 + m % 100 % 10)))]) ++ B) (.int (0 : Int32)) ∧ ∀ t', SS pP eE bS T1 (mkF mM 22 #[.val (.int (iM (m / 100))), s1, .val (.ref b), .val (.int (iM (m / 100))), .val (.int (iN (m % 100))), .val (.int (iN (A.length + C'.length))), .val (.int sg)] []) t' → SS pP eE bS s₁ (mkF mM 22 #[.val (.int (iM m)), s1, .val (.ref b), s3, s4, .val (.int (iN ((A.length + C'.length) + 2))), .val (.int sg)] []) t' := by
      rcases hsl4 with ⟨rfl, rfl⟩ | ⟨x3, x4, rfl, rfl⟩
      · exact sg_gc_t0 l Z a0 hw b k cap A B m s1 sg da dk ea ek C' u1 u2 (A.length + C'.length) cs fo h0 n0 G V_b ne_da_b ne_ea_b g_b hm2 (by omega) rfl hcap V_da V_ea OL SX
      · exact sg_gc_t1 l Z a0 hw b k cap A B m s1 sg da dk ea ek x3 x4 C' u1 u2 (A.length + C'.length) cs fo h0 n0 G V_b ne_da_b ne_ea_b g_b hm2 (by omega) rfl hcap V_da V_ea OL SX
    have eq1 : (A ++ (C' ++ [(.int (iN (48 + m % 100 / 10))), (.int (iN (48 + m % 100 % 10)))]) ++ B) = (A ++ C' ++ ((.int (iN (48 + m % 100 / 10))) :: (.int (iN (48 + m % 100 % 10))) :: B)) := by simp
    rw [eq1] at V1
    have Sz : h0.size ≤ h1.size := K1.1
    obtain ⟨r, t3, t4, T2, h2, L2, X2, e2, N2, K2, V2, st2⟩ := sg_gc_l l Z a0 hw b k cap A ((.int (iN (48 + m % 100 / 10))) :: (.int (iN (48 + m % 100 % 10))) :: B) (m / 100) s1 (.val (.int (iM (m / 100)))) (.val (.int (iN (m % 100)))) sg da dk ea ek C' (A.length + C'.length) cs fo h1 n0 ⟨by omega, hx, hj, hml, hZ, hown, X1, e1, N1, hcl, hsl⟩ V1 ne_da_b ne_ea_b g_b (by omega) (Or.inr ⟨_, _, rfl, rfl⟩) hC' rfl ⟨by omega, hcap.2⟩ (V_da.keep K1 (ninS ne_da_b nin0)) (V_ea.keep K1 (ninS ne_ea_b nin0)) (OL.keep K1 (allS g_b all0)) SX
    refine ⟨r, t3, t4, T2, h2, L2, X2, e2, N2, K1.trans K2 (allS (Or.inl (List.mem_of_getElem? (i := 0) rfl)) all0), ?_, fun t' hk => st1 _ (st2 _ hk)⟩
    have eq2 : (A ++ decM m ++ B) = (A ++ decM (m / 100) ++ ((.int (iN (48 + m % 100 / 10))) :: (.int (iN (48 + m % 100 % 10))) :: B)) := by rw [decM_100 (by omega) (by omega)]; simp
    rw [eq2]; exact V2
  termination_by m
  decreasing_by omega
def Q_gc (Z : State) (v : Int32) (b : Addr) (k : ClassId) (cap : Nat) (xs : List Value) (h0 : Heap) (n0 : Nat) (xv : Option Value) (xh : Heap) (xL : List Loc) : Prop := ∃ y : Int32, xv = some (.int y) ∧ Fr n0 xL ∧ Keep h0 xh [b] ∧ Arv Z xh b k .byte (iN cap) (xs ++ decV v) (.int (0 : Int32))
theorem g33_12_0 : decode c33_12 0 = .ok (.iload_n 1, 1) ∧ decode c33_12 1 = .ok (.istore 5, 2) ∧ decode c33_12 3 = .ok (.iload_n 0, 1) ∧ decode c33_12 4 = .ok (.ifCond .ge 7, 3) := by decide +kernel
theorem g33_12_1 : decode c33_12 7 = .ok (.iconst 1, 1) ∧ decode c33_12 8 = .ok (.goto 4, 3) ∧ decode c33_12 11 = .ok (.iconst 0, 1) ∧ decode c33_12 12 = .ok (.istore 6, 2) := by decide +kernel
theorem g33_12_2 : decode c33_12 14 = .ok (.iload 6, 2) ∧ decode c33_12 16 = .ok (.ifCond .ne 6, 3) ∧ decode c33_12 19 = .ok (.iload_n 0, 1) ∧ decode c33_12 20 = .ok (.ineg, 1) := by decide +kernel
theorem g33_12_17 : decode c33_12 117 = .ok (.bastore, 1) ∧ decode c33_12 118 = .ok (.iload 5, 2) ∧ decode c33_12 120 = .ok (.ireturn, 1) := by decide +kernel
theorem g33_12_16 : decode c33_12 109 = .ok (.aload_n 2, 1) ∧ decode c33_12 110 = .ok (.iinc 5 (-1), 3) ∧ decode c33_12 113 = .ok (.iload 5, 2) ∧ decode c33_12 115 = .ok (.bipush 45, 2) := by decide +kernel
abbrev y40_ : MethodName := ⟨"java/lang/Integer", "getChars", "(II[B)I"⟩
abbrev Lc_gch_p_0 (v : Int32) (e : Nat) (b : Addr) : Array Slot := #[.val (.int v), .val (.int (iN e)), .val (.ref b), .unset, .unset, .unset, .unset]
abbrev Lc_gch_p_1 (v : Int32) (e : Nat) (b : Addr) : Array Slot := #[.val (.int v), .val (.int (iN e)), .val (.ref b), .unset, .unset, .val (.int (iN e)), .unset]
abbrev Lc_gch_p_2 (v : Int32) (e : Nat) (b : Addr) : Array Slot := #[.val (.int v), .val (.int (iN e)), .val (.ref b), .unset, .unset, .val (.int (iN e)), .val (.int (0 : Int32))]
abbrev Lc_gch_p_3 (v : Int32) (e : Nat) (b : Addr) : Array Slot := #[.val (.int (iM (absN v))), .val (.int (iN e)), .val (.ref b), .unset, .unset, .val (.int (iN e)), .val (.int (0 : Int32))]
theorem ef_gch_p (mM : MethodId) (v : Int32) (b : Addr) (k : ClassId) (cap : Nat) (xs : List Value) (C : List Value) (e : Nat) (da : Addr) (dk : ClassId) (ea : Addr) (ek : ClassId) (cs : Int32) (fo : Value) : entryFrame mM #[(.int v), (.int (iN e)), (.ref b)] 7 = mkF mM 0 #[.val (.int v), .val (.int (iN e)), .val (.ref b), .unset, .unset, .unset, .unset] [] := by
  first | (simp [entryFrame, mkF, argsToLocals, Value.category]; done) | rfl
theorem rm_gch_p (hw : HW a0 Z) (ws : List Jvm.Cond) (v : Int32) (b : Addr) (k : ClassId) (cap : Nat) (xs : List Value) (C : List Value) (e : Nat) (da : Addr) (dk : ClassId) (ea : Addr) (ek : ClassId) (cs : Int32) (fo : Value) (h0 : Heap) (n0 : Nat) (Z0 : n0 ≤ h0.size) (V_b : Arv Z h0 b k .byte (iN cap) (xs ++ C ++ []) (.int (0 : Int32))) (ne_da_b : @Ne Nat da b) (ne_ea_b : @Ne Nat ea b) (g_b : @LE.le Nat _ n0 b) (hv : ¬ (v < (0 : Int32))) (hC : C.length = nd (absN v)) (he : xs.length + C.length = e) (hcap : e ≤ cap ∧ cap < 1000000) (V_da : Arv Z h0 da dk .byte (100 : Int32) onesL (.int (0 : Int32))) (V_ea : Arv Z h0 ea ek .byte (100 : Int32) tensL (.int (0 : Int32))) (OL : Old Z n0 h0) (SX : Sts Z cs fo da ea) :
    MF l y40_ jdk_33_method_12_code 7 (some .int) ws r1_0_0_24 #[(.int v), (.int (iN e)), (.ref b)] Z h0 (Q_gc Z v b k cap xs h0 n0) := by
  refine MetFree.of_bodySF (plainFor_of_name pn_java_lang_Integer) hisR ?_
  intro pP eE sS mM aS bS mS cC s₁ Bd hml0 hP hK
  obtain ⟨rfl, hZ, hh⟩ := hP
  have hx := Bd.exec
  have hj := Bd.bytes
  have hml : cC.maxLocals = 7 := hml0
  have hown : sS.vm.findClass "java/lang/Integer" = some mM.cls := findClass_of_methodNamed Bd.named
  have X0 : Stand pP l eE r1_0_0_24 sS mM _ bS mS cC s₁ [] 0 0 := Stand.of_body Bd
  have e0 : s₁.heap = h0 := by rw [← hh, Bd.state]; rfl
  have N0 := Fr.nil n0
  obtain ⟨r_101, t3_101, t4_101, T101, h101, L101, X101, e101, N101, Kp101, p101_V_b, st101⟩ := sg_gc_l l Z a0 hw b k cap xs [] (absN v) (.val (.int (iN e))) (.unset) (.unset) (0 : Int32) da dk ea ek C e cs fo h0 n0 ⟨by omega, hx, hj, hml, hZ, hown, X0, e0, N0, by decide, by decide⟩ V_b ne_da_b ne_ea_b g_b (absN_le v) (Or.inl ⟨rfl, rfl⟩) hC he hcap V_da V_ea OL SX
  have Sz1 : h0.size ≤ h101.size := Kp101.1
  have Vf : Arv Z h101 b k .byte (iN cap) (xs ++ decV v) (.int (0 : Int32)) := by rw [show xs ++ decV v = (xs ++ decM (absN v) ++ []) from by rw [decV, sgV, if_neg hv]; simp]; exact p101_V_b
  have K102 : Keep h0 h101 [b] := (Keep.refl h0 [b]).trans Kp101 (allS (Or.inl (List.mem_of_getElem? (i := 0) rfl)) all0)
  obtain ⟨fs, hr, hrun, hended, hW, hsame⟩ := X101.leave (v := some (.int (iN xs.length))) (fun h => by rw [Bd.returns] at h; cases h)
  refine ⟨_, _, castTop (ef_gch_p mM v b k cap xs C e da dk ea ek cs fo) ?_, hrun, hended, _, _, rfl, ?_, ⟨_, rfl⟩, hW, hsame.mono (by decide) (by decide)⟩
  · show SS pP eE bS s₁ (mkF mM 0 (Lc_gch_p_0 v e b) []) _
    refine XS.iloadN X0.here hx rfl (hb hj g33_12_0.1) rfl ?_
    refine XS.istore X0.here hx rfl (hb hj g33_12_0.2.1) rfl (l' := (Lc_gch_p_1 v e b)) rfl ?_
    refine XS.iloadN X0.here hx rfl (hb hj g33_12_0.2.2.1) rfl ?_
    refine XS.ifYes X0.here hx rfl (pc0 := 4) (pc' := 11) rfl (hb hj g33_12_0.2.2.2) rfl ((if0 _ _).trans (flt hv).2.1) (by decide) (by decide) ?_
    refine XS.iconst X0.here hx rfl (hb hj g33_12_1.2.2.1) ?_
    refine XS.istore X0.here hx rfl (hb hj g33_12_1.2.2.2) rfl (l' := (Lc_gch_p_2 v e b)) rfl ?_
    refine XS.iload X0.here hx rfl (hb hj g33_12_2.1) rfl ?_
    refine XS.ifNo X0.here hx rfl (hb hj g33_12_2.2.1) rfl ((if0 _ _).trans (teq (by decide : (0 : Int32) = (0 : Int32))).2) ?_
    refine XS.iloadN X0.here hx rfl (hb hj g33_12_2.2.2.1) rfl ?_
    refine XS.ineg X0.here hx rfl (hb hj g33_12_2.2.2.2) rfl ?_
    show SS pP eE bS s₁ (mkF mM 21 (Lc_gch_p_2 v e b) [(.int (-v))]) _
    rw [show (-v) = (iM (absN v)) from iM_of (own_xpos hv) (absN_le v)]
    refine XS.istoreN X0.here hx rfl (hb hj g33_12_3.1) rfl (l' := (Lc_gch_p_3 v e b)) rfl ?_
    refine st101 _ ?_
    refine XS.iload X101.here hx rfl (hb hj g33_12_15.2.2.1) rfl ?_
    refine XS.ifYes X101.here hx rfl (pc0 := 106) (pc' := 118) rfl (hb hj g33_12_15.2.2.2) rfl ((if0 _ _).trans (teq (by decide : (0 : Int32) = (0 : Int32))).1) (by decide) (by decide) ?_
    refine XS.iload X101.here hx rfl (hb hj g33_12_17.2.1) rfl ?_
    exact retI X101 hx Bd.returns (hb hj g33_12_17.2.2) hr
  · show Q_gc Z v b k cap xs h0 n0 _ T101.heap _
    rw [e101]
    exact ⟨(iN xs.length), rfl, N101, K102, Vf⟩
abbrev Lc_gch_n_0 (m : Nat) (e : Nat) (b : Addr) : Array Slot := #[.val (.int (iM m)), .val (.int (iN e)), .val (.ref b), .unset, .unset, .unset, .unset]
abbrev Lc_gch_n_1 (m : Nat) (e : Nat) (b : Addr) : Array Slot := #[.val (.int (iM m)), .val (.int (iN e)), .val (.ref b), .unset, .unset, .val (.int (iN e)), .unset]
abbrev Lc_gch_n_2 (m : Nat) (e : Nat) (b : Addr) : Array Slot := #[.val (.int (iM m)), .val (.int (iN e)), .val (.ref b), .unset, .unset, .val (.int (iN e)), .val (.int (1 : Int32))]
abbrev Lc_gch_n_3 (r_101 : Nat) (e : Nat) (b : Addr) (t3_101 : Slot) (t4_101 : Slot) (xs : List Value) (u : Value) : Array Slot := #[.val (.int (iM r_101)), .val (.int (iN e)), .val (.ref b), t3_101, t4_101, .val (.int ((iN (xs ++ [u]).length) + (-1 : Int32))), .val (.int (1 : Int32))]
abbrev Lc_gch_n_4 (r_101 : Nat) (e : Nat) (b : Addr) (t3_101 : Slot) (t4_101 : Slot) (xs : List Value) : Array Slot := #[.val (.int (iM r_101)), .val (.int (iN e)), .val (.ref b), t3_101, t4_101, .val (.int (iN xs.length)), .val (.int (1 : Int32))]
theorem ef_gch_n (mM : MethodId) (m : Nat) (b : Addr) (k : ClassId) (cap : Nat) (xs : List Value) (u : Value) (C : List Value) (e : Nat) (da : Addr) (dk : ClassId) (ea : Addr) (ek : ClassId) (cs : Int32) (fo : Value) : entryFrame mM #[(.int (iM m)), (.int (iN e)), (.ref b)] 7 = mkF mM 0 #[.val (.int (iM m)), .val (.int (iN e)), .val (.ref b), .unset, .unset, .unset, .unset] [] := by
  first | (simp [entryFrame, mkF, argsToLocals, Value.category]; done) | rfl
theorem rm_gch_n (hw : HW a0 Z) (ws : List Jvm.Cond) (m : Nat) (b : Addr) (k : ClassId) (cap : Nat) (xs : List Value) (u : Value) (C : List Value) (e : Nat) (da : Addr) (dk : ClassId) (ea : Addr) (ek : ClassId) (cs : Int32) (fo : Value) (h0 : Heap) (n0 : Nat) (Z0 : n0 ≤ h0.size) (V_b : Arv Z h0 b k .byte (iN cap) ((xs ++ [u]) ++ C ++ []) (.int (0 : Int32))) (ne_da_b : @Ne Nat da b) (ne_ea_b : @Ne Nat ea b) (g_b : @LE.le Nat _ n0 b) (hm2 : m ≤ 2147483648) (hv : (iM m) < (0 : Int32)) (hC : C.length = nd m) (he : (xs ++ [u]).length + C.length = e) (hcap : e ≤ cap ∧ cap < 1000000) (V_da : Arv Z h0 da dk .byte (100 : Int32) onesL (.int (0 : Int32))) (V_ea : Arv Z h0 ea ek .byte (100 : Int32) tensL (.int (0 : Int32))) (OL : Old Z n0 h0) (SX : Sts Z cs fo da ea) :
    MF l y40_ jdk_33_method_12_code 7 (some .int) ws r1_0_0_24 #[(.int (iM m)), (.int (iN e)), (.ref b)] Z h0 (Q_gc Z (iM m) b k cap xs h0 n0) := by
  refine MetFree.of_bodySF (plainFor_of_name pn_java_lang_Integer) hisR ?_
  intro pP eE sS mM aS bS mS cC s₁ Bd hml0 hP hK
  obtain ⟨rfl, hZ, hh⟩ := hP
  have hx := Bd.exec
  have hj := Bd.bytes
  have hml : cC.maxLocals = 7 := hml0
  have hown : sS.vm.findClass "java/lang/Integer" = some mM.cls := findClass_of_methodNamed Bd.named
  have X0 : Stand pP l eE r1_0_0_24 sS mM _ bS mS cC s₁ [] 0 0 := Stand.of_body Bd
  have e0 : s₁.heap = h0 := by rw [← hh, Bd.state]; rfl
  have N0 := Fr.nil n0
  have hxu : (xs ++ [u]).length = xs.length + 1 := by simp
  obtain ⟨r_101, t3_101, t4_101, T101, h101, L101, X101, e101, N101, Kp101, p101_V_b, st101⟩ := sg_gc_l l Z a0 hw b k cap (xs ++ [u]) [] m (.val (.int (iN e))) (.unset) (.unset) (1 : Int32) da dk ea ek C e cs fo h0 n0 ⟨by omega, hx, hj, hml, hZ, hown, X0, e0, N0, by decide, by decide⟩ V_b ne_da_b ne_ea_b g_b hm2 (Or.inl ⟨rfl, rfl⟩) hC he hcap V_da V_ea OL SX
  have Sz1 : h0.size ≤ h101.size := Kp101.1
  obtain ⟨cl102, Ar102, q102, S102, Ng102, Ha102, Ga102⟩ := id p101_V_b
  have hin102 : ¬ ((iN xs.length) < 0 ∨ cl102.slots.size ≤ ((iN xs.length)).toNatClampNeg) := inb_of S102 ⟨iN_nn (by omega), (iN_lt (by omega) (by omega)).mpr (by omega)⟩
  obtain ⟨T103, h103, X103, e103, W103, st103⟩ := stB X101 hx hZ e101 Ar102 (j := (iN xs.length)) hin102 (g := (mkF mM 117 (Lc_gch_n_4 r_101 e b t3_101 t4_101 xs) [(.int (45 : Int32)), (.int (iN xs.length)), (.ref b)])) rfl rfl (hb hj g33_12_17.1)
  have Sz2 : h101.size ≤ h103.size := Nat.le_of_eq (Wr.size W103).symm
  have Vt103 : Arv Z h103 b k .byte (iN cap) ((xs ++ [(.int (45 : Int32))]) ++ decM m ++ []) (.int (0 : Int32)) := by
    have q := Arv.set Ar102 q102 S102 Ng102 Ha102 Ga102 (fits_nar_byte _) W103 xs.length (iN_nat (by omega)) (by simp)
    rw [own_set45] at q
    exact q
  have N103 := Fr.snoc X103 N101 g_b
  have Vf : Arv Z h103 b k .byte (iN cap) (xs ++ decV (iM m)) (.int (0 : Int32)) := by rw [show xs ++ decV (iM m) = ((xs ++ [(.int (45 : Int32))]) ++ decM m ++ []) from by rw [decV, sgV, if_pos hv, own_absM hm2]; simp]; exact Vt103
  have K104 : Keep h0 h101 [b] := (Keep.refl h0 [b]).trans Kp101 (allS (Or.inl (List.mem_of_getElem? (i := 0) rfl)) all0)
  have K105 : Keep h0 h103 [b] := K104.wr W103 (Or.inl (List.mem_of_getElem? (i := 0) rfl))
  obtain ⟨fs, hr, hrun, hended, hW, hsame⟩ := X103.leave (v := some (.int (iN xs.length))) (fun h => by rw [Bd.returns] at h; cases h)
  refine ⟨_, _, castTop (ef_gch_n mM m b k cap xs u C e da dk ea ek cs fo) ?_, hrun, hended, _, _, rfl, ?_, ⟨_, rfl⟩, hW, hsame.mono (by decide) (by decide)⟩
  · show SS pP eE bS s₁ (mkF mM 0 (Lc_gch_n_0 m e b) []) _
    refine XS.iloadN X0.here hx rfl (hb hj g33_12_0.1) rfl ?_
    refine XS.istore X0.here hx rfl (hb hj g33_12_0.2.1) rfl (l' := (Lc_gch_n_1 m e b)) rfl ?_
    refine XS.iloadN X0.here hx rfl (hb hj g33_12_0.2.2.1) rfl ?_
    refine XS.ifNo X0.here hx rfl (hb hj g33_12_0.2.2.2) rfl ((if0 _ _).trans (tlt hv).2.1) ?_
    refine XS.iconst X0.here hx rfl (hb hj g33_12_1.1) ?_
    refine XS.goto X0.here hx rfl (pc0 := 8) (pc' := 12) rfl (hb hj g33_12_1.2.1) (by decide) (by decide) ?_
    refine XS.istore X0.here hx rfl (hb hj g33_12_1.2.2.2) rfl (l' := (Lc_gch_n_2 m e b)) rfl ?_
    refine XS.iload X0.here hx rfl (hb hj g33_12_2.1) rfl ?_
    refine XS.ifYes X0.here hx rfl (pc0 := 16) (pc' := 22) rfl (hb hj g33_12_2.2.1) rfl ((if0 _ _).trans (feq (by decide : ¬ ((1 : Int32) = (0 : Int32)))).2) (by decide) (by decide) ?_
    refine st101 _ ?_
    refine XS.iload X101.here hx rfl (hb hj g33_12_15.2.2.1) rfl ?_
    refine XS.ifNo X101.here hx rfl (hb hj g33_12_15.2.2.2) rfl ((if0 _ _).trans (feq (by decide : ¬ ((1 : Int32) = (0 : Int32)))).1) ?_
    refine XS.aloadN X101.here hx rfl (hb hj g33_12_16.1) rfl rfl ?_
    refine XS.iinc X101.here hx rfl (hb hj g33_12_16.2.1) rfl (l' := (Lc_gch_n_3 r_101 e b t3_101 t4_101 xs u)) rfl ?_
    show SS pP eE bS T101 (mkF mM 113 #[.val (.int (iM r_101)), .val (.int (iN e)), .val (.ref b), t3_101, t4_101, .val (.int ((iN (xs ++ [u]).length) + (-1 : Int32))), .val (.int (1 : Int32))] [(.ref b)]) _
    rw [show ((iN (xs ++ [u]).length) + (-1 : Int32)) = (iN xs.length) from by rw [List.length_append]; exact iN_pred _]
    refine XS.iload X101.here hx rfl (hb hj g33_12_16.2.2.1) rfl ?_
    refine XS.bipush X101.here hx rfl (hb hj g33_12_16.2.2.2) ?_
    refine st103 _ ?_
    refine XS.iload X103.here hx rfl (hb hj g33_12_17.2.1) rfl ?_
    exact retI X103 hx Bd.returns (hb hj g33_12_17.2.2) hr
  · show Q_gc Z (iM m) b k cap xs h0 n0 _ T103.heap _
    rw [e103]
    exact ⟨(iN xs.length), rfl, N103, K105, Vf⟩
theorem rm_gch (hw : HW a0 Z) (ws : List Jvm.Cond) (v : Int32) (b : Addr) (k : ClassId) (cap : Nat) (xs : List Value) (W : List Value) (e : Nat) (da : Addr) (dk : ClassId) (ea : Addr) (ek : ClassId) (cs : Int32) (fo : Value) (h0 : Heap) (n0 : Nat) (Z0 : n0 ≤ h0.size) (V_b : Arv Z h0 b k .byte (iN cap) (xs ++ W) (.int (0 : Int32))) (ne_da_b : @Ne Nat da b) (ne_ea_b : @Ne Nat ea b) (g_b : @LE.le Nat _ n0 b) (hW : W.length = wd v) (he : xs.length + W.length = e) (hcap : e ≤ cap ∧ cap < 1000000) (V_da : Arv Z h0 da dk .byte (100 : Int32) onesL (.int (0 : Int32))) (V_ea : Arv Z h0 ea ek .byte (100 : Int32) tensL (.int (0 : Int32))) (OL : Old Z n0 h0) (SX : Sts Z cs fo da ea) :
    MF l y40_ jdk_33_method_12_code 7 (some .int) ws r1_0_0_24 #[(.int v), (.int (iN e)), (.ref b)] Z h0 (Q_gc Z v b k cap xs h0 n0) := by
  by_cases hv : v < (0 : Int32)
  · have hm2 := absN_le v
    have ev := iM_of (own_xneg hv) hm2
    have hw1 := own_wd1 hv
    obtain ⟨u, C, rfl⟩ : ∃ u C, W = u :: C := by
      match W, hW with
      | [], q => simp at q; omega
      | u :: C, _ => exact ⟨u, C, rfl⟩
    have V2 : Arv Z h0 b k .byte (iN cap) ((xs ++ [u]) ++ C ++ []) (.int (0 : Int32)) := by simpa using V_b
    generalize absN v = m at *
    subst ev
    exact rm_gch_n l Z a0 hw ws m b k cap xs u C e da dk ea ek cs fo h0 n0 Z0 (V2) ne_da_b ne_ea_b g_b hm2 hv (by rw [List.length_cons] at hW; omega) (by rw [List.length_cons] at he; rw [List.length_append]; show xs.length + 1 + _ = _; omega) hcap V_da V_ea OL SX
  · have V2 : Arv Z h0 b k .byte (iN cap) (xs ++ W ++ []) (.int (0 : Int32)) := by simpa using V_b
    have hw0 := own_wd0 hv
    exact rm_gch_p l Z a0 hw ws v b k cap xs W e da dk ea ek cs fo h0 n0 Z0 (V2) ne_da_b ne_ea_b g_b hv (by omega) he hcap V_da V_ea OL SX
abbrev c68_32 := jdk_68_method_32_code
theorem g68_32_0 : decode c68_32 0 = .ok (.aload_n 0, 1) ∧ decode c68_32 1 = .ok (.getfield 79, 3) ∧ decode c68_32 4 = .ok (.istore_n 2, 1) ∧ decode c68_32 5 = .ok (.iload_n 2, 1) := by decide +kernel
theorem g68_32_1 : decode c68_32 6 = .ok (.iload_n 1, 1) ∧ decode c68_32 7 = .ok (.invokestatic 245, 3) ∧ decode c68_32 10 = .ok (.iadd, 1) ∧ decode c68_32 11 = .ok (.istore_n 3, 1) := by decide +kernel
theorem g68_32_2 : decode c68_32 12 = .ok (.aload_n 0, 1) ∧ decode c68_32 13 = .ok (.iload_n 3, 1) ∧ decode c68_32 14 = .ok (.invokevirtual 100, 3) ∧ decode c68_32 17 = .ok (.aload_n 0, 1) := by decide +kernel
theorem g68_32_3 : decode c68_32 18 = .ok (.invokevirtual 83, 3) ∧ decode c68_32 21 = .ok (.ifCond .eq 16, 3) ∧ decode c68_32 24 = .ok (.iload_n 1, 1) ∧ decode c68_32 25 = .ok (.iload_n 3, 1) := by decide +kernel
theorem g68_32_4 : decode c68_32 26 = .ok (.aload_n 0, 1) ∧ decode c68_32 27 = .ok (.getfield 15, 3) ∧ decode c68_32 30 = .ok (.invokestatic 248, 3) ∧ decode c68_32 33 = .ok (.pop, 1) := by decide +kernel
theorem pd_22 : parseMethodDescriptor "(II[B)I" = some ⟨[.int, .int, (.array .byte)], some .int⟩ := by decide +kernel
theorem g68_32_5 : decode c68_32 34 = .ok (.goto 14, 3) ∧ decode c68_32 48 = .ok (.aload_n 0, 1) ∧ decode c68_32 49 = .ok (.iload_n 3, 1) ∧ decode c68_32 50 = .ok (.putfield 79, 3) := by decide +kernel
theorem g68_32_6 : decode c68_32 53 = .ok (.aload_n 0, 1) ∧ decode c68_32 54 = .ok (.areturn, 1) := by decide +kernel
abbrev y41_ : MethodName := ⟨"java/lang/AbstractStringBuilder", "append", "(I)Ljava/lang/AbstractStringBuilder;"⟩
def Q_appI (Z : State) (o : Addr) (v : Int32) (b : Addr) (k : ClassId) (cap : Nat) (n : Nat) (xs : List Value) (da : Addr) (dk : ClassId) (ea : Addr) (ek : ClassId) (cs : Int32) (fo : Value) (h0 : Heap) (n0 : Nat) (xv : Option Value) (xh : Heap) (xL : List Loc) : Prop := ∃ b2 : Addr, ∃ k2 : ClassId, xv = some (.ref o) ∧ Fr n0 xL ∧ Keep h0 xh [o, b] ∧ Exa Z xh o "java/lang/StringBuilder" ∧ Fld Z xh o "java/lang/AbstractStringBuilder" "value" "[B" (.ref b2) ∧ Fld Z xh o "java/lang/AbstractStringBuilder" "coder" "B" (.int (0 : Int32)) ∧ Fld Z xh o "java/lang/AbstractStringBuilder" "count" "I" (.int (iN (n + wd v))) ∧ Arv Z xh b2 k2 .byte (iN (ncap cap (n + wd v))) (xs ++ decV v) (.int (0 : Int32)) ∧ (@Eq Nat b2 b ∨ @LE.le Nat _ h0.size b2) ∧ @Ne Nat o b2 ∧ @LE.le Nat _ n0 b2 ∧ Exa Z xh b2 "[B"
abbrev Lc_appI_0 (o : Addr) (v : Int32) (n : Nat) : Array Slot := #[.val (.ref o), .val (.int v), .val (.int (iN n)), .val (.int (iN (n + wd v)))]
theorem ef_appI (mM : MethodId) (o : Addr) (v : Int32) (b : Addr) (k : ClassId) (cap : Nat) (n : Nat) (xs : List Value) (da : Addr) (dk : ClassId) (ea : Addr) (ek : ClassId) (cs : Int32) (fo : Value) : entryFrame mM #[(.ref o), (.int v)] 4 = mkF mM 0 #[.val (.ref o), .val (.int v), .unset, .unset] [] := by
  first | (simp [entryFrame, mkF, argsToLocals, Value.category]; done) | rfl
theorem rm_appI (hw : HW a0 Z) (ws : List Jvm.Cond) (o : Addr) (v : Int32) (b : Addr) (k : ClassId) (cap : Nat) (n : Nat) (xs : List Value) (da : Addr) (dk : ClassId) (ea : Addr) (ek : ClassId) (cs : Int32) (fo : Value) (h0 : Heap) (n0 : Nat) (Z0 : n0 ≤ h0.size) (E_o : Exa Z h0 o "java/lang/StringBuilder") (F_value_o : Fld Z h0 o "java/lang/AbstractStringBuilder" "value" "[B" (.ref b)) (F_coder_o : Fld Z h0 o "java/lang/AbstractStringBuilder" "coder" "B" (.int (0 : Int32))) (F_count_o : Fld Z h0 o "java/lang/AbstractStringBuilder" "count" "I" (.int (iN n))) (V_b : Arv Z h0 b k .byte (iN cap) xs (.int (0 : Int32))) (ne_o_b : @Ne Nat o b) (g_o : @LE.le Nat _ n0 o) (g_b : @LE.le Nat _ n0 b) (hn : xs.length = n) (hE : ncap cap (n + wd v) ≤ 128 ∧ cap ≤ 128 ∧ n ≤ cap) (E_b : Exa Z h0 b "[B") (V_da : Arv Z h0 da dk .byte (100 : Int32) onesL (.int (0 : Int32))) (V_ea : Arv Z h0 ea ek .byte (100 : Int32) tensL (.int (0 : Int32))) (hda : @LT.lt Nat _ da n0) (hea : @LT.lt Nat _ ea n0) (OL : Old Z n0 h0) (SX : Sts Z cs fo da ea) :
    MF l y41_ jdk_68_method_32_code 4 (some (.object "java/lang/AbstractStringBuilder")) ws r4_1_128_62 #[(.ref o), (.int v)] Z h0 (Q_appI Z o v b k cap n xs da dk ea ek cs fo h0 n0) := by
  refine MetFree.of_bodySF (plainFor_of_name pn_java_lang_AbstractStringBuilder) hisR ?_
  intro pP eE sS mM aS bS mS cC s₁ Bd hml0 hP hK
  obtain ⟨rfl, hZ, hh⟩ := hP
  have hx := Bd.exec
  have hj := Bd.bytes
  have hml : cC.maxLocals = 4 := hml0
  have hown : sS.vm.findClass "java/lang/AbstractStringBuilder" = some mM.cls := findClass_of_methodNamed Bd.named
  have X0 : Stand pP l eE r4_1_128_62 sS mM _ bS mS cC s₁ [] 0 0 := Stand.of_body Bd
  have e0 : s₁.heap = h0 := by rw [← hh, Bd.state]; rfl
  have N0 := Fr.nil n0
  obtain ⟨T101, X101, e101, st101⟩ := getF X0 hx hZ hown (host := "") (Or.inl (wi hw 74 rfl)) Via.refl e0 F_count_o (g := (mkF mM 1 #[.val (.ref o), .val (.int v), .unset, .unset] [(.ref o)])) rfl rfl (hb hj g68_32_0.2.1)
  obtain ⟨_, _, ⟨T102, L102, k102, n102⟩, -, X102, ⟨Lc102, hQ102, l102, y102, z102⟩, st102⟩ := Jvm.LawKit.callS X101 hx (y := y37_) hown (mvT hZ (wi hw 110 rfl)) (mvT hZ (wi hw 111 rfl)) (mvT hZ (wi hw 112 rfl)) (mvT hZ (wi hw 113 rfl)) (by decide) (backOf (W := 1) (rm_ss l Z a0 hw [] v h0 n0 (by omega) ) hZ (wi hw 113 rfl) (wi hw 112 rfl) (by decide) (by decide)) (g := (mkF mM 7 #[.val (.ref o), .val (.int v), .val (.int (iN n)), .unset] [(.int v), (.int (iN n))])) rfl hml.symm (argsL := [(.int v)]) (rest := [(.int (iN n))]) (lenOf pd_17 rfl) rfl (W0 rfl) (hb hj g68_32_1.2.1) (fun _ _ => ⟨rfl, e101, ble rfl, ble rfl⟩)
  dsimp only [Pt.U, Pt.locs, Pt.cells, Pt.slots] at X102 l102 y102 z102 st102 hQ102
  subst y102 z102
  obtain ⟨h102, e102⟩ : ∃ z, T102.heap = z := ⟨_, rfl⟩
  rw [e102] at hQ102
  obtain ⟨rfl, N102q, eq102⟩ := hQ102
  rw [eq102] at e102
  have N102 : Fr n0 L102 := by rw [l102]; exact Fr.app N0 N102q
  obtain ⟨cq103, kq103, q103a, q103b, q103c⟩ := isOf hZ e102 E_o
  obtain ⟨_, _, ⟨T103, L103, k103, n103⟩, -, X103, ⟨Lc103, hQ103, l103, y103, z103⟩, st103⟩ := X102.virtualBack hx (y := y12_) (z := y12_) hown (mvT hZ (wi hw 76 rfl)) (mvT hZ (own_decl (wi hw 77 rfl) (wi hw 80 rfl))) (notFace_of_selects (args := #[]) (mvT hZ (wi hw 79 rfl))) (mvT hZ (wi hw 79 rfl)) (mvT hZ (wi hw 77 rfl)) (by decide) (backOf (W := 0) (rm_ensJ l Z a0 hw [] o b k cap xs (n + wd v) (.int (iN n)) h0 n0 (by omega) E_o F_value_o F_coder_o F_count_o V_b ne_o_b g_o g_b E_b (⟨hE.1, hE.2.1, by omega⟩)) hZ (wi hw 80 rfl) (wi hw 45 rfl) (by decide) (by decide)) q103a q103c (g := (mkF mM 14 (Lc_appI_0 o v n) [(.int (iN (n + wd v))), (.ref o)])) rfl hml.symm (Steps.refl _) (argsL := [(.int (iN (n + wd v)))]) (rest := []) (lenOf pd_6 rfl) rfl (W0 rfl) (hb hj g68_32_2.2.2.1) (fun _ _ => ⟨rfl, e102, ble rfl, ble rfl⟩)
  dsimp only [Pt.U, Pt.locs, Pt.cells, Pt.slots] at X103 l103 y103 z103 st103 hQ103
  subst y103 z103
  obtain ⟨h103, e103⟩ : ∃ z, T103.heap = z := ⟨_, rfl⟩
  rw [e103] at hQ103
  obtain ⟨b2_103, k2_103, rfl, N103q, Kp103, p103_E_o, p103_F_value_o, p103_F_coder_o, p103_F_count_o, p103_V_b2, p103_hor, p103_hob, p103_hgb, p103_E_b2⟩ := hQ103
  have Sz1 : h0.size ≤ h103.size := Kp103.1
  have N103 : Fr n0 L103 := by rw [l103]; exact Fr.app N102 N103q
  have c105_OL : Old Z n0 h103 := OL.keep Kp103 (allS g_o all0)
  obtain ⟨cq104, kq104, q104a, q104b, q104c⟩ := isOf hZ e103 p103_E_o
  obtain ⟨_, _, ⟨T104, L104, k104, n104⟩, -, X104, ⟨Lc104, hQ104, l104, y104, z104⟩, st104⟩ := X103.virtualBack hx (y := y15_) (z := y15_) hown (mvT hZ (wi hw 137 rfl)) (mvT hZ (wi hw 138 rfl)) (notFace_of_selects (args := #[]) (mvT hZ (wi hw 140 rfl))) (mvT hZ (wi hw 140 rfl)) (mvT hZ (wi hw 139 rfl)) (by decide) (backOf (W := 0) (rm_asb_latin l Z a0 hw [] o cs fo da ea h103 n0 (by omega) p103_F_coder_o c105_OL SX) hZ (wi hw 141 rfl) (wi hw 45 rfl) (by decide) (by decide)) q104a q104c (g := (mkF mM 18 (Lc_appI_0 o v n) [(.ref o)])) rfl hml.symm (Steps.refl _) (argsL := []) (rest := []) (lenOf pd_21 rfl) rfl (W0 rfl) (hb hj g68_32_3.1) (fun _ _ => ⟨rfl, e103, ble rfl, ble rfl⟩)
  dsimp only [Pt.U, Pt.locs, Pt.cells, Pt.slots] at X104 l104 y104 z104 st104 hQ104
  subst y104 z104
  obtain ⟨h104, e104⟩ : ∃ z, T104.heap = z := ⟨_, rfl⟩
  rw [e104] at hQ104
  obtain ⟨rfl, N104q, eq104⟩ := hQ104
  rw [eq104] at e104
  have N104 : Fr n0 L104 := by rw [l104]; exact Fr.app N103 N104q
  obtain ⟨T106, X106, e106, st106⟩ := getF X104 hx hZ hown (host := "") (Or.inl (wi hw 49 rfl)) Via.refl e104 p103_F_value_o (g := (mkF mM 27 (Lc_appI_0 o v n) [(.ref o), (.int (iN (n + wd v))), (.int v)])) rfl rfl (hb hj g68_32_4.2.1)
  have Vpd : Arv Z h103 b2_103 k2_103 .byte (iN (ncap cap (n + wd v))) (xs ++ (List.replicate (wd v) (.int (0 : Int32)))) (.int (0 : Int32)) := p103_V_b2.pad (pad_rep xs (.int (0 : Int32)) (wd v))
  have lt_o : @LT.lt Nat _ o h0.size := E_o.lt
  have lt_da : @LT.lt Nat _ da h0.size := V_da.lt
  have ne_da_o_108 : da ≠ o := (by omega : @Ne Nat da o)
  have c109_V_da : Arv Z h103 da dk .byte (100 : Int32) onesL (.int (0 : Int32)) := V_da.keep Kp103 (ninS ne_da_o_108 nin0)
  have lt_ea : @LT.lt Nat _ ea h0.size := V_ea.lt
  have ne_ea_o_110 : ea ≠ o := (by omega : @Ne Nat ea o)
  have c111_V_ea : Arv Z h103 ea ek .byte (100 : Int32) tensL (.int (0 : Int32)) := V_ea.keep Kp103 (ninS ne_ea_o_110 nin0)
  have lt_b2_103 : @LT.lt Nat _ b2_103 h103.size := p103_V_b2.lt
  have ne_da_b2_103_112 : da ≠ b2_103 := (by omega : @Ne Nat da b2_103)
  have ne_ea_b2_103_113 : ea ≠ b2_103 := (by omega : @Ne Nat ea b2_103)
  have ge114_b2_103 : @LE.le Nat _ n0 b2_103 := by omega
  obtain ⟨_, _, ⟨T107, L107, k107, n107⟩, -, X107, ⟨Lc107, hQ107, l107, y107, z107⟩, st107⟩ := Jvm.LawKit.callS X106 hx (y := y40_) hown (mvT hZ (wi hw 142 rfl)) (mvT hZ (wi hw 143 rfl)) (mvT hZ (wi hw 112 rfl)) (mvT hZ (wi hw 144 rfl)) (by decide) (backOf (W := 0) (rm_gch l Z a0 hw [] v b2_103 k2_103 (ncap cap (n + wd v)) xs (List.replicate (wd v) (.int (0 : Int32))) (n + wd v) da dk ea ek cs fo h103 n0 (by omega) Vpd ne_da_b2_103_112 ne_ea_b2_103_113 ge114_b2_103 (by simp) (by simp [hn]) (⟨(ncap_ge cap (n + wd v)).2, by omega⟩) c109_V_da c111_V_ea c105_OL SX) hZ (wi hw 144 rfl) (wi hw 112 rfl) (by decide) (by decide)) (g := (mkF mM 30 (Lc_appI_0 o v n) [(.ref b2_103), (.int (iN (n + wd v))), (.int v)])) rfl hml.symm (argsL := [(.int v), (.int (iN (n + wd v))), (.ref b2_103)]) (rest := []) (lenOf pd_22 rfl) rfl (W0 rfl) (hb hj g68_32_4.2.2.1) (fun _ _ => ⟨rfl, e106, ble rfl, ble rfl⟩)
  dsimp only [Pt.U, Pt.locs, Pt.cells, Pt.slots] at X107 l107 y107 z107 st107 hQ107
  subst y107 z107
  obtain ⟨h107, e107⟩ : ∃ z, T107.heap = z := ⟨_, rfl⟩
  rw [e107] at hQ107
  obtain ⟨y_107, rfl, N107q, Kp107, p107_V_b⟩ := hQ107
  have Sz2 : h103.size ≤ h107.size := Kp107.1
  have N107 : Fr n0 L107 := by rw [l107]; exact Fr.app N104 N107q
  have ne_o_b2_103_115 : o ≠ b2_103 := (by omega : @Ne Nat o b2_103)
  have c116_F_count_o : Fld Z h107 o "java/lang/AbstractStringBuilder" "count" "I" (.int (iN n)) := p103_F_count_o.keep Kp107 (ninS ne_o_b2_103_115 nin0)
  have c117_E_o : Exa Z h107 o "java/lang/StringBuilder" := p103_E_o.keep Kp107
  obtain ⟨T118, h118, X118, e118, W118, st118⟩ := putF X107 hx hZ hown (host := "") (Or.inl (wi hw 74 rfl)) Via.refl e107 c116_F_count_o c117_E_o (Or.inl (wi hw 75 rfl)) (wi hw 36 rfl) (ty := .int) (by decide) rfl rfl (g := (mkF mM 50 (Lc_appI_0 o v n) [(.int (iN (n + wd v))), (.ref o)])) rfl rfl (hb hj g68_32_5.2.2.2)
  have Sz3 : h107.size ≤ h118.size := Nat.le_of_eq (Wr.size W118).symm
  have Fw118 : Fld Z h118 o "java/lang/AbstractStringBuilder" "count" "I" (.int (iN (n + wd v))) := Fld.same W118 c116_F_count_o
  have N118 := Fr.snoc X118 N107 g_o
  have c119_F_value_o : Fld Z h107 o "java/lang/AbstractStringBuilder" "value" "[B" (.ref b2_103) := p103_F_value_o.keep Kp107 (ninS ne_o_b2_103_115 nin0)
  have c120_F_value_o : Fld Z h118 o "java/lang/AbstractStringBuilder" "value" "[B" (.ref b2_103) := Fld.other W118 c119_F_value_o (Or.inr (slot_ne (Or.inl (wi hw 50 rfl)) (Or.inl (wi hw 75 rfl)) (by decide) (t := (.array .byte)) (t' := .int) (by decide) (by decide)))
  have ne_b2_103_o_121 : b2_103 ≠ o := (by omega : @Ne Nat b2_103 o)
  have c122_V_b2_103 : Arv Z h118 b2_103 k2_103 .byte (iN (ncap cap (n + wd v))) (xs ++ decV v) (.int (0 : Int32)) := p107_V_b.other W118 ne_b2_103_o_121
  have c123_E_o : Exa Z h118 o "java/lang/StringBuilder" := Exa.wr W118 c117_E_o
  have c124_F_coder_o : Fld Z h107 o "java/lang/AbstractStringBuilder" "coder" "B" (.int (0 : Int32)) := p103_F_coder_o.keep Kp107 (ninS ne_o_b2_103_115 nin0)
  have c125_F_coder_o : Fld Z h118 o "java/lang/AbstractStringBuilder" "coder" "B" (.int (0 : Int32)) := Fld.other W118 c124_F_coder_o (Or.inr (slot_ne (Or.inl (wi hw 52 rfl)) (Or.inl (wi hw 75 rfl)) (by decide) (t := .byte) (t' := .int) (by decide) (by decide)))
  have c126_E_b2_103 : Exa Z h107 b2_103 "[B" := p103_E_b2.keep Kp107
  have c127_E_b2_103 : Exa Z h118 b2_103 "[B" := Exa.wr W118 c126_E_b2_103
  have K128 : Keep h0 h103 [o, b] := (Keep.refl h0 [o, b]).trans Kp103 (allS (Or.inl (List.mem_of_getElem? (i := 0) rfl)) all0)
  have K129 : Keep h0 h107 [o, b] := K128.trans Kp107 (allS (p103_hor.elim (fun q => Or.inl (by rw [q]; exact List.mem_of_getElem? (i := 1) rfl)) (fun q => Or.inr (by omega))) all0)
  have K130 : Keep h0 h118 [o, b] := K129.wr W118 (Or.inl (List.mem_of_getElem? (i := 0) rfl))
  obtain ⟨fs, hr, hrun, hended, hW, hsame⟩ := X118.leave (v := some (.ref o)) (fun h => by rw [Bd.returns] at h; cases h)
  refine ⟨_, _, castTop (ef_appI mM o v b k cap n xs da dk ea ek cs fo) ?_, hrun, hended, _, _, rfl, ?_, ⟨_, rfl⟩, hW, hsame.mono (by decide) (by decide)⟩
  · show SS pP eE bS s₁ (mkF mM 0 #[.val (.ref o), .val (.int v), .unset, .unset] []) _
    refine XS.aloadN X0.here hx rfl (hb hj g68_32_0.1) rfl rfl ?_
    refine st101 _ ?_
    refine XS.istoreN X101.here hx rfl (hb hj g68_32_0.2.2.1) rfl (l' := #[.val (.ref o), .val (.int v), .val (.int (iN n)), .unset]) rfl ?_
    refine XS.iloadN X101.here hx rfl (hb hj g68_32_0.2.2.2) rfl ?_
    refine XS.iloadN X101.here hx rfl (hb hj g68_32_1.1) rfl ?_
    refine st102 _ ?_
    refine XS.iadd X102.here hx rfl (hb hj g68_32_1.2.2.1) rfl ?_
    show SS pP eE bS T102 (mkF mM 11 #[.val (.ref o), .val (.int v), .val (.int (iN n)), .unset] [(.int ((iN n) + (iN (wd v))))]) _
    rw [show ((iN n) + (iN (wd v))) = (iN (n + wd v)) from iN_add n (wd v)]
    refine XS.istoreN X102.here hx rfl (hb hj g68_32_1.2.2.2) rfl (l' := (Lc_appI_0 o v n)) rfl ?_
    refine XS.aloadN X102.here hx rfl (hb hj g68_32_2.1) rfl rfl ?_
    refine XS.iloadN X102.here hx rfl (hb hj g68_32_2.2.1) rfl ?_
    refine st103.trans ?_
    refine XS.aloadN X103.here hx rfl (hb hj g68_32_2.2.2.2) rfl rfl ?_
    refine st104.trans ?_
    refine XS.ifNo X104.here hx rfl (hb hj g68_32_3.2.1) rfl ((if0 _ _).trans (feq (by decide : ¬ ((1 : Int32) = (0 : Int32)))).1) ?_
    refine XS.iloadN X104.here hx rfl (hb hj g68_32_3.2.2.1) rfl ?_
    refine XS.iloadN X104.here hx rfl (hb hj g68_32_3.2.2.2) rfl ?_
    refine XS.aloadN X104.here hx rfl (hb hj g68_32_4.1) rfl rfl ?_
    refine st106 _ ?_
    refine st107 _ ?_
    refine XS.pop X107.here hx rfl (hb hj g68_32_4.2.2.2) rfl rfl ?_
    refine XS.goto X107.here hx rfl (pc0 := 34) (pc' := 48) rfl (hb hj g68_32_5.1) (by decide) (by decide) ?_
    refine XS.aloadN X107.here hx rfl (hb hj g68_32_5.2.1) rfl rfl ?_
    refine XS.iloadN X107.here hx rfl (hb hj g68_32_5.2.2.1) rfl ?_
    refine st118 _ ?_
    refine XS.aloadN X118.here hx rfl (hb hj g68_32_6.1) rfl rfl ?_
    jvm_step X118.here [X118.here.top, hx, (hb hj g68_32_6.2), X118.method', Bd.returns, Value.isRef, FieldType.isReference]
    first | (intro acts; rw [hr _ acts rfl rfl rfl]) | rw [hr _ _ rfl rfl rfl]
    exact Steps.refl _
  · show Q_appI Z o v b k cap n xs da dk ea ek cs fo h0 n0 _ T118.heap _
    rw [e118]
    exact ⟨b2_103, k2_103, rfl, N118, K130, c123_E_o, c120_F_value_o, c125_F_coder_o, Fw118, c122_V_b2_103, (p103_hor), (p103_hob), (p103_hgb), c127_E_b2_103⟩
abbrev c67_15 := jdk_67_method_15_code
theorem g67_15_0 : decode c67_15 0 = .ok (.aload_n 0, 1) ∧ decode c67_15 1 = .ok (.iload_n 1, 1) ∧ decode c67_15 2 = .ok (.invokespecial 53, 3) ∧ decode c67_15 5 = .ok (.pop, 1) := by decide +kernel
theorem pd_16 : parseMethodDescriptor "(I)Ljava/lang/AbstractStringBuilder;" = some ⟨[.int], some (.object "java/lang/AbstractStringBuilder")⟩ := by decide +kernel
theorem g67_15_1 : decode c67_15 6 = .ok (.aload_n 0, 1) ∧ decode c67_15 7 = .ok (.areturn, 1) := by decide +kernel
abbrev r5_1_128_77 : Room := { frames := 5, cells := 1, slots := 128, locals := 77 }
abbrev y42_ : MethodName := ⟨"java/lang/StringBuilder", "append", "(I)Ljava/lang/StringBuilder;"⟩
def Q_sappI (Z : State) (o : Addr) (v : Int32) (b : Addr) (k : ClassId) (cap : Nat) (n : Nat) (xs : List Value) (da : Addr) (dk : ClassId) (ea : Addr) (ek : ClassId) (cs : Int32) (fo : Value) (h0 : Heap) (n0 : Nat) (xv : Option Value) (xh : Heap) (xL : List Loc) : Prop := ∃ b2 : Addr, ∃ k2 : ClassId, xv = some (.ref o) ∧ Fr n0 xL ∧ Keep h0 xh [o, b] ∧ Exa Z xh o "java/lang/StringBuilder" ∧ Fld Z xh o "java/lang/AbstractStringBuilder" "value" "[B" (.ref b2) ∧ Fld Z xh o "java/lang/AbstractStringBuilder" "coder" "B" (.int (0 : Int32)) ∧ Fld Z xh o "java/lang/AbstractStringBuilder" "count" "I" (.int (iN (n + wd v))) ∧ Arv Z xh b2 k2 .byte (iN (ncap cap (n + wd v))) (xs ++ decV v) (.int (0 : Int32)) ∧ (@Eq Nat b2 b ∨ @LE.le Nat _ h0.size b2) ∧ @Ne Nat o b2 ∧ @LE.le Nat _ n0 b2 ∧ Exa Z xh b2 "[B"
theorem ef_sappI (mM : MethodId) (o : Addr) (v : Int32) (b : Addr) (k : ClassId) (cap : Nat) (n : Nat) (xs : List Value) (da : Addr) (dk : ClassId) (ea : Addr) (ek : ClassId) (cs : Int32) (fo : Value) : entryFrame mM #[(.ref o), (.int v)] 2 = mkF mM 0 #[.val (.ref o), .val (.int v)] [] := by
  first | (simp [entryFrame, mkF, argsToLocals, Value.category]; done) | rfl
theorem rm_sappI (hw : HW a0 Z) (ws : List Jvm.Cond) (o : Addr) (v : Int32) (b : Addr) (k : ClassId) (cap : Nat) (n : Nat) (xs : List Value) (da : Addr) (dk : ClassId) (ea : Addr) (ek : ClassId) (cs : Int32) (fo : Value) (h0 : Heap) (n0 : Nat) (Z0 : n0 ≤ h0.size) (E_o : Exa Z h0 o "java/lang/StringBuilder") (F_value_o : Fld Z h0 o "java/lang/AbstractStringBuilder" "value" "[B" (.ref b)) (F_coder_o : Fld Z h0 o "java/lang/AbstractStringBuilder" "coder" "B" (.int (0 : Int32))) (F_count_o : Fld Z h0 o "java/lang/AbstractStringBuilder" "count" "I" (.int (iN n))) (V_b : Arv Z h0 b k .byte (iN cap) xs (.int (0 : Int32))) (ne_o_b : @Ne Nat o b) (g_o : @LE.le Nat _ n0 o) (g_b : @LE.le Nat _ n0 b) (hn : xs.length = n) (hE : ncap cap (n + wd v) ≤ 128 ∧ cap ≤ 128 ∧ n ≤ cap) (E_b : Exa Z h0 b "[B") (V_da : Arv Z h0 da dk .byte (100 : Int32) onesL (.int (0 : Int32))) (V_ea : Arv Z h0 ea ek .byte (100 : Int32) tensL (.int (0 : Int32))) (hda : @LT.lt Nat _ da n0) (hea : @LT.lt Nat _ ea n0) (OL : Old Z n0 h0) (SX : Sts Z cs fo da ea) :
    MF l y42_ jdk_67_method_15_code 2 (some (.object "java/lang/StringBuilder")) ws r5_1_128_77 #[(.ref o), (.int v)] Z h0 (Q_sappI Z o v b k cap n xs da dk ea ek cs fo h0 n0) := by
  refine MetFree.of_bodySF (plainFor_of_name pn_java_lang_StringBuilder) hisR ?_
  intro pP eE sS mM aS bS mS cC s₁ Bd hml0 hP hK
  obtain ⟨rfl, hZ, hh⟩ := hP
  have hx := Bd.exec
  have hj := Bd.bytes
  have hml : cC.maxLocals = 2 := hml0
  have hown : sS.vm.findClass "java/lang/StringBuilder" = some mM.cls := findClass_of_methodNamed Bd.named
  have X0 : Stand pP l eE r5_1_128_77 sS mM _ bS mS cC s₁ [] 0 0 := Stand.of_body Bd
  have e0 : s₁.heap = h0 := by rw [← hh, Bd.state]; rfl
  have N0 := Fr.nil n0
  obtain ⟨_, _, ⟨T101, L101, k101, n101⟩, -, X101, ⟨Lc101, hQ101, l101, y101, z101⟩, st101⟩ := superBack X0 hx hZ (y := y41_) hown (wi hw 106 rfl) (own_same (y := y41_) (by decide) (wi hw 107 rfl) (own_nf (y := (⟨"java/lang/AbstractStringBuilder", "ensureCapacityInternal", "(I)V"⟩ : MethodName)) (z := (⟨"java/lang/AbstractStringBuilder", "append", "(I)Ljava/lang/AbstractStringBuilder;"⟩ : MethodName)) (notFace_of_selects (wi hw 79 rfl)) (Cond.code_named (wi hw 80 rfl)) rfl)) (wi hw 107 rfl) (wi hw 61 rfl) (by decide) (backOf (W := 0) (rm_appI l Z a0 hw [] o v b k cap n xs da dk ea ek cs fo h0 n0 (by omega) E_o F_value_o F_coder_o F_count_o V_b ne_o_b g_o g_b hn hE E_b V_da V_ea hda hea OL SX) hZ (wi hw 109 rfl) (wi hw 45 rfl) (by decide) (by decide)) e0 (Ins.self E_o) (g := (mkF mM 2 #[.val (.ref o), .val (.int v)] [(.int v), (.ref o)])) rfl hml.symm (wi hw 109 rfl) (argsL := [(.int v)]) (rest := []) (lenOf pd_16 rfl) rfl (W0 rfl) (hb hj g67_15_0.2.2.1) (fun _ _ => ⟨rfl, e0, ble rfl, ble rfl⟩)
  dsimp only [Pt.U, Pt.locs, Pt.cells, Pt.slots] at X101 l101 y101 z101 st101 hQ101
  subst y101 z101
  obtain ⟨h101, e101⟩ : ∃ z, T101.heap = z := ⟨_, rfl⟩
  rw [e101] at hQ101
  obtain ⟨b2_101, k2_101, rfl, N101q, Kp101, p101_E_o, p101_F_value_o, p101_F_coder_o, p101_F_count_o, p101_V_b2, p101_hor, p101_hob, p101_hgb, p101_E_b2⟩ := hQ101
  have Sz1 : h0.size ≤ h101.size := Kp101.1
  have N101 : Fr n0 L101 := by rw [l101]; exact Fr.app N0 N101q
  have K102 : Keep h0 h101 [o, b] := (Keep.refl h0 [o, b]).trans Kp101 (allS (Or.inl (List.mem_of_getElem? (i := 0) rfl)) (allS (Or.inl (List.mem_of_getElem? (i := 1) rfl)) all0))
  obtain ⟨fs, hr, hrun, hended, hW, hsame⟩ := X101.leave (v := some (.ref o)) (fun h => by rw [Bd.returns] at h; cases h)
  refine ⟨_, _, castTop (ef_sappI mM o v b k cap n xs da dk ea ek cs fo) ?_, hrun, hended, _, _, rfl, ?_, ⟨_, rfl⟩, hW, hsame.mono (by decide) (by decide)⟩
  · show SS pP eE bS s₁ (mkF mM 0 #[.val (.ref o), .val (.int v)] []) _
    refine XS.aloadN X0.here hx rfl (hb hj g67_15_0.1) rfl rfl ?_
    refine XS.iloadN X0.here hx rfl (hb hj g67_15_0.2.1) rfl ?_
    refine st101.trans ?_
    refine XS.pop X101.here hx rfl (hb hj g67_15_0.2.2.2) rfl rfl ?_
    refine XS.aloadN X101.here hx rfl (hb hj g67_15_1.1) rfl rfl ?_
    jvm_step X101.here [X101.here.top, hx, (hb hj g67_15_1.2), X101.method', Bd.returns, Value.isRef, FieldType.isReference]
    first | (intro acts; rw [hr _ acts rfl rfl rfl]) | rw [hr _ _ rfl rfl rfl]
    exact Steps.refl _
  · show Q_sappI Z o v b k cap n xs da dk ea ek cs fo h0 n0 _ T101.heap _
    rw [e101]
    exact ⟨b2_101, k2_101, rfl, N101, K102, p101_E_o, p101_F_value_o, p101_F_coder_o, p101_F_count_o, p101_V_b2, (p101_hor), (p101_hob), (p101_hgb), p101_E_b2⟩
abbrev cp35_14 := prog_35_method_14_code
theorem gp35_14_1 : decode cp35_14 7 = .ok (.if_icmp .ne 5, 3) ∧ decode cp35_14 10 = .ok (.aload_n 0, 1) ∧ decode cp35_14 11 = .ok (.areturn, 1) ∧ decode cp35_14 12 = .ok (.iload_n 1, 1) := by decide +kernel
theorem gp35_14_2 : decode cp35_14 13 = .ok (.ifCond .ne 8, 3) ∧ decode cp35_14 16 = .ok (.ldc 74, 2) ∧ decode cp35_14 18 = .ok (.goto 27, 3) ∧ decode cp35_14 21 = .ok (.new 13, 3) := by decide +kernel
theorem own_wS {Z : State} {a0 : Array Value} (hw : HW a0 Z) : ∀ d ∈ Bundle.stringAtoms, d.before a0 Z = true := by
  intro d hd
  simp only [Bundle.stringAtoms, Bundle.sN, List.mem_cons, List.mem_append, List.not_mem_nil, or_false, false_or, or_assoc] at hd
  rcases hd with rfl | rfl | rfl | rfl | rfl | rfl | rfl
  · exact wi hw 1 rfl
  · exact wi hw 2 rfl
  · exact wi hw 3 rfl
  · exact wi hw 4 rfl
  · exact wi hw 5 rfl
  · exact wi hw 6 rfl
  · exact wi hw 7 rfl
theorem own_EW {Z : State} {a0 : Array Value} (hw : HW a0 Z) : EW Z a0 consts_1 := (EW.cons (wi hw 183 rfl) (by decide) (EW.cons (wi hw 53 rfl) (by decide) (EW.cons (wi hw 147 rfl) (by decide) (EW.cons (wi hw 234 rfl) (by decide) (EW.cons (wi hw 235 rfl) (by decide) (EW.cons (wi hw 0 rfl) (by decide) (EW.cons (wi hw 222 rfl) (by decide) (EW.cons (wi hw 233 rfl) (by decide) (EW.cons (wi hw 236 rfl) (by decide) (EW.cons (wi hw 237 rfl) (by decide) EW.nil))))))))))
theorem own_txt0 : (∀ c ∈ "".toList, c.toNat < 256) ∧ "".toList.map (fun c => Value.int (Jvm.Lit.byteI c.toNat.toUInt16)) = [] := by
  constructor
  · decide
  · first | rfl | decide
theorem gp35_14_5 : decode cp35_14 42 = .ok (.invokevirtual 22, 3) ∧ decode cp35_14 45 = .ok (.astore_n 3, 1) ∧ decode cp35_14 46 = .ok (.iload_n 2, 1) ∧ decode cp35_14 47 = .ok (.ldc 166, 2) := by decide +kernel
theorem gp35_14_3 : decode cp35_14 24 = .ok (.dup, 1) ∧ decode cp35_14 25 = .ok (.invokespecial 15, 3) ∧ decode cp35_14 28 = .ok (.ldc 167, 2) ∧ decode cp35_14 30 = .ok (.invokevirtual 16, 3) := by decide +kernel
theorem pd_5 : parseMethodDescriptor "()V" = some ⟨[], none⟩ := by decide +kernel
theorem own_txt1 : (∀ c ∈ " OFFSET ".toList, c.toNat < 256) ∧ " OFFSET ".toList.map (fun c => Value.int (Jvm.Lit.byteI c.toNat.toUInt16)) = [(.int (32 : Int32)), (.int (79 : Int32)), (.int (70 : Int32)), (.int (70 : Int32)), (.int (83 : Int32)), (.int (69 : Int32)), (.int (84 : Int32)), (.int (32 : Int32))] := by
  constructor
  · decide
  · first | rfl | decide
theorem pd_7 : parseMethodDescriptor "(Ljava/lang/String;)Ljava/lang/StringBuilder;" = some ⟨[(.object "java/lang/String")], some (.object "java/lang/StringBuilder")⟩ := by decide +kernel
theorem cw_sapp_S3916 (hw : HW a0 Z) (o : Addr) (t : Addr) (tb : Addr) (tk : ClassId) (z : Nat) (ys : List Value) (b : Addr) (k : ClassId) (cap : Nat) (n : Nat) (xs : List Value) (cs : Int32) (fo : Value) (da : Addr) (ea : Addr) {RR : Room} (h0 : Heap) (n0 : Nat) (Z0 : n0 ≤ h0.size) (hx : pP.tables.exec = Jvm.exec) (hZ : Z.Warmed39 sS.vm) (hown : sS.vm.findClass "com/example/tessera/tessera/sql/SqlText" = some mM.cls) (X0 : Stand pP l eE RR sS mM aS bS mS cC s₁ lc0 cl0 sl0) (e0 : s₁.heap = h0) (N0 : Fr n0 lc0) (hcl : cl0 + r5_1_128_76.cells ≤ RR.cells) (hsl : sl0 + r5_1_128_76.slots ≤ RR.slots) (E_o : Exa Z h0 o "java/lang/StringBuilder") (F_value_o : Fld Z h0 o "java/lang/AbstractStringBuilder" "value" "[B" (.ref b)) (F_coder_o : Fld Z h0 o "java/lang/AbstractStringBuilder" "coder" "B" (.int (0 : Int32))) (F_count_o : Fld Z h0 o "java/lang/AbstractStringBuilder" "count" "I" (.int (iN n))) (A_t : StrA Z h0 t tb tk z ys) (V_b : Arv Z h0 b k .byte (iN cap) xs (.int (0 : Int32))) (ne_o_b : @Ne Nat o b) (ne_o_t : @Ne Nat o t) (ne_o_tb : @Ne Nat o tb) (ne_t_b : @Ne Nat t b) (ne_tb_b : @Ne Nat tb b) (g_o : @LE.le Nat _ n0 o) (g_b : @LE.le Nat _ n0 b) (hn : xs.length = n) (hz : ys.length = z) (E_b : Exa Z h0 b "[B") (hE : ncap cap (n + z) ≤ 128 ∧ cap ≤ 128 ∧ n ≤ cap) (OL : Old Z n0 h0) (SX : Sts Z cs fo da ea) {g : JFrame} (hg : g.method = mM) (hsz : g.locals.size = cC.maxLocals) {rest : List Value} (hst : g.stack = [(.ref t), (.ref o)] ++ rest) (hd : decode cC.code g.pc = .ok (.invokevirtual 16, 3)) {W : Nat} (hW : 2 * g.monitorRoom + (rest.map fun v => v.category).sum ≤ W) (hfr : r5_1_128_76.frames + 1 ≤ RR.frames) (hlo : W + (2 + 11) + r5_1_128_76.locals ≤ RR.locals) :
    ∃ b2 : Addr, ∃ k2 : ClassId, ∃ T' h' L', Stand pP l eE RR sS mM aS bS mS cC T' L' (cl0 + r5_1_128_76.cells) (sl0 + r5_1_128_76.slots) ∧ T'.heap = h' ∧ Fr n0 L' ∧ Keep h0 h' [o, b] ∧ Exa Z h' o "java/lang/StringBuilder" ∧ Fld Z h' o "java/lang/AbstractStringBuilder" "value" "[B" (.ref b2) ∧ Fld Z h' o "java/lang/AbstractStringBuilder" "coder" "B" (.int (0 : Int32)) ∧ Fld Z h' o "java/lang/AbstractStringBuilder" "count" "I" (.int (iN (n + z))) ∧ Arv Z h' b2 k2 .byte (iN (ncap cap (n + z))) (xs ++ ys) (.int (0 : Int32)) ∧ (@Eq Nat b2 b ∨ @LE.le Nat _ h0.size b2) ∧ @Ne Nat o b2 ∧ @LE.le Nat _ n0 b2 ∧ Exa Z h' b2 "[B" ∧ ∀ t', Steps pP.tables eE bS (T'.setTop { g with pc := g.pc + 3, stack := [(.ref o)] ++ rest }) t' → Steps pP.tables eE bS (s₁.setTop g) t' := by
  obtain ⟨cq, kq, qa, qb, qc⟩ := isOf hZ e0 E_o
  obtain ⟨_, _, ⟨T1, L1, k1, n1⟩, -, X1, ⟨Lc1, hQ1, l1, y1, z1⟩, st1⟩ := X0.virtualBack hx (y := y14_) (z := y14_) hown (mvT hZ (wi hw 54 rfl)) (mvT hZ (wi hw 55 rfl)) (notFace_of_selects (args := #[]) (mvT hZ (wi hw 57 rfl))) (mvT hZ (wi hw 57 rfl)) (mvT hZ (wi hw 56 rfl)) (by decide) (backOf (W := W) (rm_sapp l Z a0 hw [] o t tb tk z ys b k cap n xs cs fo da ea h0 n0 Z0 E_o F_value_o F_coder_o F_count_o A_t V_b ne_o_b ne_o_t ne_o_tb ne_t_b ne_tb_b g_o g_b hn hz E_b hE OL SX) hZ (wi hw 58 rfl) (wi hw 37 rfl) hfr hlo) qa qc (g := g) hg hsz (Steps.refl _) (argsL := [(.ref t)]) (rest := rest) (lenOf pd_7 rfl) hst hW hd (fun _ _ => ⟨rfl, e0, hcl, hsl⟩)
  dsimp only [Pt.U, Pt.locs, Pt.cells, Pt.slots] at X1 l1 y1 z1 st1 hQ1
  subst y1 z1
  obtain ⟨b2, k2, rfl, Nq, Kq, p_E_o, p_F_value_o, p_F_coder_o, p_F_count_o, p_V_b2, p_hor, p_hob, p_hgb, p_E_b2⟩ := hQ1
  exact ⟨b2, k2, T1, _, L1, X1, rfl, by rw [l1]; exact Fr.app N0 Nq, Kq, p_E_o, p_F_value_o, p_F_coder_o, p_F_count_o, p_V_b2, p_hor, p_hob, p_hgb, p_E_b2, fun t' hk => st1.trans hk⟩
theorem gp35_14_4 : decode cp35_14 33 = .ok (.iload_n 1, 1) ∧ decode cp35_14 34 = .ok (.invokevirtual 169, 3) ∧ decode cp35_14 37 = .ok (.ldc 172, 2) ∧ decode cp35_14 39 = .ok (.invokevirtual 16, 3) := by decide +kernel
theorem pd_15 : parseMethodDescriptor "(I)Ljava/lang/StringBuilder;" = some ⟨[.int], some (.object "java/lang/StringBuilder")⟩ := by decide +kernel
theorem cw_sappI_S39169 (hw : HW a0 Z) (o : Addr) (v : Int32) (b : Addr) (k : ClassId) (cap : Nat) (n : Nat) (xs : List Value) (da : Addr) (dk : ClassId) (ea : Addr) (ek : ClassId) (cs : Int32) (fo : Value) {RR : Room} (h0 : Heap) (n0 : Nat) (Z0 : n0 ≤ h0.size) (hx : pP.tables.exec = Jvm.exec) (hZ : Z.Warmed39 sS.vm) (hown : sS.vm.findClass "com/example/tessera/tessera/sql/SqlText" = some mM.cls) (X0 : Stand pP l eE RR sS mM aS bS mS cC s₁ lc0 cl0 sl0) (e0 : s₁.heap = h0) (N0 : Fr n0 lc0) (hcl : cl0 + r5_1_128_77.cells ≤ RR.cells) (hsl : sl0 + r5_1_128_77.slots ≤ RR.slots) (E_o : Exa Z h0 o "java/lang/StringBuilder") (F_value_o : Fld Z h0 o "java/lang/AbstractStringBuilder" "value" "[B" (.ref b)) (F_coder_o : Fld Z h0 o "java/lang/AbstractStringBuilder" "coder" "B" (.int (0 : Int32))) (F_count_o : Fld Z h0 o "java/lang/AbstractStringBuilder" "count" "I" (.int (iN n))) (V_b : Arv Z h0 b k .byte (iN cap) xs (.int (0 : Int32))) (ne_o_b : @Ne Nat o b) (g_o : @LE.le Nat _ n0 o) (g_b : @LE.le Nat _ n0 b) (hn : xs.length = n) (hE : ncap cap (n + wd v) ≤ 128 ∧ cap ≤ 128 ∧ n ≤ cap) (E_b : Exa Z h0 b "[B") (V_da : Arv Z h0 da dk .byte (100 : Int32) onesL (.int (0 : Int32))) (V_ea : Arv Z h0 ea ek .byte (100 : Int32) tensL (.int (0 : Int32))) (hda : @LT.lt Nat _ da n0) (hea : @LT.lt Nat _ ea n0) (OL : Old Z n0 h0) (SX : Sts Z cs fo da ea) {g : JFrame} (hg : g.method = mM) (hsz : g.locals.size = cC.maxLocals) {rest : List Value} (hst : g.stack = [(.int v), (.ref o)] ++ rest) (hd : decode cC.code g.pc = .ok (.invokevirtual 169, 3)) {W : Nat} (hW : 2 * g.monitorRoom + (rest.map fun v => v.category).sum ≤ W) (hfr : r5_1_128_77.frames + 1 ≤ RR.frames) (hlo : W + (2 + 11) + r5_1_128_77.locals ≤ RR.locals) :
    ∃ b2 : Addr, ∃ k2 : ClassId, ∃ T' h' L', Stand pP l eE RR sS mM aS bS mS cC T' L' (cl0 + r5_1_128_77.cells) (sl0 + r5_1_128_77.slots) ∧ T'.heap = h' ∧ Fr n0 L' ∧ Keep h0 h' [o, b] ∧ Exa Z h' o "java/lang/StringBuilder" ∧ Fld Z h' o "java/lang/AbstractStringBuilder" "value" "[B" (.ref b2) ∧ Fld Z h' o "java/lang/AbstractStringBuilder" "coder" "B" (.int (0 : Int32)) ∧ Fld Z h' o "java/lang/AbstractStringBuilder" "count" "I" (.int (iN (n + wd v))) ∧ Arv Z h' b2 k2 .byte (iN (ncap cap (n + wd v))) (xs ++ decV v) (.int (0 : Int32)) ∧ (@Eq Nat b2 b ∨ @LE.le Nat _ h0.size b2) ∧ @Ne Nat o b2 ∧ @LE.le Nat _ n0 b2 ∧ Exa Z h' b2 "[B" ∧ ∀ t', Steps pP.tables eE bS (T'.setTop { g with pc := g.pc + 3, stack := [(.ref o)] ++ rest }) t' → Steps pP.tables eE bS (s₁.setTop g) t' := by
  obtain ⟨cq, kq, qa, qb, qc⟩ := isOf hZ e0 E_o
  obtain ⟨_, _, ⟨T1, L1, k1, n1⟩, -, X1, ⟨Lc1, hQ1, l1, y1, z1⟩, st1⟩ := X0.virtualBack hx (y := y42_) (z := y42_) hown (mvT hZ (wi hw 101 rfl)) (mvT hZ (wi hw 102 rfl)) (notFace_of_selects (args := #[]) (mvT hZ (wi hw 104 rfl))) (mvT hZ (wi hw 104 rfl)) (mvT hZ (wi hw 103 rfl)) (by decide) (backOf (W := W) (rm_sappI l Z a0 hw [] o v b k cap n xs da dk ea ek cs fo h0 n0 Z0 E_o F_value_o F_coder_o F_count_o V_b ne_o_b g_o g_b hn hE E_b V_da V_ea hda hea OL SX) hZ (wi hw 105 rfl) (wi hw 37 rfl) hfr hlo) qa qc (g := g) hg hsz (Steps.refl _) (argsL := [(.int v)]) (rest := rest) (lenOf pd_15 rfl) hst hW hd (fun _ _ => ⟨rfl, e0, hcl, hsl⟩)
  dsimp only [Pt.U, Pt.locs, Pt.cells, Pt.slots] at X1 l1 y1 z1 st1 hQ1
  subst y1 z1
  obtain ⟨b2, k2, rfl, Nq, Kq, p_E_o, p_F_value_o, p_F_coder_o, p_F_count_o, p_V_b2, p_hor, p_hob, p_hgb, p_E_b2⟩ := hQ1
  exact ⟨b2, k2, T1, _, L1, X1, rfl, by rw [l1]; exact Fr.app N0 Nq, Kq, p_E_o, p_F_value_o, p_F_coder_o, p_F_count_o, p_V_b2, p_hor, p_hob, p_hgb, p_E_b2, fun t' hk => st1.trans hk⟩
theorem own_txt2 : (∀ c ∈ " ROWS".toList, c.toNat < 256) ∧ " ROWS".toList.map (fun c => Value.int (Jvm.Lit.byteI c.toNat.toUInt16)) = [(.int (32 : Int32)), (.int (82 : Int32)), (.int (79 : Int32)), (.int (87 : Int32)), (.int (83 : Int32))] := by
  constructor
  · decide
  · first | rfl | decide
theorem pd_23 : parseMethodDescriptor "()Ljava/lang/String;" = some ⟨[], some (.object "java/lang/String")⟩ := by decide +kernel
abbrev r8_60_4000_160 : Room := { frames := 8, cells := 60, slots := 4000, locals := 160 }
abbrev Lc_pgo0_0 (t : Addr) (a : Int32) (b : Int32) (b101 : Addr) : Array Slot := #[.val (.ref t), .val (.int a), .val (.int b), .val (.ref b101), .unset]
theorem sg_pgo0 (hw : HW a0 Z) (t : Addr) (a : Int32) (b : Int32) (da : Addr) (dk : ClassId) (ea : Addr) (ek : ClassId) (cs : Int32) {vB : Vm} {kB : Nat} (h0 : Heap) (n0 : Nat) (hS0 : sS.Since vB kB) (hkB : kB ≤ h0.size) (hCH : CHv Z consts_1 vB h0) (G : SG l Z pP eE r8_60_4000_160 (sS.setVm vB) mM aS bS mS cC s₁ lc0 cl0 sl0 h0 n0 prog_35_method_14_code 5 "com/example/tessera/tessera/sql/SqlText" 11 596) (hc : a = (0 : Int32)) :
    ∃ s1 : Addr, ∃ b1 : Addr, ∃ k1 : ClassId, ∃ T' h' L' vE kE, Stand pP l eE r8_60_4000_160 (sS.setVm vE) mM aS bS mS cC T' L' (cl0 + 11) (sl0 + 596) ∧ T'.heap = h' ∧ sS.Since vE kE ∧ kE ≤ h'.size ∧ Z.Warmed39 (sS.setVm vE).vm ∧ (sS.setVm vE).vm.findClass "com/example/tessera/tessera/sql/SqlText" = some mM.cls ∧ CHr Z consts_1 vB h0 vE h' ∧ Fr n0 L' ∧ Keep h0 h' [] ∧ StrA Z h' s1 b1 k1 (offL a).length (offL a) ∧ ∀ t', SS pP eE bS T' (mkF mM 46 #[.val (.ref t), .val (.int a), .val (.int b), .val (.ref s1), .unset] []) t' → SS pP eE bS s₁ (mkF mM 12 #[.val (.ref t), .val (.int a), .val (.int b), .unset, .unset] []) t' := by
  obtain ⟨Z0, hx, hj, hml, hZ0, hown0, X0, e0, N0, hcl, hsl⟩ := id G
  have CC0 : CHr Z consts_1 vB h0 vB h0 := CHr.refl hCH
  obtain ⟨b101, T101, h101, kk101, d101, q101, X101, e101, E101, hS101, hk101, hZ101, hown101, A101, Fc101, Fv101, V101, ltb101, ltd101, Ch101, -, hne101, st101⟩ := ldcCH X0 hx hZ0 hown0 (wi hw 183 rfl) (own_wS hw) e0 hS0 (by omega) (own_EW hw) (List.mem_of_getElem? (i := 0) rfl) CC0.1 (vs := []) (z := (iN 0)) (own_txt0) (by decide) (by rfl) (g := (mkF mM 16 #[.val (.ref t), .val (.int a), .val (.int b), .unset, .unset] [])) rfl (hb hj gp35_14_2.2.1) (n := 0) (by decide) (by decide) (segle (k := 0) hcl (by decide)) (segle (k := 0) hsl (by decide))
  have Sz1 : h0.size ≤ h101.size := E101.1
  have CC1 : CHr Z consts_1 vB h0 T101.vm h101 := CC0.trans Ch101
  have c102_A_b101 : StrA Z h101 b101 d101 q101 0 [] := ⟨A101, Fv101, Fc101, V101⟩
  have Sf : StrA Z h101 b101 d101 q101 (offL a).length (offL a) := by
    have q := c102_A_b101
    rw [show ([] : List Value) = (offL a) from (if_pos hc).symm] at q
    rw [show (0 : Nat) = (offL a).length from by rw [offL, if_pos hc]; rfl] at q
    exact q
  have K103 : Keep h0 h101 [] := (Keep.refl h0 []).ext E101
  refine ⟨b101, d101, q101, T101, h101, _, T101.vm, _, (X101.mono (by omega) (by omega)), e101, hS101, (by omega), hZ101, hown101, CC1, N0, K103, Sf, fun t' hk' => ?_⟩
  show SS pP eE bS s₁ (mkF mM 12 #[.val (.ref t), .val (.int a), .val (.int b), .unset, .unset] []) _
  refine XS.iloadN X0.here hx rfl (hb hj gp35_14_1.2.2.2) rfl ?_
  refine XS.ifNo X0.here hx rfl (hb hj gp35_14_2.1) rfl ((if0 _ _).trans (teq hc).2) ?_
  refine st101 _ ?_
  refine XS.goto X101.here hx rfl (pc0 := 18) (pc' := 45) rfl (hb hj gp35_14_2.2.2.1) (by decide) (by decide) ?_
  refine XS.astoreN X101.here hx rfl (hb hj gp35_14_5.2.1) rfl rfl (l' := (Lc_pgo0_0 t a b b101)) rfl ?_
  exact hk'
abbrev Lc_pgo1_0 (t : Addr) (a : Int32) (b : Int32) (t_159 : Addr) : Array Slot := #[.val (.ref t), .val (.int a), .val (.int b), .val (.ref t_159), .unset]
theorem sg_pgo1 (hw : HW a0 Z) (t : Addr) (a : Int32) (b : Int32) (da : Addr) (dk : ClassId) (ea : Addr) (ek : ClassId) (cs : Int32) (fo : Value) {vB : Vm} {kB : Nat} (h0 : Heap) (n0 : Nat) (hS0 : sS.Since vB kB) (hkB : kB ≤ h0.size) (hCH : CHv Z consts_1 vB h0) (G : SG l Z pP eE r8_60_4000_160 (sS.setVm vB) mM aS bS mS cC s₁ lc0 cl0 sl0 h0 n0 prog_35_method_14_code 5 "com/example/tessera/tessera/sql/SqlText" 11 596) (hc : ¬ (a = (0 : Int32))) (V_da : Arv Z h0 da dk .byte (100 : Int32) onesL (.int (0 : Int32))) (V_ea : Arv Z h0 ea ek .byte (100 : Int32) tensL (.int (0 : Int32))) (hda : @LT.lt Nat _ da n0) (hea : @LT.lt Nat _ ea n0) (OL : Old Z n0 h0) (SX : Sts Z cs fo da ea) :
    ∃ s1 : Addr, ∃ b1 : Addr, ∃ k1 : ClassId, ∃ T' h' L' vE kE, Stand pP l eE r8_60_4000_160 (sS.setVm vE) mM aS bS mS cC T' L' (cl0 + 11) (sl0 + 596) ∧ T'.heap = h' ∧ sS.Since vE kE ∧ kE ≤ h'.size ∧ Z.Warmed39 (sS.setVm vE).vm ∧ (sS.setVm vE).vm.findClass "com/example/tessera/tessera/sql/SqlText" = some mM.cls ∧ CHr Z consts_1 vB h0 vE h' ∧ Fr n0 L' ∧ Keep h0 h' [] ∧ StrA Z h' s1 b1 k1 (offL a).length (offL a) ∧ ∀ t', SS pP eE bS T' (mkF mM 46 #[.val (.ref t), .val (.int a), .val (.int b), .val (.ref s1), .unset] []) t' → SS pP eE bS s₁ (mkF mM 12 #[.val (.ref t), .val (.int a), .val (.int b), .unset, .unset] []) t' := by
  obtain ⟨Z0, hx, hj, hml, hZ0, hown0, X0, e0, N0, hcl, hsl⟩ := id G
  have CC0 : CHr Z consts_1 vB h0 vB h0 := CHr.refl hCH
  obtain ⟨T101, h101, X101, e101, E101, A101, D101, B101, st101⟩ := newO X0 hx hZ0 hown0 (wi hw 35 rfl) (wi hw 36 rfl) (wi hw 37 rfl) e0 (g := (mkF mM 21 #[.val (.ref t), .val (.int a), .val (.int b), .unset, .unset] [])) rfl (hb hj gp35_14_2.2.2.2) (segle (k := 0) hcl (by decide)) (segle (k := 0) hsl (by decide))
  obtain ⟨b101, g101⟩ : ∃ z : Nat, z = h0.size := ⟨_, rfl⟩
  rw [← g101] at A101 D101 B101 st101
  have Sz1 : h0.size ≤ h101.size := E101.1
  have CC1 : CHr Z consts_1 vB h0 vB h101 := CC0.trans (CHr.ext E101 CC0.1)
  have F101_value : Fld Z h101 b101 "java/lang/AbstractStringBuilder" "value" "[B" .null := D101 (Or.inl (wi hw 50 rfl)) (ty := (.array .byte)) (by decide)
  have F101_coder : Fld Z h101 b101 "java/lang/AbstractStringBuilder" "coder" "B" (.int (0 : Int32)) := D101 (Or.inl (wi hw 52 rfl)) (ty := .byte) (by decide)
  have F101_count : Fld Z h101 b101 "java/lang/AbstractStringBuilder" "count" "I" (.int (0 : Int32)) := D101 (Or.inl (wi hw 75 rfl)) (ty := .int) (by decide)
  have c103_OL : Old Z n0 h101 := OL.ext E101
  have ge104_b101 : @LE.le Nat _ n0 b101 := by omega
  obtain ⟨_, _, ⟨T102, L102, k102, n102⟩, -, X102, ⟨Lc102, hQ102, l102, y102, z102⟩, st102⟩ := X101.specialBack hx (y := y3_) rfl hown0 (mvT hZ0 (wi hw 38 rfl)) (mvT hZ0 (wi hw 39 rfl)) (mvT hZ0 (wi hw 40 rfl)) (by decide) (backOf (W := 1) (rm_sb_init l Z a0 hw [] b101 .null (.int (0 : Int32)) (.int (0 : Int32)) cs fo da ea h101 n0 (by omega) A101 F101_value F101_coder F101_count ge104_b101 c103_OL SX) hZ0 (wi hw 40 rfl) (wi hw 37 rfl) (by decide) (by decide)) (g := (mkF mM 25 #[.val (.ref t), .val (.int a), .val (.int b), .unset, .unset] [(.ref b101), (.ref b101)])) rfl hml.symm (Steps.refl _) (a := b101) (argsL := []) (rest := [(.ref b101)]) (lenOf pd_5 rfl) rfl (W0 rfl) (hb hj gp35_14_3.2.1) (fun _ _ => ⟨rfl, e101, segle (k := 1) hcl (by decide), segle (k := 4) hsl (by decide)⟩)
  dsimp only [Pt.U, Pt.locs, Pt.cells, Pt.slots] at X102 l102 y102 z102 st102 hQ102
  subst y102 z102
  obtain ⟨h102, e102⟩ : ∃ z, T102.heap = z := ⟨_, rfl⟩
  rw [e102] at hQ102
  obtain ⟨b_102, k_102, rfl, N102q, Kp102, p102_E_o, p102_F_value_o, p102_F_coder_o, p102_F_count_o, p102_V_b, p102_gh_b, p102_E_b⟩ := hQ102
  have Sz2 : h101.size ≤ h102.size := Kp102.1
  have sf105_b101 : Safe Z consts_1 vB h101 b101 := Safe.exa (show Z.Warmed39 vB from hZ0).alike A101 (by decide) (by decide)
  have CC2 : CHr Z consts_1 vB h0 vB h102 := CC1.trans (CHr.keep Kp102 (sfS sf105_b101 sf0) CC1.1)
  have N102 : Fr n0 L102 := by rw [l102]; exact Fr.app N0 N102q
  obtain ⟨b106, T106, h106, kk106, d106, q106, X106, e106, E106, hS106, hk106, hZ106, hown106, A106, Fc106, Fv106, V106, ltb106, ltd106, Ch106, -, hne106, st106⟩ := ldcCH X102 hx hZ0 hown0 (wi hw 53 rfl) (own_wS hw) e102 hS0 (by omega) (own_EW hw) (List.mem_of_getElem? (i := 1) rfl) CC2.1 (vs := [(.int (32 : Int32)), (.int (79 : Int32)), (.int (70 : Int32)), (.int (70 : Int32)), (.int (83 : Int32)), (.int (69 : Int32)), (.int (84 : Int32)), (.int (32 : Int32))]) (z := (iN 8)) (own_txt1) (by decide) (by rfl) (g := (mkF mM 28 #[.val (.ref t), .val (.int a), .val (.int b), .unset, .unset] [(.ref b101)])) rfl (hb hj gp35_14_3.2.2.1) (n := 32) (by decide) (by decide) (segle (k := 2) hcl (by decide)) (segle (k := 20) hsl (by decide))
  have Sz3 : h102.size ≤ h106.size := E106.1
  have CC3 : CHr Z consts_1 vB h0 T106.vm h106 := CC2.trans Ch106
  have c108_E_b101 : Exa Z h106 b101 "java/lang/StringBuilder" := Exa.ext E106 p102_E_o
  have c109_F_value_b101 : Fld Z h106 b101 "java/lang/AbstractStringBuilder" "value" "[B" (.ref b_102) := Fld.ext E106 p102_F_value_o
  have c110_F_coder_b101 : Fld Z h106 b101 "java/lang/AbstractStringBuilder" "coder" "B" (.int (0 : Int32)) := Fld.ext E106 p102_F_coder_o
  have c111_F_count_b101 : Fld Z h106 b101 "java/lang/AbstractStringBuilder" "count" "I" (.int (0 : Int32)) := Fld.ext E106 p102_F_count_o
  have c112_A_b106 : StrA Z h106 b106 d106 q106 8 [(.int (32 : Int32)), (.int (79 : Int32)), (.int (70 : Int32)), (.int (70 : Int32)), (.int (83 : Int32)), (.int (69 : Int32)), (.int (84 : Int32)), (.int (32 : Int32))] := ⟨A106, Fv106, Fc106, V106⟩
  have c113_V_b_102 : Arv Z h106 b_102 k_102 .byte (iN 16) [] (.int (0 : Int32)) := p102_V_b.ext E106
  have c114_E_b_102 : Exa Z h106 b_102 "[B" := Exa.ext E106 p102_E_b
  have c115_OL : Old Z n0 h102 := c103_OL.keep Kp102 (allS ge104_b101 all0)
  have c116_OL : Old Z n0 h106 := c115_OL.ext E106
  have lt_b101 : @LT.lt Nat _ b101 h101.size := A101.lt
  have lt_b_102 : @LT.lt Nat _ b_102 h102.size := p102_V_b.lt
  have ne_b101_b_102_117 : b101 ≠ b_102 := (by omega : @Ne Nat b101 b_102)
  have sf118_b101 : Safe Z consts_1 T106.vm h106 b101 := Safe.exa (show Z.Warmed39 T106.vm from hZ106).alike c108_E_b101 (by decide) (by decide)
  have sf119_b_102 : Safe Z consts_1 vB h101 b_102 := Safe.new (by omega)
  have sf120_b_102 : Safe Z consts_1 vB h102 b_102 := Safe.keep Kp102 (sfS sf105_b101 sf0) CC1.1 sf119_b_102
  have sf121_b_102 : Safe Z consts_1 T106.vm h106 b_102 := CHr.safe Ch106 (by omega : @LT.lt Nat _ b_102 h102.size) sf120_b_102
  have ge122_b_102 : @LE.le Nat _ n0 b_102 := by omega
  obtain ⟨b2_107, k2_107, T107, h107, L107, X107, e107, N107, Kp107, p107_E_o, p107_F_value_o, p107_F_coder_o, p107_F_count_o, p107_V_b2, p107_hor, p107_hob, p107_hgb, p107_E_b2, st107⟩ := cw_sapp_S3916 l Z a0 hw b101 b106 d106 q106 8 _ b_102 k_102 16 0 [] cs fo da ea h106 n0 (by omega) hx hZ106 hown106 X106 e106 N102 (segle (k := 4) hcl (by decide)) (segle (k := 56) hsl (by decide)) c108_E_b101 c109_F_value_b101 c110_F_coder_b101 c111_F_count_b101 c112_A_b106 c113_V_b_102 ne_b101_b_102_117 (hne106 b101 sf118_b101).1 (hne106 b101 sf118_b101).2 (Ne.symm (hne106 b_102 sf121_b_102).1) (Ne.symm (hne106 b_102 sf121_b_102).2) ge104_b101 ge122_b_102 (by decide) (rfl) c114_E_b_102 ((own_cp1 a).1) c116_OL SX (g := (mkF mM 30 #[.val (.ref t), .val (.int a), .val (.int b), .unset, .unset] [(.ref b106), (.ref b101)])) rfl hml.symm rfl (hb hj gp35_14_3.2.2.2) (W := 0) (W0 rfl) (by decide) (by decide)
  have Sz4 : h106.size ≤ h107.size := Kp107.1
  have CC4 : CHr Z consts_1 vB h0 T106.vm h107 := CC3.trans (CHr.keep Kp107 (sfS sf118_b101 (sfS sf121_b_102 sf0)) CC3.1)
  have c124_V_da : Arv Z h101 da dk .byte (100 : Int32) onesL (.int (0 : Int32)) := V_da.ext E101
  have lt_da : @LT.lt Nat _ da h0.size := V_da.lt
  have ne_da_b101_125 : da ≠ b101 := (by omega : @Ne Nat da b101)
  have c126_V_da : Arv Z h102 da dk .byte (100 : Int32) onesL (.int (0 : Int32)) := c124_V_da.keep Kp102 (ninS ne_da_b101_125 nin0)
  have c127_V_da : Arv Z h106 da dk .byte (100 : Int32) onesL (.int (0 : Int32)) := c126_V_da.ext E106
  have ne_da_b_102_128 : da ≠ b_102 := (by omega : @Ne Nat da b_102)
  have c129_V_da : Arv Z h107 da dk .byte (100 : Int32) onesL (.int (0 : Int32)) := c127_V_da.keep Kp107 (ninS ne_da_b101_125 (ninS ne_da_b_102_128 nin0))
  have c130_V_ea : Arv Z h101 ea ek .byte (100 : Int32) tensL (.int (0 : Int32)) := V_ea.ext E101
  have lt_ea : @LT.lt Nat _ ea h0.size := V_ea.lt
  have ne_ea_b101_131 : ea ≠ b101 := (by omega : @Ne Nat ea b101)
  have c132_V_ea : Arv Z h102 ea ek .byte (100 : Int32) tensL (.int (0 : Int32)) := c130_V_ea.keep Kp102 (ninS ne_ea_b101_131 nin0)
  have c133_V_ea : Arv Z h106 ea ek .byte (100 : Int32) tensL (.int (0 : Int32)) := c132_V_ea.ext E106
  have ne_ea_b_102_134 : ea ≠ b_102 := (by omega : @Ne Nat ea b_102)
  have c135_V_ea : Arv Z h107 ea ek .byte (100 : Int32) tensL (.int (0 : Int32)) := c133_V_ea.keep Kp107 (ninS ne_ea_b101_131 (ninS ne_ea_b_102_134 nin0))
  have c136_OL : Old Z n0 h107 := c116_OL.keep Kp107 (allS ge104_b101 (allS ge122_b_102 all0))
  have lt_b2_107 : @LT.lt Nat _ b2_107 h107.size := p107_V_b2.lt
  have ne_b101_b2_107_137 : b101 ≠ b2_107 := (by omega : @Ne Nat b101 b2_107)
  have ge138_b2_107 : @LE.le Nat _ n0 b2_107 := by omega
  obtain ⟨b2_123, k2_123, T123, h123, L123, X123, e123, N123, Kp123, p123_E_o, p123_F_value_o, p123_F_coder_o, p123_F_count_o, p123_V_b2, p123_hor, p123_hob, p123_hgb, p123_E_b2, st123⟩ := cw_sappI_S39169 l Z a0 hw b101 a b2_107 k2_107 (ncap 16 (0 + 8)) (0 + 8) _ da dk ea ek cs fo h107 n0 (by omega) hx hZ106 hown106 X107 e107 N107 (segle (k := 5) hcl (by decide)) (segle (k := 184) hsl (by decide)) p107_E_o p107_F_value_o p107_F_coder_o p107_F_count_o p107_V_b2 ne_b101_b2_107_137 ge104_b101 ge138_b2_107 (rfl) ((own_cp1 a).2.1) p107_E_b2 c129_V_da c135_V_ea hda hea c136_OL SX (g := (mkF mM 34 #[.val (.ref t), .val (.int a), .val (.int b), .unset, .unset] [(.int a), (.ref b101)])) rfl hml.symm rfl (hb hj gp35_14_4.2.1) (W := 0) (W0 rfl) (by decide) (by decide)
  have Sz5 : h107.size ≤ h123.size := Kp123.1
  have sf139_b2_107 : Safe Z consts_1 T106.vm h106 b2_107 := by
    rcases p107_hor with q | q
    · rw [q]; exact sf121_b_102
    · exact Safe.new q
  have sf140_b2_107 : Safe Z consts_1 T106.vm h107 b2_107 := Safe.keep Kp107 (sfS sf118_b101 (sfS sf121_b_102 sf0)) CC3.1 sf139_b2_107
  have sf141_b101 : Safe Z consts_1 T106.vm h107 b101 := Safe.exa (show Z.Warmed39 T106.vm from hZ106).alike p107_E_o (by decide) (by decide)
  have CC5 : CHr Z consts_1 vB h0 T106.vm h123 := CC4.trans (CHr.keep Kp123 (sfS sf141_b101 (sfS sf140_b2_107 sf0)) CC4.1)
  obtain ⟨b142, T142, h142, kk142, d142, q142, X142, e142, E142, hS142, hk142, hZ142, hown142, A142, Fc142, Fv142, V142, ltb142, ltd142, Ch142, -, hne142, st142⟩ := ldcCH X123 hx hZ106 hown106 (wi hw 147 rfl) (own_wS hw) e123 hS106 (by omega) (own_EW hw) (List.mem_of_getElem? (i := 2) rfl) CC5.1 (vs := [(.int (32 : Int32)), (.int (82 : Int32)), (.int (79 : Int32)), (.int (87 : Int32)), (.int (83 : Int32))]) (z := (iN 5)) (own_txt2) (by decide) (by rfl) (g := (mkF mM 37 #[.val (.ref t), .val (.int a), .val (.int b), .unset, .unset] [(.ref b101)])) rfl (hb hj gp35_14_4.2.2.1) (n := 20) (by decide) (by decide) (segle (k := 6) hcl (by decide)) (segle (k := 312) hsl (by decide))
  have Sz6 : h123.size ≤ h142.size := E142.1
  have CC6 : CHr Z consts_1 vB h0 T142.vm h142 := CC5.trans Ch142
  have c144_E_b101 : Exa Z h142 b101 "java/lang/StringBuilder" := Exa.ext E142 p123_E_o
  have c145_F_value_b101 : Fld Z h142 b101 "java/lang/AbstractStringBuilder" "value" "[B" (.ref b2_123) := Fld.ext E142 p123_F_value_o
  have c146_F_coder_b101 : Fld Z h142 b101 "java/lang/AbstractStringBuilder" "coder" "B" (.int (0 : Int32)) := Fld.ext E142 p123_F_coder_o
  have c147_F_count_b101 : Fld Z h142 b101 "java/lang/AbstractStringBuilder" "count" "I" (.int (iN ((0 + 8) + wd a))) := Fld.ext E142 p123_F_count_o
  have c148_A_b142 : StrA Z h142 b142 d142 q142 5 [(.int (32 : Int32)), (.int (82 : Int32)), (.int (79 : Int32)), (.int (87 : Int32)), (.int (83 : Int32))] := ⟨A142, Fv142, Fc142, V142⟩
  have c149_V_b2_123 : Arv Z h142 b2_123 k2_123 .byte (iN (ncap (ncap 16 (0 + 8)) ((0 + 8) + wd a))) (([] ++ [(.int (32 : Int32)), (.int (79 : Int32)), (.int (70 : Int32)), (.int (70 : Int32)), (.int (83 : Int32)), (.int (69 : Int32)), (.int (84 : Int32)), (.int (32 : Int32))]) ++ decV a) (.int (0 : Int32)) := p123_V_b2.ext E142
  have c150_E_b2_123 : Exa Z h142 b2_123 "[B" := Exa.ext E142 p123_E_b2
  have c151_OL : Old Z n0 h123 := c136_OL.keep Kp123 (allS ge104_b101 (allS ge138_b2_107 all0))
  have c152_OL : Old Z n0 h142 := c151_OL.ext E142
  have lt_b2_123 : @LT.lt Nat _ b2_123 h123.size := p123_V_b2.lt
  have ne_b101_b2_123_153 : b101 ≠ b2_123 := (by omega : @Ne Nat b101 b2_123)
  have sf154_b101 : Safe Z consts_1 T142.vm h142 b101 := Safe.exa (show Z.Warmed39 T142.vm from hZ142).alike c144_E_b101 (by decide) (by decide)
  have sf155_b2_123 : Safe Z consts_1 T106.vm h107 b2_123 := by
    rcases p123_hor with q | q
    · rw [q]; exact sf140_b2_107
    · exact Safe.new q
  have sf156_b2_123 : Safe Z consts_1 T106.vm h123 b2_123 := Safe.keep Kp123 (sfS sf141_b101 (sfS sf140_b2_107 sf0)) CC4.1 sf155_b2_123
  have sf157_b2_123 : Safe Z consts_1 T142.vm h142 b2_123 := CHr.safe Ch142 (by omega : @LT.lt Nat _ b2_123 h123.size) sf156_b2_123
  have ge158_b2_123 : @LE.le Nat _ n0 b2_123 := by omega
  obtain ⟨b2_143, k2_143, T143, h143, L143, X143, e143, N143, Kp143, p143_E_o, p143_F_value_o, p143_F_coder_o, p143_F_count_o, p143_V_b2, p143_hor, p143_hob, p143_hgb, p143_E_b2, st143⟩ := cw_sapp_S3916 l Z a0 hw b101 b142 d142 q142 5 _ b2_123 k2_123 (ncap (ncap 16 (0 + 8)) ((0 + 8) + wd a)) ((0 + 8) + wd a) _ cs fo da ea h142 n0 (by omega) hx hZ142 hown142 X142 e142 N123 (segle (k := 8) hcl (by decide)) (segle (k := 336) hsl (by decide)) c144_E_b101 c145_F_value_b101 c146_F_coder_b101 c147_F_count_b101 c148_A_b142 c149_V_b2_123 ne_b101_b2_123_153 (hne142 b101 sf154_b101).1 (hne142 b101 sf154_b101).2 (Ne.symm (hne142 b2_123 sf157_b2_123).1) (Ne.symm (hne142 b2_123 sf157_b2_123).2) ge104_b101 ge158_b2_123 (by first | (simp [decV_len]; done) | (simp [decV_len]; omega)) (rfl) c150_E_b2_123 ((own_cp1 a).2.2.1) c152_OL SX (g := (mkF mM 39 #[.val (.ref t), .val (.int a), .val (.int b), .unset, .unset] [(.ref b142), (.ref b101)])) rfl hml.symm rfl (hb hj gp35_14_4.2.2.2) (W := 0) (W0 rfl) (by decide) (by decide)
  have Sz7 : h142.size ≤ h143.size := Kp143.1
  have CC7 : CHr Z consts_1 vB h0 T142.vm h143 := CC6.trans (CHr.keep Kp143 (sfS sf154_b101 (sfS sf157_b2_123 sf0)) CC6.1)
  have c160_OL : Old Z n0 h143 := c152_OL.keep Kp143 (allS ge104_b101 (allS ge158_b2_123 all0))
  obtain ⟨cq159, kq159, q159a, q159b, q159c⟩ := isOf hZ142 e143 p143_E_o
  obtain ⟨_, _, ⟨T159, L159, k159, n159⟩, -, X159, ⟨Lc159, hQ159, l159, y159, z159⟩, st159⟩ := X143.virtualBack hx (y := y24_) (z := y24_) hown142 (mvT hZ142 (wi hw 148 rfl)) (mvT hZ142 (wi hw 149 rfl)) (notFace_of_selects (args := #[]) (mvT hZ142 (wi hw 151 rfl))) (mvT hZ142 (wi hw 151 rfl)) (mvT hZ142 (wi hw 150 rfl)) (by decide) (backOf (W := 0) (rm_toString l Z a0 hw [] b101 b2_143 k2_143 (ncap (ncap (ncap 16 (0 + 8)) ((0 + 8) + wd a)) (((0 + 8) + wd a) + 5)) (((0 + 8) + wd a) + 5) _ cs fo da ea h143 n0 (by omega) p143_E_o p143_F_value_o p143_F_coder_o p143_F_count_o p143_V_b2 (by first | (simp [decV_len]; done) | (simp [decV_len]; omega)) ((own_cp1 a).2.2.2) p143_E_b2 c160_OL SX) hZ142 (wi hw 152 rfl) (wi hw 37 rfl) (by decide) (by decide)) q159a q159c (g := (mkF mM 42 #[.val (.ref t), .val (.int a), .val (.int b), .unset, .unset] [(.ref b101)])) rfl hml.symm (Steps.refl _) (argsL := []) (rest := []) (lenOf pd_23 rfl) rfl (W0 rfl) (hb hj gp35_14_5.1) (fun _ _ => ⟨rfl, e143, segle (k := 9) hcl (by decide), segle (k := 464) hsl (by decide)⟩)
  dsimp only [Pt.U, Pt.locs, Pt.cells, Pt.slots] at X159 l159 y159 z159 st159 hQ159
  subst y159 z159
  obtain ⟨h159, e159⟩ : ∃ z, T159.heap = z := ⟨_, rfl⟩
  rw [e159] at hQ159
  obtain ⟨t_159, b2_159, k2_159, rfl, N159q, Kp159, p159_A_t, p159_gh_t, p159_gh_b2⟩ := hQ159
  have Sz8 : h143.size ≤ h159.size := Kp159.1
  have CC8 : CHr Z consts_1 vB h0 T142.vm h159 := CC7.trans (CHr.keep Kp159 sf0 CC7.1)
  have N159 : Fr n0 L159 := by rw [l159]; exact Fr.app N143 N159q
  have Sf : StrA Z h159 t_159 b2_159 k2_159 (offL a).length (offL a) := by
    have q := p159_A_t
    rw [show (((([] ++ [(.int (32 : Int32)), (.int (79 : Int32)), (.int (70 : Int32)), (.int (70 : Int32)), (.int (83 : Int32)), (.int (69 : Int32)), (.int (84 : Int32)), (.int (32 : Int32))]) ++ decV a) ++ [(.int (32 : Int32)), (.int (82 : Int32)), (.int (79 : Int32)), (.int (87 : Int32)), (.int (83 : Int32))]) : List Value) = (offL a) from (if_neg hc).symm] at q
    rw [show ((((0 + 8) + wd a) + 5) : Nat) = (offL a).length from offL_len hc] at q
    exact q
  have K161 : Keep h0 h101 [] := (Keep.refl h0 []).ext E101
  have K162 : Keep h0 h102 [] := K161.trans Kp102 (allS (Or.inr (by omega : @LE.le Nat _ h0.size b101)) all0)
  have K163 : Keep h0 h106 [] := K162.ext E106
  have K164 : Keep h0 h107 [] := K163.trans Kp107 (allS (Or.inr (by omega : @LE.le Nat _ h0.size b101)) (allS (Or.inr (by omega : @LE.le Nat _ h0.size b_102)) all0))
  have K165 : Keep h0 h123 [] := K164.trans Kp123 (allS (Or.inr (by omega : @LE.le Nat _ h0.size b101)) (allS (Or.inr (by omega : @LE.le Nat _ h0.size b2_107)) all0))
  have K166 : Keep h0 h142 [] := K165.ext E142
  have K167 : Keep h0 h143 [] := K166.trans Kp143 (allS (Or.inr (by omega : @LE.le Nat _ h0.size b101)) (allS (Or.inr (by omega : @LE.le Nat _ h0.size b2_123)) all0))
  have K168 : Keep h0 h159 [] := K167.trans Kp159 all0
  refine ⟨t_159, b2_159, k2_159, T159, h159, _, T142.vm, _, X159, e159, hS142, (by omega), hZ142, hown142, CC8, N159, K168, Sf, fun t' hk' => ?_⟩
  show SS pP eE bS s₁ (mkF mM 12 #[.val (.ref t), .val (.int a), .val (.int b), .unset, .unset] []) _
  refine XS.iloadN X0.here hx rfl (hb hj gp35_14_1.2.2.2) rfl ?_
  refine XS.ifYes X0.here hx rfl (pc0 := 13) (pc' := 21) rfl (hb hj gp35_14_2.1) rfl ((if0 _ _).trans (feq hc).2) (by decide) (by decide) ?_
  refine st101 _ ?_
  refine XS.dup X101.here hx rfl (hb hj gp35_14_3.1) rfl rfl ?_
  refine st102.trans ?_
  refine st106 _ ?_
  refine st107 _ ?_
  refine XS.iloadN X107.here hx rfl (hb hj gp35_14_4.1) rfl ?_
  refine st123 _ ?_
  refine st142 _ ?_
  refine st143 _ ?_
  refine st159.trans ?_
  refine XS.astoreN X159.here hx rfl (hb hj gp35_14_5.2.1) rfl rfl (l' := (Lc_pgo1_0 t a b t_159)) rfl ?_
  exact hk'
theorem sg_pgo (hw : HW a0 Z) (t : Addr) (a : Int32) (b : Int32) (da : Addr) (dk : ClassId) (ea : Addr) (ek : ClassId) (cs : Int32) (fo : Value) {vB : Vm} {kB : Nat} (h0 : Heap) (n0 : Nat) (hS0 : sS.Since vB kB) (hkB : kB ≤ h0.size) (hCH : CHv Z consts_1 vB h0) (G : SG l Z pP eE r8_60_4000_160 (sS.setVm vB) mM aS bS mS cC s₁ lc0 cl0 sl0 h0 n0 prog_35_method_14_code 5 "com/example/tessera/tessera/sql/SqlText" 11 596) (V_da : Arv Z h0 da dk .byte (100 : Int32) onesL (.int (0 : Int32))) (V_ea : Arv Z h0 ea ek .byte (100 : Int32) tensL (.int (0 : Int32))) (hda : @LT.lt Nat _ da n0) (hea : @LT.lt Nat _ ea n0) (OL : Old Z n0 h0) (SX : Sts Z cs fo da ea) :
    ∃ s1 : Addr, ∃ b1 : Addr, ∃ k1 : ClassId, ∃ T' h' L' vE kE, Stand pP l eE r8_60_4000_160 (sS.setVm vE) mM aS bS mS cC T' L' (cl0 + 11) (sl0 + 596) ∧ T'.heap = h' ∧ sS.Since vE kE ∧ kE ≤ h'.size ∧ Z.Warmed39 (sS.setVm vE).vm ∧ (sS.setVm vE).vm.findClass "com/example/tessera/tessera/sql/SqlText" = some mM.cls ∧ CHr Z consts_1 vB h0 vE h' ∧ Fr n0 L' ∧ Keep h0 h' [] ∧ StrA Z h' s1 b1 k1 (offL a).length (offL a) ∧ ∀ t', SS pP eE bS T' (mkF mM 46 #[.val (.ref t), .val (.int a), .val (.int b), .val (.ref s1), .unset] []) t' → SS pP eE bS s₁ (mkF mM 12 #[.val (.ref t), .val (.int a), .val (.int b), .unset, .unset] []) t' := by
  by_cases hc : a = (0 : Int32)
  · exact sg_pgo0 l Z a0 hw t a b da dk ea ek cs h0 n0 hS0 hkB hCH G hc
  · exact sg_pgo1 l Z a0 hw t a b da dk ea ek cs fo h0 n0 hS0 hkB hCH G hc V_da V_ea hda hea OL SX
theorem gp35_14_6 : decode cp35_14 49 = .ok (.if_icmp .ne 8, 3) ∧ decode cp35_14 52 = .ok (.ldc 74, 2) ∧ decode cp35_14 54 = .ok (.goto 27, 3) ∧ decode cp35_14 57 = .ok (.new 13, 3) := by decide +kernel
theorem gp35_14_9 : decode cp35_14 78 = .ok (.invokevirtual 22, 3) ∧ decode cp35_14 81 = .ok (.astore 4, 2) ∧ decode cp35_14 83 = .ok (.new 13, 3) ∧ decode cp35_14 86 = .ok (.dup, 1) := by decide +kernel
theorem gp35_14_7 : decode cp35_14 60 = .ok (.dup, 1) ∧ decode cp35_14 61 = .ok (.invokespecial 15, 3) ∧ decode cp35_14 64 = .ok (.ldc 174, 2) ∧ decode cp35_14 66 = .ok (.invokevirtual 16, 3) := by decide +kernel
theorem own_txt3 : (∀ c ∈ " FETCH FIRST ".toList, c.toNat < 256) ∧ " FETCH FIRST ".toList.map (fun c => Value.int (Jvm.Lit.byteI c.toNat.toUInt16)) = [(.int (32 : Int32)), (.int (70 : Int32)), (.int (69 : Int32)), (.int (84 : Int32)), (.int (67 : Int32)), (.int (72 : Int32)), (.int (32 : Int32)), (.int (70 : Int32)), (.int (73 : Int32)), (.int (82 : Int32)), (.int (83 : Int32)), (.int (84 : Int32)), (.int (32 : Int32))] := by
  constructor
  · decide
  · first | rfl | decide
theorem gp35_14_8 : decode cp35_14 69 = .ok (.iload_n 2, 1) ∧ decode cp35_14 70 = .ok (.invokevirtual 169, 3) ∧ decode cp35_14 73 = .ok (.ldc 176, 2) ∧ decode cp35_14 75 = .ok (.invokevirtual 16, 3) := by decide +kernel
theorem own_txt4 : (∀ c ∈ " ROWS ONLY".toList, c.toNat < 256) ∧ " ROWS ONLY".toList.map (fun c => Value.int (Jvm.Lit.byteI c.toNat.toUInt16)) = [(.int (32 : Int32)), (.int (82 : Int32)), (.int (79 : Int32)), (.int (87 : Int32)), (.int (83 : Int32)), (.int (32 : Int32)), (.int (79 : Int32)), (.int (78 : Int32)), (.int (76 : Int32)), (.int (89 : Int32))] := by
  constructor
  · decide
  · first | rfl | decide
abbrev Lc_pgf0_0 (t : Addr) (a : Int32) (b : Int32) (x3 : Addr) : Array Slot := #[.val (.ref t), .val (.int a), .val (.int b), .val (.ref x3), .unset]
abbrev Lc_pgf0_1 (t : Addr) (a : Int32) (b : Int32) (x3 : Addr) (b101 : Addr) : Array Slot := #[.val (.ref t), .val (.int a), .val (.int b), .val (.ref x3), .val (.ref b101)]
theorem sg_pgf0 (hw : HW a0 Z) (t : Addr) (a : Int32) (b : Int32) (da : Addr) (dk : ClassId) (ea : Addr) (ek : ClassId) (cs : Int32) (x3 : Addr) {vB : Vm} {kB : Nat} (h0 : Heap) (n0 : Nat) (hS0 : sS.Since vB kB) (hkB : kB ≤ h0.size) (hCH : CHv Z consts_1 vB h0) (G : SG l Z pP eE r8_60_4000_160 (sS.setVm vB) mM aS bS mS cC s₁ lc0 cl0 sl0 h0 n0 prog_35_method_14_code 5 "com/example/tessera/tessera/sql/SqlText" 11 636) (hc : b = (2147483647 : Int32)) :
    ∃ s1 : Addr, ∃ b1 : Addr, ∃ k1 : ClassId, ∃ T' h' L' vE kE, Stand pP l eE r8_60_4000_160 (sS.setVm vE) mM aS bS mS cC T' L' (cl0 + 11) (sl0 + 636) ∧ T'.heap = h' ∧ sS.Since vE kE ∧ kE ≤ h'.size ∧ Z.Warmed39 (sS.setVm vE).vm ∧ (sS.setVm vE).vm.findClass "com/example/tessera/tessera/sql/SqlText" = some mM.cls ∧ CHr Z consts_1 vB h0 vE h' ∧ Fr n0 L' ∧ Keep h0 h' [] ∧ StrA Z h' s1 b1 k1 (fetL b).length (fetL b) ∧ ∀ t', SS pP eE bS T' (mkF mM 83 #[.val (.ref t), .val (.int a), .val (.int b), .val (.ref x3), .val (.ref s1)] []) t' → SS pP eE bS s₁ (mkF mM 46 #[.val (.ref t), .val (.int a), .val (.int b), .val (.ref x3), .unset] []) t' := by
  obtain ⟨Z0, hx, hj, hml, hZ0, hown0, X0, e0, N0, hcl, hsl⟩ := id G
  have CC0 : CHr Z consts_1 vB h0 vB h0 := CHr.refl hCH
  obtain ⟨b101, T101, h101, kk101, d101, q101, X101, e101, E101, hS101, hk101, hZ101, hown101, A101, Fc101, Fv101, V101, ltb101, ltd101, Ch101, -, hne101, st101⟩ := ldcCH X0 hx hZ0 hown0 (wi hw 183 rfl) (own_wS hw) e0 hS0 (by omega) (own_EW hw) (List.mem_of_getElem? (i := 0) rfl) CC0.1 (vs := []) (z := (iN 0)) (own_txt0) (by decide) (by rfl) (g := (mkF mM 52 (Lc_pgf0_0 t a b x3) [])) rfl (hb hj gp35_14_6.2.1) (n := 0) (by decide) (by decide) (segle (k := 0) hcl (by decide)) (segle (k := 0) hsl (by decide))
  have Sz1 : h0.size ≤ h101.size := E101.1
  have CC1 : CHr Z consts_1 vB h0 T101.vm h101 := CC0.trans Ch101
  have c102_A_b101 : StrA Z h101 b101 d101 q101 0 [] := ⟨A101, Fv101, Fc101, V101⟩
  have Sf : StrA Z h101 b101 d101 q101 (fetL b).length (fetL b) := by
    have q := c102_A_b101
    rw [show ([] : List Value) = (fetL b) from (if_pos hc).symm] at q
    rw [show (0 : Nat) = (fetL b).length from by rw [fetL, if_pos hc]; rfl] at q
    exact q
  have K103 : Keep h0 h101 [] := (Keep.refl h0 []).ext E101
  refine ⟨b101, d101, q101, T101, h101, _, T101.vm, _, (X101.mono (by omega) (by omega)), e101, hS101, (by omega), hZ101, hown101, CC1, N0, K103, Sf, fun t' hk' => ?_⟩
  show SS pP eE bS s₁ (mkF mM 46 (Lc_pgf0_0 t a b x3) []) _
  refine XS.iloadN X0.here hx rfl (hb hj gp35_14_5.2.2.1) rfl ?_
  refine X0.ldcInt hx hown0 (mvT hZ0 (wi hw 13 rfl)) (g := (mkF mM 47 (Lc_pgf0_0 t a b x3) [(.int b)])) rfl (hb hj gp35_14_5.2.2.2) _ ?_
  refine XS.icmpNo X0.here hx rfl (hb hj gp35_14_6.1) rfl (teq hc).2 ?_
  refine st101 _ ?_
  refine XS.goto X101.here hx rfl (pc0 := 54) (pc' := 81) rfl (hb hj gp35_14_6.2.2.1) (by decide) (by decide) ?_
  refine XS.astore X101.here hx rfl (hb hj gp35_14_9.2.1) rfl rfl (l' := (Lc_pgf0_1 t a b x3 b101)) rfl ?_
  exact hk'
abbrev Lc_pgf1_0 (t : Addr) (a : Int32) (b : Int32) (x3 : Addr) : Array Slot := #[.val (.ref t), .val (.int a), .val (.int b), .val (.ref x3), .unset]
abbrev Lc_pgf1_1 (t : Addr) (a : Int32) (b : Int32) (x3 : Addr) (t_159 : Addr) : Array Slot := #[.val (.ref t), .val (.int a), .val (.int b), .val (.ref x3), .val (.ref t_159)]
theorem sg_pgf1 (hw : HW a0 Z) (t : Addr) (a : Int32) (b : Int32) (da : Addr) (dk : ClassId) (ea : Addr) (ek : ClassId) (cs : Int32) (x3 : Addr) (fo : Value) {vB : Vm} {kB : Nat} (h0 : Heap) (n0 : Nat) (hS0 : sS.Since vB kB) (hkB : kB ≤ h0.size) (hCH : CHv Z consts_1 vB h0) (G : SG l Z pP eE r8_60_4000_160 (sS.setVm vB) mM aS bS mS cC s₁ lc0 cl0 sl0 h0 n0 prog_35_method_14_code 5 "com/example/tessera/tessera/sql/SqlText" 11 636) (hc : ¬ (b = (2147483647 : Int32))) (V_da : Arv Z h0 da dk .byte (100 : Int32) onesL (.int (0 : Int32))) (V_ea : Arv Z h0 ea ek .byte (100 : Int32) tensL (.int (0 : Int32))) (hda : @LT.lt Nat _ da n0) (hea : @LT.lt Nat _ ea n0) (OL : Old Z n0 h0) (SX : Sts Z cs fo da ea) :
    ∃ s1 : Addr, ∃ b1 : Addr, ∃ k1 : ClassId, ∃ T' h' L' vE kE, Stand pP l eE r8_60_4000_160 (sS.setVm vE) mM aS bS mS cC T' L' (cl0 + 11) (sl0 + 636) ∧ T'.heap = h' ∧ sS.Since vE kE ∧ kE ≤ h'.size ∧ Z.Warmed39 (sS.setVm vE).vm ∧ (sS.setVm vE).vm.findClass "com/example/tessera/tessera/sql/SqlText" = some mM.cls ∧ CHr Z consts_1 vB h0 vE h' ∧ Fr n0 L' ∧ Keep h0 h' [] ∧ StrA Z h' s1 b1 k1 (fetL b).length (fetL b) ∧ ∀ t', SS pP eE bS T' (mkF mM 83 #[.val (.ref t), .val (.int a), .val (.int b), .val (.ref x3), .val (.ref s1)] []) t' → SS pP eE bS s₁ (mkF mM 46 #[.val (.ref t), .val (.int a), .val (.int b), .val (.ref x3), .unset] []) t' := by
  obtain ⟨Z0, hx, hj, hml, hZ0, hown0, X0, e0, N0, hcl, hsl⟩ := id G
  have CC0 : CHr Z consts_1 vB h0 vB h0 := CHr.refl hCH
  obtain ⟨T101, h101, X101, e101, E101, A101, D101, B101, st101⟩ := newO X0 hx hZ0 hown0 (wi hw 35 rfl) (wi hw 36 rfl) (wi hw 37 rfl) e0 (g := (mkF mM 57 (Lc_pgf1_0 t a b x3) [])) rfl (hb hj gp35_14_6.2.2.2) (segle (k := 0) hcl (by decide)) (segle (k := 0) hsl (by decide))
  obtain ⟨b101, g101⟩ : ∃ z : Nat, z = h0.size := ⟨_, rfl⟩
  rw [← g101] at A101 D101 B101 st101
  have Sz1 : h0.size ≤ h101.size := E101.1
  have CC1 : CHr Z consts_1 vB h0 vB h101 := CC0.trans (CHr.ext E101 CC0.1)
  have F101_value : Fld Z h101 b101 "java/lang/AbstractStringBuilder" "value" "[B" .null := D101 (Or.inl (wi hw 50 rfl)) (ty := (.array .byte)) (by decide)
  have F101_coder : Fld Z h101 b101 "java/lang/AbstractStringBuilder" "coder" "B" (.int (0 : Int32)) := D101 (Or.inl (wi hw 52 rfl)) (ty := .byte) (by decide)
  have F101_count : Fld Z h101 b101 "java/lang/AbstractStringBuilder" "count" "I" (.int (0 : Int32)) := D101 (Or.inl (wi hw 75 rfl)) (ty := .int) (by decide)
  have c103_OL : Old Z n0 h101 := OL.ext E101
  have ge104_b101 : @LE.le Nat _ n0 b101 := by omega
  obtain ⟨_, _, ⟨T102, L102, k102, n102⟩, -, X102, ⟨Lc102, hQ102, l102, y102, z102⟩, st102⟩ := X101.specialBack hx (y := y3_) rfl hown0 (mvT hZ0 (wi hw 38 rfl)) (mvT hZ0 (wi hw 39 rfl)) (mvT hZ0 (wi hw 40 rfl)) (by decide) (backOf (W := 1) (rm_sb_init l Z a0 hw [] b101 .null (.int (0 : Int32)) (.int (0 : Int32)) cs fo da ea h101 n0 (by omega) A101 F101_value F101_coder F101_count ge104_b101 c103_OL SX) hZ0 (wi hw 40 rfl) (wi hw 37 rfl) (by decide) (by decide)) (g := (mkF mM 61 (Lc_pgf1_0 t a b x3) [(.ref b101), (.ref b101)])) rfl hml.symm (Steps.refl _) (a := b101) (argsL := []) (rest := [(.ref b101)]) (lenOf pd_5 rfl) rfl (W0 rfl) (hb hj gp35_14_7.2.1) (fun _ _ => ⟨rfl, e101, segle (k := 1) hcl (by decide), segle (k := 4) hsl (by decide)⟩)
  dsimp only [Pt.U, Pt.locs, Pt.cells, Pt.slots] at X102 l102 y102 z102 st102 hQ102
  subst y102 z102
  obtain ⟨h102, e102⟩ : ∃ z, T102.heap = z := ⟨_, rfl⟩
  rw [e102] at hQ102
  obtain ⟨b_102, k_102, rfl, N102q, Kp102, p102_E_o, p102_F_value_o, p102_F_coder_o, p102_F_count_o, p102_V_b, p102_gh_b, p102_E_b⟩ := hQ102
  have Sz2 : h101.size ≤ h102.size := Kp102.1
  have sf105_b101 : Safe Z consts_1 vB h101 b101 := Safe.exa (show Z.Warmed39 vB from hZ0).alike A101 (by decide) (by decide)
  have CC2 : CHr Z consts_1 vB h0 vB h102 := CC1.trans (CHr.keep Kp102 (sfS sf105_b101 sf0) CC1.1)
  have N102 : Fr n0 L102 := by rw [l102]; exact Fr.app N0 N102q
  obtain ⟨b106, T106, h106, kk106, d106, q106, X106, e106, E106, hS106, hk106, hZ106, hown106, A106, Fc106, Fv106, V106, ltb106, ltd106, Ch106, -, hne106, st106⟩ := ldcCH X102 hx hZ0 hown0 (wi hw 234 rfl) (own_wS hw) e102 hS0 (by omega) (own_EW hw) (List.mem_of_getElem? (i := 3) rfl) CC2.1 (vs := [(.int (32 : Int32)), (.int (70 : Int32)), (.int (69 : Int32)), (.int (84 : Int32)), (.int (67 : Int32)), (.int (72 : Int32)), (.int (32 : Int32)), (.int (70 : Int32)), (.int (73 : Int32)), (.int (82 : Int32)), (.int (83 : Int32)), (.int (84 : Int32)), (.int (32 : Int32))]) (z := (iN 13)) (own_txt3) (by decide) (by rfl) (g := (mkF mM 64 (Lc_pgf1_0 t a b x3) [(.ref b101)])) rfl (hb hj gp35_14_7.2.2.1) (n := 52) (by decide) (by decide) (segle (k := 2) hcl (by decide)) (segle (k := 20) hsl (by decide))
  have Sz3 : h102.size ≤ h106.size := E106.1
  have CC3 : CHr Z consts_1 vB h0 T106.vm h106 := CC2.trans Ch106
  have c108_E_b101 : Exa Z h106 b101 "java/lang/StringBuilder" := Exa.ext E106 p102_E_o
  have c109_F_value_b101 : Fld Z h106 b101 "java/lang/AbstractStringBuilder" "value" "[B" (.ref b_102) := Fld.ext E106 p102_F_value_o
  have c110_F_coder_b101 : Fld Z h106 b101 "java/lang/AbstractStringBuilder" "coder" "B" (.int (0 : Int32)) := Fld.ext E106 p102_F_coder_o
  have c111_F_count_b101 : Fld Z h106 b101 "java/lang/AbstractStringBuilder" "count" "I" (.int (0 : Int32)) := Fld.ext E106 p102_F_count_o
  have c112_A_b106 : StrA Z h106 b106 d106 q106 13 [(.int (32 : Int32)), (.int (70 : Int32)), (.int (69 : Int32)), (.int (84 : Int32)), (.int (67 : Int32)), (.int (72 : Int32)), (.int (32 : Int32)), (.int (70 : Int32)), (.int (73 : Int32)), (.int (82 : Int32)), (.int (83 : Int32)), (.int (84 : Int32)), (.int (32 : Int32))] := ⟨A106, Fv106, Fc106, V106⟩
  have c113_V_b_102 : Arv Z h106 b_102 k_102 .byte (iN 16) [] (.int (0 : Int32)) := p102_V_b.ext E106
  have c114_E_b_102 : Exa Z h106 b_102 "[B" := Exa.ext E106 p102_E_b
  have c115_OL : Old Z n0 h102 := c103_OL.keep Kp102 (allS ge104_b101 all0)
  have c116_OL : Old Z n0 h106 := c115_OL.ext E106
  have lt_b101 : @LT.lt Nat _ b101 h101.size := A101.lt
  have lt_b_102 : @LT.lt Nat _ b_102 h102.size := p102_V_b.lt
  have ne_b101_b_102_117 : b101 ≠ b_102 := (by omega : @Ne Nat b101 b_102)
  have sf118_b101 : Safe Z consts_1 T106.vm h106 b101 := Safe.exa (show Z.Warmed39 T106.vm from hZ106).alike c108_E_b101 (by decide) (by decide)
  have sf119_b_102 : Safe Z consts_1 vB h101 b_102 := Safe.new (by omega)
  have sf120_b_102 : Safe Z consts_1 vB h102 b_102 := Safe.keep Kp102 (sfS sf105_b101 sf0) CC1.1 sf119_b_102
  have sf121_b_102 : Safe Z consts_1 T106.vm h106 b_102 := CHr.safe Ch106 (by omega : @LT.lt Nat _ b_102 h102.size) sf120_b_102
  have ge122_b_102 : @LE.le Nat _ n0 b_102 := by omega
  obtain ⟨b2_107, k2_107, T107, h107, L107, X107, e107, N107, Kp107, p107_E_o, p107_F_value_o, p107_F_coder_o, p107_F_count_o, p107_V_b2, p107_hor, p107_hob, p107_hgb, p107_E_b2, st107⟩ := cw_sapp_S3916 l Z a0 hw b101 b106 d106 q106 13 _ b_102 k_102 16 0 [] cs fo da ea h106 n0 (by omega) hx hZ106 hown106 X106 e106 N102 (segle (k := 4) hcl (by decide)) (segle (k := 76) hsl (by decide)) c108_E_b101 c109_F_value_b101 c110_F_coder_b101 c111_F_count_b101 c112_A_b106 c113_V_b_102 ne_b101_b_102_117 (hne106 b101 sf118_b101).1 (hne106 b101 sf118_b101).2 (Ne.symm (hne106 b_102 sf121_b_102).1) (Ne.symm (hne106 b_102 sf121_b_102).2) ge104_b101 ge122_b_102 (by decide) (rfl) c114_E_b_102 ((own_cp2 b).1) c116_OL SX (g := (mkF mM 66 (Lc_pgf1_0 t a b x3) [(.ref b106), (.ref b101)])) rfl hml.symm rfl (hb hj gp35_14_7.2.2.2) (W := 0) (W0 rfl) (by decide) (by decide)
  have Sz4 : h106.size ≤ h107.size := Kp107.1
  have CC4 : CHr Z consts_1 vB h0 T106.vm h107 := CC3.trans (CHr.keep Kp107 (sfS sf118_b101 (sfS sf121_b_102 sf0)) CC3.1)
  have c124_V_da : Arv Z h101 da dk .byte (100 : Int32) onesL (.int (0 : Int32)) := V_da.ext E101
  have lt_da : @LT.lt Nat _ da h0.size := V_da.lt
  have ne_da_b101_125 : da ≠ b101 := (by omega : @Ne Nat da b101)
  have c126_V_da : Arv Z h102 da dk .byte (100 : Int32) onesL (.int (0 : Int32)) := c124_V_da.keep Kp102 (ninS ne_da_b101_125 nin0)
  have c127_V_da : Arv Z h106 da dk .byte (100 : Int32) onesL (.int (0 : Int32)) := c126_V_da.ext E106
  have ne_da_b_102_128 : da ≠ b_102 := (by omega : @Ne Nat da b_102)
  have c129_V_da : Arv Z h107 da dk .byte (100 : Int32) onesL (.int (0 : Int32)) := c127_V_da.keep Kp107 (ninS ne_da_b101_125 (ninS ne_da_b_102_128 nin0))
  have c130_V_ea : Arv Z h101 ea ek .byte (100 : Int32) tensL (.int (0 : Int32)) := V_ea.ext E101
  have lt_ea : @LT.lt Nat _ ea h0.size := V_ea.lt
  have ne_ea_b101_131 : ea ≠ b101 := (by omega : @Ne Nat ea b101)
  have c132_V_ea : Arv Z h102 ea ek .byte (100 : Int32) tensL (.int (0 : Int32)) := c130_V_ea.keep Kp102 (ninS ne_ea_b101_131 nin0)
  have c133_V_ea : Arv Z h106 ea ek .byte (100 : Int32) tensL (.int (0 : Int32)) := c132_V_ea.ext E106
  have ne_ea_b_102_134 : ea ≠ b_102 := (by omega : @Ne Nat ea b_102)
  have c135_V_ea : Arv Z h107 ea ek .byte (100 : Int32) tensL (.int (0 : Int32)) := c133_V_ea.keep Kp107 (ninS ne_ea_b101_131 (ninS ne_ea_b_102_134 nin0))
  have c136_OL : Old Z n0 h107 := c116_OL.keep Kp107 (allS ge104_b101 (allS ge122_b_102 all0))
  have lt_b2_107 : @LT.lt Nat _ b2_107 h107.size := p107_V_b2.lt
  have ne_b101_b2_107_137 : b101 ≠ b2_107 := (by omega : @Ne Nat b101 b2_107)
  have ge138_b2_107 : @LE.le Nat _ n0 b2_107 := by omega
  obtain ⟨b2_123, k2_123, T123, h123, L123, X123, e123, N123, Kp123, p123_E_o, p123_F_value_o, p123_F_coder_o, p123_F_count_o, p123_V_b2, p123_hor, p123_hob, p123_hgb, p123_E_b2, st123⟩ := cw_sappI_S39169 l Z a0 hw b101 b b2_107 k2_107 (ncap 16 (0 + 13)) (0 + 13) _ da dk ea ek cs fo h107 n0 (by omega) hx hZ106 hown106 X107 e107 N107 (segle (k := 5) hcl (by decide)) (segle (k := 204) hsl (by decide)) p107_E_o p107_F_value_o p107_F_coder_o p107_F_count_o p107_V_b2 ne_b101_b2_107_137 ge104_b101 ge138_b2_107 (rfl) ((own_cp2 b).2.1) p107_E_b2 c129_V_da c135_V_ea hda hea c136_OL SX (g := (mkF mM 70 (Lc_pgf1_0 t a b x3) [(.int b), (.ref b101)])) rfl hml.symm rfl (hb hj gp35_14_8.2.1) (W := 0) (W0 rfl) (by decide) (by decide)
  have Sz5 : h107.size ≤ h123.size := Kp123.1
  have sf139_b2_107 : Safe Z consts_1 T106.vm h106 b2_107 := by
    rcases p107_hor with q | q
    · rw [q]; exact sf121_b_102
    · exact Safe.new q
  have sf140_b2_107 : Safe Z consts_1 T106.vm h107 b2_107 := Safe.keep Kp107 (sfS sf118_b101 (sfS sf121_b_102 sf0)) CC3.1 sf139_b2_107
  have sf141_b101 : Safe Z consts_1 T106.vm h107 b101 := Safe.exa (show Z.Warmed39 T106.vm from hZ106).alike p107_E_o (by decide) (by decide)
  have CC5 : CHr Z consts_1 vB h0 T106.vm h123 := CC4.trans (CHr.keep Kp123 (sfS sf141_b101 (sfS sf140_b2_107 sf0)) CC4.1)
  obtain ⟨b142, T142, h142, kk142, d142, q142, X142, e142, E142, hS142, hk142, hZ142, hown142, A142, Fc142, Fv142, V142, ltb142, ltd142, Ch142, -, hne142, st142⟩ := ldcCH X123 hx hZ106 hown106 (wi hw 235 rfl) (own_wS hw) e123 hS106 (by omega) (own_EW hw) (List.mem_of_getElem? (i := 4) rfl) CC5.1 (vs := [(.int (32 : Int32)), (.int (82 : Int32)), (.int (79 : Int32)), (.int (87 : Int32)), (.int (83 : Int32)), (.int (32 : Int32)), (.int (79 : Int32)), (.int (78 : Int32)), (.int (76 : Int32)), (.int (89 : Int32))]) (z := (iN 10)) (own_txt4) (by decide) (by rfl) (g := (mkF mM 73 (Lc_pgf1_0 t a b x3) [(.ref b101)])) rfl (hb hj gp35_14_8.2.2.1) (n := 40) (by decide) (by decide) (segle (k := 6) hcl (by decide)) (segle (k := 332) hsl (by decide))
  have Sz6 : h123.size ≤ h142.size := E142.1
  have CC6 : CHr Z consts_1 vB h0 T142.vm h142 := CC5.trans Ch142
  have c144_E_b101 : Exa Z h142 b101 "java/lang/StringBuilder" := Exa.ext E142 p123_E_o
  have c145_F_value_b101 : Fld Z h142 b101 "java/lang/AbstractStringBuilder" "value" "[B" (.ref b2_123) := Fld.ext E142 p123_F_value_o
  have c146_F_coder_b101 : Fld Z h142 b101 "java/lang/AbstractStringBuilder" "coder" "B" (.int (0 : Int32)) := Fld.ext E142 p123_F_coder_o
  have c147_F_count_b101 : Fld Z h142 b101 "java/lang/AbstractStringBuilder" "count" "I" (.int (iN ((0 + 13) + wd b))) := Fld.ext E142 p123_F_count_o
  have c148_A_b142 : StrA Z h142 b142 d142 q142 10 [(.int (32 : Int32)), (.int (82 : Int32)), (.int (79 : Int32)), (.int (87 : Int32)), (.int (83 : Int32)), (.int (32 : Int32)), (.int (79 : Int32)), (.int (78 : Int32)), (.int (76 : Int32)), (.int (89 : Int32))] := ⟨A142, Fv142, Fc142, V142⟩
  have c149_V_b2_123 : Arv Z h142 b2_123 k2_123 .byte (iN (ncap (ncap 16 (0 + 13)) ((0 + 13) + wd b))) (([] ++ [(.int (32 : Int32)), (.int (70 : Int32)), (.int (69 : Int32)), (.int (84 : Int32)), (.int (67 : Int32)), (.int (72 : Int32)), (.int (32 : Int32)), (.int (70 : Int32)), (.int (73 : Int32)), (.int (82 : Int32)), (.int (83 : Int32)), (.int (84 : Int32)), (.int (32 : Int32))]) ++ decV b) (.int (0 : Int32)) := p123_V_b2.ext E142
  have c150_E_b2_123 : Exa Z h142 b2_123 "[B" := Exa.ext E142 p123_E_b2
  have c151_OL : Old Z n0 h123 := c136_OL.keep Kp123 (allS ge104_b101 (allS ge138_b2_107 all0))
  have c152_OL : Old Z n0 h142 := c151_OL.ext E142
  have lt_b2_123 : @LT.lt Nat _ b2_123 h123.size := p123_V_b2.lt
  have ne_b101_b2_123_153 : b101 ≠ b2_123 := (by omega : @Ne Nat b101 b2_123)
  have sf154_b101 : Safe Z consts_1 T142.vm h142 b101 := Safe.exa (show Z.Warmed39 T142.vm from hZ142).alike c144_E_b101 (by decide) (by decide)
  have sf155_b2_123 : Safe Z consts_1 T106.vm h107 b2_123 := by
    rcases p123_hor with q | q
    · rw [q]; exact sf140_b2_107
    · exact Safe.new q
  have sf156_b2_123 : Safe Z consts_1 T106.vm h123 b2_123 := Safe.keep Kp123 (sfS sf141_b101 (sfS sf140_b2_107 sf0)) CC4.1 sf155_b2_123
  have sf157_b2_123 : Safe Z consts_1 T142.vm h142 b2_123 := CHr.safe Ch142 (by omega : @LT.lt Nat _ b2_123 h123.size) sf156_b2_123
  have ge158_b2_123 : @LE.le Nat _ n0 b2_123 := by omega
  obtain ⟨b2_143, k2_143, T143, h143, L143, X143, e143, N143, Kp143, p143_E_o, p143_F_value_o, p143_F_coder_o, p143_F_count_o, p143_V_b2, p143_hor, p143_hob, p143_hgb, p143_E_b2, st143⟩ := cw_sapp_S3916 l Z a0 hw b101 b142 d142 q142 10 _ b2_123 k2_123 (ncap (ncap 16 (0 + 13)) ((0 + 13) + wd b)) ((0 + 13) + wd b) _ cs fo da ea h142 n0 (by omega) hx hZ142 hown142 X142 e142 N123 (segle (k := 8) hcl (by decide)) (segle (k := 376) hsl (by decide)) c144_E_b101 c145_F_value_b101 c146_F_coder_b101 c147_F_count_b101 c148_A_b142 c149_V_b2_123 ne_b101_b2_123_153 (hne142 b101 sf154_b101).1 (hne142 b101 sf154_b101).2 (Ne.symm (hne142 b2_123 sf157_b2_123).1) (Ne.symm (hne142 b2_123 sf157_b2_123).2) ge104_b101 ge158_b2_123 (by first | (simp [decV_len]; done) | (simp [decV_len]; omega)) (rfl) c150_E_b2_123 ((own_cp2 b).2.2.1) c152_OL SX (g := (mkF mM 75 (Lc_pgf1_0 t a b x3) [(.ref b142), (.ref b101)])) rfl hml.symm rfl (hb hj gp35_14_8.2.2.2) (W := 0) (W0 rfl) (by decide) (by decide)
  have Sz7 : h142.size ≤ h143.size := Kp143.1
  have CC7 : CHr Z consts_1 vB h0 T142.vm h143 := CC6.trans (CHr.keep Kp143 (sfS sf154_b101 (sfS sf157_b2_123 sf0)) CC6.1)
  have c160_OL : Old Z n0 h143 := c152_OL.keep Kp143 (allS ge104_b101 (allS ge158_b2_123 all0))
  obtain ⟨cq159, kq159, q159a, q159b, q159c⟩ := isOf hZ142 e143 p143_E_o
  obtain ⟨_, _, ⟨T159, L159, k159, n159⟩, -, X159, ⟨Lc159, hQ159, l159, y159, z159⟩, st159⟩ := X143.virtualBack hx (y := y24_) (z := y24_) hown142 (mvT hZ142 (wi hw 148 rfl)) (mvT hZ142 (wi hw 149 rfl)) (notFace_of_selects (args := #[]) (mvT hZ142 (wi hw 151 rfl))) (mvT hZ142 (wi hw 151 rfl)) (mvT hZ142 (wi hw 150 rfl)) (by decide) (backOf (W := 0) (rm_toString l Z a0 hw [] b101 b2_143 k2_143 (ncap (ncap (ncap 16 (0 + 13)) ((0 + 13) + wd b)) (((0 + 13) + wd b) + 10)) (((0 + 13) + wd b) + 10) _ cs fo da ea h143 n0 (by omega) p143_E_o p143_F_value_o p143_F_coder_o p143_F_count_o p143_V_b2 (by first | (simp [decV_len]; done) | (simp [decV_len]; omega)) ((own_cp2 b).2.2.2) p143_E_b2 c160_OL SX) hZ142 (wi hw 152 rfl) (wi hw 37 rfl) (by decide) (by decide)) q159a q159c (g := (mkF mM 78 (Lc_pgf1_0 t a b x3) [(.ref b101)])) rfl hml.symm (Steps.refl _) (argsL := []) (rest := []) (lenOf pd_23 rfl) rfl (W0 rfl) (hb hj gp35_14_9.1) (fun _ _ => ⟨rfl, e143, segle (k := 9) hcl (by decide), segle (k := 504) hsl (by decide)⟩)
  dsimp only [Pt.U, Pt.locs, Pt.cells, Pt.slots] at X159 l159 y159 z159 st159 hQ159
  subst y159 z159
  obtain ⟨h159, e159⟩ : ∃ z, T159.heap = z := ⟨_, rfl⟩
  rw [e159] at hQ159
  obtain ⟨t_159, b2_159, k2_159, rfl, N159q, Kp159, p159_A_t, p159_gh_t, p159_gh_b2⟩ := hQ159
  have Sz8 : h143.size ≤ h159.size := Kp159.1
  have CC8 : CHr Z consts_1 vB h0 T142.vm h159 := CC7.trans (CHr.keep Kp159 sf0 CC7.1)
  have N159 : Fr n0 L159 := by rw [l159]; exact Fr.app N143 N159q
  have Sf : StrA Z h159 t_159 b2_159 k2_159 (fetL b).length (fetL b) := by
    have q := p159_A_t
    rw [show (((([] ++ [(.int (32 : Int32)), (.int (70 : Int32)), (.int (69 : Int32)), (.int (84 : Int32)), (.int (67 : Int32)), (.int (72 : Int32)), (.int (32 : Int32)), (.int (70 : Int32)), (.int (73 : Int32)), (.int (82 : Int32)), (.int (83 : Int32)), (.int (84 : Int32)), (.int (32 : Int32))]) ++ decV b) ++ [(.int (32 : Int32)), (.int (82 : Int32)), (.int (79 : Int32)), (.int (87 : Int32)), (.int (83 : Int32)), (.int (32 : Int32)), (.int (79 : Int32)), (.int (78 : Int32)), (.int (76 : Int32)), (.int (89 : Int32))]) : List Value) = (fetL b) from (if_neg hc).symm] at q
    rw [show ((((0 + 13) + wd b) + 10) : Nat) = (fetL b).length from fetL_len hc] at q
    exact q
  have K161 : Keep h0 h101 [] := (Keep.refl h0 []).ext E101
  have K162 : Keep h0 h102 [] := K161.trans Kp102 (allS (Or.inr (by omega : @LE.le Nat _ h0.size b101)) all0)
  have K163 : Keep h0 h106 [] := K162.ext E106
  have K164 : Keep h0 h107 [] := K163.trans Kp107 (allS (Or.inr (by omega : @LE.le Nat _ h0.size b101)) (allS (Or.inr (by omega : @LE.le Nat _ h0.size b_102)) all0))
  have K165 : Keep h0 h123 [] := K164.trans Kp123 (allS (Or.inr (by omega : @LE.le Nat _ h0.size b101)) (allS (Or.inr (by omega : @LE.le Nat _ h0.size b2_107)) all0))
  have K166 : Keep h0 h142 [] := K165.ext E142
  have K167 : Keep h0 h143 [] := K166.trans Kp143 (allS (Or.inr (by omega : @LE.le Nat _ h0.size b101)) (allS (Or.inr (by omega : @LE.le Nat _ h0.size b2_123)) all0))
  have K168 : Keep h0 h159 [] := K167.trans Kp159 all0
  refine ⟨t_159, b2_159, k2_159, T159, h159, _, T142.vm, _, X159, e159, hS142, (by omega), hZ142, hown142, CC8, N159, K168, Sf, fun t' hk' => ?_⟩
  show SS pP eE bS s₁ (mkF mM 46 (Lc_pgf1_0 t a b x3) []) _
  refine XS.iloadN X0.here hx rfl (hb hj gp35_14_5.2.2.1) rfl ?_
  refine X0.ldcInt hx hown0 (mvT hZ0 (wi hw 13 rfl)) (g := (mkF mM 47 (Lc_pgf1_0 t a b x3) [(.int b)])) rfl (hb hj gp35_14_5.2.2.2) _ ?_
  refine XS.icmpYes X0.here hx rfl (pc0 := 49) (pc' := 57) rfl (hb hj gp35_14_6.1) rfl (feq hc).2 (by decide) (by decide) ?_
  refine st101 _ ?_
  refine XS.dup X101.here hx rfl (hb hj gp35_14_7.1) rfl rfl ?_
  refine st102.trans ?_
  refine st106 _ ?_
  refine st107 _ ?_
  refine XS.iloadN X107.here hx rfl (hb hj gp35_14_8.1) rfl ?_
  refine st123 _ ?_
  refine st142 _ ?_
  refine st143 _ ?_
  refine st159.trans ?_
  refine XS.astore X159.here hx rfl (hb hj gp35_14_9.2.1) rfl rfl (l' := (Lc_pgf1_1 t a b x3 t_159)) rfl ?_
  exact hk'
theorem sg_pgf (hw : HW a0 Z) (t : Addr) (a : Int32) (b : Int32) (da : Addr) (dk : ClassId) (ea : Addr) (ek : ClassId) (cs : Int32) (x3 : Addr) (fo : Value) {vB : Vm} {kB : Nat} (h0 : Heap) (n0 : Nat) (hS0 : sS.Since vB kB) (hkB : kB ≤ h0.size) (hCH : CHv Z consts_1 vB h0) (G : SG l Z pP eE r8_60_4000_160 (sS.setVm vB) mM aS bS mS cC s₁ lc0 cl0 sl0 h0 n0 prog_35_method_14_code 5 "com/example/tessera/tessera/sql/SqlText" 11 636) (V_da : Arv Z h0 da dk .byte (100 : Int32) onesL (.int (0 : Int32))) (V_ea : Arv Z h0 ea ek .byte (100 : Int32) tensL (.int (0 : Int32))) (hda : @LT.lt Nat _ da n0) (hea : @LT.lt Nat _ ea n0) (OL : Old Z n0 h0) (SX : Sts Z cs fo da ea) :
    ∃ s1 : Addr, ∃ b1 : Addr, ∃ k1 : ClassId, ∃ T' h' L' vE kE, Stand pP l eE r8_60_4000_160 (sS.setVm vE) mM aS bS mS cC T' L' (cl0 + 11) (sl0 + 636) ∧ T'.heap = h' ∧ sS.Since vE kE ∧ kE ≤ h'.size ∧ Z.Warmed39 (sS.setVm vE).vm ∧ (sS.setVm vE).vm.findClass "com/example/tessera/tessera/sql/SqlText" = some mM.cls ∧ CHr Z consts_1 vB h0 vE h' ∧ Fr n0 L' ∧ Keep h0 h' [] ∧ StrA Z h' s1 b1 k1 (fetL b).length (fetL b) ∧ ∀ t', SS pP eE bS T' (mkF mM 83 #[.val (.ref t), .val (.int a), .val (.int b), .val (.ref x3), .val (.ref s1)] []) t' → SS pP eE bS s₁ (mkF mM 46 #[.val (.ref t), .val (.int a), .val (.int b), .val (.ref x3), .unset] []) t' := by
  by_cases hc : b = (2147483647 : Int32)
  · exact sg_pgf0 l Z a0 hw t a b da dk ea ek cs x3 h0 n0 hS0 hkB hCH G hc
  · exact sg_pgf1 l Z a0 hw t a b da dk ea ek cs x3 fo h0 n0 hS0 hkB hCH G hc V_da V_ea hda hea OL SX
theorem gp35_14_0 : decode cp35_14 0 = .ok (.iload_n 1, 1) ∧ decode cp35_14 1 = .ok (.ifCond .ne 11, 3) ∧ decode cp35_14 4 = .ok (.iload_n 2, 1) ∧ decode cp35_14 5 = .ok (.ldc 166, 2) := by decide +kernel
abbrev y43_ : MethodName := ⟨"com/example/tessera/tessera/sql/SqlText", "paged", "(Ljava/lang/String;II)Ljava/lang/String;"⟩
theorem pn_com_example_tessera_tessera_sql_SqlText : plainName "com/example/tessera/tessera/sql/SqlText" = true := by first | (simp [plainName, overriddenIn]; done) | decide +kernel
def Q_pgE (Z : State) (t : Addr) (a : Int32) (b : Int32) (h0 : Heap) (n0 : Nat) (xv : Option Value) (xh : Heap) (xL : List Loc) : Prop := xv = some (.ref t) ∧ Fr n0 xL ∧ xh = h0
theorem ef_pgE (mM : MethodId) (t : Addr) (a : Int32) (b : Int32) : entryFrame mM #[(.ref t), (.int a), (.int b)] 5 = mkF mM 0 #[.val (.ref t), .val (.int a), .val (.int b), .unset, .unset] [] := by
  first | (simp [entryFrame, mkF, argsToLocals, Value.category]; done) | rfl
theorem rm_pgE (hw : HW a0 Z) (ws : List Jvm.Cond) (t : Addr) (a : Int32) (b : Int32) (h0 : Heap) (n0 : Nat) (Z0 : n0 ≤ h0.size) (ha : a = (0 : Int32)) (hbd : b = (2147483647 : Int32)) :
    MF l y43_ prog_35_method_14_code 5 (some (.object "java/lang/String")) ws r0_0_0_0 #[(.ref t), (.int a), (.int b)] Z h0 (Q_pgE Z t a b h0 n0) := by
  refine MetFree.of_bodySF (plainFor_of_name pn_com_example_tessera_tessera_sql_SqlText) hisR ?_
  intro pP eE sS mM aS bS mS cC s₁ Bd hml0 hP hK
  obtain ⟨rfl, hZ, hh⟩ := hP
  have hx := Bd.exec
  have hj := Bd.bytes
  have hml : cC.maxLocals = 5 := hml0
  have hown : sS.vm.findClass "com/example/tessera/tessera/sql/SqlText" = some mM.cls := findClass_of_methodNamed Bd.named
  have X0 : Stand pP l eE r0_0_0_0 sS mM _ bS mS cC s₁ [] 0 0 := Stand.of_body Bd
  have e0 : s₁.heap = h0 := by rw [← hh, Bd.state]; rfl
  have N0 := Fr.nil n0
  obtain ⟨fs, hr, hrun, hended, hW, hsame⟩ := X0.leave (v := some (.ref t)) (fun h => by rw [Bd.returns] at h; cases h)
  refine ⟨_, _, castTop (ef_pgE mM t a b) ?_, hrun, hended, _, _, rfl, ?_, ⟨_, rfl⟩, hW, hsame.mono (by decide) (by decide)⟩
  · show SS pP eE bS s₁ (mkF mM 0 #[.val (.ref t), .val (.int a), .val (.int b), .unset, .unset] []) _
    refine XS.iloadN X0.here hx rfl (hb hj gp35_14_0.1) rfl ?_
    refine XS.ifNo X0.here hx rfl (hb hj gp35_14_0.2.1) rfl ((if0 _ _).trans (teq ha).2) ?_
    refine XS.iloadN X0.here hx rfl (hb hj gp35_14_0.2.2.1) rfl ?_
    refine X0.ldcInt hx hown (mvT hZ (wi hw 13 rfl)) (g := (mkF mM 5 #[.val (.ref t), .val (.int a), .val (.int b), .unset, .unset] [(.int b)])) rfl (hb hj gp35_14_0.2.2.2) _ ?_
    refine XS.icmpNo X0.here hx rfl (hb hj gp35_14_1.1) rfl (teq hbd).2 ?_
    refine XS.aloadN X0.here hx rfl (hb hj gp35_14_1.2.1) rfl rfl ?_
    jvm_step X0.here [X0.here.top, hx, (hb hj gp35_14_1.2.2.1), X0.method', Bd.returns, Value.isRef, FieldType.isReference]
    first | (intro acts; rw [hr _ acts rfl rfl rfl]) | rw [hr _ _ rfl rfl rfl]
    exact Steps.refl _
  · show Q_pgE Z t a b h0 n0 _ s₁.heap _
    rw [e0]
    exact ⟨rfl, N0, rfl⟩
theorem gp35_14_10 : decode cp35_14 87 = .ok (.invokespecial 15, 3) ∧ decode cp35_14 90 = .ok (.aload_n 0, 1) ∧ decode cp35_14 91 = .ok (.invokevirtual 16, 3) ∧ decode cp35_14 94 = .ok (.aload_n 3, 1) := by decide +kernel
theorem gp35_14_11 : decode cp35_14 95 = .ok (.invokevirtual 16, 3) ∧ decode cp35_14 98 = .ok (.aload 4, 2) ∧ decode cp35_14 100 = .ok (.invokevirtual 16, 3) ∧ decode cp35_14 103 = .ok (.invokevirtual 22, 3) := by decide +kernel
theorem gp35_14_12 : decode cp35_14 106 = .ok (.areturn, 1) := by decide +kernel
def Q_pgM (Z : State) (t : Addr) (tb : Addr) (tk : ClassId) (z : Nat) (ys : List Value) (a : Int32) (b : Int32) (da : Addr) (dk : ClassId) (ea : Addr) (ek : ClassId) (cs : Int32) (fo : Value) (h0 : Heap) (n0 : Nat) (xv : Option Value) (xh : Heap) (xL : List Loc) : Prop := ∃ r : Addr, ∃ rb : Addr, ∃ rk : ClassId, xv = some (.ref r) ∧ Fr n0 xL ∧ Keep h0 xh [] ∧ StrA Z xh r rb rk (((0 + z) + (offL a).length) + (fetL b).length) ((([] ++ ys) ++ offL a) ++ fetL b)
abbrev Lc_pgM_0 (t : Addr) (a : Int32) (b : Int32) (s1_102 : Addr) (s1_103 : Addr) : Array Slot := #[.val (.ref t), .val (.int a), .val (.int b), .val (.ref s1_102), .val (.ref s1_103)]
theorem ef_pgM (mM : MethodId) (t : Addr) (tb : Addr) (tk : ClassId) (z : Nat) (ys : List Value) (a : Int32) (b : Int32) (da : Addr) (dk : ClassId) (ea : Addr) (ek : ClassId) (cs : Int32) (fo : Value) : entryFrame mM #[(.ref t), (.int a), (.int b)] 5 = mkF mM 0 #[.val (.ref t), .val (.int a), .val (.int b), .unset, .unset] [] := by
  first | (simp [entryFrame, mkF, argsToLocals, Value.category]; done) | rfl
theorem rm_pgM (hw : HW a0 Z) (ws : List Jvm.Cond) (t : Addr) (tb : Addr) (tk : ClassId) (z : Nat) (ys : List Value) (a : Int32) (b : Int32) (da : Addr) (dk : ClassId) (ea : Addr) (ek : ClassId) (cs : Int32) (fo : Value) (h0 : Heap) (n0 : Nat) (Z0 : n0 ≤ h0.size) (A_t : StrA Z h0 t tb tk z ys) (hz : ys.length = z) (hz2 : z ≤ 2) (hnb : ¬ (a = (0 : Int32) ∧ b = (2147483647 : Int32))) (V_da : Arv Z h0 da dk .byte (100 : Int32) onesL (.int (0 : Int32))) (V_ea : Arv Z h0 ea ek .byte (100 : Int32) tensL (.int (0 : Int32))) (hda : @LT.lt Nat _ da n0) (hea : @LT.lt Nat _ ea n0) (OL : Old Z n0 h0) (SX : Sts Z cs fo da ea) :
    MetFree l y43_ (head1 (Jvm.Cond.code y43_ prog_35_method_14_code 5 (some (.object "java/lang/String")) :: ws) r8_60_4000_160) (fun xa xU => xa = #[(.ref t), (.int a), (.int b)] ∧ Z.Warmed39 xU.vm ∧ xU.heap = h0 ∧ CHv Z consts_1 xU.vm h0 ∧ ∀ x ∈ ([] : List Addr), Safe Z consts_1 xU.vm h0 x) (fun _ _ _ _ _ => True) (fun _ xU xo xU' => ∃ xv xL, xo = .returned xv ∧ Q_pgM Z t tb tk z ys a b da dk ea ek cs fo h0 n0 xv xU'.heap xL ∧ CHr Z consts_1 xU.vm xU.heap xU'.vm xU'.heap ∧ ReturnedEndW xU xo xU' xL r8_60_4000_160.cells r8_60_4000_160.slots) := by
  refine MetFree.of_bodySF (plainFor_of_name pn_com_example_tessera_tessera_sql_SqlText) hisR ?_
  intro pP eE sS mM aS bS mS cC s₁ Bd hml0 hP hK
  obtain ⟨rfl, hZ, hh, hCH, hSf⟩ := hP
  have hx := Bd.exec
  have hj := Bd.bytes
  have hml : cC.maxLocals = 5 := hml0
  have hown : sS.vm.findClass "com/example/tessera/tessera/sql/SqlText" = some mM.cls := findClass_of_methodNamed Bd.named
  have X0 : Stand pP l eE r8_60_4000_160 (sS.setVm sS.vm) mM _ bS mS cC s₁ [] 0 0 := Stand.of_body Bd
  have e0 : s₁.heap = h0 := by rw [← hh, Bd.state]; rfl
  have N0 := Fr.nil n0
  have hZ0 : Z.Warmed39 (sS.setVm sS.vm).vm := hZ
  have hown0 : (sS.setVm sS.vm).vm.findClass "com/example/tessera/tessera/sql/SqlText" = some mM.cls := hown
  have hS0 : sS.Since sS.vm 0 := (State.WarmedH.refl sS).since 0
  have CC0 : CHr Z consts_1 sS.vm h0 sS.vm h0 := CHr.refl hCH
  obtain ⟨T101, L101, X101, e101, N101, st101⟩ : ∃ T' L', Stand pP l eE r8_60_4000_160 (sS.setVm sS.vm) mM #[(.ref t), (.int a), (.int b)] bS mS cC T' L' 0 0 ∧ T'.heap = h0 ∧ Fr n0 L' ∧ ∀ t', SS pP eE bS T' (mkF mM 12 #[.val (.ref t), .val (.int a), .val (.int b), .unset, .unset] []) t' → SS pP eE bS s₁ (mkF mM 0 #[.val (.ref t), .val (.int a), .val (.int b), .unset, .unset] []) t' := by
    rcases Decidable.em (a = (0 : Int32)) with ha | ha
    · refine ⟨s₁, _, X0, e0, N0, fun t' hk' => ?_⟩
      show SS pP eE bS s₁ (mkF mM 0 #[.val (.ref t), .val (.int a), .val (.int b), .unset, .unset] []) _
      refine XS.iloadN X0.here hx rfl (hb hj gp35_14_0.1) rfl ?_
      refine XS.ifNo X0.here hx rfl (hb hj gp35_14_0.2.1) rfl ((if0 _ _).trans (teq (ha : a = (0 : Int32))).2) ?_
      refine XS.iloadN X0.here hx rfl (hb hj gp35_14_0.2.2.1) rfl ?_
      refine X0.ldcInt hx hown0 (mvT hZ0 (wi hw 13 rfl)) (g := (mkF mM 5 #[.val (.ref t), .val (.int a), .val (.int b), .unset, .unset] [(.int b)])) rfl (hb hj gp35_14_0.2.2.2) _ ?_
      refine XS.icmpYes X0.here hx rfl (pc0 := 7) (pc' := 12) rfl (hb hj gp35_14_1.1) rfl (feq (fun q => hnb ⟨ha, q⟩ : ¬ (b = (2147483647 : Int32)))).2 (by decide) (by decide) ?_
      exact hk'
    · refine ⟨s₁, _, X0, e0, N0, fun t' hk' => ?_⟩
      show SS pP eE bS s₁ (mkF mM 0 #[.val (.ref t), .val (.int a), .val (.int b), .unset, .unset] []) _
      refine XS.iloadN X0.here hx rfl (hb hj gp35_14_0.1) rfl ?_
      refine XS.ifYes X0.here hx rfl (pc0 := 1) (pc' := 12) rfl (hb hj gp35_14_0.2.1) rfl ((if0 _ _).trans (feq (ha : ¬ (a = (0 : Int32)))).2) (by decide) (by decide) ?_
      exact hk'
  obtain ⟨s1_102, b1_102, k1_102, T102, h102, L102, vm102, kk102, X102, e102, hS102, hk102, hZ102, hown102, Ch102, N102, Kp102, p102_A_s1, st102⟩ := sg_pgo l Z a0 hw t a b da dk ea ek cs fo h0 n0 hS0 (by omega) CC0.1 ⟨by omega, hx, hj, hml, hZ0, hown0, X101, e101, N101, by decide, by decide⟩ V_da V_ea hda hea OL SX
  have Sz1 : h0.size ≤ h102.size := Kp102.1
  have CC1 : CHr Z consts_1 sS.vm h0 vm102 h102 := CC0.trans Ch102
  have c104_V_da : Arv Z h102 da dk .byte (100 : Int32) onesL (.int (0 : Int32)) := V_da.keep Kp102 nin0
  have c105_V_ea : Arv Z h102 ea ek .byte (100 : Int32) tensL (.int (0 : Int32)) := V_ea.keep Kp102 nin0
  have c106_OL : Old Z n0 h102 := OL.keep Kp102 all0
  obtain ⟨s1_103, b1_103, k1_103, T103, h103, L103, vm103, kk103, X103, e103, hS103, hk103, hZ103, hown103, Ch103, N103, Kp103, p103_A_s1, st103⟩ := sg_pgf l Z a0 hw t a b da dk ea ek cs s1_102 fo h102 n0 hS102 (by omega) CC1.1 ⟨by omega, hx, hj, hml, hZ102, hown102, X102, e102, N102, by decide, by decide⟩ c104_V_da c105_V_ea hda hea c106_OL SX
  have Sz2 : h102.size ≤ h103.size := Kp103.1
  have CC2 : CHr Z consts_1 sS.vm h0 vm103 h103 := CC1.trans Ch103
  obtain ⟨T107, h107, X107, e107, E107, A107, D107, B107, st107⟩ := newO X103 hx hZ103 hown103 (wi hw 35 rfl) (wi hw 36 rfl) (wi hw 37 rfl) e103 (g := (mkF mM 83 (Lc_pgM_0 t a b s1_102 s1_103) [])) rfl (hb hj gp35_14_9.2.2.1) (by decide) (by decide)
  obtain ⟨b107, g107⟩ : ∃ z : Nat, z = h103.size := ⟨_, rfl⟩
  rw [← g107] at A107 D107 B107 st107
  have Sz3 : h103.size ≤ h107.size := E107.1
  have CC3 : CHr Z consts_1 sS.vm h0 vm103 h107 := CC2.trans (CHr.ext E107 CC2.1)
  have F107_value : Fld Z h107 b107 "java/lang/AbstractStringBuilder" "value" "[B" .null := D107 (Or.inl (wi hw 50 rfl)) (ty := (.array .byte)) (by decide)
  have F107_coder : Fld Z h107 b107 "java/lang/AbstractStringBuilder" "coder" "B" (.int (0 : Int32)) := D107 (Or.inl (wi hw 52 rfl)) (ty := .byte) (by decide)
  have F107_count : Fld Z h107 b107 "java/lang/AbstractStringBuilder" "count" "I" (.int (0 : Int32)) := D107 (Or.inl (wi hw 75 rfl)) (ty := .int) (by decide)
  have c109_OL : Old Z n0 h103 := c106_OL.keep Kp103 all0
  have c110_OL : Old Z n0 h107 := c109_OL.ext E107
  have ge111_b107 : @LE.le Nat _ n0 b107 := by omega
  obtain ⟨_, _, ⟨T108, L108, k108, n108⟩, -, X108, ⟨Lc108, hQ108, l108, y108, z108⟩, st108⟩ := X107.specialBack hx (y := y3_) rfl hown103 (mvT hZ103 (wi hw 38 rfl)) (mvT hZ103 (wi hw 39 rfl)) (mvT hZ103 (wi hw 40 rfl)) (by decide) (backOf (W := 1) (rm_sb_init l Z a0 hw [] b107 .null (.int (0 : Int32)) (.int (0 : Int32)) cs fo da ea h107 n0 (by omega) A107 F107_value F107_coder F107_count ge111_b107 c110_OL SX) hZ103 (wi hw 40 rfl) (wi hw 37 rfl) (by decide) (by decide)) (g := (mkF mM 87 (Lc_pgM_0 t a b s1_102 s1_103) [(.ref b107), (.ref b107)])) rfl hml.symm (Steps.refl _) (a := b107) (argsL := []) (rest := [(.ref b107)]) (lenOf pd_5 rfl) rfl (W0 rfl) (hb hj gp35_14_10.1) (fun _ _ => ⟨rfl, e107, ble rfl, ble rfl⟩)
  dsimp only [Pt.U, Pt.locs, Pt.cells, Pt.slots] at X108 l108 y108 z108 st108 hQ108
  subst y108 z108
  obtain ⟨h108, e108⟩ : ∃ z, T108.heap = z := ⟨_, rfl⟩
  rw [e108] at hQ108
  obtain ⟨b_108, k_108, rfl, N108q, Kp108, p108_E_o, p108_F_value_o, p108_F_coder_o, p108_F_count_o, p108_V_b, p108_gh_b, p108_E_b⟩ := hQ108
  have Sz4 : h107.size ≤ h108.size := Kp108.1
  have sf112_b107 : Safe Z consts_1 vm103 h107 b107 := Safe.exa (show Z.Warmed39 vm103 from hZ103).alike A107 (by decide) (by decide)
  have CC4 : CHr Z consts_1 sS.vm h0 vm103 h108 := CC3.trans (CHr.keep Kp108 (sfS sf112_b107 sf0) CC3.1)
  have N108 : Fr n0 L108 := by rw [l108]; exact Fr.app N103 N108q
  have c114_A_t : StrA Z h102 t tb tk z ys := StrA.keep Kp102 A_t nin0 nin0
  have c115_A_t : StrA Z h103 t tb tk z ys := StrA.keep Kp103 c114_A_t nin0 nin0
  have c116_A_t : StrA Z h107 t tb tk z ys := StrA.ext E107 c115_A_t
  have lt_t : @LT.lt Nat _ t h0.size := A_t.1.lt
  have lt_b107 : @LT.lt Nat _ b107 h107.size := A107.lt
  have ne_t_b107_117 : t ≠ b107 := (by omega : @Ne Nat t b107)
  have lt_tb : @LT.lt Nat _ tb h0.size := A_t.2.2.2.lt
  have ne_tb_b107_118 : tb ≠ b107 := (by omega : @Ne Nat tb b107)
  have c119_A_t : StrA Z h108 t tb tk z ys := StrA.keep Kp108 c116_A_t (ninS ne_t_b107_117 nin0) (ninS ne_tb_b107_118 nin0)
  have c120_OL : Old Z n0 h108 := c110_OL.keep Kp108 (allS ge111_b107 all0)
  have lt_b_108 : @LT.lt Nat _ b_108 h108.size := p108_V_b.lt
  have ne_b107_b_108_121 : b107 ≠ b_108 := (by omega : @Ne Nat b107 b_108)
  have ne_b107_t_122 : b107 ≠ t := (by omega : @Ne Nat b107 t)
  have ne_b107_tb_123 : b107 ≠ tb := (by omega : @Ne Nat b107 tb)
  have ne_t_b_108_124 : t ≠ b_108 := (by omega : @Ne Nat t b_108)
  have ne_tb_b_108_125 : tb ≠ b_108 := (by omega : @Ne Nat tb b_108)
  have ge126_b_108 : @LE.le Nat _ n0 b_108 := by omega
  obtain ⟨b2_113, k2_113, T113, h113, L113, X113, e113, N113, Kp113, p113_E_o, p113_F_value_o, p113_F_coder_o, p113_F_count_o, p113_V_b2, p113_hor, p113_hob, p113_hgb, p113_E_b2, st113⟩ := cw_sapp_S3916 l Z a0 hw b107 t tb tk z ys b_108 k_108 16 0 [] cs fo da ea h108 n0 (by omega) hx hZ103 hown103 X108 e108 N108 (by decide) (by decide) p108_E_o p108_F_value_o p108_F_coder_o p108_F_count_o c119_A_t p108_V_b ne_b107_b_108_121 ne_b107_t_122 ne_b107_tb_123 ne_t_b_108_124 ne_tb_b_108_125 ge111_b107 ge126_b_108 (by decide) (hz) p108_E_b ((own_cp3 hz2 (offL_le a) (fetL_le b)).1) c120_OL SX (g := (mkF mM 91 (Lc_pgM_0 t a b s1_102 s1_103) [(.ref t), (.ref b107)])) rfl hml.symm rfl (hb hj gp35_14_10.2.2.1) (W := 0) (W0 rfl) (by decide) (by decide)
  have Sz5 : h108.size ≤ h113.size := Kp113.1
  have sf127_b_108 : Safe Z consts_1 vm103 h107 b_108 := Safe.new (by omega)
  have sf128_b_108 : Safe Z consts_1 vm103 h108 b_108 := Safe.keep Kp108 (sfS sf112_b107 sf0) CC3.1 sf127_b_108
  have sf129_b107 : Safe Z consts_1 vm103 h108 b107 := Safe.exa (show Z.Warmed39 vm103 from hZ103).alike p108_E_o (by decide) (by decide)
  have CC5 : CHr Z consts_1 sS.vm h0 vm103 h113 := CC4.trans (CHr.keep Kp113 (sfS sf129_b107 (sfS sf128_b_108 sf0)) CC4.1)
  have c131_A_s1_102 : StrA Z h103 s1_102 b1_102 k1_102 (offL a).length (offL a) := StrA.keep Kp103 p102_A_s1 nin0 nin0
  have c132_A_s1_102 : StrA Z h107 s1_102 b1_102 k1_102 (offL a).length (offL a) := StrA.ext E107 c131_A_s1_102
  have lt_s1_102 : @LT.lt Nat _ s1_102 h102.size := p102_A_s1.1.lt
  have ne_s1_102_b107_133 : s1_102 ≠ b107 := (by omega : @Ne Nat s1_102 b107)
  have lt_b1_102 : @LT.lt Nat _ b1_102 h102.size := p102_A_s1.2.2.2.lt
  have ne_b1_102_b107_134 : b1_102 ≠ b107 := (by omega : @Ne Nat b1_102 b107)
  have c135_A_s1_102 : StrA Z h108 s1_102 b1_102 k1_102 (offL a).length (offL a) := StrA.keep Kp108 c132_A_s1_102 (ninS ne_s1_102_b107_133 nin0) (ninS ne_b1_102_b107_134 nin0)
  have ne_s1_102_b_108_136 : s1_102 ≠ b_108 := (by omega : @Ne Nat s1_102 b_108)
  have ne_b1_102_b_108_137 : b1_102 ≠ b_108 := (by omega : @Ne Nat b1_102 b_108)
  have c138_A_s1_102 : StrA Z h113 s1_102 b1_102 k1_102 (offL a).length (offL a) := StrA.keep Kp113 c135_A_s1_102 (ninS ne_s1_102_b107_133 (ninS ne_s1_102_b_108_136 nin0)) (ninS ne_b1_102_b107_134 (ninS ne_b1_102_b_108_137 nin0))
  have c139_OL : Old Z n0 h113 := c120_OL.keep Kp113 (allS ge111_b107 (allS ge126_b_108 all0))
  have lt_b2_113 : @LT.lt Nat _ b2_113 h113.size := p113_V_b2.lt
  have ne_b107_b2_113_140 : b107 ≠ b2_113 := (by omega : @Ne Nat b107 b2_113)
  have ne_b107_s1_102_141 : b107 ≠ s1_102 := (by omega : @Ne Nat b107 s1_102)
  have ne_b107_b1_102_142 : b107 ≠ b1_102 := (by omega : @Ne Nat b107 b1_102)
  have ne_s1_102_b2_113_143 : s1_102 ≠ b2_113 := (by omega : @Ne Nat s1_102 b2_113)
  have ne_b1_102_b2_113_144 : b1_102 ≠ b2_113 := (by omega : @Ne Nat b1_102 b2_113)
  have ge145_b2_113 : @LE.le Nat _ n0 b2_113 := by omega
  obtain ⟨b2_130, k2_130, T130, h130, L130, X130, e130, N130, Kp130, p130_E_o, p130_F_value_o, p130_F_coder_o, p130_F_count_o, p130_V_b2, p130_hor, p130_hob, p130_hgb, p130_E_b2, st130⟩ := cw_sapp_S3916 l Z a0 hw b107 s1_102 b1_102 k1_102 (offL a).length (offL a) b2_113 k2_113 (ncap 16 (0 + z)) (0 + z) ([] ++ ys) cs fo da ea h113 n0 (by omega) hx hZ103 hown103 X113 e113 N113 (by decide) (by decide) p113_E_o p113_F_value_o p113_F_coder_o p113_F_count_o c138_A_s1_102 p113_V_b2 ne_b107_b2_113_140 ne_b107_s1_102_141 ne_b107_b1_102_142 ne_s1_102_b2_113_143 ne_b1_102_b2_113_144 ge111_b107 ge145_b2_113 (by simp [hz]) (rfl) p113_E_b2 ((own_cp3 hz2 (offL_le a) (fetL_le b)).2.1) c139_OL SX (g := (mkF mM 95 (Lc_pgM_0 t a b s1_102 s1_103) [(.ref s1_102), (.ref b107)])) rfl hml.symm rfl (hb hj gp35_14_11.1) (W := 0) (W0 rfl) (by decide) (by decide)
  have Sz6 : h113.size ≤ h130.size := Kp130.1
  have sf146_b2_113 : Safe Z consts_1 vm103 h108 b2_113 := by
    rcases p113_hor with q | q
    · rw [q]; exact sf128_b_108
    · exact Safe.new q
  have sf147_b2_113 : Safe Z consts_1 vm103 h113 b2_113 := Safe.keep Kp113 (sfS sf129_b107 (sfS sf128_b_108 sf0)) CC4.1 sf146_b2_113
  have sf148_b107 : Safe Z consts_1 vm103 h113 b107 := Safe.exa (show Z.Warmed39 vm103 from hZ103).alike p113_E_o (by decide) (by decide)
  have CC6 : CHr Z consts_1 sS.vm h0 vm103 h130 := CC5.trans (CHr.keep Kp130 (sfS sf148_b107 (sfS sf147_b2_113 sf0)) CC5.1)
  have c150_A_s1_103 : StrA Z h107 s1_103 b1_103 k1_103 (fetL b).length (fetL b) := StrA.ext E107 p103_A_s1
  have lt_s1_103 : @LT.lt Nat _ s1_103 h103.size := p103_A_s1.1.lt
  have ne_s1_103_b107_151 : s1_103 ≠ b107 := (by omega : @Ne Nat s1_103 b107)
  have lt_b1_103 : @LT.lt Nat _ b1_103 h103.size := p103_A_s1.2.2.2.lt
  have ne_b1_103_b107_152 : b1_103 ≠ b107 := (by omega : @Ne Nat b1_103 b107)
  have c153_A_s1_103 : StrA Z h108 s1_103 b1_103 k1_103 (fetL b).length (fetL b) := StrA.keep Kp108 c150_A_s1_103 (ninS ne_s1_103_b107_151 nin0) (ninS ne_b1_103_b107_152 nin0)
  have ne_s1_103_b_108_154 : s1_103 ≠ b_108 := (by omega : @Ne Nat s1_103 b_108)
  have ne_b1_103_b_108_155 : b1_103 ≠ b_108 := (by omega : @Ne Nat b1_103 b_108)
  have c156_A_s1_103 : StrA Z h113 s1_103 b1_103 k1_103 (fetL b).length (fetL b) := StrA.keep Kp113 c153_A_s1_103 (ninS ne_s1_103_b107_151 (ninS ne_s1_103_b_108_154 nin0)) (ninS ne_b1_103_b107_152 (ninS ne_b1_103_b_108_155 nin0))
  have ne_s1_103_b2_113_157 : s1_103 ≠ b2_113 := (by omega : @Ne Nat s1_103 b2_113)
  have ne_b1_103_b2_113_158 : b1_103 ≠ b2_113 := (by omega : @Ne Nat b1_103 b2_113)
  have c159_A_s1_103 : StrA Z h130 s1_103 b1_103 k1_103 (fetL b).length (fetL b) := StrA.keep Kp130 c156_A_s1_103 (ninS ne_s1_103_b107_151 (ninS ne_s1_103_b2_113_157 nin0)) (ninS ne_b1_103_b107_152 (ninS ne_b1_103_b2_113_158 nin0))
  have c160_OL : Old Z n0 h130 := c139_OL.keep Kp130 (allS ge111_b107 (allS ge145_b2_113 all0))
  have lt_b2_130 : @LT.lt Nat _ b2_130 h130.size := p130_V_b2.lt
  have ne_b107_b2_130_161 : b107 ≠ b2_130 := (by omega : @Ne Nat b107 b2_130)
  have ne_b107_s1_103_162 : b107 ≠ s1_103 := (by omega : @Ne Nat b107 s1_103)
  have ne_b107_b1_103_163 : b107 ≠ b1_103 := (by omega : @Ne Nat b107 b1_103)
  have ne_s1_103_b2_130_164 : s1_103 ≠ b2_130 := (by omega : @Ne Nat s1_103 b2_130)
  have ne_b1_103_b2_130_165 : b1_103 ≠ b2_130 := (by omega : @Ne Nat b1_103 b2_130)
  have ge166_b2_130 : @LE.le Nat _ n0 b2_130 := by omega
  obtain ⟨b2_149, k2_149, T149, h149, L149, X149, e149, N149, Kp149, p149_E_o, p149_F_value_o, p149_F_coder_o, p149_F_count_o, p149_V_b2, p149_hor, p149_hob, p149_hgb, p149_E_b2, st149⟩ := cw_sapp_S3916 l Z a0 hw b107 s1_103 b1_103 k1_103 (fetL b).length (fetL b) b2_130 k2_130 (ncap (ncap 16 (0 + z)) ((0 + z) + (offL a).length)) ((0 + z) + (offL a).length) (([] ++ ys) ++ (offL a)) cs fo da ea h130 n0 (by omega) hx hZ103 hown103 X130 e130 N130 (by decide) (by decide) p130_E_o p130_F_value_o p130_F_coder_o p130_F_count_o c159_A_s1_103 p130_V_b2 ne_b107_b2_130_161 ne_b107_s1_103_162 ne_b107_b1_103_163 ne_s1_103_b2_130_164 ne_b1_103_b2_130_165 ge111_b107 ge166_b2_130 (by simp [hz]) (rfl) p130_E_b2 ((own_cp3 hz2 (offL_le a) (fetL_le b)).2.2.1) c160_OL SX (g := (mkF mM 100 (Lc_pgM_0 t a b s1_102 s1_103) [(.ref s1_103), (.ref b107)])) rfl hml.symm rfl (hb hj gp35_14_11.2.2.1) (W := 0) (W0 rfl) (by decide) (by decide)
  have Sz7 : h130.size ≤ h149.size := Kp149.1
  have sf167_b2_130 : Safe Z consts_1 vm103 h113 b2_130 := by
    rcases p130_hor with q | q
    · rw [q]; exact sf147_b2_113
    · exact Safe.new q
  have sf168_b2_130 : Safe Z consts_1 vm103 h130 b2_130 := Safe.keep Kp130 (sfS sf148_b107 (sfS sf147_b2_113 sf0)) CC5.1 sf167_b2_130
  have sf169_b107 : Safe Z consts_1 vm103 h130 b107 := Safe.exa (show Z.Warmed39 vm103 from hZ103).alike p130_E_o (by decide) (by decide)
  have CC7 : CHr Z consts_1 sS.vm h0 vm103 h149 := CC6.trans (CHr.keep Kp149 (sfS sf169_b107 (sfS sf168_b2_130 sf0)) CC6.1)
  have c171_OL : Old Z n0 h149 := c160_OL.keep Kp149 (allS ge111_b107 (allS ge166_b2_130 all0))
  obtain ⟨cq170, kq170, q170a, q170b, q170c⟩ := isOf hZ103 e149 p149_E_o
  obtain ⟨_, _, ⟨T170, L170, k170, n170⟩, -, X170, ⟨Lc170, hQ170, l170, y170, z170⟩, st170⟩ := X149.virtualBack hx (y := y24_) (z := y24_) hown103 (mvT hZ103 (wi hw 148 rfl)) (mvT hZ103 (wi hw 149 rfl)) (notFace_of_selects (args := #[]) (mvT hZ103 (wi hw 151 rfl))) (mvT hZ103 (wi hw 151 rfl)) (mvT hZ103 (wi hw 150 rfl)) (by decide) (backOf (W := 0) (rm_toString l Z a0 hw [] b107 b2_149 k2_149 _ (((0 + z) + (offL a).length) + (fetL b).length) ((([] ++ ys) ++ (offL a)) ++ (fetL b)) cs fo da ea h149 n0 (by omega) p149_E_o p149_F_value_o p149_F_coder_o p149_F_count_o p149_V_b2 (by simp [hz]; try omega) ((own_cp3 hz2 (offL_le a) (fetL_le b)).2.2.2) p149_E_b2 c171_OL SX) hZ103 (wi hw 152 rfl) (wi hw 37 rfl) (by decide) (by decide)) q170a q170c (g := (mkF mM 103 (Lc_pgM_0 t a b s1_102 s1_103) [(.ref b107)])) rfl hml.symm (Steps.refl _) (argsL := []) (rest := []) (lenOf pd_23 rfl) rfl (W0 rfl) (hb hj gp35_14_11.2.2.2) (fun _ _ => ⟨rfl, e149, ble rfl, ble rfl⟩)
  dsimp only [Pt.U, Pt.locs, Pt.cells, Pt.slots] at X170 l170 y170 z170 st170 hQ170
  subst y170 z170
  obtain ⟨h170, e170⟩ : ∃ z, T170.heap = z := ⟨_, rfl⟩
  rw [e170] at hQ170
  obtain ⟨t_170, b2_170, k2_170, rfl, N170q, Kp170, p170_A_t, p170_gh_t, p170_gh_b2⟩ := hQ170
  have Sz8 : h149.size ≤ h170.size := Kp170.1
  have CC8 : CHr Z consts_1 sS.vm h0 vm103 h170 := CC7.trans (CHr.keep Kp170 sf0 CC7.1)
  have N170 : Fr n0 L170 := by rw [l170]; exact Fr.app N149 N170q
  have K172 : Keep h0 h102 [] := (Keep.refl h0 []).trans Kp102 all0
  have K173 : Keep h0 h103 [] := K172.trans Kp103 all0
  have K174 : Keep h0 h107 [] := K173.ext E107
  have K175 : Keep h0 h108 [] := K174.trans Kp108 (allS (Or.inr (by omega : @LE.le Nat _ h0.size b107)) all0)
  have K176 : Keep h0 h113 [] := K175.trans Kp113 (allS (Or.inr (by omega : @LE.le Nat _ h0.size b107)) (allS (Or.inr (by omega : @LE.le Nat _ h0.size b_108)) all0))
  have K177 : Keep h0 h130 [] := K176.trans Kp130 (allS (Or.inr (by omega : @LE.le Nat _ h0.size b107)) (allS (Or.inr (by omega : @LE.le Nat _ h0.size b2_113)) all0))
  have K178 : Keep h0 h149 [] := K177.trans Kp149 (allS (Or.inr (by omega : @LE.le Nat _ h0.size b107)) (allS (Or.inr (by omega : @LE.le Nat _ h0.size b2_130)) all0))
  have K179 : Keep h0 h170 [] := K178.trans Kp170 all0
  obtain ⟨fs, hr, hrun, hended, hE⟩ := Stand.leaveW (s := sS) X170 hS103 (by rw [e170]; omega) (v := some (.ref t_170)) (fun h => by rw [Bd.returns] at h; cases h)
  refine ⟨_, _, castTop (ef_pgM mM t tb tk z ys a b da dk ea ek cs fo) ?_, hrun, hended, _, _, rfl, ?_, ?_, hE.1, hE.2.1, hE.2.2.1, hE.2.2.2.mono (by decide) (by decide)⟩
  · show SS pP eE bS s₁ (mkF mM 0 #[.val (.ref t), .val (.int a), .val (.int b), .unset, .unset] []) _
    refine st101 _ ?_
    show SS pP eE bS T101 (mkF mM 12 #[.val (.ref t), .val (.int a), .val (.int b), .unset, .unset] []) _
    refine st102 _ ?_
    refine st103 _ ?_
    refine st107 _ ?_
    refine XS.dup X107.here hx rfl (hb hj gp35_14_9.2.2.2) rfl rfl ?_
    refine st108.trans ?_
    refine XS.aloadN X108.here hx rfl (hb hj gp35_14_10.2.1) rfl rfl ?_
    refine st113 _ ?_
    refine XS.aloadN X113.here hx rfl (hb hj gp35_14_10.2.2.2) rfl rfl ?_
    refine st130 _ ?_
    refine XS.aload X130.here hx rfl (hb hj gp35_14_11.2.1) rfl rfl ?_
    refine st149 _ ?_
    refine st170.trans ?_
    jvm_step X170.here [X170.here.top, hx, (hb hj gp35_14_12), X170.method', Bd.returns, Value.isRef, FieldType.isReference]
    first | (intro acts; rw [hr _ acts rfl rfl rfl]) | rw [hr _ _ rfl rfl rfl]
    exact Steps.refl _
  · show Q_pgM Z t tb tk z ys a b da dk ea ek cs fo h0 n0 _ T170.heap _
    rw [e170]
    exact ⟨t_170, b2_170, k2_170, rfl, N170, K179, p170_A_t⟩
  · show CHr Z consts_1 sS.vm sS.heap T170.vm T170.heap
    rw [hh, e170]
    exact CC8.trans (CHv.at X170 hZ103 (own_EW hw) CC8.1)
abbrev c52_21 := jdk_52_method_21_code
theorem g52_21_0 : decode c52_21 0 = .ok (.iconst 0, 1) ∧ decode c52_21 1 = .ok (.istore 5, 2) ∧ decode c52_21 3 = .ok (.iload 5, 2) ∧ decode c52_21 5 = .ok (.iload 4, 2) := by decide +kernel
theorem g52_21_1 : decode c52_21 7 = .ok (.if_icmp .ge 37, 3) ∧ decode c52_21 10 = .ok (.aload_n 0, 1) ∧ decode c52_21 11 = .ok (.iload_n 1, 1) ∧ decode c52_21 12 = .ok (.caload, 1) := by decide +kernel
theorem g52_21_2 : decode c52_21 13 = .ok (.istore 6, 2) ∧ decode c52_21 15 = .ok (.iload 6, 2) ∧ decode c52_21 17 = .ok (.sipush 255, 3) ∧ decode c52_21 20 = .ok (.if_icmp .le 6, 3) := by decide +kernel
theorem g52_21_3 : decode c52_21 26 = .ok (.aload_n 2, 1) ∧ decode c52_21 27 = .ok (.iload_n 3, 1) ∧ decode c52_21 28 = .ok (.iload 6, 2) ∧ decode c52_21 30 = .ok (.i2b, 1) := by decide +kernel
theorem g52_21_4 : decode c52_21 31 = .ok (.bastore, 1) ∧ decode c52_21 32 = .ok (.iinc 1 1, 3) ∧ decode c52_21 35 = .ok (.iinc 3 1, 3) ∧ decode c52_21 38 = .ok (.iinc 5 1, 3) := by decide +kernel
theorem g52_21_5 : decode c52_21 41 = .ok (.goto (-38), 3) ∧ decode c52_21 44 = .ok (.iload 4, 2) ∧ decode c52_21 46 = .ok (.ireturn, 1) := by decide +kernel
abbrev y44_ : MethodName := ⟨"java/lang/StringUTF16", "compress", "([CI[BII)I"⟩
theorem pn_java_lang_StringUTF16 : plainName "java/lang/StringUTF16" = true := by first | (simp [plainName, overriddenIn]; done) | decide +kernel
def Q_comp0_s2 (Z : State) (a1 : Addr) (a2 : Addr) (k1 : ClassId) (k2 : ClassId) (c0 : Int32) (c1 : Int32) (h0 : Heap) (n0 : Nat) (xv : Option Value) (xh : Heap) (xL : List Loc) : Prop := xv = some (.int (2 : Int32)) ∧ Fr n0 xL ∧ Keep h0 xh [a2] ∧ Arv Z xh a2 k2 .byte (2 : Int32) [(.int c0.toInt8.toInt32), (.int c1.toInt8.toInt32)] (.int (0 : Int32))
abbrev Lc_comp0_s2_0 (a1 : Addr) (a2 : Addr) : Array Slot := #[.val (.ref a1), .val (.int (0 : Int32)), .val (.ref a2), .val (.int (0 : Int32)), .val (.int (2 : Int32)), .unset, .unset]
abbrev Lc_comp0_s2_1 (a1 : Addr) (a2 : Addr) : Array Slot := #[.val (.ref a1), .val (.int (0 : Int32)), .val (.ref a2), .val (.int (0 : Int32)), .val (.int (2 : Int32)), .val (.int (0 : Int32)), .unset]
abbrev Lc_comp0_s2_2 (a1 : Addr) (a2 : Addr) (c0 : Int32) : Array Slot := #[.val (.ref a1), .val (.int (0 : Int32)), .val (.ref a2), .val (.int (0 : Int32)), .val (.int (2 : Int32)), .val (.int (0 : Int32)), .val (.int c0)]
abbrev Lc_comp0_s2_3 (a1 : Addr) (a2 : Addr) (c0 : Int32) : Array Slot := #[.val (.ref a1), .val (.int (1 : Int32)), .val (.ref a2), .val (.int (0 : Int32)), .val (.int (2 : Int32)), .val (.int (0 : Int32)), .val (.int c0)]
abbrev Lc_comp0_s2_4 (a1 : Addr) (a2 : Addr) (c0 : Int32) : Array Slot := #[.val (.ref a1), .val (.int (1 : Int32)), .val (.ref a2), .val (.int (1 : Int32)), .val (.int (2 : Int32)), .val (.int (0 : Int32)), .val (.int c0)]
abbrev Lc_comp0_s2_5 (a1 : Addr) (a2 : Addr) (c0 : Int32) : Array Slot := #[.val (.ref a1), .val (.int (1 : Int32)), .val (.ref a2), .val (.int (1 : Int32)), .val (.int (2 : Int32)), .val (.int (1 : Int32)), .val (.int c0)]
abbrev Lc_comp0_s2_6 (a1 : Addr) (a2 : Addr) (c1 : Int32) : Array Slot := #[.val (.ref a1), .val (.int (1 : Int32)), .val (.ref a2), .val (.int (1 : Int32)), .val (.int (2 : Int32)), .val (.int (1 : Int32)), .val (.int c1)]
abbrev Lc_comp0_s2_7 (a1 : Addr) (a2 : Addr) (c1 : Int32) : Array Slot := #[.val (.ref a1), .val (.int (2 : Int32)), .val (.ref a2), .val (.int (1 : Int32)), .val (.int (2 : Int32)), .val (.int (1 : Int32)), .val (.int c1)]
abbrev Lc_comp0_s2_8 (a1 : Addr) (a2 : Addr) (c1 : Int32) : Array Slot := #[.val (.ref a1), .val (.int (2 : Int32)), .val (.ref a2), .val (.int (2 : Int32)), .val (.int (2 : Int32)), .val (.int (1 : Int32)), .val (.int c1)]
abbrev Lc_comp0_s2_9 (a1 : Addr) (a2 : Addr) (c1 : Int32) : Array Slot := #[.val (.ref a1), .val (.int (2 : Int32)), .val (.ref a2), .val (.int (2 : Int32)), .val (.int (2 : Int32)), .val (.int (2 : Int32)), .val (.int c1)]
theorem ef_comp0_s2 (mM : MethodId) (a1 : Addr) (a2 : Addr) (k1 : ClassId) (k2 : ClassId) (c0 : Int32) (c1 : Int32) : entryFrame mM #[(.ref a1), (.int (0 : Int32)), (.ref a2), (.int (0 : Int32)), (.int (2 : Int32))] 7 = mkF mM 0 #[.val (.ref a1), .val (.int (0 : Int32)), .val (.ref a2), .val (.int (0 : Int32)), .val (.int (2 : Int32)), .unset, .unset] [] := by
  first | (simp [entryFrame, mkF, argsToLocals, Value.category]; done) | rfl
theorem rm_comp0_s2 (hw : HW a0 Z) (ws : List Jvm.Cond) (a1 : Addr) (a2 : Addr) (k1 : ClassId) (k2 : ClassId) (c0 : Int32) (c1 : Int32) (h0 : Heap) (n0 : Nat) (Z0 : n0 ≤ h0.size) (V_a1 : Arv Z h0 a1 k1 .char (2 : Int32) [(.int c0), (.int c1)] (.int (0 : Int32))) (V_a2 : Arv Z h0 a2 k2 .byte (2 : Int32) [(.int (0 : Int32)), (.int (0 : Int32))] (.int (0 : Int32))) (ne_a1_a2 : @Ne Nat a1 a2) (g_a2 : @LE.le Nat _ n0 a2) (q0 : ¬ ((255 : Int32) < c0)) (q1 : ¬ ((255 : Int32) < c1)) :
    MF l y44_ jdk_52_method_21_code 7 (some .int) ws r0_0_0_0 #[(.ref a1), (.int (0 : Int32)), (.ref a2), (.int (0 : Int32)), (.int (2 : Int32))] Z h0 (Q_comp0_s2 Z a1 a2 k1 k2 c0 c1 h0 n0) := by
  refine MetFree.of_bodySF (plainFor_of_name pn_java_lang_StringUTF16) hisR ?_
  intro pP eE sS mM aS bS mS cC s₁ Bd hml0 hP hK
  obtain ⟨rfl, hZ, hh⟩ := hP
  have hx := Bd.exec
  have hj := Bd.bytes
  have hml : cC.maxLocals = 7 := hml0
  have hown : sS.vm.findClass "java/lang/StringUTF16" = some mM.cls := findClass_of_methodNamed Bd.named
  have X0 : Stand pP l eE r0_0_0_0 sS mM _ bS mS cC s₁ [] 0 0 := Stand.of_body Bd
  have e0 : s₁.heap = h0 := by rw [← hh, Bd.state]; rfl
  have N0 := Fr.nil n0
  obtain ⟨cl101, Ar101, q101, S101, Ng101, Ha101, Ga101⟩ := id V_a1
  have hin101 : ¬ ((0 : Int32) < 0 ∨ cl101.slots.size ≤ ((0 : Int32)).toNatClampNeg) := inb_of S101 ⟨by decide, by decide⟩
  have hat101 : cl101.slots[((0 : Int32)).toNatClampNeg]? = some (.int c0) := Ha101.at hin101 (rfl)
  obtain ⟨cl102, Ar102, q102, S102, Ng102, Ha102, Ga102⟩ := id V_a2
  have hin102 : ¬ ((0 : Int32) < 0 ∨ cl102.slots.size ≤ ((0 : Int32)).toNatClampNeg) := inb_of S102 ⟨by decide, by decide⟩
  obtain ⟨T103, h103, X103, e103, W103, st103⟩ := stB X0 hx hZ e0 Ar102 (j := (0 : Int32)) hin102 (g := (mkF mM 31 (Lc_comp0_s2_2 a1 a2 c0) [(.int (c0.toInt8.toInt32)), (.int (0 : Int32)), (.ref a2)])) rfl rfl (hb hj g52_21_4.1)
  have Sz1 : h0.size ≤ h103.size := Nat.le_of_eq (Wr.size W103).symm
  have Vs103 := Arv.set Ar102 q102 S102 Ng102 Ha102 Ga102 (fits_nar_byte _) W103 0 rfl (Nat.le_of_ble_eq_true rfl)
  have Vt103 : Arv Z h103 a2 k2 .byte (2 : Int32) [(.int c0.toInt8.toInt32), (.int (0 : Int32))] (.int (0 : Int32)) := by
    have q : Arv Z h103 a2 k2 .byte (2 : Int32) [(.int (c0.toInt8.toInt32).toInt8.toInt32), (.int (0 : Int32))] (.int (0 : Int32)) := Vs103
    rw [show ((.int (c0.toInt8.toInt32).toInt8.toInt32) : Value) = (.int c0.toInt8.toInt32) from congrArg Value.int (own_b8 c0)] at q
    exact q
  have N103 := Fr.snoc X103 N0 g_a2
  have c104_V_a1 : Arv Z h103 a1 k1 .char (2 : Int32) [(.int c0), (.int c1)] (.int (0 : Int32)) := V_a1.other W103 ne_a1_a2
  obtain ⟨cl105, Ar105, q105, S105, Ng105, Ha105, Ga105⟩ := id c104_V_a1
  have hin105 : ¬ ((1 : Int32) < 0 ∨ cl105.slots.size ≤ ((1 : Int32)).toNatClampNeg) := inb_of S105 ⟨by decide, by decide⟩
  have hat105 : cl105.slots[((1 : Int32)).toNatClampNeg]? = some (.int c1) := Ha105.at hin105 (rfl)
  obtain ⟨cl106, Ar106, q106, S106, Ng106, Ha106, Ga106⟩ := id Vt103
  have hin106 : ¬ ((1 : Int32) < 0 ∨ cl106.slots.size ≤ ((1 : Int32)).toNatClampNeg) := inb_of S106 ⟨by decide, by decide⟩
  obtain ⟨T107, h107, X107, e107, W107, st107⟩ := stB X103 hx hZ e103 Ar106 (j := (1 : Int32)) hin106 (g := (mkF mM 31 (Lc_comp0_s2_6 a1 a2 c1) [(.int (c1.toInt8.toInt32)), (.int (1 : Int32)), (.ref a2)])) rfl rfl (hb hj g52_21_4.1)
  have Sz2 : h103.size ≤ h107.size := Nat.le_of_eq (Wr.size W107).symm
  have Vs107 := Arv.set Ar106 q106 S106 Ng106 Ha106 Ga106 (fits_nar_byte _) W107 1 rfl (Nat.le_of_ble_eq_true rfl)
  have Vt107 : Arv Z h107 a2 k2 .byte (2 : Int32) [(.int c0.toInt8.toInt32), (.int c1.toInt8.toInt32)] (.int (0 : Int32)) := by
    have q : Arv Z h107 a2 k2 .byte (2 : Int32) [(.int c0.toInt8.toInt32), (.int (c1.toInt8.toInt32).toInt8.toInt32)] (.int (0 : Int32)) := Vs107
    rw [show ((.int (c1.toInt8.toInt32).toInt8.toInt32) : Value) = (.int c1.toInt8.toInt32) from congrArg Value.int (own_b8 c1)] at q
    exact q
  have N107 := Fr.snoc X107 N103 g_a2
  have K108 : Keep h0 h103 [a2] := (Keep.refl h0 [a2]).wr W103 (Or.inl (List.mem_of_getElem? (i := 0) rfl))
  have K109 : Keep h0 h107 [a2] := K108.wr W107 (Or.inl (List.mem_of_getElem? (i := 0) rfl))
  obtain ⟨fs, hr, hrun, hended, hW, hsame⟩ := X107.leave (v := some (.int (2 : Int32))) (fun h => by rw [Bd.returns] at h; cases h)
  refine ⟨_, _, castTop (ef_comp0_s2 mM a1 a2 k1 k2 c0 c1) ?_, hrun, hended, _, _, rfl, ?_, ⟨_, rfl⟩, hW, hsame.mono (by decide) (by decide)⟩
  · show SS pP eE bS s₁ (mkF mM 0 (Lc_comp0_s2_0 a1 a2) []) _
    refine XS.iconst X0.here hx rfl (hb hj g52_21_0.1) ?_
    refine XS.istore X0.here hx rfl (hb hj g52_21_0.2.1) rfl (l' := (Lc_comp0_s2_1 a1 a2)) rfl ?_
    refine XS.iload X0.here hx rfl (hb hj g52_21_0.2.2.1) rfl ?_
    refine XS.iload X0.here hx rfl (hb hj g52_21_0.2.2.2) rfl ?_
    refine XS.icmpNo X0.here hx rfl (hb hj g52_21_1.1) rfl (tlt (by decide : (0 : Int32) < (2 : Int32))).2.1 ?_
    refine XS.aloadN X0.here hx rfl (hb hj g52_21_1.2.1) rfl rfl ?_
    refine XS.iloadN X0.here hx rfl (hb hj g52_21_1.2.2.1) rfl ?_
    refine X0.caload hx (j := (0 : Int32)) (v := (.int c0)) (by rw [e0]; exact Ar101.1) (State.isArrayOf_alike hZ.alike Ar101.2.1) Ar101.2.2 hin101 hat101 (g := (mkF mM 12 (Lc_comp0_s2_1 a1 a2) [(.int (0 : Int32)), (.ref a1)])) rfl rfl (hb hj g52_21_1.2.2.2) _ ?_
    refine XS.istore X0.here hx rfl (hb hj g52_21_2.1) rfl (l' := (Lc_comp0_s2_2 a1 a2 c0)) rfl ?_
    refine XS.iload X0.here hx rfl (hb hj g52_21_2.2.1) rfl ?_
    refine XS.sipush X0.here hx rfl (hb hj g52_21_2.2.2.1) ?_
    refine XS.icmpYes X0.here hx rfl (pc0 := 20) (pc' := 26) rfl (hb hj g52_21_2.2.2.2) rfl (flt q0).2.2.2 (by decide) (by decide) ?_
    refine XS.aloadN X0.here hx rfl (hb hj g52_21_3.1) rfl rfl ?_
    refine XS.iloadN X0.here hx rfl (hb hj g52_21_3.2.1) rfl ?_
    refine XS.iload X0.here hx rfl (hb hj g52_21_3.2.2.1) rfl ?_
    refine XS.i2b X0.here hx rfl (hb hj g52_21_3.2.2.2) rfl ?_
    refine st103 _ ?_
    refine XS.iinc X103.here hx rfl (hb hj g52_21_4.2.1) rfl (l' := (Lc_comp0_s2_3 a1 a2 c0)) rfl ?_
    refine XS.iinc X103.here hx rfl (hb hj g52_21_4.2.2.1) rfl (l' := (Lc_comp0_s2_4 a1 a2 c0)) rfl ?_
    refine XS.iinc X103.here hx rfl (hb hj g52_21_4.2.2.2) rfl (l' := (Lc_comp0_s2_5 a1 a2 c0)) rfl ?_
    refine XS.goto X103.here hx rfl (pc0 := 41) (pc' := 3) rfl (hb hj g52_21_5.1) (by decide) (by decide) ?_
    refine XS.iload X103.here hx rfl (hb hj g52_21_0.2.2.1) rfl ?_
    refine XS.iload X103.here hx rfl (hb hj g52_21_0.2.2.2) rfl ?_
    refine XS.icmpNo X103.here hx rfl (hb hj g52_21_1.1) rfl (tlt (by decide : (1 : Int32) < (2 : Int32))).2.1 ?_
    refine XS.aloadN X103.here hx rfl (hb hj g52_21_1.2.1) rfl rfl ?_
    refine XS.iloadN X103.here hx rfl (hb hj g52_21_1.2.2.1) rfl ?_
    refine X103.caload hx (j := (1 : Int32)) (v := (.int c1)) (by rw [e103]; exact Ar105.1) (State.isArrayOf_alike hZ.alike Ar105.2.1) Ar105.2.2 hin105 hat105 (g := (mkF mM 12 (Lc_comp0_s2_5 a1 a2 c0) [(.int (1 : Int32)), (.ref a1)])) rfl rfl (hb hj g52_21_1.2.2.2) _ ?_
    refine XS.istore X103.here hx rfl (hb hj g52_21_2.1) rfl (l' := (Lc_comp0_s2_6 a1 a2 c1)) rfl ?_
    refine XS.iload X103.here hx rfl (hb hj g52_21_2.2.1) rfl ?_
    refine XS.sipush X103.here hx rfl (hb hj g52_21_2.2.2.1) ?_
    refine XS.icmpYes X103.here hx rfl (pc0 := 20) (pc' := 26) rfl (hb hj g52_21_2.2.2.2) rfl (flt q1).2.2.2 (by decide) (by decide) ?_
    refine XS.aloadN X103.here hx rfl (hb hj g52_21_3.1) rfl rfl ?_
    refine XS.iloadN X103.here hx rfl (hb hj g52_21_3.2.1) rfl ?_
    refine XS.iload X103.here hx rfl (hb hj g52_21_3.2.2.1) rfl ?_
    refine XS.i2b X103.here hx rfl (hb hj g52_21_3.2.2.2) rfl ?_
    refine st107 _ ?_
    refine XS.iinc X107.here hx rfl (hb hj g52_21_4.2.1) rfl (l' := (Lc_comp0_s2_7 a1 a2 c1)) rfl ?_
    refine XS.iinc X107.here hx rfl (hb hj g52_21_4.2.2.1) rfl (l' := (Lc_comp0_s2_8 a1 a2 c1)) rfl ?_
    refine XS.iinc X107.here hx rfl (hb hj g52_21_4.2.2.2) rfl (l' := (Lc_comp0_s2_9 a1 a2 c1)) rfl ?_
    refine XS.goto X107.here hx rfl (pc0 := 41) (pc' := 3) rfl (hb hj g52_21_5.1) (by decide) (by decide) ?_
    refine XS.iload X107.here hx rfl (hb hj g52_21_0.2.2.1) rfl ?_
    refine XS.iload X107.here hx rfl (hb hj g52_21_0.2.2.2) rfl ?_
    refine XS.icmpYes X107.here hx rfl (pc0 := 7) (pc' := 44) rfl (hb hj g52_21_1.1) rfl (flt (by decide : ¬ ((2 : Int32) < (2 : Int32)))).2.1 (by decide) (by decide) ?_
    refine XS.iload X107.here hx rfl (hb hj g52_21_5.2.1) rfl ?_
    exact retI X107 hx Bd.returns (hb hj g52_21_5.2.2) hr
  · show Q_comp0_s2 Z a1 a2 k1 k2 c0 c1 h0 n0 _ T107.heap _
    rw [e107]
    exact ⟨rfl, N107, K109, Vt107⟩
abbrev c52_16 := jdk_52_method_16_code
theorem g52_16_0 : decode c52_16 0 = .ok (.iload_n 2, 1) ∧ decode c52_16 1 = .ok (.newarray .byte, 2) ∧ decode c52_16 3 = .ok (.astore_n 3, 1) ∧ decode c52_16 4 = .ok (.aload_n 0, 1) := by decide +kernel
theorem g52_16_1 : decode c52_16 5 = .ok (.iload_n 1, 1) ∧ decode c52_16 6 = .ok (.aload_n 3, 1) ∧ decode c52_16 7 = .ok (.iconst 0, 1) ∧ decode c52_16 8 = .ok (.iload_n 2, 1) := by decide +kernel
theorem g52_16_2 : decode c52_16 9 = .ok (.invokestatic 115, 3) ∧ decode c52_16 12 = .ok (.istore 4, 2) ∧ decode c52_16 14 = .ok (.iload 4, 2) ∧ decode c52_16 16 = .ok (.iload_n 2, 1) := by decide +kernel
theorem pd_40 : parseMethodDescriptor "([CI[BII)I" = some ⟨[(.array .char), .int, (.array .byte), .int, .int], some .int⟩ := by decide +kernel
theorem g52_16_3 : decode c52_16 17 = .ok (.if_icmp .eq 40, 3) ∧ decode c52_16 57 = .ok (.aload_n 3, 1) ∧ decode c52_16 58 = .ok (.areturn, 1) := by decide +kernel
abbrev r1_1_2_18 : Room := { frames := 1, cells := 1, slots := 2, locals := 18 }
abbrev y45_ : MethodName := ⟨"java/lang/StringUTF16", "compress", "([CII)[B"⟩
def Q_comp1_s2 (Z : State) (a1 : Addr) (k1 : ClassId) (c0 : Int32) (c1 : Int32) (h0 : Heap) (n0 : Nat) (xv : Option Value) (xh : Heap) (xL : List Loc) : Prop := ∃ b : Addr, ∃ k2 : ClassId, xv = some (.ref b) ∧ Fr n0 xL ∧ Keep h0 xh [] ∧ Arv Z xh b k2 .byte (2 : Int32) [(.int c0.toInt8.toInt32), (.int c1.toInt8.toInt32)] (.int (0 : Int32)) ∧ @LE.le Nat _ h0.size b
abbrev Lc_comp1_s2_0 (a1 : Addr) : Array Slot := #[.val (.ref a1), .val (.int (0 : Int32)), .val (.int (2 : Int32)), .unset, .unset, .unset]
abbrev Lc_comp1_s2_1 (a1 : Addr) (b101 : Addr) : Array Slot := #[.val (.ref a1), .val (.int (0 : Int32)), .val (.int (2 : Int32)), .val (.ref b101), .unset, .unset]
abbrev Lc_comp1_s2_2 (a1 : Addr) (b101 : Addr) : Array Slot := #[.val (.ref a1), .val (.int (0 : Int32)), .val (.int (2 : Int32)), .val (.ref b101), .val (.int (2 : Int32)), .unset]
theorem ef_comp1_s2 (mM : MethodId) (a1 : Addr) (k1 : ClassId) (c0 : Int32) (c1 : Int32) : entryFrame mM #[(.ref a1), (.int (0 : Int32)), (.int (2 : Int32))] 6 = mkF mM 0 #[.val (.ref a1), .val (.int (0 : Int32)), .val (.int (2 : Int32)), .unset, .unset, .unset] [] := by
  first | (simp [entryFrame, mkF, argsToLocals, Value.category]; done) | rfl
theorem rm_comp1_s2 (hw : HW a0 Z) (ws : List Jvm.Cond) (a1 : Addr) (k1 : ClassId) (c0 : Int32) (c1 : Int32) (h0 : Heap) (n0 : Nat) (Z0 : n0 ≤ h0.size) (V_a1 : Arv Z h0 a1 k1 .char (2 : Int32) [(.int c0), (.int c1)] (.int (0 : Int32))) (q0 : ¬ ((255 : Int32) < c0)) (q1 : ¬ ((255 : Int32) < c1)) :
    MF l y45_ jdk_52_method_16_code 6 (some (.array .byte)) ws r1_1_2_18 #[(.ref a1), (.int (0 : Int32)), (.int (2 : Int32))] Z h0 (Q_comp1_s2 Z a1 k1 c0 c1 h0 n0) := by
  refine MetFree.of_bodySF (plainFor_of_name pn_java_lang_StringUTF16) hisR ?_
  intro pP eE sS mM aS bS mS cC s₁ Bd hml0 hP hK
  obtain ⟨rfl, hZ, hh⟩ := hP
  have hx := Bd.exec
  have hj := Bd.bytes
  have hml : cC.maxLocals = 6 := hml0
  have hown : sS.vm.findClass "java/lang/StringUTF16" = some mM.cls := findClass_of_methodNamed Bd.named
  have X0 : Stand pP l eE r1_1_2_18 sS mM _ bS mS cC s₁ [] 0 0 := Stand.of_body Bd
  have e0 : s₁.heap = h0 := by rw [← hh, Bd.state]; rfl
  have N0 := Fr.nil n0
  obtain ⟨T101, h101, k101, X101, e101, E101, A101, B101, st101⟩ := newPE X0 hx hZ (wi hw 3 rfl) e0 (g := (mkF mM 1 (Lc_comp1_s2_0 a1) [(.int (2 : Int32))])) rfl (hb hj g52_16_0.2.1) rfl (by decide) (cap := 2) (by decide) (by decide) (by decide) (by decide) (ad := "[B") (by decide)
  obtain ⟨b101, g101⟩ : ∃ z : Nat, z = h0.size := ⟨_, rfl⟩
  rw [← g101] at A101 B101 st101
  have Sz1 : h0.size ≤ h101.size := E101.1
  have V_b101 : Arv Z h101 b101 k101 .byte (2 : Int32) [(.int (0 : Int32)), (.int (0 : Int32))] (.int (0 : Int32)) := (Arv.new A101 (by decide)).pad (pad_rep [] (.int (0 : Int32)) 2)
  have c103_V_a1 : Arv Z h101 a1 k1 .char (2 : Int32) [(.int c0), (.int c1)] (.int (0 : Int32)) := V_a1.ext E101
  have lt_a1 : @LT.lt Nat _ a1 h0.size := V_a1.lt
  have lt_b101 : @LT.lt Nat _ b101 h101.size := B101.lt
  have ne_a1_b101_104 : a1 ≠ b101 := (by omega : @Ne Nat a1 b101)
  have ge105_b101 : @LE.le Nat _ n0 b101 := by omega
  obtain ⟨_, _, ⟨T102, L102, k102, n102⟩, -, X102, ⟨Lc102, hQ102, l102, y102, z102⟩, st102⟩ := Jvm.LawKit.callS X101 hx (y := y44_) hown (mvT hZ (wi hw 259 rfl)) (mvT hZ (wi hw 260 rfl)) (mvT hZ (wi hw 257 rfl)) (mvT hZ (wi hw 261 rfl)) (by decide) (backOf (W := 0) (rm_comp0_s2 l Z a0 hw [] a1 b101 k1 k101 c0 c1 h101 n0 (by omega) c103_V_a1 V_b101 ne_a1_b101_104 ge105_b101 q0 q1) hZ (wi hw 261 rfl) (wi hw 257 rfl) (by decide) (by decide)) (g := (mkF mM 9 (Lc_comp1_s2_1 a1 b101) [(.int (2 : Int32)), (.int (0 : Int32)), (.ref b101), (.int (0 : Int32)), (.ref a1)])) rfl hml.symm (argsL := [(.ref a1), (.int (0 : Int32)), (.ref b101), (.int (0 : Int32)), (.int (2 : Int32))]) (rest := []) (lenOf pd_40 rfl) rfl (W0 rfl) (hb hj g52_16_2.1) (fun _ _ => ⟨rfl, e101, ble rfl, ble rfl⟩)
  dsimp only [Pt.U, Pt.locs, Pt.cells, Pt.slots] at X102 l102 y102 z102 st102 hQ102
  subst y102 z102
  obtain ⟨h102, e102⟩ : ∃ z, T102.heap = z := ⟨_, rfl⟩
  rw [e102] at hQ102
  obtain ⟨rfl, N102q, Kp102, p102_V_a2⟩ := hQ102
  have Sz2 : h101.size ≤ h102.size := Kp102.1
  have N102 : Fr n0 L102 := by rw [l102]; exact Fr.app N0 N102q
  have K106 : Keep h0 h101 [] := (Keep.refl h0 []).ext E101
  have K107 : Keep h0 h102 [] := K106.trans Kp102 (allS (Or.inr (by omega : @LE.le Nat _ h0.size b101)) all0)
  obtain ⟨fs, hr, hrun, hended, hW, hsame⟩ := X102.leave (v := some (.ref b101)) (fun h => by rw [Bd.returns] at h; cases h)
  refine ⟨_, _, castTop (ef_comp1_s2 mM a1 k1 c0 c1) ?_, hrun, hended, _, _, rfl, ?_, ⟨_, rfl⟩, hW, hsame.mono (by decide) (by decide)⟩
  · show SS pP eE bS s₁ (mkF mM 0 (Lc_comp1_s2_0 a1) []) _
    refine XS.iloadN X0.here hx rfl (hb hj g52_16_0.1) rfl ?_
    refine st101 _ ?_
    refine XS.astoreN X101.here hx rfl (hb hj g52_16_0.2.2.1) rfl rfl (l' := (Lc_comp1_s2_1 a1 b101)) rfl ?_
    refine XS.aloadN X101.here hx rfl (hb hj g52_16_0.2.2.2) rfl rfl ?_
    refine XS.iloadN X101.here hx rfl (hb hj g52_16_1.1) rfl ?_
    refine XS.aloadN X101.here hx rfl (hb hj g52_16_1.2.1) rfl rfl ?_
    refine XS.iconst X101.here hx rfl (hb hj g52_16_1.2.2.1) ?_
    refine XS.iloadN X101.here hx rfl (hb hj g52_16_1.2.2.2) rfl ?_
    refine st102 _ ?_
    refine XS.istore X102.here hx rfl (hb hj g52_16_2.2.1) rfl (l' := (Lc_comp1_s2_2 a1 b101)) rfl ?_
    refine XS.iload X102.here hx rfl (hb hj g52_16_2.2.2.1) rfl ?_
    refine XS.iloadN X102.here hx rfl (hb hj g52_16_2.2.2.2) rfl ?_
    refine XS.icmpYes X102.here hx rfl (pc0 := 17) (pc' := 57) rfl (hb hj g52_16_3.1) rfl (teq (by decide : (2 : Int32) = (2 : Int32))).1 (by decide) (by decide) ?_
    refine XS.aloadN X102.here hx rfl (hb hj g52_16_3.2.1) rfl rfl ?_
    jvm_step X102.here [X102.here.top, hx, (hb hj g52_16_3.2.2), X102.method', Bd.returns, Value.isRef, FieldType.isReference]
    first | (intro acts; rw [hr _ acts rfl rfl rfl]) | rw [hr _ _ rfl rfl rfl]
    exact Steps.refl _
  · show Q_comp1_s2 Z a1 k1 c0 c1 h0 n0 _ T102.heap _
    rw [e102]
    exact ⟨b101, k101, rfl, N102, K107, p102_V_a2, (by omega)⟩
abbrev c52_15 := jdk_52_method_15_code
theorem g52_15_0 : decode c52_15 0 = .ok (.iload_n 1, 1) ∧ decode c52_15 1 = .ok (.aload_n 0, 1) ∧ decode c52_15 2 = .ok (.arraylength, 1) ∧ decode c52_15 3 = .ok (.isub, 1) := by decide +kernel
theorem g52_15_1 : decode c52_15 4 = .ok (.bipush 31, 2) ∧ decode c52_15 6 = .ok (.iushr, 1) ∧ decode c52_15 7 = .ok (.i2b, 1) ∧ decode c52_15 8 = .ok (.ireturn, 1) := by decide +kernel
abbrev y46_ : MethodName := ⟨"java/lang/StringUTF16", "coderFromArrayLen", "([BI)B"⟩
def Q_coder_s2 (Z : State) (a1 : Addr) (k1 : ClassId) (vs : List Value) (h0 : Heap) (n0 : Nat) (xv : Option Value) (xh : Heap) (xL : List Loc) : Prop := xv = some (.int (0 : Int32)) ∧ Fr n0 xL ∧ xh = h0
theorem ef_coder_s2 (mM : MethodId) (a1 : Addr) (k1 : ClassId) (vs : List Value) : entryFrame mM #[(.ref a1), (.int (2 : Int32))] 2 = mkF mM 0 #[.val (.ref a1), .val (.int (2 : Int32))] [] := by
  first | (simp [entryFrame, mkF, argsToLocals, Value.category]; done) | rfl
theorem rm_coder_s2 (hw : HW a0 Z) (ws : List Jvm.Cond) (a1 : Addr) (k1 : ClassId) (vs : List Value) (h0 : Heap) (n0 : Nat) (Z0 : n0 ≤ h0.size) (V_a1 : Arv Z h0 a1 k1 .byte (2 : Int32) vs (.int (0 : Int32))) :
    MF l y46_ jdk_52_method_15_code 2 (some .byte) ws r0_0_0_0 #[(.ref a1), (.int (2 : Int32))] Z h0 (Q_coder_s2 Z a1 k1 vs h0 n0) := by
  refine MetFree.of_bodySF (plainFor_of_name pn_java_lang_StringUTF16) hisR ?_
  intro pP eE sS mM aS bS mS cC s₁ Bd hml0 hP hK
  obtain ⟨rfl, hZ, hh⟩ := hP
  have hx := Bd.exec
  have hj := Bd.bytes
  have hml : cC.maxLocals = 2 := hml0
  have hown : sS.vm.findClass "java/lang/StringUTF16" = some mM.cls := findClass_of_methodNamed Bd.named
  have X0 : Stand pP l eE r0_0_0_0 sS mM _ bS mS cC s₁ [] 0 0 := Stand.of_body Bd
  have e0 : s₁.heap = h0 := by rw [← hh, Bd.state]; rfl
  have N0 := Fr.nil n0
  obtain ⟨cl101, Ar101, q101, S101, Ng101, Ha101, Ga101⟩ := id V_a1
  obtain ⟨fs, hr, hrun, hended, hW, hsame⟩ := X0.leave (v := some (.int (0 : Int32))) (fun h => by rw [Bd.returns] at h; cases h)
  refine ⟨_, _, castTop (ef_coder_s2 mM a1 k1 vs) ?_, hrun, hended, _, _, rfl, ?_, ⟨_, rfl⟩, hW, hsame.mono (by decide) (by decide)⟩
  · show SS pP eE bS s₁ (mkF mM 0 #[.val (.ref a1), .val (.int (2 : Int32))] []) _
    refine XS.iloadN X0.here hx rfl (hb hj g52_15_0.1) rfl ?_
    refine XS.aloadN X0.here hx rfl (hb hj g52_15_0.2.1) rfl rfl ?_
    refine X0.arraylength hx (by rw [e0]; exact Ar101.1) (State.isArrayOf_alike hZ.alike Ar101.2.1) (g := (mkF mM 2 #[.val (.ref a1), .val (.int (2 : Int32))] [(.ref a1), (.int (2 : Int32))])) rfl rfl (hb hj g52_15_0.2.2.1) _ ?_
    rw [len_of S101 Ng101]
    refine XS.isub X0.here hx rfl (hb hj g52_15_0.2.2.2) rfl ?_
    refine XS.bipush X0.here hx rfl (hb hj g52_15_1.1) ?_
    refine XS.iushr X0.here hx rfl (hb hj g52_15_1.2.1) rfl ?_
    refine XS.i2b X0.here hx rfl (hb hj g52_15_1.2.2.1) rfl ?_
    exact retN X0 hx (t := .byte) Bd.returns (by simp) (hb hj g52_15_1.2.2.2) hr
  · show Q_coder_s2 Z a1 k1 vs h0 n0 _ s₁.heap _
    rw [e0]
    exact ⟨rfl, N0, rfl⟩
abbrev c42_149 := jdk_42_method_149_code
theorem g42_149_0 : decode c42_149 0 = .ok (.aload_n 0, 1) ∧ decode c42_149 1 = .ok (.invokespecial 1, 3) ∧ decode c42_149 4 = .ok (.iload_n 3, 1) ∧ decode c42_149 5 = .ok (.ifCond .ne 22, 3) := by decide +kernel
theorem g42_149_1 : decode c42_149 27 = .ok (.getstatic 38, 3) ∧ decode c42_149 30 = .ok (.ifCond .eq 28, 3) ∧ decode c42_149 33 = .ok (.aload_n 1, 1) ∧ decode c42_149 34 = .ok (.iload_n 2, 1) := by decide +kernel
theorem g42_149_2 : decode c42_149 35 = .ok (.iload_n 3, 1) ∧ decode c42_149 36 = .ok (.invokestatic 177, 3) ∧ decode c42_149 39 = .ok (.astore 5, 2) ∧ decode c42_149 41 = .ok (.aload_n 0, 1) := by decide +kernel
theorem pd_39 : parseMethodDescriptor "([CII)[B" = some ⟨[(.array .char), .int, .int], some (.array .byte)⟩ := by decide +kernel
theorem g42_149_3 : decode c42_149 42 = .ok (.aload 5, 2) ∧ decode c42_149 44 = .ok (.iload_n 3, 1) ∧ decode c42_149 45 = .ok (.invokestatic 47, 3) ∧ decode c42_149 48 = .ok (.putfield 15, 3) := by decide +kernel
theorem pd_41 : parseMethodDescriptor "([BI)B" = some ⟨[(.array .byte), .int], some .byte⟩ := by decide +kernel
theorem g42_149_4 : decode c42_149 51 = .ok (.aload_n 0, 1) ∧ decode c42_149 52 = .ok (.aload 5, 2) ∧ decode c42_149 54 = .ok (.putfield 9, 3) ∧ decode c42_149 57 = .ok (.return_, 1) := by decide +kernel
abbrev r2_1_2_35 : Room := { frames := 2, cells := 1, slots := 2, locals := 35 }
abbrev y47_ : MethodName := ⟨"java/lang/String", "<init>", "([CIILjava/lang/Void;)V"⟩
def Q_init4_s2 (Z : State) (o : Addr) (a1 : Addr) (k1 : ClassId) (u1 : Value) (u2 : Value) (cs : Int32) (c0 : Int32) (c1 : Int32) (h0 : Heap) (n0 : Nat) (xv : Option Value) (xh : Heap) (xL : List Loc) : Prop := ∃ b : Addr, ∃ k2 : ClassId, xv = none ∧ Fr n0 xL ∧ Keep h0 xh [o] ∧ Exa Z xh o "java/lang/String" ∧ Fld Z xh o "java/lang/String" "value" "[B" (.ref b) ∧ Fld Z xh o "java/lang/String" "coder" "B" (.int (0 : Int32)) ∧ Arv Z xh b k2 .byte (2 : Int32) [(.int c0.toInt8.toInt32), (.int c1.toInt8.toInt32)] (.int (0 : Int32)) ∧ @LE.le Nat _ h0.size b
abbrev Lc_init4_s2_0 (o : Addr) (a1 : Addr) : Array Slot := #[.val (.ref o), .val (.ref a1), .val (.int (0 : Int32)), .val (.int (2 : Int32)), .val .null, .unset]
abbrev Lc_init4_s2_1 (o : Addr) (a1 : Addr) (b_104 : Addr) : Array Slot := #[.val (.ref o), .val (.ref a1), .val (.int (0 : Int32)), .val (.int (2 : Int32)), .val .null, .val (.ref b_104)]
theorem ef_init4_s2 (mM : MethodId) (o : Addr) (a1 : Addr) (k1 : ClassId) (u1 : Value) (u2 : Value) (cs : Int32) (c0 : Int32) (c1 : Int32) : entryFrame mM #[(.ref o), (.ref a1), (.int (0 : Int32)), (.int (2 : Int32)), .null] 6 = mkF mM 0 #[.val (.ref o), .val (.ref a1), .val (.int (0 : Int32)), .val (.int (2 : Int32)), .val .null, .unset] [] := by
  first | (simp [entryFrame, mkF, argsToLocals, Value.category]; done) | rfl
theorem rm_init4_s2 (hw : HW a0 Z) (ws : List Jvm.Cond) (o : Addr) (a1 : Addr) (k1 : ClassId) (u1 : Value) (u2 : Value) (cs : Int32) (c0 : Int32) (c1 : Int32) (h0 : Heap) (n0 : Nat) (Z0 : n0 ≤ h0.size) (E_o : Exa Z h0 o "java/lang/String") (F_value_o : Fld Z h0 o "java/lang/String" "value" "[B" u1) (F_coder_o : Fld Z h0 o "java/lang/String" "coder" "B" u2) (V_a1 : Arv Z h0 a1 k1 .char (2 : Int32) [(.int c0), (.int c1)] (.int (0 : Int32))) (g_o : @LE.le Nat _ n0 o) (OL : Old Z n0 h0) (S_COMPACT_STRINGS : Sta Z Z.heap "java/lang/String" "COMPACT_STRINGS" "Z" (.int cs)) (hcs : ¬ (cs = (0 : Int32))) (q0 : ¬ ((255 : Int32) < c0)) (q1 : ¬ ((255 : Int32) < c1)) :
    MF l y47_ jdk_42_method_149_code 6 none ws r2_1_2_35 #[(.ref o), (.ref a1), (.int (0 : Int32)), (.int (2 : Int32)), .null] Z h0 (Q_init4_s2 Z o a1 k1 u1 u2 cs c0 c1 h0 n0) := by
  refine MetFree.of_bodySF (plainFor_of_name pn_java_lang_String) hisR ?_
  intro pP eE sS mM aS bS mS cC s₁ Bd hml0 hP hK
  obtain ⟨rfl, hZ, hh⟩ := hP
  have hx := Bd.exec
  have hj := Bd.bytes
  have hml : cC.maxLocals = 6 := hml0
  have hown : sS.vm.findClass "java/lang/String" = some mM.cls := findClass_of_methodNamed Bd.named
  have hnm := (name_of_methodNamed Bd.named Bd.method).1
  have X0 : Stand pP l eE r2_1_2_35 sS mM _ bS mS cC s₁ [] 0 0 := Stand.of_body Bd
  have e0 : s₁.heap = h0 := by rw [← hh, Bd.state]; rfl
  have N0 := Fr.nil n0
  obtain ⟨T101, X101, e101, st101⟩ := initO X0 hx hZ hown (wi hw 30 rfl) (wi hw 31 rfl) (wi hw 32 rfl) e0 (g := (mkF mM 1 (Lc_init4_s2_0 o a1) [(.ref o)])) rfl hml.symm rfl (hb hj g42_149_0.2.1) (by decide) (W := 0) (W0 rfl) (by decide)
  have c102_S_COMPACT_STRINGS : Sta Z h0 "java/lang/String" "COMPACT_STRINGS" "Z" (.int cs) := Sta.ext OL.2 S_COMPACT_STRINGS
  obtain ⟨T103, X103, e103, st103⟩ := getS2 X101 hx hZ hown (host := "") (Or.inl (wi hw 17 rfl)) Via.refl e101 c102_S_COMPACT_STRINGS (g := (mkF mM 27 (Lc_init4_s2_0 o a1) [])) rfl (hb hj g42_149_1.1)
  obtain ⟨_, _, ⟨T104, L104, k104, n104⟩, -, X104, ⟨Lc104, hQ104, l104, y104, z104⟩, st104⟩ := Jvm.LawKit.callS X103 hx (y := y45_) hown (mvT hZ (wi hw 255 rfl)) (mvT hZ (wi hw 256 rfl)) (mvT hZ (wi hw 257 rfl)) (mvT hZ (wi hw 258 rfl)) (by decide) (backOf (W := 0) (rm_comp1_s2 l Z a0 hw [] a1 k1 c0 c1 h0 n0 (by omega) V_a1 q0 q1) hZ (wi hw 258 rfl) (wi hw 257 rfl) (by decide) (by decide)) (g := (mkF mM 36 (Lc_init4_s2_0 o a1) [(.int (2 : Int32)), (.int (0 : Int32)), (.ref a1)])) rfl hml.symm (argsL := [(.ref a1), (.int (0 : Int32)), (.int (2 : Int32))]) (rest := []) (lenOf pd_39 rfl) rfl (W0 rfl) (hb hj g42_149_2.2.1) (fun _ _ => ⟨rfl, e103, ble rfl, ble rfl⟩)
  dsimp only [Pt.U, Pt.locs, Pt.cells, Pt.slots] at X104 l104 y104 z104 st104 hQ104
  subst y104 z104
  obtain ⟨h104, e104⟩ : ∃ z, T104.heap = z := ⟨_, rfl⟩
  rw [e104] at hQ104
  obtain ⟨b_104, k2_104, rfl, N104q, Kp104, p104_V_b, p104_gh_b⟩ := hQ104
  have Sz1 : h0.size ≤ h104.size := Kp104.1
  have N104 : Fr n0 L104 := by rw [l104]; exact Fr.app N0 N104q
  obtain ⟨_, _, ⟨T105, L105, k105, n105⟩, -, X105, ⟨Lc105, hQ105, l105, y105, z105⟩, st105⟩ := Jvm.LawKit.callS X104 hx (y := y46_) hown (mvT hZ (wi hw 262 rfl)) (mvT hZ (wi hw 263 rfl)) (mvT hZ (wi hw 257 rfl)) (mvT hZ (wi hw 264 rfl)) (by decide) (backOf (W := 1) (rm_coder_s2 l Z a0 hw [] b_104 k2_104 [(.int c0.toInt8.toInt32), (.int c1.toInt8.toInt32)] h104 n0 (by omega) p104_V_b) hZ (wi hw 264 rfl) (wi hw 257 rfl) (by decide) (by decide)) (g := (mkF mM 45 (Lc_init4_s2_1 o a1 b_104) [(.int (2 : Int32)), (.ref b_104), (.ref o)])) rfl hml.symm (argsL := [(.ref b_104), (.int (2 : Int32))]) (rest := [(.ref o)]) (lenOf pd_41 rfl) rfl (W0 rfl) (hb hj g42_149_3.2.2.1) (fun _ _ => ⟨rfl, e104, ble rfl, ble rfl⟩)
  dsimp only [Pt.U, Pt.locs, Pt.cells, Pt.slots] at X105 l105 y105 z105 st105 hQ105
  subst y105 z105
  obtain ⟨h105, e105⟩ : ∃ z, T105.heap = z := ⟨_, rfl⟩
  rw [e105] at hQ105
  obtain ⟨rfl, N105q, eq105⟩ := hQ105
  rw [eq105] at e105
  have N105 : Fr n0 L105 := by rw [l105]; exact Fr.app N104 N105q
  have c106_F_coder_o : Fld Z h104 o "java/lang/String" "coder" "B" u2 := F_coder_o.keep Kp104 nin0
  have c107_E_o : Exa Z h104 o "java/lang/String" := E_o.keep Kp104
  obtain ⟨T108, h108, X108, e108, W108, st108⟩ := putFN X105 hx hZ hown (wi hw 34 rfl) Via.refl e105 c106_F_coder_o c107_E_o (Or.inr ⟨(wi hw 5 rfl), rfl, hnm⟩) (wi hw 2 rfl) (ty := .byte) (v' := (.int (0 : Int32))) (by decide) (rfl) (rfl) (g := (mkF mM 48 (Lc_init4_s2_1 o a1 b_104) [(.int (0 : Int32)), (.ref o)])) rfl rfl (hb hj g42_149_3.2.2.2)
  have Sz2 : h104.size ≤ h108.size := Nat.le_of_eq (Wr.size W108).symm
  have Fw108 : Fld Z h108 o "java/lang/String" "coder" "B" (.int (0 : Int32)) := Fld.same W108 c106_F_coder_o
  have N108 := Fr.snoc X108 N105 g_o
  have c109_F_value_o : Fld Z h104 o "java/lang/String" "value" "[B" u1 := F_value_o.keep Kp104 nin0
  have c110_F_value_o : Fld Z h108 o "java/lang/String" "value" "[B" u1 := Fld.other W108 c109_F_value_o (Or.inr (slot_ne (Or.inr (wi hw 4 rfl)) (Or.inr (wi hw 5 rfl)) (by decide) (t := (.array .byte)) (t' := .byte) (by decide) (by decide)))
  have c111_E_o : Exa Z h108 o "java/lang/String" := Exa.wr W108 c107_E_o
  obtain ⟨T112, h112, X112, e112, W112, st112⟩ := putF X108 hx hZ hown (host := "") (Or.inl (wi hw 33 rfl)) Via.refl e108 c110_F_value_o c111_E_o (Or.inr ⟨(wi hw 4 rfl), rfl, hnm⟩) (wi hw 2 rfl) (ty := (.array .byte)) (by decide) rfl rfl (g := (mkF mM 54 (Lc_init4_s2_1 o a1 b_104) [(.ref b_104), (.ref o)])) rfl rfl (hb hj g42_149_4.2.2.1)
  have Sz3 : h108.size ≤ h112.size := Nat.le_of_eq (Wr.size W112).symm
  have Fw112 : Fld Z h112 o "java/lang/String" "value" "[B" (.ref b_104) := Fld.same W112 c110_F_value_o
  have N112 := Fr.snoc X112 N108 g_o
  have lt_b_104 : @LT.lt Nat _ b_104 h104.size := p104_V_b.lt
  have lt_o : @LT.lt Nat _ o h0.size := E_o.lt
  have ne_b_104_o_113 : b_104 ≠ o := (by omega : @Ne Nat b_104 o)
  have c114_V_b_104 : Arv Z h108 b_104 k2_104 .byte (2 : Int32) [(.int c0.toInt8.toInt32), (.int c1.toInt8.toInt32)] (.int (0 : Int32)) := p104_V_b.other W108 ne_b_104_o_113
  have c115_V_b_104 : Arv Z h112 b_104 k2_104 .byte (2 : Int32) [(.int c0.toInt8.toInt32), (.int c1.toInt8.toInt32)] (.int (0 : Int32)) := c114_V_b_104.other W112 ne_b_104_o_113
  have c116_E_o : Exa Z h112 o "java/lang/String" := Exa.wr W112 c111_E_o
  have c117_F_coder_o : Fld Z h112 o "java/lang/String" "coder" "B" (.int (0 : Int32)) := Fld.other W112 Fw108 (Or.inr (slot_ne (Or.inr (wi hw 5 rfl)) (Or.inr (wi hw 4 rfl)) (by decide) (t := .byte) (t' := (.array .byte)) (by decide) (by decide)))
  have K118 : Keep h0 h104 [o] := (Keep.refl h0 [o]).trans Kp104 all0
  have K119 : Keep h0 h108 [o] := K118.wr W108 (Or.inl (List.mem_of_getElem? (i := 0) rfl))
  have K120 : Keep h0 h112 [o] := K119.wr W112 (Or.inl (List.mem_of_getElem? (i := 0) rfl))
  obtain ⟨fs, hr, hrun, hended, hW, hsame⟩ := X112.leave (v := none) (fun _ => rfl)
  refine ⟨_, _, castTop (ef_init4_s2 mM o a1 k1 u1 u2 cs c0 c1) ?_, hrun, hended, _, _, rfl, ?_, ⟨_, rfl⟩, hW, hsame.mono (by decide) (by decide)⟩
  · show SS pP eE bS s₁ (mkF mM 0 (Lc_init4_s2_0 o a1) []) _
    refine XS.aloadN X0.here hx rfl (hb hj g42_149_0.1) rfl rfl ?_
    refine st101 _ ?_
    refine XS.iloadN X101.here hx rfl (hb hj g42_149_0.2.2.1) rfl ?_
    refine XS.ifYes X101.here hx rfl (pc0 := 5) (pc' := 27) rfl (hb hj g42_149_0.2.2.2) rfl ((if0 _ _).trans (feq (by decide : ¬ ((2 : Int32) = (0 : Int32)))).2) (by decide) (by decide) ?_
    refine st103 _ ?_
    refine XS.ifNo X103.here hx rfl (hb hj g42_149_1.2.1) rfl ((if0 _ _).trans (feq hcs).1) ?_
    refine XS.aloadN X103.here hx rfl (hb hj g42_149_1.2.2.1) rfl rfl ?_
    refine XS.iloadN X103.here hx rfl (hb hj g42_149_1.2.2.2) rfl ?_
    refine XS.iloadN X103.here hx rfl (hb hj g42_149_2.1) rfl ?_
    refine st104 _ ?_
    refine XS.astore X104.here hx rfl (hb hj g42_149_2.2.2.1) rfl rfl (l' := (Lc_init4_s2_1 o a1 b_104)) rfl ?_
    refine XS.aloadN X104.here hx rfl (hb hj g42_149_2.2.2.2) rfl rfl ?_
    refine XS.aload X104.here hx rfl (hb hj g42_149_3.1) rfl rfl ?_
    refine XS.iloadN X104.here hx rfl (hb hj g42_149_3.2.1) rfl ?_
    refine st105 _ ?_
    refine st108 _ ?_
    refine XS.aloadN X108.here hx rfl (hb hj g42_149_4.1) rfl rfl ?_
    refine XS.aload X108.here hx rfl (hb hj g42_149_4.2.1) rfl rfl ?_
    refine st112 _ ?_
    exact X112.returnOut hx Bd.returns (hb hj g42_149_4.2.2.2) hr
  · show Q_init4_s2 Z o a1 k1 u1 u2 cs c0 c1 h0 n0 _ T112.heap _
    rw [e112]
    exact ⟨b_104, k2_104, rfl, N112, K120, c116_E_o, Fw112, c117_F_coder_o, c115_V_b_104, (by omega)⟩
abbrev c42_3 := jdk_42_method_3_code
theorem g42_3_0 : decode c42_3 0 = .ok (.aload_n 0, 1) ∧ decode c42_3 1 = .ok (.aload_n 1, 1) ∧ decode c42_3 2 = .ok (.iconst 0, 1) ∧ decode c42_3 3 = .ok (.aload_n 1, 1) := by decide +kernel
theorem g42_3_1 : decode c42_3 4 = .ok (.arraylength, 1) ∧ decode c42_3 5 = .ok (.aconst_null, 1) ∧ decode c42_3 6 = .ok (.invokespecial 27, 3) ∧ decode c42_3 9 = .ok (.return_, 1) := by decide +kernel
theorem pd_38 : parseMethodDescriptor "([CIILjava/lang/Void;)V" = some ⟨[(.array .char), .int, .int, (.object "java/lang/Void")], none⟩ := by decide +kernel
abbrev r3_1_2_52 : Room := { frames := 3, cells := 1, slots := 2, locals := 52 }
abbrev y48_ : MethodName := ⟨"java/lang/String", "<init>", "([C)V"⟩
def Q_init1_s2 (Z : State) (o : Addr) (a1 : Addr) (k1 : ClassId) (u1 : Value) (u2 : Value) (cs : Int32) (c0 : Int32) (c1 : Int32) (h0 : Heap) (n0 : Nat) (xv : Option Value) (xh : Heap) (xL : List Loc) : Prop := ∃ b : Addr, ∃ k2 : ClassId, xv = none ∧ Fr n0 xL ∧ Keep h0 xh [o] ∧ Exa Z xh o "java/lang/String" ∧ Fld Z xh o "java/lang/String" "value" "[B" (.ref b) ∧ Fld Z xh o "java/lang/String" "coder" "B" (.int (0 : Int32)) ∧ Arv Z xh b k2 .byte (2 : Int32) [(.int c0.toInt8.toInt32), (.int c1.toInt8.toInt32)] (.int (0 : Int32)) ∧ @LE.le Nat _ h0.size b
theorem ef_init1_s2 (mM : MethodId) (o : Addr) (a1 : Addr) (k1 : ClassId) (u1 : Value) (u2 : Value) (cs : Int32) (c0 : Int32) (c1 : Int32) : entryFrame mM #[(.ref o), (.ref a1)] 2 = mkF mM 0 #[.val (.ref o), .val (.ref a1)] [] := by
  first | (simp [entryFrame, mkF, argsToLocals, Value.category]; done) | rfl
theorem rm_init1_s2 (hw : HW a0 Z) (ws : List Jvm.Cond) (o : Addr) (a1 : Addr) (k1 : ClassId) (u1 : Value) (u2 : Value) (cs : Int32) (c0 : Int32) (c1 : Int32) (h0 : Heap) (n0 : Nat) (Z0 : n0 ≤ h0.size) (E_o : Exa Z h0 o "java/lang/String") (F_value_o : Fld Z h0 o "java/lang/String" "value" "[B" u1) (F_coder_o : Fld Z h0 o "java/lang/String" "coder" "B" u2) (V_a1 : Arv Z h0 a1 k1 .char (2 : Int32) [(.int c0), (.int c1)] (.int (0 : Int32))) (g_o : @LE.le Nat _ n0 o) (OL : Old Z n0 h0) (S_COMPACT_STRINGS : Sta Z Z.heap "java/lang/String" "COMPACT_STRINGS" "Z" (.int cs)) (hcs : ¬ (cs = (0 : Int32))) (q0 : ¬ ((255 : Int32) < c0)) (q1 : ¬ ((255 : Int32) < c1)) :
    MF l y48_ jdk_42_method_3_code 2 none ws r3_1_2_52 #[(.ref o), (.ref a1)] Z h0 (Q_init1_s2 Z o a1 k1 u1 u2 cs c0 c1 h0 n0) := by
  refine MetFree.of_bodySF (plainFor_of_name pn_java_lang_String) hisR ?_
  intro pP eE sS mM aS bS mS cC s₁ Bd hml0 hP hK
  obtain ⟨rfl, hZ, hh⟩ := hP
  have hx := Bd.exec
  have hj := Bd.bytes
  have hml : cC.maxLocals = 2 := hml0
  have hown : sS.vm.findClass "java/lang/String" = some mM.cls := findClass_of_methodNamed Bd.named
  have X0 : Stand pP l eE r3_1_2_52 sS mM _ bS mS cC s₁ [] 0 0 := Stand.of_body Bd
  have e0 : s₁.heap = h0 := by rw [← hh, Bd.state]; rfl
  have N0 := Fr.nil n0
  obtain ⟨cl101, Ar101, q101, S101, Ng101, Ha101, Ga101⟩ := id V_a1
  obtain ⟨_, _, ⟨T102, L102, k102, n102⟩, -, X102, ⟨Lc102, hQ102, l102, y102, z102⟩, st102⟩ := X0.specialBack hx (y := y47_) rfl hown (mvT hZ (wi hw 252 rfl)) (mvT hZ (wi hw 253 rfl)) (mvT hZ (wi hw 254 rfl)) (by decide) (backOf (W := 0) (rm_init4_s2 l Z a0 hw [] o a1 k1 u1 u2 cs c0 c1 h0 n0 (by omega) E_o F_value_o F_coder_o V_a1 g_o OL S_COMPACT_STRINGS hcs q0 q1) hZ (wi hw 254 rfl) (wi hw 1 rfl) (by decide) (by decide)) (g := (mkF mM 6 #[.val (.ref o), .val (.ref a1)] [.null, (.int (2 : Int32)), (.int (0 : Int32)), (.ref a1), (.ref o)])) rfl hml.symm (Steps.refl _) (a := o) (argsL := [(.ref a1), (.int (0 : Int32)), (.int (2 : Int32)), .null]) (rest := []) (lenOf pd_38 rfl) rfl (W0 rfl) (hb hj g42_3_1.2.2.1) (fun _ _ => ⟨rfl, e0, ble rfl, ble rfl⟩)
  dsimp only [Pt.U, Pt.locs, Pt.cells, Pt.slots] at X102 l102 y102 z102 st102 hQ102
  subst y102 z102
  obtain ⟨h102, e102⟩ : ∃ z, T102.heap = z := ⟨_, rfl⟩
  rw [e102] at hQ102
  obtain ⟨b_102, k2_102, rfl, N102q, Kp102, p102_E_o, p102_F_value_o, p102_F_coder_o, p102_V_b, p102_gh_b⟩ := hQ102
  have Sz1 : h0.size ≤ h102.size := Kp102.1
  have N102 : Fr n0 L102 := by rw [l102]; exact Fr.app N0 N102q
  have K103 : Keep h0 h102 [o] := (Keep.refl h0 [o]).trans Kp102 (allS (Or.inl (List.mem_of_getElem? (i := 0) rfl)) all0)
  obtain ⟨fs, hr, hrun, hended, hW, hsame⟩ := X102.leave (v := none) (fun _ => rfl)
  refine ⟨_, _, castTop (ef_init1_s2 mM o a1 k1 u1 u2 cs c0 c1) ?_, hrun, hended, _, _, rfl, ?_, ⟨_, rfl⟩, hW, hsame.mono (by decide) (by decide)⟩
  · show SS pP eE bS s₁ (mkF mM 0 #[.val (.ref o), .val (.ref a1)] []) _
    refine XS.aloadN X0.here hx rfl (hb hj g42_3_0.1) rfl rfl ?_
    refine XS.aloadN X0.here hx rfl (hb hj g42_3_0.2.1) rfl rfl ?_
    refine XS.iconst X0.here hx rfl (hb hj g42_3_0.2.2.1) ?_
    refine XS.aloadN X0.here hx rfl (hb hj g42_3_0.2.2.2) rfl rfl ?_
    refine X0.arraylength hx (by rw [e0]; exact Ar101.1) (State.isArrayOf_alike hZ.alike Ar101.2.1) (g := (mkF mM 4 #[.val (.ref o), .val (.ref a1)] [(.ref a1), (.int (0 : Int32)), (.ref a1), (.ref o)])) rfl rfl (hb hj g42_3_1.1) _ ?_
    rw [len_of S101 Ng101]
    refine XS.aconstNull X0.here hx rfl (hb hj g42_3_1.2.1) ?_
    refine st102.trans ?_
    exact X102.returnOut hx Bd.returns (hb hj g42_3_1.2.2.2) hr
  · show Q_init1_s2 Z o a1 k1 u1 u2 cs c0 c1 h0 n0 _ T102.heap _
    rw [e102]
    exact ⟨b_102, k2_102, rfl, N102, K103, p102_E_o, p102_F_value_o, p102_F_coder_o, p102_V_b, (by omega)⟩
theorem own_txt5 : (∀ c ∈ "".toList, c.toNat < 256) ∧ "".toList.map (fun c => Value.int (Jvm.Lit.byteI c.toNat.toUInt16)) = [] := by
  constructor
  · decide
  · first | rfl | decide
theorem pd_1 : parseMethodDescriptor "(C)Ljava/lang/String;" = some ⟨[.char], some (.object "java/lang/String")⟩ := by decide +kernel
theorem pd_37 : parseMethodDescriptor "([C)V" = some ⟨[(.array .char)], none⟩ := by decide +kernel
abbrev Lc_sel0_0 (p0 : Int32) (p1 : Int32) (p2 : Int32) (p3 : Int32) : Array Slot := #[.val (.int p0), .val (.int p1), .val (.int p2), .val (.int p3), .unset, .unset, .unset, .unset, .unset, .unset, .unset, .unset, .unset, .unset, .unset, .unset]
abbrev Lc_sel0_1 (p0 : Int32) (p1 : Int32) (p2 : Int32) (p3 : Int32) (c0 : Int32) : Array Slot := #[.val (.int p0), .val (.int p1), .val (.int p2), .val (.int p3), .val (.int c0), .unset, .unset, .unset, .unset, .unset, .unset, .unset, .unset, .unset, .unset, .unset]
abbrev Lc_sel0_2 (p0 : Int32) (p1 : Int32) (p2 : Int32) (p3 : Int32) (c0 : Int32) (c1 : Int32) : Array Slot := #[.val (.int p0), .val (.int p1), .val (.int p2), .val (.int p3), .val (.int c0), .val (.int c1), .unset, .unset, .unset, .unset, .unset, .unset, .unset, .unset, .unset, .unset]
abbrev Lc_sel0_3 (p0 : Int32) (p1 : Int32) (p2 : Int32) (p3 : Int32) (c0 : Int32) (c1 : Int32) : Array Slot := #[.val (.int p0), .val (.int p1), .val (.int p2), .val (.int p3), .val (.int c0), .val (.int c1), .val (.int (0 : Int32)), .unset, .unset, .unset, .unset, .unset, .unset, .unset, .unset, .unset]
abbrev Lc_sel0_4 (p0 : Int32) (p1 : Int32) (p2 : Int32) (p3 : Int32) (c0 : Int32) (c1 : Int32) (b101 : Addr) : Array Slot := #[.val (.int p0), .val (.int p1), .val (.int p2), .val (.int p3), .val (.int c0), .val (.int c1), .val (.int (0 : Int32)), .val (.ref b101), .unset, .unset, .unset, .unset, .unset, .unset, .unset, .unset]
theorem sg_sel0 (hw : HW a0 Z) (p0 : Int32) (p1 : Int32) (p2 : Int32) (p3 : Int32) (c0 : Int32) (c1 : Int32) (cs : Int32) (fo : Value) (da : Addr) (ea : Addr) {vB : Vm} {kB : Nat} (h0 : Heap) (n0 : Nat) (hS0 : sS.Since vB kB) (hkB : kB ≤ h0.size) (hCH : CHv Z consts_1 vB h0) (G : SG l Z pP eE room_1 (sS.setVm vB) mM aS bS mS cC s₁ lc0 cl0 sl0 h0 n0 code 16 "com/example/tessera/tessera/sql/SqlTextPagedPinLaw" 3 8) (ee0 : ((p0 &&& (255 : Int32)).toUInt32.toUInt16.toUInt32.toInt32) = c0) (ee1 : ((((p0.toUInt32 >>> ((8 : Int32) &&& 31).toUInt32).toInt32) &&& (255 : Int32)).toUInt32.toUInt16.toUInt32.toInt32) = c1) (f0 : (c0.toUInt32.toUInt16.toUInt32.toInt32) = c0) (f1 : (c1.toUInt32.toUInt16.toUInt32.toInt32) = c1) (q0 : ¬ ((255 : Int32) < c0)) (q1 : ¬ ((255 : Int32) < c1)) (hlen : ((((p0.toUInt32 >>> ((16 : Int32) &&& 31).toUInt32).toInt32) &&& (32767 : Int32)) % (3 : Int32)) = (0 : Int32)) (OL : Old Z n0 h0) (SX : Sts Z cs fo da ea) :
    ∃ t : Addr, ∃ tb : Addr, ∃ tk : ClassId, ∃ T' h' L' vE kE, Stand pP l eE room_1 (sS.setVm vE) mM aS bS mS cC T' L' (cl0 + 3) (sl0 + 8) ∧ T'.heap = h' ∧ sS.Since vE kE ∧ kE ≤ h'.size ∧ Z.Warmed39 (sS.setVm vE).vm ∧ (sS.setVm vE).vm.findClass "com/example/tessera/tessera/sql/SqlTextPagedPinLaw" = some mM.cls ∧ CHr Z consts_1 vB h0 vE h' ∧ Fr n0 L' ∧ Keep h0 h' [] ∧ StrA Z h' t tb tk 0 (selL 0 c0 c1) ∧ ∀ t', SS pP eE bS T' (mkF mM 81 #[.val (.int p0), .val (.int p1), .val (.int p2), .val (.int p3), .val (.int c0), .val (.int c1), .val (.int (0 : Int32)), .val (.ref t), .unset, .unset, .unset, .unset, .unset, .unset, .unset, .unset] []) t' → SS pP eE bS s₁ (mkF mM 0 #[.val (.int p0), .val (.int p1), .val (.int p2), .val (.int p3), .unset, .unset, .unset, .unset, .unset, .unset, .unset, .unset, .unset, .unset, .unset, .unset] []) t' := by
  obtain ⟨Z0, hx, hj, hml, hZ0, hown0, X0, e0, N0, hcl, hsl⟩ := id G
  have CC0 : CHr Z consts_1 vB h0 vB h0 := CHr.refl hCH
  obtain ⟨b101, T101, h101, kk101, d101, q101, X101, e101, E101, hS101, hk101, hZ101, hown101, A101, Fc101, Fv101, V101, ltb101, ltd101, Ch101, -, hne101, st101⟩ := ldcCH X0 hx hZ0 hown0 (wi hw 0 rfl) (own_wS hw) e0 hS0 (by omega) (own_EW hw) (List.mem_of_getElem? (i := 5) rfl) CC0.1 (vs := []) (z := (iN 0)) (own_txt5) (by decide) (by rfl) (g := (mkF mM 36 (Lc_sel0_3 p0 p1 p2 p3 c0 c1) [])) rfl (hb hj at_36) (n := 0) (by decide) (by decide) (segle (k := 0) hcl (by decide)) (segle (k := 0) hsl (by decide))
  have Sz1 : h0.size ≤ h101.size := E101.1
  have CC1 : CHr Z consts_1 vB h0 T101.vm h101 := CC0.trans Ch101
  have c102_A_b101 : StrA Z h101 b101 d101 q101 0 [] := ⟨A101, Fv101, Fc101, V101⟩
  have Sf : StrA Z h101 b101 d101 q101 0 (selL 0 c0 c1) := c102_A_b101
  have K103 : Keep h0 h101 [] := (Keep.refl h0 []).ext E101
  refine ⟨b101, d101, q101, T101, h101, _, T101.vm, _, (X101.mono (by omega) (by omega)), e101, hS101, (by omega), hZ101, hown101, CC1, N0, K103, Sf, fun t' hk' => ?_⟩
  show SS pP eE bS s₁ (mkF mM 0 (Lc_sel0_0 p0 p1 p2 p3) []) _
  refine XS.iloadN X0.here hx rfl (hb hj at_0) rfl ?_
  refine XS.sipush X0.here hx rfl (hb hj at_1) ?_
  refine XS.iand X0.here hx rfl (hb hj at_4) rfl ?_
  refine XS.i2c X0.here hx rfl (hb hj at_5) rfl ?_
  show SS pP eE bS s₁ (mkF mM 6 (Lc_sel0_0 p0 p1 p2 p3) [(.int ((p0 &&& (255 : Int32)).toUInt32.toUInt16.toUInt32.toInt32))]) _
  rw [show ((p0 &&& (255 : Int32)).toUInt32.toUInt16.toUInt32.toInt32) = c0 from ee0]
  refine XS.istore X0.here hx rfl (hb hj at_6) rfl (l' := (Lc_sel0_1 p0 p1 p2 p3 c0)) rfl ?_
  refine XS.iloadN X0.here hx rfl (hb hj at_8) rfl ?_
  refine XS.bipush X0.here hx rfl (hb hj at_9) ?_
  refine XS.iushr X0.here hx rfl (hb hj at_11) rfl ?_
  refine XS.sipush X0.here hx rfl (hb hj at_12) ?_
  refine XS.iand X0.here hx rfl (hb hj at_15) rfl ?_
  refine XS.i2c X0.here hx rfl (hb hj at_16) rfl ?_
  show SS pP eE bS s₁ (mkF mM 17 (Lc_sel0_1 p0 p1 p2 p3 c0) [(.int ((((p0.toUInt32 >>> ((8 : Int32) &&& 31).toUInt32).toInt32) &&& (255 : Int32)).toUInt32.toUInt16.toUInt32.toInt32))]) _
  rw [show ((((p0.toUInt32 >>> ((8 : Int32) &&& 31).toUInt32).toInt32) &&& (255 : Int32)).toUInt32.toUInt16.toUInt32.toInt32) = c1 from ee1]
  refine XS.istore X0.here hx rfl (hb hj at_17) rfl (l' := (Lc_sel0_2 p0 p1 p2 p3 c0 c1)) rfl ?_
  refine XS.iloadN X0.here hx rfl (hb hj at_19) rfl ?_
  refine XS.bipush X0.here hx rfl (hb hj at_20) ?_
  refine XS.iushr X0.here hx rfl (hb hj at_22) rfl ?_
  refine XS.sipush X0.here hx rfl (hb hj at_23) ?_
  refine XS.iand X0.here hx rfl (hb hj at_26) rfl ?_
  refine XS.iconst X0.here hx rfl (hb hj at_27) ?_
  refine iremM (g := (mkF mM 28 (Lc_sel0_2 p0 p1 p2 p3 c0 c1) [(.int (3 : Int32)), (.int (((p0.toUInt32 >>> ((16 : Int32) &&& 31).toUInt32).toInt32) &&& (32767 : Int32)))])) X0 hx rfl (hb hj at_28) rfl (by decide : ¬ ((3 : Int32) = (0 : Int32))) ?_
  show SS pP eE bS s₁ (mkF mM 29 (Lc_sel0_2 p0 p1 p2 p3 c0 c1) [(.int ((((p0.toUInt32 >>> ((16 : Int32) &&& 31).toUInt32).toInt32) &&& (32767 : Int32)) % (3 : Int32)))]) _
  rw [show ((((p0.toUInt32 >>> ((16 : Int32) &&& 31).toUInt32).toInt32) &&& (32767 : Int32)) % (3 : Int32)) = (0 : Int32) from hlen]
  refine XS.istore X0.here hx rfl (hb hj at_29) rfl (l' := (Lc_sel0_3 p0 p1 p2 p3 c0 c1)) rfl ?_
  refine XS.iload X0.here hx rfl (hb hj at_31) rfl ?_
  refine XS.ifNo X0.here hx rfl (hb hj at_33) rfl ((if0 _ _).trans (teq (by decide : (0 : Int32) = (0 : Int32))).2) ?_
  refine st101 _ ?_
  refine XS.astore X101.here hx rfl (hb hj at_38) rfl rfl (l' := (Lc_sel0_4 p0 p1 p2 p3 c0 c1 b101)) rfl ?_
  refine XS.goto X101.here hx rfl (pc0 := 40) (pc' := 81) rfl (hb hj at_40) (by decide) (by decide) ?_
  exact hk'
abbrev Lc_sel1_0 (p0 : Int32) (p1 : Int32) (p2 : Int32) (p3 : Int32) : Array Slot := #[.val (.int p0), .val (.int p1), .val (.int p2), .val (.int p3), .unset, .unset, .unset, .unset, .unset, .unset, .unset, .unset, .unset, .unset, .unset, .unset]
abbrev Lc_sel1_1 (p0 : Int32) (p1 : Int32) (p2 : Int32) (p3 : Int32) (c0 : Int32) : Array Slot := #[.val (.int p0), .val (.int p1), .val (.int p2), .val (.int p3), .val (.int c0), .unset, .unset, .unset, .unset, .unset, .unset, .unset, .unset, .unset, .unset, .unset]
abbrev Lc_sel1_2 (p0 : Int32) (p1 : Int32) (p2 : Int32) (p3 : Int32) (c0 : Int32) (c1 : Int32) : Array Slot := #[.val (.int p0), .val (.int p1), .val (.int p2), .val (.int p3), .val (.int c0), .val (.int c1), .unset, .unset, .unset, .unset, .unset, .unset, .unset, .unset, .unset, .unset]
abbrev Lc_sel1_3 (p0 : Int32) (p1 : Int32) (p2 : Int32) (p3 : Int32) (c0 : Int32) (c1 : Int32) : Array Slot := #[.val (.int p0), .val (.int p1), .val (.int p2), .val (.int p3), .val (.int c0), .val (.int c1), .val (.int (1 : Int32)), .unset, .unset, .unset, .unset, .unset, .unset, .unset, .unset, .unset]
abbrev Lc_sel1_4 (p0 : Int32) (p1 : Int32) (p2 : Int32) (p3 : Int32) (c0 : Int32) (c1 : Int32) (t_101 : Addr) : Array Slot := #[.val (.int p0), .val (.int p1), .val (.int p2), .val (.int p3), .val (.int c0), .val (.int c1), .val (.int (1 : Int32)), .val (.ref t_101), .unset, .unset, .unset, .unset, .unset, .unset, .unset, .unset]
theorem sg_sel1 (hw : HW a0 Z) (p0 : Int32) (p1 : Int32) (p2 : Int32) (p3 : Int32) (c0 : Int32) (c1 : Int32) (cs : Int32) (fo : Value) (da : Addr) (ea : Addr) {vB : Vm} {kB : Nat} (h0 : Heap) (n0 : Nat) (hS0 : sS.Since vB kB) (hkB : kB ≤ h0.size) (hCH : CHv Z consts_1 vB h0) (G : SG l Z pP eE room_1 (sS.setVm vB) mM aS bS mS cC s₁ lc0 cl0 sl0 h0 n0 code 16 "com/example/tessera/tessera/sql/SqlTextPagedPinLaw" 3 8) (ee0 : ((p0 &&& (255 : Int32)).toUInt32.toUInt16.toUInt32.toInt32) = c0) (ee1 : ((((p0.toUInt32 >>> ((8 : Int32) &&& 31).toUInt32).toInt32) &&& (255 : Int32)).toUInt32.toUInt16.toUInt32.toInt32) = c1) (f0 : (c0.toUInt32.toUInt16.toUInt32.toInt32) = c0) (f1 : (c1.toUInt32.toUInt16.toUInt32.toInt32) = c1) (q0 : ¬ ((255 : Int32) < c0)) (q1 : ¬ ((255 : Int32) < c1)) (hlen : ((((p0.toUInt32 >>> ((16 : Int32) &&& 31).toUInt32).toInt32) &&& (32767 : Int32)) % (3 : Int32)) = (1 : Int32)) (OL : Old Z n0 h0) (SX : Sts Z cs fo da ea) :
    ∃ t : Addr, ∃ tb : Addr, ∃ tk : ClassId, ∃ T' h' L' vE kE, Stand pP l eE room_1 (sS.setVm vE) mM aS bS mS cC T' L' (cl0 + 3) (sl0 + 8) ∧ T'.heap = h' ∧ sS.Since vE kE ∧ kE ≤ h'.size ∧ Z.Warmed39 (sS.setVm vE).vm ∧ (sS.setVm vE).vm.findClass "com/example/tessera/tessera/sql/SqlTextPagedPinLaw" = some mM.cls ∧ CHr Z consts_1 vB h0 vE h' ∧ Fr n0 L' ∧ Keep h0 h' [] ∧ StrA Z h' t tb tk 1 (selL 1 c0 c1) ∧ ∀ t', SS pP eE bS T' (mkF mM 81 #[.val (.int p0), .val (.int p1), .val (.int p2), .val (.int p3), .val (.int c0), .val (.int c1), .val (.int (1 : Int32)), .val (.ref t), .unset, .unset, .unset, .unset, .unset, .unset, .unset, .unset] []) t' → SS pP eE bS s₁ (mkF mM 0 #[.val (.int p0), .val (.int p1), .val (.int p2), .val (.int p3), .unset, .unset, .unset, .unset, .unset, .unset, .unset, .unset, .unset, .unset, .unset, .unset] []) t' := by
  obtain ⟨Z0, hx, hj, hml, hZ0, hown0, X0, e0, N0, hcl, hsl⟩ := id G
  have CC0 : CHr Z consts_1 vB h0 vB h0 := CHr.refl hCH
  obtain ⟨_, _, ⟨T101, L101, k101, n101⟩, -, X101, ⟨Lc101, hQ101, l101, y101, z101⟩, st101⟩ := Jvm.LawKit.callS X0 hx (y := y28_) hown0 (mvT hZ0 (wi hw 14 rfl)) (mvT hZ0 (wi hw 15 rfl)) (mvT hZ0 (wi hw 1 rfl)) (mvT hZ0 (wi hw 16 rfl)) (by decide) (backOf (W := 0) (rm_valueOf l Z a0 hw [] c0 cs fo da ea h0 n0 (by omega) q0 OL SX) hZ0 (wi hw 16 rfl) (wi hw 1 rfl) (by decide) (by decide)) (g := (mkF mM 51 (Lc_sel1_3 p0 p1 p2 p3 c0 c1) [(.int c0)])) rfl hml.symm (argsL := [(.int c0)]) (rest := []) (lenOf pd_1 rfl) rfl (W0 rfl) (hb hj at_51) (fun _ _ => ⟨rfl, e0, segle (k := 0) hcl (by decide), segle (k := 0) hsl (by decide)⟩)
  dsimp only [Pt.U, Pt.locs, Pt.cells, Pt.slots] at X101 l101 y101 z101 st101 hQ101
  subst y101 z101
  obtain ⟨h101, e101⟩ : ∃ z, T101.heap = z := ⟨_, rfl⟩
  rw [e101] at hQ101
  obtain ⟨t_101, b_101, k_101, rfl, N101q, Kp101, p101_E_t, p101_F_value_t, p101_F_coder_t, p101_V_b, p101_gh_t, p101_gh_b⟩ := hQ101
  have Sz1 : h0.size ≤ h101.size := Kp101.1
  have CC1 : CHr Z consts_1 vB h0 vB h101 := CC0.trans (CHr.keep Kp101 sf0 CC0.1)
  have N101 : Fr n0 L101 := by rw [l101]; exact Fr.app N0 N101q
  have c102_A_t_101 : StrA Z h101 t_101 b_101 k_101 1 [(.int c0.toInt8.toInt32)] := ⟨p101_E_t, p101_F_value_t, p101_F_coder_t, p101_V_b⟩
  have Sf : StrA Z h101 t_101 b_101 k_101 1 (selL 1 c0 c1) := c102_A_t_101
  have K103 : Keep h0 h101 [] := (Keep.refl h0 []).trans Kp101 all0
  refine ⟨t_101, b_101, k_101, T101, h101, _, vB, _, (X101.mono (by omega) (by omega)), e101, hS0, (by omega), hZ0, hown0, CC1, N101, K103, Sf, fun t' hk' => ?_⟩
  show SS pP eE bS s₁ (mkF mM 0 (Lc_sel1_0 p0 p1 p2 p3) []) _
  refine XS.iloadN X0.here hx rfl (hb hj at_0) rfl ?_
  refine XS.sipush X0.here hx rfl (hb hj at_1) ?_
  refine XS.iand X0.here hx rfl (hb hj at_4) rfl ?_
  refine XS.i2c X0.here hx rfl (hb hj at_5) rfl ?_
  show SS pP eE bS s₁ (mkF mM 6 (Lc_sel1_0 p0 p1 p2 p3) [(.int ((p0 &&& (255 : Int32)).toUInt32.toUInt16.toUInt32.toInt32))]) _
  rw [show ((p0 &&& (255 : Int32)).toUInt32.toUInt16.toUInt32.toInt32) = c0 from ee0]
  refine XS.istore X0.here hx rfl (hb hj at_6) rfl (l' := (Lc_sel1_1 p0 p1 p2 p3 c0)) rfl ?_
  refine XS.iloadN X0.here hx rfl (hb hj at_8) rfl ?_
  refine XS.bipush X0.here hx rfl (hb hj at_9) ?_
  refine XS.iushr X0.here hx rfl (hb hj at_11) rfl ?_
  refine XS.sipush X0.here hx rfl (hb hj at_12) ?_
  refine XS.iand X0.here hx rfl (hb hj at_15) rfl ?_
  refine XS.i2c X0.here hx rfl (hb hj at_16) rfl ?_
  show SS pP eE bS s₁ (mkF mM 17 (Lc_sel1_1 p0 p1 p2 p3 c0) [(.int ((((p0.toUInt32 >>> ((8 : Int32) &&& 31).toUInt32).toInt32) &&& (255 : Int32)).toUInt32.toUInt16.toUInt32.toInt32))]) _
  rw [show ((((p0.toUInt32 >>> ((8 : Int32) &&& 31).toUInt32).toInt32) &&& (255 : Int32)).toUInt32.toUInt16.toUInt32.toInt32) = c1 from ee1]
  refine XS.istore X0.here hx rfl (hb hj at_17) rfl (l' := (Lc_sel1_2 p0 p1 p2 p3 c0 c1)) rfl ?_
  refine XS.iloadN X0.here hx rfl (hb hj at_19) rfl ?_
  refine XS.bipush X0.here hx rfl (hb hj at_20) ?_
  refine XS.iushr X0.here hx rfl (hb hj at_22) rfl ?_
  refine XS.sipush X0.here hx rfl (hb hj at_23) ?_
  refine XS.iand X0.here hx rfl (hb hj at_26) rfl ?_
  refine XS.iconst X0.here hx rfl (hb hj at_27) ?_
  refine iremM (g := (mkF mM 28 (Lc_sel1_2 p0 p1 p2 p3 c0 c1) [(.int (3 : Int32)), (.int (((p0.toUInt32 >>> ((16 : Int32) &&& 31).toUInt32).toInt32) &&& (32767 : Int32)))])) X0 hx rfl (hb hj at_28) rfl (by decide : ¬ ((3 : Int32) = (0 : Int32))) ?_
  show SS pP eE bS s₁ (mkF mM 29 (Lc_sel1_2 p0 p1 p2 p3 c0 c1) [(.int ((((p0.toUInt32 >>> ((16 : Int32) &&& 31).toUInt32).toInt32) &&& (32767 : Int32)) % (3 : Int32)))]) _
  rw [show ((((p0.toUInt32 >>> ((16 : Int32) &&& 31).toUInt32).toInt32) &&& (32767 : Int32)) % (3 : Int32)) = (1 : Int32) from hlen]
  refine XS.istore X0.here hx rfl (hb hj at_29) rfl (l' := (Lc_sel1_3 p0 p1 p2 p3 c0 c1)) rfl ?_
  refine XS.iload X0.here hx rfl (hb hj at_31) rfl ?_
  refine XS.ifYes X0.here hx rfl (pc0 := 33) (pc' := 43) rfl (hb hj at_33) rfl ((if0 _ _).trans (feq (by decide : ¬ ((1 : Int32) = (0 : Int32)))).2) (by decide) (by decide) ?_
  refine XS.iload X0.here hx rfl (hb hj at_43) rfl ?_
  refine XS.iconst X0.here hx rfl (hb hj at_45) ?_
  refine XS.icmpNo X0.here hx rfl (hb hj at_46) rfl (teq (by decide : (1 : Int32) = (1 : Int32))).2 ?_
  refine XS.iload X0.here hx rfl (hb hj at_49) rfl ?_
  refine st101 _ ?_
  refine XS.astore X101.here hx rfl (hb hj at_54) rfl rfl (l' := (Lc_sel1_4 p0 p1 p2 p3 c0 c1 t_101)) rfl ?_
  refine XS.goto X101.here hx rfl (pc0 := 56) (pc' := 81) rfl (hb hj at_56) (by decide) (by decide) ?_
  exact hk'
abbrev Lc_sel2_0 (p0 : Int32) (p1 : Int32) (p2 : Int32) (p3 : Int32) : Array Slot := #[.val (.int p0), .val (.int p1), .val (.int p2), .val (.int p3), .unset, .unset, .unset, .unset, .unset, .unset, .unset, .unset, .unset, .unset, .unset, .unset]
abbrev Lc_sel2_1 (p0 : Int32) (p1 : Int32) (p2 : Int32) (p3 : Int32) (c0 : Int32) : Array Slot := #[.val (.int p0), .val (.int p1), .val (.int p2), .val (.int p3), .val (.int c0), .unset, .unset, .unset, .unset, .unset, .unset, .unset, .unset, .unset, .unset, .unset]
abbrev Lc_sel2_2 (p0 : Int32) (p1 : Int32) (p2 : Int32) (p3 : Int32) (c0 : Int32) (c1 : Int32) : Array Slot := #[.val (.int p0), .val (.int p1), .val (.int p2), .val (.int p3), .val (.int c0), .val (.int c1), .unset, .unset, .unset, .unset, .unset, .unset, .unset, .unset, .unset, .unset]
abbrev Lc_sel2_3 (p0 : Int32) (p1 : Int32) (p2 : Int32) (p3 : Int32) (c0 : Int32) (c1 : Int32) : Array Slot := #[.val (.int p0), .val (.int p1), .val (.int p2), .val (.int p3), .val (.int c0), .val (.int c1), .val (.int (2 : Int32)), .unset, .unset, .unset, .unset, .unset, .unset, .unset, .unset, .unset]
abbrev Lc_sel2_4 (p0 : Int32) (p1 : Int32) (p2 : Int32) (p3 : Int32) (c0 : Int32) (c1 : Int32) (b101 : Addr) : Array Slot := #[.val (.int p0), .val (.int p1), .val (.int p2), .val (.int p3), .val (.int c0), .val (.int c1), .val (.int (2 : Int32)), .val (.ref b101), .unset, .unset, .unset, .unset, .unset, .unset, .unset, .unset]
theorem sg_sel2 (hw : HW a0 Z) (p0 : Int32) (p1 : Int32) (p2 : Int32) (p3 : Int32) (c0 : Int32) (c1 : Int32) (cs : Int32) (fo : Value) (da : Addr) (ea : Addr) {vB : Vm} {kB : Nat} (h0 : Heap) (n0 : Nat) (hS0 : sS.Since vB kB) (hkB : kB ≤ h0.size) (hCH : CHv Z consts_1 vB h0) (G : SG l Z pP eE room_1 (sS.setVm vB) mM aS bS mS cC s₁ lc0 cl0 sl0 h0 n0 code 16 "com/example/tessera/tessera/sql/SqlTextPagedPinLaw" 3 8) (ee0 : ((p0 &&& (255 : Int32)).toUInt32.toUInt16.toUInt32.toInt32) = c0) (ee1 : ((((p0.toUInt32 >>> ((8 : Int32) &&& 31).toUInt32).toInt32) &&& (255 : Int32)).toUInt32.toUInt16.toUInt32.toInt32) = c1) (f0 : (c0.toUInt32.toUInt16.toUInt32.toInt32) = c0) (f1 : (c1.toUInt32.toUInt16.toUInt32.toInt32) = c1) (q0 : ¬ ((255 : Int32) < c0)) (q1 : ¬ ((255 : Int32) < c1)) (hlen : ((((p0.toUInt32 >>> ((16 : Int32) &&& 31).toUInt32).toInt32) &&& (32767 : Int32)) % (3 : Int32)) = (2 : Int32)) (OL : Old Z n0 h0) (SX : Sts Z cs fo da ea) :
    ∃ t : Addr, ∃ tb : Addr, ∃ tk : ClassId, ∃ T' h' L' vE kE, Stand pP l eE room_1 (sS.setVm vE) mM aS bS mS cC T' L' (cl0 + 3) (sl0 + 8) ∧ T'.heap = h' ∧ sS.Since vE kE ∧ kE ≤ h'.size ∧ Z.Warmed39 (sS.setVm vE).vm ∧ (sS.setVm vE).vm.findClass "com/example/tessera/tessera/sql/SqlTextPagedPinLaw" = some mM.cls ∧ CHr Z consts_1 vB h0 vE h' ∧ Fr n0 L' ∧ Keep h0 h' [] ∧ StrA Z h' t tb tk 2 (selL 2 c0 c1) ∧ ∀ t', SS pP eE bS T' (mkF mM 81 #[.val (.int p0), .val (.int p1), .val (.int p2), .val (.int p3), .val (.int c0), .val (.int c1), .val (.int (2 : Int32)), .val (.ref t), .unset, .unset, .unset, .unset, .unset, .unset, .unset, .unset] []) t' → SS pP eE bS s₁ (mkF mM 0 #[.val (.int p0), .val (.int p1), .val (.int p2), .val (.int p3), .unset, .unset, .unset, .unset, .unset, .unset, .unset, .unset, .unset, .unset, .unset, .unset] []) t' := by
  obtain ⟨Z0, hx, hj, hml, hZ0, hown0, X0, e0, N0, hcl, hsl⟩ := id G
  have CC0 : CHr Z consts_1 vB h0 vB h0 := CHr.refl hCH
  obtain ⟨T101, h101, X101, e101, E101, A101, D101, B101, st101⟩ := newO X0 hx hZ0 hown0 (wi hw 247 rfl) (wi hw 2 rfl) (wi hw 1 rfl) e0 (g := (mkF mM 59 (Lc_sel2_3 p0 p1 p2 p3 c0 c1) [])) rfl (hb hj at_59) (segle (k := 0) hcl (by decide)) (segle (k := 0) hsl (by decide))
  obtain ⟨b101, g101⟩ : ∃ z : Nat, z = h0.size := ⟨_, rfl⟩
  rw [← g101] at A101 D101 B101 st101
  have Sz1 : h0.size ≤ h101.size := E101.1
  have CC1 : CHr Z consts_1 vB h0 vB h101 := CC0.trans (CHr.ext E101 CC0.1)
  have F101_value : Fld Z h101 b101 "java/lang/String" "value" "[B" .null := D101 (Or.inr (wi hw 4 rfl)) (ty := (.array .byte)) (by decide)
  have F101_coder : Fld Z h101 b101 "java/lang/String" "coder" "B" (.int (0 : Int32)) := D101 (Or.inr (wi hw 5 rfl)) (ty := .byte) (by decide)
  obtain ⟨T102, h102, k102, X102, e102, E102, A102, st102⟩ := newP X101 hx hZ0 (wi hw 248 rfl) e101 (g := (mkF mM 64 (Lc_sel2_3 p0 p1 p2 p3 c0 c1) [(.int (2 : Int32)), (.ref b101), (.ref b101)])) rfl (hb hj at_64) rfl (by decide) (cap := 2) (by decide) (by decide) (segle (k := 1) hcl (by decide)) (segle (k := 4) hsl (by decide))
  obtain ⟨b102, g102⟩ : ∃ z : Nat, z = h101.size := ⟨_, rfl⟩
  rw [← g102] at A102 st102
  have Sz2 : h101.size ≤ h102.size := E102.1
  have CC2 : CHr Z consts_1 vB h0 vB h102 := CC1.trans (CHr.ext E102 CC1.1)
  have V_b102 : Arv Z h102 b102 k102 .char (2 : Int32) [(.int (0 : Int32)), (.int (0 : Int32))] (.int (0 : Int32)) := (Arv.new A102 (by decide)).pad (pad_rep [] (.int (0 : Int32)) 2)
  obtain ⟨cl103, Ar103, q103, S103, Ng103, Ha103, Ga103⟩ := id V_b102
  have hin103 : ¬ ((0 : Int32) < 0 ∨ cl103.slots.size ≤ ((0 : Int32)).toNatClampNeg) := inb_of S103 ⟨by decide, by decide⟩
  obtain ⟨T104, h104, X104, e104, W104, st104⟩ := stC X102 hx hZ0 e102 Ar103 (j := (0 : Int32)) hin103 (g := (mkF mM 70 (Lc_sel2_3 p0 p1 p2 p3 c0 c1) [(.int c0), (.int (0 : Int32)), (.ref b102), (.ref b102), (.ref b101), (.ref b101)])) rfl rfl (hb hj at_70)
  have ge105_b102 : @LE.le Nat _ n0 b102 := by omega
  have Sz3 : h102.size ≤ h104.size := Nat.le_of_eq (Wr.size W104).symm
  have sf106_b102 : Safe Z consts_1 vB h102 b102 := Safe.arv (show Z.Warmed39 vB from hZ0).alike V_b102 (by decide)
  have CC3 : CHr Z consts_1 vB h0 vB h104 := CC2.trans (CHr.wr W104 sf106_b102 CC2.1)
  have Vs104 := Arv.set Ar103 q103 S103 Ng103 Ha103 Ga103 (fits_nar_char _) W104 0 rfl (Nat.le_of_ble_eq_true rfl)
  have Vt104 : Arv Z h104 b102 k102 .char (2 : Int32) [(.int c0), (.int (0 : Int32))] (.int (0 : Int32)) := by
    have q : Arv Z h104 b102 k102 .char (2 : Int32) [(.int c0.toUInt32.toUInt16.toUInt32.toInt32), (.int (0 : Int32))] (.int (0 : Int32)) := Vs104
    rw [show ((.int c0.toUInt32.toUInt16.toUInt32.toInt32) : Value) = (.int c0) from congrArg Value.int f0] at q
    exact q
  have N104 := Fr.snoc X104 N0 ge105_b102
  obtain ⟨cl107, Ar107, q107, S107, Ng107, Ha107, Ga107⟩ := id Vt104
  have hin107 : ¬ ((1 : Int32) < 0 ∨ cl107.slots.size ≤ ((1 : Int32)).toNatClampNeg) := inb_of S107 ⟨by decide, by decide⟩
  obtain ⟨T108, h108, X108, e108, W108, st108⟩ := stC X104 hx hZ0 e104 Ar107 (j := (1 : Int32)) hin107 (g := (mkF mM 75 (Lc_sel2_3 p0 p1 p2 p3 c0 c1) [(.int c1), (.int (1 : Int32)), (.ref b102), (.ref b102), (.ref b101), (.ref b101)])) rfl rfl (hb hj at_75)
  have Sz4 : h104.size ≤ h108.size := Nat.le_of_eq (Wr.size W108).symm
  have sf109_b102 : Safe Z consts_1 vB h104 b102 := Safe.arv (show Z.Warmed39 vB from hZ0).alike Vt104 (by decide)
  have CC4 : CHr Z consts_1 vB h0 vB h108 := CC3.trans (CHr.wr W108 sf109_b102 CC3.1)
  have Vs108 := Arv.set Ar107 q107 S107 Ng107 Ha107 Ga107 (fits_nar_char _) W108 1 rfl (Nat.le_of_ble_eq_true rfl)
  have Vt108 : Arv Z h108 b102 k102 .char (2 : Int32) [(.int c0), (.int c1)] (.int (0 : Int32)) := by
    have q : Arv Z h108 b102 k102 .char (2 : Int32) [(.int c0), (.int c1.toUInt32.toUInt16.toUInt32.toInt32)] (.int (0 : Int32)) := Vs108
    rw [show ((.int c1.toUInt32.toUInt16.toUInt32.toInt32) : Value) = (.int c1) from congrArg Value.int f1] at q
    exact q
  have N108 := Fr.snoc X108 N104 ge105_b102
  have c111_E_b101 : Exa Z h102 b101 "java/lang/String" := Exa.ext E102 A101
  have c112_E_b101 : Exa Z h104 b101 "java/lang/String" := Exa.wr W104 c111_E_b101
  have c113_E_b101 : Exa Z h108 b101 "java/lang/String" := Exa.wr W108 c112_E_b101
  have c114_F_value_b101 : Fld Z h102 b101 "java/lang/String" "value" "[B" .null := Fld.ext E102 F101_value
  have lt_b101 : @LT.lt Nat _ b101 h101.size := A101.lt
  have lt_b102 : @LT.lt Nat _ b102 h102.size := V_b102.lt
  have ne_b101_b102_115 : b101 ≠ b102 := (by omega : @Ne Nat b101 b102)
  have c116_F_value_b101 : Fld Z h104 b101 "java/lang/String" "value" "[B" .null := Fld.other W104 c114_F_value_b101 (Or.inl ne_b101_b102_115)
  have c117_F_value_b101 : Fld Z h108 b101 "java/lang/String" "value" "[B" .null := Fld.other W108 c116_F_value_b101 (Or.inl ne_b101_b102_115)
  have c118_F_coder_b101 : Fld Z h102 b101 "java/lang/String" "coder" "B" (.int (0 : Int32)) := Fld.ext E102 F101_coder
  have c119_F_coder_b101 : Fld Z h104 b101 "java/lang/String" "coder" "B" (.int (0 : Int32)) := Fld.other W104 c118_F_coder_b101 (Or.inl ne_b101_b102_115)
  have c120_F_coder_b101 : Fld Z h108 b101 "java/lang/String" "coder" "B" (.int (0 : Int32)) := Fld.other W108 c119_F_coder_b101 (Or.inl ne_b101_b102_115)
  have c121_OL : Old Z n0 h101 := OL.ext E101
  have c122_OL : Old Z n0 h102 := c121_OL.ext E102
  have c123_OL : Old Z n0 h104 := c122_OL.wr W104 ge105_b102
  have c124_OL : Old Z n0 h108 := c123_OL.wr W108 ge105_b102
  have ge125_b101 : @LE.le Nat _ n0 b101 := by omega
  obtain ⟨_, _, ⟨T110, L110, k110, n110⟩, -, X110, ⟨Lc110, hQ110, l110, y110, z110⟩, st110⟩ := X108.specialBack hx (y := y48_) rfl hown0 (mvT hZ0 (wi hw 249 rfl)) (mvT hZ0 (wi hw 250 rfl)) (mvT hZ0 (wi hw 251 rfl)) (by decide) (backOf (W := 1) (rm_init1_s2 l Z a0 hw [] b101 b102 k102 .null (.int (0 : Int32)) cs c0 c1 h108 n0 (by omega) c113_E_b101 c117_F_value_b101 c120_F_coder_b101 Vt108 ge125_b101 c124_OL SX.1 SX.2.1 q0 q1) hZ0 (wi hw 251 rfl) (wi hw 1 rfl) (by decide) (by decide)) (g := (mkF mM 76 (Lc_sel2_3 p0 p1 p2 p3 c0 c1) [(.ref b102), (.ref b101), (.ref b101)])) rfl hml.symm (Steps.refl _) (a := b101) (argsL := [(.ref b102)]) (rest := [(.ref b101)]) (lenOf pd_37 rfl) rfl (W0 rfl) (hb hj at_76) (fun _ _ => ⟨rfl, e108, segle (k := 2) hcl (by decide), segle (k := 6) hsl (by decide)⟩)
  dsimp only [Pt.U, Pt.locs, Pt.cells, Pt.slots] at X110 l110 y110 z110 st110 hQ110
  subst y110 z110
  obtain ⟨h110, e110⟩ : ∃ z, T110.heap = z := ⟨_, rfl⟩
  rw [e110] at hQ110
  obtain ⟨b_110, k2_110, rfl, N110q, Kp110, p110_E_o, p110_F_value_o, p110_F_coder_o, p110_V_b, p110_gh_b⟩ := hQ110
  have Sz5 : h108.size ≤ h110.size := Kp110.1
  have sf126_b101 : Safe Z consts_1 vB h0 b101 := Safe.new (by omega)
  have sf127_b101 : Safe Z consts_1 vB h101 b101 := Safe.ext E101 CC0.1 sf126_b101
  have sf128_b101 : Safe Z consts_1 vB h102 b101 := Safe.ext E102 CC1.1 sf127_b101
  have sf129_b101 : Safe Z consts_1 vB h104 b101 := Safe.wr W104 sf106_b102 CC2.1 sf128_b101
  have sf130_b101 : Safe Z consts_1 vB h108 b101 := Safe.wr W108 sf109_b102 CC3.1 sf129_b101
  have CC5 : CHr Z consts_1 vB h0 vB h110 := CC4.trans (CHr.keep Kp110 (sfS sf130_b101 sf0) CC4.1)
  have N110 : Fr n0 L110 := by rw [l110]; exact Fr.app N108 N110q
  have c131_A_b101 : StrA Z h110 b101 b_110 k2_110 2 [(.int c0.toInt8.toInt32), (.int c1.toInt8.toInt32)] := ⟨p110_E_o, p110_F_value_o, p110_F_coder_o, p110_V_b⟩
  have Sf : StrA Z h110 b101 b_110 k2_110 2 (selL 2 c0 c1) := c131_A_b101
  have K132 : Keep h0 h101 [] := (Keep.refl h0 []).ext E101
  have K133 : Keep h0 h102 [] := K132.ext E102
  have K134 : Keep h0 h104 [] := K133.wr W104 (Or.inr (by omega : @LE.le Nat _ h0.size b102))
  have K135 : Keep h0 h108 [] := K134.wr W108 (Or.inr (by omega : @LE.le Nat _ h0.size b102))
  have K136 : Keep h0 h110 [] := K135.trans Kp110 (allS (Or.inr (by omega : @LE.le Nat _ h0.size b101)) all0)
  refine ⟨b101, b_110, k2_110, T110, h110, _, vB, _, X110, e110, hS0, (by omega), hZ0, hown0, CC5, N110, K136, Sf, fun t' hk' => ?_⟩
  show SS pP eE bS s₁ (mkF mM 0 (Lc_sel2_0 p0 p1 p2 p3) []) _
  refine XS.iloadN X0.here hx rfl (hb hj at_0) rfl ?_
  refine XS.sipush X0.here hx rfl (hb hj at_1) ?_
  refine XS.iand X0.here hx rfl (hb hj at_4) rfl ?_
  refine XS.i2c X0.here hx rfl (hb hj at_5) rfl ?_
  show SS pP eE bS s₁ (mkF mM 6 (Lc_sel2_0 p0 p1 p2 p3) [(.int ((p0 &&& (255 : Int32)).toUInt32.toUInt16.toUInt32.toInt32))]) _
  rw [show ((p0 &&& (255 : Int32)).toUInt32.toUInt16.toUInt32.toInt32) = c0 from ee0]
  refine XS.istore X0.here hx rfl (hb hj at_6) rfl (l' := (Lc_sel2_1 p0 p1 p2 p3 c0)) rfl ?_
  refine XS.iloadN X0.here hx rfl (hb hj at_8) rfl ?_
  refine XS.bipush X0.here hx rfl (hb hj at_9) ?_
  refine XS.iushr X0.here hx rfl (hb hj at_11) rfl ?_
  refine XS.sipush X0.here hx rfl (hb hj at_12) ?_
  refine XS.iand X0.here hx rfl (hb hj at_15) rfl ?_
  refine XS.i2c X0.here hx rfl (hb hj at_16) rfl ?_
  show SS pP eE bS s₁ (mkF mM 17 (Lc_sel2_1 p0 p1 p2 p3 c0) [(.int ((((p0.toUInt32 >>> ((8 : Int32) &&& 31).toUInt32).toInt32) &&& (255 : Int32)).toUInt32.toUInt16.toUInt32.toInt32))]) _
  rw [show ((((p0.toUInt32 >>> ((8 : Int32) &&& 31).toUInt32).toInt32) &&& (255 : Int32)).toUInt32.toUInt16.toUInt32.toInt32) = c1 from ee1]
  refine XS.istore X0.here hx rfl (hb hj at_17) rfl (l' := (Lc_sel2_2 p0 p1 p2 p3 c0 c1)) rfl ?_
  refine XS.iloadN X0.here hx rfl (hb hj at_19) rfl ?_
  refine XS.bipush X0.here hx rfl (hb hj at_20) ?_
  refine XS.iushr X0.here hx rfl (hb hj at_22) rfl ?_
  refine XS.sipush X0.here hx rfl (hb hj at_23) ?_
  refine XS.iand X0.here hx rfl (hb hj at_26) rfl ?_
  refine XS.iconst X0.here hx rfl (hb hj at_27) ?_
  refine iremM (g := (mkF mM 28 (Lc_sel2_2 p0 p1 p2 p3 c0 c1) [(.int (3 : Int32)), (.int (((p0.toUInt32 >>> ((16 : Int32) &&& 31).toUInt32).toInt32) &&& (32767 : Int32)))])) X0 hx rfl (hb hj at_28) rfl (by decide : ¬ ((3 : Int32) = (0 : Int32))) ?_
  show SS pP eE bS s₁ (mkF mM 29 (Lc_sel2_2 p0 p1 p2 p3 c0 c1) [(.int ((((p0.toUInt32 >>> ((16 : Int32) &&& 31).toUInt32).toInt32) &&& (32767 : Int32)) % (3 : Int32)))]) _
  rw [show ((((p0.toUInt32 >>> ((16 : Int32) &&& 31).toUInt32).toInt32) &&& (32767 : Int32)) % (3 : Int32)) = (2 : Int32) from hlen]
  refine XS.istore X0.here hx rfl (hb hj at_29) rfl (l' := (Lc_sel2_3 p0 p1 p2 p3 c0 c1)) rfl ?_
  refine XS.iload X0.here hx rfl (hb hj at_31) rfl ?_
  refine XS.ifYes X0.here hx rfl (pc0 := 33) (pc' := 43) rfl (hb hj at_33) rfl ((if0 _ _).trans (feq (by decide : ¬ ((2 : Int32) = (0 : Int32)))).2) (by decide) (by decide) ?_
  refine XS.iload X0.here hx rfl (hb hj at_43) rfl ?_
  refine XS.iconst X0.here hx rfl (hb hj at_45) ?_
  refine XS.icmpYes X0.here hx rfl (pc0 := 46) (pc' := 59) rfl (hb hj at_46) rfl (feq (by decide : ¬ ((2 : Int32) = (1 : Int32)))).2 (by decide) (by decide) ?_
  refine st101 _ ?_
  refine XS.dup X101.here hx rfl (hb hj at_62) rfl rfl ?_
  refine XS.iconst X101.here hx rfl (hb hj at_63) ?_
  refine st102 _ ?_
  refine XS.dup X102.here hx rfl (hb hj at_66) rfl rfl ?_
  refine XS.iconst X102.here hx rfl (hb hj at_67) ?_
  refine XS.iload X102.here hx rfl (hb hj at_68) rfl ?_
  refine st104 _ ?_
  refine XS.dup X104.here hx rfl (hb hj at_71) rfl rfl ?_
  refine XS.iconst X104.here hx rfl (hb hj at_72) ?_
  refine XS.iload X104.here hx rfl (hb hj at_73) rfl ?_
  refine st108 _ ?_
  refine st110.trans ?_
  refine XS.astore X110.here hx rfl (hb hj at_79) rfl rfl (l' := (Lc_sel2_4 p0 p1 p2 p3 c0 c1 b101)) rfl ?_
  exact hk'
theorem sg_sel (hw : HW a0 Z) (p0 : Int32) (p1 : Int32) (p2 : Int32) (p3 : Int32) (c0 : Int32) (c1 : Int32) (n : Nat) (cs : Int32) (fo : Value) (da : Addr) (ea : Addr) {vB : Vm} {kB : Nat} (h0 : Heap) (n0 : Nat) (hS0 : sS.Since vB kB) (hkB : kB ≤ h0.size) (hCH : CHv Z consts_1 vB h0) (G : SG l Z pP eE room_1 (sS.setVm vB) mM aS bS mS cC s₁ lc0 cl0 sl0 h0 n0 code 16 "com/example/tessera/tessera/sql/SqlTextPagedPinLaw" 3 8) (ee0 : ((p0 &&& (255 : Int32)).toUInt32.toUInt16.toUInt32.toInt32) = c0) (ee1 : ((((p0.toUInt32 >>> ((8 : Int32) &&& 31).toUInt32).toInt32) &&& (255 : Int32)).toUInt32.toUInt16.toUInt32.toInt32) = c1) (f0 : (c0.toUInt32.toUInt16.toUInt32.toInt32) = c0) (f1 : (c1.toUInt32.toUInt16.toUInt32.toInt32) = c1) (q0 : ¬ ((255 : Int32) < c0)) (q1 : ¬ ((255 : Int32) < c1)) (hlen : ((((p0.toUInt32 >>> ((16 : Int32) &&& 31).toUInt32).toInt32) &&& (32767 : Int32)) % (3 : Int32)) = (iN n)) (hn : n = 0 ∨ n = 1 ∨ n = 2) (OL : Old Z n0 h0) (SX : Sts Z cs fo da ea) :
    ∃ t : Addr, ∃ tb : Addr, ∃ tk : ClassId, ∃ T' h' L' vE kE, Stand pP l eE room_1 (sS.setVm vE) mM aS bS mS cC T' L' (cl0 + 3) (sl0 + 8) ∧ T'.heap = h' ∧ sS.Since vE kE ∧ kE ≤ h'.size ∧ Z.Warmed39 (sS.setVm vE).vm ∧ (sS.setVm vE).vm.findClass "com/example/tessera/tessera/sql/SqlTextPagedPinLaw" = some mM.cls ∧ CHr Z consts_1 vB h0 vE h' ∧ Fr n0 L' ∧ Keep h0 h' [] ∧ StrA Z h' t tb tk n (selL n c0 c1) ∧ ∀ t', SS pP eE bS T' (mkF mM 81 #[.val (.int p0), .val (.int p1), .val (.int p2), .val (.int p3), .val (.int c0), .val (.int c1), .val (.int (iN n)), .val (.ref t), .unset, .unset, .unset, .unset, .unset, .unset, .unset, .unset] []) t' → SS pP eE bS s₁ (mkF mM 0 #[.val (.int p0), .val (.int p1), .val (.int p2), .val (.int p3), .unset, .unset, .unset, .unset, .unset, .unset, .unset, .unset, .unset, .unset, .unset, .unset] []) t' := by
  rcases hn with rfl | rfl | rfl
  · exact sg_sel0 l Z a0 hw p0 p1 p2 p3 c0 c1 cs fo da ea h0 n0 hS0 hkB hCH G ee0 ee1 f0 f1 q0 q1 hlen OL SX
  · exact sg_sel1 l Z a0 hw p0 p1 p2 p3 c0 c1 cs fo da ea h0 n0 hS0 hkB hCH G ee0 ee1 f0 f1 q0 q1 hlen OL SX
  · exact sg_sel2 l Z a0 hw p0 p1 p2 p3 c0 c1 cs fo da ea h0 n0 hS0 hkB hCH G ee0 ee1 f0 f1 q0 q1 hlen OL SX
theorem own_txt6 : (∀ c ∈ " OFFSET ".toList, c.toNat < 256) ∧ " OFFSET ".toList.map (fun c => Value.int (Jvm.Lit.byteI c.toNat.toUInt16)) = [(.int (32 : Int32)), (.int (79 : Int32)), (.int (70 : Int32)), (.int (70 : Int32)), (.int (83 : Int32)), (.int (69 : Int32)), (.int (84 : Int32)), (.int (32 : Int32))] := by
  constructor
  · decide
  · first | rfl | decide
theorem pd_33 : parseMethodDescriptor "(Ljava/lang/String;ILjava/lang/String;)Z" = some ⟨[(.object "java/lang/String"), .int, (.object "java/lang/String")], some .boolean⟩ := by decide +kernel
theorem cw_lit_S5043 (hw : HW a0 Z) (t : Addr) (tb : Addr) (tk : ClassId) (z : Nat) (ys : List Value) (p : Nat) (q : Addr) (qb : Addr) (qk : ClassId) (lz : Nat) (ls : List Value) (fo : Value) (cs : Int32) (da : Addr) (ea : Addr) {RR : Room} (h0 : Heap) (n0 : Nat) (Z0 : n0 ≤ h0.size) (hx : pP.tables.exec = Jvm.exec) (hZ : Z.Warmed39 sS.vm) (hown : sS.vm.findClass "com/example/tessera/tessera/sql/SqlTextPagedPinLaw" = some mM.cls) (X0 : Stand pP l eE RR sS mM aS bS mS cC s₁ lc0 cl0 sl0) (e0 : s₁.heap = h0) (N0 : Fr n0 lc0) (hcl : cl0 + r5_0_0_70.cells ≤ RR.cells) (hsl : sl0 + r5_0_0_70.slots ≤ RR.slots) (A_t : StrA Z h0 t tb tk z ys) (A_q : StrA Z h0 q qb qk lz ls) (SX : Sts Z cs fo da ea) (OL : Old Z n0 h0) (hbd : lz < 1000 ∧ p + lz < 1000000) (hl : ∀ k, LitK z ys lz ls p k) {g : JFrame} (hg : g.method = mM) (hsz : g.locals.size = cC.maxLocals) {rest : List Value} (hst : g.stack = [(.ref q), (.int (iN p)), (.ref t)] ++ rest) (hd : decode cC.code g.pc = .ok (.invokestatic 43, 3)) {W : Nat} (hW : 2 * g.monitorRoom + (rest.map fun v => v.category).sum ≤ W) (hfr : r5_0_0_70.frames + 1 ≤ RR.frames) (hlo : W + (3 + 11) + r5_0_0_70.locals ≤ RR.locals) :
    ∃ T' L', Stand pP l eE RR sS mM aS bS mS cC T' L' (cl0 + r5_0_0_70.cells) (sl0 + r5_0_0_70.slots) ∧ T'.heap = h0 ∧ Fr n0 L' ∧ ∀ t', Steps pP.tables eE bS (T'.setTop { g with pc := g.pc + 3, stack := [(.int (1 : Int32))] ++ rest }) t' → Steps pP.tables eE bS (s₁.setTop g) t' := by
  obtain ⟨_, _, ⟨T1, L1, k1, n1⟩, -, X1, ⟨Lc1, hQ1, l1, y1, z1⟩, st1⟩ := Jvm.LawKit.callS X0 hx (y := y38_) hown (mvT hZ (wi hw 223 rfl)) (mvT hZ (wi hw 224 rfl)) (mvT hZ (wi hw 186 rfl)) (mvT hZ (wi hw 225 rfl)) (by decide) (backOf (W := W) (rm_lit l Z a0 hw [] t tb tk z ys p q qb qk lz ls fo cs da ea h0 n0 Z0 A_t A_q SX OL hbd hl) hZ (wi hw 225 rfl) (wi hw 186 rfl) hfr hlo) (g := g) hg hsz (argsL := [(.ref t), (.int (iN p)), (.ref q)]) (rest := rest) (lenOf pd_33 rfl) hst hW hd (fun _ _ => ⟨rfl, e0, hcl, hsl⟩)
  dsimp only [Pt.U, Pt.locs, Pt.cells, Pt.slots] at X1 l1 y1 z1 st1 hQ1
  subst y1 z1
  obtain ⟨rfl, Nq, Kq⟩ := hQ1
  exact ⟨T1, L1, X1, Kq, by rw [l1]; exact Fr.app N0 Nq, fun t' hk => st1 t' hk⟩
theorem pd_34 : parseMethodDescriptor "(Ljava/lang/String;II)Z" = some ⟨[(.object "java/lang/String"), .int, .int], some .boolean⟩ := by decide +kernel
theorem cw_num_S5047 (hw : HW a0 Z) (t : Addr) (tb : Addr) (tk : ClassId) (z : Nat) (ys : List Value) (p : Nat) (v : Int32) (fo : Value) (cs : Int32) (da : Addr) (ea : Addr) {RR : Room} (h0 : Heap) (n0 : Nat) (Z0 : n0 ≤ h0.size) (hx : pP.tables.exec = Jvm.exec) (hZ : Z.Warmed39 sS.vm) (hown : sS.vm.findClass "com/example/tessera/tessera/sql/SqlTextPagedPinLaw" = some mM.cls) (X0 : Stand pP l eE RR sS mM aS bS mS cC s₁ lc0 cl0 sl0) (e0 : s₁.heap = h0) (N0 : Fr n0 lc0) (hcl : cl0 + r6_10_100_90.cells ≤ RR.cells) (hsl : sl0 + r6_10_100_90.slots ≤ RR.slots) (A_t : StrA Z h0 t tb tk z ys) (SX : Sts Z cs fo da ea) (OL : Old Z n0 h0) (hn : NumP z ys p v) {g : JFrame} (hg : g.method = mM) (hsz : g.locals.size = cC.maxLocals) {rest : List Value} (hst : g.stack = [(.int v), (.int (iN p)), (.ref t)] ++ rest) (hd : decode cC.code g.pc = .ok (.invokestatic 47, 3)) {W : Nat} (hW : 2 * g.monitorRoom + (rest.map fun v => v.category).sum ≤ W) (hfr : r6_10_100_90.frames + 1 ≤ RR.frames) (hlo : W + (7 + 11) + r6_10_100_90.locals ≤ RR.locals) :
    ∃ T' h' L', Stand pP l eE RR sS mM aS bS mS cC T' L' (cl0 + r6_10_100_90.cells) (sl0 + r6_10_100_90.slots) ∧ T'.heap = h' ∧ Fr n0 L' ∧ Keep h0 h' [] ∧ ∀ t', Steps pP.tables eE bS (T'.setTop { g with pc := g.pc + 3, stack := [(.int (1 : Int32))] ++ rest }) t' → Steps pP.tables eE bS (s₁.setTop g) t' := by
  obtain ⟨_, _, ⟨T1, L1, k1, n1⟩, -, X1, ⟨Lc1, hQ1, l1, y1, z1⟩, st1⟩ := Jvm.LawKit.callS X0 hx (y := y39_) hown (mvT hZ (wi hw 226 rfl)) (mvT hZ (wi hw 227 rfl)) (mvT hZ (wi hw 186 rfl)) (mvT hZ (wi hw 228 rfl)) (by decide) (backOf (W := W) (rm_num l Z a0 hw [] t tb tk z ys p v fo cs da ea h0 n0 Z0 A_t SX OL hn) hZ (wi hw 228 rfl) (wi hw 186 rfl) hfr hlo) (g := g) hg hsz (argsL := [(.ref t), (.int (iN p)), (.int v)]) (rest := rest) (lenOf pd_34 rfl) hst hW hd (fun _ _ => ⟨rfl, e0, hcl, hsl⟩)
  dsimp only [Pt.U, Pt.locs, Pt.cells, Pt.slots] at X1 l1 y1 z1 st1 hQ1
  subst y1 z1
  obtain ⟨rfl, Nq, Kq⟩ := hQ1
  exact ⟨T1, _, L1, X1, rfl, by rw [l1]; exact Fr.app N0 Nq, Kq, fun t' hk => st1 t' hk⟩
theorem cw_wid_S5027 (hw : HW a0 Z) (v : Int32) {RR : Room} (h0 : Heap) (n0 : Nat) (Z0 : n0 ≤ h0.size) (hx : pP.tables.exec = Jvm.exec) (hZ : Z.Warmed39 sS.vm) (hown : sS.vm.findClass "com/example/tessera/tessera/sql/SqlTextPagedPinLaw" = some mM.cls) (X0 : Stand pP l eE RR sS mM aS bS mS cC s₁ lc0 cl0 sl0) (e0 : s₁.heap = h0) (N0 : Fr n0 lc0) (hcl : cl0 + r1_0_0_14.cells ≤ RR.cells) (hsl : sl0 + r1_0_0_14.slots ≤ RR.slots) {g : JFrame} (hg : g.method = mM) (hsz : g.locals.size = cC.maxLocals) {rest : List Value} (hst : g.stack = [(.int v)] ++ rest) (hd : decode cC.code g.pc = .ok (.invokestatic 27, 3)) {W : Nat} (hW : 2 * g.monitorRoom + (rest.map fun v => v.category).sum ≤ W) (hfr : r1_0_0_14.frames + 1 ≤ RR.frames) (hlo : W + (3 + 11) + r1_0_0_14.locals ≤ RR.locals) :
    ∃ T' L', Stand pP l eE RR sS mM aS bS mS cC T' L' (cl0 + r1_0_0_14.cells) (sl0 + r1_0_0_14.slots) ∧ T'.heap = h0 ∧ Fr n0 L' ∧ ∀ t', Steps pP.tables eE bS (T'.setTop { g with pc := g.pc + 3, stack := [(.int (iN (wd v)))] ++ rest }) t' → Steps pP.tables eE bS (s₁.setTop g) t' := by
  obtain ⟨_, _, ⟨T1, L1, k1, n1⟩, -, X1, ⟨Lc1, hQ1, l1, y1, z1⟩, st1⟩ := Jvm.LawKit.callS X0 hx (y := y30_) hown (mvT hZ (wi hw 184 rfl)) (mvT hZ (wi hw 185 rfl)) (mvT hZ (wi hw 186 rfl)) (mvT hZ (wi hw 187 rfl)) (by decide) (backOf (W := W) (rm_wid l Z a0 hw [] v h0 n0 Z0 ) hZ (wi hw 187 rfl) (wi hw 186 rfl) hfr hlo) (g := g) hg hsz (argsL := [(.int v)]) (rest := rest) (lenOf pd_17 rfl) hst hW hd (fun _ _ => ⟨rfl, e0, hcl, hsl⟩)
  dsimp only [Pt.U, Pt.locs, Pt.cells, Pt.slots] at X1 l1 y1 z1 st1 hQ1
  subst y1 z1
  obtain ⟨rfl, Nq, Kq⟩ := hQ1
  exact ⟨T1, L1, X1, Kq, by rw [l1]; exact Fr.app N0 Nq, fun t' hk => st1 t' hk⟩
theorem own_txt7 : (∀ c ∈ " ROWS".toList, c.toNat < 256) ∧ " ROWS".toList.map (fun c => Value.int (Jvm.Lit.byteI c.toNat.toUInt16)) = [(.int (32 : Int32)), (.int (82 : Int32)), (.int (79 : Int32)), (.int (87 : Int32)), (.int (83 : Int32))] := by
  constructor
  · decide
  · first | rfl | decide
abbrev Lc_lwO0_0 (s0 : Slot) (s1 : Slot) (s2 : Slot) (s3 : Slot) (s4 : Slot) (s5 : Slot) (s6 : Slot) (s7 : Slot) (a : Int32) (s9 : Slot) (r : Addr) (fl : Int32) (s12 : Slot) (s13 : Slot) (z14 : Int32) (p : Nat) : Array Slot := #[s0, s1, s2, s3, s4, s5, s6, s7, .val (.int a), s9, .val (.ref r), .val (.int fl), s12, s13, .val (.int z14), .val (.int (iN p))]
theorem sg_lwO0 (hw : HW a0 Z) (r : Addr) (rb : Addr) (rk : ClassId) (rz : Nat) (rs : List Value) (a : Int32) (fl : Int32) (z14 : Int32) (p : Nat) (p2 : Nat) (s0 : Slot) (s1 : Slot) (s2 : Slot) (s3 : Slot) (s4 : Slot) (s5 : Slot) (s6 : Slot) (s7 : Slot) (s9 : Slot) (s12 : Slot) (s13 : Slot) (fo : Value) (cs : Int32) (da : Addr) (ea : Addr) {vB : Vm} {kB : Nat} (h0 : Heap) (n0 : Nat) (hS0 : sS.Since vB kB) (hkB : kB ≤ h0.size) (hCH : CHv Z consts_1 vB h0) (G : SG l Z pP eE room_1 (sS.setVm vB) mM aS bS mS cC s₁ lc0 cl0 sl0 h0 n0 code 16 "com/example/tessera/tessera/sql/SqlTextPagedPinLaw" 14 160) (A_r : StrA Z h0 r rb rk rz rs) (SX : Sts Z cs fo da ea) (OL : Old Z n0 h0) (hbd : p + 60 < 1000000) (hf : fl = (0 : Int32)) (hp2 : p = p2) :
    ∃ T' h' L' vE kE, Stand pP l eE room_1 (sS.setVm vE) mM aS bS mS cC T' L' (cl0 + 14) (sl0 + 160) ∧ T'.heap = h' ∧ sS.Since vE kE ∧ kE ≤ h'.size ∧ Z.Warmed39 (sS.setVm vE).vm ∧ (sS.setVm vE).vm.findClass "com/example/tessera/tessera/sql/SqlTextPagedPinLaw" = some mM.cls ∧ CHr Z consts_1 vB h0 vE h' ∧ Fr n0 L' ∧ Keep h0 h' [] ∧ ∀ t', SS pP eE bS T' (mkF mM 336 #[s0, s1, s2, s3, s4, s5, s6, s7, .val (.int a), s9, .val (.ref r), .val (.int fl), s12, s13, .val (.int z14), .val (.int (iN p2))] []) t' → SS pP eE bS s₁ (mkF mM 273 #[s0, s1, s2, s3, s4, s5, s6, s7, .val (.int a), s9, .val (.ref r), .val (.int fl), s12, s13, .val (.int z14), .val (.int (iN p))] []) t' := by
  obtain ⟨Z0, hx, hj, hml, hZ0, hown0, X0, e0, N0, hcl, hsl⟩ := id G
  have CC0 : CHr Z consts_1 vB h0 vB h0 := CHr.refl hCH
  refine ⟨s₁, h0, _, vB, _, (X0.mono (by omega) (by omega)), e0, hS0, (by omega), hZ0, hown0, CC0, N0, (Keep.refl h0 []), fun t' hk' => ?_⟩
  show SS pP eE bS s₁ (mkF mM 273 (Lc_lwO0_0 s0 s1 s2 s3 s4 s5 s6 s7 a s9 r fl s12 s13 z14 p) []) _
  refine XS.iload X0.here hx rfl (hb hj at_273) rfl ?_
  refine XS.ifYes X0.here hx rfl (pc0 := 275) (pc' := 336) rfl (hb hj at_275) rfl ((if0 _ _).trans (teq hf).1) (by decide) (by decide) ?_
  rw [← hp2] at hk'
  exact hk'
abbrev Lc_lwO1_0 (s0 : Slot) (s1 : Slot) (s2 : Slot) (s3 : Slot) (s4 : Slot) (s5 : Slot) (s6 : Slot) (s7 : Slot) (a : Int32) (s9 : Slot) (r : Addr) (fl : Int32) (s12 : Slot) (s13 : Slot) (z14 : Int32) (p : Nat) : Array Slot := #[s0, s1, s2, s3, s4, s5, s6, s7, .val (.int a), s9, .val (.ref r), .val (.int fl), s12, s13, .val (.int z14), .val (.int (iN p))]
abbrev Lc_lwO1_1 (s0 : Slot) (s1 : Slot) (s2 : Slot) (s3 : Slot) (s4 : Slot) (s5 : Slot) (s6 : Slot) (s7 : Slot) (a : Int32) (s9 : Slot) (r : Addr) (fl : Int32) (s12 : Slot) (s13 : Slot) (z14 : Int32) (p : Nat) : Array Slot := #[s0, s1, s2, s3, s4, s5, s6, s7, .val (.int a), s9, .val (.ref r), .val (.int fl), s12, s13, .val (.int z14), .val (.int ((iN p) + (8 : Int32)))]
abbrev Lc_lwO1_2 (s0 : Slot) (s1 : Slot) (s2 : Slot) (s3 : Slot) (s4 : Slot) (s5 : Slot) (s6 : Slot) (s7 : Slot) (a : Int32) (s9 : Slot) (r : Addr) (fl : Int32) (s12 : Slot) (s13 : Slot) (z14 : Int32) (p : Nat) : Array Slot := #[s0, s1, s2, s3, s4, s5, s6, s7, .val (.int a), s9, .val (.ref r), .val (.int fl), s12, s13, .val (.int z14), .val (.int (iN (p + 8)))]
abbrev Lc_lwO1_3 (s0 : Slot) (s1 : Slot) (s2 : Slot) (s3 : Slot) (s4 : Slot) (s5 : Slot) (s6 : Slot) (s7 : Slot) (a : Int32) (s9 : Slot) (r : Addr) (fl : Int32) (s12 : Slot) (s13 : Slot) (z14 : Int32) (p : Nat) : Array Slot := #[s0, s1, s2, s3, s4, s5, s6, s7, .val (.int a), s9, .val (.ref r), .val (.int fl), s12, s13, .val (.int z14), .val (.int (iN ((p + 8) + wd a)))]
abbrev Lc_lwO1_4 (s0 : Slot) (s1 : Slot) (s2 : Slot) (s3 : Slot) (s4 : Slot) (s5 : Slot) (s6 : Slot) (s7 : Slot) (a : Int32) (s9 : Slot) (r : Addr) (fl : Int32) (s12 : Slot) (s13 : Slot) (z14 : Int32) (p : Nat) : Array Slot := #[s0, s1, s2, s3, s4, s5, s6, s7, .val (.int a), s9, .val (.ref r), .val (.int fl), s12, s13, .val (.int z14), .val (.int ((iN ((p + 8) + wd a)) + (5 : Int32)))]
abbrev Lc_lwO1_5 (s0 : Slot) (s1 : Slot) (s2 : Slot) (s3 : Slot) (s4 : Slot) (s5 : Slot) (s6 : Slot) (s7 : Slot) (a : Int32) (s9 : Slot) (r : Addr) (fl : Int32) (s12 : Slot) (s13 : Slot) (z14 : Int32) (p : Nat) : Array Slot := #[s0, s1, s2, s3, s4, s5, s6, s7, .val (.int a), s9, .val (.ref r), .val (.int fl), s12, s13, .val (.int z14), .val (.int (iN (((p + 8) + wd a) + 5)))]
theorem sg_lwO1 (hw : HW a0 Z) (r : Addr) (rb : Addr) (rk : ClassId) (rz : Nat) (rs : List Value) (a : Int32) (fl : Int32) (z14 : Int32) (p : Nat) (p2 : Nat) (s0 : Slot) (s1 : Slot) (s2 : Slot) (s3 : Slot) (s4 : Slot) (s5 : Slot) (s6 : Slot) (s7 : Slot) (s9 : Slot) (s12 : Slot) (s13 : Slot) (fo : Value) (cs : Int32) (da : Addr) (ea : Addr) {vB : Vm} {kB : Nat} (h0 : Heap) (n0 : Nat) (hS0 : sS.Since vB kB) (hkB : kB ≤ h0.size) (hCH : CHv Z consts_1 vB h0) (G : SG l Z pP eE room_1 (sS.setVm vB) mM aS bS mS cC s₁ lc0 cl0 sl0 h0 n0 code 16 "com/example/tessera/tessera/sql/SqlTextPagedPinLaw" 14 160) (A_r : StrA Z h0 r rb rk rz rs) (SX : Sts Z cs fo da ea) (OL : Old Z n0 h0) (hbd : p + 60 < 1000000) (hf : ¬ (fl = (0 : Int32))) (hp2 : (((p + 8) + wd a) + 5) = p2) (h1 : LitP rz rs p [(.int (32 : Int32)), (.int (79 : Int32)), (.int (70 : Int32)), (.int (70 : Int32)), (.int (83 : Int32)), (.int (69 : Int32)), (.int (84 : Int32)), (.int (32 : Int32))]) (h2 : NumP rz rs (p + 8) a) (h3 : LitP rz rs ((p + 8) + wd a) [(.int (32 : Int32)), (.int (82 : Int32)), (.int (79 : Int32)), (.int (87 : Int32)), (.int (83 : Int32))]) :
    ∃ T' h' L' vE kE, Stand pP l eE room_1 (sS.setVm vE) mM aS bS mS cC T' L' (cl0 + 14) (sl0 + 160) ∧ T'.heap = h' ∧ sS.Since vE kE ∧ kE ≤ h'.size ∧ Z.Warmed39 (sS.setVm vE).vm ∧ (sS.setVm vE).vm.findClass "com/example/tessera/tessera/sql/SqlTextPagedPinLaw" = some mM.cls ∧ CHr Z consts_1 vB h0 vE h' ∧ Fr n0 L' ∧ Keep h0 h' [] ∧ ∀ t', SS pP eE bS T' (mkF mM 336 #[s0, s1, s2, s3, s4, s5, s6, s7, .val (.int a), s9, .val (.ref r), .val (.int fl), s12, s13, .val (.int z14), .val (.int (iN p2))] []) t' → SS pP eE bS s₁ (mkF mM 273 #[s0, s1, s2, s3, s4, s5, s6, s7, .val (.int a), s9, .val (.ref r), .val (.int fl), s12, s13, .val (.int z14), .val (.int (iN p))] []) t' := by
  obtain ⟨Z0, hx, hj, hml, hZ0, hown0, X0, e0, N0, hcl, hsl⟩ := id G
  have CC0 : CHr Z consts_1 vB h0 vB h0 := CHr.refl hCH
  obtain ⟨b101, T101, h101, kk101, d101, q101, X101, e101, E101, hS101, hk101, hZ101, hown101, A101, Fc101, Fv101, V101, ltb101, ltd101, Ch101, -, hne101, st101⟩ := ldcCH X0 hx hZ0 hown0 (wi hw 222 rfl) (own_wS hw) e0 hS0 (by omega) (own_EW hw) (List.mem_of_getElem? (i := 6) rfl) CC0.1 (vs := [(.int (32 : Int32)), (.int (79 : Int32)), (.int (70 : Int32)), (.int (70 : Int32)), (.int (83 : Int32)), (.int (69 : Int32)), (.int (84 : Int32)), (.int (32 : Int32))]) (z := (iN 8)) (own_txt6) (by decide) (by rfl) (g := (mkF mM 282 (Lc_lwO1_0 s0 s1 s2 s3 s4 s5 s6 s7 a s9 r fl s12 s13 z14 p) [(.int (iN p)), (.ref r)])) rfl (hb hj at_282) (n := 32) (by decide) (by decide) (segle (k := 0) hcl (by decide)) (segle (k := 0) hsl (by decide))
  have Sz1 : h0.size ≤ h101.size := E101.1
  have CC1 : CHr Z consts_1 vB h0 T101.vm h101 := CC0.trans Ch101
  have c103_A_r : StrA Z h101 r rb rk rz rs := StrA.ext E101 A_r
  have c104_A_b101 : StrA Z h101 b101 d101 q101 8 [(.int (32 : Int32)), (.int (79 : Int32)), (.int (70 : Int32)), (.int (70 : Int32)), (.int (83 : Int32)), (.int (69 : Int32)), (.int (84 : Int32)), (.int (32 : Int32))] := ⟨A101, Fv101, Fc101, V101⟩
  have c105_OL : Old Z n0 h101 := OL.ext E101
  obtain ⟨T102, L102, X102, e102, N102, st102⟩ := cw_lit_S5043 l Z a0 hw r rb rk rz rs p b101 d101 q101 8 _ fo cs da ea h101 n0 (by omega) hx hZ101 hown101 X101 e101 N0 (segle (k := 2) hcl (by decide)) (segle (k := 36) hsl (by decide)) c103_A_r c104_A_b101 SX c105_OL (⟨by decide, by have := wd_le a; omega⟩) (h1) (g := (mkF mM 284 (Lc_lwO1_0 s0 s1 s2 s3 s4 s5 s6 s7 a s9 r fl s12 s13 z14 p) [(.ref b101), (.int (iN p)), (.ref r)])) rfl hml.symm rfl (hb hj at_284) (W := 0) (W0 rfl) (by decide) (by decide)
  obtain ⟨T106, h106, L106, X106, e106, N106, Kp106, st106⟩ := cw_num_S5047 l Z a0 hw r rb rk rz rs (p + 8) a fo cs da ea h101 n0 (by omega) hx hZ101 hown101 X102 e102 N102 (segle (k := 2) hcl (by decide)) (segle (k := 36) hsl (by decide)) c103_A_r SX c105_OL (h2) (g := (mkF mM 301 (Lc_lwO1_2 s0 s1 s2 s3 s4 s5 s6 s7 a s9 r fl s12 s13 z14 p) [(.int a), (.int (iN (p + 8))), (.ref r)])) rfl hml.symm rfl (hb hj at_301) (W := 0) (W0 rfl) (by decide) (by decide)
  have Sz2 : h101.size ≤ h106.size := Kp106.1
  have CC2 : CHr Z consts_1 vB h0 T101.vm h106 := CC1.trans (CHr.keep Kp106 sf0 CC1.1)
  obtain ⟨T107, L107, X107, e107, N107, st107⟩ := cw_wid_S5027 l Z a0 hw a h106 n0 (by omega) hx hZ101 hown101 X106 e106 N106 (segle (k := 12) hcl (by decide)) (segle (k := 136) hsl (by decide))  (g := (mkF mM 313 (Lc_lwO1_2 s0 s1 s2 s3 s4 s5 s6 s7 a s9 r fl s12 s13 z14 p) [(.int a), (.int (iN (p + 8)))])) rfl hml.symm rfl (hb hj at_313) (W := 1) (W0 rfl) (by decide) (by decide)
  obtain ⟨b108, T108, h108, kk108, d108, q108, X108, e108, E108, hS108, hk108, hZ108, hown108, A108, Fc108, Fv108, V108, ltb108, ltd108, Ch108, -, hne108, st108⟩ := ldcCH X107 hx hZ101 hown101 (wi hw 233 rfl) (own_wS hw) e107 hS101 (by omega) (own_EW hw) (List.mem_of_getElem? (i := 7) rfl) CC2.1 (vs := [(.int (32 : Int32)), (.int (82 : Int32)), (.int (79 : Int32)), (.int (87 : Int32)), (.int (83 : Int32))]) (z := (iN 5)) (own_txt7) (by decide) (by rfl) (g := (mkF mM 323 (Lc_lwO1_3 s0 s1 s2 s3 s4 s5 s6 s7 a s9 r fl s12 s13 z14 p) [(.int (iN ((p + 8) + wd a))), (.ref r)])) rfl (hb hj at_323) (n := 20) (by decide) (by decide) (segle (k := 12) hcl (by decide)) (segle (k := 136) hsl (by decide))
  have Sz3 : h106.size ≤ h108.size := E108.1
  have CC3 : CHr Z consts_1 vB h0 T108.vm h108 := CC2.trans Ch108
  have c110_A_r : StrA Z h106 r rb rk rz rs := StrA.keep Kp106 c103_A_r nin0 nin0
  have c111_A_r : StrA Z h108 r rb rk rz rs := StrA.ext E108 c110_A_r
  have c112_A_b108 : StrA Z h108 b108 d108 q108 5 [(.int (32 : Int32)), (.int (82 : Int32)), (.int (79 : Int32)), (.int (87 : Int32)), (.int (83 : Int32))] := ⟨A108, Fv108, Fc108, V108⟩
  have c113_OL : Old Z n0 h106 := c105_OL.keep Kp106 all0
  have c114_OL : Old Z n0 h108 := c113_OL.ext E108
  obtain ⟨T109, L109, X109, e109, N109, st109⟩ := cw_lit_S5043 l Z a0 hw r rb rk rz rs ((p + 8) + wd a) b108 d108 q108 5 _ fo cs da ea h108 n0 (by omega) hx hZ108 hown108 X108 e108 N107 (segle (k := 14) hcl (by decide)) (segle (k := 160) hsl (by decide)) c111_A_r c112_A_b108 SX c114_OL (⟨by decide, by have := wd_le a; omega⟩) (h3) (g := (mkF mM 325 (Lc_lwO1_3 s0 s1 s2 s3 s4 s5 s6 s7 a s9 r fl s12 s13 z14 p) [(.ref b108), (.int (iN ((p + 8) + wd a))), (.ref r)])) rfl hml.symm rfl (hb hj at_325) (W := 0) (W0 rfl) (by decide) (by decide)
  have K115 : Keep h0 h101 [] := (Keep.refl h0 []).ext E101
  have K116 : Keep h0 h106 [] := K115.trans Kp106 all0
  have K117 : Keep h0 h108 [] := K116.ext E108
  refine ⟨T109, h108, _, T108.vm, _, X109, e109, hS108, (by omega), hZ108, hown108, CC3, N109, K117, fun t' hk' => ?_⟩
  show SS pP eE bS s₁ (mkF mM 273 (Lc_lwO1_0 s0 s1 s2 s3 s4 s5 s6 s7 a s9 r fl s12 s13 z14 p) []) _
  refine XS.iload X0.here hx rfl (hb hj at_273) rfl ?_
  refine XS.ifNo X0.here hx rfl (hb hj at_275) rfl ((if0 _ _).trans (feq hf).1) ?_
  refine XS.aload X0.here hx rfl (hb hj at_278) rfl rfl ?_
  refine XS.iload X0.here hx rfl (hb hj at_280) rfl ?_
  refine st101 _ ?_
  refine st102 _ ?_
  refine XS.ifYes X102.here hx rfl (pc0 := 287) (pc' := 292) rfl (hb hj at_287) rfl ((if0 _ _).trans (feq (by decide : ¬ ((1 : Int32) = (0 : Int32)))).2) (by decide) (by decide) ?_
  refine XS.iinc X102.here hx rfl (hb hj at_292) rfl (l' := (Lc_lwO1_1 s0 s1 s2 s3 s4 s5 s6 s7 a s9 r fl s12 s13 z14 p)) rfl ?_
  show SS pP eE bS T102 (mkF mM 295 #[s0, s1, s2, s3, s4, s5, s6, s7, .val (.int a), s9, .val (.ref r), .val (.int fl), s12, s13, .val (.int z14), .val (.int ((iN p) + (8 : Int32)))] []) _
  rw [show ((iN p) + (8 : Int32)) = (iN (p + 8)) from iN_add p 8]
  refine XS.aload X102.here hx rfl (hb hj at_295) rfl rfl ?_
  refine XS.iload X102.here hx rfl (hb hj at_297) rfl ?_
  refine XS.iload X102.here hx rfl (hb hj at_299) rfl ?_
  refine st106 _ ?_
  refine XS.ifYes X106.here hx rfl (pc0 := 304) (pc' := 309) rfl (hb hj at_304) rfl ((if0 _ _).trans (feq (by decide : ¬ ((1 : Int32) = (0 : Int32)))).2) (by decide) (by decide) ?_
  refine XS.iload X106.here hx rfl (hb hj at_309) rfl ?_
  refine XS.iload X106.here hx rfl (hb hj at_311) rfl ?_
  refine st107 _ ?_
  refine XS.iadd X107.here hx rfl (hb hj at_316) rfl ?_
  show SS pP eE bS T107 (mkF mM 317 (Lc_lwO1_2 s0 s1 s2 s3 s4 s5 s6 s7 a s9 r fl s12 s13 z14 p) [(.int ((iN (p + 8)) + (iN (wd a))))]) _
  rw [show ((iN (p + 8)) + (iN (wd a))) = (iN ((p + 8) + wd a)) from iN_add (p + 8) (wd a)]
  refine XS.istore X107.here hx rfl (hb hj at_317) rfl (l' := (Lc_lwO1_3 s0 s1 s2 s3 s4 s5 s6 s7 a s9 r fl s12 s13 z14 p)) rfl ?_
  refine XS.aload X107.here hx rfl (hb hj at_319) rfl rfl ?_
  refine XS.iload X107.here hx rfl (hb hj at_321) rfl ?_
  refine st108 _ ?_
  refine st109 _ ?_
  refine XS.ifYes X109.here hx rfl (pc0 := 328) (pc' := 333) rfl (hb hj at_328) rfl ((if0 _ _).trans (feq (by decide : ¬ ((1 : Int32) = (0 : Int32)))).2) (by decide) (by decide) ?_
  refine XS.iinc X109.here hx rfl (hb hj at_333) rfl (l' := (Lc_lwO1_4 s0 s1 s2 s3 s4 s5 s6 s7 a s9 r fl s12 s13 z14 p)) rfl ?_
  show SS pP eE bS T109 (mkF mM 336 #[s0, s1, s2, s3, s4, s5, s6, s7, .val (.int a), s9, .val (.ref r), .val (.int fl), s12, s13, .val (.int z14), .val (.int ((iN ((p + 8) + wd a)) + (5 : Int32)))] []) _
  rw [show ((iN ((p + 8) + wd a)) + (5 : Int32)) = (iN (((p + 8) + wd a) + 5)) from iN_add ((p + 8) + wd a) 5]
  rw [← hp2] at hk'
  exact hk'
theorem sg_lwO (hw : HW a0 Z) (r : Addr) (rb : Addr) (rk : ClassId) (rz : Nat) (rs : List Value) (a : Int32) (fl : Int32) (z14 : Int32) (p : Nat) (p2 : Nat) (s0 : Slot) (s1 : Slot) (s2 : Slot) (s3 : Slot) (s4 : Slot) (s5 : Slot) (s6 : Slot) (s7 : Slot) (s9 : Slot) (s12 : Slot) (s13 : Slot) (fo : Value) (cs : Int32) (da : Addr) (ea : Addr) {vB : Vm} {kB : Nat} (h0 : Heap) (n0 : Nat) (hS0 : sS.Since vB kB) (hkB : kB ≤ h0.size) (hCH : CHv Z consts_1 vB h0) (G : SG l Z pP eE room_1 (sS.setVm vB) mM aS bS mS cC s₁ lc0 cl0 sl0 h0 n0 code 16 "com/example/tessera/tessera/sql/SqlTextPagedPinLaw" 14 160) (A_r : StrA Z h0 r rb rk rz rs) (SX : Sts Z cs fo da ea) (OL : Old Z n0 h0) (hbd : p + 60 < 1000000) (hor : (fl = (0 : Int32) ∧ p = p2) ∨ (¬ (fl = (0 : Int32)) ∧ (((p + 8) + wd a) + 5) = p2 ∧ LitP rz rs p [(.int (32 : Int32)), (.int (79 : Int32)), (.int (70 : Int32)), (.int (70 : Int32)), (.int (83 : Int32)), (.int (69 : Int32)), (.int (84 : Int32)), (.int (32 : Int32))] ∧ NumP rz rs (p + 8) a ∧ LitP rz rs ((p + 8) + wd a) [(.int (32 : Int32)), (.int (82 : Int32)), (.int (79 : Int32)), (.int (87 : Int32)), (.int (83 : Int32))])) :
    ∃ T' h' L' vE kE, Stand pP l eE room_1 (sS.setVm vE) mM aS bS mS cC T' L' (cl0 + 14) (sl0 + 160) ∧ T'.heap = h' ∧ sS.Since vE kE ∧ kE ≤ h'.size ∧ Z.Warmed39 (sS.setVm vE).vm ∧ (sS.setVm vE).vm.findClass "com/example/tessera/tessera/sql/SqlTextPagedPinLaw" = some mM.cls ∧ CHr Z consts_1 vB h0 vE h' ∧ Fr n0 L' ∧ Keep h0 h' [] ∧ ∀ t', SS pP eE bS T' (mkF mM 336 #[s0, s1, s2, s3, s4, s5, s6, s7, .val (.int a), s9, .val (.ref r), .val (.int fl), s12, s13, .val (.int z14), .val (.int (iN p2))] []) t' → SS pP eE bS s₁ (mkF mM 273 #[s0, s1, s2, s3, s4, s5, s6, s7, .val (.int a), s9, .val (.ref r), .val (.int fl), s12, s13, .val (.int z14), .val (.int (iN p))] []) t' := by
  rcases hor with ⟨hf, hp2⟩ | ⟨hf, hp2, h1, h2, h3⟩
  · exact sg_lwO0 l Z a0 hw r rb rk rz rs a fl z14 p p2 s0 s1 s2 s3 s4 s5 s6 s7 s9 s12 s13 fo cs da ea h0 n0 hS0 hkB hCH G A_r SX OL hbd hf hp2
  · exact sg_lwO1 l Z a0 hw r rb rk rz rs a fl z14 p p2 s0 s1 s2 s3 s4 s5 s6 s7 s9 s12 s13 fo cs da ea h0 n0 hS0 hkB hCH G A_r SX OL hbd hf hp2 h1 h2 h3
theorem own_txt8 : (∀ c ∈ " FETCH FIRST ".toList, c.toNat < 256) ∧ " FETCH FIRST ".toList.map (fun c => Value.int (Jvm.Lit.byteI c.toNat.toUInt16)) = [(.int (32 : Int32)), (.int (70 : Int32)), (.int (69 : Int32)), (.int (84 : Int32)), (.int (67 : Int32)), (.int (72 : Int32)), (.int (32 : Int32)), (.int (70 : Int32)), (.int (73 : Int32)), (.int (82 : Int32)), (.int (83 : Int32)), (.int (84 : Int32)), (.int (32 : Int32))] := by
  constructor
  · decide
  · first | rfl | decide
theorem own_txt9 : (∀ c ∈ " ROWS ONLY".toList, c.toNat < 256) ∧ " ROWS ONLY".toList.map (fun c => Value.int (Jvm.Lit.byteI c.toNat.toUInt16)) = [(.int (32 : Int32)), (.int (82 : Int32)), (.int (79 : Int32)), (.int (87 : Int32)), (.int (83 : Int32)), (.int (32 : Int32)), (.int (79 : Int32)), (.int (78 : Int32)), (.int (76 : Int32)), (.int (89 : Int32))] := by
  constructor
  · decide
  · first | rfl | decide
abbrev Lc_lwF0_0 (s0 : Slot) (s1 : Slot) (s2 : Slot) (s3 : Slot) (s4 : Slot) (s5 : Slot) (s6 : Slot) (s7 : Slot) (s8 : Slot) (b : Int32) (r : Addr) (s11 : Slot) (fl : Int32) (s13 : Slot) (z14 : Int32) (p : Nat) : Array Slot := #[s0, s1, s2, s3, s4, s5, s6, s7, s8, .val (.int b), .val (.ref r), s11, .val (.int fl), s13, .val (.int z14), .val (.int (iN p))]
theorem sg_lwF0 (hw : HW a0 Z) (r : Addr) (rb : Addr) (rk : ClassId) (rz : Nat) (rs : List Value) (b : Int32) (fl : Int32) (z14 : Int32) (p : Nat) (p2 : Nat) (s0 : Slot) (s1 : Slot) (s2 : Slot) (s3 : Slot) (s4 : Slot) (s5 : Slot) (s6 : Slot) (s7 : Slot) (s8 : Slot) (s11 : Slot) (s13 : Slot) (fo : Value) (cs : Int32) (da : Addr) (ea : Addr) {vB : Vm} {kB : Nat} (h0 : Heap) (n0 : Nat) (hS0 : sS.Since vB kB) (hkB : kB ≤ h0.size) (hCH : CHv Z consts_1 vB h0) (G : SG l Z pP eE room_1 (sS.setVm vB) mM aS bS mS cC s₁ lc0 cl0 sl0 h0 n0 code 16 "com/example/tessera/tessera/sql/SqlTextPagedPinLaw" 14 200) (A_r : StrA Z h0 r rb rk rz rs) (SX : Sts Z cs fo da ea) (OL : Old Z n0 h0) (hbd : p + 60 < 1000000) (hf : fl = (0 : Int32)) (hp2 : p = p2) :
    ∃ T' h' L' vE kE, Stand pP l eE room_1 (sS.setVm vE) mM aS bS mS cC T' L' (cl0 + 14) (sl0 + 200) ∧ T'.heap = h' ∧ sS.Since vE kE ∧ kE ≤ h'.size ∧ Z.Warmed39 (sS.setVm vE).vm ∧ (sS.setVm vE).vm.findClass "com/example/tessera/tessera/sql/SqlTextPagedPinLaw" = some mM.cls ∧ CHr Z consts_1 vB h0 vE h' ∧ Fr n0 L' ∧ Keep h0 h' [] ∧ ∀ t', SS pP eE bS T' (mkF mM 396 #[s0, s1, s2, s3, s4, s5, s6, s7, s8, .val (.int b), .val (.ref r), s11, .val (.int fl), s13, .val (.int z14), .val (.int (iN p2))] []) t' → SS pP eE bS s₁ (mkF mM 336 #[s0, s1, s2, s3, s4, s5, s6, s7, s8, .val (.int b), .val (.ref r), s11, .val (.int fl), s13, .val (.int z14), .val (.int (iN p))] []) t' := by
  obtain ⟨Z0, hx, hj, hml, hZ0, hown0, X0, e0, N0, hcl, hsl⟩ := id G
  have CC0 : CHr Z consts_1 vB h0 vB h0 := CHr.refl hCH
  refine ⟨s₁, h0, _, vB, _, (X0.mono (by omega) (by omega)), e0, hS0, (by omega), hZ0, hown0, CC0, N0, (Keep.refl h0 []), fun t' hk' => ?_⟩
  show SS pP eE bS s₁ (mkF mM 336 (Lc_lwF0_0 s0 s1 s2 s3 s4 s5 s6 s7 s8 b r s11 fl s13 z14 p) []) _
  refine XS.iload X0.here hx rfl (hb hj at_336) rfl ?_
  refine XS.ifYes X0.here hx rfl (pc0 := 338) (pc' := 396) rfl (hb hj at_338) rfl ((if0 _ _).trans (teq hf).1) (by decide) (by decide) ?_
  rw [← hp2] at hk'
  exact hk'
abbrev Lc_lwF1_0 (s0 : Slot) (s1 : Slot) (s2 : Slot) (s3 : Slot) (s4 : Slot) (s5 : Slot) (s6 : Slot) (s7 : Slot) (s8 : Slot) (b : Int32) (r : Addr) (s11 : Slot) (fl : Int32) (s13 : Slot) (z14 : Int32) (p : Nat) : Array Slot := #[s0, s1, s2, s3, s4, s5, s6, s7, s8, .val (.int b), .val (.ref r), s11, .val (.int fl), s13, .val (.int z14), .val (.int (iN p))]
abbrev Lc_lwF1_1 (s0 : Slot) (s1 : Slot) (s2 : Slot) (s3 : Slot) (s4 : Slot) (s5 : Slot) (s6 : Slot) (s7 : Slot) (s8 : Slot) (b : Int32) (r : Addr) (s11 : Slot) (fl : Int32) (s13 : Slot) (z14 : Int32) (p : Nat) : Array Slot := #[s0, s1, s2, s3, s4, s5, s6, s7, s8, .val (.int b), .val (.ref r), s11, .val (.int fl), s13, .val (.int z14), .val (.int ((iN p) + (13 : Int32)))]
abbrev Lc_lwF1_2 (s0 : Slot) (s1 : Slot) (s2 : Slot) (s3 : Slot) (s4 : Slot) (s5 : Slot) (s6 : Slot) (s7 : Slot) (s8 : Slot) (b : Int32) (r : Addr) (s11 : Slot) (fl : Int32) (s13 : Slot) (z14 : Int32) (p : Nat) : Array Slot := #[s0, s1, s2, s3, s4, s5, s6, s7, s8, .val (.int b), .val (.ref r), s11, .val (.int fl), s13, .val (.int z14), .val (.int (iN (p + 13)))]
abbrev Lc_lwF1_3 (s0 : Slot) (s1 : Slot) (s2 : Slot) (s3 : Slot) (s4 : Slot) (s5 : Slot) (s6 : Slot) (s7 : Slot) (s8 : Slot) (b : Int32) (r : Addr) (s11 : Slot) (fl : Int32) (s13 : Slot) (z14 : Int32) (p : Nat) : Array Slot := #[s0, s1, s2, s3, s4, s5, s6, s7, s8, .val (.int b), .val (.ref r), s11, .val (.int fl), s13, .val (.int z14), .val (.int (iN ((p + 13) + wd b)))]
theorem sg_lwF1 (hw : HW a0 Z) (r : Addr) (rb : Addr) (rk : ClassId) (rz : Nat) (rs : List Value) (b : Int32) (fl : Int32) (z14 : Int32) (p : Nat) (p2 : Nat) (s0 : Slot) (s1 : Slot) (s2 : Slot) (s3 : Slot) (s4 : Slot) (s5 : Slot) (s6 : Slot) (s7 : Slot) (s8 : Slot) (s11 : Slot) (s13 : Slot) (fo : Value) (cs : Int32) (da : Addr) (ea : Addr) {vB : Vm} {kB : Nat} (h0 : Heap) (n0 : Nat) (hS0 : sS.Since vB kB) (hkB : kB ≤ h0.size) (hCH : CHv Z consts_1 vB h0) (G : SG l Z pP eE room_1 (sS.setVm vB) mM aS bS mS cC s₁ lc0 cl0 sl0 h0 n0 code 16 "com/example/tessera/tessera/sql/SqlTextPagedPinLaw" 14 200) (A_r : StrA Z h0 r rb rk rz rs) (SX : Sts Z cs fo da ea) (OL : Old Z n0 h0) (hbd : p + 60 < 1000000) (hf : ¬ (fl = (0 : Int32))) (hp2 : ((p + 13) + wd b) = p2) (h1 : LitP rz rs p [(.int (32 : Int32)), (.int (70 : Int32)), (.int (69 : Int32)), (.int (84 : Int32)), (.int (67 : Int32)), (.int (72 : Int32)), (.int (32 : Int32)), (.int (70 : Int32)), (.int (73 : Int32)), (.int (82 : Int32)), (.int (83 : Int32)), (.int (84 : Int32)), (.int (32 : Int32))]) (h2 : NumP rz rs (p + 13) b) (h3 : LitP rz rs ((p + 13) + wd b) [(.int (32 : Int32)), (.int (82 : Int32)), (.int (79 : Int32)), (.int (87 : Int32)), (.int (83 : Int32)), (.int (32 : Int32)), (.int (79 : Int32)), (.int (78 : Int32)), (.int (76 : Int32)), (.int (89 : Int32))]) :
    ∃ T' h' L' vE kE, Stand pP l eE room_1 (sS.setVm vE) mM aS bS mS cC T' L' (cl0 + 14) (sl0 + 200) ∧ T'.heap = h' ∧ sS.Since vE kE ∧ kE ≤ h'.size ∧ Z.Warmed39 (sS.setVm vE).vm ∧ (sS.setVm vE).vm.findClass "com/example/tessera/tessera/sql/SqlTextPagedPinLaw" = some mM.cls ∧ CHr Z consts_1 vB h0 vE h' ∧ Fr n0 L' ∧ Keep h0 h' [] ∧ ∀ t', SS pP eE bS T' (mkF mM 396 #[s0, s1, s2, s3, s4, s5, s6, s7, s8, .val (.int b), .val (.ref r), s11, .val (.int fl), s13, .val (.int z14), .val (.int (iN p2))] []) t' → SS pP eE bS s₁ (mkF mM 336 #[s0, s1, s2, s3, s4, s5, s6, s7, s8, .val (.int b), .val (.ref r), s11, .val (.int fl), s13, .val (.int z14), .val (.int (iN p))] []) t' := by
  obtain ⟨Z0, hx, hj, hml, hZ0, hown0, X0, e0, N0, hcl, hsl⟩ := id G
  have CC0 : CHr Z consts_1 vB h0 vB h0 := CHr.refl hCH
  obtain ⟨b101, T101, h101, kk101, d101, q101, X101, e101, E101, hS101, hk101, hZ101, hown101, A101, Fc101, Fv101, V101, ltb101, ltd101, Ch101, -, hne101, st101⟩ := ldcCH X0 hx hZ0 hown0 (wi hw 236 rfl) (own_wS hw) e0 hS0 (by omega) (own_EW hw) (List.mem_of_getElem? (i := 8) rfl) CC0.1 (vs := [(.int (32 : Int32)), (.int (70 : Int32)), (.int (69 : Int32)), (.int (84 : Int32)), (.int (67 : Int32)), (.int (72 : Int32)), (.int (32 : Int32)), (.int (70 : Int32)), (.int (73 : Int32)), (.int (82 : Int32)), (.int (83 : Int32)), (.int (84 : Int32)), (.int (32 : Int32))]) (z := (iN 13)) (own_txt8) (by decide) (by rfl) (g := (mkF mM 345 (Lc_lwF1_0 s0 s1 s2 s3 s4 s5 s6 s7 s8 b r s11 fl s13 z14 p) [(.int (iN p)), (.ref r)])) rfl (hb hj at_345) (n := 52) (by decide) (by decide) (segle (k := 0) hcl (by decide)) (segle (k := 0) hsl (by decide))
  have Sz1 : h0.size ≤ h101.size := E101.1
  have CC1 : CHr Z consts_1 vB h0 T101.vm h101 := CC0.trans Ch101
  have c103_A_r : StrA Z h101 r rb rk rz rs := StrA.ext E101 A_r
  have c104_A_b101 : StrA Z h101 b101 d101 q101 13 [(.int (32 : Int32)), (.int (70 : Int32)), (.int (69 : Int32)), (.int (84 : Int32)), (.int (67 : Int32)), (.int (72 : Int32)), (.int (32 : Int32)), (.int (70 : Int32)), (.int (73 : Int32)), (.int (82 : Int32)), (.int (83 : Int32)), (.int (84 : Int32)), (.int (32 : Int32))] := ⟨A101, Fv101, Fc101, V101⟩
  have c105_OL : Old Z n0 h101 := OL.ext E101
  obtain ⟨T102, L102, X102, e102, N102, st102⟩ := cw_lit_S5043 l Z a0 hw r rb rk rz rs p b101 d101 q101 13 _ fo cs da ea h101 n0 (by omega) hx hZ101 hown101 X101 e101 N0 (segle (k := 2) hcl (by decide)) (segle (k := 56) hsl (by decide)) c103_A_r c104_A_b101 SX c105_OL (⟨by decide, by have := wd_le b; omega⟩) (h1) (g := (mkF mM 347 (Lc_lwF1_0 s0 s1 s2 s3 s4 s5 s6 s7 s8 b r s11 fl s13 z14 p) [(.ref b101), (.int (iN p)), (.ref r)])) rfl hml.symm rfl (hb hj at_347) (W := 0) (W0 rfl) (by decide) (by decide)
  obtain ⟨T106, h106, L106, X106, e106, N106, Kp106, st106⟩ := cw_num_S5047 l Z a0 hw r rb rk rz rs (p + 13) b fo cs da ea h101 n0 (by omega) hx hZ101 hown101 X102 e102 N102 (segle (k := 2) hcl (by decide)) (segle (k := 56) hsl (by decide)) c103_A_r SX c105_OL (h2) (g := (mkF mM 364 (Lc_lwF1_2 s0 s1 s2 s3 s4 s5 s6 s7 s8 b r s11 fl s13 z14 p) [(.int b), (.int (iN (p + 13))), (.ref r)])) rfl hml.symm rfl (hb hj at_364) (W := 0) (W0 rfl) (by decide) (by decide)
  have Sz2 : h101.size ≤ h106.size := Kp106.1
  have CC2 : CHr Z consts_1 vB h0 T101.vm h106 := CC1.trans (CHr.keep Kp106 sf0 CC1.1)
  obtain ⟨T107, L107, X107, e107, N107, st107⟩ := cw_wid_S5027 l Z a0 hw b h106 n0 (by omega) hx hZ101 hown101 X106 e106 N106 (segle (k := 12) hcl (by decide)) (segle (k := 156) hsl (by decide))  (g := (mkF mM 376 (Lc_lwF1_2 s0 s1 s2 s3 s4 s5 s6 s7 s8 b r s11 fl s13 z14 p) [(.int b), (.int (iN (p + 13)))])) rfl hml.symm rfl (hb hj at_376) (W := 1) (W0 rfl) (by decide) (by decide)
  obtain ⟨b108, T108, h108, kk108, d108, q108, X108, e108, E108, hS108, hk108, hZ108, hown108, A108, Fc108, Fv108, V108, ltb108, ltd108, Ch108, -, hne108, st108⟩ := ldcCH X107 hx hZ101 hown101 (wi hw 237 rfl) (own_wS hw) e107 hS101 (by omega) (own_EW hw) (List.mem_of_getElem? (i := 9) rfl) CC2.1 (vs := [(.int (32 : Int32)), (.int (82 : Int32)), (.int (79 : Int32)), (.int (87 : Int32)), (.int (83 : Int32)), (.int (32 : Int32)), (.int (79 : Int32)), (.int (78 : Int32)), (.int (76 : Int32)), (.int (89 : Int32))]) (z := (iN 10)) (own_txt9) (by decide) (by rfl) (g := (mkF mM 386 (Lc_lwF1_3 s0 s1 s2 s3 s4 s5 s6 s7 s8 b r s11 fl s13 z14 p) [(.int (iN ((p + 13) + wd b))), (.ref r)])) rfl (hb hj at_386) (n := 40) (by decide) (by decide) (segle (k := 12) hcl (by decide)) (segle (k := 156) hsl (by decide))
  have Sz3 : h106.size ≤ h108.size := E108.1
  have CC3 : CHr Z consts_1 vB h0 T108.vm h108 := CC2.trans Ch108
  have c110_A_r : StrA Z h106 r rb rk rz rs := StrA.keep Kp106 c103_A_r nin0 nin0
  have c111_A_r : StrA Z h108 r rb rk rz rs := StrA.ext E108 c110_A_r
  have c112_A_b108 : StrA Z h108 b108 d108 q108 10 [(.int (32 : Int32)), (.int (82 : Int32)), (.int (79 : Int32)), (.int (87 : Int32)), (.int (83 : Int32)), (.int (32 : Int32)), (.int (79 : Int32)), (.int (78 : Int32)), (.int (76 : Int32)), (.int (89 : Int32))] := ⟨A108, Fv108, Fc108, V108⟩
  have c113_OL : Old Z n0 h106 := c105_OL.keep Kp106 all0
  have c114_OL : Old Z n0 h108 := c113_OL.ext E108
  obtain ⟨T109, L109, X109, e109, N109, st109⟩ := cw_lit_S5043 l Z a0 hw r rb rk rz rs ((p + 13) + wd b) b108 d108 q108 10 _ fo cs da ea h108 n0 (by omega) hx hZ108 hown108 X108 e108 N107 (segle (k := 14) hcl (by decide)) (segle (k := 200) hsl (by decide)) c111_A_r c112_A_b108 SX c114_OL (⟨by decide, by have := wd_le b; omega⟩) (h3) (g := (mkF mM 388 (Lc_lwF1_3 s0 s1 s2 s3 s4 s5 s6 s7 s8 b r s11 fl s13 z14 p) [(.ref b108), (.int (iN ((p + 13) + wd b))), (.ref r)])) rfl hml.symm rfl (hb hj at_388) (W := 0) (W0 rfl) (by decide) (by decide)
  have K115 : Keep h0 h101 [] := (Keep.refl h0 []).ext E101
  have K116 : Keep h0 h106 [] := K115.trans Kp106 all0
  have K117 : Keep h0 h108 [] := K116.ext E108
  refine ⟨T109, h108, _, T108.vm, _, X109, e109, hS108, (by omega), hZ108, hown108, CC3, N109, K117, fun t' hk' => ?_⟩
  show SS pP eE bS s₁ (mkF mM 336 (Lc_lwF1_0 s0 s1 s2 s3 s4 s5 s6 s7 s8 b r s11 fl s13 z14 p) []) _
  refine XS.iload X0.here hx rfl (hb hj at_336) rfl ?_
  refine XS.ifNo X0.here hx rfl (hb hj at_338) rfl ((if0 _ _).trans (feq hf).1) ?_
  refine XS.aload X0.here hx rfl (hb hj at_341) rfl rfl ?_
  refine XS.iload X0.here hx rfl (hb hj at_343) rfl ?_
  refine st101 _ ?_
  refine st102 _ ?_
  refine XS.ifYes X102.here hx rfl (pc0 := 350) (pc' := 355) rfl (hb hj at_350) rfl ((if0 _ _).trans (feq (by decide : ¬ ((1 : Int32) = (0 : Int32)))).2) (by decide) (by decide) ?_
  refine XS.iinc X102.here hx rfl (hb hj at_355) rfl (l' := (Lc_lwF1_1 s0 s1 s2 s3 s4 s5 s6 s7 s8 b r s11 fl s13 z14 p)) rfl ?_
  show SS pP eE bS T102 (mkF mM 358 #[s0, s1, s2, s3, s4, s5, s6, s7, s8, .val (.int b), .val (.ref r), s11, .val (.int fl), s13, .val (.int z14), .val (.int ((iN p) + (13 : Int32)))] []) _
  rw [show ((iN p) + (13 : Int32)) = (iN (p + 13)) from iN_add p 13]
  refine XS.aload X102.here hx rfl (hb hj at_358) rfl rfl ?_
  refine XS.iload X102.here hx rfl (hb hj at_360) rfl ?_
  refine XS.iload X102.here hx rfl (hb hj at_362) rfl ?_
  refine st106 _ ?_
  refine XS.ifYes X106.here hx rfl (pc0 := 367) (pc' := 372) rfl (hb hj at_367) rfl ((if0 _ _).trans (feq (by decide : ¬ ((1 : Int32) = (0 : Int32)))).2) (by decide) (by decide) ?_
  refine XS.iload X106.here hx rfl (hb hj at_372) rfl ?_
  refine XS.iload X106.here hx rfl (hb hj at_374) rfl ?_
  refine st107 _ ?_
  refine XS.iadd X107.here hx rfl (hb hj at_379) rfl ?_
  show SS pP eE bS T107 (mkF mM 380 (Lc_lwF1_2 s0 s1 s2 s3 s4 s5 s6 s7 s8 b r s11 fl s13 z14 p) [(.int ((iN (p + 13)) + (iN (wd b))))]) _
  rw [show ((iN (p + 13)) + (iN (wd b))) = (iN ((p + 13) + wd b)) from iN_add (p + 13) (wd b)]
  refine XS.istore X107.here hx rfl (hb hj at_380) rfl (l' := (Lc_lwF1_3 s0 s1 s2 s3 s4 s5 s6 s7 s8 b r s11 fl s13 z14 p)) rfl ?_
  refine XS.aload X107.here hx rfl (hb hj at_382) rfl rfl ?_
  refine XS.iload X107.here hx rfl (hb hj at_384) rfl ?_
  refine st108 _ ?_
  refine st109 _ ?_
  refine XS.ifYes X109.here hx rfl (pc0 := 391) (pc' := 396) rfl (hb hj at_391) rfl ((if0 _ _).trans (feq (by decide : ¬ ((1 : Int32) = (0 : Int32)))).2) (by decide) (by decide) ?_
  rw [← hp2] at hk'
  exact hk'
theorem sg_lwF (hw : HW a0 Z) (r : Addr) (rb : Addr) (rk : ClassId) (rz : Nat) (rs : List Value) (b : Int32) (fl : Int32) (z14 : Int32) (p : Nat) (p2 : Nat) (s0 : Slot) (s1 : Slot) (s2 : Slot) (s3 : Slot) (s4 : Slot) (s5 : Slot) (s6 : Slot) (s7 : Slot) (s8 : Slot) (s11 : Slot) (s13 : Slot) (fo : Value) (cs : Int32) (da : Addr) (ea : Addr) {vB : Vm} {kB : Nat} (h0 : Heap) (n0 : Nat) (hS0 : sS.Since vB kB) (hkB : kB ≤ h0.size) (hCH : CHv Z consts_1 vB h0) (G : SG l Z pP eE room_1 (sS.setVm vB) mM aS bS mS cC s₁ lc0 cl0 sl0 h0 n0 code 16 "com/example/tessera/tessera/sql/SqlTextPagedPinLaw" 14 200) (A_r : StrA Z h0 r rb rk rz rs) (SX : Sts Z cs fo da ea) (OL : Old Z n0 h0) (hbd : p + 60 < 1000000) (hor : (fl = (0 : Int32) ∧ p = p2) ∨ (¬ (fl = (0 : Int32)) ∧ ((p + 13) + wd b) = p2 ∧ LitP rz rs p [(.int (32 : Int32)), (.int (70 : Int32)), (.int (69 : Int32)), (.int (84 : Int32)), (.int (67 : Int32)), (.int (72 : Int32)), (.int (32 : Int32)), (.int (70 : Int32)), (.int (73 : Int32)), (.int (82 : Int32)), (.int (83 : Int32)), (.int (84 : Int32)), (.int (32 : Int32))] ∧ NumP rz rs (p + 13) b ∧ LitP rz rs ((p + 13) + wd b) [(.int (32 : Int32)), (.int (82 : Int32)), (.int (79 : Int32)), (.int (87 : Int32)), (.int (83 : Int32)), (.int (32 : Int32)), (.int (79 : Int32)), (.int (78 : Int32)), (.int (76 : Int32)), (.int (89 : Int32))])) :
    ∃ T' h' L' vE kE, Stand pP l eE room_1 (sS.setVm vE) mM aS bS mS cC T' L' (cl0 + 14) (sl0 + 200) ∧ T'.heap = h' ∧ sS.Since vE kE ∧ kE ≤ h'.size ∧ Z.Warmed39 (sS.setVm vE).vm ∧ (sS.setVm vE).vm.findClass "com/example/tessera/tessera/sql/SqlTextPagedPinLaw" = some mM.cls ∧ CHr Z consts_1 vB h0 vE h' ∧ Fr n0 L' ∧ Keep h0 h' [] ∧ ∀ t', SS pP eE bS T' (mkF mM 396 #[s0, s1, s2, s3, s4, s5, s6, s7, s8, .val (.int b), .val (.ref r), s11, .val (.int fl), s13, .val (.int z14), .val (.int (iN p2))] []) t' → SS pP eE bS s₁ (mkF mM 336 #[s0, s1, s2, s3, s4, s5, s6, s7, s8, .val (.int b), .val (.ref r), s11, .val (.int fl), s13, .val (.int z14), .val (.int (iN p))] []) t' := by
  rcases hor with ⟨hf, hp2⟩ | ⟨hf, hp2, h1, h2, h3⟩
  · exact sg_lwF0 l Z a0 hw r rb rk rz rs b fl z14 p p2 s0 s1 s2 s3 s4 s5 s6 s7 s8 s11 s13 fo cs da ea h0 n0 hS0 hkB hCH G A_r SX OL hbd hf hp2
  · exact sg_lwF1 l Z a0 hw r rb rk rz rs b fl z14 p p2 s0 s1 s2 s3 s4 s5 s6 s7 s8 s11 s13 fo cs da ea h0 n0 hS0 hkB hCH G A_r SX OL hbd hf hp2 h1 h2 h3
def Q_law (n0 : Nat) (v : Option Value) (L : List Loc) : Prop := v = some (.int 1) ∧ Fr n0 L
theorem pd_0 : parseMethodDescriptor "(Ljava/lang/String;II)Ljava/lang/String;" = some ⟨[(.object "java/lang/String"), .int, .int], some (.object "java/lang/String")⟩ := by decide +kernel
abbrev Lc_law_E_0 (p0 : Int32) (p1 : Int32) (p2 : Int32) (p3 : Int32) : Array Slot := #[.val (.int p0), .val (.int p1), .val (.int p2), .val (.int p3), .unset, .unset, .unset, .unset, .unset, .unset, .unset, .unset, .unset, .unset, .unset, .unset]
abbrev Lc_law_E_1 (p0 : Int32) (p1 : Int32) (p2 : Int32) (p3 : Int32) (c0 : Int32) (c1 : Int32) (n : Nat) (t_101 : Addr) : Array Slot := #[.val (.int p0), .val (.int p1), .val (.int p2), .val (.int p3), .val (.int c0), .val (.int c1), .val (.int (iN n)), .val (.ref t_101), .unset, .unset, .unset, .unset, .unset, .unset, .unset, .unset]
abbrev Lc_law_E_2 (p0 : Int32) (p1 : Int32) (p2 : Int32) (p3 : Int32) (c0 : Int32) (c1 : Int32) (n : Nat) (t_101 : Addr) : Array Slot := #[.val (.int p0), .val (.int p1), .val (.int p2), .val (.int p3), .val (.int c0), .val (.int c1), .val (.int (iN n)), .val (.ref t_101), .val (.int (0 : Int32)), .unset, .unset, .unset, .unset, .unset, .unset, .unset]
abbrev Lc_law_E_3 (p0 : Int32) (p1 : Int32) (p2 : Int32) (p3 : Int32) (c0 : Int32) (c1 : Int32) (n : Nat) (t_101 : Addr) : Array Slot := #[.val (.int p0), .val (.int p1), .val (.int p2), .val (.int p3), .val (.int c0), .val (.int c1), .val (.int (iN n)), .val (.ref t_101), .val (.int p2), .unset, .unset, .unset, .unset, .unset, .unset, .unset]
abbrev Lc_law_E_4 (p0 : Int32) (p1 : Int32) (p2 : Int32) (p3 : Int32) (c0 : Int32) (c1 : Int32) (n : Nat) (t_101 : Addr) (a : Int32) : Array Slot := #[.val (.int p0), .val (.int p1), .val (.int p2), .val (.int p3), .val (.int c0), .val (.int c1), .val (.int (iN n)), .val (.ref t_101), .val (.int a), .unset, .unset, .unset, .unset, .unset, .unset, .unset]
abbrev Lc_law_E_5 (p0 : Int32) (p1 : Int32) (p2 : Int32) (p3 : Int32) (c0 : Int32) (c1 : Int32) (n : Nat) (t_101 : Addr) (a : Int32) : Array Slot := #[.val (.int p0), .val (.int p1), .val (.int p2), .val (.int p3), .val (.int c0), .val (.int c1), .val (.int (iN n)), .val (.ref t_101), .val (.int a), .val (.int (2147483647 : Int32)), .unset, .unset, .unset, .unset, .unset, .unset]
abbrev Lc_law_E_6 (p0 : Int32) (p1 : Int32) (p2 : Int32) (p3 : Int32) (c0 : Int32) (c1 : Int32) (n : Nat) (t_101 : Addr) (a : Int32) : Array Slot := #[.val (.int p0), .val (.int p1), .val (.int p2), .val (.int p3), .val (.int c0), .val (.int c1), .val (.int (iN n)), .val (.ref t_101), .val (.int a), .val (.int p3), .unset, .unset, .unset, .unset, .unset, .unset]
abbrev Lc_law_E_7 (p0 : Int32) (p1 : Int32) (p2 : Int32) (p3 : Int32) (c0 : Int32) (c1 : Int32) (n : Nat) (t_101 : Addr) (a : Int32) (b : Int32) : Array Slot := #[.val (.int p0), .val (.int p1), .val (.int p2), .val (.int p3), .val (.int c0), .val (.int c1), .val (.int (iN n)), .val (.ref t_101), .val (.int a), .val (.int b), .unset, .unset, .unset, .unset, .unset, .unset]
abbrev Lc_law_E_8 (p0 : Int32) (p1 : Int32) (p2 : Int32) (p3 : Int32) (c0 : Int32) (c1 : Int32) (n : Nat) (t_101 : Addr) (a : Int32) (b : Int32) : Array Slot := #[.val (.int p0), .val (.int p1), .val (.int p2), .val (.int p3), .val (.int c0), .val (.int c1), .val (.int (iN n)), .val (.ref t_101), .val (.int a), .val (.int b), .val (.ref t_101), .unset, .unset, .unset, .unset, .unset]
theorem ef_law_E (mM : MethodId) (p0 : Int32) (p1 : Int32) (p2 : Int32) (p3 : Int32) (c0 : Int32) (c1 : Int32) (n : Nat) (a : Int32) (b : Int32) (ho : Int32) (hf : Int32) (da : Addr) (dk : ClassId) (ea : Addr) (ek : ClassId) (fo : Value) (cs : Int32) : entryFrame mM #[(.int p0), (.int p1), (.int p2), (.int p3)] maxLocals = mkF mM 0 #[.val (.int p0), .val (.int p1), .val (.int p2), .val (.int p3), .unset, .unset, .unset, .unset, .unset, .unset, .unset, .unset, .unset, .unset, .unset, .unset] [] := by
  first | (simp [entryFrame, mkF, argsToLocals, Value.category, maxLocals]; done) | rfl
theorem rm_law_E (hw : HW a0 Z) (ws : List Jvm.Cond) (p0 : Int32) (p1 : Int32) (p2 : Int32) (p3 : Int32) (c0 : Int32) (c1 : Int32) (n : Nat) (a : Int32) (b : Int32) (ho : Int32) (hf : Int32) (da : Addr) (dk : ClassId) (ea : Addr) (ek : ClassId) (fo : Value) (cs : Int32) (h0 : Heap) (n0 : Nat) (Z0 : n0 ≤ h0.size) (ee0 : ((p0 &&& (255 : Int32)).toUInt32.toUInt16.toUInt32.toInt32) = c0) (ee1 : ((((p0.toUInt32 >>> ((8 : Int32) &&& 31).toUInt32).toInt32) &&& (255 : Int32)).toUInt32.toUInt16.toUInt32.toInt32) = c1) (f0 : (c0.toUInt32.toUInt16.toUInt32.toInt32) = c0) (f1 : (c1.toUInt32.toUInt16.toUInt32.toInt32) = c1) (q0 : ¬ ((255 : Int32) < c0)) (q1 : ¬ ((255 : Int32) < c1)) (hlen : ((((p0.toUInt32 >>> ((16 : Int32) &&& 31).toUInt32).toInt32) &&& (32767 : Int32)) % (3 : Int32)) = (iN n)) (hn : n = 0 ∨ n = 1 ∨ n = 2) (hfi : (¬ ((p1 &&& (1 : Int32)) = (0 : Int32)) ∧ (0 : Int32) = a) ∨ ((p1 &&& (1 : Int32)) = (0 : Int32) ∧ p2 = a)) (hma : (¬ ((p1 &&& (2 : Int32)) = (0 : Int32)) ∧ (2147483647 : Int32) = b) ∨ ((p1 &&& (2 : Int32)) = (0 : Int32) ∧ p3 = b)) (V_da : Arv Z h0 da dk .byte (100 : Int32) onesL (.int (0 : Int32))) (V_ea : Arv Z h0 ea ek .byte (100 : Int32) tensL (.int (0 : Int32))) (hda : @LT.lt Nat _ da n0) (hea : @LT.lt Nat _ ea n0) (OL : Old Z n0 h0) (SX : Sts Z cs fo da ea) (ha : a = (0 : Int32)) (hb2 : b = (2147483647 : Int32)) :
    MetFree l x (head1 (Jvm.Cond.code x code maxLocals ret :: ws) room_1) (fun xa xU => xa = #[(.int p0), (.int p1), (.int p2), (.int p3)] ∧ Z.Warmed39 xU.vm ∧ xU.heap = h0 ∧ CHv Z consts_1 xU.vm h0 ∧ ∀ x ∈ ([] : List Addr), Safe Z consts_1 xU.vm h0 x) (fun _ _ _ _ _ => True) (fun _ xU xo xU' => ∃ xv xL, xo = .returned xv ∧ Q_law n0 xv xL ∧ CHr Z consts_1 xU.vm xU.heap xU'.vm xU'.heap ∧ ReturnedEndW xU xo xU' xL room_1.cells room_1.slots) := by
  refine MetFree.of_bodySF (plainFor_of_name pn_com_example_tessera_tessera_sql_SqlTextPagedPinLaw) hisR ?_
  intro pP eE sS mM aS bS mS cC s₁ Bd hml0 hP hK
  obtain ⟨rfl, hZ, hh, hCH, hSf⟩ := hP
  have hx := Bd.exec
  have hj := Bd.bytes
  have hml : cC.maxLocals = 16 := hml0
  have hown : sS.vm.findClass "com/example/tessera/tessera/sql/SqlTextPagedPinLaw" = some mM.cls := findClass_of_methodNamed Bd.named
  have X0 : Stand pP l eE room_1 (sS.setVm sS.vm) mM _ bS mS cC s₁ [] 0 0 := Stand.of_body Bd
  have e0 : s₁.heap = h0 := by rw [← hh, Bd.state]; rfl
  have N0 := Fr.nil n0
  have hZ0 : Z.Warmed39 (sS.setVm sS.vm).vm := hZ
  have hown0 : (sS.setVm sS.vm).vm.findClass "com/example/tessera/tessera/sql/SqlTextPagedPinLaw" = some mM.cls := hown
  have hS0 : sS.Since sS.vm 0 := (State.WarmedH.refl sS).since 0
  have CC0 : CHr Z consts_1 sS.vm h0 sS.vm h0 := CHr.refl hCH
  obtain ⟨t_101, tb_101, tk_101, T101, h101, L101, vm101, kk101, X101, e101, hS101, hk101, hZ101, hown101, Ch101, N101, Kp101, p101_A_t, st101⟩ := sg_sel l Z a0 hw p0 p1 p2 p3 c0 c1 n cs fo da ea h0 n0 hS0 (by omega) CC0.1 ⟨by omega, hx, hj, hml, hZ0, hown0, X0, e0, N0, by decide, by decide⟩ ee0 ee1 f0 f1 q0 q1 hlen hn OL SX
  have Sz1 : h0.size ≤ h101.size := Kp101.1
  have CC1 : CHr Z consts_1 sS.vm h0 vm101 h101 := CC0.trans Ch101
  obtain ⟨T102, L102, X102, e102, N102, st102⟩ : ∃ T' L', Stand pP l eE room_1 (sS.setVm vm101) mM #[(.int p0), (.int p1), (.int p2), (.int p3)] bS mS cC T' L' 3 8 ∧ T'.heap = h101 ∧ Fr n0 L' ∧ ∀ t', SS pP eE bS T' (mkF mM 94 (Lc_law_E_4 p0 p1 p2 p3 c0 c1 n t_101 a) []) t' → SS pP eE bS T101 (mkF mM 81 (Lc_law_E_1 p0 p1 p2 p3 c0 c1 n t_101) []) t' := by
    rcases hfi with ⟨hbd, hh⟩ | ⟨hbd, hh⟩
    · refine ⟨T101, _, X101, e101, N101, fun t' hk' => ?_⟩
      show SS pP eE bS T101 (mkF mM 81 (Lc_law_E_1 p0 p1 p2 p3 c0 c1 n t_101) []) _
      refine XS.iloadN X101.here hx rfl (hb hj at_81) rfl ?_
      refine XS.iconst X101.here hx rfl (hb hj at_82) ?_
      refine XS.iand X101.here hx rfl (hb hj at_83) rfl ?_
      refine XS.ifNo X101.here hx rfl (hb hj at_84) rfl ((if0 _ _).trans (feq (hbd : ¬ ((p1 &&& (1 : Int32)) = (0 : Int32)))).1) ?_
      refine XS.iconst X101.here hx rfl (hb hj at_87) ?_
      refine XS.goto X101.here hx rfl (pc0 := 88) (pc' := 92) rfl (hb hj at_88) (by decide) (by decide) ?_
      refine XS.istore X101.here hx rfl (hb hj at_92) rfl (l' := (Lc_law_E_2 p0 p1 p2 p3 c0 c1 n t_101)) rfl ?_
      rw [← hh] at hk'
      exact hk'
    · refine ⟨T101, _, X101, e101, N101, fun t' hk' => ?_⟩
      show SS pP eE bS T101 (mkF mM 81 (Lc_law_E_1 p0 p1 p2 p3 c0 c1 n t_101) []) _
      refine XS.iloadN X101.here hx rfl (hb hj at_81) rfl ?_
      refine XS.iconst X101.here hx rfl (hb hj at_82) ?_
      refine XS.iand X101.here hx rfl (hb hj at_83) rfl ?_
      refine XS.ifYes X101.here hx rfl (pc0 := 84) (pc' := 91) rfl (hb hj at_84) rfl ((if0 _ _).trans (teq (hbd : (p1 &&& (1 : Int32)) = (0 : Int32))).1) (by decide) (by decide) ?_
      refine XS.iloadN X101.here hx rfl (hb hj at_91) rfl ?_
      refine XS.istore X101.here hx rfl (hb hj at_92) rfl (l' := (Lc_law_E_3 p0 p1 p2 p3 c0 c1 n t_101)) rfl ?_
      rw [← hh] at hk'
      exact hk'
  obtain ⟨T103, L103, X103, e103, N103, st103⟩ : ∃ T' L', Stand pP l eE room_1 (sS.setVm vm101) mM #[(.int p0), (.int p1), (.int p2), (.int p3)] bS mS cC T' L' 3 8 ∧ T'.heap = h101 ∧ Fr n0 L' ∧ ∀ t', SS pP eE bS T' (mkF mM 108 (Lc_law_E_7 p0 p1 p2 p3 c0 c1 n t_101 a b) []) t' → SS pP eE bS T102 (mkF mM 94 (Lc_law_E_4 p0 p1 p2 p3 c0 c1 n t_101 a) []) t' := by
    rcases hma with ⟨hbd, hh⟩ | ⟨hbd, hh⟩
    · refine ⟨T102, _, X102, e102, N102, fun t' hk' => ?_⟩
      show SS pP eE bS T102 (mkF mM 94 (Lc_law_E_4 p0 p1 p2 p3 c0 c1 n t_101 a) []) _
      refine XS.iloadN X102.here hx rfl (hb hj at_94) rfl ?_
      refine XS.iconst X102.here hx rfl (hb hj at_95) ?_
      refine XS.iand X102.here hx rfl (hb hj at_96) rfl ?_
      refine XS.ifNo X102.here hx rfl (hb hj at_97) rfl ((if0 _ _).trans (feq (hbd : ¬ ((p1 &&& (2 : Int32)) = (0 : Int32)))).1) ?_
      refine X102.ldcInt hx hown101 (mvT hZ101 (wi hw 8 rfl)) (g := (mkF mM 100 (Lc_law_E_4 p0 p1 p2 p3 c0 c1 n t_101 a) [])) rfl (hb hj at_100) _ ?_
      refine XS.goto X102.here hx rfl (pc0 := 102) (pc' := 106) rfl (hb hj at_102) (by decide) (by decide) ?_
      refine XS.istore X102.here hx rfl (hb hj at_106) rfl (l' := (Lc_law_E_5 p0 p1 p2 p3 c0 c1 n t_101 a)) rfl ?_
      rw [← hh] at hk'
      exact hk'
    · refine ⟨T102, _, X102, e102, N102, fun t' hk' => ?_⟩
      show SS pP eE bS T102 (mkF mM 94 (Lc_law_E_4 p0 p1 p2 p3 c0 c1 n t_101 a) []) _
      refine XS.iloadN X102.here hx rfl (hb hj at_94) rfl ?_
      refine XS.iconst X102.here hx rfl (hb hj at_95) ?_
      refine XS.iand X102.here hx rfl (hb hj at_96) rfl ?_
      refine XS.ifYes X102.here hx rfl (pc0 := 97) (pc' := 105) rfl (hb hj at_97) rfl ((if0 _ _).trans (teq (hbd : (p1 &&& (2 : Int32)) = (0 : Int32))).1) (by decide) (by decide) ?_
      refine XS.iloadN X102.here hx rfl (hb hj at_105) rfl ?_
      refine XS.istore X102.here hx rfl (hb hj at_106) rfl (l' := (Lc_law_E_6 p0 p1 p2 p3 c0 c1 n t_101 a)) rfl ?_
      rw [← hh] at hk'
      exact hk'
  obtain ⟨_, _, ⟨T104, L104, k104, n104⟩, -, X104, ⟨Lc104, hQ104, l104, y104, z104⟩, st104⟩ := Jvm.LawKit.callS X103 hx (y := y43_) hown101 (mvT hZ101 (wi hw 9 rfl)) (mvT hZ101 (wi hw 10 rfl)) (mvT hZ101 (wi hw 11 rfl)) (mvT hZ101 (wi hw 12 rfl)) (by decide) (backOf (W := 0) (rm_pgE l Z a0 hw [] t_101 a b h101 n0 (by omega) ha (hb2)) hZ101 (wi hw 12 rfl) (wi hw 11 rfl) (by decide) (by decide)) (g := (mkF mM 114 (Lc_law_E_7 p0 p1 p2 p3 c0 c1 n t_101 a b) [(.int b), (.int a), (.ref t_101)])) rfl hml.symm (argsL := [(.ref t_101), (.int a), (.int b)]) (rest := []) (lenOf pd_0 rfl) rfl (W0 rfl) (hb hj at_114) (fun _ _ => ⟨rfl, e103, ble rfl, ble rfl⟩)
  dsimp only [Pt.U, Pt.locs, Pt.cells, Pt.slots] at X104 l104 y104 z104 st104 hQ104
  subst y104 z104
  obtain ⟨h104, e104⟩ : ∃ z, T104.heap = z := ⟨_, rfl⟩
  rw [e104] at hQ104
  obtain ⟨rfl, N104q, eq104⟩ := hQ104
  rw [eq104] at e104
  have N104 : Fr n0 L104 := by rw [l104]; exact Fr.app N103 N104q
  obtain ⟨fs, hr, hrun, hended, hE⟩ := Stand.leaveW (s := sS) X104 hS101 (by rw [e104]; omega) (v := some (.int (1 : Int32))) (fun h => by rw [Bd.returns] at h; cases h)
  refine ⟨_, _, castTop (ef_law_E mM p0 p1 p2 p3 c0 c1 n a b ho hf da dk ea ek fo cs) ?_, hrun, hended, _, _, rfl, ?_, ?_, hE.1, hE.2.1, hE.2.2.1, hE.2.2.2.mono (by decide) (by decide)⟩
  · show SS pP eE bS s₁ (mkF mM 0 (Lc_law_E_0 p0 p1 p2 p3) []) _
    refine st101 _ ?_
    refine st102 _ ?_
    show SS pP eE bS T102 (mkF mM 94 (Lc_law_E_4 p0 p1 p2 p3 c0 c1 n t_101 a) []) _
    refine st103 _ ?_
    show SS pP eE bS T103 (mkF mM 108 (Lc_law_E_7 p0 p1 p2 p3 c0 c1 n t_101 a b) []) _
    refine XS.aload X103.here hx rfl (hb hj at_108) rfl rfl ?_
    refine XS.iload X103.here hx rfl (hb hj at_110) rfl ?_
    refine XS.iload X103.here hx rfl (hb hj at_112) rfl ?_
    refine st104 _ ?_
    refine XS.astore X104.here hx rfl (hb hj at_117) rfl rfl (l' := (Lc_law_E_8 p0 p1 p2 p3 c0 c1 n t_101 a b)) rfl ?_
    refine XS.iload X104.here hx rfl (hb hj at_119) rfl ?_
    refine XS.ifNo X104.here hx rfl (hb hj at_121) rfl ((if0 _ _).trans (teq (ha : a = (0 : Int32))).2) ?_
    refine XS.iload X104.here hx rfl (hb hj at_124) rfl ?_
    refine X104.ldcInt hx hown101 (mvT hZ101 (wi hw 8 rfl)) (g := (mkF mM 126 (Lc_law_E_8 p0 p1 p2 p3 c0 c1 n t_101 a b) [(.int b)])) rfl (hb hj at_126) _ ?_
    refine XS.icmpNo X104.here hx rfl (hb hj at_128) rfl (teq (hb2 : b = (2147483647 : Int32))).2 ?_
    refine XS.aload X104.here hx rfl (hb hj at_131) rfl rfl ?_
    refine XS.aload X104.here hx rfl (hb hj at_133) rfl rfl ?_
    refine Jvm.RoadKit.acmp (g := (mkF mM 135 (Lc_law_E_8 p0 p1 p2 p3 c0 c1 n t_101 a b) [(.ref t_101), (.ref t_101)])) X104 hx rfl rfl rfl (pc0 := 135) (pc' := 138) (same := true) rfl (hb hj at_135) rfl (decide_eq_true rfl) (by decide) (by decide) ?_
    refine XS.iconst X104.here hx rfl (hb hj at_138) ?_
    refine XS.goto X104.here hx rfl (pc0 := 139) (pc' := 143) rfl (hb hj at_139) (by decide) (by decide) ?_
    exact retN X104 hx (t := .boolean) Bd.returns (by simp) (hb hj at_143) hr
  · exact ⟨rfl, N104⟩
  · show CHr Z consts_1 sS.vm sS.heap T104.vm T104.heap
    rw [hh, e104]
    exact CC1.trans (CHv.at X104 hZ101 (own_EW hw) CC1.1)
abbrev Lc_law_M_0 (p0 : Int32) (p1 : Int32) (p2 : Int32) (p3 : Int32) : Array Slot := #[.val (.int p0), .val (.int p1), .val (.int p2), .val (.int p3), .unset, .unset, .unset, .unset, .unset, .unset, .unset, .unset, .unset, .unset, .unset, .unset]
abbrev Lc_law_M_1 (p0 : Int32) (p1 : Int32) (p2 : Int32) (p3 : Int32) (c0 : Int32) (c1 : Int32) (n : Nat) (t_101 : Addr) : Array Slot := #[.val (.int p0), .val (.int p1), .val (.int p2), .val (.int p3), .val (.int c0), .val (.int c1), .val (.int (iN n)), .val (.ref t_101), .unset, .unset, .unset, .unset, .unset, .unset, .unset, .unset]
abbrev Lc_law_M_2 (p0 : Int32) (p1 : Int32) (p2 : Int32) (p3 : Int32) (c0 : Int32) (c1 : Int32) (n : Nat) (t_101 : Addr) : Array Slot := #[.val (.int p0), .val (.int p1), .val (.int p2), .val (.int p3), .val (.int c0), .val (.int c1), .val (.int (iN n)), .val (.ref t_101), .val (.int (0 : Int32)), .unset, .unset, .unset, .unset, .unset, .unset, .unset]
abbrev Lc_law_M_3 (p0 : Int32) (p1 : Int32) (p2 : Int32) (p3 : Int32) (c0 : Int32) (c1 : Int32) (n : Nat) (t_101 : Addr) : Array Slot := #[.val (.int p0), .val (.int p1), .val (.int p2), .val (.int p3), .val (.int c0), .val (.int c1), .val (.int (iN n)), .val (.ref t_101), .val (.int p2), .unset, .unset, .unset, .unset, .unset, .unset, .unset]
abbrev Lc_law_M_4 (p0 : Int32) (p1 : Int32) (p2 : Int32) (p3 : Int32) (c0 : Int32) (c1 : Int32) (n : Nat) (t_101 : Addr) (a : Int32) : Array Slot := #[.val (.int p0), .val (.int p1), .val (.int p2), .val (.int p3), .val (.int c0), .val (.int c1), .val (.int (iN n)), .val (.ref t_101), .val (.int a), .unset, .unset, .unset, .unset, .unset, .unset, .unset]
abbrev Lc_law_M_5 (p0 : Int32) (p1 : Int32) (p2 : Int32) (p3 : Int32) (c0 : Int32) (c1 : Int32) (n : Nat) (t_101 : Addr) (a : Int32) : Array Slot := #[.val (.int p0), .val (.int p1), .val (.int p2), .val (.int p3), .val (.int c0), .val (.int c1), .val (.int (iN n)), .val (.ref t_101), .val (.int a), .val (.int (2147483647 : Int32)), .unset, .unset, .unset, .unset, .unset, .unset]
abbrev Lc_law_M_6 (p0 : Int32) (p1 : Int32) (p2 : Int32) (p3 : Int32) (c0 : Int32) (c1 : Int32) (n : Nat) (t_101 : Addr) (a : Int32) : Array Slot := #[.val (.int p0), .val (.int p1), .val (.int p2), .val (.int p3), .val (.int c0), .val (.int c1), .val (.int (iN n)), .val (.ref t_101), .val (.int a), .val (.int p3), .unset, .unset, .unset, .unset, .unset, .unset]
abbrev Lc_law_M_7 (p0 : Int32) (p1 : Int32) (p2 : Int32) (p3 : Int32) (c0 : Int32) (c1 : Int32) (n : Nat) (t_101 : Addr) (a : Int32) (b : Int32) : Array Slot := #[.val (.int p0), .val (.int p1), .val (.int p2), .val (.int p3), .val (.int c0), .val (.int c1), .val (.int (iN n)), .val (.ref t_101), .val (.int a), .val (.int b), .unset, .unset, .unset, .unset, .unset, .unset]
abbrev Lc_law_M_8 (p0 : Int32) (p1 : Int32) (p2 : Int32) (p3 : Int32) (c0 : Int32) (c1 : Int32) (n : Nat) (t_101 : Addr) (a : Int32) (b : Int32) (r_104 : Addr) : Array Slot := #[.val (.int p0), .val (.int p1), .val (.int p2), .val (.int p3), .val (.int c0), .val (.int c1), .val (.int (iN n)), .val (.ref t_101), .val (.int a), .val (.int b), .val (.ref r_104), .unset, .unset, .unset, .unset, .unset]
abbrev Lc_law_M_9 (p0 : Int32) (p1 : Int32) (p2 : Int32) (p3 : Int32) (c0 : Int32) (c1 : Int32) (n : Nat) (t_101 : Addr) (a : Int32) (b : Int32) (r_104 : Addr) : Array Slot := #[.val (.int p0), .val (.int p1), .val (.int p2), .val (.int p3), .val (.int c0), .val (.int c1), .val (.int (iN n)), .val (.ref t_101), .val (.int a), .val (.int b), .val (.ref r_104), .val (.int (1 : Int32)), .unset, .unset, .unset, .unset]
abbrev Lc_law_M_10 (p0 : Int32) (p1 : Int32) (p2 : Int32) (p3 : Int32) (c0 : Int32) (c1 : Int32) (n : Nat) (t_101 : Addr) (a : Int32) (b : Int32) (r_104 : Addr) : Array Slot := #[.val (.int p0), .val (.int p1), .val (.int p2), .val (.int p3), .val (.int c0), .val (.int c1), .val (.int (iN n)), .val (.ref t_101), .val (.int a), .val (.int b), .val (.ref r_104), .val (.int (0 : Int32)), .unset, .unset, .unset, .unset]
abbrev Lc_law_M_11 (p0 : Int32) (p1 : Int32) (p2 : Int32) (p3 : Int32) (c0 : Int32) (c1 : Int32) (n : Nat) (t_101 : Addr) (a : Int32) (b : Int32) (r_104 : Addr) (ho : Int32) : Array Slot := #[.val (.int p0), .val (.int p1), .val (.int p2), .val (.int p3), .val (.int c0), .val (.int c1), .val (.int (iN n)), .val (.ref t_101), .val (.int a), .val (.int b), .val (.ref r_104), .val (.int ho), .unset, .unset, .unset, .unset]
abbrev Lc_law_M_12 (p0 : Int32) (p1 : Int32) (p2 : Int32) (p3 : Int32) (c0 : Int32) (c1 : Int32) (n : Nat) (t_101 : Addr) (a : Int32) (b : Int32) (r_104 : Addr) (ho : Int32) : Array Slot := #[.val (.int p0), .val (.int p1), .val (.int p2), .val (.int p3), .val (.int c0), .val (.int c1), .val (.int (iN n)), .val (.ref t_101), .val (.int a), .val (.int b), .val (.ref r_104), .val (.int ho), .val (.int (1 : Int32)), .unset, .unset, .unset]
abbrev Lc_law_M_13 (p0 : Int32) (p1 : Int32) (p2 : Int32) (p3 : Int32) (c0 : Int32) (c1 : Int32) (n : Nat) (t_101 : Addr) (a : Int32) (b : Int32) (r_104 : Addr) (ho : Int32) : Array Slot := #[.val (.int p0), .val (.int p1), .val (.int p2), .val (.int p3), .val (.int c0), .val (.int c1), .val (.int (iN n)), .val (.ref t_101), .val (.int a), .val (.int b), .val (.ref r_104), .val (.int ho), .val (.int (0 : Int32)), .unset, .unset, .unset]
abbrev Lc_law_M_14 (p0 : Int32) (p1 : Int32) (p2 : Int32) (p3 : Int32) (c0 : Int32) (c1 : Int32) (n : Nat) (t_101 : Addr) (a : Int32) (b : Int32) (r_104 : Addr) (ho : Int32) (hf : Int32) : Array Slot := #[.val (.int p0), .val (.int p1), .val (.int p2), .val (.int p3), .val (.int c0), .val (.int c1), .val (.int (iN n)), .val (.ref t_101), .val (.int a), .val (.int b), .val (.ref r_104), .val (.int ho), .val (.int hf), .unset, .unset, .unset]
abbrev Lc_law_M_15 (p0 : Int32) (p1 : Int32) (p2 : Int32) (p3 : Int32) (c0 : Int32) (c1 : Int32) (n : Nat) (t_101 : Addr) (a : Int32) (b : Int32) (r_104 : Addr) (ho : Int32) (hf : Int32) : Array Slot := #[.val (.int p0), .val (.int p1), .val (.int p2), .val (.int p3), .val (.int c0), .val (.int c1), .val (.int (iN n)), .val (.ref t_101), .val (.int a), .val (.int b), .val (.ref r_104), .val (.int ho), .val (.int hf), .val (.int (iN ((8 + wd a) + 5))), .unset, .unset]
abbrev Lc_law_M_16 (p0 : Int32) (p1 : Int32) (p2 : Int32) (p3 : Int32) (c0 : Int32) (c1 : Int32) (n : Nat) (t_101 : Addr) (a : Int32) (b : Int32) (r_104 : Addr) (ho : Int32) (hf : Int32) : Array Slot := #[.val (.int p0), .val (.int p1), .val (.int p2), .val (.int p3), .val (.int c0), .val (.int c1), .val (.int (iN n)), .val (.ref t_101), .val (.int a), .val (.int b), .val (.ref r_104), .val (.int ho), .val (.int hf), .val (.int (0 : Int32)), .unset, .unset]
abbrev Lc_law_M_17 (p0 : Int32) (p1 : Int32) (p2 : Int32) (p3 : Int32) (c0 : Int32) (c1 : Int32) (n : Nat) (t_101 : Addr) (a : Int32) (b : Int32) (r_104 : Addr) (ho : Int32) (hf : Int32) : Array Slot := #[.val (.int p0), .val (.int p1), .val (.int p2), .val (.int p3), .val (.int c0), .val (.int c1), .val (.int (iN n)), .val (.ref t_101), .val (.int a), .val (.int b), .val (.ref r_104), .val (.int ho), .val (.int hf), .val (.int (iN (offL a).length)), .unset, .unset]
abbrev Lc_law_M_18 (p0 : Int32) (p1 : Int32) (p2 : Int32) (p3 : Int32) (c0 : Int32) (c1 : Int32) (n : Nat) (t_101 : Addr) (a : Int32) (b : Int32) (r_104 : Addr) (ho : Int32) (hf : Int32) : Array Slot := #[.val (.int p0), .val (.int p1), .val (.int p2), .val (.int p3), .val (.int c0), .val (.int c1), .val (.int (iN n)), .val (.ref t_101), .val (.int a), .val (.int b), .val (.ref r_104), .val (.int ho), .val (.int hf), .val (.int (iN (offL a).length)), .val (.int (iN ((13 + wd b) + 10))), .unset]
abbrev Lc_law_M_19 (p0 : Int32) (p1 : Int32) (p2 : Int32) (p3 : Int32) (c0 : Int32) (c1 : Int32) (n : Nat) (t_101 : Addr) (a : Int32) (b : Int32) (r_104 : Addr) (ho : Int32) (hf : Int32) : Array Slot := #[.val (.int p0), .val (.int p1), .val (.int p2), .val (.int p3), .val (.int c0), .val (.int c1), .val (.int (iN n)), .val (.ref t_101), .val (.int a), .val (.int b), .val (.ref r_104), .val (.int ho), .val (.int hf), .val (.int (iN (offL a).length)), .val (.int (0 : Int32)), .unset]
abbrev Lc_law_M_20 (p0 : Int32) (p1 : Int32) (p2 : Int32) (p3 : Int32) (c0 : Int32) (c1 : Int32) (n : Nat) (t_101 : Addr) (a : Int32) (b : Int32) (r_104 : Addr) (ho : Int32) (hf : Int32) : Array Slot := #[.val (.int p0), .val (.int p1), .val (.int p2), .val (.int p3), .val (.int c0), .val (.int c1), .val (.int (iN n)), .val (.ref t_101), .val (.int a), .val (.int b), .val (.ref r_104), .val (.int ho), .val (.int hf), .val (.int (iN (offL a).length)), .val (.int (iN (fetL b).length)), .unset]
abbrev Lc_law_M_21 (p0 : Int32) (p1 : Int32) (p2 : Int32) (p3 : Int32) (c0 : Int32) (c1 : Int32) (n : Nat) (t_101 : Addr) (a : Int32) (b : Int32) (r_104 : Addr) (ho : Int32) (hf : Int32) : Array Slot := #[.val (.int p0), .val (.int p1), .val (.int p2), .val (.int p3), .val (.int c0), .val (.int c1), .val (.int (iN n)), .val (.ref t_101), .val (.int a), .val (.int b), .val (.ref r_104), .val (.int ho), .val (.int hf), .val (.int (iN (offL a).length)), .val (.int (iN (fetL b).length)), .val (.int (iN n))]
theorem ef_law_M (mM : MethodId) (p0 : Int32) (p1 : Int32) (p2 : Int32) (p3 : Int32) (c0 : Int32) (c1 : Int32) (n : Nat) (a : Int32) (b : Int32) (ho : Int32) (hf : Int32) (da : Addr) (dk : ClassId) (ea : Addr) (ek : ClassId) (fo : Value) (cs : Int32) : entryFrame mM #[(.int p0), (.int p1), (.int p2), (.int p3)] maxLocals = mkF mM 0 #[.val (.int p0), .val (.int p1), .val (.int p2), .val (.int p3), .unset, .unset, .unset, .unset, .unset, .unset, .unset, .unset, .unset, .unset, .unset, .unset] [] := by
  first | (simp [entryFrame, mkF, argsToLocals, Value.category, maxLocals]; done) | rfl
theorem rm_law_M (hw : HW a0 Z) (ws : List Jvm.Cond) (p0 : Int32) (p1 : Int32) (p2 : Int32) (p3 : Int32) (c0 : Int32) (c1 : Int32) (n : Nat) (a : Int32) (b : Int32) (ho : Int32) (hf : Int32) (da : Addr) (dk : ClassId) (ea : Addr) (ek : ClassId) (fo : Value) (cs : Int32) (h0 : Heap) (n0 : Nat) (Z0 : n0 ≤ h0.size) (ee0 : ((p0 &&& (255 : Int32)).toUInt32.toUInt16.toUInt32.toInt32) = c0) (ee1 : ((((p0.toUInt32 >>> ((8 : Int32) &&& 31).toUInt32).toInt32) &&& (255 : Int32)).toUInt32.toUInt16.toUInt32.toInt32) = c1) (f0 : (c0.toUInt32.toUInt16.toUInt32.toInt32) = c0) (f1 : (c1.toUInt32.toUInt16.toUInt32.toInt32) = c1) (q0 : ¬ ((255 : Int32) < c0)) (q1 : ¬ ((255 : Int32) < c1)) (hlen : ((((p0.toUInt32 >>> ((16 : Int32) &&& 31).toUInt32).toInt32) &&& (32767 : Int32)) % (3 : Int32)) = (iN n)) (hn : n = 0 ∨ n = 1 ∨ n = 2) (hfi : (¬ ((p1 &&& (1 : Int32)) = (0 : Int32)) ∧ (0 : Int32) = a) ∨ ((p1 &&& (1 : Int32)) = (0 : Int32) ∧ p2 = a)) (hma : (¬ ((p1 &&& (2 : Int32)) = (0 : Int32)) ∧ (2147483647 : Int32) = b) ∨ ((p1 &&& (2 : Int32)) = (0 : Int32) ∧ p3 = b)) (V_da : Arv Z h0 da dk .byte (100 : Int32) onesL (.int (0 : Int32))) (V_ea : Arv Z h0 ea ek .byte (100 : Int32) tensL (.int (0 : Int32))) (hda : @LT.lt Nat _ da n0) (hea : @LT.lt Nat _ ea n0) (OL : Old Z n0 h0) (SX : Sts Z cs fo da ea) (hnb : ¬ (a = (0 : Int32) ∧ b = (2147483647 : Int32))) (hho : (¬ (a = (0 : Int32)) ∧ (1 : Int32) = ho) ∨ (a = (0 : Int32) ∧ (0 : Int32) = ho)) (hhf : (¬ (b = (2147483647 : Int32)) ∧ (1 : Int32) = hf) ∨ (b = (2147483647 : Int32) ∧ (0 : Int32) = hf)) :
    MetFree l x (head1 (Jvm.Cond.code x code maxLocals ret :: ws) room_1) (fun xa xU => xa = #[(.int p0), (.int p1), (.int p2), (.int p3)] ∧ Z.Warmed39 xU.vm ∧ xU.heap = h0 ∧ CHv Z consts_1 xU.vm h0 ∧ ∀ x ∈ ([] : List Addr), Safe Z consts_1 xU.vm h0 x) (fun _ _ _ _ _ => True) (fun _ xU xo xU' => ∃ xv xL, xo = .returned xv ∧ Q_law n0 xv xL ∧ CHr Z consts_1 xU.vm xU.heap xU'.vm xU'.heap ∧ ReturnedEndW xU xo xU' xL room_1.cells room_1.slots) := by
  refine MetFree.of_bodySF (plainFor_of_name pn_com_example_tessera_tessera_sql_SqlTextPagedPinLaw) hisR ?_
  intro pP eE sS mM aS bS mS cC s₁ Bd hml0 hP hK
  obtain ⟨rfl, hZ, hh, hCH, hSf⟩ := hP
  have hx := Bd.exec
  have hj := Bd.bytes
  have hml : cC.maxLocals = 16 := hml0
  have hown : sS.vm.findClass "com/example/tessera/tessera/sql/SqlTextPagedPinLaw" = some mM.cls := findClass_of_methodNamed Bd.named
  have X0 : Stand pP l eE room_1 (sS.setVm sS.vm) mM _ bS mS cC s₁ [] 0 0 := Stand.of_body Bd
  have e0 : s₁.heap = h0 := by rw [← hh, Bd.state]; rfl
  have N0 := Fr.nil n0
  have hZ0 : Z.Warmed39 (sS.setVm sS.vm).vm := hZ
  have hown0 : (sS.setVm sS.vm).vm.findClass "com/example/tessera/tessera/sql/SqlTextPagedPinLaw" = some mM.cls := hown
  have hS0 : sS.Since sS.vm 0 := (State.WarmedH.refl sS).since 0
  have CC0 : CHr Z consts_1 sS.vm h0 sS.vm h0 := CHr.refl hCH
  have hnl : n ≤ 2 := by omega
  have hol := offL_le a
  have hfl := fetL_le b
  obtain ⟨t_101, tb_101, tk_101, T101, h101, L101, vm101, kk101, X101, e101, hS101, hk101, hZ101, hown101, Ch101, N101, Kp101, p101_A_t, st101⟩ := sg_sel l Z a0 hw p0 p1 p2 p3 c0 c1 n cs fo da ea h0 n0 hS0 (by omega) CC0.1 ⟨by omega, hx, hj, hml, hZ0, hown0, X0, e0, N0, by decide, by decide⟩ ee0 ee1 f0 f1 q0 q1 hlen hn OL SX
  have Sz1 : h0.size ≤ h101.size := Kp101.1
  have CC1 : CHr Z consts_1 sS.vm h0 vm101 h101 := CC0.trans Ch101
  obtain ⟨T102, L102, X102, e102, N102, st102⟩ : ∃ T' L', Stand pP l eE room_1 (sS.setVm vm101) mM #[(.int p0), (.int p1), (.int p2), (.int p3)] bS mS cC T' L' 3 8 ∧ T'.heap = h101 ∧ Fr n0 L' ∧ ∀ t', SS pP eE bS T' (mkF mM 94 (Lc_law_M_4 p0 p1 p2 p3 c0 c1 n t_101 a) []) t' → SS pP eE bS T101 (mkF mM 81 (Lc_law_M_1 p0 p1 p2 p3 c0 c1 n t_101) []) t' := by
    rcases hfi with ⟨hbd, hh⟩ | ⟨hbd, hh⟩
    · refine ⟨T101, _, X101, e101, N101, fun t' hk' => ?_⟩
      show SS pP eE bS T101 (mkF mM 81 (Lc_law_M_1 p0 p1 p2 p3 c0 c1 n t_101) []) _
      refine XS.iloadN X101.here hx rfl (hb hj at_81) rfl ?_
      refine XS.iconst X101.here hx rfl (hb hj at_82) ?_
      refine XS.iand X101.here hx rfl (hb hj at_83) rfl ?_
      refine XS.ifNo X101.here hx rfl (hb hj at_84) rfl ((if0 _ _).trans (feq (hbd : ¬ ((p1 &&& (1 : Int32)) = (0 : Int32)))).1) ?_
      refine XS.iconst X101.here hx rfl (hb hj at_87) ?_
      refine XS.goto X101.here hx rfl (pc0 := 88) (pc' := 92) rfl (hb hj at_88) (by decide) (by decide) ?_
      refine XS.istore X101.here hx rfl (hb hj at_92) rfl (l' := (Lc_law_M_2 p0 p1 p2 p3 c0 c1 n t_101)) rfl ?_
      rw [← hh] at hk'
      exact hk'
    · refine ⟨T101, _, X101, e101, N101, fun t' hk' => ?_⟩
      show SS pP eE bS T101 (mkF mM 81 (Lc_law_M_1 p0 p1 p2 p3 c0 c1 n t_101) []) _
      refine XS.iloadN X101.here hx rfl (hb hj at_81) rfl ?_
      refine XS.iconst X101.here hx rfl (hb hj at_82) ?_
      refine XS.iand X101.here hx rfl (hb hj at_83) rfl ?_
      refine XS.ifYes X101.here hx rfl (pc0 := 84) (pc' := 91) rfl (hb hj at_84) rfl ((if0 _ _).trans (teq (hbd : (p1 &&& (1 : Int32)) = (0 : Int32))).1) (by decide) (by decide) ?_
      refine XS.iloadN X101.here hx rfl (hb hj at_91) rfl ?_
      refine XS.istore X101.here hx rfl (hb hj at_92) rfl (l' := (Lc_law_M_3 p0 p1 p2 p3 c0 c1 n t_101)) rfl ?_
      rw [← hh] at hk'
      exact hk'
  obtain ⟨T103, L103, X103, e103, N103, st103⟩ : ∃ T' L', Stand pP l eE room_1 (sS.setVm vm101) mM #[(.int p0), (.int p1), (.int p2), (.int p3)] bS mS cC T' L' 3 8 ∧ T'.heap = h101 ∧ Fr n0 L' ∧ ∀ t', SS pP eE bS T' (mkF mM 108 (Lc_law_M_7 p0 p1 p2 p3 c0 c1 n t_101 a b) []) t' → SS pP eE bS T102 (mkF mM 94 (Lc_law_M_4 p0 p1 p2 p3 c0 c1 n t_101 a) []) t' := by
    rcases hma with ⟨hbd, hh⟩ | ⟨hbd, hh⟩
    · refine ⟨T102, _, X102, e102, N102, fun t' hk' => ?_⟩
      show SS pP eE bS T102 (mkF mM 94 (Lc_law_M_4 p0 p1 p2 p3 c0 c1 n t_101 a) []) _
      refine XS.iloadN X102.here hx rfl (hb hj at_94) rfl ?_
      refine XS.iconst X102.here hx rfl (hb hj at_95) ?_
      refine XS.iand X102.here hx rfl (hb hj at_96) rfl ?_
      refine XS.ifNo X102.here hx rfl (hb hj at_97) rfl ((if0 _ _).trans (feq (hbd : ¬ ((p1 &&& (2 : Int32)) = (0 : Int32)))).1) ?_
      refine X102.ldcInt hx hown101 (mvT hZ101 (wi hw 8 rfl)) (g := (mkF mM 100 (Lc_law_M_4 p0 p1 p2 p3 c0 c1 n t_101 a) [])) rfl (hb hj at_100) _ ?_
      refine XS.goto X102.here hx rfl (pc0 := 102) (pc' := 106) rfl (hb hj at_102) (by decide) (by decide) ?_
      refine XS.istore X102.here hx rfl (hb hj at_106) rfl (l' := (Lc_law_M_5 p0 p1 p2 p3 c0 c1 n t_101 a)) rfl ?_
      rw [← hh] at hk'
      exact hk'
    · refine ⟨T102, _, X102, e102, N102, fun t' hk' => ?_⟩
      show SS pP eE bS T102 (mkF mM 94 (Lc_law_M_4 p0 p1 p2 p3 c0 c1 n t_101 a) []) _
      refine XS.iloadN X102.here hx rfl (hb hj at_94) rfl ?_
      refine XS.iconst X102.here hx rfl (hb hj at_95) ?_
      refine XS.iand X102.here hx rfl (hb hj at_96) rfl ?_
      refine XS.ifYes X102.here hx rfl (pc0 := 97) (pc' := 105) rfl (hb hj at_97) rfl ((if0 _ _).trans (teq (hbd : (p1 &&& (2 : Int32)) = (0 : Int32))).1) (by decide) (by decide) ?_
      refine XS.iloadN X102.here hx rfl (hb hj at_105) rfl ?_
      refine XS.istore X102.here hx rfl (hb hj at_106) rfl (l' := (Lc_law_M_6 p0 p1 p2 p3 c0 c1 n t_101 a)) rfl ?_
      rw [← hh] at hk'
      exact hk'
  have c105_V_da : Arv Z h101 da dk .byte (100 : Int32) onesL (.int (0 : Int32)) := V_da.keep Kp101 nin0
  have c106_V_ea : Arv Z h101 ea ek .byte (100 : Int32) tensL (.int (0 : Int32)) := V_ea.keep Kp101 nin0
  have c107_OL : Old Z n0 h101 := OL.keep Kp101 all0
  obtain ⟨_, _, ⟨T104, L104, k104, n104⟩, -, X104, hs104, hg104, ⟨Lc104, hQ104, l104, y104, z104, Ch104⟩, st104⟩ := callSS X103 hx (y := y43_) hown101 (mvT hZ101 (wi hw 9 rfl)) (mvT hZ101 (wi hw 10 rfl)) (mvT hZ101 (wi hw 11 rfl)) (mvT hZ101 (wi hw 12 rfl)) (by decide) (backCH (W := 0) (rm_pgM l Z a0 hw [] t_101 tb_101 tk_101 n (selL n c0 c1) a b da dk ea ek cs fo h101 n0 (by omega) p101_A_t (selL_len hn) (hnl) hnb c105_V_da c106_V_ea hda hea c107_OL SX) hZ101 (wi hw 12 rfl) (wi hw 11 rfl) (by decide) (by decide) (own_EW hw) CC1.1 cs0 (fun _ _ _ _ _ _ _ _ _ => trivial)) (g := (mkF mM 114 (Lc_law_M_7 p0 p1 p2 p3 c0 c1 n t_101 a b) [(.int b), (.int a), (.ref t_101)])) rfl hml.symm (argsL := [(.ref t_101), (.int a), (.int b)]) (rest := []) (lenOf pd_0 rfl) rfl (W0 rfl) (hb hj at_114) (fun _ _ => ⟨rfl, e103, ble rfl, ble rfl⟩)
  dsimp only [Pt.U, Pt.locs, Pt.cells, Pt.slots] at X104 l104 y104 z104 st104 hQ104 hs104 hg104 Ch104
  subst y104 z104
  obtain ⟨X104', hS104, hZ104, hown104⟩ := rebS hS101 (by rw [e103]; omega) X104 hs104 hg104 hZ101 hown101
  obtain ⟨h104, e104⟩ : ∃ z, T104.heap = z := ⟨_, rfl⟩
  rw [e104] at hQ104 hS104 Ch104
  obtain ⟨r_104, rb_104, rk_104, rfl, N104q, Kp104, p104_A_r⟩ := hQ104
  have Sz2 : h101.size ≤ h104.size := Kp104.1
  have CC2 : CHr Z consts_1 sS.vm h0 T104.vm h104 := CC1.trans Ch104
  have N104 : Fr n0 L104 := by rw [l104]; exact Fr.app N103 N104q
  obtain ⟨T108, L108, X108, e108, N108, st108⟩ : ∃ T' L', Stand pP l eE room_1 (sS.setVm T104.vm) mM #[(.int p0), (.int p1), (.int p2), (.int p3)] bS mS cC T' L' 63 4008 ∧ T'.heap = h104 ∧ Fr n0 L' ∧ ∀ t', SS pP eE bS T' (mkF mM 144 (Lc_law_M_8 p0 p1 p2 p3 c0 c1 n t_101 a b r_104) []) t' → SS pP eE bS T104 (mkF mM 119 (Lc_law_M_8 p0 p1 p2 p3 c0 c1 n t_101 a b r_104) []) t' := by
    rcases Decidable.em (a = (0 : Int32)) with ha | ha
    · refine ⟨T104, _, X104', e104, N104, fun t' hk' => ?_⟩
      show SS pP eE bS T104 (mkF mM 119 (Lc_law_M_8 p0 p1 p2 p3 c0 c1 n t_101 a b r_104) []) _
      refine XS.iload X104'.here hx rfl (hb hj at_119) rfl ?_
      refine XS.ifNo X104'.here hx rfl (hb hj at_121) rfl ((if0 _ _).trans (teq (ha : a = (0 : Int32))).2) ?_
      refine XS.iload X104'.here hx rfl (hb hj at_124) rfl ?_
      refine X104'.ldcInt hx hown104 (mvT hZ104 (wi hw 8 rfl)) (g := (mkF mM 126 (Lc_law_M_8 p0 p1 p2 p3 c0 c1 n t_101 a b r_104) [(.int b)])) rfl (hb hj at_126) _ ?_
      refine XS.icmpYes X104'.here hx rfl (pc0 := 128) (pc' := 144) rfl (hb hj at_128) rfl (feq (fun q => hnb ⟨ha, q⟩ : ¬ (b = (2147483647 : Int32)))).2 (by decide) (by decide) ?_
      exact hk'
    · refine ⟨T104, _, X104', e104, N104, fun t' hk' => ?_⟩
      show SS pP eE bS T104 (mkF mM 119 (Lc_law_M_8 p0 p1 p2 p3 c0 c1 n t_101 a b r_104) []) _
      refine XS.iload X104'.here hx rfl (hb hj at_119) rfl ?_
      refine XS.ifYes X104'.here hx rfl (pc0 := 121) (pc' := 144) rfl (hb hj at_121) rfl ((if0 _ _).trans (feq (ha : ¬ (a = (0 : Int32)))).2) (by decide) (by decide) ?_
      exact hk'
  obtain ⟨T109, L109, X109, e109, N109, st109⟩ : ∃ T' L', Stand pP l eE room_1 (sS.setVm T104.vm) mM #[(.int p0), (.int p1), (.int p2), (.int p3)] bS mS cC T' L' 63 4008 ∧ T'.heap = h104 ∧ Fr n0 L' ∧ ∀ t', SS pP eE bS T' (mkF mM 156 (Lc_law_M_11 p0 p1 p2 p3 c0 c1 n t_101 a b r_104 ho) []) t' → SS pP eE bS T108 (mkF mM 144 (Lc_law_M_8 p0 p1 p2 p3 c0 c1 n t_101 a b r_104) []) t' := by
    rcases hho with ⟨hbd, hh⟩ | ⟨hbd, hh⟩
    · refine ⟨T108, _, X108, e108, N108, fun t' hk' => ?_⟩
      show SS pP eE bS T108 (mkF mM 144 (Lc_law_M_8 p0 p1 p2 p3 c0 c1 n t_101 a b r_104) []) _
      refine XS.iload X108.here hx rfl (hb hj at_144) rfl ?_
      refine XS.ifNo X108.here hx rfl (hb hj at_146) rfl ((if0 _ _).trans (feq (hbd : ¬ (a = (0 : Int32)))).1) ?_
      refine XS.iconst X108.here hx rfl (hb hj at_149) ?_
      refine XS.goto X108.here hx rfl (pc0 := 150) (pc' := 154) rfl (hb hj at_150) (by decide) (by decide) ?_
      refine XS.istore X108.here hx rfl (hb hj at_154) rfl (l' := (Lc_law_M_9 p0 p1 p2 p3 c0 c1 n t_101 a b r_104)) rfl ?_
      rw [← hh] at hk'
      exact hk'
    · refine ⟨T108, _, X108, e108, N108, fun t' hk' => ?_⟩
      show SS pP eE bS T108 (mkF mM 144 (Lc_law_M_8 p0 p1 p2 p3 c0 c1 n t_101 a b r_104) []) _
      refine XS.iload X108.here hx rfl (hb hj at_144) rfl ?_
      refine XS.ifYes X108.here hx rfl (pc0 := 146) (pc' := 153) rfl (hb hj at_146) rfl ((if0 _ _).trans (teq (hbd : a = (0 : Int32))).1) (by decide) (by decide) ?_
      refine XS.iconst X108.here hx rfl (hb hj at_153) ?_
      refine XS.istore X108.here hx rfl (hb hj at_154) rfl (l' := (Lc_law_M_10 p0 p1 p2 p3 c0 c1 n t_101 a b r_104)) rfl ?_
      rw [← hh] at hk'
      exact hk'
  obtain ⟨T110, L110, X110, e110, N110, st110⟩ : ∃ T' L', Stand pP l eE room_1 (sS.setVm T104.vm) mM #[(.int p0), (.int p1), (.int p2), (.int p3)] bS mS cC T' L' 63 4008 ∧ T'.heap = h104 ∧ Fr n0 L' ∧ ∀ t', SS pP eE bS T' (mkF mM 170 (Lc_law_M_14 p0 p1 p2 p3 c0 c1 n t_101 a b r_104 ho hf) []) t' → SS pP eE bS T109 (mkF mM 156 (Lc_law_M_11 p0 p1 p2 p3 c0 c1 n t_101 a b r_104 ho) []) t' := by
    rcases hhf with ⟨hbd, hh⟩ | ⟨hbd, hh⟩
    · refine ⟨T109, _, X109, e109, N109, fun t' hk' => ?_⟩
      show SS pP eE bS T109 (mkF mM 156 (Lc_law_M_11 p0 p1 p2 p3 c0 c1 n t_101 a b r_104 ho) []) _
      refine XS.iload X109.here hx rfl (hb hj at_156) rfl ?_
      refine X109.ldcInt hx hown104 (mvT hZ104 (wi hw 8 rfl)) (g := (mkF mM 158 (Lc_law_M_11 p0 p1 p2 p3 c0 c1 n t_101 a b r_104 ho) [(.int b)])) rfl (hb hj at_158) _ ?_
      refine XS.icmpNo X109.here hx rfl (hb hj at_160) rfl (feq (hbd : ¬ (b = (2147483647 : Int32)))).1 ?_
      refine XS.iconst X109.here hx rfl (hb hj at_163) ?_
      refine XS.goto X109.here hx rfl (pc0 := 164) (pc' := 168) rfl (hb hj at_164) (by decide) (by decide) ?_
      refine XS.istore X109.here hx rfl (hb hj at_168) rfl (l' := (Lc_law_M_12 p0 p1 p2 p3 c0 c1 n t_101 a b r_104 ho)) rfl ?_
      rw [← hh] at hk'
      exact hk'
    · refine ⟨T109, _, X109, e109, N109, fun t' hk' => ?_⟩
      show SS pP eE bS T109 (mkF mM 156 (Lc_law_M_11 p0 p1 p2 p3 c0 c1 n t_101 a b r_104 ho) []) _
      refine XS.iload X109.here hx rfl (hb hj at_156) rfl ?_
      refine X109.ldcInt hx hown104 (mvT hZ104 (wi hw 8 rfl)) (g := (mkF mM 158 (Lc_law_M_11 p0 p1 p2 p3 c0 c1 n t_101 a b r_104 ho) [(.int b)])) rfl (hb hj at_158) _ ?_
      refine XS.icmpYes X109.here hx rfl (pc0 := 160) (pc' := 167) rfl (hb hj at_160) rfl (teq (hbd : b = (2147483647 : Int32))).1 (by decide) (by decide) ?_
      refine XS.iconst X109.here hx rfl (hb hj at_167) ?_
      refine XS.istore X109.here hx rfl (hb hj at_168) rfl (l' := (Lc_law_M_13 p0 p1 p2 p3 c0 c1 n t_101 a b r_104 ho)) rfl ?_
      rw [← hh] at hk'
      exact hk'
  obtain ⟨T111, L111, X111, e111, N111, st111⟩ : ∃ T' L', Stand pP l eE room_1 (sS.setVm T104.vm) mM #[(.int p0), (.int p1), (.int p2), (.int p3)] bS mS cC T' L' 63 4008 ∧ T'.heap = h104 ∧ Fr n0 L' ∧ ∀ t', SS pP eE bS T' (mkF mM 191 (Lc_law_M_17 p0 p1 p2 p3 c0 c1 n t_101 a b r_104 ho hf) []) t' → SS pP eE bS T110 (mkF mM 170 (Lc_law_M_14 p0 p1 p2 p3 c0 c1 n t_101 a b r_104 ho hf) []) t' := by
    rcases hho with ⟨hbd, hh⟩ | ⟨hbd, hh⟩
    · obtain ⟨T112, L112, X112, e112, N112, st112⟩ := cw_wid_S5027 l Z a0 hw a h104 n0 (by omega) hx hZ104 hown104 X110 e110 N110 (by decide) (by decide)  (g := (mkF mM 179 (Lc_law_M_14 p0 p1 p2 p3 c0 c1 n t_101 a b r_104 ho hf) [(.int a), (.int (8 : Int32))])) rfl hml.symm rfl (hb hj at_179) (W := 1) (W0 rfl) (by decide) (by decide)
      refine ⟨T112, _, X112, e112, N112, fun t' hk' => ?_⟩
      show SS pP eE bS T110 (mkF mM 170 (Lc_law_M_14 p0 p1 p2 p3 c0 c1 n t_101 a b r_104 ho hf) []) _
      refine XS.iload X110.here hx rfl (hb hj at_170) rfl ?_
      refine XS.ifNo X110.here hx rfl (hb hj at_172) rfl ((if0 _ _).trans (feq (fun q => by rw [q] at hh; exact absurd hh (by decide) : ¬ (ho = (0 : Int32)))).1) ?_
      refine XS.bipush X110.here hx rfl (hb hj at_175) ?_
      refine XS.iload X110.here hx rfl (hb hj at_177) rfl ?_
      refine st112 _ ?_
      refine XS.iadd X112.here hx rfl (hb hj at_182) rfl ?_
      show SS pP eE bS T112 (mkF mM 183 (Lc_law_M_14 p0 p1 p2 p3 c0 c1 n t_101 a b r_104 ho hf) [(.int ((8 : Int32) + (iN (wd a))))]) _
      rw [show ((8 : Int32) + (iN (wd a))) = (iN (8 + wd a)) from iN_add 8 (wd a)]
      refine XS.iconst X112.here hx rfl (hb hj at_183) ?_
      refine XS.iadd X112.here hx rfl (hb hj at_184) rfl ?_
      show SS pP eE bS T112 (mkF mM 185 (Lc_law_M_14 p0 p1 p2 p3 c0 c1 n t_101 a b r_104 ho hf) [(.int ((iN (8 + wd a)) + (5 : Int32)))]) _
      rw [show ((iN (8 + wd a)) + (5 : Int32)) = (iN ((8 + wd a) + 5)) from iN_add (8 + wd a) 5]
      refine XS.goto X112.here hx rfl (pc0 := 185) (pc' := 189) rfl (hb hj at_185) (by decide) (by decide) ?_
      refine XS.istore X112.here hx rfl (hb hj at_189) rfl (l' := (Lc_law_M_15 p0 p1 p2 p3 c0 c1 n t_101 a b r_104 ho hf)) rfl ?_
      replace hk' : SS pP eE bS T112 (mkF mM 191 #[.val (.int p0), .val (.int p1), .val (.int p2), .val (.int p3), .val (.int c0), .val (.int c1), .val (.int (iN n)), .val (.ref t_101), .val (.int a), .val (.int b), .val (.ref r_104), .val (.int ho), .val (.int hf), .val (.int (iN (offL a).length)), .unset, .unset] []) t' := hk'
      rw [show (iN (offL a).length) = (iN ((8 + wd a) + 5)) from congrArg iN (by rw [← offL_len hbd])] at hk'
      exact hk'
    · refine ⟨T110, _, X110, e110, N110, fun t' hk' => ?_⟩
      show SS pP eE bS T110 (mkF mM 170 (Lc_law_M_14 p0 p1 p2 p3 c0 c1 n t_101 a b r_104 ho hf) []) _
      refine XS.iload X110.here hx rfl (hb hj at_170) rfl ?_
      refine XS.ifYes X110.here hx rfl (pc0 := 172) (pc' := 188) rfl (hb hj at_172) rfl ((if0 _ _).trans (teq (hh.symm : ho = (0 : Int32))).1) (by decide) (by decide) ?_
      refine XS.iconst X110.here hx rfl (hb hj at_188) ?_
      refine XS.istore X110.here hx rfl (hb hj at_189) rfl (l' := (Lc_law_M_16 p0 p1 p2 p3 c0 c1 n t_101 a b r_104 ho hf)) rfl ?_
      replace hk' : SS pP eE bS T110 (mkF mM 191 #[.val (.int p0), .val (.int p1), .val (.int p2), .val (.int p3), .val (.int c0), .val (.int c1), .val (.int (iN n)), .val (.ref t_101), .val (.int a), .val (.int b), .val (.ref r_104), .val (.int ho), .val (.int hf), .val (.int (iN (offL a).length)), .unset, .unset] []) t' := hk'
      rw [show (iN (offL a).length) = (0 : Int32) from by rw [offL, if_pos hbd]; rfl] at hk'
      exact hk'
  obtain ⟨T113, L113, X113, e113, N113, st113⟩ : ∃ T' L', Stand pP l eE room_1 (sS.setVm T104.vm) mM #[(.int p0), (.int p1), (.int p2), (.int p3)] bS mS cC T' L' 63 4008 ∧ T'.heap = h104 ∧ Fr n0 L' ∧ ∀ t', SS pP eE bS T' (mkF mM 213 (Lc_law_M_20 p0 p1 p2 p3 c0 c1 n t_101 a b r_104 ho hf) []) t' → SS pP eE bS T111 (mkF mM 191 (Lc_law_M_17 p0 p1 p2 p3 c0 c1 n t_101 a b r_104 ho hf) []) t' := by
    rcases hhf with ⟨hbd, hh⟩ | ⟨hbd, hh⟩
    · obtain ⟨T114, L114, X114, e114, N114, st114⟩ := cw_wid_S5027 l Z a0 hw b h104 n0 (by omega) hx hZ104 hown104 X111 e111 N111 (by decide) (by decide)  (g := (mkF mM 200 (Lc_law_M_17 p0 p1 p2 p3 c0 c1 n t_101 a b r_104 ho hf) [(.int b), (.int (13 : Int32))])) rfl hml.symm rfl (hb hj at_200) (W := 1) (W0 rfl) (by decide) (by decide)
      refine ⟨T114, _, X114, e114, N114, fun t' hk' => ?_⟩
      show SS pP eE bS T111 (mkF mM 191 (Lc_law_M_17 p0 p1 p2 p3 c0 c1 n t_101 a b r_104 ho hf) []) _
      refine XS.iload X111.here hx rfl (hb hj at_191) rfl ?_
      refine XS.ifNo X111.here hx rfl (hb hj at_193) rfl ((if0 _ _).trans (feq (fun q => by rw [q] at hh; exact absurd hh (by decide) : ¬ (hf = (0 : Int32)))).1) ?_
      refine XS.bipush X111.here hx rfl (hb hj at_196) ?_
      refine XS.iload X111.here hx rfl (hb hj at_198) rfl ?_
      refine st114 _ ?_
      refine XS.iadd X114.here hx rfl (hb hj at_203) rfl ?_
      show SS pP eE bS T114 (mkF mM 204 (Lc_law_M_17 p0 p1 p2 p3 c0 c1 n t_101 a b r_104 ho hf) [(.int ((13 : Int32) + (iN (wd b))))]) _
      rw [show ((13 : Int32) + (iN (wd b))) = (iN (13 + wd b)) from iN_add 13 (wd b)]
      refine XS.bipush X114.here hx rfl (hb hj at_204) ?_
      refine XS.iadd X114.here hx rfl (hb hj at_206) rfl ?_
      show SS pP eE bS T114 (mkF mM 207 (Lc_law_M_17 p0 p1 p2 p3 c0 c1 n t_101 a b r_104 ho hf) [(.int ((iN (13 + wd b)) + (10 : Int32)))]) _
      rw [show ((iN (13 + wd b)) + (10 : Int32)) = (iN ((13 + wd b) + 10)) from iN_add (13 + wd b) 10]
      refine XS.goto X114.here hx rfl (pc0 := 207) (pc' := 211) rfl (hb hj at_207) (by decide) (by decide) ?_
      refine XS.istore X114.here hx rfl (hb hj at_211) rfl (l' := (Lc_law_M_18 p0 p1 p2 p3 c0 c1 n t_101 a b r_104 ho hf)) rfl ?_
      replace hk' : SS pP eE bS T114 (mkF mM 213 #[.val (.int p0), .val (.int p1), .val (.int p2), .val (.int p3), .val (.int c0), .val (.int c1), .val (.int (iN n)), .val (.ref t_101), .val (.int a), .val (.int b), .val (.ref r_104), .val (.int ho), .val (.int hf), .val (.int (iN (offL a).length)), .val (.int (iN (fetL b).length)), .unset] []) t' := hk'
      rw [show (iN (fetL b).length) = (iN ((13 + wd b) + 10)) from congrArg iN (by rw [← fetL_len hbd])] at hk'
      exact hk'
    · refine ⟨T111, _, X111, e111, N111, fun t' hk' => ?_⟩
      show SS pP eE bS T111 (mkF mM 191 (Lc_law_M_17 p0 p1 p2 p3 c0 c1 n t_101 a b r_104 ho hf) []) _
      refine XS.iload X111.here hx rfl (hb hj at_191) rfl ?_
      refine XS.ifYes X111.here hx rfl (pc0 := 193) (pc' := 210) rfl (hb hj at_193) rfl ((if0 _ _).trans (teq (hh.symm : hf = (0 : Int32))).1) (by decide) (by decide) ?_
      refine XS.iconst X111.here hx rfl (hb hj at_210) ?_
      refine XS.istore X111.here hx rfl (hb hj at_211) rfl (l' := (Lc_law_M_19 p0 p1 p2 p3 c0 c1 n t_101 a b r_104 ho hf)) rfl ?_
      replace hk' : SS pP eE bS T111 (mkF mM 213 #[.val (.int p0), .val (.int p1), .val (.int p2), .val (.int p3), .val (.int c0), .val (.int c1), .val (.int (iN n)), .val (.ref t_101), .val (.int a), .val (.int b), .val (.ref r_104), .val (.int ho), .val (.int hf), .val (.int (iN (offL a).length)), .val (.int (iN (fetL b).length)), .unset] []) t' := hk'
      rw [show (iN (fetL b).length) = (0 : Int32) from by rw [fetL, if_pos hbd]; rfl] at hk'
      exact hk'
  have c116_OL : Old Z n0 h104 := c107_OL.keep Kp104 all0
  obtain ⟨T115, L115, X115, e115, N115, st115⟩ := cw_length_S5033 l Z a0 hw r_104 rb_104 rk_104 (((0 + n) + (offL a).length) + (fetL b).length) ((([] ++ (selL n c0 c1)) ++ offL a) ++ fetL b) cs fo da ea h104 n0 (by omega) hx hZ104 hown104 X113 e113 N113 (by decide) (by decide) p104_A_r c116_OL SX (g := (mkF mM 215 (Lc_law_M_20 p0 p1 p2 p3 c0 c1 n t_101 a b r_104 ho hf) [(.ref r_104)])) rfl hml.symm rfl (hb hj at_215) (W := 0) (W0 rfl) (by decide) (by decide)
  obtain ⟨T117, L117, X117, e117, N117, st117⟩ : ∃ T' L', Stand pP l eE room_1 (sS.setVm T104.vm) mM #[(.int p0), (.int p1), (.int p2), (.int p3)] bS mS cC T' L' 63 4008 ∧ T'.heap = h104 ∧ Fr n0 L' ∧ ∀ t', SS pP eE bS T' (mkF mM 250 (Lc_law_M_20 p0 p1 p2 p3 c0 c1 n t_101 a b r_104 ho hf) []) t' → SS pP eE bS T115 (mkF mM 231 (Lc_law_M_20 p0 p1 p2 p3 c0 c1 n t_101 a b r_104 ho hf) []) t' := by
    rcases Nat.lt_or_ge n 1 with hk | hk
    · refine ⟨T115, _, X115, e115, N115, fun t' hk' => ?_⟩
      show SS pP eE bS T115 (mkF mM 231 (Lc_law_M_20 p0 p1 p2 p3 c0 c1 n t_101 a b r_104 ho hf) []) _
      refine XS.iload X115.here hx rfl (hb hj at_231) rfl ?_
      refine XS.iconst X115.here hx rfl (hb hj at_233) ?_
      refine XS.icmpYes X115.here hx rfl (pc0 := 234) (pc' := 250) rfl (hb hj at_234) rfl (tlt ((iN_lt (b := 1) (by omega) (by omega)).mpr hk : (iN n) < (1 : Int32))).1 (by decide) (by decide) ?_
      exact hk'
    · obtain ⟨T118, L118, X118, e118, N118, st118⟩ := cw_charAt_S5037 l Z a0 hw r_104 rb_104 rk_104 (((0 + n) + (offL a).length) + (fetL b).length) ((([] ++ (selL n c0 c1)) ++ offL a) ++ fetL b) 0 c0 fo cs da ea h104 n0 (by omega) hx hZ104 hown104 X115 e115 N115 (by decide) (by decide) p104_A_r SX c116_OL (own_at0 hn hk f0 q0) (g := (mkF mM 240 (Lc_law_M_20 p0 p1 p2 p3 c0 c1 n t_101 a b r_104 ho hf) [(.int (0 : Int32)), (.ref r_104)])) rfl hml.symm rfl (hb hj at_240) (W := 0) (W0 rfl) (by decide) (by decide)
      refine ⟨T118, _, X118, e118, N118, fun t' hk' => ?_⟩
      show SS pP eE bS T115 (mkF mM 231 (Lc_law_M_20 p0 p1 p2 p3 c0 c1 n t_101 a b r_104 ho hf) []) _
      refine XS.iload X115.here hx rfl (hb hj at_231) rfl ?_
      refine XS.iconst X115.here hx rfl (hb hj at_233) ?_
      refine XS.icmpNo X115.here hx rfl (hb hj at_234) rfl (flt (fun q => absurd ((iN_lt (b := 1) (by omega) (by omega)).mp q) (by omega) : ¬ ((iN n) < (1 : Int32)))).1 ?_
      refine XS.aload X115.here hx rfl (hb hj at_237) rfl rfl ?_
      refine XS.iconst X115.here hx rfl (hb hj at_239) ?_
      refine st118 _ ?_
      refine XS.iload X118.here hx rfl (hb hj at_243) rfl ?_
      refine XS.icmpYes X118.here hx rfl (pc0 := 245) (pc' := 250) rfl (hb hj at_245) rfl (teq (rfl : c0 = c0)).1 (by decide) (by decide) ?_
      exact hk'
  obtain ⟨T119, L119, X119, e119, N119, st119⟩ : ∃ T' L', Stand pP l eE room_1 (sS.setVm T104.vm) mM #[(.int p0), (.int p1), (.int p2), (.int p3)] bS mS cC T' L' 63 4008 ∧ T'.heap = h104 ∧ Fr n0 L' ∧ ∀ t', SS pP eE bS T' (mkF mM 269 (Lc_law_M_20 p0 p1 p2 p3 c0 c1 n t_101 a b r_104 ho hf) []) t' → SS pP eE bS T117 (mkF mM 250 (Lc_law_M_20 p0 p1 p2 p3 c0 c1 n t_101 a b r_104 ho hf) []) t' := by
    rcases Nat.lt_or_ge n 2 with hk | hk
    · refine ⟨T117, _, X117, e117, N117, fun t' hk' => ?_⟩
      show SS pP eE bS T117 (mkF mM 250 (Lc_law_M_20 p0 p1 p2 p3 c0 c1 n t_101 a b r_104 ho hf) []) _
      refine XS.iload X117.here hx rfl (hb hj at_250) rfl ?_
      refine XS.iconst X117.here hx rfl (hb hj at_252) ?_
      refine XS.icmpYes X117.here hx rfl (pc0 := 253) (pc' := 269) rfl (hb hj at_253) rfl (tlt ((iN_lt (b := 2) (by omega) (by omega)).mpr hk : (iN n) < (2 : Int32))).1 (by decide) (by decide) ?_
      exact hk'
    · obtain ⟨T120, L120, X120, e120, N120, st120⟩ := cw_charAt_S5037 l Z a0 hw r_104 rb_104 rk_104 (((0 + n) + (offL a).length) + (fetL b).length) ((([] ++ (selL n c0 c1)) ++ offL a) ++ fetL b) 1 c1 fo cs da ea h104 n0 (by omega) hx hZ104 hown104 X117 e117 N117 (by decide) (by decide) p104_A_r SX c116_OL (own_at1 hn hk f1 q1) (g := (mkF mM 259 (Lc_law_M_20 p0 p1 p2 p3 c0 c1 n t_101 a b r_104 ho hf) [(.int (1 : Int32)), (.ref r_104)])) rfl hml.symm rfl (hb hj at_259) (W := 0) (W0 rfl) (by decide) (by decide)
      refine ⟨T120, _, X120, e120, N120, fun t' hk' => ?_⟩
      show SS pP eE bS T117 (mkF mM 250 (Lc_law_M_20 p0 p1 p2 p3 c0 c1 n t_101 a b r_104 ho hf) []) _
      refine XS.iload X117.here hx rfl (hb hj at_250) rfl ?_
      refine XS.iconst X117.here hx rfl (hb hj at_252) ?_
      refine XS.icmpNo X117.here hx rfl (hb hj at_253) rfl (flt (fun q => absurd ((iN_lt (b := 2) (by omega) (by omega)).mp q) (by omega) : ¬ ((iN n) < (2 : Int32)))).1 ?_
      refine XS.aload X117.here hx rfl (hb hj at_256) rfl rfl ?_
      refine XS.iconst X117.here hx rfl (hb hj at_258) ?_
      refine st120 _ ?_
      refine XS.iload X120.here hx rfl (hb hj at_262) rfl ?_
      refine XS.icmpYes X120.here hx rfl (pc0 := 264) (pc' := 269) rfl (hb hj at_264) rfl (teq (rfl : c1 = c1)).1 (by decide) (by decide) ?_
      exact hk'
  obtain ⟨T121, h121, L121, vm121, kk121, X121, e121, hS121, hk121, hZ121, hown121, Ch121, N121, Kp121, st121⟩ := sg_lwO l Z a0 hw r_104 rb_104 rk_104 (((0 + n) + (offL a).length) + (fetL b).length) ((([] ++ (selL n c0 c1)) ++ offL a) ++ fetL b) a ho (iN (fetL b).length) n (n + (offL a).length) (.val (.int p0)) (.val (.int p1)) (.val (.int p2)) (.val (.int p3)) (.val (.int c0)) (.val (.int c1)) (.val (.int (iN n))) (.val (.ref t_101)) (.val (.int b)) (.val (.int hf)) (.val (.int (iN (offL a).length))) fo cs da ea h104 n0 hS104 (by omega) CC2.1 ⟨by omega, hx, hj, hml, hZ104, hown104, X119, e119, N119, by decide, by decide⟩ p104_A_r SX c116_OL (by omega) (own_lwO hn hho)
  have Sz3 : h104.size ≤ h121.size := Kp121.1
  have CC3 : CHr Z consts_1 sS.vm h0 vm121 h121 := CC2.trans Ch121
  have c123_A_r_104 : StrA Z h121 r_104 rb_104 rk_104 (((0 + n) + (offL a).length) + (fetL b).length) ((([] ++ (selL n c0 c1)) ++ offL a) ++ fetL b) := StrA.keep Kp121 p104_A_r nin0 nin0
  have c124_OL : Old Z n0 h121 := c116_OL.keep Kp121 all0
  obtain ⟨T122, h122, L122, vm122, kk122, X122, e122, hS122, hk122, hZ122, hown122, Ch122, N122, Kp122, st122⟩ := sg_lwF l Z a0 hw r_104 rb_104 rk_104 (((0 + n) + (offL a).length) + (fetL b).length) ((([] ++ (selL n c0 c1)) ++ offL a) ++ fetL b) b hf (iN (fetL b).length) (n + (offL a).length) _ (.val (.int p0)) (.val (.int p1)) (.val (.int p2)) (.val (.int p3)) (.val (.int c0)) (.val (.int c1)) (.val (.int (iN n))) (.val (.ref t_101)) (.val (.int a)) (.val (.int ho)) (.val (.int (iN (offL a).length))) fo cs da ea h121 n0 hS121 (by omega) CC3.1 ⟨by omega, hx, hj, hml, hZ121, hown121, X121, e121, N121, by decide, by decide⟩ c123_A_r_104 SX c124_OL (by omega) (own_lwF hn hhf)
  have Sz4 : h121.size ≤ h122.size := Kp122.1
  have CC4 : CHr Z consts_1 sS.vm h0 vm122 h122 := CC3.trans Ch122
  obtain ⟨fs, hr, hrun, hended, hE⟩ := Stand.leaveW (s := sS) X122 hS122 (by rw [e122]; omega) (v := some (.int (1 : Int32))) (fun h => by rw [Bd.returns] at h; cases h)
  refine ⟨_, _, castTop (ef_law_M mM p0 p1 p2 p3 c0 c1 n a b ho hf da dk ea ek fo cs) ?_, hrun, hended, _, _, rfl, ?_, ?_, hE.1, hE.2.1, hE.2.2.1, hE.2.2.2.mono (by decide) (by decide)⟩
  · show SS pP eE bS s₁ (mkF mM 0 (Lc_law_M_0 p0 p1 p2 p3) []) _
    refine st101 _ ?_
    refine st102 _ ?_
    show SS pP eE bS T102 (mkF mM 94 (Lc_law_M_4 p0 p1 p2 p3 c0 c1 n t_101 a) []) _
    refine st103 _ ?_
    show SS pP eE bS T103 (mkF mM 108 (Lc_law_M_7 p0 p1 p2 p3 c0 c1 n t_101 a b) []) _
    refine XS.aload X103.here hx rfl (hb hj at_108) rfl rfl ?_
    refine XS.iload X103.here hx rfl (hb hj at_110) rfl ?_
    refine XS.iload X103.here hx rfl (hb hj at_112) rfl ?_
    refine st104.trans ?_
    refine XS.astore X104'.here hx rfl (hb hj at_117) rfl rfl (l' := (Lc_law_M_8 p0 p1 p2 p3 c0 c1 n t_101 a b r_104)) rfl ?_
    refine st108 _ ?_
    show SS pP eE bS T108 (mkF mM 144 (Lc_law_M_8 p0 p1 p2 p3 c0 c1 n t_101 a b r_104) []) _
    refine st109 _ ?_
    show SS pP eE bS T109 (mkF mM 156 (Lc_law_M_11 p0 p1 p2 p3 c0 c1 n t_101 a b r_104 ho) []) _
    refine st110 _ ?_
    show SS pP eE bS T110 (mkF mM 170 (Lc_law_M_14 p0 p1 p2 p3 c0 c1 n t_101 a b r_104 ho hf) []) _
    refine st111 _ ?_
    show SS pP eE bS T111 (mkF mM 191 (Lc_law_M_17 p0 p1 p2 p3 c0 c1 n t_101 a b r_104 ho hf) []) _
    refine st113 _ ?_
    show SS pP eE bS T113 (mkF mM 213 (Lc_law_M_20 p0 p1 p2 p3 c0 c1 n t_101 a b r_104 ho hf) []) _
    refine XS.aload X113.here hx rfl (hb hj at_213) rfl rfl ?_
    refine st115 _ ?_
    refine XS.iload X115.here hx rfl (hb hj at_218) rfl ?_
    refine XS.iload X115.here hx rfl (hb hj at_220) rfl ?_
    refine XS.iadd X115.here hx rfl (hb hj at_222) rfl ?_
    show SS pP eE bS T115 (mkF mM 223 (Lc_law_M_20 p0 p1 p2 p3 c0 c1 n t_101 a b r_104 ho hf) [(.int ((iN n) + (iN (offL a).length))), (.int (iN (((0 + n) + (offL a).length) + (fetL b).length)))]) _
    rw [show ((iN n) + (iN (offL a).length)) = (iN (n + (offL a).length)) from iN_add n (offL a).length]
    refine XS.iload X115.here hx rfl (hb hj at_223) rfl ?_
    refine XS.iadd X115.here hx rfl (hb hj at_225) rfl ?_
    show SS pP eE bS T115 (mkF mM 226 (Lc_law_M_20 p0 p1 p2 p3 c0 c1 n t_101 a b r_104 ho hf) [(.int ((iN (n + (offL a).length)) + (iN (fetL b).length))), (.int (iN (((0 + n) + (offL a).length) + (fetL b).length)))]) _
    rw [show ((iN (n + (offL a).length)) + (iN (fetL b).length)) = (iN ((n + (offL a).length) + (fetL b).length)) from iN_add (n + (offL a).length) (fetL b).length]
    refine XS.icmpYes X115.here hx rfl (pc0 := 226) (pc' := 231) rfl (hb hj at_226) rfl (teq (congrArg iN (by omega) : (iN (((0 + n) + (offL a).length) + (fetL b).length)) = (iN ((n + (offL a).length) + (fetL b).length)))).1 (by decide) (by decide) ?_
    refine st117 _ ?_
    show SS pP eE bS T117 (mkF mM 250 (Lc_law_M_20 p0 p1 p2 p3 c0 c1 n t_101 a b r_104 ho hf) []) _
    refine st119 _ ?_
    show SS pP eE bS T119 (mkF mM 269 (Lc_law_M_20 p0 p1 p2 p3 c0 c1 n t_101 a b r_104 ho hf) []) _
    refine XS.iload X119.here hx rfl (hb hj at_269) rfl ?_
    refine XS.istore X119.here hx rfl (hb hj at_271) rfl (l' := (Lc_law_M_21 p0 p1 p2 p3 c0 c1 n t_101 a b r_104 ho hf)) rfl ?_
    refine st121 _ ?_
    refine st122 _ ?_
    refine XS.iconst X122.here hx rfl (hb hj at_396) ?_
    exact retN X122 hx (t := .boolean) Bd.returns (by simp) (hb hj at_397) hr
  · exact ⟨rfl, N122⟩
  · show CHr Z consts_1 sS.vm sS.heap T122.vm T122.heap
    rw [hh, e122]
    exact CC4.trans (CHv.at X122 hZ122 (own_EW hw) CC4.1)
-- END
theorem comes_1 {Post : Tables → Env → Array Value → State → Outcome → State → Prop} (hpost : ∀ tb e args s v u, (limb_1_1.after args s (.returned v) u = true ∧ limb_1_2.after args s (.returned v) u = true ∧ True) → ReturnedEndW s (.returned v) u (Jvm.fieldLocs frame_1_writes args s ++ Jvm.arrayLocs frame_1_arrays args s ++ Jvm.staticLocs frame_1_statics s) 112 11520 → Post tb e args s (.returned v) u) :
    ArmFor flags0 classFile x code maxLocals ret World_1 tables_1 room_1 Calls_1 rest_1 Pre_1 Post := by
  intro l hfl _ _ p e ha hc hk s m args below hf hA hF happ hP
  obtain ⟨hcalls, hrest, hpre⟩ := hP
  obtain ⟨-, -, -, hnamed, -, -, -, hat⟩ := (Spec.applies_iff hf).mp happ
  obtain ⟨hg, hn⟩ := and_e (Cond.before_iff.mp (show (Jvm.Cond.and given_1 narrow_1).before args s = true from hpre))
  obtain ⟨g1, g2⟩ := and_e hg
  obtain ⟨g3, g4⟩ := and_e g2
  obtain ⟨g5, g6⟩ := and_e g4
  obtain ⟨g7, g8⟩ := and_e g6
  obtain ⟨w0, w1, w2, w3, rfl⟩ : ∃ w0 w1 w2 w3 : Value, args = #[w0, w1, w2, w3] := by
    have hs : args.size = 4 := by simpa [Cond.value, given_1] using g1
    obtain ⟨L⟩ := args
    match L, hs with
    | [w0, w1, w2, w3], _ => exact ⟨w0, w1, w2, w3, rfl⟩
  have hw := fun d (hd : d ∈ tables_1) => atoms_spec (ws := Jvm.Cond.code x code maxLocals ret :: tables_1) hat d (List.mem_cons_of_mem _ hd)
  have hfit : Fit s := fun {y c} hc i hi => by
    obtain ⟨ha, rfl⟩ := Array.getElem?_eq_some_iff.mp hc
    have q := List.all_eq_true.mp ((Array.all_eq_true_iff_forall_mem.mp hF) _ (Array.getElem_mem ha)) i (List.mem_range.mpr hi)
    simpa [Array.getElem?_eq_getElem hi] using q
  obtain ⟨hsets, hown0⟩ := atoms_of _ (rest_1_c_eq ▸ (show rest_1_c.before _ s = true from hrest))
  obtain ⟨i0, ei0⟩ := is_v g3
  obtain rfl : w0 = (.int i0) := Option.some.inj ei0
  obtain ⟨i1, ei1⟩ := is_v g5
  obtain rfl : w1 = (.int i1) := Option.some.inj ei1
  obtain ⟨i2, ei2⟩ := is_v g7
  obtain rfl : w2 = (.int i2) := Option.some.inj ei2
  obtain ⟨i3, ei3⟩ := is_v g8
  obtain rfl : w3 = (.int i3) := Option.some.inj ei3
  have hM : MetFree l x (head1 (Jvm.Cond.code x code maxLocals ret :: tables_1) room_1) (fun a U => a = #[(.int i0), (.int i1), (.int i2), (.int i3)] ∧ s.Warmed39 U.vm ∧ U.heap = s.heap ∧ CHv s consts_1 U.vm s.heap ∧ ∀ x ∈ ([] : List Addr), Safe s consts_1 U.vm s.heap x) (fun _ _ _ _ _ => True) (fun _ U o U' => ∃ v L, o = .returned v ∧ Q_law s.heap.size v L ∧ CHr s consts_1 U.vm U.heap U'.vm U'.heap ∧ ReturnedEndW U o U' L room_1.cells room_1.slots) := by
    obtain ⟨cs, ecs⟩ := is_v (Cond.before_iff.mp (hsets _ (List.mem_of_getElem? (i := 1) rfl)))
    have hSc := Sta.start ecs (Or.inl (hsets _ (List.mem_of_getElem? (i := 0) rfl)))
    have hcs : ¬ (cs = (0 : Int32)) := fun q => by
      have w := not_v (Cond.before_iff.mp (hsets _ (List.mem_of_getElem? (i := 2) rfl)))
      rw [eq_i ecs (Term.int_eval 0) (by rw [q])] at w; cases w
    obtain ⟨fo, efo, hfo⟩ := isR_v (Cond.before_iff.mp (hsets _ (List.mem_of_getElem? (i := 8) rfl)))
    have hFo := Sta.start efo (Or.inl (hsets _ (List.mem_of_getElem? (i := 7) rfl)))
    obtain ⟨da, dk, eda, lda, Vda⟩ := own_tab (F := fun i => iN (48 + i % 10)) hfit (fun _ => rfl) (wi hw 3 rfl) (hsets _ (List.mem_of_getElem? (i := 12) rfl)) (hsets _ (List.mem_of_getElem? (i := 13) rfl)) (hsets _ (List.mem_of_getElem? (i := 14) rfl)) (fun r h => by
      rw [show iN (48 + r % 10) = _ from (Jvm.Free.SBG.ones_num r h).symm]; rfl)
    have hda := Sta.start eda (Or.inl (hsets _ (List.mem_of_getElem? (i := 11) rfl)))
    obtain ⟨ea, ek, eea, lea, Vea⟩ := own_tab (F := fun i => iN (48 + i / 10)) hfit (fun _ => rfl) (wi hw 3 rfl) (hsets _ (List.mem_of_getElem? (i := 17) rfl)) (hsets _ (List.mem_of_getElem? (i := 18) rfl)) (hsets _ (List.mem_of_getElem? (i := 19) rfl)) (fun r h => by
      rw [show iN (48 + r / 10) = _ from (Jvm.Free.SBG.tens_num r h).symm]; rfl)
    have hea := Sta.start eea (Or.inl (hsets _ (List.mem_of_getElem? (i := 16) rfl)))
    have SX : Sts s cs fo da ea := ⟨hSc, hcs, hFo, hfo, hda, hea⟩
    obtain ⟨n, hlen, hn⟩ := own_n3 ((i0.toUInt32 >>> ((16 : Int32) &&& 31).toUInt32).toInt32)
    obtain ⟨a, hfi⟩ := own_pick i1 1 0 i2
    obtain ⟨b, hma⟩ := own_pick i1 2 2147483647 i3
    by_cases hE : a = (0 : Int32) ∧ b = (2147483647 : Int32)
    · exact rm_law_E l s _ hw tables_1 i0 i1 i2 i3 _ _ n a b 0 0 da dk ea ek fo cs s.heap s.heap.size (Nat.le_refl _) rfl rfl (own_ccN _) (own_ccN _) (own_qm _) (own_qm _) hlen hn hfi hma Vda Vea lda lea (Old.start s) SX hE.1 hE.2
    · obtain ⟨ho, hho⟩ := own_flag a 0
      obtain ⟨hf, hhf⟩ := own_flag b 2147483647
      exact rm_law_M l s _ hw tables_1 i0 i1 i2 i3 _ _ n a b ho hf da dk ea ek fo cs s.heap s.heap.size (Nat.le_refl _) rfl rfl (own_ccN _) (own_ccN _) (own_qm _) (own_qm _) hlen hn hfi hma Vda Vea lda lea (Old.start s) SX hE hho hhf
  obtain ⟨n, o, h1, h2, h3, _, L, rfl, ⟨rfl, N⟩, -, hq⟩ := hM p e ha hc hk s m _ below hf ((Spec.applies_iff_loose hf).mp happ).1 ⟨rfl, State.Warmed39.refl s, rfl, CHv.start (own_EW hw) (fun p hp => hcalls.1 p hp) (hsets _ (List.mem_of_getElem? (i := 2) rfl)) (wi hw 3 rfl) (wi hw 2 rfl), sf0⟩ trivial
  refine ⟨n, _, h1, h2, h3, hpost _ _ _ _ _ _ ⟨Cond.after_iff.mpr rfl, Cond.after_iff.mpr (eq_i res_at (Term.int_eval (1)) rfl), trivial⟩ ⟨hq.1, hq.2.1, hq.2.2.1, (hq.2.2.2.sift fun y hy => Or.inr (N y hy)).mono (by decide) (by decide)⟩⟩
theorem main_1_1 : Claimed_1_1 := comes_1 fun _ _ _ _ _ _ h hF => ⟨h.1, hF⟩
theorem main_1_2 : Claimed_1_2 := comes_1 fun _ _ _ _ _ _ h hF => ⟨h.2.1, hF⟩
end Jvm.Pilot.@@N@@
namespace Jvm.Pilot.@@N@@
open Jvm Jvm.ClassFile Sem Op Lib Jvm.Free Jvm.Stand Jvm.Pilot.@@N@@.Jvm.D
/-! MADE BY PROGRAM (witnessworld.py) out of the Statement's table words and the real class files: 30 classes; the members and pool entries that the words name. The judged class is class 1, her method 1. -/
namespace start1
open Jvm.ClassFile
def u (s : String) : CpInfo := .utf8 (stringToUtf16 s)
/-- a pool by its gaps: so many unusable entries, then the entry; so many at the end -/
def gap : Nat → List CpInfo → List CpInfo
  | 0, r => r
  | n + 1, r => .unusable :: gap n r
def poolList (es : List (Nat × CpInfo)) (last : Nat) : List CpInfo := es.foldr (fun e r => gap e.1 (e.2 :: r)) (gap last [])
def pool (es : List (Nat × CpInfo)) (last : Nat) : Array CpInfo := ⟨poolList es last⟩
def fileOf (pool : Array CpInfo) (this : Nat) (attrs : Array Attribute := #[]) (ms : Array MethodInfo := #[]) (fl : Nat := 33) (sup : Nat := 0) (ifs : Array Nat := #[]) (fds : Array FieldInfo := #[]) : ClassFile where
  minorVersion := 0
  majorVersion := 65
  constantPool := pool
  accessFlags := fl
  thisClass := this
  superClass := sup
  interfaces := ifs
  fields := fds
  methods := ms
  attributes := attrs
def plain (name : String) (sup : Option ClassId) : Class where
  name := name
  kind := .ordinary
  loader := none
  accessFlags := 33
  super := sup
  interfaces := #[]
  cf := none
  fields := #[]
  methods := #[]
  instanceTypes := #[]
  staticTypes := #[]
  resolved := #[]
  callSites := []
  init := .initialized
  statics := none
  mirror := none

def pool0 : Array CpInfo := pool [(5, u "<init>"), (0, u "()V"), (1, .class_ 10), (1, u "java/lang/Object"), (85, u "clone"), (0, u "()Ljava/lang/Object;")] 26

def k0c0 : Code := { maxStack := 0, maxLocals := 1, code := object_method_1_code, exceptionTable := #[], attributes := #[] }
def k0m0 : Method := { name := "<init>", desc := "()V", sig := { parameters := [], returnType := none }, accessFlags := 1, code := some k0c0 }
def k0m1 : Method := { name := "clone", desc := "()Ljava/lang/Object;", sig := { parameters := [], returnType := some (.object "java/lang/Object") }, accessFlags := 260, code := none }
/-- java/lang/Object -/
def k0 : Class := { plain "java/lang/Object" none with
  accessFlags := 33
  interfaces := #[]
  cf := some (fileOf pool0 8 #[] #[{ accessFlags := 1, nameIndex := 5, descriptorIndex := 6, attributes := #[] }, { accessFlags := 260, nameIndex := 96, descriptorIndex := 97, attributes := #[] }] 33 0 #[] #[])
  fields := #[]
  methods := #[k0m0, k0m1]
  instanceTypes := #[]
  staticTypes := #[]
  resolved := Array.replicate 124 none
  statics := none }

def pool1 : Array CpInfo := pool [(2, .class_ 4), (1, u "java/lang/Object"), (0, u "<init>"), (0, u "()V"), (0, .string 8), (0, u ""), (0, .methodref 10 11), (0, .class_ 12), (0, .nameAndType 13 14), (0, u "java/lang/String"), (0, u "valueOf"), (0, u "(C)Ljava/lang/String;"), (0, .methodref 10 16), (0, .nameAndType 5 17), (0, u "([C)V"), (2, .integer 2147483647), (0, .methodref 22 23), (0, .class_ 24), (0, .nameAndType 25 26), (0, u "com/example/tessera/tessera/sql/SqlText"), (0, u "paged"), (0, u "(Ljava/lang/String;II)Ljava/lang/String;"), (0, .methodref 28 29), (0, .class_ 30), (0, .nameAndType 31 32), (0, u "com/example/tessera/tessera/sql/SqlTextPagedPinLaw"), (0, u "width"), (0, u "(I)I"), (0, .methodref 10 34), (0, .nameAndType 35 36), (0, u "length"), (0, u "()I"), (0, .methodref 10 38), (0, .nameAndType 39 40), (0, u "charAt"), (0, u "(I)C"), (0, .string 42), (0, u " OFFSET "), (0, .methodref 28 44), (0, .nameAndType 45 46), (0, u "lit"), (0, u "(Ljava/lang/String;ILjava/lang/String;)Z"), (0, .methodref 28 48), (0, .nameAndType 49 50), (0, u "num"), (0, u "(Ljava/lang/String;II)Z"), (0, .string 52), (0, u " ROWS"), (0, .string 54), (0, u " FETCH FIRST "), (0, .string 56), (0, u " ROWS ONLY"), (0, .long 10), (1, .long 100), (1, .long 1000), (1, .long 10000), (1, .long 100000), (1, .long 1000000), (1, .long 10000000), (1, .long 100000000), (1, .long 1000000000), (1, .methodref 28 76), (0, .nameAndType 77 78), (0, u "digits"), (0, u "(J)I"), (0, .methodref 28 80), (0, .nameAndType 81 82), (0, u "ok"), (0, u "(Ljava/lang/String;IJI)Z"), (2, u "law"), (0, u "(IIII)Z")] 5

def k1m0 : Method := { name := "<init>", desc := "()V", sig := { parameters := [], returnType := none }, accessFlags := 2, code := none }
def k1c1 : Code := { maxStack := 6, maxLocals := 16, code := code, exceptionTable := #[], attributes := #[] }
def k1m1 : Method := { name := "law", desc := "(IIII)Z", sig := { parameters := [.int, .int, .int, .int], returnType := some .boolean }, accessFlags := 9, code := some k1c1 }
def k1c2 : Code := { maxStack := 4, maxLocals := 2, code := method_3_code, exceptionTable := #[], attributes := #[] }
def k1m2 : Method := { name := "digits", desc := "(J)I", sig := { parameters := [.long], returnType := some .int }, accessFlags := 10, code := some k1c2 }
def k1c3 : Code := { maxStack := 4, maxLocals := 3, code := method_4_code, exceptionTable := #[], attributes := #[] }
def k1m3 : Method := { name := "width", desc := "(I)I", sig := { parameters := [.int], returnType := some .int }, accessFlags := 10, code := some k1c3 }
def k1c4 : Code := { maxStack := 5, maxLocals := 7, code := method_5_code, exceptionTable := #[], attributes := #[] }
def k1m4 : Method := { name := "ok", desc := "(Ljava/lang/String;IJI)Z", sig := { parameters := [(.object "java/lang/String"), .int, .long, .int], returnType := some .boolean }, accessFlags := 10, code := some k1c4 }
def k1c5 : Code := { maxStack := 6, maxLocals := 7, code := method_6_code, exceptionTable := #[], attributes := #[] }
def k1m5 : Method := { name := "num", desc := "(Ljava/lang/String;II)Z", sig := { parameters := [(.object "java/lang/String"), .int, .int], returnType := some .boolean }, accessFlags := 10, code := some k1c5 }
def k1c6 : Code := { maxStack := 3, maxLocals := 3, code := method_7_code, exceptionTable := #[], attributes := #[] }
def k1m6 : Method := { name := "lit", desc := "(Ljava/lang/String;ILjava/lang/String;)Z", sig := { parameters := [(.object "java/lang/String"), .int, (.object "java/lang/String")], returnType := some .boolean }, accessFlags := 10, code := some k1c6 }
/-- com/example/tessera/tessera/sql/SqlTextPagedPinLaw -/
def k1 : Class := { plain "com/example/tessera/tessera/sql/SqlTextPagedPinLaw" (some 0) with
  accessFlags := 49
  interfaces := #[]
  cf := some (fileOf pool1 28 #[] #[{ accessFlags := 2, nameIndex := 5, descriptorIndex := 6, attributes := #[] }, { accessFlags := 9, nameIndex := 85, descriptorIndex := 86, attributes := #[] }, { accessFlags := 10, nameIndex := 77, descriptorIndex := 78, attributes := #[] }, { accessFlags := 10, nameIndex := 31, descriptorIndex := 32, attributes := #[] }, { accessFlags := 10, nameIndex := 81, descriptorIndex := 82, attributes := #[] }, { accessFlags := 10, nameIndex := 49, descriptorIndex := 50, attributes := #[] }, { accessFlags := 10, nameIndex := 45, descriptorIndex := 46, attributes := #[] }] 49 2 #[] #[])
  fields := #[]
  methods := #[k1m0, k1m1, k1m2, k1m3, k1m4, k1m5, k1m6]
  instanceTypes := #[]
  staticTypes := #[]
  resolved := Array.replicate 92 none
  statics := none }

def pool2 : Array CpInfo := pool [(1, .class_ 2), (0, u "java/io/Serializable"), (0, .class_ 4), (0, u "java/lang/Object")] 2

/-- java/io/Serializable -/
def k2 : Class := { plain "java/io/Serializable" (some 0) with
  accessFlags := 1537
  interfaces := #[]
  cf := some (fileOf pool2 1 #[] #[] 1537 3 #[] #[])
  fields := #[]
  methods := #[]
  instanceTypes := #[]
  staticTypes := #[]
  resolved := Array.replicate 7 none
  statics := none }

def pool3 : Array CpInfo := pool [(1, .class_ 2), (0, u "java/lang/Comparable"), (0, .class_ 4), (0, u "java/lang/Object")] 7

/-- java/lang/Comparable -/
def k3 : Class := { plain "java/lang/Comparable" (some 0) with
  accessFlags := 1537
  interfaces := #[]
  cf := some (fileOf pool3 1 #[] #[] 1537 3 #[] #[])
  fields := #[]
  methods := #[]
  instanceTypes := #[]
  staticTypes := #[]
  resolved := Array.replicate 12 none
  statics := none }

def pool4 : Array CpInfo := pool [(2, .class_ 4), (1, u "java/lang/CharSequence"), (42, .class_ 48), (0, u "java/lang/CharSequence$1CodePointIterator"), (10, .class_ 60), (0, u "java/lang/CharSequence$1CharIterator"), (5, .class_ 67), (0, u "java/lang/Object")] 63

/-- java/lang/CharSequence -/
def k4 : Class := { plain "java/lang/CharSequence" (some 0) with
  accessFlags := 1537
  interfaces := #[]
  cf := some (fileOf pool4 2 #[.nestMembers #[47, 59]] #[] 1537 66 #[] #[])
  fields := #[]
  methods := #[]
  instanceTypes := #[]
  staticTypes := #[]
  resolved := Array.replicate 131 none
  statics := none }

def pool5 : Array CpInfo := pool [(1, .class_ 2), (0, u "java/lang/constant/Constable"), (0, .class_ 4), (0, u "java/lang/Object")] 6

/-- java/lang/constant/Constable -/
def k5 : Class := { plain "java/lang/constant/Constable" (some 0) with
  accessFlags := 1537
  interfaces := #[]
  cf := some (fileOf pool5 1 #[] #[] 1537 3 #[] #[])
  fields := #[]
  methods := #[]
  instanceTypes := #[]
  staticTypes := #[]
  resolved := Array.replicate 11 none
  statics := none }

def pool6 : Array CpInfo := pool [(1, .class_ 2), (0, u "java/lang/constant/ConstantDesc"), (0, .class_ 4), (0, u "java/lang/Object")] 32

/-- java/lang/constant/ConstantDesc -/
def k6 : Class := { plain "java/lang/constant/ConstantDesc" (some 0) with
  accessFlags := 1537
  interfaces := #[]
  cf := some (fileOf pool6 1 #[] #[] 1537 3 #[] #[])
  fields := #[]
  methods := #[]
  instanceTypes := #[]
  staticTypes := #[]
  resolved := Array.replicate 37 none
  statics := none }

def pool7 : Array CpInfo := pool [(1, .methodref 2 3), (0, .class_ 4), (0, .nameAndType 5 6), (0, u "java/lang/Object"), (0, u "<init>"), (0, u "()V"), (2, .fieldref 10 11), (0, .class_ 12), (0, .nameAndType 13 14), (0, u "java/lang/String"), (0, u "value"), (0, u "[B"), (0, .fieldref 10 16), (0, .nameAndType 17 18), (0, u "coder"), (0, u "B"), (2, u "hash"), (0, u "I"), (2, u "hashIsZero"), (0, u "Z"), (0, .methodref 10 28), (0, .nameAndType 5 29), (0, u "([CIILjava/lang/Void;)V"), (8, .fieldref 10 39), (0, .nameAndType 40 26), (0, u "COMPACT_STRINGS"), (1, .class_ 44), (1, u "java/lang/StringUTF16"), (0, u "compress"), (1, .methodref 42 48), (0, .nameAndType 49 50), (0, u "coderFromArrayLen"), (0, u "([BI)B"), (2, u "toBytes"), (0, .methodref 55 56), (0, .class_ 57), (0, .nameAndType 58 59), (0, u "java/util/Arrays"), (0, u "copyOfRange"), (0, u "([BII)[B"), (47, .class_ 109), (1, u "java/lang/StringLatin1"), (32, u "()Z"), (34, .methodref 42 178), (0, .nameAndType 45 179), (0, u "([CII)[B"), (13, .class_ 195), (1, u "java/lang/System"), (13, .methodref 10 210), (0, .nameAndType 5 211), (0, u "([BB)V"), (0, .methodref 193 213), (0, .nameAndType 214 215), (0, u "arraycopy"), (0, u "(Ljava/lang/Object;ILjava/lang/Object;II)V"), (118, u "()I"), (0, .methodref 10 336), (0, .nameAndType 17 337), (0, u "()B"), (2, u "()[B"), (22, u "([BI)C"), (5, u "(C)Z"), (21, u "(II)V"), (35, u "(I)C"), (61, .methodref 10 490), (0, .nameAndType 5 491), (0, u "(Ljava/lang/AbstractStringBuilder;Ljava/lang/Void;)V"), (0, .methodref 10 493), (0, .nameAndType 494 142), (0, u "isLatin1"), (0, .methodref 107 496), (0, .nameAndType 497 363), (0, u "charAt"), (3, u "checkIndex"), (4, .nameAndType 507 334), (0, u "length"), (24, u "getBytes"), (16, .methodref 550 506), (0, .class_ 551), (0, u "java/lang/AbstractStringBuilder"), (0, .methodref 550 553), (0, .nameAndType 554 340), (0, u "getValue"), (20, .class_ 576), (0, u "java/lang/CharSequence"), (22, u "CASE_INSENSITIVE_ORDER"), (0, u "Ljava/util/Comparator;"), (181, u "valueOf"), (0, u "(C)Ljava/lang/String;"), (37, u "([BIB)V"), (188, u "([C)V"), (4, .methodref 107 1016), (0, .nameAndType 1017 369), (0, u "canEncode"), (0, .methodref 107 1019), (0, .nameAndType 53 1020), (0, u "(C)[B"), (26, .methodref 550 493), (5, .fieldref 1054 1055), (0, .class_ 1056), (0, .nameAndType 1057 1058), (0, u "jdk/internal/util/Preconditions"), (0, u "SIOOBE_FORMATTER"), (0, u "Ljava/util/function/BiFunction;"), (0, .methodref 1054 1060), (0, .nameAndType 501 1061), (0, u "(IILjava/util/function/BiFunction;)I"), (39, u "serialPersistentFields"), (0, u "[Ljava/io/ObjectStreamField;"), (0, .class_ 1104), (0, u "java/lang/String$CaseInsensitiveComparator"), (1, .class_ 1107), (0, u "java/io/Serializable"), (0, .class_ 1109), (0, u "java/lang/Comparable"), (0, .class_ 1111), (0, u "java/lang/constant/Constable"), (0, .class_ 1113), (0, u "java/lang/constant/ConstantDesc"), (2, u "serialVersionUID"), (0, u "J"), (3, u "REPL"), (0, u "C"), (2, u "LATIN1"), (1, u "UTF16"), (105, u "(Ljava/lang/StringBuilder;)V")] 217

def k7m0 : Method := { name := "<init>", desc := "()V", sig := { parameters := [], returnType := none }, accessFlags := 1, code := none }
def k7c1 : Code := { maxStack := 5, maxLocals := 2, code := jdk_42_method_3_code, exceptionTable := #[], attributes := #[] }
def k7m1 : Method := { name := "<init>", desc := "([C)V", sig := { parameters := [(.array .char)], returnType := none }, accessFlags := 1, code := some k7c1 }
def k7c2 : Code := { maxStack := 3, maxLocals := 2, code := jdk_42_method_53_code, exceptionTable := #[], attributes := #[] }
def k7m2 : Method := { name := "<init>", desc := "(Ljava/lang/StringBuilder;)V", sig := { parameters := [(.object "java/lang/StringBuilder")], returnType := none }, accessFlags := 1, code := some k7c2 }
def k7c3 : Code := { maxStack := 2, maxLocals := 1, code := jdk_42_method_54_code, exceptionTable := #[], attributes := #[] }
def k7m3 : Method := { name := "length", desc := "()I", sig := { parameters := [], returnType := some .int }, accessFlags := 1, code := some k7c3 }
def k7c4 : Code := { maxStack := 2, maxLocals := 2, code := jdk_42_method_56_code, exceptionTable := #[], attributes := #[] }
def k7m4 : Method := { name := "charAt", desc := "(I)C", sig := { parameters := [.int], returnType := some .char }, accessFlags := 1, code := some k7c4 }
def k7c5 : Code := { maxStack := 4, maxLocals := 1, code := jdk_42_method_139_code, exceptionTable := #[], attributes := #[] }
def k7m5 : Method := { name := "valueOf", desc := "(C)Ljava/lang/String;", sig := { parameters := [.char], returnType := some (.object "java/lang/String") }, accessFlags := 9, code := some k7c5 }
def k7c6 : Code := { maxStack := 5, maxLocals := 4, code := jdk_42_method_147_code, exceptionTable := #[], attributes := #[] }
def k7m6 : Method := { name := "getBytes", desc := "([BIB)V", sig := { parameters := [(.array .byte), .int, .byte], returnType := none }, accessFlags := 0, code := some k7c6 }
def k7c7 : Code := { maxStack := 4, maxLocals := 6, code := jdk_42_method_149_code, exceptionTable := #[], attributes := #[] }
def k7m7 : Method := { name := "<init>", desc := "([CIILjava/lang/Void;)V", sig := { parameters := [(.array .char), .int, .int, (.object "java/lang/Void")], returnType := none }, accessFlags := 2, code := some k7c7 }
def k7c8 : Code := { maxStack := 5, maxLocals := 5, code := jdk_42_method_150_code, exceptionTable := #[], attributes := #[] }
def k7m8 : Method := { name := "<init>", desc := "(Ljava/lang/AbstractStringBuilder;Ljava/lang/Void;)V", sig := { parameters := [(.object "java/lang/AbstractStringBuilder"), (.object "java/lang/Void")], returnType := none }, accessFlags := 0, code := some k7c8 }
def k7c9 : Code := { maxStack := 2, maxLocals := 3, code := jdk_42_method_151_code, exceptionTable := #[], attributes := #[] }
def k7m9 : Method := { name := "<init>", desc := "([BB)V", sig := { parameters := [(.array .byte), .byte], returnType := none }, accessFlags := 0, code := some k7c9 }
def k7c10 : Code := { maxStack := 1, maxLocals := 1, code := jdk_42_method_152_code, exceptionTable := #[], attributes := #[] }
def k7m10 : Method := { name := "coder", desc := "()B", sig := { parameters := [], returnType := some .byte }, accessFlags := 0, code := some k7c10 }
def k7c11 : Code := { maxStack := 1, maxLocals := 1, code := jdk_42_method_154_code, exceptionTable := #[], attributes := #[] }
def k7m11 : Method := { name := "isLatin1", desc := "()Z", sig := { parameters := [], returnType := some .boolean }, accessFlags := 0, code := some k7c11 }
def k7c12 : Code := { maxStack := 3, maxLocals := 2, code := jdk_42_method_155_code, exceptionTable := #[], attributes := #[] }
def k7m12 : Method := { name := "checkIndex", desc := "(II)V", sig := { parameters := [.int, .int], returnType := none }, accessFlags := 8, code := some k7c12 }
/-- java/lang/String -/
def k7 : Class := { plain "java/lang/String" (some 0) with
  accessFlags := 49
  interfaces := #[2, 3, 4, 5, 6]
  cf := some (fileOf pool7 10 #[.nestMembers #[1103]] #[{ accessFlags := 1, nameIndex := 5, descriptorIndex := 6, attributes := #[] }, { accessFlags := 1, nameIndex := 5, descriptorIndex := 1010, attributes := #[] }, { accessFlags := 1, nameIndex := 5, descriptorIndex := 1233, attributes := #[] }, { accessFlags := 1, nameIndex := 507, descriptorIndex := 334, attributes := #[] }, { accessFlags := 1, nameIndex := 497, descriptorIndex := 427, attributes := #[] }, { accessFlags := 9, nameIndex := 782, descriptorIndex := 783, attributes := #[] }, { accessFlags := 0, nameIndex := 532, descriptorIndex := 821, attributes := #[] }, { accessFlags := 2, nameIndex := 5, descriptorIndex := 29, attributes := #[] }, { accessFlags := 0, nameIndex := 5, descriptorIndex := 491, attributes := #[] }, { accessFlags := 0, nameIndex := 5, descriptorIndex := 211, attributes := #[] }, { accessFlags := 0, nameIndex := 17, descriptorIndex := 337, attributes := #[] }, { accessFlags := 0, nameIndex := 494, descriptorIndex := 142, attributes := #[] }, { accessFlags := 8, nameIndex := 501, descriptorIndex := 391, attributes := #[] }] 49 2 #[1106, 1108, 575, 1110, 1112] #[{ accessFlags := 18, nameIndex := 13, descriptorIndex := 14, attributes := #[] }, { accessFlags := 18, nameIndex := 17, descriptorIndex := 18, attributes := #[] }, { accessFlags := 2, nameIndex := 21, descriptorIndex := 22, attributes := #[] }, { accessFlags := 2, nameIndex := 25, descriptorIndex := 26, attributes := #[] }, { accessFlags := 26, nameIndex := 1116, descriptorIndex := 1117, attributes := #[] }, { accessFlags := 24, nameIndex := 40, descriptorIndex := 26, attributes := #[] }, { accessFlags := 26, nameIndex := 1101, descriptorIndex := 1102, attributes := #[] }, { accessFlags := 26, nameIndex := 1121, descriptorIndex := 1122, attributes := #[] }, { accessFlags := 25, nameIndex := 599, descriptorIndex := 600, attributes := #[] }, { accessFlags := 24, nameIndex := 1125, descriptorIndex := 18, attributes := #[] }, { accessFlags := 24, nameIndex := 1127, descriptorIndex := 18, attributes := #[] }])
  fields := #[{ name := "value", type := (.array .byte), accessFlags := 18, slot := 0, constantValue := 0 }, { name := "coder", type := .byte, accessFlags := 18, slot := 1, constantValue := 0 }, { name := "hash", type := .int, accessFlags := 2, slot := 2, constantValue := 0 }, { name := "hashIsZero", type := .boolean, accessFlags := 2, slot := 3, constantValue := 0 }, { name := "serialVersionUID", type := .long, accessFlags := 26, slot := 0, constantValue := 0 }, { name := "COMPACT_STRINGS", type := .boolean, accessFlags := 24, slot := 1, constantValue := 0 }, { name := "serialPersistentFields", type := (.array (.object "java/io/ObjectStreamField")), accessFlags := 26, slot := 2, constantValue := 0 }, { name := "REPL", type := .char, accessFlags := 26, slot := 3, constantValue := 0 }, { name := "CASE_INSENSITIVE_ORDER", type := (.object "java/util/Comparator"), accessFlags := 25, slot := 4, constantValue := 0 }, { name := "LATIN1", type := .byte, accessFlags := 24, slot := 5, constantValue := 0 }, { name := "UTF16", type := .byte, accessFlags := 24, slot := 6, constantValue := 0 }]
  methods := #[k7m0, k7m1, k7m2, k7m3, k7m4, k7m5, k7m6, k7m7, k7m8, k7m9, k7m10, k7m11, k7m12]
  instanceTypes := #[(.array .byte), .byte, .int, .boolean]
  staticTypes := #[.long, .boolean, (.array (.object "java/io/ObjectStreamField")), .char, (.object "java/util/Comparator"), .byte, .byte]
  resolved := Array.replicate 1451 none
  statics := some 0 }

def pool8 : Array CpInfo := pool [(2, .class_ 4), (0, .nameAndType 5 6), (0, u "java/lang/Object"), (0, u "<init>"), (0, u "()V"), (6, .class_ 14), (0, u "java/lang/StringBuilder"), (0, .methodref 13 3), (0, .methodref 13 17), (0, .nameAndType 18 19), (0, u "append"), (0, u "(Ljava/lang/String;)Ljava/lang/StringBuilder;"), (2, .methodref 13 23), (0, .nameAndType 24 25), (0, u "toString"), (0, u "()Ljava/lang/String;"), (35, .class_ 63), (1, u "com/example/tessera/tessera/sql/SqlText"), (10, .string 75), (0, u ""), (90, .integer 2147483647), (0, .string 168), (0, u " OFFSET "), (0, .methodref 13 170), (0, .nameAndType 18 171), (0, u "(I)Ljava/lang/StringBuilder;"), (0, .string 173), (0, u " ROWS"), (0, .string 175), (0, u " FETCH FIRST "), (0, .string 177), (0, u " ROWS ONLY"), (63, u "paged"), (0, u "(Ljava/lang/String;II)Ljava/lang/String;")] 17

def k8m0 : Method := { name := "<init>", desc := "()V", sig := { parameters := [], returnType := none }, accessFlags := 2, code := none }
def k8c1 : Code := { maxStack := 2, maxLocals := 5, code := prog_35_method_14_code, exceptionTable := #[], attributes := #[] }
def k8m1 : Method := { name := "paged", desc := "(Ljava/lang/String;II)Ljava/lang/String;", sig := { parameters := [(.object "java/lang/String"), .int, .int], returnType := some (.object "java/lang/String") }, accessFlags := 9, code := some k8c1 }
/-- com/example/tessera/tessera/sql/SqlText -/
def k8 : Class := { plain "com/example/tessera/tessera/sql/SqlText" (some 0) with
  accessFlags := 49
  interfaces := #[]
  cf := some (fileOf pool8 61 #[] #[{ accessFlags := 2, nameIndex := 5, descriptorIndex := 6, attributes := #[] }, { accessFlags := 9, nameIndex := 241, descriptorIndex := 242, attributes := #[] }] 49 2 #[] #[])
  fields := #[]
  methods := #[k8m0, k8m1]
  instanceTypes := #[]
  staticTypes := #[]
  resolved := Array.replicate 260 none
  statics := none }

def pool9 : Array CpInfo := pool [(1, .class_ 2), (0, u "java/lang/String"), (1, .class_ 6), (1, u "java/lang/Object"), (0, u "<init>"), (0, u "()V"), (0, .methodref 1 10), (0, .nameAndType 11 12), (0, u "checkIndex"), (0, u "(II)V"), (1, .class_ 16), (1, u "java/lang/StringLatin1"), (36, u "([BI)C"), (36, u "canEncode"), (14, u "(C)Z"), (15, u "$assertionsDisabled"), (0, u "Z"), (98, .class_ 223), (1, u "java/lang/StringLatin1$LinesSpliterator"), (28, u "charAt"), (127, u "toBytes"), (1, u "(C)[B"), (7, .class_ 391), (0, u "java/lang/StringLatin1$CharsSpliterator")] 3

def k9m0 : Method := { name := "<init>", desc := "()V", sig := { parameters := [], returnType := none }, accessFlags := 0, code := none }
def k9c1 : Code := { maxStack := 2, maxLocals := 2, code := jdk_43_method_2_code, exceptionTable := #[], attributes := #[] }
def k9m1 : Method := { name := "charAt", desc := "([BI)C", sig := { parameters := [(.array .byte), .int], returnType := some .char }, accessFlags := 9, code := some k9c1 }
def k9c2 : Code := { maxStack := 2, maxLocals := 1, code := jdk_43_method_3_code, exceptionTable := #[], attributes := #[] }
def k9m2 : Method := { name := "canEncode", desc := "(C)Z", sig := { parameters := [.char], returnType := some .boolean }, accessFlags := 9, code := some k9c2 }
def k9c3 : Code := { maxStack := 4, maxLocals := 1, code := jdk_43_method_46_code, exceptionTable := #[], attributes := #[] }
def k9m3 : Method := { name := "toBytes", desc := "(C)[B", sig := { parameters := [.char], returnType := some (.array .byte) }, accessFlags := 9, code := some k9c3 }
/-- java/lang/StringLatin1 -/
def k9 : Class := { plain "java/lang/StringLatin1" (some 0) with
  accessFlags := 48
  interfaces := #[]
  cf := some (fileOf pool9 14 #[.nestMembers #[390, 221]] #[{ accessFlags := 0, nameIndex := 7, descriptorIndex := 8, attributes := #[] }, { accessFlags := 9, nameIndex := 252, descriptorIndex := 53, attributes := #[] }, { accessFlags := 9, nameIndex := 90, descriptorIndex := 105, attributes := #[] }, { accessFlags := 9, nameIndex := 380, descriptorIndex := 382, attributes := #[] }] 48 4 #[] #[{ accessFlags := 4120, nameIndex := 121, descriptorIndex := 122, attributes := #[] }])
  fields := #[{ name := "$assertionsDisabled", type := .boolean, accessFlags := 4120, slot := 0, constantValue := 0 }]
  methods := #[k9m0, k9m1, k9m2, k9m3]
  instanceTypes := #[]
  staticTypes := #[.boolean]
  resolved := Array.replicate 395 none
  statics := none }

def pool10 : Array CpInfo := pool [(1, .class_ 2), (0, u "java/lang/Appendable"), (0, .class_ 4), (0, u "java/lang/Object")] 9

/-- java/lang/Appendable -/
def k10 : Class := { plain "java/lang/Appendable" (some 0) with
  accessFlags := 1537
  interfaces := #[]
  cf := some (fileOf pool10 1 #[] #[] 1537 3 #[] #[])
  fields := #[]
  methods := #[]
  instanceTypes := #[]
  staticTypes := #[]
  resolved := Array.replicate 14 none
  statics := none }

def pool11 : Array CpInfo := pool [(1, .class_ 2), (0, u "java/lang/String"), (0, .methodref 4 5), (0, .class_ 6), (0, .nameAndType 7 8), (0, u "java/lang/Object"), (0, u "<init>"), (0, u "()V"), (1, .class_ 12), (1, u "java/lang/AbstractStringBuilder"), (0, u "EMPTYVALUE"), (0, u "[B"), (0, .fieldref 10 16), (0, .nameAndType 17 14), (0, u "value"), (0, .fieldref 1 19), (0, .nameAndType 20 21), (0, u "COMPACT_STRINGS"), (0, u "Z"), (0, .fieldref 10 23), (0, .nameAndType 24 25), (0, u "coder"), (0, u "B"), (6, .methodref 1 33), (0, .nameAndType 34 35), (0, u "length"), (0, u "()I"), (0, .class_ 37), (0, u "java/lang/Integer"), (1, .integer 2147483647), (0, .methodref 1 41), (0, .nameAndType 24 42), (0, u "()B"), (2, u "append"), (0, u "(Ljava/lang/String;)Ljava/lang/AbstractStringBuilder;"), (1, .class_ 49), (0, u "java/lang/CharSequence"), (19, u "(Ljava/lang/String;)V"), (5, u "maybeLatin1"), (3, .fieldref 10 80), (0, .nameAndType 81 82), (0, u "count"), (0, u "I"), (0, .methodref 10 84), (0, .nameAndType 85 86), (0, u "isLatin1"), (0, u "()Z"), (13, .methodref 10 101), (0, .nameAndType 102 103), (0, u "ensureCapacityInternal"), (0, u "(I)V"), (0, .methodref 10 105), (0, .nameAndType 106 107), (0, u "newCapacity"), (0, u "(I)I"), (0, .methodref 109 110), (0, .class_ 111), (0, .nameAndType 112 113), (0, u "java/util/Arrays"), (0, u "copyOf"), (0, u "([BI)[B"), (0, .methodref 115 116), (0, .class_ 117), (0, .nameAndType 118 119), (0, u "jdk/internal/util/ArraysSupport"), (0, u "newLength"), (0, u "(III)I"), (68, u "getChars"), (19, .methodref 10 209), (0, .nameAndType 210 211), (0, u "putStringAt"), (0, u "(ILjava/lang/String;)V"), (5, u "inflateIfNeededFor"), (2, .nameAndType 221 222), (0, u "getBytes"), (0, u "([BIB)V"), (22, .methodref 36 246), (0, .nameAndType 247 107), (0, u "stringSize"), (0, .methodref 36 249), (0, .nameAndType 188 250), (0, u "(II[B)I"), (146, .methodref 10 398), (0, .nameAndType 217 69), (0, .methodref 1 220), (3, u "()[B"), (40, .class_ 445), (0, u "java/lang/Appendable"), (65, u "(I)Ljava/lang/AbstractStringBuilder;"), (40, u "getValue")] 56

def k11m0 : Method := { name := "<init>", desc := "()V", sig := { parameters := [], returnType := none }, accessFlags := 0, code := none }
def k11c1 : Code := { maxStack := 2, maxLocals := 2, code := jdk_68_method_2_code, exceptionTable := #[], attributes := #[] }
def k11m1 : Method := { name := "<init>", desc := "(I)V", sig := { parameters := [.int], returnType := none }, accessFlags := 0, code := some k11c1 }
def k11c2 : Code := { maxStack := 1, maxLocals := 1, code := jdk_68_method_6_code, exceptionTable := #[], attributes := #[] }
def k11m2 : Method := { name := "length", desc := "()I", sig := { parameters := [], returnType := some .int }, accessFlags := 1, code := some k11c2 }
def k11c3 : Code := { maxStack := 4, maxLocals := 3, code := jdk_68_method_9_code, exceptionTable := #[], attributes := #[] }
def k11m3 : Method := { name := "ensureCapacityInternal", desc := "(I)V", sig := { parameters := [.int], returnType := none }, accessFlags := 2, code := some k11c3 }
def k11c4 : Code := { maxStack := 5, maxLocals := 6, code := jdk_68_method_10_code, exceptionTable := #[], attributes := #[] }
def k11m4 : Method := { name := "newCapacity", desc := "(I)I", sig := { parameters := [.int], returnType := some .int }, accessFlags := 2, code := some k11c4 }
def k11c5 : Code := { maxStack := 3, maxLocals := 3, code := jdk_68_method_22_code, exceptionTable := #[], attributes := #[] }
def k11m5 : Method := { name := "append", desc := "(Ljava/lang/String;)Ljava/lang/AbstractStringBuilder;", sig := { parameters := [(.object "java/lang/String")], returnType := some (.object "java/lang/AbstractStringBuilder") }, accessFlags := 1, code := some k11c5 }
def k11c6 : Code := { maxStack := 4, maxLocals := 4, code := jdk_68_method_32_code, exceptionTable := #[], attributes := #[] }
def k11m6 : Method := { name := "append", desc := "(I)Ljava/lang/AbstractStringBuilder;", sig := { parameters := [.int], returnType := some (.object "java/lang/AbstractStringBuilder") }, accessFlags := 1, code := some k11c6 }
def k11c7 : Code := { maxStack := 1, maxLocals := 1, code := jdk_68_method_64_code, exceptionTable := #[], attributes := #[] }
def k11m7 : Method := { name := "getValue", desc := "()[B", sig := { parameters := [], returnType := some (.array .byte) }, accessFlags := 16, code := some k11c7 }
def k11c8 : Code := { maxStack := 1, maxLocals := 1, code := jdk_68_method_68_code, exceptionTable := #[], attributes := #[] }
def k11m8 : Method := { name := "isLatin1", desc := "()Z", sig := { parameters := [], returnType := some .boolean }, accessFlags := 16, code := some k11c8 }
def k11c9 : Code := { maxStack := 2, maxLocals := 2, code := jdk_68_method_71_code, exceptionTable := #[], attributes := #[] }
def k11m9 : Method := { name := "inflateIfNeededFor", desc := "(Ljava/lang/String;)V", sig := { parameters := [(.object "java/lang/String")], returnType := none }, accessFlags := 2, code := some k11c9 }
def k11c10 : Code := { maxStack := 4, maxLocals := 3, code := jdk_68_method_73_code, exceptionTable := #[], attributes := #[] }
def k11m10 : Method := { name := "putStringAt", desc := "(ILjava/lang/String;)V", sig := { parameters := [.int, (.object "java/lang/String")], returnType := none }, accessFlags := 2, code := some k11c10 }
/-- java/lang/AbstractStringBuilder -/
def k11 : Class := { plain "java/lang/AbstractStringBuilder" (some 0) with
  accessFlags := 1056
  interfaces := #[10, 4]
  cf := some (fileOf pool11 10 #[] #[{ accessFlags := 0, nameIndex := 7, descriptorIndex := 8, attributes := #[] }, { accessFlags := 0, nameIndex := 7, descriptorIndex := 103, attributes := #[] }, { accessFlags := 1, nameIndex := 34, descriptorIndex := 35, attributes := #[] }, { accessFlags := 2, nameIndex := 102, descriptorIndex := 103, attributes := #[] }, { accessFlags := 2, nameIndex := 106, descriptorIndex := 107, attributes := #[] }, { accessFlags := 1, nameIndex := 45, descriptorIndex := 46, attributes := #[] }, { accessFlags := 1, nameIndex := 45, descriptorIndex := 511, attributes := #[] }, { accessFlags := 16, nameIndex := 552, descriptorIndex := 403, attributes := #[] }, { accessFlags := 16, nameIndex := 85, descriptorIndex := 86, attributes := #[] }, { accessFlags := 2, nameIndex := 217, descriptorIndex := 69, attributes := #[] }, { accessFlags := 2, nameIndex := 210, descriptorIndex := 211, attributes := #[] }] 1056 4 #[444, 48] #[{ accessFlags := 0, nameIndex := 17, descriptorIndex := 14, attributes := #[] }, { accessFlags := 0, nameIndex := 24, descriptorIndex := 25, attributes := #[] }, { accessFlags := 0, nameIndex := 75, descriptorIndex := 21, attributes := #[] }, { accessFlags := 0, nameIndex := 81, descriptorIndex := 82, attributes := #[] }, { accessFlags := 26, nameIndex := 13, descriptorIndex := 14, attributes := #[] }])
  fields := #[{ name := "value", type := (.array .byte), accessFlags := 0, slot := 0, constantValue := 0 }, { name := "coder", type := .byte, accessFlags := 0, slot := 1, constantValue := 0 }, { name := "maybeLatin1", type := .boolean, accessFlags := 0, slot := 2, constantValue := 0 }, { name := "count", type := .int, accessFlags := 0, slot := 3, constantValue := 0 }, { name := "EMPTYVALUE", type := (.array .byte), accessFlags := 26, slot := 0, constantValue := 0 }]
  methods := #[k11m0, k11m1, k11m2, k11m3, k11m4, k11m5, k11m6, k11m7, k11m8, k11m9, k11m10]
  instanceTypes := #[(.array .byte), .byte, .boolean, .int]
  staticTypes := #[(.array .byte)]
  resolved := Array.replicate 609 none
  statics := none }

def pool12 : Array CpInfo := pool [(1, .methodref 2 3), (0, .class_ 4), (0, .nameAndType 5 6), (0, u "java/lang/AbstractStringBuilder"), (0, u "<init>"), (0, u "(I)V"), (11, .class_ 20), (1, u "java/lang/String"), (3, .class_ 26), (1, u "java/lang/StringBuilder"), (0, u "append"), (0, u "(Ljava/lang/String;)Ljava/lang/StringBuilder;"), (0, .methodref 2 30), (0, .nameAndType 27 31), (0, u "(Ljava/lang/String;)Ljava/lang/AbstractStringBuilder;"), (21, .methodref 2 54), (0, .nameAndType 27 55), (0, u "(I)Ljava/lang/AbstractStringBuilder;"), (81, .methodref 18 138), (0, .nameAndType 5 139), (0, u "(Ljava/lang/StringBuilder;)V"), (5, u "()V"), (10, u "()I"), (111, u "(I)Ljava/lang/StringBuilder;"), (74, .methodref 2 344), (0, .nameAndType 345 156), (0, u "length"), (3, .class_ 350), (0, u "java/lang/Appendable"), (0, .class_ 352), (0, u "java/io/Serializable"), (0, .class_ 354), (0, u "java/lang/Comparable"), (0, .class_ 356), (0, u "java/lang/CharSequence"), (0, u "serialVersionUID"), (0, u "J"), (40, u "toString"), (0, u "()Ljava/lang/String;")] 21

def k12c0 : Code := { maxStack := 2, maxLocals := 1, code := jdk_67_method_1_code, exceptionTable := #[], attributes := #[] }
def k12m0 : Method := { name := "<init>", desc := "()V", sig := { parameters := [], returnType := none }, accessFlags := 1, code := some k12c0 }
def k12c1 : Code := { maxStack := 2, maxLocals := 2, code := jdk_67_method_7_code, exceptionTable := #[], attributes := #[] }
def k12m1 : Method := { name := "append", desc := "(Ljava/lang/String;)Ljava/lang/StringBuilder;", sig := { parameters := [(.object "java/lang/String")], returnType := some (.object "java/lang/StringBuilder") }, accessFlags := 1, code := some k12c1 }
def k12c2 : Code := { maxStack := 2, maxLocals := 2, code := jdk_67_method_15_code, exceptionTable := #[], attributes := #[] }
def k12m2 : Method := { name := "append", desc := "(I)Ljava/lang/StringBuilder;", sig := { parameters := [.int], returnType := some (.object "java/lang/StringBuilder") }, accessFlags := 1, code := some k12c2 }
def k12c3 : Code := { maxStack := 3, maxLocals := 1, code := jdk_67_method_42_code, exceptionTable := #[], attributes := #[] }
def k12m3 : Method := { name := "toString", desc := "()Ljava/lang/String;", sig := { parameters := [], returnType := some (.object "java/lang/String") }, accessFlags := 1, code := some k12c3 }
def k12c4 : Code := { maxStack := 1, maxLocals := 1, code := jdk_67_method_93_code, exceptionTable := #[], attributes := #[] }
def k12m4 : Method := { name := "length", desc := "()I", sig := { parameters := [], returnType := some .int }, accessFlags := 4161, code := some k12c4 }
/-- java/lang/StringBuilder -/
def k12 : Class := { plain "java/lang/StringBuilder" (some 11) with
  accessFlags := 49
  interfaces := #[10, 2, 3, 4]
  cf := some (fileOf pool12 24 #[] #[{ accessFlags := 1, nameIndex := 5, descriptorIndex := 145, attributes := #[] }, { accessFlags := 1, nameIndex := 27, descriptorIndex := 28, attributes := #[] }, { accessFlags := 1, nameIndex := 27, descriptorIndex := 268, attributes := #[] }, { accessFlags := 1, nameIndex := 399, descriptorIndex := 400, attributes := #[] }, { accessFlags := 4161, nameIndex := 345, descriptorIndex := 156, attributes := #[] }] 49 2 #[349, 351, 353, 355] #[{ accessFlags := 24, nameIndex := 357, descriptorIndex := 358, attributes := #[] }])
  fields := #[{ name := "serialVersionUID", type := .long, accessFlags := 24, slot := 0, constantValue := 0 }]
  methods := #[k12m0, k12m1, k12m2, k12m3, k12m4]
  instanceTypes := #[(.array .byte), .byte, .boolean, .int]
  staticTypes := #[.long]
  resolved := Array.replicate 422 none
  statics := none }

def pool13 : Array CpInfo := pool [(2, .class_ 4), (1, u "java/lang/Object"), (0, u "<init>"), (0, u "()V"), (1, .class_ 10), (1, u "java/lang/System"), (0, u "allowSecurityManager"), (0, u "I"), (16, u "cons"), (0, u "Ljava/io/Console;"), (77, .class_ 110), (1, u "java/lang/System$CallersHolder"), (43, u "initialErrStream"), (0, u "Ljava/io/PrintStream;"), (19, u "security"), (0, u "Ljava/lang/SecurityManager;"), (31, .class_ 209), (0, u "java/lang/System$1"), (7, u "props"), (0, u "Ljava/util/Properties;"), (2, u "lineSeparator"), (0, u "Ljava/lang/String;"), (96, .class_ 321), (1, u "java/lang/System$LoggerFinder"), (5, .class_ 328), (0, u "java/lang/System$Logger"), (67, u "err"), (2, u "out"), (91, u "notSupportedJnuEncoding"), (15, u "in"), (17, u "initialIn"), (0, u "Ljava/io/InputStream;"), (35, u "bootLayer"), (0, u "Ljava/lang/ModuleLayer;"), (99, .class_ 664), (0, u "java/lang/System$2"), (9, u "NEVER"), (2, u "MAYBE"), (49, u "arraycopy"), (0, u "(Ljava/lang/Object;ILjava/lang/Object;II)V"), (72, .class_ 802), (0, u "java/lang/System$Logger$Level")] 31

def k13m0 : Method := { name := "<init>", desc := "()V", sig := { parameters := [], returnType := none }, accessFlags := 2, code := none }
def k13m1 : Method := { name := "arraycopy", desc := "(Ljava/lang/Object;ILjava/lang/Object;II)V", sig := { parameters := [(.object "java/lang/Object"), .int, (.object "java/lang/Object"), .int, .int], returnType := none }, accessFlags := 265, code := none }
/-- java/lang/System -/
def k13 : Class := { plain "java/lang/System" (some 0) with
  accessFlags := 49
  interfaces := #[]
  cf := some (fileOf pool13 8 #[.nestMembers #[319, 327, 801, 108, 663, 208]] #[{ accessFlags := 2, nameIndex := 5, descriptorIndex := 6, attributes := #[] }, { accessFlags := 265, nameIndex := 727, descriptorIndex := 728, attributes := #[] }] 49 2 #[] #[{ accessFlags := 25, nameIndex := 507, descriptorIndex := 526, attributes := #[] }, { accessFlags := 25, nameIndex := 399, descriptorIndex := 155, attributes := #[] }, { accessFlags := 25, nameIndex := 396, descriptorIndex := 155, attributes := #[] }, { accessFlags := 10, nameIndex := 525, descriptorIndex := 526, attributes := #[] }, { accessFlags := 26, nameIndex := 674, descriptorIndex := 12, attributes := #[] }, { accessFlags := 26, nameIndex := 677, descriptorIndex := 12, attributes := #[] }, { accessFlags := 10, nameIndex := 11, descriptorIndex := 12, attributes := #[] }, { accessFlags := 74, nameIndex := 175, descriptorIndex := 176, attributes := #[] }, { accessFlags := 10, nameIndex := 491, descriptorIndex := 222, attributes := #[] }, { accessFlags := 74, nameIndex := 29, descriptorIndex := 30, attributes := #[] }, { accessFlags := 74, nameIndex := 154, descriptorIndex := 155, attributes := #[] }, { accessFlags := 10, nameIndex := 217, descriptorIndex := 218, attributes := #[] }, { accessFlags := 10, nameIndex := 221, descriptorIndex := 222, attributes := #[] }, { accessFlags := 8, nameIndex := 562, descriptorIndex := 563, attributes := #[] }])
  fields := #[{ name := "in", type := (.object "java/io/InputStream"), accessFlags := 25, slot := 0, constantValue := 0 }, { name := "out", type := (.object "java/io/PrintStream"), accessFlags := 25, slot := 1, constantValue := 0 }, { name := "err", type := (.object "java/io/PrintStream"), accessFlags := 25, slot := 2, constantValue := 0 }, { name := "initialIn", type := (.object "java/io/InputStream"), accessFlags := 10, slot := 3, constantValue := 0 }, { name := "NEVER", type := .int, accessFlags := 26, slot := 4, constantValue := 0 }, { name := "MAYBE", type := .int, accessFlags := 26, slot := 5, constantValue := 0 }, { name := "allowSecurityManager", type := .int, accessFlags := 10, slot := 6, constantValue := 0 }, { name := "security", type := (.object "java/lang/SecurityManager"), accessFlags := 74, slot := 7, constantValue := 0 }, { name := "notSupportedJnuEncoding", type := (.object "java/lang/String"), accessFlags := 10, slot := 8, constantValue := 0 }, { name := "cons", type := (.object "java/io/Console"), accessFlags := 74, slot := 9, constantValue := 0 }, { name := "initialErrStream", type := (.object "java/io/PrintStream"), accessFlags := 74, slot := 10, constantValue := 0 }, { name := "props", type := (.object "java/util/Properties"), accessFlags := 10, slot := 11, constantValue := 0 }, { name := "lineSeparator", type := (.object "java/lang/String"), accessFlags := 10, slot := 12, constantValue := 0 }, { name := "bootLayer", type := (.object "java/lang/ModuleLayer"), accessFlags := 8, slot := 13, constantValue := 0 }]
  methods := #[k13m0, k13m1]
  instanceTypes := #[]
  staticTypes := #[(.object "java/io/InputStream"), (.object "java/io/PrintStream"), (.object "java/io/PrintStream"), (.object "java/io/InputStream"), .int, .int, .int, (.object "java/lang/SecurityManager"), (.object "java/lang/String"), (.object "java/io/Console"), (.object "java/io/PrintStream"), (.object "java/util/Properties"), (.object "java/lang/String"), (.object "java/lang/ModuleLayer")]
  resolved := Array.replicate 834 none
  statics := none }

def pool14 : Array CpInfo := pool [(2, .class_ 4), (1, u "java/lang/Object"), (0, u "<init>"), (0, u "()V"), (1, .class_ 10), (1, u "java/lang/Number"), (2, .class_ 14), (0, u "java/io/Serializable"), (0, u "serialVersionUID"), (0, u "J")] 20

def k14m0 : Method := { name := "<init>", desc := "()V", sig := { parameters := [], returnType := none }, accessFlags := 1, code := none }
/-- java/lang/Number -/
def k14 : Class := { plain "java/lang/Number" (some 0) with
  accessFlags := 1057
  interfaces := #[2]
  cf := some (fileOf pool14 8 #[] #[{ accessFlags := 1, nameIndex := 5, descriptorIndex := 6, attributes := #[] }] 1057 2 #[13] #[{ accessFlags := 26, nameIndex := 15, descriptorIndex := 16, attributes := #[] }])
  fields := #[{ name := "serialVersionUID", type := .long, accessFlags := 26, slot := 0, constantValue := 0 }]
  methods := #[k14m0]
  instanceTypes := #[]
  staticTypes := #[.long]
  resolved := Array.replicate 37 none
  statics := none }

def pool15 : Array CpInfo := pool [(1, .class_ 2), (0, u "java/lang/Integer"), (16, u "digits"), (0, u "[C"), (33, u "(I)I"), (19, u "stringSize"), (2, u "getChars"), (0, u "(II[B)I"), (4, .fieldref 1 84), (0, .nameAndType 85 86), (0, u "DigitOnes"), (0, u "[B"), (0, .fieldref 1 88), (0, .nameAndType 89 86), (0, u "DigitTens"), (99, .class_ 190), (0, u "java/lang/Integer$IntegerCache"), (3, u "I"), (8, .class_ 204), (0, u "java/lang/Number"), (2, u "value"), (94, u "TYPE"), (0, u "Ljava/lang/Class;"), (0, .class_ 305), (0, u "java/lang/Comparable"), (0, .class_ 307), (0, u "java/lang/constant/Constable"), (0, .class_ 309), (0, u "java/lang/constant/ConstantDesc"), (0, u "MIN_VALUE"), (1, u "MAX_VALUE"), (3, u "SIZE"), (1, u "BYTES"), (1, u "serialVersionUID"), (0, u "J")] 131

def k15c0 : Code := { maxStack := 4, maxLocals := 7, code := jdk_33_method_12_code, exceptionTable := #[], attributes := #[] }
def k15m0 : Method := { name := "getChars", desc := "(II[B)I", sig := { parameters := [.int, .int, (.array .byte)], returnType := some .int }, accessFlags := 8, code := some k15c0 }
def k15c1 : Code := { maxStack := 2, maxLocals := 4, code := jdk_33_method_13_code, exceptionTable := #[], attributes := #[] }
def k15m1 : Method := { name := "stringSize", desc := "(I)I", sig := { parameters := [.int], returnType := some .int }, accessFlags := 8, code := some k15c1 }
/-- java/lang/Integer -/
def k15 : Class := { plain "java/lang/Integer" (some 14) with
  accessFlags := 49
  interfaces := #[3, 5, 6]
  cf := some (fileOf pool15 1 #[.nestMembers #[189]] #[{ accessFlags := 8, nameIndex := 77, descriptorIndex := 78, attributes := #[] }, { accessFlags := 8, nameIndex := 74, descriptorIndex := 54, attributes := #[] }] 49 203 #[304, 306, 308] #[{ accessFlags := 25, nameIndex := 310, descriptorIndex := 194, attributes := #[] }, { accessFlags := 25, nameIndex := 312, descriptorIndex := 194, attributes := #[] }, { accessFlags := 25, nameIndex := 302, descriptorIndex := 303, attributes := #[] }, { accessFlags := 24, nameIndex := 19, descriptorIndex := 20, attributes := #[] }, { accessFlags := 24, nameIndex := 89, descriptorIndex := 86, attributes := #[] }, { accessFlags := 24, nameIndex := 85, descriptorIndex := 86, attributes := #[] }, { accessFlags := 18, nameIndex := 207, descriptorIndex := 194, attributes := #[] }, { accessFlags := 25, nameIndex := 316, descriptorIndex := 194, attributes := #[] }, { accessFlags := 25, nameIndex := 318, descriptorIndex := 194, attributes := #[] }, { accessFlags := 26, nameIndex := 320, descriptorIndex := 321, attributes := #[] }])
  fields := #[{ name := "MIN_VALUE", type := .int, accessFlags := 25, slot := 0, constantValue := 0 }, { name := "MAX_VALUE", type := .int, accessFlags := 25, slot := 1, constantValue := 0 }, { name := "TYPE", type := (.object "java/lang/Class"), accessFlags := 25, slot := 2, constantValue := 0 }, { name := "digits", type := (.array .char), accessFlags := 24, slot := 3, constantValue := 0 }, { name := "DigitTens", type := (.array .byte), accessFlags := 24, slot := 4, constantValue := 0 }, { name := "DigitOnes", type := (.array .byte), accessFlags := 24, slot := 5, constantValue := 0 }, { name := "value", type := .int, accessFlags := 18, slot := 0, constantValue := 0 }, { name := "SIZE", type := .int, accessFlags := 25, slot := 6, constantValue := 0 }, { name := "BYTES", type := .int, accessFlags := 25, slot := 7, constantValue := 0 }, { name := "serialVersionUID", type := .long, accessFlags := 26, slot := 8, constantValue := 0 }]
  methods := #[k15m0, k15m1]
  instanceTypes := #[.int]
  staticTypes := #[.int, .int, (.object "java/lang/Class"), (.array .char), (.array .byte), (.array .byte), .int, .int, .long]
  resolved := Array.replicate 453 none
  statics := some 1 }

def pool16 : Array CpInfo := pool [(9, u "<init>"), (6, .class_ 18), (1, u "java/lang/Object"), (0, u "()V"), (1, .class_ 23), (1, u "jdk/internal/util/ArraysSupport"), (0, u "LOG2_ARRAY_LONG_INDEX_SCALE"), (0, u "I"), (2, u "U"), (0, u "Ljdk/internal/misc/Unsafe;"), (8, u "BIG_ENDIAN"), (0, u "Z"), (8, u "LOG2_BYTE_BIT_SIZE"), (4, u "LOG2_ARRAY_INT_INDEX_SCALE"), (54, u "JLA"), (0, u "Ljdk/internal/access/JavaLangAccess;"), (11, u "LOG2_ARRAY_BOOLEAN_INDEX_SCALE"), (9, u "LOG2_ARRAY_BYTE_INDEX_SCALE"), (5, u "LOG2_ARRAY_CHAR_INDEX_SCALE"), (5, u "LOG2_ARRAY_SHORT_INDEX_SCALE"), (18, u "LOG2_ARRAY_FLOAT_INDEX_SCALE"), (24, u "LOG2_ARRAY_DOUBLE_INDEX_SCALE"), (6, .methodref 195 196), (0, .class_ 197), (0, .nameAndType 198 199), (0, u "java/lang/Math"), (0, u "max"), (0, u "(II)I"), (0, .integer 2147483639), (76, u "T_BOOLEAN"), (2, u "T_CHAR"), (1, u "T_FLOAT"), (1, u "T_DOUBLE"), (1, u "T_BYTE"), (1, u "T_SHORT"), (1, u "T_INT"), (1, u "T_LONG"), (1, u "SOFT_MAX_ARRAY_LENGTH"), (56, u "newLength"), (0, u "(III)I")] 25

def k16m0 : Method := { name := "<init>", desc := "()V", sig := { parameters := [], returnType := none }, accessFlags := 2, code := none }
def k16c1 : Code := { maxStack := 3, maxLocals := 4, code := jdk_48_method_27_code, exceptionTable := #[], attributes := #[] }
def k16m1 : Method := { name := "newLength", desc := "(III)I", sig := { parameters := [.int, .int, .int], returnType := some .int }, accessFlags := 9, code := some k16c1 }
/-- jdk/internal/util/ArraysSupport -/
def k16 : Class := { plain "jdk/internal/util/ArraysSupport" (some 0) with
  accessFlags := 33
  interfaces := #[]
  cf := some (fileOf pool16 21 #[] #[{ accessFlags := 2, nameIndex := 9, descriptorIndex := 19, attributes := #[] }, { accessFlags := 9, nameIndex := 351, descriptorIndex := 352, attributes := #[] }] 33 16 #[] #[{ accessFlags := 24, nameIndex := 28, descriptorIndex := 29, attributes := #[] }, { accessFlags := 26, nameIndex := 38, descriptorIndex := 39, attributes := #[] }, { accessFlags := 25, nameIndex := 121, descriptorIndex := 25, attributes := #[] }, { accessFlags := 25, nameIndex := 131, descriptorIndex := 25, attributes := #[] }, { accessFlags := 25, nameIndex := 137, descriptorIndex := 25, attributes := #[] }, { accessFlags := 25, nameIndex := 143, descriptorIndex := 25, attributes := #[] }, { accessFlags := 25, nameIndex := 53, descriptorIndex := 25, attributes := #[] }, { accessFlags := 25, nameIndex := 24, descriptorIndex := 25, attributes := #[] }, { accessFlags := 25, nameIndex := 162, descriptorIndex := 25, attributes := #[] }, { accessFlags := 25, nameIndex := 187, descriptorIndex := 25, attributes := #[] }, { accessFlags := 26, nameIndex := 48, descriptorIndex := 25, attributes := #[] }, { accessFlags := 25, nameIndex := 277, descriptorIndex := 25, attributes := #[] }, { accessFlags := 25, nameIndex := 280, descriptorIndex := 25, attributes := #[] }, { accessFlags := 25, nameIndex := 282, descriptorIndex := 25, attributes := #[] }, { accessFlags := 25, nameIndex := 284, descriptorIndex := 25, attributes := #[] }, { accessFlags := 25, nameIndex := 286, descriptorIndex := 25, attributes := #[] }, { accessFlags := 25, nameIndex := 288, descriptorIndex := 25, attributes := #[] }, { accessFlags := 25, nameIndex := 290, descriptorIndex := 25, attributes := #[] }, { accessFlags := 25, nameIndex := 292, descriptorIndex := 25, attributes := #[] }, { accessFlags := 26, nameIndex := 108, descriptorIndex := 109, attributes := #[] }, { accessFlags := 25, nameIndex := 294, descriptorIndex := 25, attributes := #[] }])
  fields := #[{ name := "U", type := (.object "jdk/internal/misc/Unsafe"), accessFlags := 24, slot := 0, constantValue := 0 }, { name := "BIG_ENDIAN", type := .boolean, accessFlags := 26, slot := 1, constantValue := 0 }, { name := "LOG2_ARRAY_BOOLEAN_INDEX_SCALE", type := .int, accessFlags := 25, slot := 2, constantValue := 0 }, { name := "LOG2_ARRAY_BYTE_INDEX_SCALE", type := .int, accessFlags := 25, slot := 3, constantValue := 0 }, { name := "LOG2_ARRAY_CHAR_INDEX_SCALE", type := .int, accessFlags := 25, slot := 4, constantValue := 0 }, { name := "LOG2_ARRAY_SHORT_INDEX_SCALE", type := .int, accessFlags := 25, slot := 5, constantValue := 0 }, { name := "LOG2_ARRAY_INT_INDEX_SCALE", type := .int, accessFlags := 25, slot := 6, constantValue := 0 }, { name := "LOG2_ARRAY_LONG_INDEX_SCALE", type := .int, accessFlags := 25, slot := 7, constantValue := 0 }, { name := "LOG2_ARRAY_FLOAT_INDEX_SCALE", type := .int, accessFlags := 25, slot := 8, constantValue := 0 }, { name := "LOG2_ARRAY_DOUBLE_INDEX_SCALE", type := .int, accessFlags := 25, slot := 9, constantValue := 0 }, { name := "LOG2_BYTE_BIT_SIZE", type := .int, accessFlags := 26, slot := 10, constantValue := 0 }, { name := "T_BOOLEAN", type := .int, accessFlags := 25, slot := 11, constantValue := 0 }, { name := "T_CHAR", type := .int, accessFlags := 25, slot := 12, constantValue := 0 }, { name := "T_FLOAT", type := .int, accessFlags := 25, slot := 13, constantValue := 0 }, { name := "T_DOUBLE", type := .int, accessFlags := 25, slot := 14, constantValue := 0 }, { name := "T_BYTE", type := .int, accessFlags := 25, slot := 15, constantValue := 0 }, { name := "T_SHORT", type := .int, accessFlags := 25, slot := 16, constantValue := 0 }, { name := "T_INT", type := .int, accessFlags := 25, slot := 17, constantValue := 0 }, { name := "T_LONG", type := .int, accessFlags := 25, slot := 18, constantValue := 0 }, { name := "JLA", type := (.object "jdk/internal/access/JavaLangAccess"), accessFlags := 26, slot := 19, constantValue := 0 }, { name := "SOFT_MAX_ARRAY_LENGTH", type := .int, accessFlags := 25, slot := 20, constantValue := 0 }]
  methods := #[k16m0, k16m1]
  instanceTypes := #[]
  staticTypes := #[(.object "jdk/internal/misc/Unsafe"), .boolean, .int, .int, .int, .int, .int, .int, .int, .int, .int, .int, .int, .int, .int, .int, .int, .int, .int, (.object "jdk/internal/access/JavaLangAccess"), .int]
  resolved := Array.replicate 378 none
  statics := none }

def pool17 : Array CpInfo := pool [(1, .class_ 2), (0, u "java/lang/Math"), (1, .class_ 6), (1, u "java/lang/Object"), (0, u "<init>"), (0, u "()V"), (89, .class_ 100), (1, u "java/lang/Math$RandomNumberGeneratorHolder"), (71, u "negativeZeroFloatBits"), (0, u "J"), (2, u "negativeZeroDoubleBits"), (21, u "max"), (2, u "min"), (43, u "$assertionsDisabled"), (0, u "Z"), (88, u "(II)I"), (2, u "twoToTheDoubleScaleDown"), (0, u "D"), (4, u "twoToTheDoubleScaleUp"), (9, u "E"), (3, u "PI"), (2, u "TAU"), (2, u "DEGREES_TO_RADIANS"), (0, u "RADIANS_TO_DEGREES")] 94

def k17m0 : Method := { name := "<init>", desc := "()V", sig := { parameters := [], returnType := none }, accessFlags := 2, code := none }
def k17c1 : Code := { maxStack := 2, maxLocals := 2, code := jdk_29_method_65_code, exceptionTable := #[], attributes := #[] }
def k17m1 : Method := { name := "max", desc := "(II)I", sig := { parameters := [.int, .int], returnType := some .int }, accessFlags := 9, code := some k17c1 }
def k17c2 : Code := { maxStack := 2, maxLocals := 2, code := jdk_29_method_69_code, exceptionTable := #[], attributes := #[] }
def k17m2 : Method := { name := "min", desc := "(II)I", sig := { parameters := [.int, .int], returnType := some .int }, accessFlags := 9, code := some k17c2 }
/-- java/lang/Math -/
def k17 : Class := { plain "java/lang/Math" (some 0) with
  accessFlags := 49
  interfaces := #[]
  cf := some (fileOf pool17 1 #[.nestMembers #[98]] #[{ accessFlags := 2, nameIndex := 7, descriptorIndex := 8, attributes := #[] }, { accessFlags := 9, nameIndex := 198, descriptorIndex := 335, attributes := #[] }, { accessFlags := 9, nameIndex := 201, descriptorIndex := 335, attributes := #[] }] 49 4 #[] #[{ accessFlags := 25, nameIndex := 354, descriptorIndex := 339, attributes := #[] }, { accessFlags := 25, nameIndex := 358, descriptorIndex := 339, attributes := #[] }, { accessFlags := 25, nameIndex := 361, descriptorIndex := 339, attributes := #[] }, { accessFlags := 26, nameIndex := 364, descriptorIndex := 339, attributes := #[] }, { accessFlags := 26, nameIndex := 365, descriptorIndex := 339, attributes := #[] }, { accessFlags := 26, nameIndex := 172, descriptorIndex := 173, attributes := #[] }, { accessFlags := 26, nameIndex := 176, descriptorIndex := 173, attributes := #[] }, { accessFlags := 8, nameIndex := 344, descriptorIndex := 339, attributes := #[] }, { accessFlags := 8, nameIndex := 338, descriptorIndex := 339, attributes := #[] }, { accessFlags := 4120, nameIndex := 245, descriptorIndex := 246, attributes := #[] }])
  fields := #[{ name := "E", type := .double, accessFlags := 25, slot := 0, constantValue := 0 }, { name := "PI", type := .double, accessFlags := 25, slot := 1, constantValue := 0 }, { name := "TAU", type := .double, accessFlags := 25, slot := 2, constantValue := 0 }, { name := "DEGREES_TO_RADIANS", type := .double, accessFlags := 26, slot := 3, constantValue := 0 }, { name := "RADIANS_TO_DEGREES", type := .double, accessFlags := 26, slot := 4, constantValue := 0 }, { name := "negativeZeroFloatBits", type := .long, accessFlags := 26, slot := 5, constantValue := 0 }, { name := "negativeZeroDoubleBits", type := .long, accessFlags := 26, slot := 6, constantValue := 0 }, { name := "twoToTheDoubleScaleUp", type := .double, accessFlags := 8, slot := 7, constantValue := 0 }, { name := "twoToTheDoubleScaleDown", type := .double, accessFlags := 8, slot := 8, constantValue := 0 }, { name := "$assertionsDisabled", type := .boolean, accessFlags := 4120, slot := 9, constantValue := 0 }]
  methods := #[k17m0, k17m1, k17m2]
  instanceTypes := #[]
  staticTypes := #[.double, .double, .double, .double, .double, .long, .long, .double, .double, .boolean]
  resolved := Array.replicate 460 none
  statics := none }

def pool18 : Array CpInfo := pool [(2, .class_ 4), (1, u "java/lang/Object"), (0, u "<init>"), (0, u "()V"), (7, .class_ 16), (1, u "java/util/Arrays"), (57, .class_ 76), (1, u "java/util/Arrays$NaturalOrder"), (32, u "()Ljava/lang/Object;"), (3, .class_ 115), (1, u "java/util/Arrays$LegacyMergeSort"), (1, u "Z"), (10, .nameAndType 129 109), (0, u "clone"), (9, u "copyOfRange"), (10, .methodref 151 152), (0, .class_ 153), (0, .nameAndType 154 155), (0, u "java/lang/System"), (0, u "arraycopy"), (0, u "(Ljava/lang/Object;ILjava/lang/Object;II)V"), (146, u "copyOf"), (1, .methodref 305 306), (0, .class_ 307), (0, .nameAndType 308 309), (0, u "java/lang/Math"), (0, u "min"), (0, u "(II)I"), (0, .methodref 311 128), (0, .class_ 312), (0, u "[B"), (26, .methodref 14 340), (0, .nameAndType 341 342), (0, u "copyOfRangeByte"), (0, u "([BII)[B"), (0, .methodref 14 344), (0, .nameAndType 345 346), (0, u "checkLength"), (0, u "(II)V"), (28, .class_ 376), (0, u "java/util/Arrays$ArrayList"), (68, u "$assertionsDisabled"), (269, u "MIN_ARRAY_SORT_GRAN"), (0, u "I"), (2, u "INSERTIONSORT_THRESHOLD"), (149, u "([BI)[B"), (105, .class_ 976), (0, u "java/util/Arrays$ArrayItr")] 52

def k18m0 : Method := { name := "<init>", desc := "()V", sig := { parameters := [], returnType := none }, accessFlags := 2, code := none }
def k18c1 : Code := { maxStack := 6, maxLocals := 3, code := jdk_65_method_121_code, exceptionTable := #[], attributes := #[] }
def k18m1 : Method := { name := "copyOf", desc := "([BI)[B", sig := { parameters := [(.array .byte), .int], returnType := some (.array .byte) }, accessFlags := 9, code := some k18c1 }
def k18c2 : Code := { maxStack := 4, maxLocals := 2, code := jdk_65_method_131_code, exceptionTable := #[], attributes := #[] }
def k18m2 : Method := { name := "checkLength", desc := "(II)V", sig := { parameters := [.int, .int], returnType := none }, accessFlags := 10, code := some k18c2 }
def k18c3 : Code := { maxStack := 3, maxLocals := 3, code := jdk_65_method_132_code, exceptionTable := #[], attributes := #[] }
def k18m3 : Method := { name := "copyOfRange", desc := "([BII)[B", sig := { parameters := [(.array .byte), .int, .int], returnType := some (.array .byte) }, accessFlags := 9, code := some k18c3 }
def k18c4 : Code := { maxStack := 6, maxLocals := 5, code := jdk_65_method_133_code, exceptionTable := #[], attributes := #[] }
def k18m4 : Method := { name := "copyOfRangeByte", desc := "([BII)[B", sig := { parameters := [(.array .byte), .int, .int], returnType := some (.array .byte) }, accessFlags := 10, code := some k18c4 }
/-- java/util/Arrays -/
def k18 : Class := { plain "java/util/Arrays" (some 0) with
  accessFlags := 49
  interfaces := #[]
  cf := some (fileOf pool18 14 #[.nestMembers #[975, 375, 113, 74]] #[{ accessFlags := 2, nameIndex := 5, descriptorIndex := 6, attributes := #[] }, { accessFlags := 9, nameIndex := 302, descriptorIndex := 869, attributes := #[] }, { accessFlags := 10, nameIndex := 345, descriptorIndex := 346, attributes := #[] }, { accessFlags := 9, nameIndex := 139, descriptorIndex := 342, attributes := #[] }, { accessFlags := 10, nameIndex := 341, descriptorIndex := 342, attributes := #[] }] 49 2 #[] #[{ accessFlags := 26, nameIndex := 715, descriptorIndex := 716, attributes := #[] }, { accessFlags := 26, nameIndex := 719, descriptorIndex := 716, attributes := #[] }, { accessFlags := 4120, nameIndex := 445, descriptorIndex := 117, attributes := #[] }])
  fields := #[{ name := "MIN_ARRAY_SORT_GRAN", type := .int, accessFlags := 26, slot := 0, constantValue := 0 }, { name := "INSERTIONSORT_THRESHOLD", type := .int, accessFlags := 26, slot := 1, constantValue := 0 }, { name := "$assertionsDisabled", type := .boolean, accessFlags := 4120, slot := 2, constantValue := 0 }]
  methods := #[k18m0, k18m1, k18m2, k18m3, k18m4]
  instanceTypes := #[]
  staticTypes := #[.int, .int, .boolean]
  resolved := Array.replicate 1029 none
  statics := none }

def pool19 : Array CpInfo := pool [(2, .class_ 4), (1, u "java/lang/Object"), (0, u "<init>"), (0, u "()V"), (17, .class_ 26), (1, u "jdk/internal/util/Preconditions"), (6, u "checkIndex"), (21, .class_ 56), (0, u "jdk/internal/util/Preconditions$4"), (57, .class_ 115), (0, u "jdk/internal/util/Preconditions$1"), (7, u "SIOOBE_FORMATTER"), (0, u "Ljava/util/function/BiFunction;"), (0, .class_ 126), (0, u "jdk/internal/util/Preconditions$2"), (3, u "AIOOBE_FORMATTER"), (0, .class_ 132), (0, u "jdk/internal/util/Preconditions$3"), (3, u "IOOBE_FORMATTER"), (41, u "(IILjava/util/function/BiFunction;)I")] 15

def k19m0 : Method := { name := "<init>", desc := "()V", sig := { parameters := [], returnType := none }, accessFlags := 1, code := none }
def k19c1 : Code := { maxStack := 3, maxLocals := 3, code := jdk_41_method_11_code, exceptionTable := #[], attributes := #[] }
def k19m1 : Method := { name := "checkIndex", desc := "(IILjava/util/function/BiFunction;)I", sig := { parameters := [.int, .int, (.object "java/util/function/BiFunction")], returnType := some .int }, accessFlags := 9, code := some k19c1 }
/-- jdk/internal/util/Preconditions -/
def k19 : Class := { plain "jdk/internal/util/Preconditions" (some 0) with
  accessFlags := 33
  interfaces := #[]
  cf := some (fileOf pool19 24 #[.nestMembers #[55, 131, 125, 114]] #[{ accessFlags := 1, nameIndex := 5, descriptorIndex := 6, attributes := #[] }, { accessFlags := 9, nameIndex := 33, descriptorIndex := 178, attributes := #[] }] 33 2 #[] #[{ accessFlags := 25, nameIndex := 123, descriptorIndex := 124, attributes := #[] }, { accessFlags := 25, nameIndex := 130, descriptorIndex := 124, attributes := #[] }, { accessFlags := 25, nameIndex := 136, descriptorIndex := 124, attributes := #[] }])
  fields := #[{ name := "SIOOBE_FORMATTER", type := (.object "java/util/function/BiFunction"), accessFlags := 25, slot := 0, constantValue := 0 }, { name := "AIOOBE_FORMATTER", type := (.object "java/util/function/BiFunction"), accessFlags := 25, slot := 1, constantValue := 0 }, { name := "IOOBE_FORMATTER", type := (.object "java/util/function/BiFunction"), accessFlags := 25, slot := 2, constantValue := 0 }]
  methods := #[k19m0, k19m1]
  instanceTypes := #[]
  staticTypes := #[(.object "java/util/function/BiFunction"), (.object "java/util/function/BiFunction"), (.object "java/util/function/BiFunction")]
  resolved := Array.replicate 194 none
  statics := some 2 }

def pool20 : Array CpInfo := pool [(1, .class_ 2), (0, u "java/lang/Cloneable"), (0, .class_ 4), (0, u "java/lang/Object")] 2

/-- java/lang/Cloneable -/
def k20 : Class := { plain "java/lang/Cloneable" (some 0) with
  accessFlags := 1537
  interfaces := #[]
  cf := some (fileOf pool20 1 #[] #[] 1537 3 #[] #[])
  fields := #[]
  methods := #[]
  instanceTypes := #[]
  staticTypes := #[]
  resolved := Array.replicate 7 none
  statics := none }

def pool21 : Array CpInfo := pool [(6, .class_ 8), (1, u "java/lang/Object"), (0, u "<init>"), (0, u "()V"), (1, .class_ 14), (1, u "java/lang/StringUTF16"), (31, u "$assertionsDisabled"), (0, u "Z"), (13, u "HI_BYTE_SHIFT"), (0, u "I"), (2, u "LO_BYTE_SHIFT"), (49, .methodref 12 116), (0, .nameAndType 117 118), (0, u "compress"), (0, u "([CI[BII)I"), (3, u "([CII)[B"), (138, u "coderFromArrayLen"), (0, u "([BI)B"), (106, .class_ 371), (1, u "java/lang/StringUTF16$LinesSpliterator"), (58, u "MAX_LENGTH"), (196, .class_ 628), (0, u "java/lang/StringUTF16$CodePointsSpliterator"), (0, .class_ 630), (0, u "java/lang/StringUTF16$CharsSpliterator")] 4

def k21m0 : Method := { name := "<init>", desc := "()V", sig := { parameters := [], returnType := none }, accessFlags := 0, code := none }
def k21c1 : Code := { maxStack := 2, maxLocals := 2, code := jdk_52_method_15_code, exceptionTable := #[], attributes := #[] }
def k21m1 : Method := { name := "coderFromArrayLen", desc := "([BI)B", sig := { parameters := [(.array .byte), .int], returnType := some .byte }, accessFlags := 8, code := some k21c1 }
def k21c2 : Code := { maxStack := 5, maxLocals := 6, code := jdk_52_method_16_code, exceptionTable := #[], attributes := #[] }
def k21m2 : Method := { name := "compress", desc := "([CII)[B", sig := { parameters := [(.array .char), .int, .int], returnType := some (.array .byte) }, accessFlags := 9, code := some k21c2 }
def k21c3 : Code := { maxStack := 3, maxLocals := 7, code := jdk_52_method_21_code, exceptionTable := #[], attributes := #[] }
def k21m3 : Method := { name := "compress", desc := "([CI[BII)I", sig := { parameters := [(.array .char), .int, (.array .byte), .int, .int], returnType := some .int }, accessFlags := 9, code := some k21c3 }
/-- java/lang/StringUTF16 -/
def k21 : Class := { plain "java/lang/StringUTF16" (some 0) with
  accessFlags := 48
  interfaces := #[]
  cf := some (fileOf pool21 12 #[.nestMembers #[627, 629, 369]] #[{ accessFlags := 0, nameIndex := 9, descriptorIndex := 10, attributes := #[] }, { accessFlags := 8, nameIndex := 261, descriptorIndex := 262, attributes := #[] }, { accessFlags := 9, nameIndex := 117, descriptorIndex := 122, attributes := #[] }, { accessFlags := 9, nameIndex := 117, descriptorIndex := 118, attributes := #[] }] 48 6 #[] #[{ accessFlags := 26, nameIndex := 61, descriptorIndex := 62, attributes := #[] }, { accessFlags := 26, nameIndex := 65, descriptorIndex := 62, attributes := #[] }, { accessFlags := 24, nameIndex := 430, descriptorIndex := 62, attributes := #[] }, { accessFlags := 4120, nameIndex := 46, descriptorIndex := 47, attributes := #[] }])
  fields := #[{ name := "HI_BYTE_SHIFT", type := .int, accessFlags := 26, slot := 0, constantValue := 0 }, { name := "LO_BYTE_SHIFT", type := .int, accessFlags := 26, slot := 1, constantValue := 0 }, { name := "MAX_LENGTH", type := .int, accessFlags := 24, slot := 2, constantValue := 0 }, { name := "$assertionsDisabled", type := .boolean, accessFlags := 4120, slot := 3, constantValue := 0 }]
  methods := #[k21m0, k21m1, k21m2, k21m3]
  instanceTypes := #[]
  staticTypes := #[.int, .int, .int, .boolean]
  resolved := Array.replicate 635 none
  statics := none }

/-- the primitive byte -/
def k22 : Class := { plain "byte" none with kind := .primitive 'B', accessFlags := 0x411 }
/-- [B -/
def k23 : Class := { plain "[B" (some 0) with kind := .array 22 .byte, interfaces := #[20, 2], accessFlags := 1041 }

/-- the primitive char -/
def k24 : Class := { plain "char" none with kind := .primitive 'C', accessFlags := 0x411 }
/-- [C -/
def k25 : Class := { plain "[C" (some 0) with kind := .array 24 .char, interfaces := #[20, 2], accessFlags := 1041 }

/-- the primitive int -/
def k26 : Class := { plain "int" none with kind := .primitive 'I', accessFlags := 0x411 }
/-- [I -/
def k27 : Class := { plain "[I" (some 0) with kind := .array 26 .int, interfaces := #[20, 2], accessFlags := 1041 }

/-- the primitive long -/
def k28 : Class := { plain "long" none with kind := .primitive 'J', accessFlags := 0x411 }
/-- [J -/
def k29 : Class := { plain "[J" (some 0) with kind := .array 28 .long, interfaces := #[20, 2], accessFlags := 1041 }

def heap : Heap := #[{ cls := 7, slots := #[.long 0, .int 1, .null, .int 0, .null, .int 0, .int 0], vm := .statics 7 },
  { cls := 15, slots := #[.int 0, .int 0, .null, .null, .ref 4, .ref 3, .int 0, .int 0, .long 0], vm := .statics 15 },
  { cls := 19, slots := #[.null, .null, .null], vm := .statics 19 },
  { cls := 23, slots := ⟨(List.range 100).map fun i => .int (.ofNat (48 + i % 10))⟩, vm := .none },
  { cls := 23, slots := ⟨(List.range 100).map fun i => .int (.ofNat (48 + i / 10))⟩, vm := .none }]
def classes : Array Class := #[k0, k1, k2, k3, k4, k5, k6, k7, k8, k9, k10, k11, k12, k13, k14, k15, k16, k17, k18, k19, k20, k21, k22, k23, k24, k25, k26, k27, k28, k29]
def interned : List (Array UInt16 × Addr) := []
def slotsUsed : Nat := 219
def theMethod : MethodId := ⟨1, 1⟩
def args0 : Array Value := #[.int 67174, .int 0, .int 12, .int 345]
def aboutOver (below : List Frame) : State where
  vm := { classes := classes, interned := interned.toArray }
  heap := heap
  slotsUsed := slotsUsed
  threads := #[{ frames := .invoking theMethod args0 :: below }]
def below0 : List Frame := [.native { method := ⟨0, 0⟩, args := #[] }]
def about1 : State := aboutOver below0
def p0 : Program := .bare "" "" ""
def e0 : Env := launch0.env 0 0 0
theorem w_frames : about1.frames = Frame.invoking theMethod args0 :: below0 := rfl
set_option maxRecDepth 65536 in
theorem w_args : argsFit about1.vm theMethod args0 = true := by decide +kernel
set_option maxRecDepth 65536 in
theorem w_heap : heapFits about1 = true := by decide +kernel
set_option maxRecDepth 65536 in
theorem w_runnable : about1.curStatus? = some .runnable := by decide +kernel
set_option maxRecDepth 65536 in
theorem w_alone : about1.alone = true := by decide +kernel
set_option maxRecDepth 65536 in
theorem w_named : about1.methodNamed? x = some theMethod := by decide +kernel
set_option maxRecDepth 65536 in
theorem w_hears : about1.hears theMethod below0 = true := by decide +kernel
set_option maxRecDepth 65536 in
theorem w_ripe : about1.ripe theMethod args0 below0 = true := by decide +kernel
theorem w_running : about1.status = .running := rfl
set_option maxRecDepth 65536 in
theorem w_room : about1.hasRoom e0.platform room_1 = true :=
  launch0.hasRoom_least _ room_1 (by decide +kernel) (by decide +kernel) (by decide +kernel) (by decide +kernel) (by decide +kernel) (by decide +kernel)
theorem allAtoms_all (ts : List Jvm.Cond) (a : Array Jvm.Value) (st : Jvm.State) : (allAtoms ts).before a st = ts.all (fun c => c.before a st) := by
  induction ts with
  | nil => rfl
  | cons c t ih =>
    show (Jvm.Cond.and c (allAtoms t)).before a st = _
    rw [Jvm.Cond.before_and, ih, List.all_cons]
def words1 : List Jvm.Cond := Jvm.Cond.code x code maxLocals ret :: tables_1
/-- a 'code' word, met by the world's own term for the bytes: nothing is compared byte by byte -/
theorem code_word {y : MethodName} {bytes : ByteArray} {mx : Nat} {rt : Option FieldType} {a : Array Value} {s : State} {m : MethodId} {meth : Method} {c : Code} (h1 : s.methodNamed? y = some m) (h2 : s.vm.method? m = some meth) (h3 : meth.code = some c) (h4 : c.code = bytes)
    (h5 : (c.maxLocals == mx && c.exceptionTable.isEmpty && decide (c.maxStack ≤ mostOperands) && decide (meth.sig.returnType = rt) && !meth.locks && decide (parseMethodDescriptor y.desc = some meth.sig)) = true) : (Jvm.Cond.code y bytes mx rt).before a s = true := by
  simp only [Bool.and_eq_true, beq_iff_eq, Bool.not_eq_true', decide_eq_true_eq] at h5
  obtain ⟨⟨⟨⟨⟨g1, g2⟩, g3⟩, g4⟩, g5⟩, g6⟩ := h5
  simp [Cond.before, Cond.holds, Cond.value, h1, h2, h3, h4, g1, g2, g3, g4, g5, g6]
def isCode : Jvm.Cond → Bool
  | .code _ _ _ _ => true
  | _ => false
theorem all_split {L : List Jvm.Cond} {P : Jvm.Cond → Bool} (h1 : L.all (fun c => isCode c || P c) = true) (h2 : ∀ c ∈ L.filter isCode, P c = true) : L.all P = true := by
  refine List.all_eq_true.mpr fun c hc => ?_
  have h := List.all_eq_true.mp h1 c hc
  rcases Bool.eq_false_or_eq_true (isCode c) with hi | hi
  · exact h2 c (List.mem_filter.mpr ⟨hc, hi⟩)
  · simpa [hi] using h
set_option maxRecDepth 65536 in
theorem w_c0 : (Jvm.Cond.code x code maxLocals ret).before args0 about1 = true := code_word (m := ⟨1, 1⟩) (meth := k1m1) (c := k1c1) (by decide +kernel) rfl rfl rfl (by decide +kernel)
set_option maxRecDepth 65536 in
theorem w_c1 : (Jvm.Cond.code ({ cls := "com/example/tessera/tessera/sql/SqlText", name := "paged", desc := "(Ljava/lang/String;II)Ljava/lang/String;" } : Jvm.MethodName) prog_35_method_14_code (5 : Nat) (Option.some (Jvm.ClassFile.FieldType.object "java/lang/String"))).before args0 about1 = true := code_word (m := ⟨8, 1⟩) (meth := k8m1) (c := k8c1) (by decide +kernel) rfl rfl rfl (by decide +kernel)
set_option maxRecDepth 65536 in
theorem w_c2 : (Jvm.Cond.code ({ cls := "java/lang/String", name := "valueOf", desc := "(C)Ljava/lang/String;" } : Jvm.MethodName) jdk_42_method_139_code (1 : Nat) (Option.some (Jvm.ClassFile.FieldType.object "java/lang/String"))).before args0 about1 = true := code_word (m := ⟨7, 5⟩) (meth := k7m5) (c := k7c5) (by decide +kernel) rfl rfl rfl (by decide +kernel)
set_option maxRecDepth 65536 in
theorem w_c3 : (Jvm.Cond.code ({ cls := "java/lang/StringLatin1", name := "canEncode", desc := "(C)Z" } : Jvm.MethodName) jdk_43_method_3_code (1 : Nat) (Option.some Jvm.ClassFile.FieldType.boolean)).before args0 about1 = true := code_word (m := ⟨9, 2⟩) (meth := k9m2) (c := k9c2) (by decide +kernel) rfl rfl rfl (by decide +kernel)
set_option maxRecDepth 65536 in
theorem w_c4 : (Jvm.Cond.code ({ cls := "java/lang/StringLatin1", name := "toBytes", desc := "(C)[B" } : Jvm.MethodName) jdk_43_method_46_code (1 : Nat) (Option.some (Jvm.ClassFile.FieldType.array Jvm.ClassFile.FieldType.byte))).before args0 about1 = true := code_word (m := ⟨9, 3⟩) (meth := k9m3) (c := k9c3) (by decide +kernel) rfl rfl rfl (by decide +kernel)
set_option maxRecDepth 65536 in
theorem w_c5 : (Jvm.Cond.code ({ cls := "java/lang/String", name := "<init>", desc := "([BB)V" } : Jvm.MethodName) jdk_42_method_151_code (3 : Nat) (Option.none : Option Jvm.ClassFile.FieldType)).before args0 about1 = true := code_word (m := ⟨7, 9⟩) (meth := k7m9) (c := k7c9) (by decide +kernel) rfl rfl rfl (by decide +kernel)
set_option maxRecDepth 65536 in
theorem w_c6 : (Jvm.Cond.code ({ cls := "java/lang/Object", name := "<init>", desc := "()V" } : Jvm.MethodName) object_method_1_code (1 : Nat) (Option.none : Option Jvm.ClassFile.FieldType)).before args0 about1 = true := code_word (m := ⟨0, 0⟩) (meth := k0m0) (c := k0c0) (by decide +kernel) rfl rfl rfl (by decide +kernel)
set_option maxRecDepth 65536 in
theorem w_c7 : (Jvm.Cond.code ({ cls := "java/lang/StringBuilder", name := "<init>", desc := "()V" } : Jvm.MethodName) jdk_67_method_1_code (1 : Nat) (Option.none : Option Jvm.ClassFile.FieldType)).before args0 about1 = true := code_word (m := ⟨12, 0⟩) (meth := k12m0) (c := k12c0) (by decide +kernel) rfl rfl rfl (by decide +kernel)
set_option maxRecDepth 65536 in
theorem w_c8 : (Jvm.Cond.code ({ cls := "java/lang/AbstractStringBuilder", name := "<init>", desc := "(I)V" } : Jvm.MethodName) jdk_68_method_2_code (2 : Nat) (Option.none : Option Jvm.ClassFile.FieldType)).before args0 about1 = true := code_word (m := ⟨11, 1⟩) (meth := k11m1) (c := k11c1) (by decide +kernel) rfl rfl rfl (by decide +kernel)
set_option maxRecDepth 65536 in
theorem w_c9 : (Jvm.Cond.code ({ cls := "java/lang/StringBuilder", name := "append", desc := "(Ljava/lang/String;)Ljava/lang/StringBuilder;" } : Jvm.MethodName) jdk_67_method_7_code (2 : Nat) (Option.some (Jvm.ClassFile.FieldType.object "java/lang/StringBuilder"))).before args0 about1 = true := code_word (m := ⟨12, 1⟩) (meth := k12m1) (c := k12c1) (by decide +kernel) rfl rfl rfl (by decide +kernel)
set_option maxRecDepth 65536 in
theorem w_c10 : (Jvm.Cond.code ({ cls := "java/lang/AbstractStringBuilder", name := "append", desc := "(Ljava/lang/String;)Ljava/lang/AbstractStringBuilder;" } : Jvm.MethodName) jdk_68_method_22_code (3 : Nat) (Option.some (Jvm.ClassFile.FieldType.object "java/lang/AbstractStringBuilder"))).before args0 about1 = true := code_word (m := ⟨11, 5⟩) (meth := k11m5) (c := k11c5) (by decide +kernel) rfl rfl rfl (by decide +kernel)
set_option maxRecDepth 65536 in
theorem w_c11 : (Jvm.Cond.code ({ cls := "java/lang/String", name := "length", desc := "()I" } : Jvm.MethodName) jdk_42_method_54_code (1 : Nat) (Option.some Jvm.ClassFile.FieldType.int)).before args0 about1 = true := code_word (m := ⟨7, 3⟩) (meth := k7m3) (c := k7c3) (by decide +kernel) rfl rfl rfl (by decide +kernel)
set_option maxRecDepth 65536 in
theorem w_c12 : (Jvm.Cond.code ({ cls := "java/lang/String", name := "coder", desc := "()B" } : Jvm.MethodName) jdk_42_method_152_code (1 : Nat) (Option.some Jvm.ClassFile.FieldType.byte)).before args0 about1 = true := code_word (m := ⟨7, 10⟩) (meth := k7m10) (c := k7c10) (by decide +kernel) rfl rfl rfl (by decide +kernel)
set_option maxRecDepth 65536 in
theorem w_c13 : (Jvm.Cond.code ({ cls := "java/lang/AbstractStringBuilder", name := "ensureCapacityInternal", desc := "(I)V" } : Jvm.MethodName) jdk_68_method_9_code (3 : Nat) (Option.none : Option Jvm.ClassFile.FieldType)).before args0 about1 = true := code_word (m := ⟨11, 3⟩) (meth := k11m3) (c := k11c3) (by decide +kernel) rfl rfl rfl (by decide +kernel)
set_option maxRecDepth 65536 in
theorem w_c14 : (Jvm.Cond.code ({ cls := "java/lang/AbstractStringBuilder", name := "putStringAt", desc := "(ILjava/lang/String;)V" } : Jvm.MethodName) jdk_68_method_73_code (3 : Nat) (Option.none : Option Jvm.ClassFile.FieldType)).before args0 about1 = true := code_word (m := ⟨11, 10⟩) (meth := k11m10) (c := k11c10) (by decide +kernel) rfl rfl rfl (by decide +kernel)
set_option maxRecDepth 65536 in
theorem w_c15 : (Jvm.Cond.code ({ cls := "java/lang/AbstractStringBuilder", name := "inflateIfNeededFor", desc := "(Ljava/lang/String;)V" } : Jvm.MethodName) jdk_68_method_71_code (2 : Nat) (Option.none : Option Jvm.ClassFile.FieldType)).before args0 about1 = true := code_word (m := ⟨11, 9⟩) (meth := k11m9) (c := k11c9) (by decide +kernel) rfl rfl rfl (by decide +kernel)
set_option maxRecDepth 65536 in
theorem w_c16 : (Jvm.Cond.code ({ cls := "java/lang/String", name := "getBytes", desc := "([BIB)V" } : Jvm.MethodName) jdk_42_method_147_code (4 : Nat) (Option.none : Option Jvm.ClassFile.FieldType)).before args0 about1 = true := code_word (m := ⟨7, 6⟩) (meth := k7m6) (c := k7c6) (by decide +kernel) rfl rfl rfl (by decide +kernel)
set_option maxRecDepth 65536 in
theorem w_c17 : (Jvm.Cond.code ({ cls := "java/lang/StringBuilder", name := "append", desc := "(I)Ljava/lang/StringBuilder;" } : Jvm.MethodName) jdk_67_method_15_code (2 : Nat) (Option.some (Jvm.ClassFile.FieldType.object "java/lang/StringBuilder"))).before args0 about1 = true := code_word (m := ⟨12, 2⟩) (meth := k12m2) (c := k12c2) (by decide +kernel) rfl rfl rfl (by decide +kernel)
set_option maxRecDepth 65536 in
theorem w_c18 : (Jvm.Cond.code ({ cls := "java/lang/AbstractStringBuilder", name := "append", desc := "(I)Ljava/lang/AbstractStringBuilder;" } : Jvm.MethodName) jdk_68_method_32_code (4 : Nat) (Option.some (Jvm.ClassFile.FieldType.object "java/lang/AbstractStringBuilder"))).before args0 about1 = true := code_word (m := ⟨11, 6⟩) (meth := k11m6) (c := k11c6) (by decide +kernel) rfl rfl rfl (by decide +kernel)
set_option maxRecDepth 65536 in
theorem w_c19 : (Jvm.Cond.code ({ cls := "java/lang/Integer", name := "stringSize", desc := "(I)I" } : Jvm.MethodName) jdk_33_method_13_code (4 : Nat) (Option.some Jvm.ClassFile.FieldType.int)).before args0 about1 = true := code_word (m := ⟨15, 1⟩) (meth := k15m1) (c := k15c1) (by decide +kernel) rfl rfl rfl (by decide +kernel)
set_option maxRecDepth 65536 in
theorem w_c20 : (Jvm.Cond.code ({ cls := "java/lang/AbstractStringBuilder", name := "newCapacity", desc := "(I)I" } : Jvm.MethodName) jdk_68_method_10_code (6 : Nat) (Option.some Jvm.ClassFile.FieldType.int)).before args0 about1 = true := code_word (m := ⟨11, 4⟩) (meth := k11m4) (c := k11c4) (by decide +kernel) rfl rfl rfl (by decide +kernel)
set_option maxRecDepth 65536 in
theorem w_c21 : (Jvm.Cond.code ({ cls := "jdk/internal/util/ArraysSupport", name := "newLength", desc := "(III)I" } : Jvm.MethodName) jdk_48_method_27_code (4 : Nat) (Option.some Jvm.ClassFile.FieldType.int)).before args0 about1 = true := code_word (m := ⟨16, 1⟩) (meth := k16m1) (c := k16c1) (by decide +kernel) rfl rfl rfl (by decide +kernel)
set_option maxRecDepth 65536 in
theorem w_c22 : (Jvm.Cond.code ({ cls := "java/lang/Math", name := "max", desc := "(II)I" } : Jvm.MethodName) jdk_29_method_65_code (2 : Nat) (Option.some Jvm.ClassFile.FieldType.int)).before args0 about1 = true := code_word (m := ⟨17, 1⟩) (meth := k17m1) (c := k17c1) (by decide +kernel) rfl rfl rfl (by decide +kernel)
set_option maxRecDepth 65536 in
theorem w_c23 : (Jvm.Cond.code ({ cls := "java/util/Arrays", name := "copyOf", desc := "([BI)[B" } : Jvm.MethodName) jdk_65_method_121_code (3 : Nat) (Option.some (Jvm.ClassFile.FieldType.array Jvm.ClassFile.FieldType.byte))).before args0 about1 = true := code_word (m := ⟨18, 1⟩) (meth := k18m1) (c := k18c1) (by decide +kernel) rfl rfl rfl (by decide +kernel)
set_option maxRecDepth 65536 in
theorem w_c24 : (Jvm.Cond.code ({ cls := "java/lang/Math", name := "min", desc := "(II)I" } : Jvm.MethodName) jdk_29_method_69_code (2 : Nat) (Option.some Jvm.ClassFile.FieldType.int)).before args0 about1 = true := code_word (m := ⟨17, 2⟩) (meth := k17m2) (c := k17c2) (by decide +kernel) rfl rfl rfl (by decide +kernel)
set_option maxRecDepth 65536 in
theorem w_c25 : (Jvm.Cond.code ({ cls := "java/lang/AbstractStringBuilder", name := "isLatin1", desc := "()Z" } : Jvm.MethodName) jdk_68_method_68_code (1 : Nat) (Option.some Jvm.ClassFile.FieldType.boolean)).before args0 about1 = true := code_word (m := ⟨11, 8⟩) (meth := k11m8) (c := k11c8) (by decide +kernel) rfl rfl rfl (by decide +kernel)
set_option maxRecDepth 65536 in
theorem w_c26 : (Jvm.Cond.code ({ cls := "java/lang/Integer", name := "getChars", desc := "(II[B)I" } : Jvm.MethodName) jdk_33_method_12_code (7 : Nat) (Option.some Jvm.ClassFile.FieldType.int)).before args0 about1 = true := code_word (m := ⟨15, 0⟩) (meth := k15m0) (c := k15c0) (by decide +kernel) rfl rfl rfl (by decide +kernel)
set_option maxRecDepth 65536 in
theorem w_c27 : (Jvm.Cond.code ({ cls := "java/lang/StringBuilder", name := "toString", desc := "()Ljava/lang/String;" } : Jvm.MethodName) jdk_67_method_42_code (1 : Nat) (Option.some (Jvm.ClassFile.FieldType.object "java/lang/String"))).before args0 about1 = true := code_word (m := ⟨12, 3⟩) (meth := k12m3) (c := k12c3) (by decide +kernel) rfl rfl rfl (by decide +kernel)
set_option maxRecDepth 65536 in
theorem w_c28 : (Jvm.Cond.code ({ cls := "java/lang/String", name := "<init>", desc := "(Ljava/lang/StringBuilder;)V" } : Jvm.MethodName) jdk_42_method_53_code (2 : Nat) (Option.none : Option Jvm.ClassFile.FieldType)).before args0 about1 = true := code_word (m := ⟨7, 2⟩) (meth := k7m2) (c := k7c2) (by decide +kernel) rfl rfl rfl (by decide +kernel)
set_option maxRecDepth 65536 in
theorem w_c29 : (Jvm.Cond.code ({ cls := "java/lang/String", name := "<init>", desc := "(Ljava/lang/AbstractStringBuilder;Ljava/lang/Void;)V" } : Jvm.MethodName) jdk_42_method_150_code (5 : Nat) (Option.none : Option Jvm.ClassFile.FieldType)).before args0 about1 = true := code_word (m := ⟨7, 8⟩) (meth := k7m8) (c := k7c8) (by decide +kernel) rfl rfl rfl (by decide +kernel)
set_option maxRecDepth 65536 in
theorem w_c30 : (Jvm.Cond.code ({ cls := "java/lang/AbstractStringBuilder", name := "getValue", desc := "()[B" } : Jvm.MethodName) jdk_68_method_64_code (1 : Nat) (Option.some (Jvm.ClassFile.FieldType.array Jvm.ClassFile.FieldType.byte))).before args0 about1 = true := code_word (m := ⟨11, 7⟩) (meth := k11m7) (c := k11c7) (by decide +kernel) rfl rfl rfl (by decide +kernel)
set_option maxRecDepth 65536 in
theorem w_c31 : (Jvm.Cond.code ({ cls := "java/lang/StringBuilder", name := "length", desc := "()I" } : Jvm.MethodName) jdk_67_method_93_code (1 : Nat) (Option.some Jvm.ClassFile.FieldType.int)).before args0 about1 = true := code_word (m := ⟨12, 4⟩) (meth := k12m4) (c := k12c4) (by decide +kernel) rfl rfl rfl (by decide +kernel)
set_option maxRecDepth 65536 in
theorem w_c32 : (Jvm.Cond.code ({ cls := "java/lang/AbstractStringBuilder", name := "length", desc := "()I" } : Jvm.MethodName) jdk_68_method_6_code (1 : Nat) (Option.some Jvm.ClassFile.FieldType.int)).before args0 about1 = true := code_word (m := ⟨11, 2⟩) (meth := k11m2) (c := k11c2) (by decide +kernel) rfl rfl rfl (by decide +kernel)
set_option maxRecDepth 65536 in
theorem w_c33 : (Jvm.Cond.code ({ cls := "java/util/Arrays", name := "copyOfRange", desc := "([BII)[B" } : Jvm.MethodName) jdk_65_method_132_code (3 : Nat) (Option.some (Jvm.ClassFile.FieldType.array Jvm.ClassFile.FieldType.byte))).before args0 about1 = true := code_word (m := ⟨18, 3⟩) (meth := k18m3) (c := k18c3) (by decide +kernel) rfl rfl rfl (by decide +kernel)
set_option maxRecDepth 65536 in
theorem w_c34 : (Jvm.Cond.code ({ cls := "java/util/Arrays", name := "copyOfRangeByte", desc := "([BII)[B" } : Jvm.MethodName) jdk_65_method_133_code (5 : Nat) (Option.some (Jvm.ClassFile.FieldType.array Jvm.ClassFile.FieldType.byte))).before args0 about1 = true := code_word (m := ⟨18, 4⟩) (meth := k18m4) (c := k18c4) (by decide +kernel) rfl rfl rfl (by decide +kernel)
set_option maxRecDepth 65536 in
theorem w_c35 : (Jvm.Cond.code ({ cls := "java/util/Arrays", name := "checkLength", desc := "(II)V" } : Jvm.MethodName) jdk_65_method_131_code (2 : Nat) (Option.none : Option Jvm.ClassFile.FieldType)).before args0 about1 = true := code_word (m := ⟨18, 2⟩) (meth := k18m2) (c := k18c2) (by decide +kernel) rfl rfl rfl (by decide +kernel)
set_option maxRecDepth 65536 in
theorem w_c36 : (Jvm.Cond.code ({ cls := "com/example/tessera/tessera/sql/SqlTextPagedPinLaw", name := "width", desc := "(I)I" } : Jvm.MethodName) method_4_code (3 : Nat) (Option.some Jvm.ClassFile.FieldType.int)).before args0 about1 = true := code_word (m := ⟨1, 3⟩) (meth := k1m3) (c := k1c3) (by decide +kernel) rfl rfl rfl (by decide +kernel)
set_option maxRecDepth 65536 in
theorem w_c37 : (Jvm.Cond.code ({ cls := "com/example/tessera/tessera/sql/SqlTextPagedPinLaw", name := "digits", desc := "(J)I" } : Jvm.MethodName) method_3_code (2 : Nat) (Option.some Jvm.ClassFile.FieldType.int)).before args0 about1 = true := code_word (m := ⟨1, 2⟩) (meth := k1m2) (c := k1c2) (by decide +kernel) rfl rfl rfl (by decide +kernel)
set_option maxRecDepth 65536 in
theorem w_c38 : (Jvm.Cond.code ({ cls := "java/lang/String", name := "charAt", desc := "(I)C" } : Jvm.MethodName) jdk_42_method_56_code (2 : Nat) (Option.some Jvm.ClassFile.FieldType.char)).before args0 about1 = true := code_word (m := ⟨7, 4⟩) (meth := k7m4) (c := k7c4) (by decide +kernel) rfl rfl rfl (by decide +kernel)
set_option maxRecDepth 65536 in
theorem w_c39 : (Jvm.Cond.code ({ cls := "java/lang/String", name := "isLatin1", desc := "()Z" } : Jvm.MethodName) jdk_42_method_154_code (1 : Nat) (Option.some Jvm.ClassFile.FieldType.boolean)).before args0 about1 = true := code_word (m := ⟨7, 11⟩) (meth := k7m11) (c := k7c11) (by decide +kernel) rfl rfl rfl (by decide +kernel)
set_option maxRecDepth 65536 in
theorem w_c40 : (Jvm.Cond.code ({ cls := "java/lang/StringLatin1", name := "charAt", desc := "([BI)C" } : Jvm.MethodName) jdk_43_method_2_code (2 : Nat) (Option.some Jvm.ClassFile.FieldType.char)).before args0 about1 = true := code_word (m := ⟨9, 1⟩) (meth := k9m1) (c := k9c1) (by decide +kernel) rfl rfl rfl (by decide +kernel)
set_option maxRecDepth 65536 in
theorem w_c41 : (Jvm.Cond.code ({ cls := "java/lang/String", name := "checkIndex", desc := "(II)V" } : Jvm.MethodName) jdk_42_method_155_code (2 : Nat) (Option.none : Option Jvm.ClassFile.FieldType)).before args0 about1 = true := code_word (m := ⟨7, 12⟩) (meth := k7m12) (c := k7c12) (by decide +kernel) rfl rfl rfl (by decide +kernel)
set_option maxRecDepth 65536 in
theorem w_c42 : (Jvm.Cond.code ({ cls := "jdk/internal/util/Preconditions", name := "checkIndex", desc := "(IILjava/util/function/BiFunction;)I" } : Jvm.MethodName) jdk_41_method_11_code (3 : Nat) (Option.some Jvm.ClassFile.FieldType.int)).before args0 about1 = true := code_word (m := ⟨19, 1⟩) (meth := k19m1) (c := k19c1) (by decide +kernel) rfl rfl rfl (by decide +kernel)
set_option maxRecDepth 65536 in
theorem w_c43 : (Jvm.Cond.code ({ cls := "com/example/tessera/tessera/sql/SqlTextPagedPinLaw", name := "lit", desc := "(Ljava/lang/String;ILjava/lang/String;)Z" } : Jvm.MethodName) method_7_code (3 : Nat) (Option.some Jvm.ClassFile.FieldType.boolean)).before args0 about1 = true := code_word (m := ⟨1, 6⟩) (meth := k1m6) (c := k1c6) (by decide +kernel) rfl rfl rfl (by decide +kernel)
set_option maxRecDepth 65536 in
theorem w_c44 : (Jvm.Cond.code ({ cls := "com/example/tessera/tessera/sql/SqlTextPagedPinLaw", name := "num", desc := "(Ljava/lang/String;II)Z" } : Jvm.MethodName) method_6_code (7 : Nat) (Option.some Jvm.ClassFile.FieldType.boolean)).before args0 about1 = true := code_word (m := ⟨1, 5⟩) (meth := k1m5) (c := k1c5) (by decide +kernel) rfl rfl rfl (by decide +kernel)
set_option maxRecDepth 65536 in
theorem w_c45 : (Jvm.Cond.code ({ cls := "com/example/tessera/tessera/sql/SqlTextPagedPinLaw", name := "ok", desc := "(Ljava/lang/String;IJI)Z" } : Jvm.MethodName) method_5_code (7 : Nat) (Option.some Jvm.ClassFile.FieldType.boolean)).before args0 about1 = true := code_word (m := ⟨1, 4⟩) (meth := k1m4) (c := k1c4) (by decide +kernel) rfl rfl rfl (by decide +kernel)
set_option maxRecDepth 65536 in
theorem w_c46 : (Jvm.Cond.code ({ cls := "java/lang/String", name := "<init>", desc := "([C)V" } : Jvm.MethodName) jdk_42_method_3_code (2 : Nat) (Option.none : Option Jvm.ClassFile.FieldType)).before args0 about1 = true := code_word (m := ⟨7, 1⟩) (meth := k7m1) (c := k7c1) (by decide +kernel) rfl rfl rfl (by decide +kernel)
set_option maxRecDepth 65536 in
theorem w_c47 : (Jvm.Cond.code ({ cls := "java/lang/String", name := "<init>", desc := "([CIILjava/lang/Void;)V" } : Jvm.MethodName) jdk_42_method_149_code (6 : Nat) (Option.none : Option Jvm.ClassFile.FieldType)).before args0 about1 = true := code_word (m := ⟨7, 7⟩) (meth := k7m7) (c := k7c7) (by decide +kernel) rfl rfl rfl (by decide +kernel)
set_option maxRecDepth 65536 in
theorem w_c48 : (Jvm.Cond.code ({ cls := "java/lang/StringUTF16", name := "compress", desc := "([CII)[B" } : Jvm.MethodName) jdk_52_method_16_code (6 : Nat) (Option.some (Jvm.ClassFile.FieldType.array Jvm.ClassFile.FieldType.byte))).before args0 about1 = true := code_word (m := ⟨21, 2⟩) (meth := k21m2) (c := k21c2) (by decide +kernel) rfl rfl rfl (by decide +kernel)
set_option maxRecDepth 65536 in
theorem w_c49 : (Jvm.Cond.code ({ cls := "java/lang/StringUTF16", name := "compress", desc := "([CI[BII)I" } : Jvm.MethodName) jdk_52_method_21_code (7 : Nat) (Option.some Jvm.ClassFile.FieldType.int)).before args0 about1 = true := code_word (m := ⟨21, 3⟩) (meth := k21m3) (c := k21c3) (by decide +kernel) rfl rfl rfl (by decide +kernel)
set_option maxRecDepth 65536 in
theorem w_c50 : (Jvm.Cond.code ({ cls := "java/lang/StringUTF16", name := "coderFromArrayLen", desc := "([BI)B" } : Jvm.MethodName) jdk_52_method_15_code (2 : Nat) (Option.some Jvm.ClassFile.FieldType.byte)).before args0 about1 = true := code_word (m := ⟨21, 1⟩) (meth := k21m1) (c := k21c1) (by decide +kernel) rfl rfl rfl (by decide +kernel)
def codes1 : List Jvm.Cond := [Jvm.Cond.code x code maxLocals ret, Jvm.Cond.code ({ cls := "com/example/tessera/tessera/sql/SqlText", name := "paged", desc := "(Ljava/lang/String;II)Ljava/lang/String;" } : Jvm.MethodName) prog_35_method_14_code (5 : Nat) (Option.some (Jvm.ClassFile.FieldType.object "java/lang/String")), Jvm.Cond.code ({ cls := "java/lang/String", name := "valueOf", desc := "(C)Ljava/lang/String;" } : Jvm.MethodName) jdk_42_method_139_code (1 : Nat) (Option.some (Jvm.ClassFile.FieldType.object "java/lang/String")), Jvm.Cond.code ({ cls := "java/lang/StringLatin1", name := "canEncode", desc := "(C)Z" } : Jvm.MethodName) jdk_43_method_3_code (1 : Nat) (Option.some Jvm.ClassFile.FieldType.boolean), Jvm.Cond.code ({ cls := "java/lang/StringLatin1", name := "toBytes", desc := "(C)[B" } : Jvm.MethodName) jdk_43_method_46_code (1 : Nat) (Option.some (Jvm.ClassFile.FieldType.array Jvm.ClassFile.FieldType.byte)), Jvm.Cond.code ({ cls := "java/lang/String", name := "<init>", desc := "([BB)V" } : Jvm.MethodName) jdk_42_method_151_code (3 : Nat) (Option.none : Option Jvm.ClassFile.FieldType), Jvm.Cond.code ({ cls := "java/lang/Object", name := "<init>", desc := "()V" } : Jvm.MethodName) object_method_1_code (1 : Nat) (Option.none : Option Jvm.ClassFile.FieldType), Jvm.Cond.code ({ cls := "java/lang/StringBuilder", name := "<init>", desc := "()V" } : Jvm.MethodName) jdk_67_method_1_code (1 : Nat) (Option.none : Option Jvm.ClassFile.FieldType), Jvm.Cond.code ({ cls := "java/lang/AbstractStringBuilder", name := "<init>", desc := "(I)V" } : Jvm.MethodName) jdk_68_method_2_code (2 : Nat) (Option.none : Option Jvm.ClassFile.FieldType), Jvm.Cond.code ({ cls := "java/lang/StringBuilder", name := "append", desc := "(Ljava/lang/String;)Ljava/lang/StringBuilder;" } : Jvm.MethodName) jdk_67_method_7_code (2 : Nat) (Option.some (Jvm.ClassFile.FieldType.object "java/lang/StringBuilder")), Jvm.Cond.code ({ cls := "java/lang/AbstractStringBuilder", name := "append", desc := "(Ljava/lang/String;)Ljava/lang/AbstractStringBuilder;" } : Jvm.MethodName) jdk_68_method_22_code (3 : Nat) (Option.some (Jvm.ClassFile.FieldType.object "java/lang/AbstractStringBuilder")), Jvm.Cond.code ({ cls := "java/lang/String", name := "length", desc := "()I" } : Jvm.MethodName) jdk_42_method_54_code (1 : Nat) (Option.some Jvm.ClassFile.FieldType.int), Jvm.Cond.code ({ cls := "java/lang/String", name := "coder", desc := "()B" } : Jvm.MethodName) jdk_42_method_152_code (1 : Nat) (Option.some Jvm.ClassFile.FieldType.byte), Jvm.Cond.code ({ cls := "java/lang/AbstractStringBuilder", name := "ensureCapacityInternal", desc := "(I)V" } : Jvm.MethodName) jdk_68_method_9_code (3 : Nat) (Option.none : Option Jvm.ClassFile.FieldType), Jvm.Cond.code ({ cls := "java/lang/AbstractStringBuilder", name := "putStringAt", desc := "(ILjava/lang/String;)V" } : Jvm.MethodName) jdk_68_method_73_code (3 : Nat) (Option.none : Option Jvm.ClassFile.FieldType), Jvm.Cond.code ({ cls := "java/lang/AbstractStringBuilder", name := "inflateIfNeededFor", desc := "(Ljava/lang/String;)V" } : Jvm.MethodName) jdk_68_method_71_code (2 : Nat) (Option.none : Option Jvm.ClassFile.FieldType), Jvm.Cond.code ({ cls := "java/lang/String", name := "getBytes", desc := "([BIB)V" } : Jvm.MethodName) jdk_42_method_147_code (4 : Nat) (Option.none : Option Jvm.ClassFile.FieldType), Jvm.Cond.code ({ cls := "java/lang/StringBuilder", name := "append", desc := "(I)Ljava/lang/StringBuilder;" } : Jvm.MethodName) jdk_67_method_15_code (2 : Nat) (Option.some (Jvm.ClassFile.FieldType.object "java/lang/StringBuilder")), Jvm.Cond.code ({ cls := "java/lang/AbstractStringBuilder", name := "append", desc := "(I)Ljava/lang/AbstractStringBuilder;" } : Jvm.MethodName) jdk_68_method_32_code (4 : Nat) (Option.some (Jvm.ClassFile.FieldType.object "java/lang/AbstractStringBuilder")), Jvm.Cond.code ({ cls := "java/lang/Integer", name := "stringSize", desc := "(I)I" } : Jvm.MethodName) jdk_33_method_13_code (4 : Nat) (Option.some Jvm.ClassFile.FieldType.int), Jvm.Cond.code ({ cls := "java/lang/AbstractStringBuilder", name := "newCapacity", desc := "(I)I" } : Jvm.MethodName) jdk_68_method_10_code (6 : Nat) (Option.some Jvm.ClassFile.FieldType.int), Jvm.Cond.code ({ cls := "jdk/internal/util/ArraysSupport", name := "newLength", desc := "(III)I" } : Jvm.MethodName) jdk_48_method_27_code (4 : Nat) (Option.some Jvm.ClassFile.FieldType.int), Jvm.Cond.code ({ cls := "java/lang/Math", name := "max", desc := "(II)I" } : Jvm.MethodName) jdk_29_method_65_code (2 : Nat) (Option.some Jvm.ClassFile.FieldType.int), Jvm.Cond.code ({ cls := "java/util/Arrays", name := "copyOf", desc := "([BI)[B" } : Jvm.MethodName) jdk_65_method_121_code (3 : Nat) (Option.some (Jvm.ClassFile.FieldType.array Jvm.ClassFile.FieldType.byte)), Jvm.Cond.code ({ cls := "java/lang/Math", name := "min", desc := "(II)I" } : Jvm.MethodName) jdk_29_method_69_code (2 : Nat) (Option.some Jvm.ClassFile.FieldType.int), Jvm.Cond.code ({ cls := "java/lang/AbstractStringBuilder", name := "isLatin1", desc := "()Z" } : Jvm.MethodName) jdk_68_method_68_code (1 : Nat) (Option.some Jvm.ClassFile.FieldType.boolean), Jvm.Cond.code ({ cls := "java/lang/Integer", name := "getChars", desc := "(II[B)I" } : Jvm.MethodName) jdk_33_method_12_code (7 : Nat) (Option.some Jvm.ClassFile.FieldType.int), Jvm.Cond.code ({ cls := "java/lang/StringBuilder", name := "toString", desc := "()Ljava/lang/String;" } : Jvm.MethodName) jdk_67_method_42_code (1 : Nat) (Option.some (Jvm.ClassFile.FieldType.object "java/lang/String")), Jvm.Cond.code ({ cls := "java/lang/String", name := "<init>", desc := "(Ljava/lang/StringBuilder;)V" } : Jvm.MethodName) jdk_42_method_53_code (2 : Nat) (Option.none : Option Jvm.ClassFile.FieldType), Jvm.Cond.code ({ cls := "java/lang/String", name := "<init>", desc := "(Ljava/lang/AbstractStringBuilder;Ljava/lang/Void;)V" } : Jvm.MethodName) jdk_42_method_150_code (5 : Nat) (Option.none : Option Jvm.ClassFile.FieldType), Jvm.Cond.code ({ cls := "java/lang/AbstractStringBuilder", name := "getValue", desc := "()[B" } : Jvm.MethodName) jdk_68_method_64_code (1 : Nat) (Option.some (Jvm.ClassFile.FieldType.array Jvm.ClassFile.FieldType.byte)), Jvm.Cond.code ({ cls := "java/lang/StringBuilder", name := "length", desc := "()I" } : Jvm.MethodName) jdk_67_method_93_code (1 : Nat) (Option.some Jvm.ClassFile.FieldType.int), Jvm.Cond.code ({ cls := "java/lang/AbstractStringBuilder", name := "length", desc := "()I" } : Jvm.MethodName) jdk_68_method_6_code (1 : Nat) (Option.some Jvm.ClassFile.FieldType.int), Jvm.Cond.code ({ cls := "java/util/Arrays", name := "copyOfRange", desc := "([BII)[B" } : Jvm.MethodName) jdk_65_method_132_code (3 : Nat) (Option.some (Jvm.ClassFile.FieldType.array Jvm.ClassFile.FieldType.byte)), Jvm.Cond.code ({ cls := "java/util/Arrays", name := "copyOfRangeByte", desc := "([BII)[B" } : Jvm.MethodName) jdk_65_method_133_code (5 : Nat) (Option.some (Jvm.ClassFile.FieldType.array Jvm.ClassFile.FieldType.byte)), Jvm.Cond.code ({ cls := "java/util/Arrays", name := "checkLength", desc := "(II)V" } : Jvm.MethodName) jdk_65_method_131_code (2 : Nat) (Option.none : Option Jvm.ClassFile.FieldType), Jvm.Cond.code ({ cls := "com/example/tessera/tessera/sql/SqlTextPagedPinLaw", name := "width", desc := "(I)I" } : Jvm.MethodName) method_4_code (3 : Nat) (Option.some Jvm.ClassFile.FieldType.int), Jvm.Cond.code ({ cls := "com/example/tessera/tessera/sql/SqlTextPagedPinLaw", name := "digits", desc := "(J)I" } : Jvm.MethodName) method_3_code (2 : Nat) (Option.some Jvm.ClassFile.FieldType.int), Jvm.Cond.code ({ cls := "java/lang/String", name := "charAt", desc := "(I)C" } : Jvm.MethodName) jdk_42_method_56_code (2 : Nat) (Option.some Jvm.ClassFile.FieldType.char), Jvm.Cond.code ({ cls := "java/lang/String", name := "isLatin1", desc := "()Z" } : Jvm.MethodName) jdk_42_method_154_code (1 : Nat) (Option.some Jvm.ClassFile.FieldType.boolean), Jvm.Cond.code ({ cls := "java/lang/StringLatin1", name := "charAt", desc := "([BI)C" } : Jvm.MethodName) jdk_43_method_2_code (2 : Nat) (Option.some Jvm.ClassFile.FieldType.char), Jvm.Cond.code ({ cls := "java/lang/String", name := "checkIndex", desc := "(II)V" } : Jvm.MethodName) jdk_42_method_155_code (2 : Nat) (Option.none : Option Jvm.ClassFile.FieldType), Jvm.Cond.code ({ cls := "jdk/internal/util/Preconditions", name := "checkIndex", desc := "(IILjava/util/function/BiFunction;)I" } : Jvm.MethodName) jdk_41_method_11_code (3 : Nat) (Option.some Jvm.ClassFile.FieldType.int), Jvm.Cond.code ({ cls := "com/example/tessera/tessera/sql/SqlTextPagedPinLaw", name := "lit", desc := "(Ljava/lang/String;ILjava/lang/String;)Z" } : Jvm.MethodName) method_7_code (3 : Nat) (Option.some Jvm.ClassFile.FieldType.boolean), Jvm.Cond.code ({ cls := "com/example/tessera/tessera/sql/SqlTextPagedPinLaw", name := "num", desc := "(Ljava/lang/String;II)Z" } : Jvm.MethodName) method_6_code (7 : Nat) (Option.some Jvm.ClassFile.FieldType.boolean), Jvm.Cond.code ({ cls := "com/example/tessera/tessera/sql/SqlTextPagedPinLaw", name := "ok", desc := "(Ljava/lang/String;IJI)Z" } : Jvm.MethodName) method_5_code (7 : Nat) (Option.some Jvm.ClassFile.FieldType.boolean), Jvm.Cond.code ({ cls := "java/lang/String", name := "<init>", desc := "([C)V" } : Jvm.MethodName) jdk_42_method_3_code (2 : Nat) (Option.none : Option Jvm.ClassFile.FieldType), Jvm.Cond.code ({ cls := "java/lang/String", name := "<init>", desc := "([CIILjava/lang/Void;)V" } : Jvm.MethodName) jdk_42_method_149_code (6 : Nat) (Option.none : Option Jvm.ClassFile.FieldType), Jvm.Cond.code ({ cls := "java/lang/StringUTF16", name := "compress", desc := "([CII)[B" } : Jvm.MethodName) jdk_52_method_16_code (6 : Nat) (Option.some (Jvm.ClassFile.FieldType.array Jvm.ClassFile.FieldType.byte)), Jvm.Cond.code ({ cls := "java/lang/StringUTF16", name := "compress", desc := "([CI[BII)I" } : Jvm.MethodName) jdk_52_method_21_code (7 : Nat) (Option.some Jvm.ClassFile.FieldType.int), Jvm.Cond.code ({ cls := "java/lang/StringUTF16", name := "coderFromArrayLen", desc := "([BI)B" } : Jvm.MethodName) jdk_52_method_15_code (2 : Nat) (Option.some Jvm.ClassFile.FieldType.byte)]
set_option maxRecDepth 65536 in
theorem codes_eq : words1.filter isCode = codes1 := rfl
theorem w_codes : ∀ c ∈ words1.filter isCode, c.before args0 about1 = true := by
  rw [codes_eq]
  intro c hc
  simp only [codes1, List.mem_cons, List.not_mem_nil, or_false] at hc
  rcases hc with rfl | rfl | rfl | rfl | rfl | rfl | rfl | rfl | rfl | rfl | rfl | rfl | rfl | rfl | rfl | rfl | rfl | rfl | rfl | rfl | rfl | rfl | rfl | rfl | rfl | rfl | rfl | rfl | rfl | rfl | rfl | rfl | rfl | rfl | rfl | rfl | rfl | rfl | rfl | rfl | rfl | rfl | rfl | rfl | rfl | rfl | rfl | rfl | rfl | rfl | rfl
  · exact w_c0
  · exact w_c1
  · exact w_c2
  · exact w_c3
  · exact w_c4
  · exact w_c5
  · exact w_c6
  · exact w_c7
  · exact w_c8
  · exact w_c9
  · exact w_c10
  · exact w_c11
  · exact w_c12
  · exact w_c13
  · exact w_c14
  · exact w_c15
  · exact w_c16
  · exact w_c17
  · exact w_c18
  · exact w_c19
  · exact w_c20
  · exact w_c21
  · exact w_c22
  · exact w_c23
  · exact w_c24
  · exact w_c25
  · exact w_c26
  · exact w_c27
  · exact w_c28
  · exact w_c29
  · exact w_c30
  · exact w_c31
  · exact w_c32
  · exact w_c33
  · exact w_c34
  · exact w_c35
  · exact w_c36
  · exact w_c37
  · exact w_c38
  · exact w_c39
  · exact w_c40
  · exact w_c41
  · exact w_c42
  · exact w_c43
  · exact w_c44
  · exact w_c45
  · exact w_c46
  · exact w_c47
  · exact w_c48
  · exact w_c49
  · exact w_c50
set_option maxRecDepth 65536 in
theorem w_t1 : (words1.take 24).all (fun c => isCode c || c.before args0 about1) = true := by decide +kernel
set_option maxRecDepth 65536 in
theorem w_t2 : ((words1.drop 24).take 24).all (fun c => isCode c || c.before args0 about1) = true := by decide +kernel
set_option maxRecDepth 65536 in
theorem w_t3 : (((words1.drop 24).drop 24).take 24).all (fun c => isCode c || c.before args0 about1) = true := by decide +kernel
set_option maxRecDepth 65536 in
theorem w_t4 : ((((words1.drop 24).drop 24).drop 24).take 24).all (fun c => isCode c || c.before args0 about1) = true := by decide +kernel
set_option maxRecDepth 65536 in
theorem w_t5 : (((((words1.drop 24).drop 24).drop 24).drop 24).take 24).all (fun c => isCode c || c.before args0 about1) = true := by decide +kernel
set_option maxRecDepth 65536 in
theorem w_t6 : ((((((words1.drop 24).drop 24).drop 24).drop 24).drop 24).take 24).all (fun c => isCode c || c.before args0 about1) = true := by decide +kernel
set_option maxRecDepth 65536 in
theorem w_t7 : (((((((words1.drop 24).drop 24).drop 24).drop 24).drop 24).drop 24).take 24).all (fun c => isCode c || c.before args0 about1) = true := by decide +kernel
set_option maxRecDepth 65536 in
theorem w_t8 : ((((((((words1.drop 24).drop 24).drop 24).drop 24).drop 24).drop 24).drop 24).take 24).all (fun c => isCode c || c.before args0 about1) = true := by decide +kernel
set_option maxRecDepth 65536 in
theorem w_t9 : (((((((((words1.drop 24).drop 24).drop 24).drop 24).drop 24).drop 24).drop 24).drop 24).take 24).all (fun c => isCode c || c.before args0 about1) = true := by decide +kernel
set_option maxRecDepth 65536 in
theorem w_t10 : ((((((((((words1.drop 24).drop 24).drop 24).drop 24).drop 24).drop 24).drop 24).drop 24).drop 24).take 24).all (fun c => isCode c || c.before args0 about1) = true := by decide +kernel
set_option maxRecDepth 65536 in
theorem w_t11 : (((((((((((words1.drop 24).drop 24).drop 24).drop 24).drop 24).drop 24).drop 24).drop 24).drop 24).drop 24).take 24).all (fun c => isCode c || c.before args0 about1) = true := by decide +kernel
set_option maxRecDepth 65536 in
theorem w_t12 : (((((((((((words1.drop 24).drop 24).drop 24).drop 24).drop 24).drop 24).drop 24).drop 24).drop 24).drop 24).drop 24).all (fun c => isCode c || c.before args0 about1) = true := by decide +kernel
theorem w_tables : (allAtoms (Jvm.Cond.code x code maxLocals ret :: tables_1)).before args0 about1 = true := by
  rw [allAtoms_all]
  show words1.all (fun c => c.before args0 about1) = true
  refine all_split ?_ w_codes
  rw [← List.take_append_drop 24 words1, List.all_append, w_t1, ← List.take_append_drop 24 (words1.drop 24), List.all_append, w_t2, ← List.take_append_drop 24 ((words1.drop 24).drop 24), List.all_append, w_t3, ← List.take_append_drop 24 (((words1.drop 24).drop 24).drop 24), List.all_append, w_t4, ← List.take_append_drop 24 ((((words1.drop 24).drop 24).drop 24).drop 24), List.all_append, w_t5, ← List.take_append_drop 24 (((((words1.drop 24).drop 24).drop 24).drop 24).drop 24), List.all_append, w_t6, ← List.take_append_drop 24 ((((((words1.drop 24).drop 24).drop 24).drop 24).drop 24).drop 24), List.all_append, w_t7, ← List.take_append_drop 24 (((((((words1.drop 24).drop 24).drop 24).drop 24).drop 24).drop 24).drop 24), List.all_append, w_t8, ← List.take_append_drop 24 ((((((((words1.drop 24).drop 24).drop 24).drop 24).drop 24).drop 24).drop 24).drop 24), List.all_append, w_t9, ← List.take_append_drop 24 (((((((((words1.drop 24).drop 24).drop 24).drop 24).drop 24).drop 24).drop 24).drop 24).drop 24), List.all_append, w_t10, ← List.take_append_drop 24 ((((((((((words1.drop 24).drop 24).drop 24).drop 24).drop 24).drop 24).drop 24).drop 24).drop 24).drop 24), List.all_append, w_t11, w_t12]
  rfl
set_option maxRecDepth 65536 in
theorem w_rest : rest_1_c.before args0 about1 = true := by decide +kernel
set_option maxRecDepth 65536 in
theorem w_case : (Jvm.Cond.and given_1 narrow_1).before args0 about1 = true := by decide +kernel
set_option maxRecDepth 65536 in
theorem w_consts : constsHeld consts_1 about1 := Jvm.Lit.constsHeldB_iff.mp (by decide +kernel)
theorem w_applies : (headSpec (Jvm.Cond.code x code maxLocals ret :: tables_1) room_1).applies x e0.platform about1 = true :=
  (Spec.applies_iff w_frames).mpr ⟨w_running, w_runnable, w_alone, w_named, w_hears, w_ripe, w_room, w_tables⟩
theorem atStart : AtStart classFile x code maxLocals ret World_1 tables_1 room_1 Calls_1 rest_1 Pre_1 launch0 p0 e0 about1 theMethod args0 below0 :=
  ⟨lists_1, trivial, launch0.admits_env _ _ _, launch0.least_env, fairChoices_fair.cas, fairChoices_fair.clock, w_frames, w_args, w_heap, w_applies, ⟨w_consts, trivial⟩, w_rest, w_case⟩
end start1
theorem witness_1 : WitnessClaimed_1 := ⟨start1.p0, start1.e0, start1.about1, start1.theMethod, start1.args0, start1.below0, start1.atStart⟩
end Jvm.Pilot.@@N@@

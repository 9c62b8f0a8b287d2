import JvmDerived
import JvmDerived.Pilot.@@N@@Statement
import JvmDerived.Pilot.@@N@@Code
set_option linter.unusedVariables false
set_option linter.unusedSimpArgs false
namespace Jvm.RoadKit
open Sem ClassFile Op Lib Jvm.Stand Jvm.Free Jvm.LawKit
section New
variable {p : Program} {l : Launch} {e : Env} {R : Room} {s : State} {m : MethodId} {args : Array Value} {below : List Frame} {meth : Method} {c : Code} {T : State} {locs : List Loc} {cells slots : Nat}
theorem retI (X : Stand p l e R s m args below meth c T locs cells slots) (hx : p.tables.exec = Jvm.exec) {pc : Nat} {Ls : Array Slot} {z : Int32} {rest : List Value} (hret : meth.sig.returnType = some .int) (hd : decode c.code pc = .ok (.ireturn, 1)) {fs : List Frame}
    (hl : ∀ (f : JFrame) (acts : List Action), f.method = m → f.locked = none → f.entered = [] → (doReturn e (T.setTop f) acts (some (.int z))).1 = T.setFrames fs) : Steps p.tables e below (T.setTop (mkF m pc Ls (.int z :: rest))) (T.setFrames fs) := by
  have hm' : T.vm.method? m = some meth := X.method'
  have hn : narrow .int (.int z) = .int z := rfl
  show Steps p.tables e below (T.setTop { method := m, pc := pc, locals := Ls, stack := _ :: rest, locked := none }) _
  jvm_step X.here [X.here.top, hx, hd, hm', hret, hn]
  first | (intro acts; rw [hl _ acts rfl rfl rfl]) | rw [hl _ _ rfl rfl rfl]
  exact Steps.refl _
end New
end Jvm.RoadKit
namespace Jvm.Pilot.@@N@@
open Jvm Jvm.ClassFile Sem Op Lib Jvm.Free Jvm.Stand Jvm.LawKit Jvm.RoadKit Bundle Jvm.Pilot.@@N@@.Jvm.D
abbrev SS (p : Program) (e : Env) (below : List Frame) (T : State) (f : JFrame) (t : State) : Prop := Steps p.tables e below (T.setTop f) t
theorem wi {Z : State} {a0 : Array Value} (hw : ∀ d ∈ tables_1, d.before a0 Z = true) (i : Nat) {d : Jvm.Cond} (h : tables_1[i]? = some d) : d.before a0 Z = true := hw _ (List.mem_of_getElem? h)
theorem d_prog_20_method_1_0 : decode prog_20_method_1_code 0 = .ok (.aload_n 0, 1) := by decide +kernel
theorem d_prog_20_method_1_1 : decode prog_20_method_1_code 1 = .ok (.invokespecial 1, 3) := by decide +kernel
theorem d_prog_20_method_1_4 : decode prog_20_method_1_code 4 = .ok (.aload_n 0, 1) := by decide +kernel
theorem d_prog_20_method_1_5 : decode prog_20_method_1_code 5 = .ok (.aload_n 1, 1) := by decide +kernel
theorem d_prog_20_method_1_6 : decode prog_20_method_1_code 6 = .ok (.putfield 7, 3) := by decide +kernel
theorem d_prog_20_method_1_9 : decode prog_20_method_1_code 9 = .ok (.return_, 1) := by decide +kernel
theorem pn_com_example_subsumption_subsumption_DependencySet : plainName "com/example/subsumption/subsumption/DependencySet" = true := by first | (simp [plainName, overriddenIn]; done) | decide +kernel
def Q_init (Z : State) (a1 : Addr) (a2 : Addr) (u : Value) (h0 : Heap) (n0 : Nat) (xv : Option Value) (xh : Heap) (xL : List Loc) : Prop := xv = none ∧ Fr n0 xL ∧ Keep h0 xh [a1] ∧ Exa Z xh a1 "com/example/subsumption/subsumption/DependencySet" ∧ Fld Z xh a1 "com/example/subsumption/subsumption/DependencySet" "levels" "[I" (.ref a2)
theorem ef_init (mM : MethodId) (a1 : Addr) (a2 : Addr) (u : Value) : entryFrame mM #[(.ref a1), (.ref a2)] 2 = mkF mM 0 #[.val (.ref a1), .val (.ref a2)] [] := by first | (simp [entryFrame, mkF, argsToLocals, Value.category]; done) | rfl
set_option maxRecDepth 65536 in
set_option maxHeartbeats 40000000 in
theorem rm_init (l : Launch) (Z : State) (a0 : Array Value) (hw : ∀ d ∈ tables_1, d.before a0 Z = true) (ws : List Jvm.Cond) (a1 : Addr) (a2 : Addr) (u : Value) (h0 : Heap) (n0 : Nat) (Z0 : n0 ≤ h0.size) (E_a1 : Exa Z h0 a1 "com/example/subsumption/subsumption/DependencySet") (F_levels_a1 : Fld Z h0 a1 "com/example/subsumption/subsumption/DependencySet" "levels" "[I" u) (g_a1 : @LE.le Nat _ n0 a1) :
    MetFree l (⟨"com/example/subsumption/subsumption/DependencySet", "<init>", "([I)V"⟩ : MethodName) (head1 (Jvm.Cond.code (⟨"com/example/subsumption/subsumption/DependencySet", "<init>", "([I)V"⟩ : MethodName) prog_20_method_1_code 2 none :: ws) ({ frames := 1, cells := 0, slots := 0, locals := 12 } : Room)) (fun xa xU => xa = #[(.ref a1), (.ref a2)] ∧ Z.Warmed39 xU.vm ∧ xU.heap = h0) (fun _ _ _ _ _ => True) (fun _ xU xo xU' => ∃ xv xL, xo = .returned xv ∧ Q_init Z a1 a2 u h0 n0 xv xU'.heap xL ∧ FrameEnd xU xo xU' xL ({ frames := 1, cells := 0, slots := 0, locals := 12 } : Room).cells ({ frames := 1, cells := 0, slots := 0, locals := 12 } : Room).slots) := by
  refine MetFree.of_bodySF (plainFor_of_name pn_com_example_subsumption_subsumption_DependencySet) hisR ?_
  intro pP eE sS mM argS belowS methS cC s₁ Bd hml0 hP hK
  obtain ⟨rfl, hZ, hh⟩ := hP
  have hx := Bd.exec
  have hby := Bd.bytes
  have hml : cC.maxLocals = 2 := hml0
  have hown : sS.vm.findClass "com/example/subsumption/subsumption/DependencySet" = some mM.cls := findClass_of_methodNamed Bd.named
  have hnm := (name_of_methodNamed Bd.named Bd.method).1
  have X0 : Stand pP l eE ({ frames := 1, cells := 0, slots := 0, locals := 12 } : Room) sS mM #[(.ref a1), (.ref a2)] belowS methS cC s₁ [] 0 0 := Stand.of_body Bd
  have e0 : s₁.heap = h0 := by rw [← hh, Bd.state]; rfl
  have N0 := Fr.nil n0
  have pre0 : ∀ t', Steps pP.tables eE belowS (s₁.setTop (mkF mM 0 #[.val (.ref a1), .val (.ref a2)] [])) t' → Steps pP.tables eE belowS (s₁.setTop (entryFrame mM #[(.ref a1), (.ref a2)] 2)) t' := fun t' kk' => castTop (ef_init mM a1 a2 u) kk'
  obtain ⟨T1, X1, e1, st1⟩ := initO X0 hx hZ hown (wi hw 10 rfl) (wi hw 11 rfl) (wi hw 12 rfl) e0 (g := (mkF mM 1 #[.val (.ref a1), .val (.ref a2)] [(.ref a1)])) rfl (by rw [hml]; rfl) rfl (hb hby d_prog_20_method_1_1) (by decide) (W := 0) (by show 2 * 0 + _ ≤ _; exact Nat.le_of_eq rfl) (by decide)
  obtain ⟨T2, h2, X2, e2, W2, st2⟩ := putF X1 hx hZ hown (host := "") (Or.inl (wi hw 13 rfl)) Via.refl e1 F_levels_a1 E_a1 (Or.inr ⟨(wi hw 14 rfl), rfl, hnm⟩) (wi hw 5 rfl) (ty := (.array .int)) (by decide) rfl rfl (g := (mkF mM 6 #[.val (.ref a1), .val (.ref a2)] [(.ref a2), (.ref a1)])) rfl rfl (hb hby d_prog_20_method_1_6)
  have Sz1 : h0.size ≤ h2.size := Nat.le_of_eq (Wr.size W2).symm
  have Fw2 : Fld Z h2 a1 "com/example/subsumption/subsumption/DependencySet" "levels" "[I" (.ref a2) := Fld.same W2 F_levels_a1
  have N2 := Fr.snoc X2 N0 g_a1
  have c3_E_a1 : Exa Z h2 a1 "com/example/subsumption/subsumption/DependencySet" := Exa.wr W2 E_a1
  have K4 : Keep h0 h2 [a1] := (Keep.refl h0 [a1]).wr W2 (Or.inl (List.mem_of_getElem? (i := 0) rfl))
  obtain ⟨fs, hr, hrun, hended, hW, hsame⟩ := X2.leave (v := none) (fun _ => rfl)
  refine ⟨_, _, pre0 _ ?_, hrun, hended, _, _, rfl, ?_, ⟨_, rfl⟩, hW, hsame.mono (by decide) (by decide)⟩
  · show SS pP eE belowS s₁ (mkF mM 0 #[.val (.ref a1), .val (.ref a2)] []) _
    refine XS.aloadN X0.here hx rfl (hb hby d_prog_20_method_1_0) rfl rfl ?_
    show SS pP eE belowS s₁ (mkF mM 1 #[.val (.ref a1), .val (.ref a2)] [(.ref a1)]) _
    refine st1 _ ?_
    show SS pP eE belowS T1 (mkF mM 4 #[.val (.ref a1), .val (.ref a2)] []) _
    refine XS.aloadN X1.here hx rfl (hb hby d_prog_20_method_1_4) rfl rfl ?_
    show SS pP eE belowS T1 (mkF mM 5 #[.val (.ref a1), .val (.ref a2)] [(.ref a1)]) _
    refine XS.aloadN X1.here hx rfl (hb hby d_prog_20_method_1_5) rfl rfl ?_
    show SS pP eE belowS T1 (mkF mM 6 #[.val (.ref a1), .val (.ref a2)] [(.ref a2), (.ref a1)]) _
    refine st2 _ ?_
    show SS pP eE belowS T2 (mkF mM 9 #[.val (.ref a1), .val (.ref a2)] []) _
    exact X2.returnOut hx Bd.returns (hb hby d_prog_20_method_1_9) hr
  · show Q_init Z a1 a2 u h0 n0 _ T2.heap _
    rw [e2]
    exact ⟨rfl, N2, K4, c3_E_a1, Fw2⟩
theorem d_prog_20_method_2_0 : decode prog_20_method_2_code 0 = .ok (.new 8, 3) := by decide +kernel
theorem d_prog_20_method_2_3 : decode prog_20_method_2_code 3 = .ok (.dup, 1) := by decide +kernel
theorem d_prog_20_method_2_4 : decode prog_20_method_2_code 4 = .ok (.iconst 1, 1) := by decide +kernel
theorem d_prog_20_method_2_5 : decode prog_20_method_2_code 5 = .ok (.newarray .int, 2) := by decide +kernel
theorem d_prog_20_method_2_7 : decode prog_20_method_2_code 7 = .ok (.dup, 1) := by decide +kernel
theorem d_prog_20_method_2_8 : decode prog_20_method_2_code 8 = .ok (.iconst 0, 1) := by decide +kernel
theorem d_prog_20_method_2_9 : decode prog_20_method_2_code 9 = .ok (.iload_n 0, 1) := by decide +kernel
theorem d_prog_20_method_2_10 : decode prog_20_method_2_code 10 = .ok (.iastore, 1) := by decide +kernel
theorem d_prog_20_method_2_11 : decode prog_20_method_2_code 11 = .ok (.invokespecial 13, 3) := by decide +kernel
theorem pd_1 : parseMethodDescriptor "([I)V" = some ⟨[(.array .int)], none⟩ := by decide +kernel
theorem d_prog_20_method_2_14 : decode prog_20_method_2_code 14 = .ok (.areturn, 1) := by decide +kernel
def Q_of (Z : State) (p1 : Int32) (h0 : Heap) (n0 : Nat) (xv : Option Value) (xh : Heap) (xL : List Loc) : Prop := ∃ b : Addr, ∃ w : Addr, ∃ k : ClassId, xv = some (.ref b) ∧ Fr n0 xL ∧ Keep h0 xh [] ∧ Exa Z xh b "com/example/subsumption/subsumption/DependencySet" ∧ Fld Z xh b "com/example/subsumption/subsumption/DependencySet" "levels" "[I" (.ref w) ∧ Arv Z xh w k .int (1 : Int32) [(.int p1)] (.int (0 : Int32)) ∧ @LE.le Nat _ h0.size b ∧ @LE.le Nat _ h0.size w
theorem ef_of (mM : MethodId) (p1 : Int32) : entryFrame mM #[(.int p1)] 1 = mkF mM 0 #[.val (.int p1)] [] := by first | (simp [entryFrame, mkF, argsToLocals, Value.category]; done) | rfl
set_option maxRecDepth 65536 in
set_option maxHeartbeats 40000000 in
theorem rm_of (l : Launch) (Z : State) (a0 : Array Value) (hw : ∀ d ∈ tables_1, d.before a0 Z = true) (ws : List Jvm.Cond) (p1 : Int32) (h0 : Heap) (n0 : Nat) (Z0 : n0 ≤ h0.size) :
    MetFree l (⟨"com/example/subsumption/subsumption/DependencySet", "of", "(I)Lcom/example/subsumption/subsumption/DependencySet;"⟩ : MethodName) (head1 (Jvm.Cond.code (⟨"com/example/subsumption/subsumption/DependencySet", "of", "(I)Lcom/example/subsumption/subsumption/DependencySet;"⟩ : MethodName) prog_20_method_2_code 1 (some (.object "com/example/subsumption/subsumption/DependencySet")) :: ws) ({ frames := 2, cells := 2, slots := 2, locals := 26 } : Room)) (fun xa xU => xa = #[(.int p1)] ∧ Z.Warmed39 xU.vm ∧ xU.heap = h0) (fun _ _ _ _ _ => True) (fun _ xU xo xU' => ∃ xv xL, xo = .returned xv ∧ Q_of Z p1 h0 n0 xv xU'.heap xL ∧ FrameEnd xU xo xU' xL ({ frames := 2, cells := 2, slots := 2, locals := 26 } : Room).cells ({ frames := 2, cells := 2, slots := 2, locals := 26 } : Room).slots) := by
  refine MetFree.of_bodySF (plainFor_of_name pn_com_example_subsumption_subsumption_DependencySet) hisR ?_
  intro pP eE sS mM argS belowS methS cC s₁ Bd hml0 hP hK
  obtain ⟨rfl, hZ, hh⟩ := hP
  have hx := Bd.exec
  have hby := Bd.bytes
  have hml : cC.maxLocals = 1 := hml0
  have hown : sS.vm.findClass "com/example/subsumption/subsumption/DependencySet" = some mM.cls := findClass_of_methodNamed Bd.named
  have hnm := (name_of_methodNamed Bd.named Bd.method).1
  have X0 : Stand pP l eE ({ frames := 2, cells := 2, slots := 2, locals := 26 } : Room) sS mM #[(.int p1)] belowS methS cC s₁ [] 0 0 := Stand.of_body Bd
  have e0 : s₁.heap = h0 := by rw [← hh, Bd.state]; rfl
  have N0 := Fr.nil n0
  have pre0 : ∀ t', Steps pP.tables eE belowS (s₁.setTop (mkF mM 0 #[.val (.int p1)] [])) t' → Steps pP.tables eE belowS (s₁.setTop (entryFrame mM #[(.int p1)] 1)) t' := fun t' kk' => castTop (ef_of mM p1) kk'
  obtain ⟨T1, h1, X1, e1, E1, A1, D1, B1, st1⟩ := newO X0 hx hZ hown (wi hw 4 rfl) (wi hw 5 rfl) (wi hw 2 rfl) e0 (g := (mkF mM 0 #[.val (.int p1)] [])) rfl (hb hby d_prog_20_method_2_0) (by decide) (by decide)
  obtain ⟨b1, g1⟩ : ∃ z : Nat, z = h0.size := ⟨_, rfl⟩
  rw [← g1] at A1 D1 B1 st1
  have Sz1 : h0.size ≤ h1.size := E1.1
  have F1_levels : Fld Z h1 b1 "com/example/subsumption/subsumption/DependencySet" "levels" "[I" .null := D1 (Or.inr (wi hw 14 rfl)) (ty := (.array .int)) (by decide)
  obtain ⟨T2, h2, k2, X2, e2, E2, A2, st2⟩ := newP X1 hx hZ (wi hw 6 rfl) e1 (g := (mkF mM 5 #[.val (.int p1)] [(.int (1 : Int32)), (.ref b1), (.ref b1)])) rfl (hb hby d_prog_20_method_2_5) rfl (by decide) (cap := 1) (by decide) (by decide) (by decide) (by decide)
  obtain ⟨b2, g2⟩ : ∃ z : Nat, z = h1.size := ⟨_, rfl⟩
  rw [← g2] at A2 st2
  have Sz2 : h1.size ≤ h2.size := E2.1
  have V_b2 : Arv Z h2 b2 k2 .int (1 : Int32) [(.int (0 : Int32))] (.int (0 : Int32)) := (Arv.new A2 (by decide)).pad (pad_rep [] (.int (0 : Int32)) 1)
  obtain ⟨cl3, Ar3, q3, S3, Ng3, Ha3, Ga3⟩ := id V_b2
  have hin3 : ¬ ((0 : Int32) < 0 ∨ cl3.slots.size ≤ ((0 : Int32)).toNatClampNeg) := inb_of S3 ⟨by decide, by decide⟩
  obtain ⟨T4, h4, X4, e4, W4, st4⟩ := stI X2 hx hZ e2 Ar3 (j := (0 : Int32)) hin3 (g := (mkF mM 10 #[.val (.int p1)] [(.int p1), (.int (0 : Int32)), (.ref b2), (.ref b2), (.ref b1), (.ref b1)])) rfl rfl (hb hby d_prog_20_method_2_10)
  have ge5_b2 : @LE.le Nat _ n0 b2 := by omega
  have Sz3 : h2.size ≤ h4.size := Nat.le_of_eq (Wr.size W4).symm
  have Vs4 := Arv.set Ar3 q3 S3 Ng3 Ha3 Ga3 rfl W4 0 rfl (Nat.le_of_ble_eq_true rfl)
  have Vt4 : Arv Z h4 b2 k2 .int (1 : Int32) [(.int p1)] (.int (0 : Int32)) := Vs4
  have N4 := Fr.snoc X4 N0 ge5_b2
  have c7_E_b1 : Exa Z h2 b1 "com/example/subsumption/subsumption/DependencySet" := Exa.ext E2 A1
  have c8_E_b1 : Exa Z h4 b1 "com/example/subsumption/subsumption/DependencySet" := Exa.wr W4 c7_E_b1
  have c9_F_levels_b1 : Fld Z h2 b1 "com/example/subsumption/subsumption/DependencySet" "levels" "[I" .null := Fld.ext E2 F1_levels
  have lt_b1 : @LT.lt Nat _ b1 h1.size := A1.lt
  have lt_b2 : @LT.lt Nat _ b2 h4.size := Vt4.lt
  have ne_b1_b2_10 : b1 ≠ b2 := (by omega : @Ne Nat b1 b2)
  have c11_F_levels_b1 : Fld Z h4 b1 "com/example/subsumption/subsumption/DependencySet" "levels" "[I" .null := Fld.other W4 c9_F_levels_b1 (Or.inl ne_b1_b2_10)
  have ge12_b1 : @LE.le Nat _ n0 b1 := by omega
  obtain ⟨_, _, ⟨T6, L6, k6, n6⟩, -, X6, ⟨Lc6, hQ6, l6, y6, z6⟩, st6⟩ := X4.specialBack hx (y := (⟨"com/example/subsumption/subsumption/DependencySet", "<init>", "([I)V"⟩ : MethodName)) rfl hown (mvT hZ (wi hw 7 rfl)) (mvT hZ (wi hw 8 rfl)) (mvT hZ (wi hw 9 rfl)) (by decide) (backOf (W := 1) (rm_init l Z a0 hw [] b1 b2 .null h4 n0 (by omega) c8_E_b1 c11_F_levels_b1 ge12_b1) hZ (wi hw 9 rfl) (wi hw 2 rfl) (by decide) (by decide)) (g := (mkF mM 11 #[.val (.int p1)] [(.ref b2), (.ref b1), (.ref b1)])) rfl (by rw [hml]; rfl) (Steps.refl _) (a := b1) (argsL := [(.ref b2)]) (rest := [(.ref b1)]) (lenOf pd_1 rfl) rfl (by show 2 * 0 + _ ≤ _; exact Nat.le_of_eq rfl) (hb hby d_prog_20_method_2_11) (fun _ _ => ⟨rfl, e4, Nat.le_of_ble_eq_true rfl, Nat.le_of_ble_eq_true rfl⟩)
  dsimp only [Pt.U, Pt.locs, Pt.cells, Pt.slots] at X6 l6 y6 z6 st6 hQ6
  subst l6 y6 z6
  obtain ⟨h6, e6⟩ : ∃ z, T6.heap = z := ⟨_, rfl⟩
  rw [e6] at hQ6
  obtain ⟨rfl, N6q, Kp6, p6_E_a1, p6_F_levels_a1⟩ := hQ6
  have Sz4 : h4.size ≤ h6.size := Kp6.1
  have N6 := Fr.app N4 N6q
  have ne_b2_b1_13 : b2 ≠ b1 := (by omega : @Ne Nat b2 b1)
  have c14_V_b2 : Arv Z h6 b2 k2 .int (1 : Int32) [(.int p1)] (.int (0 : Int32)) := Vt4.keep Kp6 (ninS ne_b2_b1_13 nin0)
  have K15 : Keep h0 h1 [] := (Keep.refl h0 []).ext E1
  have K16 : Keep h0 h2 [] := K15.ext E2
  have K17 : Keep h0 h4 [] := K16.wr W4 (Or.inr (by omega : @LE.le Nat _ h0.size b2))
  have K18 : Keep h0 h6 [] := K17.trans Kp6 (allS (Or.inr (by omega : @LE.le Nat _ h0.size b1)) all0)
  obtain ⟨fs, hr, hrun, hended, hW, hsame⟩ := X6.leave (v := some (.ref b1)) (fun h => by rw [Bd.returns] at h; cases h)
  refine ⟨_, _, pre0 _ ?_, hrun, hended, _, _, rfl, ?_, ⟨_, rfl⟩, hW, hsame.mono (by decide) (by decide)⟩
  · show SS pP eE belowS s₁ (mkF mM 0 #[.val (.int p1)] []) _
    refine st1 _ ?_
    show SS pP eE belowS T1 (mkF mM 3 #[.val (.int p1)] [(.ref b1)]) _
    refine XS.dup X1.here hx rfl (hb hby d_prog_20_method_2_3) rfl rfl ?_
    show SS pP eE belowS T1 (mkF mM 4 #[.val (.int p1)] [(.ref b1), (.ref b1)]) _
    refine XS.iconst X1.here hx rfl (hb hby d_prog_20_method_2_4) ?_
    show SS pP eE belowS T1 (mkF mM 5 #[.val (.int p1)] [(.int (1 : Int32)), (.ref b1), (.ref b1)]) _
    refine st2 _ ?_
    show SS pP eE belowS T2 (mkF mM 7 #[.val (.int p1)] [(.ref b2), (.ref b1), (.ref b1)]) _
    refine XS.dup X2.here hx rfl (hb hby d_prog_20_method_2_7) rfl rfl ?_
    show SS pP eE belowS T2 (mkF mM 8 #[.val (.int p1)] [(.ref b2), (.ref b2), (.ref b1), (.ref b1)]) _
    refine XS.iconst X2.here hx rfl (hb hby d_prog_20_method_2_8) ?_
    show SS pP eE belowS T2 (mkF mM 9 #[.val (.int p1)] [(.int (0 : Int32)), (.ref b2), (.ref b2), (.ref b1), (.ref b1)]) _
    refine XS.iloadN X2.here hx rfl (hb hby d_prog_20_method_2_9) rfl ?_
    show SS pP eE belowS T2 (mkF mM 10 #[.val (.int p1)] [(.int p1), (.int (0 : Int32)), (.ref b2), (.ref b2), (.ref b1), (.ref b1)]) _
    refine st4 _ ?_
    show SS pP eE belowS T4 (mkF mM 11 #[.val (.int p1)] [(.ref b2), (.ref b1), (.ref b1)]) _
    refine st6.trans ?_
    show SS pP eE belowS T6 (mkF mM 14 #[.val (.int p1)] [(.ref b1)]) _
    jvm_step X6.here [X6.here.top, hx, (hb hby d_prog_20_method_2_14), X6.method', Bd.returns, Value.isRef, FieldType.isReference]
    first | (intro acts; rw [hr _ acts rfl rfl rfl]) | rw [hr _ _ rfl rfl rfl]
    exact Steps.refl _
  · show Q_of Z p1 h0 n0 _ T6.heap _
    rw [e6]
    exact ⟨b1, b2, k2, rfl, N6, K18, p6_E_a1, p6_F_levels_a1, c14_V_b2, (by omega), (by omega)⟩
theorem d_prog_20_method_3_0 : decode prog_20_method_3_code 0 = .ok (.aload_n 0, 1) := by decide +kernel
theorem d_prog_20_method_3_1 : decode prog_20_method_3_code 1 = .ok (.getfield 7, 3) := by decide +kernel
theorem d_prog_20_method_3_4 : decode prog_20_method_3_code 4 = .ok (.arraylength, 1) := by decide +kernel
theorem d_prog_20_method_3_5 : decode prog_20_method_3_code 5 = .ok (.ifCond .ne 7, 3) := by decide +kernel
theorem d_prog_20_method_3_8 : decode prog_20_method_3_code 8 = .ok (.iconst 1, 1) := by decide +kernel
theorem d_prog_20_method_3_9 : decode prog_20_method_3_code 9 = .ok (.goto 4, 3) := by decide +kernel
theorem d_prog_20_method_3_13 : decode prog_20_method_3_code 13 = .ok (.ireturn, 1) := by decide +kernel
def Q_isEmpty0 (Z : State) (a1 : Addr) (w : Addr) (k : ClassId) (vs : List Value) (h0 : Heap) (n0 : Nat) (xv : Option Value) (xh : Heap) (xL : List Loc) : Prop := xv = some (.int (1 : Int32)) ∧ Fr n0 xL ∧ xh = h0
theorem ef_isEmpty0 (mM : MethodId) (a1 : Addr) (w : Addr) (k : ClassId) (vs : List Value) : entryFrame mM #[(.ref a1)] 1 = mkF mM 0 #[.val (.ref a1)] [] := by first | (simp [entryFrame, mkF, argsToLocals, Value.category]; done) | rfl
set_option maxRecDepth 65536 in
set_option maxHeartbeats 40000000 in
theorem rm_isEmpty0 (l : Launch) (Z : State) (a0 : Array Value) (hw : ∀ d ∈ tables_1, d.before a0 Z = true) (ws : List Jvm.Cond) (a1 : Addr) (w : Addr) (k : ClassId) (vs : List Value) (h0 : Heap) (n0 : Nat) (Z0 : n0 ≤ h0.size) (F_levels_a1 : Fld Z h0 a1 "com/example/subsumption/subsumption/DependencySet" "levels" "[I" (.ref w)) (V_w : Arv Z h0 w k .int (0 : Int32) vs (.int (0 : Int32))) :
    MetFree l (⟨"com/example/subsumption/subsumption/DependencySet", "isEmpty", "()Z"⟩ : MethodName) (head1 (Jvm.Cond.code (⟨"com/example/subsumption/subsumption/DependencySet", "isEmpty", "()Z"⟩ : MethodName) prog_20_method_3_code 1 (some .boolean) :: ws) ({ frames := 0, cells := 0, slots := 0, locals := 0 } : Room)) (fun xa xU => xa = #[(.ref a1)] ∧ Z.Warmed39 xU.vm ∧ xU.heap = h0) (fun _ _ _ _ _ => True) (fun _ xU xo xU' => ∃ xv xL, xo = .returned xv ∧ Q_isEmpty0 Z a1 w k vs h0 n0 xv xU'.heap xL ∧ FrameEnd xU xo xU' xL ({ frames := 0, cells := 0, slots := 0, locals := 0 } : Room).cells ({ frames := 0, cells := 0, slots := 0, locals := 0 } : Room).slots) := by
  refine MetFree.of_bodySF (plainFor_of_name pn_com_example_subsumption_subsumption_DependencySet) hisR ?_
  intro pP eE sS mM argS belowS methS cC s₁ Bd hml0 hP hK
  obtain ⟨rfl, hZ, hh⟩ := hP
  have hx := Bd.exec
  have hby := Bd.bytes
  have hml : cC.maxLocals = 1 := hml0
  have hown : sS.vm.findClass "com/example/subsumption/subsumption/DependencySet" = some mM.cls := findClass_of_methodNamed Bd.named
  have hnm := (name_of_methodNamed Bd.named Bd.method).1
  have X0 : Stand pP l eE ({ frames := 0, cells := 0, slots := 0, locals := 0 } : Room) sS mM #[(.ref a1)] belowS methS cC s₁ [] 0 0 := Stand.of_body Bd
  have e0 : s₁.heap = h0 := by rw [← hh, Bd.state]; rfl
  have N0 := Fr.nil n0
  have pre0 : ∀ t', Steps pP.tables eE belowS (s₁.setTop (mkF mM 0 #[.val (.ref a1)] [])) t' → Steps pP.tables eE belowS (s₁.setTop (entryFrame mM #[(.ref a1)] 1)) t' := fun t' kk' => castTop (ef_isEmpty0 mM a1 w k vs) kk'
  obtain ⟨T1, X1, e1, st1⟩ := getF X0 hx hZ hown (host := "") (Or.inl (wi hw 13 rfl)) Via.refl e0 F_levels_a1 (g := (mkF mM 1 #[.val (.ref a1)] [(.ref a1)])) rfl rfl (hb hby d_prog_20_method_3_1)
  obtain ⟨cl2, Ar2, q2, S2, Ng2, Ha2, Ga2⟩ := id V_w
  obtain ⟨fs, hr, hrun, hended, hW, hsame⟩ := X1.leave (v := some (.int (1 : Int32))) (fun h => by rw [Bd.returns] at h; cases h)
  refine ⟨_, _, pre0 _ ?_, hrun, hended, _, _, rfl, ?_, ⟨_, rfl⟩, hW, hsame.mono (by decide) (by decide)⟩
  · show SS pP eE belowS s₁ (mkF mM 0 #[.val (.ref a1)] []) _
    refine XS.aloadN X0.here hx rfl (hb hby d_prog_20_method_3_0) rfl rfl ?_
    show SS pP eE belowS s₁ (mkF mM 1 #[.val (.ref a1)] [(.ref a1)]) _
    refine st1 _ ?_
    show SS pP eE belowS T1 (mkF mM 4 #[.val (.ref a1)] [(.ref w)]) _
    refine X1.arraylength hx (by rw [e1]; exact Ar2.1) (State.isArrayOf_alike hZ.alike Ar2.2.1) (g := (mkF mM 4 #[.val (.ref a1)] [(.ref w)])) rfl rfl (hb hby d_prog_20_method_3_4) _ ?_
    rw [len_of S2 Ng2]
    show SS pP eE belowS T1 (mkF mM 5 #[.val (.ref a1)] [(.int (0 : Int32))]) _
    refine XS.ifNo X1.here hx rfl (hb hby d_prog_20_method_3_5) rfl ((if0 _ _).trans (teq (by decide : (0 : Int32) = (0 : Int32))).2) ?_
    show SS pP eE belowS T1 (mkF mM 8 #[.val (.ref a1)] []) _
    refine XS.iconst X1.here hx rfl (hb hby d_prog_20_method_3_8) ?_
    show SS pP eE belowS T1 (mkF mM 9 #[.val (.ref a1)] [(.int (1 : Int32))]) _
    refine XS.goto X1.here hx rfl (pc0 := 9) (pc' := 13) rfl (hb hby d_prog_20_method_3_9) (by decide) (by decide) ?_
    show SS pP eE belowS T1 (mkF mM 13 #[.val (.ref a1)] [(.int (1 : Int32))]) _
    exact retN X1 hx (t := .boolean) Bd.returns (by simp) (hb hby d_prog_20_method_3_13) hr
  · show Q_isEmpty0 Z a1 w k vs h0 n0 _ T1.heap _
    rw [e1]
    exact ⟨rfl, N0, rfl⟩
theorem d_prog_20_method_3_12 : decode prog_20_method_3_code 12 = .ok (.iconst 0, 1) := by decide +kernel
def Q_isEmpty1 (Z : State) (a1 : Addr) (w : Addr) (k : ClassId) (vs : List Value) (h0 : Heap) (n0 : Nat) (xv : Option Value) (xh : Heap) (xL : List Loc) : Prop := xv = some (.int (0 : Int32)) ∧ Fr n0 xL ∧ xh = h0
theorem ef_isEmpty1 (mM : MethodId) (a1 : Addr) (w : Addr) (k : ClassId) (vs : List Value) : entryFrame mM #[(.ref a1)] 1 = mkF mM 0 #[.val (.ref a1)] [] := by first | (simp [entryFrame, mkF, argsToLocals, Value.category]; done) | rfl
set_option maxRecDepth 65536 in
set_option maxHeartbeats 40000000 in
theorem rm_isEmpty1 (l : Launch) (Z : State) (a0 : Array Value) (hw : ∀ d ∈ tables_1, d.before a0 Z = true) (ws : List Jvm.Cond) (a1 : Addr) (w : Addr) (k : ClassId) (vs : List Value) (h0 : Heap) (n0 : Nat) (Z0 : n0 ≤ h0.size) (F_levels_a1 : Fld Z h0 a1 "com/example/subsumption/subsumption/DependencySet" "levels" "[I" (.ref w)) (V_w : Arv Z h0 w k .int (1 : Int32) vs (.int (0 : Int32))) :
    MetFree l (⟨"com/example/subsumption/subsumption/DependencySet", "isEmpty", "()Z"⟩ : MethodName) (head1 (Jvm.Cond.code (⟨"com/example/subsumption/subsumption/DependencySet", "isEmpty", "()Z"⟩ : MethodName) prog_20_method_3_code 1 (some .boolean) :: ws) ({ frames := 0, cells := 0, slots := 0, locals := 0 } : Room)) (fun xa xU => xa = #[(.ref a1)] ∧ Z.Warmed39 xU.vm ∧ xU.heap = h0) (fun _ _ _ _ _ => True) (fun _ xU xo xU' => ∃ xv xL, xo = .returned xv ∧ Q_isEmpty1 Z a1 w k vs h0 n0 xv xU'.heap xL ∧ FrameEnd xU xo xU' xL ({ frames := 0, cells := 0, slots := 0, locals := 0 } : Room).cells ({ frames := 0, cells := 0, slots := 0, locals := 0 } : Room).slots) := by
  refine MetFree.of_bodySF (plainFor_of_name pn_com_example_subsumption_subsumption_DependencySet) hisR ?_
  intro pP eE sS mM argS belowS methS cC s₁ Bd hml0 hP hK
  obtain ⟨rfl, hZ, hh⟩ := hP
  have hx := Bd.exec
  have hby := Bd.bytes
  have hml : cC.maxLocals = 1 := hml0
  have hown : sS.vm.findClass "com/example/subsumption/subsumption/DependencySet" = some mM.cls := findClass_of_methodNamed Bd.named
  have hnm := (name_of_methodNamed Bd.named Bd.method).1
  have X0 : Stand pP l eE ({ frames := 0, cells := 0, slots := 0, locals := 0 } : Room) sS mM #[(.ref a1)] belowS methS cC s₁ [] 0 0 := Stand.of_body Bd
  have e0 : s₁.heap = h0 := by rw [← hh, Bd.state]; rfl
  have N0 := Fr.nil n0
  have pre0 : ∀ t', Steps pP.tables eE belowS (s₁.setTop (mkF mM 0 #[.val (.ref a1)] [])) t' → Steps pP.tables eE belowS (s₁.setTop (entryFrame mM #[(.ref a1)] 1)) t' := fun t' kk' => castTop (ef_isEmpty1 mM a1 w k vs) kk'
  obtain ⟨T1, X1, e1, st1⟩ := getF X0 hx hZ hown (host := "") (Or.inl (wi hw 13 rfl)) Via.refl e0 F_levels_a1 (g := (mkF mM 1 #[.val (.ref a1)] [(.ref a1)])) rfl rfl (hb hby d_prog_20_method_3_1)
  obtain ⟨cl2, Ar2, q2, S2, Ng2, Ha2, Ga2⟩ := id V_w
  obtain ⟨fs, hr, hrun, hended, hW, hsame⟩ := X1.leave (v := some (.int (0 : Int32))) (fun h => by rw [Bd.returns] at h; cases h)
  refine ⟨_, _, pre0 _ ?_, hrun, hended, _, _, rfl, ?_, ⟨_, rfl⟩, hW, hsame.mono (by decide) (by decide)⟩
  · show SS pP eE belowS s₁ (mkF mM 0 #[.val (.ref a1)] []) _
    refine XS.aloadN X0.here hx rfl (hb hby d_prog_20_method_3_0) rfl rfl ?_
    show SS pP eE belowS s₁ (mkF mM 1 #[.val (.ref a1)] [(.ref a1)]) _
    refine st1 _ ?_
    show SS pP eE belowS T1 (mkF mM 4 #[.val (.ref a1)] [(.ref w)]) _
    refine X1.arraylength hx (by rw [e1]; exact Ar2.1) (State.isArrayOf_alike hZ.alike Ar2.2.1) (g := (mkF mM 4 #[.val (.ref a1)] [(.ref w)])) rfl rfl (hb hby d_prog_20_method_3_4) _ ?_
    rw [len_of S2 Ng2]
    show SS pP eE belowS T1 (mkF mM 5 #[.val (.ref a1)] [(.int (1 : Int32))]) _
    refine XS.ifYes X1.here hx rfl (pc0 := 5) (pc' := 12) rfl (hb hby d_prog_20_method_3_5) rfl ((if0 _ _).trans (feq (by decide : ¬ ((1 : Int32) = (0 : Int32)))).2) (by decide) (by decide) ?_
    show SS pP eE belowS T1 (mkF mM 12 #[.val (.ref a1)] []) _
    refine XS.iconst X1.here hx rfl (hb hby d_prog_20_method_3_12) ?_
    show SS pP eE belowS T1 (mkF mM 13 #[.val (.ref a1)] [(.int (0 : Int32))]) _
    exact retN X1 hx (t := .boolean) Bd.returns (by simp) (hb hby d_prog_20_method_3_13) hr
  · show Q_isEmpty1 Z a1 w k vs h0 n0 _ T1.heap _
    rw [e1]
    exact ⟨rfl, N0, rfl⟩
theorem d_jdk_65_method_59_0 : decode jdk_65_method_59_code 0 = .ok (.iload_n 1, 1) := by decide +kernel
theorem d_jdk_65_method_59_1 : decode jdk_65_method_59_code 1 = .ok (.istore 4, 2) := by decide +kernel
theorem d_jdk_65_method_59_3 : decode jdk_65_method_59_code 3 = .ok (.iload_n 2, 1) := by decide +kernel
theorem d_jdk_65_method_59_4 : decode jdk_65_method_59_code 4 = .ok (.iconst 1, 1) := by decide +kernel
theorem d_jdk_65_method_59_5 : decode jdk_65_method_59_code 5 = .ok (.isub, 1) := by decide +kernel
theorem d_jdk_65_method_59_6 : decode jdk_65_method_59_code 6 = .ok (.istore 5, 2) := by decide +kernel
theorem d_jdk_65_method_59_8 : decode jdk_65_method_59_code 8 = .ok (.iload 4, 2) := by decide +kernel
theorem d_jdk_65_method_59_10 : decode jdk_65_method_59_code 10 = .ok (.iload 5, 2) := by decide +kernel
theorem d_jdk_65_method_59_12 : decode jdk_65_method_59_code 12 = .ok (.if_icmp .gt 54, 3) := by decide +kernel
theorem d_jdk_65_method_59_15 : decode jdk_65_method_59_code 15 = .ok (.iload 4, 2) := by decide +kernel
theorem d_jdk_65_method_59_17 : decode jdk_65_method_59_code 17 = .ok (.iload 5, 2) := by decide +kernel
theorem d_jdk_65_method_59_19 : decode jdk_65_method_59_code 19 = .ok (.iadd, 1) := by decide +kernel
theorem d_jdk_65_method_59_20 : decode jdk_65_method_59_code 20 = .ok (.iconst 1, 1) := by decide +kernel
theorem d_jdk_65_method_59_21 : decode jdk_65_method_59_code 21 = .ok (.iushr, 1) := by decide +kernel
theorem d_jdk_65_method_59_22 : decode jdk_65_method_59_code 22 = .ok (.istore 6, 2) := by decide +kernel
theorem d_jdk_65_method_59_24 : decode jdk_65_method_59_code 24 = .ok (.aload_n 0, 1) := by decide +kernel
theorem d_jdk_65_method_59_25 : decode jdk_65_method_59_code 25 = .ok (.iload 6, 2) := by decide +kernel
theorem d_jdk_65_method_59_27 : decode jdk_65_method_59_code 27 = .ok (.iaload, 1) := by decide +kernel
theorem d_jdk_65_method_59_28 : decode jdk_65_method_59_code 28 = .ok (.istore 7, 2) := by decide +kernel
theorem d_jdk_65_method_59_30 : decode jdk_65_method_59_code 30 = .ok (.iload 7, 2) := by decide +kernel
theorem d_jdk_65_method_59_32 : decode jdk_65_method_59_code 32 = .ok (.iload_n 3, 1) := by decide +kernel
theorem d_jdk_65_method_59_33 : decode jdk_65_method_59_code 33 = .ok (.if_icmp .ge 12, 3) := by decide +kernel
theorem d_jdk_65_method_59_45 : decode jdk_65_method_59_code 45 = .ok (.iload 7, 2) := by decide +kernel
theorem d_jdk_65_method_59_47 : decode jdk_65_method_59_code 47 = .ok (.iload_n 3, 1) := by decide +kernel
theorem d_jdk_65_method_59_48 : decode jdk_65_method_59_code 48 = .ok (.if_icmp .le 12, 3) := by decide +kernel
theorem d_jdk_65_method_59_60 : decode jdk_65_method_59_code 60 = .ok (.iload 6, 2) := by decide +kernel
theorem d_jdk_65_method_59_62 : decode jdk_65_method_59_code 62 = .ok (.ireturn, 1) := by decide +kernel
theorem pn_java_util_Arrays : plainName "java/util/Arrays" = true := by first | (simp [plainName, overriddenIn]; done) | decide +kernel
def Q_bs0_eq (Z : State) (a1 : Addr) (k : ClassId) (p : Int32) (h0 : Heap) (n0 : Nat) (xv : Option Value) (xh : Heap) (xL : List Loc) : Prop := xv = some (.int (0 : Int32)) ∧ Fr n0 xL ∧ xh = h0
abbrev Lc_bs0_eq_0 (a1 : Addr) (p : Int32) : Array Slot := #[.val (.ref a1), .val (.int (0 : Int32)), .val (.int (1 : Int32)), .val (.int p), .unset, .unset, .unset, .unset]
abbrev Lc_bs0_eq_1 (a1 : Addr) (p : Int32) : Array Slot := #[.val (.ref a1), .val (.int (0 : Int32)), .val (.int (1 : Int32)), .val (.int p), .val (.int (0 : Int32)), .unset, .unset, .unset]
abbrev Lc_bs0_eq_2 (a1 : Addr) (p : Int32) : Array Slot := #[.val (.ref a1), .val (.int (0 : Int32)), .val (.int (1 : Int32)), .val (.int p), .val (.int (0 : Int32)), .val (.int (0 : Int32)), .unset, .unset]
abbrev Lc_bs0_eq_3 (a1 : Addr) (p : Int32) : Array Slot := #[.val (.ref a1), .val (.int (0 : Int32)), .val (.int (1 : Int32)), .val (.int p), .val (.int (0 : Int32)), .val (.int (0 : Int32)), .val (.int (0 : Int32)), .unset]
abbrev Lc_bs0_eq_4 (a1 : Addr) (p : Int32) : Array Slot := #[.val (.ref a1), .val (.int (0 : Int32)), .val (.int (1 : Int32)), .val (.int p), .val (.int (0 : Int32)), .val (.int (0 : Int32)), .val (.int (0 : Int32)), .val (.int p)]
theorem ef_bs0_eq (mM : MethodId) (a1 : Addr) (k : ClassId) (p : Int32) : entryFrame mM #[(.ref a1), (.int (0 : Int32)), (.int (1 : Int32)), (.int p)] 8 = mkF mM 0 #[.val (.ref a1), .val (.int (0 : Int32)), .val (.int (1 : Int32)), .val (.int p), .unset, .unset, .unset, .unset] [] := by first | (simp [entryFrame, mkF, argsToLocals, Value.category]; done) | rfl
set_option maxRecDepth 65536 in
set_option maxHeartbeats 40000000 in
theorem rm_bs0_eq (l : Launch) (Z : State) (a0 : Array Value) (hw : ∀ d ∈ tables_1, d.before a0 Z = true) (ws : List Jvm.Cond) (a1 : Addr) (k : ClassId) (p : Int32) (h0 : Heap) (n0 : Nat) (Z0 : n0 ≤ h0.size) (V_a1 : Arv Z h0 a1 k .int (1 : Int32) [(.int p)] (.int (0 : Int32))) :
    MetFree l (⟨"java/util/Arrays", "binarySearch0", "([IIII)I"⟩ : MethodName) (head1 (Jvm.Cond.code (⟨"java/util/Arrays", "binarySearch0", "([IIII)I"⟩ : MethodName) jdk_65_method_59_code 8 (some .int) :: ws) ({ frames := 0, cells := 0, slots := 0, locals := 0 } : Room)) (fun xa xU => xa = #[(.ref a1), (.int (0 : Int32)), (.int (1 : Int32)), (.int p)] ∧ Z.Warmed39 xU.vm ∧ xU.heap = h0) (fun _ _ _ _ _ => True) (fun _ xU xo xU' => ∃ xv xL, xo = .returned xv ∧ Q_bs0_eq Z a1 k p h0 n0 xv xU'.heap xL ∧ FrameEnd xU xo xU' xL ({ frames := 0, cells := 0, slots := 0, locals := 0 } : Room).cells ({ frames := 0, cells := 0, slots := 0, locals := 0 } : Room).slots) := by
  refine MetFree.of_bodySF (plainFor_of_name pn_java_util_Arrays) hisR ?_
  intro pP eE sS mM argS belowS methS cC s₁ Bd hml0 hP hK
  obtain ⟨rfl, hZ, hh⟩ := hP
  have hx := Bd.exec
  have hby := Bd.bytes
  have hml : cC.maxLocals = 8 := hml0
  have hown : sS.vm.findClass "java/util/Arrays" = some mM.cls := findClass_of_methodNamed Bd.named
  have hnm := (name_of_methodNamed Bd.named Bd.method).1
  have X0 : Stand pP l eE ({ frames := 0, cells := 0, slots := 0, locals := 0 } : Room) sS mM #[(.ref a1), (.int (0 : Int32)), (.int (1 : Int32)), (.int p)] belowS methS cC s₁ [] 0 0 := Stand.of_body Bd
  have e0 : s₁.heap = h0 := by rw [← hh, Bd.state]; rfl
  have N0 := Fr.nil n0
  have pre0 : ∀ t', Steps pP.tables eE belowS (s₁.setTop (mkF mM 0 #[.val (.ref a1), .val (.int (0 : Int32)), .val (.int (1 : Int32)), .val (.int p), .unset, .unset, .unset, .unset] [])) t' → Steps pP.tables eE belowS (s₁.setTop (entryFrame mM #[(.ref a1), (.int (0 : Int32)), (.int (1 : Int32)), (.int p)] 8)) t' := fun t' kk' => castTop (ef_bs0_eq mM a1 k p) kk'
  obtain ⟨cl1, Ar1, q1, S1, Ng1, Ha1, Ga1⟩ := id V_a1
  have hin1 : ¬ ((0 : Int32) < 0 ∨ cl1.slots.size ≤ ((0 : Int32)).toNatClampNeg) := inb_of S1 ⟨by decide, by decide⟩
  have hat1 : cl1.slots[((0 : Int32)).toNatClampNeg]? = some (.int p) := Ha1.at hin1 (rfl)
  obtain ⟨fs, hr, hrun, hended, hW, hsame⟩ := X0.leave (v := some (.int (0 : Int32))) (fun h => by rw [Bd.returns] at h; cases h)
  refine ⟨_, _, pre0 _ ?_, hrun, hended, _, _, rfl, ?_, ⟨_, rfl⟩, hW, hsame.mono (by decide) (by decide)⟩
  · show SS pP eE belowS s₁ (mkF mM 0 (Lc_bs0_eq_0 a1 p) []) _
    refine XS.iloadN X0.here hx rfl (hb hby d_jdk_65_method_59_0) rfl ?_
    show SS pP eE belowS s₁ (mkF mM 1 (Lc_bs0_eq_0 a1 p) [(.int (0 : Int32))]) _
    refine XS.istore X0.here hx rfl (hb hby d_jdk_65_method_59_1) rfl (l' := (Lc_bs0_eq_1 a1 p)) rfl ?_
    show SS pP eE belowS s₁ (mkF mM 3 (Lc_bs0_eq_1 a1 p) []) _
    refine XS.iloadN X0.here hx rfl (hb hby d_jdk_65_method_59_3) rfl ?_
    show SS pP eE belowS s₁ (mkF mM 4 (Lc_bs0_eq_1 a1 p) [(.int (1 : Int32))]) _
    refine XS.iconst X0.here hx rfl (hb hby d_jdk_65_method_59_4) ?_
    show SS pP eE belowS s₁ (mkF mM 5 (Lc_bs0_eq_1 a1 p) [(.int (1 : Int32)), (.int (1 : Int32))]) _
    refine XS.isub X0.here hx rfl (hb hby d_jdk_65_method_59_5) rfl ?_
    show SS pP eE belowS s₁ (mkF mM 6 (Lc_bs0_eq_1 a1 p) [(.int (0 : Int32))]) _
    refine XS.istore X0.here hx rfl (hb hby d_jdk_65_method_59_6) rfl (l' := (Lc_bs0_eq_2 a1 p)) rfl ?_
    show SS pP eE belowS s₁ (mkF mM 8 (Lc_bs0_eq_2 a1 p) []) _
    refine XS.iload X0.here hx rfl (hb hby d_jdk_65_method_59_8) rfl ?_
    show SS pP eE belowS s₁ (mkF mM 10 (Lc_bs0_eq_2 a1 p) [(.int (0 : Int32))]) _
    refine XS.iload X0.here hx rfl (hb hby d_jdk_65_method_59_10) rfl ?_
    show SS pP eE belowS s₁ (mkF mM 12 (Lc_bs0_eq_2 a1 p) [(.int (0 : Int32)), (.int (0 : Int32))]) _
    refine XS.icmpNo X0.here hx rfl (hb hby d_jdk_65_method_59_12) rfl (flt (by decide : ¬ ((0 : Int32) < (0 : Int32)))).2.2.1 ?_
    show SS pP eE belowS s₁ (mkF mM 15 (Lc_bs0_eq_2 a1 p) []) _
    refine XS.iload X0.here hx rfl (hb hby d_jdk_65_method_59_15) rfl ?_
    show SS pP eE belowS s₁ (mkF mM 17 (Lc_bs0_eq_2 a1 p) [(.int (0 : Int32))]) _
    refine XS.iload X0.here hx rfl (hb hby d_jdk_65_method_59_17) rfl ?_
    show SS pP eE belowS s₁ (mkF mM 19 (Lc_bs0_eq_2 a1 p) [(.int (0 : Int32)), (.int (0 : Int32))]) _
    refine XS.iadd X0.here hx rfl (hb hby d_jdk_65_method_59_19) rfl ?_
    show SS pP eE belowS s₁ (mkF mM 20 (Lc_bs0_eq_2 a1 p) [(.int (0 : Int32))]) _
    refine XS.iconst X0.here hx rfl (hb hby d_jdk_65_method_59_20) ?_
    show SS pP eE belowS s₁ (mkF mM 21 (Lc_bs0_eq_2 a1 p) [(.int (1 : Int32)), (.int (0 : Int32))]) _
    refine XS.iushr X0.here hx rfl (hb hby d_jdk_65_method_59_21) rfl ?_
    show SS pP eE belowS s₁ (mkF mM 22 (Lc_bs0_eq_2 a1 p) [(.int (0 : Int32))]) _
    refine XS.istore X0.here hx rfl (hb hby d_jdk_65_method_59_22) rfl (l' := (Lc_bs0_eq_3 a1 p)) rfl ?_
    show SS pP eE belowS s₁ (mkF mM 24 (Lc_bs0_eq_3 a1 p) []) _
    refine XS.aloadN X0.here hx rfl (hb hby d_jdk_65_method_59_24) rfl rfl ?_
    show SS pP eE belowS s₁ (mkF mM 25 (Lc_bs0_eq_3 a1 p) [(.ref a1)]) _
    refine XS.iload X0.here hx rfl (hb hby d_jdk_65_method_59_25) rfl ?_
    show SS pP eE belowS s₁ (mkF mM 27 (Lc_bs0_eq_3 a1 p) [(.int (0 : Int32)), (.ref a1)]) _
    refine X0.iaload hx (j := (0 : Int32)) (v := (.int p)) (by rw [e0]; exact Ar1.1) (State.isArrayOf_alike hZ.alike Ar1.2.1) Ar1.2.2 hin1 hat1 (g := (mkF mM 27 (Lc_bs0_eq_3 a1 p) [(.int (0 : Int32)), (.ref a1)])) rfl rfl (hb hby d_jdk_65_method_59_27) _ ?_
    show SS pP eE belowS s₁ (mkF mM 28 (Lc_bs0_eq_3 a1 p) [(.int p)]) _
    refine XS.istore X0.here hx rfl (hb hby d_jdk_65_method_59_28) rfl (l' := (Lc_bs0_eq_4 a1 p)) rfl ?_
    show SS pP eE belowS s₁ (mkF mM 30 (Lc_bs0_eq_4 a1 p) []) _
    refine XS.iload X0.here hx rfl (hb hby d_jdk_65_method_59_30) rfl ?_
    show SS pP eE belowS s₁ (mkF mM 32 (Lc_bs0_eq_4 a1 p) [(.int p)]) _
    refine XS.iloadN X0.here hx rfl (hb hby d_jdk_65_method_59_32) rfl ?_
    show SS pP eE belowS s₁ (mkF mM 33 (Lc_bs0_eq_4 a1 p) [(.int p), (.int p)]) _
    refine XS.icmpYes X0.here hx rfl (pc0 := 33) (pc' := 45) rfl (hb hby d_jdk_65_method_59_33) rfl (flt (Int32.lt_irrefl : ¬ (p < p))).2.1 (by decide) (by decide) ?_
    show SS pP eE belowS s₁ (mkF mM 45 (Lc_bs0_eq_4 a1 p) []) _
    refine XS.iload X0.here hx rfl (hb hby d_jdk_65_method_59_45) rfl ?_
    show SS pP eE belowS s₁ (mkF mM 47 (Lc_bs0_eq_4 a1 p) [(.int p)]) _
    refine XS.iloadN X0.here hx rfl (hb hby d_jdk_65_method_59_47) rfl ?_
    show SS pP eE belowS s₁ (mkF mM 48 (Lc_bs0_eq_4 a1 p) [(.int p), (.int p)]) _
    refine XS.icmpYes X0.here hx rfl (pc0 := 48) (pc' := 60) rfl (hb hby d_jdk_65_method_59_48) rfl (flt (Int32.lt_irrefl : ¬ (p < p))).2.2.2 (by decide) (by decide) ?_
    show SS pP eE belowS s₁ (mkF mM 60 (Lc_bs0_eq_4 a1 p) []) _
    refine XS.iload X0.here hx rfl (hb hby d_jdk_65_method_59_60) rfl ?_
    show SS pP eE belowS s₁ (mkF mM 62 (Lc_bs0_eq_4 a1 p) [(.int (0 : Int32))]) _
    exact retI X0 hx Bd.returns (hb hby d_jdk_65_method_59_62) hr
  · show Q_bs0_eq Z a1 k p h0 n0 _ s₁.heap _
    rw [e0]
    exact ⟨rfl, N0, rfl⟩
theorem d_jdk_65_method_57_0 : decode jdk_65_method_57_code 0 = .ok (.aload_n 0, 1) := by decide +kernel
theorem d_jdk_65_method_57_1 : decode jdk_65_method_57_code 1 = .ok (.iconst 0, 1) := by decide +kernel
theorem d_jdk_65_method_57_2 : decode jdk_65_method_57_code 2 = .ok (.aload_n 0, 1) := by decide +kernel
theorem d_jdk_65_method_57_3 : decode jdk_65_method_57_code 3 = .ok (.arraylength, 1) := by decide +kernel
theorem d_jdk_65_method_57_4 : decode jdk_65_method_57_code 4 = .ok (.iload_n 1, 1) := by decide +kernel
theorem d_jdk_65_method_57_5 : decode jdk_65_method_57_code 5 = .ok (.invokestatic 209, 3) := by decide +kernel
theorem pd_6 : parseMethodDescriptor "([IIII)I" = some ⟨[(.array .int), .int, .int, .int], some .int⟩ := by decide +kernel
theorem d_jdk_65_method_57_8 : decode jdk_65_method_57_code 8 = .ok (.ireturn, 1) := by decide +kernel
def Q_bs_eq (Z : State) (a1 : Addr) (k : ClassId) (p : Int32) (h0 : Heap) (n0 : Nat) (xv : Option Value) (xh : Heap) (xL : List Loc) : Prop := xv = some (.int (0 : Int32)) ∧ Fr n0 xL ∧ xh = h0
theorem ef_bs_eq (mM : MethodId) (a1 : Addr) (k : ClassId) (p : Int32) : entryFrame mM #[(.ref a1), (.int p)] 2 = mkF mM 0 #[.val (.ref a1), .val (.int p)] [] := by first | (simp [entryFrame, mkF, argsToLocals, Value.category]; done) | rfl
set_option maxRecDepth 65536 in
set_option maxHeartbeats 40000000 in
theorem rm_bs_eq (l : Launch) (Z : State) (a0 : Array Value) (hw : ∀ d ∈ tables_1, d.before a0 Z = true) (ws : List Jvm.Cond) (a1 : Addr) (k : ClassId) (p : Int32) (h0 : Heap) (n0 : Nat) (Z0 : n0 ≤ h0.size) (V_a1 : Arv Z h0 a1 k .int (1 : Int32) [(.int p)] (.int (0 : Int32))) :
    MetFree l (⟨"java/util/Arrays", "binarySearch", "([II)I"⟩ : MethodName) (head1 (Jvm.Cond.code (⟨"java/util/Arrays", "binarySearch", "([II)I"⟩ : MethodName) jdk_65_method_57_code 2 (some .int) :: ws) ({ frames := 1, cells := 0, slots := 0, locals := 19 } : Room)) (fun xa xU => xa = #[(.ref a1), (.int p)] ∧ Z.Warmed39 xU.vm ∧ xU.heap = h0) (fun _ _ _ _ _ => True) (fun _ xU xo xU' => ∃ xv xL, xo = .returned xv ∧ Q_bs_eq Z a1 k p h0 n0 xv xU'.heap xL ∧ FrameEnd xU xo xU' xL ({ frames := 1, cells := 0, slots := 0, locals := 19 } : Room).cells ({ frames := 1, cells := 0, slots := 0, locals := 19 } : Room).slots) := by
  refine MetFree.of_bodySF (plainFor_of_name pn_java_util_Arrays) hisR ?_
  intro pP eE sS mM argS belowS methS cC s₁ Bd hml0 hP hK
  obtain ⟨rfl, hZ, hh⟩ := hP
  have hx := Bd.exec
  have hby := Bd.bytes
  have hml : cC.maxLocals = 2 := hml0
  have hown : sS.vm.findClass "java/util/Arrays" = some mM.cls := findClass_of_methodNamed Bd.named
  have hnm := (name_of_methodNamed Bd.named Bd.method).1
  have X0 : Stand pP l eE ({ frames := 1, cells := 0, slots := 0, locals := 19 } : Room) sS mM #[(.ref a1), (.int p)] belowS methS cC s₁ [] 0 0 := Stand.of_body Bd
  have e0 : s₁.heap = h0 := by rw [← hh, Bd.state]; rfl
  have N0 := Fr.nil n0
  have pre0 : ∀ t', Steps pP.tables eE belowS (s₁.setTop (mkF mM 0 #[.val (.ref a1), .val (.int p)] [])) t' → Steps pP.tables eE belowS (s₁.setTop (entryFrame mM #[(.ref a1), (.int p)] 2)) t' := fun t' kk' => castTop (ef_bs_eq mM a1 k p) kk'
  obtain ⟨cl1, Ar1, q1, S1, Ng1, Ha1, Ga1⟩ := id V_a1
  obtain ⟨_, _, ⟨T2, L2, k2, n2⟩, -, X2, ⟨Lc2, hQ2, l2, y2, z2⟩, st2⟩ := Jvm.LawKit.callS X0 hx (y := (⟨"java/util/Arrays", "binarySearch0", "([IIII)I"⟩ : MethodName)) hown (mvT hZ (wi hw 29 rfl)) (mvT hZ (wi hw 30 rfl)) (mvT hZ (wi hw 27 rfl)) (mvT hZ (wi hw 31 rfl)) (by decide) (backOf (W := 0) (rm_bs0_eq l Z a0 hw [] a1 k p h0 n0 (by omega) V_a1) hZ (wi hw 31 rfl) (wi hw 27 rfl) (by decide) (by decide)) (g := (mkF mM 5 #[.val (.ref a1), .val (.int p)] [(.int p), (.int (1 : Int32)), (.int (0 : Int32)), (.ref a1)])) rfl (by rw [hml]; rfl) (argsL := [(.ref a1), (.int (0 : Int32)), (.int (1 : Int32)), (.int p)]) (rest := []) (lenOf pd_6 rfl) rfl (by show 2 * 0 + _ ≤ _; exact Nat.le_of_eq rfl) (hb hby d_jdk_65_method_57_5) (fun _ _ => ⟨rfl, e0, Nat.le_of_ble_eq_true rfl, Nat.le_of_ble_eq_true rfl⟩)
  dsimp only [Pt.U, Pt.locs, Pt.cells, Pt.slots] at X2 l2 y2 z2 st2 hQ2
  subst l2 y2 z2
  obtain ⟨h2, e2⟩ : ∃ z, T2.heap = z := ⟨_, rfl⟩
  rw [e2] at hQ2
  obtain ⟨rfl, N2q, eq2⟩ := hQ2
  rw [eq2] at e2
  have N2 := Fr.app N0 N2q
  obtain ⟨fs, hr, hrun, hended, hW, hsame⟩ := X2.leave (v := some (.int (0 : Int32))) (fun h => by rw [Bd.returns] at h; cases h)
  refine ⟨_, _, pre0 _ ?_, hrun, hended, _, _, rfl, ?_, ⟨_, rfl⟩, hW, hsame.mono (by decide) (by decide)⟩
  · show SS pP eE belowS s₁ (mkF mM 0 #[.val (.ref a1), .val (.int p)] []) _
    refine XS.aloadN X0.here hx rfl (hb hby d_jdk_65_method_57_0) rfl rfl ?_
    show SS pP eE belowS s₁ (mkF mM 1 #[.val (.ref a1), .val (.int p)] [(.ref a1)]) _
    refine XS.iconst X0.here hx rfl (hb hby d_jdk_65_method_57_1) ?_
    show SS pP eE belowS s₁ (mkF mM 2 #[.val (.ref a1), .val (.int p)] [(.int (0 : Int32)), (.ref a1)]) _
    refine XS.aloadN X0.here hx rfl (hb hby d_jdk_65_method_57_2) rfl rfl ?_
    show SS pP eE belowS s₁ (mkF mM 3 #[.val (.ref a1), .val (.int p)] [(.ref a1), (.int (0 : Int32)), (.ref a1)]) _
    refine X0.arraylength hx (by rw [e0]; exact Ar1.1) (State.isArrayOf_alike hZ.alike Ar1.2.1) (g := (mkF mM 3 #[.val (.ref a1), .val (.int p)] [(.ref a1), (.int (0 : Int32)), (.ref a1)])) rfl rfl (hb hby d_jdk_65_method_57_3) _ ?_
    rw [len_of S1 Ng1]
    show SS pP eE belowS s₁ (mkF mM 4 #[.val (.ref a1), .val (.int p)] [(.int (1 : Int32)), (.int (0 : Int32)), (.ref a1)]) _
    refine XS.iloadN X0.here hx rfl (hb hby d_jdk_65_method_57_4) rfl ?_
    show SS pP eE belowS s₁ (mkF mM 5 #[.val (.ref a1), .val (.int p)] [(.int p), (.int (1 : Int32)), (.int (0 : Int32)), (.ref a1)]) _
    refine st2 _ ?_
    show SS pP eE belowS T2 (mkF mM 8 #[.val (.ref a1), .val (.int p)] [(.int (0 : Int32))]) _
    exact retI X2 hx Bd.returns (hb hby d_jdk_65_method_57_8) hr
  · show Q_bs_eq Z a1 k p h0 n0 _ T2.heap _
    rw [e2]
    exact ⟨rfl, N2, rfl⟩
theorem d_prog_20_method_4_0 : decode prog_20_method_4_code 0 = .ok (.aload_n 0, 1) := by decide +kernel
theorem d_prog_20_method_4_1 : decode prog_20_method_4_code 1 = .ok (.getfield 7, 3) := by decide +kernel
theorem d_prog_20_method_4_4 : decode prog_20_method_4_code 4 = .ok (.iload_n 1, 1) := by decide +kernel
theorem d_prog_20_method_4_5 : decode prog_20_method_4_code 5 = .ok (.invokestatic 16, 3) := by decide +kernel
theorem pd_5 : parseMethodDescriptor "([II)I" = some ⟨[(.array .int), .int], some .int⟩ := by decide +kernel
theorem d_prog_20_method_4_8 : decode prog_20_method_4_code 8 = .ok (.ifCond .lt 7, 3) := by decide +kernel
theorem d_prog_20_method_4_11 : decode prog_20_method_4_code 11 = .ok (.iconst 1, 1) := by decide +kernel
theorem d_prog_20_method_4_12 : decode prog_20_method_4_code 12 = .ok (.goto 4, 3) := by decide +kernel
theorem d_prog_20_method_4_16 : decode prog_20_method_4_code 16 = .ok (.ireturn, 1) := by decide +kernel
def Q_contains_eq (Z : State) (o : Addr) (a1 : Addr) (k : ClassId) (p : Int32) (h0 : Heap) (n0 : Nat) (xv : Option Value) (xh : Heap) (xL : List Loc) : Prop := xv = some (.int (1 : Int32)) ∧ Fr n0 xL ∧ xh = h0
theorem ef_contains_eq (mM : MethodId) (o : Addr) (a1 : Addr) (k : ClassId) (p : Int32) : entryFrame mM #[(.ref o), (.int p)] 2 = mkF mM 0 #[.val (.ref o), .val (.int p)] [] := by first | (simp [entryFrame, mkF, argsToLocals, Value.category]; done) | rfl
set_option maxRecDepth 65536 in
set_option maxHeartbeats 40000000 in
theorem rm_contains_eq (l : Launch) (Z : State) (a0 : Array Value) (hw : ∀ d ∈ tables_1, d.before a0 Z = true) (ws : List Jvm.Cond) (o : Addr) (a1 : Addr) (k : ClassId) (p : Int32) (h0 : Heap) (n0 : Nat) (Z0 : n0 ≤ h0.size) (F_levels_o : Fld Z h0 o "com/example/subsumption/subsumption/DependencySet" "levels" "[I" (.ref a1)) (V_a1 : Arv Z h0 a1 k .int (1 : Int32) [(.int p)] (.int (0 : Int32))) :
    MetFree l (⟨"com/example/subsumption/subsumption/DependencySet", "contains", "(I)Z"⟩ : MethodName) (head1 (Jvm.Cond.code (⟨"com/example/subsumption/subsumption/DependencySet", "contains", "(I)Z"⟩ : MethodName) prog_20_method_4_code 2 (some .boolean) :: ws) ({ frames := 2, cells := 0, slots := 0, locals := 32 } : Room)) (fun xa xU => xa = #[(.ref o), (.int p)] ∧ Z.Warmed39 xU.vm ∧ xU.heap = h0) (fun _ _ _ _ _ => True) (fun _ xU xo xU' => ∃ xv xL, xo = .returned xv ∧ Q_contains_eq Z o a1 k p h0 n0 xv xU'.heap xL ∧ FrameEnd xU xo xU' xL ({ frames := 2, cells := 0, slots := 0, locals := 32 } : Room).cells ({ frames := 2, cells := 0, slots := 0, locals := 32 } : Room).slots) := by
  refine MetFree.of_bodySF (plainFor_of_name pn_com_example_subsumption_subsumption_DependencySet) hisR ?_
  intro pP eE sS mM argS belowS methS cC s₁ Bd hml0 hP hK
  obtain ⟨rfl, hZ, hh⟩ := hP
  have hx := Bd.exec
  have hby := Bd.bytes
  have hml : cC.maxLocals = 2 := hml0
  have hown : sS.vm.findClass "com/example/subsumption/subsumption/DependencySet" = some mM.cls := findClass_of_methodNamed Bd.named
  have hnm := (name_of_methodNamed Bd.named Bd.method).1
  have X0 : Stand pP l eE ({ frames := 2, cells := 0, slots := 0, locals := 32 } : Room) sS mM #[(.ref o), (.int p)] belowS methS cC s₁ [] 0 0 := Stand.of_body Bd
  have e0 : s₁.heap = h0 := by rw [← hh, Bd.state]; rfl
  have N0 := Fr.nil n0
  have pre0 : ∀ t', Steps pP.tables eE belowS (s₁.setTop (mkF mM 0 #[.val (.ref o), .val (.int p)] [])) t' → Steps pP.tables eE belowS (s₁.setTop (entryFrame mM #[(.ref o), (.int p)] 2)) t' := fun t' kk' => castTop (ef_contains_eq mM o a1 k p) kk'
  obtain ⟨T1, X1, e1, st1⟩ := getF X0 hx hZ hown (host := "") (Or.inl (wi hw 13 rfl)) Via.refl e0 F_levels_o (g := (mkF mM 1 #[.val (.ref o), .val (.int p)] [(.ref o)])) rfl rfl (hb hby d_prog_20_method_4_1)
  obtain ⟨_, _, ⟨T2, L2, k2, n2⟩, -, X2, ⟨Lc2, hQ2, l2, y2, z2⟩, st2⟩ := Jvm.LawKit.callS X1 hx (y := (⟨"java/util/Arrays", "binarySearch", "([II)I"⟩ : MethodName)) hown (mvT hZ (wi hw 25 rfl)) (mvT hZ (wi hw 26 rfl)) (mvT hZ (wi hw 27 rfl)) (mvT hZ (wi hw 28 rfl)) (by decide) (backOf (W := 0) (rm_bs_eq l Z a0 hw [] a1 k p h0 n0 (by omega) V_a1) hZ (wi hw 28 rfl) (wi hw 27 rfl) (by decide) (by decide)) (g := (mkF mM 5 #[.val (.ref o), .val (.int p)] [(.int p), (.ref a1)])) rfl (by rw [hml]; rfl) (argsL := [(.ref a1), (.int p)]) (rest := []) (lenOf pd_5 rfl) rfl (by show 2 * 0 + _ ≤ _; exact Nat.le_of_eq rfl) (hb hby d_prog_20_method_4_5) (fun _ _ => ⟨rfl, e1, Nat.le_of_ble_eq_true rfl, Nat.le_of_ble_eq_true rfl⟩)
  dsimp only [Pt.U, Pt.locs, Pt.cells, Pt.slots] at X2 l2 y2 z2 st2 hQ2
  subst l2 y2 z2
  obtain ⟨h2, e2⟩ : ∃ z, T2.heap = z := ⟨_, rfl⟩
  rw [e2] at hQ2
  obtain ⟨rfl, N2q, eq2⟩ := hQ2
  rw [eq2] at e2
  have N2 := Fr.app N0 N2q
  obtain ⟨fs, hr, hrun, hended, hW, hsame⟩ := X2.leave (v := some (.int (1 : Int32))) (fun h => by rw [Bd.returns] at h; cases h)
  refine ⟨_, _, pre0 _ ?_, hrun, hended, _, _, rfl, ?_, ⟨_, rfl⟩, hW, hsame.mono (by decide) (by decide)⟩
  · show SS pP eE belowS s₁ (mkF mM 0 #[.val (.ref o), .val (.int p)] []) _
    refine XS.aloadN X0.here hx rfl (hb hby d_prog_20_method_4_0) rfl rfl ?_
    show SS pP eE belowS s₁ (mkF mM 1 #[.val (.ref o), .val (.int p)] [(.ref o)]) _
    refine st1 _ ?_
    show SS pP eE belowS T1 (mkF mM 4 #[.val (.ref o), .val (.int p)] [(.ref a1)]) _
    refine XS.iloadN X1.here hx rfl (hb hby d_prog_20_method_4_4) rfl ?_
    show SS pP eE belowS T1 (mkF mM 5 #[.val (.ref o), .val (.int p)] [(.int p), (.ref a1)]) _
    refine st2 _ ?_
    show SS pP eE belowS T2 (mkF mM 8 #[.val (.ref o), .val (.int p)] [(.int (0 : Int32))]) _
    refine XS.ifNo X2.here hx rfl (hb hby d_prog_20_method_4_8) rfl ((if0 _ _).trans (flt (by decide : ¬ ((0 : Int32) < (0 : Int32)))).1) ?_
    show SS pP eE belowS T2 (mkF mM 11 #[.val (.ref o), .val (.int p)] []) _
    refine XS.iconst X2.here hx rfl (hb hby d_prog_20_method_4_11) ?_
    show SS pP eE belowS T2 (mkF mM 12 #[.val (.ref o), .val (.int p)] [(.int (1 : Int32))]) _
    refine XS.goto X2.here hx rfl (pc0 := 12) (pc' := 16) rfl (hb hby d_prog_20_method_4_12) (by decide) (by decide) ?_
    show SS pP eE belowS T2 (mkF mM 16 #[.val (.ref o), .val (.int p)] [(.int (1 : Int32))]) _
    exact retN X2 hx (t := .boolean) Bd.returns (by simp) (hb hby d_prog_20_method_4_16) hr
  · show Q_contains_eq Z o a1 k p h0 n0 _ T2.heap _
    rw [e2]
    exact ⟨rfl, N2, rfl⟩
theorem d_jdk_65_method_59_36 : decode jdk_65_method_59_code 36 = .ok (.iload 6, 2) := by decide +kernel
theorem d_jdk_65_method_59_38 : decode jdk_65_method_59_code 38 = .ok (.iconst 1, 1) := by decide +kernel
theorem d_jdk_65_method_59_39 : decode jdk_65_method_59_code 39 = .ok (.iadd, 1) := by decide +kernel
theorem d_jdk_65_method_59_40 : decode jdk_65_method_59_code 40 = .ok (.istore 4, 2) := by decide +kernel
theorem d_jdk_65_method_59_42 : decode jdk_65_method_59_code 42 = .ok (.goto 21, 3) := by decide +kernel
theorem d_jdk_65_method_59_63 : decode jdk_65_method_59_code 63 = .ok (.goto (-55), 3) := by decide +kernel
theorem d_jdk_65_method_59_66 : decode jdk_65_method_59_code 66 = .ok (.iload 4, 2) := by decide +kernel
theorem d_jdk_65_method_59_68 : decode jdk_65_method_59_code 68 = .ok (.iconst 1, 1) := by decide +kernel
theorem d_jdk_65_method_59_69 : decode jdk_65_method_59_code 69 = .ok (.iadd, 1) := by decide +kernel
theorem d_jdk_65_method_59_70 : decode jdk_65_method_59_code 70 = .ok (.ineg, 1) := by decide +kernel
theorem d_jdk_65_method_59_71 : decode jdk_65_method_59_code 71 = .ok (.ireturn, 1) := by decide +kernel
def Q_bs0_lt (Z : State) (a1 : Addr) (k : ClassId) (p : Int32) (x : Int32) (h0 : Heap) (n0 : Nat) (xv : Option Value) (xh : Heap) (xL : List Loc) : Prop := xv = some (.int (-2 : Int32)) ∧ Fr n0 xL ∧ xh = h0
abbrev Lc_bs0_lt_0 (a1 : Addr) (p : Int32) : Array Slot := #[.val (.ref a1), .val (.int (0 : Int32)), .val (.int (1 : Int32)), .val (.int p), .unset, .unset, .unset, .unset]
abbrev Lc_bs0_lt_1 (a1 : Addr) (p : Int32) : Array Slot := #[.val (.ref a1), .val (.int (0 : Int32)), .val (.int (1 : Int32)), .val (.int p), .val (.int (0 : Int32)), .unset, .unset, .unset]
abbrev Lc_bs0_lt_2 (a1 : Addr) (p : Int32) : Array Slot := #[.val (.ref a1), .val (.int (0 : Int32)), .val (.int (1 : Int32)), .val (.int p), .val (.int (0 : Int32)), .val (.int (0 : Int32)), .unset, .unset]
abbrev Lc_bs0_lt_3 (a1 : Addr) (p : Int32) : Array Slot := #[.val (.ref a1), .val (.int (0 : Int32)), .val (.int (1 : Int32)), .val (.int p), .val (.int (0 : Int32)), .val (.int (0 : Int32)), .val (.int (0 : Int32)), .unset]
abbrev Lc_bs0_lt_4 (a1 : Addr) (p : Int32) (x : Int32) : Array Slot := #[.val (.ref a1), .val (.int (0 : Int32)), .val (.int (1 : Int32)), .val (.int p), .val (.int (0 : Int32)), .val (.int (0 : Int32)), .val (.int (0 : Int32)), .val (.int x)]
abbrev Lc_bs0_lt_5 (a1 : Addr) (p : Int32) (x : Int32) : Array Slot := #[.val (.ref a1), .val (.int (0 : Int32)), .val (.int (1 : Int32)), .val (.int p), .val (.int (1 : Int32)), .val (.int (0 : Int32)), .val (.int (0 : Int32)), .val (.int x)]
theorem ef_bs0_lt (mM : MethodId) (a1 : Addr) (k : ClassId) (p : Int32) (x : Int32) : entryFrame mM #[(.ref a1), (.int (0 : Int32)), (.int (1 : Int32)), (.int p)] 8 = mkF mM 0 #[.val (.ref a1), .val (.int (0 : Int32)), .val (.int (1 : Int32)), .val (.int p), .unset, .unset, .unset, .unset] [] := by first | (simp [entryFrame, mkF, argsToLocals, Value.category]; done) | rfl
set_option maxRecDepth 65536 in
set_option maxHeartbeats 40000000 in
theorem rm_bs0_lt (l : Launch) (Z : State) (a0 : Array Value) (hw : ∀ d ∈ tables_1, d.before a0 Z = true) (ws : List Jvm.Cond) (a1 : Addr) (k : ClassId) (p : Int32) (x : Int32) (h0 : Heap) (n0 : Nat) (Z0 : n0 ≤ h0.size) (V_a1 : Arv Z h0 a1 k .int (1 : Int32) [(.int x)] (.int (0 : Int32))) (hc33 : x < p) :
    MetFree l (⟨"java/util/Arrays", "binarySearch0", "([IIII)I"⟩ : MethodName) (head1 (Jvm.Cond.code (⟨"java/util/Arrays", "binarySearch0", "([IIII)I"⟩ : MethodName) jdk_65_method_59_code 8 (some .int) :: ws) ({ frames := 0, cells := 0, slots := 0, locals := 0 } : Room)) (fun xa xU => xa = #[(.ref a1), (.int (0 : Int32)), (.int (1 : Int32)), (.int p)] ∧ Z.Warmed39 xU.vm ∧ xU.heap = h0) (fun _ _ _ _ _ => True) (fun _ xU xo xU' => ∃ xv xL, xo = .returned xv ∧ Q_bs0_lt Z a1 k p x h0 n0 xv xU'.heap xL ∧ FrameEnd xU xo xU' xL ({ frames := 0, cells := 0, slots := 0, locals := 0 } : Room).cells ({ frames := 0, cells := 0, slots := 0, locals := 0 } : Room).slots) := by
  refine MetFree.of_bodySF (plainFor_of_name pn_java_util_Arrays) hisR ?_
  intro pP eE sS mM argS belowS methS cC s₁ Bd hml0 hP hK
  obtain ⟨rfl, hZ, hh⟩ := hP
  have hx := Bd.exec
  have hby := Bd.bytes
  have hml : cC.maxLocals = 8 := hml0
  have hown : sS.vm.findClass "java/util/Arrays" = some mM.cls := findClass_of_methodNamed Bd.named
  have hnm := (name_of_methodNamed Bd.named Bd.method).1
  have X0 : Stand pP l eE ({ frames := 0, cells := 0, slots := 0, locals := 0 } : Room) sS mM #[(.ref a1), (.int (0 : Int32)), (.int (1 : Int32)), (.int p)] belowS methS cC s₁ [] 0 0 := Stand.of_body Bd
  have e0 : s₁.heap = h0 := by rw [← hh, Bd.state]; rfl
  have N0 := Fr.nil n0
  have pre0 : ∀ t', Steps pP.tables eE belowS (s₁.setTop (mkF mM 0 #[.val (.ref a1), .val (.int (0 : Int32)), .val (.int (1 : Int32)), .val (.int p), .unset, .unset, .unset, .unset] [])) t' → Steps pP.tables eE belowS (s₁.setTop (entryFrame mM #[(.ref a1), (.int (0 : Int32)), (.int (1 : Int32)), (.int p)] 8)) t' := fun t' kk' => castTop (ef_bs0_lt mM a1 k p x) kk'
  obtain ⟨cl1, Ar1, q1, S1, Ng1, Ha1, Ga1⟩ := id V_a1
  have hin1 : ¬ ((0 : Int32) < 0 ∨ cl1.slots.size ≤ ((0 : Int32)).toNatClampNeg) := inb_of S1 ⟨by decide, by decide⟩
  have hat1 : cl1.slots[((0 : Int32)).toNatClampNeg]? = some (.int x) := Ha1.at hin1 (rfl)
  obtain ⟨fs, hr, hrun, hended, hW, hsame⟩ := X0.leave (v := some (.int (-2 : Int32))) (fun h => by rw [Bd.returns] at h; cases h)
  refine ⟨_, _, pre0 _ ?_, hrun, hended, _, _, rfl, ?_, ⟨_, rfl⟩, hW, hsame.mono (by decide) (by decide)⟩
  · show SS pP eE belowS s₁ (mkF mM 0 (Lc_bs0_lt_0 a1 p) []) _
    refine XS.iloadN X0.here hx rfl (hb hby d_jdk_65_method_59_0) rfl ?_
    show SS pP eE belowS s₁ (mkF mM 1 (Lc_bs0_lt_0 a1 p) [(.int (0 : Int32))]) _
    refine XS.istore X0.here hx rfl (hb hby d_jdk_65_method_59_1) rfl (l' := (Lc_bs0_lt_1 a1 p)) rfl ?_
    show SS pP eE belowS s₁ (mkF mM 3 (Lc_bs0_lt_1 a1 p) []) _
    refine XS.iloadN X0.here hx rfl (hb hby d_jdk_65_method_59_3) rfl ?_
    show SS pP eE belowS s₁ (mkF mM 4 (Lc_bs0_lt_1 a1 p) [(.int (1 : Int32))]) _
    refine XS.iconst X0.here hx rfl (hb hby d_jdk_65_method_59_4) ?_
    show SS pP eE belowS s₁ (mkF mM 5 (Lc_bs0_lt_1 a1 p) [(.int (1 : Int32)), (.int (1 : Int32))]) _
    refine XS.isub X0.here hx rfl (hb hby d_jdk_65_method_59_5) rfl ?_
    show SS pP eE belowS s₁ (mkF mM 6 (Lc_bs0_lt_1 a1 p) [(.int (0 : Int32))]) _
    refine XS.istore X0.here hx rfl (hb hby d_jdk_65_method_59_6) rfl (l' := (Lc_bs0_lt_2 a1 p)) rfl ?_
    show SS pP eE belowS s₁ (mkF mM 8 (Lc_bs0_lt_2 a1 p) []) _
    refine XS.iload X0.here hx rfl (hb hby d_jdk_65_method_59_8) rfl ?_
    show SS pP eE belowS s₁ (mkF mM 10 (Lc_bs0_lt_2 a1 p) [(.int (0 : Int32))]) _
    refine XS.iload X0.here hx rfl (hb hby d_jdk_65_method_59_10) rfl ?_
    show SS pP eE belowS s₁ (mkF mM 12 (Lc_bs0_lt_2 a1 p) [(.int (0 : Int32)), (.int (0 : Int32))]) _
    refine XS.icmpNo X0.here hx rfl (hb hby d_jdk_65_method_59_12) rfl (flt (by decide : ¬ ((0 : Int32) < (0 : Int32)))).2.2.1 ?_
    show SS pP eE belowS s₁ (mkF mM 15 (Lc_bs0_lt_2 a1 p) []) _
    refine XS.iload X0.here hx rfl (hb hby d_jdk_65_method_59_15) rfl ?_
    show SS pP eE belowS s₁ (mkF mM 17 (Lc_bs0_lt_2 a1 p) [(.int (0 : Int32))]) _
    refine XS.iload X0.here hx rfl (hb hby d_jdk_65_method_59_17) rfl ?_
    show SS pP eE belowS s₁ (mkF mM 19 (Lc_bs0_lt_2 a1 p) [(.int (0 : Int32)), (.int (0 : Int32))]) _
    refine XS.iadd X0.here hx rfl (hb hby d_jdk_65_method_59_19) rfl ?_
    show SS pP eE belowS s₁ (mkF mM 20 (Lc_bs0_lt_2 a1 p) [(.int (0 : Int32))]) _
    refine XS.iconst X0.here hx rfl (hb hby d_jdk_65_method_59_20) ?_
    show SS pP eE belowS s₁ (mkF mM 21 (Lc_bs0_lt_2 a1 p) [(.int (1 : Int32)), (.int (0 : Int32))]) _
    refine XS.iushr X0.here hx rfl (hb hby d_jdk_65_method_59_21) rfl ?_
    show SS pP eE belowS s₁ (mkF mM 22 (Lc_bs0_lt_2 a1 p) [(.int (0 : Int32))]) _
    refine XS.istore X0.here hx rfl (hb hby d_jdk_65_method_59_22) rfl (l' := (Lc_bs0_lt_3 a1 p)) rfl ?_
    show SS pP eE belowS s₁ (mkF mM 24 (Lc_bs0_lt_3 a1 p) []) _
    refine XS.aloadN X0.here hx rfl (hb hby d_jdk_65_method_59_24) rfl rfl ?_
    show SS pP eE belowS s₁ (mkF mM 25 (Lc_bs0_lt_3 a1 p) [(.ref a1)]) _
    refine XS.iload X0.here hx rfl (hb hby d_jdk_65_method_59_25) rfl ?_
    show SS pP eE belowS s₁ (mkF mM 27 (Lc_bs0_lt_3 a1 p) [(.int (0 : Int32)), (.ref a1)]) _
    refine X0.iaload hx (j := (0 : Int32)) (v := (.int x)) (by rw [e0]; exact Ar1.1) (State.isArrayOf_alike hZ.alike Ar1.2.1) Ar1.2.2 hin1 hat1 (g := (mkF mM 27 (Lc_bs0_lt_3 a1 p) [(.int (0 : Int32)), (.ref a1)])) rfl rfl (hb hby d_jdk_65_method_59_27) _ ?_
    show SS pP eE belowS s₁ (mkF mM 28 (Lc_bs0_lt_3 a1 p) [(.int x)]) _
    refine XS.istore X0.here hx rfl (hb hby d_jdk_65_method_59_28) rfl (l' := (Lc_bs0_lt_4 a1 p x)) rfl ?_
    show SS pP eE belowS s₁ (mkF mM 30 (Lc_bs0_lt_4 a1 p x) []) _
    refine XS.iload X0.here hx rfl (hb hby d_jdk_65_method_59_30) rfl ?_
    show SS pP eE belowS s₁ (mkF mM 32 (Lc_bs0_lt_4 a1 p x) [(.int x)]) _
    refine XS.iloadN X0.here hx rfl (hb hby d_jdk_65_method_59_32) rfl ?_
    show SS pP eE belowS s₁ (mkF mM 33 (Lc_bs0_lt_4 a1 p x) [(.int p), (.int x)]) _
    refine XS.icmpNo X0.here hx rfl (hb hby d_jdk_65_method_59_33) rfl (tlt hc33).2.1 ?_
    show SS pP eE belowS s₁ (mkF mM 36 (Lc_bs0_lt_4 a1 p x) []) _
    refine XS.iload X0.here hx rfl (hb hby d_jdk_65_method_59_36) rfl ?_
    show SS pP eE belowS s₁ (mkF mM 38 (Lc_bs0_lt_4 a1 p x) [(.int (0 : Int32))]) _
    refine XS.iconst X0.here hx rfl (hb hby d_jdk_65_method_59_38) ?_
    show SS pP eE belowS s₁ (mkF mM 39 (Lc_bs0_lt_4 a1 p x) [(.int (1 : Int32)), (.int (0 : Int32))]) _
    refine XS.iadd X0.here hx rfl (hb hby d_jdk_65_method_59_39) rfl ?_
    show SS pP eE belowS s₁ (mkF mM 40 (Lc_bs0_lt_4 a1 p x) [(.int (1 : Int32))]) _
    refine XS.istore X0.here hx rfl (hb hby d_jdk_65_method_59_40) rfl (l' := (Lc_bs0_lt_5 a1 p x)) rfl ?_
    show SS pP eE belowS s₁ (mkF mM 42 (Lc_bs0_lt_5 a1 p x) []) _
    refine XS.goto X0.here hx rfl (pc0 := 42) (pc' := 63) rfl (hb hby d_jdk_65_method_59_42) (by decide) (by decide) ?_
    show SS pP eE belowS s₁ (mkF mM 63 (Lc_bs0_lt_5 a1 p x) []) _
    refine XS.goto X0.here hx rfl (pc0 := 63) (pc' := 8) rfl (hb hby d_jdk_65_method_59_63) (by decide) (by decide) ?_
    show SS pP eE belowS s₁ (mkF mM 8 (Lc_bs0_lt_5 a1 p x) []) _
    refine XS.iload X0.here hx rfl (hb hby d_jdk_65_method_59_8) rfl ?_
    show SS pP eE belowS s₁ (mkF mM 10 (Lc_bs0_lt_5 a1 p x) [(.int (1 : Int32))]) _
    refine XS.iload X0.here hx rfl (hb hby d_jdk_65_method_59_10) rfl ?_
    show SS pP eE belowS s₁ (mkF mM 12 (Lc_bs0_lt_5 a1 p x) [(.int (0 : Int32)), (.int (1 : Int32))]) _
    refine XS.icmpYes X0.here hx rfl (pc0 := 12) (pc' := 66) rfl (hb hby d_jdk_65_method_59_12) rfl (tlt (by decide : (0 : Int32) < (1 : Int32))).2.2.1 (by decide) (by decide) ?_
    show SS pP eE belowS s₁ (mkF mM 66 (Lc_bs0_lt_5 a1 p x) []) _
    refine XS.iload X0.here hx rfl (hb hby d_jdk_65_method_59_66) rfl ?_
    show SS pP eE belowS s₁ (mkF mM 68 (Lc_bs0_lt_5 a1 p x) [(.int (1 : Int32))]) _
    refine XS.iconst X0.here hx rfl (hb hby d_jdk_65_method_59_68) ?_
    show SS pP eE belowS s₁ (mkF mM 69 (Lc_bs0_lt_5 a1 p x) [(.int (1 : Int32)), (.int (1 : Int32))]) _
    refine XS.iadd X0.here hx rfl (hb hby d_jdk_65_method_59_69) rfl ?_
    show SS pP eE belowS s₁ (mkF mM 70 (Lc_bs0_lt_5 a1 p x) [(.int (2 : Int32))]) _
    refine XS.ineg X0.here hx rfl (hb hby d_jdk_65_method_59_70) rfl ?_
    show SS pP eE belowS s₁ (mkF mM 71 (Lc_bs0_lt_5 a1 p x) [(.int (-2 : Int32))]) _
    exact retI X0 hx Bd.returns (hb hby d_jdk_65_method_59_71) hr
  · show Q_bs0_lt Z a1 k p x h0 n0 _ s₁.heap _
    rw [e0]
    exact ⟨rfl, N0, rfl⟩

def Q_bs_lt (Z : State) (a1 : Addr) (k : ClassId) (p : Int32) (x : Int32) (h0 : Heap) (n0 : Nat) (xv : Option Value) (xh : Heap) (xL : List Loc) : Prop := xv = some (.int (-2 : Int32)) ∧ Fr n0 xL ∧ xh = h0
theorem ef_bs_lt (mM : MethodId) (a1 : Addr) (k : ClassId) (p : Int32) (x : Int32) : entryFrame mM #[(.ref a1), (.int p)] 2 = mkF mM 0 #[.val (.ref a1), .val (.int p)] [] := by first | (simp [entryFrame, mkF, argsToLocals, Value.category]; done) | rfl
set_option maxRecDepth 65536 in
set_option maxHeartbeats 40000000 in
theorem rm_bs_lt (l : Launch) (Z : State) (a0 : Array Value) (hw : ∀ d ∈ tables_1, d.before a0 Z = true) (ws : List Jvm.Cond) (a1 : Addr) (k : ClassId) (p : Int32) (x : Int32) (h0 : Heap) (n0 : Nat) (Z0 : n0 ≤ h0.size) (V_a1 : Arv Z h0 a1 k .int (1 : Int32) [(.int x)] (.int (0 : Int32))) (hc33_2 : x < p) :
    MetFree l (⟨"java/util/Arrays", "binarySearch", "([II)I"⟩ : MethodName) (head1 (Jvm.Cond.code (⟨"java/util/Arrays", "binarySearch", "([II)I"⟩ : MethodName) jdk_65_method_57_code 2 (some .int) :: ws) ({ frames := 1, cells := 0, slots := 0, locals := 19 } : Room)) (fun xa xU => xa = #[(.ref a1), (.int p)] ∧ Z.Warmed39 xU.vm ∧ xU.heap = h0) (fun _ _ _ _ _ => True) (fun _ xU xo xU' => ∃ xv xL, xo = .returned xv ∧ Q_bs_lt Z a1 k p x h0 n0 xv xU'.heap xL ∧ FrameEnd xU xo xU' xL ({ frames := 1, cells := 0, slots := 0, locals := 19 } : Room).cells ({ frames := 1, cells := 0, slots := 0, locals := 19 } : Room).slots) := by
  refine MetFree.of_bodySF (plainFor_of_name pn_java_util_Arrays) hisR ?_
  intro pP eE sS mM argS belowS methS cC s₁ Bd hml0 hP hK
  obtain ⟨rfl, hZ, hh⟩ := hP
  have hx := Bd.exec
  have hby := Bd.bytes
  have hml : cC.maxLocals = 2 := hml0
  have hown : sS.vm.findClass "java/util/Arrays" = some mM.cls := findClass_of_methodNamed Bd.named
  have hnm := (name_of_methodNamed Bd.named Bd.method).1
  have X0 : Stand pP l eE ({ frames := 1, cells := 0, slots := 0, locals := 19 } : Room) sS mM #[(.ref a1), (.int p)] belowS methS cC s₁ [] 0 0 := Stand.of_body Bd
  have e0 : s₁.heap = h0 := by rw [← hh, Bd.state]; rfl
  have N0 := Fr.nil n0
  have pre0 : ∀ t', Steps pP.tables eE belowS (s₁.setTop (mkF mM 0 #[.val (.ref a1), .val (.int p)] [])) t' → Steps pP.tables eE belowS (s₁.setTop (entryFrame mM #[(.ref a1), (.int p)] 2)) t' := fun t' kk' => castTop (ef_bs_lt mM a1 k p x) kk'
  obtain ⟨cl1, Ar1, q1, S1, Ng1, Ha1, Ga1⟩ := id V_a1
  obtain ⟨_, _, ⟨T2, L2, k2, n2⟩, -, X2, ⟨Lc2, hQ2, l2, y2, z2⟩, st2⟩ := Jvm.LawKit.callS X0 hx (y := (⟨"java/util/Arrays", "binarySearch0", "([IIII)I"⟩ : MethodName)) hown (mvT hZ (wi hw 29 rfl)) (mvT hZ (wi hw 30 rfl)) (mvT hZ (wi hw 27 rfl)) (mvT hZ (wi hw 31 rfl)) (by decide) (backOf (W := 0) (rm_bs0_lt l Z a0 hw [] a1 k p x h0 n0 (by omega) V_a1 hc33_2) hZ (wi hw 31 rfl) (wi hw 27 rfl) (by decide) (by decide)) (g := (mkF mM 5 #[.val (.ref a1), .val (.int p)] [(.int p), (.int (1 : Int32)), (.int (0 : Int32)), (.ref a1)])) rfl (by rw [hml]; rfl) (argsL := [(.ref a1), (.int (0 : Int32)), (.int (1 : Int32)), (.int p)]) (rest := []) (lenOf pd_6 rfl) rfl (by show 2 * 0 + _ ≤ _; exact Nat.le_of_eq rfl) (hb hby d_jdk_65_method_57_5) (fun _ _ => ⟨rfl, e0, Nat.le_of_ble_eq_true rfl, Nat.le_of_ble_eq_true rfl⟩)
  dsimp only [Pt.U, Pt.locs, Pt.cells, Pt.slots] at X2 l2 y2 z2 st2 hQ2
  subst l2 y2 z2
  obtain ⟨h2, e2⟩ : ∃ z, T2.heap = z := ⟨_, rfl⟩
  rw [e2] at hQ2
  obtain ⟨rfl, N2q, eq2⟩ := hQ2
  rw [eq2] at e2
  have N2 := Fr.app N0 N2q
  obtain ⟨fs, hr, hrun, hended, hW, hsame⟩ := X2.leave (v := some (.int (-2 : Int32))) (fun h => by rw [Bd.returns] at h; cases h)
  refine ⟨_, _, pre0 _ ?_, hrun, hended, _, _, rfl, ?_, ⟨_, rfl⟩, hW, hsame.mono (by decide) (by decide)⟩
  · show SS pP eE belowS s₁ (mkF mM 0 #[.val (.ref a1), .val (.int p)] []) _
    refine XS.aloadN X0.here hx rfl (hb hby d_jdk_65_method_57_0) rfl rfl ?_
    show SS pP eE belowS s₁ (mkF mM 1 #[.val (.ref a1), .val (.int p)] [(.ref a1)]) _
    refine XS.iconst X0.here hx rfl (hb hby d_jdk_65_method_57_1) ?_
    show SS pP eE belowS s₁ (mkF mM 2 #[.val (.ref a1), .val (.int p)] [(.int (0 : Int32)), (.ref a1)]) _
    refine XS.aloadN X0.here hx rfl (hb hby d_jdk_65_method_57_2) rfl rfl ?_
    show SS pP eE belowS s₁ (mkF mM 3 #[.val (.ref a1), .val (.int p)] [(.ref a1), (.int (0 : Int32)), (.ref a1)]) _
    refine X0.arraylength hx (by rw [e0]; exact Ar1.1) (State.isArrayOf_alike hZ.alike Ar1.2.1) (g := (mkF mM 3 #[.val (.ref a1), .val (.int p)] [(.ref a1), (.int (0 : Int32)), (.ref a1)])) rfl rfl (hb hby d_jdk_65_method_57_3) _ ?_
    rw [len_of S1 Ng1]
    show SS pP eE belowS s₁ (mkF mM 4 #[.val (.ref a1), .val (.int p)] [(.int (1 : Int32)), (.int (0 : Int32)), (.ref a1)]) _
    refine XS.iloadN X0.here hx rfl (hb hby d_jdk_65_method_57_4) rfl ?_
    show SS pP eE belowS s₁ (mkF mM 5 #[.val (.ref a1), .val (.int p)] [(.int p), (.int (1 : Int32)), (.int (0 : Int32)), (.ref a1)]) _
    refine st2 _ ?_
    show SS pP eE belowS T2 (mkF mM 8 #[.val (.ref a1), .val (.int p)] [(.int (-2 : Int32))]) _
    exact retI X2 hx Bd.returns (hb hby d_jdk_65_method_57_8) hr
  · show Q_bs_lt Z a1 k p x h0 n0 _ T2.heap _
    rw [e2]
    exact ⟨rfl, N2, rfl⟩
theorem d_prog_20_method_4_15 : decode prog_20_method_4_code 15 = .ok (.iconst 0, 1) := by decide +kernel
def Q_contains_lt (Z : State) (o : Addr) (a1 : Addr) (k : ClassId) (p : Int32) (x : Int32) (h0 : Heap) (n0 : Nat) (xv : Option Value) (xh : Heap) (xL : List Loc) : Prop := xv = some (.int (0 : Int32)) ∧ Fr n0 xL ∧ xh = h0
theorem ef_contains_lt (mM : MethodId) (o : Addr) (a1 : Addr) (k : ClassId) (p : Int32) (x : Int32) : entryFrame mM #[(.ref o), (.int p)] 2 = mkF mM 0 #[.val (.ref o), .val (.int p)] [] := by first | (simp [entryFrame, mkF, argsToLocals, Value.category]; done) | rfl
set_option maxRecDepth 65536 in
set_option maxHeartbeats 40000000 in
theorem rm_contains_lt (l : Launch) (Z : State) (a0 : Array Value) (hw : ∀ d ∈ tables_1, d.before a0 Z = true) (ws : List Jvm.Cond) (o : Addr) (a1 : Addr) (k : ClassId) (p : Int32) (x : Int32) (h0 : Heap) (n0 : Nat) (Z0 : n0 ≤ h0.size) (F_levels_o : Fld Z h0 o "com/example/subsumption/subsumption/DependencySet" "levels" "[I" (.ref a1)) (V_a1 : Arv Z h0 a1 k .int (1 : Int32) [(.int x)] (.int (0 : Int32))) (hc33_2_2 : x < p) :
    MetFree l (⟨"com/example/subsumption/subsumption/DependencySet", "contains", "(I)Z"⟩ : MethodName) (head1 (Jvm.Cond.code (⟨"com/example/subsumption/subsumption/DependencySet", "contains", "(I)Z"⟩ : MethodName) prog_20_method_4_code 2 (some .boolean) :: ws) ({ frames := 2, cells := 0, slots := 0, locals := 32 } : Room)) (fun xa xU => xa = #[(.ref o), (.int p)] ∧ Z.Warmed39 xU.vm ∧ xU.heap = h0) (fun _ _ _ _ _ => True) (fun _ xU xo xU' => ∃ xv xL, xo = .returned xv ∧ Q_contains_lt Z o a1 k p x h0 n0 xv xU'.heap xL ∧ FrameEnd xU xo xU' xL ({ frames := 2, cells := 0, slots := 0, locals := 32 } : Room).cells ({ frames := 2, cells := 0, slots := 0, locals := 32 } : Room).slots) := by
  refine MetFree.of_bodySF (plainFor_of_name pn_com_example_subsumption_subsumption_DependencySet) hisR ?_
  intro pP eE sS mM argS belowS methS cC s₁ Bd hml0 hP hK
  obtain ⟨rfl, hZ, hh⟩ := hP
  have hx := Bd.exec
  have hby := Bd.bytes
  have hml : cC.maxLocals = 2 := hml0
  have hown : sS.vm.findClass "com/example/subsumption/subsumption/DependencySet" = some mM.cls := findClass_of_methodNamed Bd.named
  have hnm := (name_of_methodNamed Bd.named Bd.method).1
  have X0 : Stand pP l eE ({ frames := 2, cells := 0, slots := 0, locals := 32 } : Room) sS mM #[(.ref o), (.int p)] belowS methS cC s₁ [] 0 0 := Stand.of_body Bd
  have e0 : s₁.heap = h0 := by rw [← hh, Bd.state]; rfl
  have N0 := Fr.nil n0
  have pre0 : ∀ t', Steps pP.tables eE belowS (s₁.setTop (mkF mM 0 #[.val (.ref o), .val (.int p)] [])) t' → Steps pP.tables eE belowS (s₁.setTop (entryFrame mM #[(.ref o), (.int p)] 2)) t' := fun t' kk' => castTop (ef_contains_lt mM o a1 k p x) kk'
  obtain ⟨T1, X1, e1, st1⟩ := getF X0 hx hZ hown (host := "") (Or.inl (wi hw 13 rfl)) Via.refl e0 F_levels_o (g := (mkF mM 1 #[.val (.ref o), .val (.int p)] [(.ref o)])) rfl rfl (hb hby d_prog_20_method_4_1)
  obtain ⟨_, _, ⟨T2, L2, k2, n2⟩, -, X2, ⟨Lc2, hQ2, l2, y2, z2⟩, st2⟩ := Jvm.LawKit.callS X1 hx (y := (⟨"java/util/Arrays", "binarySearch", "([II)I"⟩ : MethodName)) hown (mvT hZ (wi hw 25 rfl)) (mvT hZ (wi hw 26 rfl)) (mvT hZ (wi hw 27 rfl)) (mvT hZ (wi hw 28 rfl)) (by decide) (backOf (W := 0) (rm_bs_lt l Z a0 hw [] a1 k p x h0 n0 (by omega) V_a1 hc33_2_2) hZ (wi hw 28 rfl) (wi hw 27 rfl) (by decide) (by decide)) (g := (mkF mM 5 #[.val (.ref o), .val (.int p)] [(.int p), (.ref a1)])) rfl (by rw [hml]; rfl) (argsL := [(.ref a1), (.int p)]) (rest := []) (lenOf pd_5 rfl) rfl (by show 2 * 0 + _ ≤ _; exact Nat.le_of_eq rfl) (hb hby d_prog_20_method_4_5) (fun _ _ => ⟨rfl, e1, Nat.le_of_ble_eq_true rfl, Nat.le_of_ble_eq_true rfl⟩)
  dsimp only [Pt.U, Pt.locs, Pt.cells, Pt.slots] at X2 l2 y2 z2 st2 hQ2
  subst l2 y2 z2
  obtain ⟨h2, e2⟩ : ∃ z, T2.heap = z := ⟨_, rfl⟩
  rw [e2] at hQ2
  obtain ⟨rfl, N2q, eq2⟩ := hQ2
  rw [eq2] at e2
  have N2 := Fr.app N0 N2q
  obtain ⟨fs, hr, hrun, hended, hW, hsame⟩ := X2.leave (v := some (.int (0 : Int32))) (fun h => by rw [Bd.returns] at h; cases h)
  refine ⟨_, _, pre0 _ ?_, hrun, hended, _, _, rfl, ?_, ⟨_, rfl⟩, hW, hsame.mono (by decide) (by decide)⟩
  · show SS pP eE belowS s₁ (mkF mM 0 #[.val (.ref o), .val (.int p)] []) _
    refine XS.aloadN X0.here hx rfl (hb hby d_prog_20_method_4_0) rfl rfl ?_
    show SS pP eE belowS s₁ (mkF mM 1 #[.val (.ref o), .val (.int p)] [(.ref o)]) _
    refine st1 _ ?_
    show SS pP eE belowS T1 (mkF mM 4 #[.val (.ref o), .val (.int p)] [(.ref a1)]) _
    refine XS.iloadN X1.here hx rfl (hb hby d_prog_20_method_4_4) rfl ?_
    show SS pP eE belowS T1 (mkF mM 5 #[.val (.ref o), .val (.int p)] [(.int p), (.ref a1)]) _
    refine st2 _ ?_
    show SS pP eE belowS T2 (mkF mM 8 #[.val (.ref o), .val (.int p)] [(.int (-2 : Int32))]) _
    refine XS.ifYes X2.here hx rfl (pc0 := 8) (pc' := 15) rfl (hb hby d_prog_20_method_4_8) rfl ((if0 _ _).trans (tlt (by decide : (-2 : Int32) < (0 : Int32))).1) (by decide) (by decide) ?_
    show SS pP eE belowS T2 (mkF mM 15 #[.val (.ref o), .val (.int p)] []) _
    refine XS.iconst X2.here hx rfl (hb hby d_prog_20_method_4_15) ?_
    show SS pP eE belowS T2 (mkF mM 16 #[.val (.ref o), .val (.int p)] [(.int (0 : Int32))]) _
    exact retN X2 hx (t := .boolean) Bd.returns (by simp) (hb hby d_prog_20_method_4_16) hr
  · show Q_contains_lt Z o a1 k p x h0 n0 _ T2.heap _
    rw [e2]
    exact ⟨rfl, N2, rfl⟩
theorem d_jdk_65_method_59_51 : decode jdk_65_method_59_code 51 = .ok (.iload 6, 2) := by decide +kernel
theorem d_jdk_65_method_59_53 : decode jdk_65_method_59_code 53 = .ok (.iconst 1, 1) := by decide +kernel
theorem d_jdk_65_method_59_54 : decode jdk_65_method_59_code 54 = .ok (.isub, 1) := by decide +kernel
theorem d_jdk_65_method_59_55 : decode jdk_65_method_59_code 55 = .ok (.istore 5, 2) := by decide +kernel
theorem d_jdk_65_method_59_57 : decode jdk_65_method_59_code 57 = .ok (.goto 6, 3) := by decide +kernel
def Q_bs0_gt (Z : State) (a1 : Addr) (k : ClassId) (p : Int32) (x : Int32) (h0 : Heap) (n0 : Nat) (xv : Option Value) (xh : Heap) (xL : List Loc) : Prop := xv = some (.int (-1 : Int32)) ∧ Fr n0 xL ∧ xh = h0
abbrev Lc_bs0_gt_0 (a1 : Addr) (p : Int32) : Array Slot := #[.val (.ref a1), .val (.int (0 : Int32)), .val (.int (1 : Int32)), .val (.int p), .unset, .unset, .unset, .unset]
abbrev Lc_bs0_gt_1 (a1 : Addr) (p : Int32) : Array Slot := #[.val (.ref a1), .val (.int (0 : Int32)), .val (.int (1 : Int32)), .val (.int p), .val (.int (0 : Int32)), .unset, .unset, .unset]
abbrev Lc_bs0_gt_2 (a1 : Addr) (p : Int32) : Array Slot := #[.val (.ref a1), .val (.int (0 : Int32)), .val (.int (1 : Int32)), .val (.int p), .val (.int (0 : Int32)), .val (.int (0 : Int32)), .unset, .unset]
abbrev Lc_bs0_gt_3 (a1 : Addr) (p : Int32) : Array Slot := #[.val (.ref a1), .val (.int (0 : Int32)), .val (.int (1 : Int32)), .val (.int p), .val (.int (0 : Int32)), .val (.int (0 : Int32)), .val (.int (0 : Int32)), .unset]
abbrev Lc_bs0_gt_4 (a1 : Addr) (p : Int32) (x : Int32) : Array Slot := #[.val (.ref a1), .val (.int (0 : Int32)), .val (.int (1 : Int32)), .val (.int p), .val (.int (0 : Int32)), .val (.int (0 : Int32)), .val (.int (0 : Int32)), .val (.int x)]
abbrev Lc_bs0_gt_5 (a1 : Addr) (p : Int32) (x : Int32) : Array Slot := #[.val (.ref a1), .val (.int (0 : Int32)), .val (.int (1 : Int32)), .val (.int p), .val (.int (0 : Int32)), .val (.int (-1 : Int32)), .val (.int (0 : Int32)), .val (.int x)]
theorem ef_bs0_gt (mM : MethodId) (a1 : Addr) (k : ClassId) (p : Int32) (x : Int32) : entryFrame mM #[(.ref a1), (.int (0 : Int32)), (.int (1 : Int32)), (.int p)] 8 = mkF mM 0 #[.val (.ref a1), .val (.int (0 : Int32)), .val (.int (1 : Int32)), .val (.int p), .unset, .unset, .unset, .unset] [] := by first | (simp [entryFrame, mkF, argsToLocals, Value.category]; done) | rfl
set_option maxRecDepth 65536 in
set_option maxHeartbeats 40000000 in
theorem rm_bs0_gt (l : Launch) (Z : State) (a0 : Array Value) (hw : ∀ d ∈ tables_1, d.before a0 Z = true) (ws : List Jvm.Cond) (a1 : Addr) (k : ClassId) (p : Int32) (x : Int32) (h0 : Heap) (n0 : Nat) (Z0 : n0 ≤ h0.size) (V_a1 : Arv Z h0 a1 k .int (1 : Int32) [(.int x)] (.int (0 : Int32))) (hc33 : ¬ (x < p)) (hc48 : p < x) :
    MetFree l (⟨"java/util/Arrays", "binarySearch0", "([IIII)I"⟩ : MethodName) (head1 (Jvm.Cond.code (⟨"java/util/Arrays", "binarySearch0", "([IIII)I"⟩ : MethodName) jdk_65_method_59_code 8 (some .int) :: ws) ({ frames := 0, cells := 0, slots := 0, locals := 0 } : Room)) (fun xa xU => xa = #[(.ref a1), (.int (0 : Int32)), (.int (1 : Int32)), (.int p)] ∧ Z.Warmed39 xU.vm ∧ xU.heap = h0) (fun _ _ _ _ _ => True) (fun _ xU xo xU' => ∃ xv xL, xo = .returned xv ∧ Q_bs0_gt Z a1 k p x h0 n0 xv xU'.heap xL ∧ FrameEnd xU xo xU' xL ({ frames := 0, cells := 0, slots := 0, locals := 0 } : Room).cells ({ frames := 0, cells := 0, slots := 0, locals := 0 } : Room).slots) := by
  refine MetFree.of_bodySF (plainFor_of_name pn_java_util_Arrays) hisR ?_
  intro pP eE sS mM argS belowS methS cC s₁ Bd hml0 hP hK
  obtain ⟨rfl, hZ, hh⟩ := hP
  have hx := Bd.exec
  have hby := Bd.bytes
  have hml : cC.maxLocals = 8 := hml0
  have hown : sS.vm.findClass "java/util/Arrays" = some mM.cls := findClass_of_methodNamed Bd.named
  have hnm := (name_of_methodNamed Bd.named Bd.method).1
  have X0 : Stand pP l eE ({ frames := 0, cells := 0, slots := 0, locals := 0 } : Room) sS mM #[(.ref a1), (.int (0 : Int32)), (.int (1 : Int32)), (.int p)] belowS methS cC s₁ [] 0 0 := Stand.of_body Bd
  have e0 : s₁.heap = h0 := by rw [← hh, Bd.state]; rfl
  have N0 := Fr.nil n0
  have pre0 : ∀ t', Steps pP.tables eE belowS (s₁.setTop (mkF mM 0 #[.val (.ref a1), .val (.int (0 : Int32)), .val (.int (1 : Int32)), .val (.int p), .unset, .unset, .unset, .unset] [])) t' → Steps pP.tables eE belowS (s₁.setTop (entryFrame mM #[(.ref a1), (.int (0 : Int32)), (.int (1 : Int32)), (.int p)] 8)) t' := fun t' kk' => castTop (ef_bs0_gt mM a1 k p x) kk'
  obtain ⟨cl1, Ar1, q1, S1, Ng1, Ha1, Ga1⟩ := id V_a1
  have hin1 : ¬ ((0 : Int32) < 0 ∨ cl1.slots.size ≤ ((0 : Int32)).toNatClampNeg) := inb_of S1 ⟨by decide, by decide⟩
  have hat1 : cl1.slots[((0 : Int32)).toNatClampNeg]? = some (.int x) := Ha1.at hin1 (rfl)
  obtain ⟨fs, hr, hrun, hended, hW, hsame⟩ := X0.leave (v := some (.int (-1 : Int32))) (fun h => by rw [Bd.returns] at h; cases h)
  refine ⟨_, _, pre0 _ ?_, hrun, hended, _, _, rfl, ?_, ⟨_, rfl⟩, hW, hsame.mono (by decide) (by decide)⟩
  · show SS pP eE belowS s₁ (mkF mM 0 (Lc_bs0_gt_0 a1 p) []) _
    refine XS.iloadN X0.here hx rfl (hb hby d_jdk_65_method_59_0) rfl ?_
    show SS pP eE belowS s₁ (mkF mM 1 (Lc_bs0_gt_0 a1 p) [(.int (0 : Int32))]) _
    refine XS.istore X0.here hx rfl (hb hby d_jdk_65_method_59_1) rfl (l' := (Lc_bs0_gt_1 a1 p)) rfl ?_
    show SS pP eE belowS s₁ (mkF mM 3 (Lc_bs0_gt_1 a1 p) []) _
    refine XS.iloadN X0.here hx rfl (hb hby d_jdk_65_method_59_3) rfl ?_
    show SS pP eE belowS s₁ (mkF mM 4 (Lc_bs0_gt_1 a1 p) [(.int (1 : Int32))]) _
    refine XS.iconst X0.here hx rfl (hb hby d_jdk_65_method_59_4) ?_
    show SS pP eE belowS s₁ (mkF mM 5 (Lc_bs0_gt_1 a1 p) [(.int (1 : Int32)), (.int (1 : Int32))]) _
    refine XS.isub X0.here hx rfl (hb hby d_jdk_65_method_59_5) rfl ?_
    show SS pP eE belowS s₁ (mkF mM 6 (Lc_bs0_gt_1 a1 p) [(.int (0 : Int32))]) _
    refine XS.istore X0.here hx rfl (hb hby d_jdk_65_method_59_6) rfl (l' := (Lc_bs0_gt_2 a1 p)) rfl ?_
    show SS pP eE belowS s₁ (mkF mM 8 (Lc_bs0_gt_2 a1 p) []) _
    refine XS.iload X0.here hx rfl (hb hby d_jdk_65_method_59_8) rfl ?_
    show SS pP eE belowS s₁ (mkF mM 10 (Lc_bs0_gt_2 a1 p) [(.int (0 : Int32))]) _
    refine XS.iload X0.here hx rfl (hb hby d_jdk_65_method_59_10) rfl ?_
    show SS pP eE belowS s₁ (mkF mM 12 (Lc_bs0_gt_2 a1 p) [(.int (0 : Int32)), (.int (0 : Int32))]) _
    refine XS.icmpNo X0.here hx rfl (hb hby d_jdk_65_method_59_12) rfl (flt (by decide : ¬ ((0 : Int32) < (0 : Int32)))).2.2.1 ?_
    show SS pP eE belowS s₁ (mkF mM 15 (Lc_bs0_gt_2 a1 p) []) _
    refine XS.iload X0.here hx rfl (hb hby d_jdk_65_method_59_15) rfl ?_
    show SS pP eE belowS s₁ (mkF mM 17 (Lc_bs0_gt_2 a1 p) [(.int (0 : Int32))]) _
    refine XS.iload X0.here hx rfl (hb hby d_jdk_65_method_59_17) rfl ?_
    show SS pP eE belowS s₁ (mkF mM 19 (Lc_bs0_gt_2 a1 p) [(.int (0 : Int32)), (.int (0 : Int32))]) _
    refine XS.iadd X0.here hx rfl (hb hby d_jdk_65_method_59_19) rfl ?_
    show SS pP eE belowS s₁ (mkF mM 20 (Lc_bs0_gt_2 a1 p) [(.int (0 : Int32))]) _
    refine XS.iconst X0.here hx rfl (hb hby d_jdk_65_method_59_20) ?_
    show SS pP eE belowS s₁ (mkF mM 21 (Lc_bs0_gt_2 a1 p) [(.int (1 : Int32)), (.int (0 : Int32))]) _
    refine XS.iushr X0.here hx rfl (hb hby d_jdk_65_method_59_21) rfl ?_
    show SS pP eE belowS s₁ (mkF mM 22 (Lc_bs0_gt_2 a1 p) [(.int (0 : Int32))]) _
    refine XS.istore X0.here hx rfl (hb hby d_jdk_65_method_59_22) rfl (l' := (Lc_bs0_gt_3 a1 p)) rfl ?_
    show SS pP eE belowS s₁ (mkF mM 24 (Lc_bs0_gt_3 a1 p) []) _
    refine XS.aloadN X0.here hx rfl (hb hby d_jdk_65_method_59_24) rfl rfl ?_
    show SS pP eE belowS s₁ (mkF mM 25 (Lc_bs0_gt_3 a1 p) [(.ref a1)]) _
    refine XS.iload X0.here hx rfl (hb hby d_jdk_65_method_59_25) rfl ?_
    show SS pP eE belowS s₁ (mkF mM 27 (Lc_bs0_gt_3 a1 p) [(.int (0 : Int32)), (.ref a1)]) _
    refine X0.iaload hx (j := (0 : Int32)) (v := (.int x)) (by rw [e0]; exact Ar1.1) (State.isArrayOf_alike hZ.alike Ar1.2.1) Ar1.2.2 hin1 hat1 (g := (mkF mM 27 (Lc_bs0_gt_3 a1 p) [(.int (0 : Int32)), (.ref a1)])) rfl rfl (hb hby d_jdk_65_method_59_27) _ ?_
    show SS pP eE belowS s₁ (mkF mM 28 (Lc_bs0_gt_3 a1 p) [(.int x)]) _
    refine XS.istore X0.here hx rfl (hb hby d_jdk_65_method_59_28) rfl (l' := (Lc_bs0_gt_4 a1 p x)) rfl ?_
    show SS pP eE belowS s₁ (mkF mM 30 (Lc_bs0_gt_4 a1 p x) []) _
    refine XS.iload X0.here hx rfl (hb hby d_jdk_65_method_59_30) rfl ?_
    show SS pP eE belowS s₁ (mkF mM 32 (Lc_bs0_gt_4 a1 p x) [(.int x)]) _
    refine XS.iloadN X0.here hx rfl (hb hby d_jdk_65_method_59_32) rfl ?_
    show SS pP eE belowS s₁ (mkF mM 33 (Lc_bs0_gt_4 a1 p x) [(.int p), (.int x)]) _
    refine XS.icmpYes X0.here hx rfl (pc0 := 33) (pc' := 45) rfl (hb hby d_jdk_65_method_59_33) rfl (flt hc33).2.1 (by decide) (by decide) ?_
    show SS pP eE belowS s₁ (mkF mM 45 (Lc_bs0_gt_4 a1 p x) []) _
    refine XS.iload X0.here hx rfl (hb hby d_jdk_65_method_59_45) rfl ?_
    show SS pP eE belowS s₁ (mkF mM 47 (Lc_bs0_gt_4 a1 p x) [(.int x)]) _
    refine XS.iloadN X0.here hx rfl (hb hby d_jdk_65_method_59_47) rfl ?_
    show SS pP eE belowS s₁ (mkF mM 48 (Lc_bs0_gt_4 a1 p x) [(.int p), (.int x)]) _
    refine XS.icmpNo X0.here hx rfl (hb hby d_jdk_65_method_59_48) rfl (tlt hc48).2.2.2 ?_
    show SS pP eE belowS s₁ (mkF mM 51 (Lc_bs0_gt_4 a1 p x) []) _
    refine XS.iload X0.here hx rfl (hb hby d_jdk_65_method_59_51) rfl ?_
    show SS pP eE belowS s₁ (mkF mM 53 (Lc_bs0_gt_4 a1 p x) [(.int (0 : Int32))]) _
    refine XS.iconst X0.here hx rfl (hb hby d_jdk_65_method_59_53) ?_
    show SS pP eE belowS s₁ (mkF mM 54 (Lc_bs0_gt_4 a1 p x) [(.int (1 : Int32)), (.int (0 : Int32))]) _
    refine XS.isub X0.here hx rfl (hb hby d_jdk_65_method_59_54) rfl ?_
    show SS pP eE belowS s₁ (mkF mM 55 (Lc_bs0_gt_4 a1 p x) [(.int (-1 : Int32))]) _
    refine XS.istore X0.here hx rfl (hb hby d_jdk_65_method_59_55) rfl (l' := (Lc_bs0_gt_5 a1 p x)) rfl ?_
    show SS pP eE belowS s₁ (mkF mM 57 (Lc_bs0_gt_5 a1 p x) []) _
    refine XS.goto X0.here hx rfl (pc0 := 57) (pc' := 63) rfl (hb hby d_jdk_65_method_59_57) (by decide) (by decide) ?_
    show SS pP eE belowS s₁ (mkF mM 63 (Lc_bs0_gt_5 a1 p x) []) _
    refine XS.goto X0.here hx rfl (pc0 := 63) (pc' := 8) rfl (hb hby d_jdk_65_method_59_63) (by decide) (by decide) ?_
    show SS pP eE belowS s₁ (mkF mM 8 (Lc_bs0_gt_5 a1 p x) []) _
    refine XS.iload X0.here hx rfl (hb hby d_jdk_65_method_59_8) rfl ?_
    show SS pP eE belowS s₁ (mkF mM 10 (Lc_bs0_gt_5 a1 p x) [(.int (0 : Int32))]) _
    refine XS.iload X0.here hx rfl (hb hby d_jdk_65_method_59_10) rfl ?_
    show SS pP eE belowS s₁ (mkF mM 12 (Lc_bs0_gt_5 a1 p x) [(.int (-1 : Int32)), (.int (0 : Int32))]) _
    refine XS.icmpYes X0.here hx rfl (pc0 := 12) (pc' := 66) rfl (hb hby d_jdk_65_method_59_12) rfl (tlt (by decide : (-1 : Int32) < (0 : Int32))).2.2.1 (by decide) (by decide) ?_
    show SS pP eE belowS s₁ (mkF mM 66 (Lc_bs0_gt_5 a1 p x) []) _
    refine XS.iload X0.here hx rfl (hb hby d_jdk_65_method_59_66) rfl ?_
    show SS pP eE belowS s₁ (mkF mM 68 (Lc_bs0_gt_5 a1 p x) [(.int (0 : Int32))]) _
    refine XS.iconst X0.here hx rfl (hb hby d_jdk_65_method_59_68) ?_
    show SS pP eE belowS s₁ (mkF mM 69 (Lc_bs0_gt_5 a1 p x) [(.int (1 : Int32)), (.int (0 : Int32))]) _
    refine XS.iadd X0.here hx rfl (hb hby d_jdk_65_method_59_69) rfl ?_
    show SS pP eE belowS s₁ (mkF mM 70 (Lc_bs0_gt_5 a1 p x) [(.int (1 : Int32))]) _
    refine XS.ineg X0.here hx rfl (hb hby d_jdk_65_method_59_70) rfl ?_
    show SS pP eE belowS s₁ (mkF mM 71 (Lc_bs0_gt_5 a1 p x) [(.int (-1 : Int32))]) _
    exact retI X0 hx Bd.returns (hb hby d_jdk_65_method_59_71) hr
  · show Q_bs0_gt Z a1 k p x h0 n0 _ s₁.heap _
    rw [e0]
    exact ⟨rfl, N0, rfl⟩

def Q_bs_gt (Z : State) (a1 : Addr) (k : ClassId) (p : Int32) (x : Int32) (h0 : Heap) (n0 : Nat) (xv : Option Value) (xh : Heap) (xL : List Loc) : Prop := xv = some (.int (-1 : Int32)) ∧ Fr n0 xL ∧ xh = h0
theorem ef_bs_gt (mM : MethodId) (a1 : Addr) (k : ClassId) (p : Int32) (x : Int32) : entryFrame mM #[(.ref a1), (.int p)] 2 = mkF mM 0 #[.val (.ref a1), .val (.int p)] [] := by first | (simp [entryFrame, mkF, argsToLocals, Value.category]; done) | rfl
set_option maxRecDepth 65536 in
set_option maxHeartbeats 40000000 in
theorem rm_bs_gt (l : Launch) (Z : State) (a0 : Array Value) (hw : ∀ d ∈ tables_1, d.before a0 Z = true) (ws : List Jvm.Cond) (a1 : Addr) (k : ClassId) (p : Int32) (x : Int32) (h0 : Heap) (n0 : Nat) (Z0 : n0 ≤ h0.size) (V_a1 : Arv Z h0 a1 k .int (1 : Int32) [(.int x)] (.int (0 : Int32))) (hc33_2 : ¬ (x < p)) (hc48_2 : p < x) :
    MetFree l (⟨"java/util/Arrays", "binarySearch", "([II)I"⟩ : MethodName) (head1 (Jvm.Cond.code (⟨"java/util/Arrays", "binarySearch", "([II)I"⟩ : MethodName) jdk_65_method_57_code 2 (some .int) :: ws) ({ frames := 1, cells := 0, slots := 0, locals := 19 } : Room)) (fun xa xU => xa = #[(.ref a1), (.int p)] ∧ Z.Warmed39 xU.vm ∧ xU.heap = h0) (fun _ _ _ _ _ => True) (fun _ xU xo xU' => ∃ xv xL, xo = .returned xv ∧ Q_bs_gt Z a1 k p x h0 n0 xv xU'.heap xL ∧ FrameEnd xU xo xU' xL ({ frames := 1, cells := 0, slots := 0, locals := 19 } : Room).cells ({ frames := 1, cells := 0, slots := 0, locals := 19 } : Room).slots) := by
  refine MetFree.of_bodySF (plainFor_of_name pn_java_util_Arrays) hisR ?_
  intro pP eE sS mM argS belowS methS cC s₁ Bd hml0 hP hK
  obtain ⟨rfl, hZ, hh⟩ := hP
  have hx := Bd.exec
  have hby := Bd.bytes
  have hml : cC.maxLocals = 2 := hml0
  have hown : sS.vm.findClass "java/util/Arrays" = some mM.cls := findClass_of_methodNamed Bd.named
  have hnm := (name_of_methodNamed Bd.named Bd.method).1
  have X0 : Stand pP l eE ({ frames := 1, cells := 0, slots := 0, locals := 19 } : Room) sS mM #[(.ref a1), (.int p)] belowS methS cC s₁ [] 0 0 := Stand.of_body Bd
  have e0 : s₁.heap = h0 := by rw [← hh, Bd.state]; rfl
  have N0 := Fr.nil n0
  have pre0 : ∀ t', Steps pP.tables eE belowS (s₁.setTop (mkF mM 0 #[.val (.ref a1), .val (.int p)] [])) t' → Steps pP.tables eE belowS (s₁.setTop (entryFrame mM #[(.ref a1), (.int p)] 2)) t' := fun t' kk' => castTop (ef_bs_gt mM a1 k p x) kk'
  obtain ⟨cl1, Ar1, q1, S1, Ng1, Ha1, Ga1⟩ := id V_a1
  obtain ⟨_, _, ⟨T2, L2, k2, n2⟩, -, X2, ⟨Lc2, hQ2, l2, y2, z2⟩, st2⟩ := Jvm.LawKit.callS X0 hx (y := (⟨"java/util/Arrays", "binarySearch0", "([IIII)I"⟩ : MethodName)) hown (mvT hZ (wi hw 29 rfl)) (mvT hZ (wi hw 30 rfl)) (mvT hZ (wi hw 27 rfl)) (mvT hZ (wi hw 31 rfl)) (by decide) (backOf (W := 0) (rm_bs0_gt l Z a0 hw [] a1 k p x h0 n0 (by omega) V_a1 hc33_2 hc48_2) hZ (wi hw 31 rfl) (wi hw 27 rfl) (by decide) (by decide)) (g := (mkF mM 5 #[.val (.ref a1), .val (.int p)] [(.int p), (.int (1 : Int32)), (.int (0 : Int32)), (.ref a1)])) rfl (by rw [hml]; rfl) (argsL := [(.ref a1), (.int (0 : Int32)), (.int (1 : Int32)), (.int p)]) (rest := []) (lenOf pd_6 rfl) rfl (by show 2 * 0 + _ ≤ _; exact Nat.le_of_eq rfl) (hb hby d_jdk_65_method_57_5) (fun _ _ => ⟨rfl, e0, Nat.le_of_ble_eq_true rfl, Nat.le_of_ble_eq_true rfl⟩)
  dsimp only [Pt.U, Pt.locs, Pt.cells, Pt.slots] at X2 l2 y2 z2 st2 hQ2
  subst l2 y2 z2
  obtain ⟨h2, e2⟩ : ∃ z, T2.heap = z := ⟨_, rfl⟩
  rw [e2] at hQ2
  obtain ⟨rfl, N2q, eq2⟩ := hQ2
  rw [eq2] at e2
  have N2 := Fr.app N0 N2q
  obtain ⟨fs, hr, hrun, hended, hW, hsame⟩ := X2.leave (v := some (.int (-1 : Int32))) (fun h => by rw [Bd.returns] at h; cases h)
  refine ⟨_, _, pre0 _ ?_, hrun, hended, _, _, rfl, ?_, ⟨_, rfl⟩, hW, hsame.mono (by decide) (by decide)⟩
  · show SS pP eE belowS s₁ (mkF mM 0 #[.val (.ref a1), .val (.int p)] []) _
    refine XS.aloadN X0.here hx rfl (hb hby d_jdk_65_method_57_0) rfl rfl ?_
    show SS pP eE belowS s₁ (mkF mM 1 #[.val (.ref a1), .val (.int p)] [(.ref a1)]) _
    refine XS.iconst X0.here hx rfl (hb hby d_jdk_65_method_57_1) ?_
    show SS pP eE belowS s₁ (mkF mM 2 #[.val (.ref a1), .val (.int p)] [(.int (0 : Int32)), (.ref a1)]) _
    refine XS.aloadN X0.here hx rfl (hb hby d_jdk_65_method_57_2) rfl rfl ?_
    show SS pP eE belowS s₁ (mkF mM 3 #[.val (.ref a1), .val (.int p)] [(.ref a1), (.int (0 : Int32)), (.ref a1)]) _
    refine X0.arraylength hx (by rw [e0]; exact Ar1.1) (State.isArrayOf_alike hZ.alike Ar1.2.1) (g := (mkF mM 3 #[.val (.ref a1), .val (.int p)] [(.ref a1), (.int (0 : Int32)), (.ref a1)])) rfl rfl (hb hby d_jdk_65_method_57_3) _ ?_
    rw [len_of S1 Ng1]
    show SS pP eE belowS s₁ (mkF mM 4 #[.val (.ref a1), .val (.int p)] [(.int (1 : Int32)), (.int (0 : Int32)), (.ref a1)]) _
    refine XS.iloadN X0.here hx rfl (hb hby d_jdk_65_method_57_4) rfl ?_
    show SS pP eE belowS s₁ (mkF mM 5 #[.val (.ref a1), .val (.int p)] [(.int p), (.int (1 : Int32)), (.int (0 : Int32)), (.ref a1)]) _
    refine st2 _ ?_
    show SS pP eE belowS T2 (mkF mM 8 #[.val (.ref a1), .val (.int p)] [(.int (-1 : Int32))]) _
    exact retI X2 hx Bd.returns (hb hby d_jdk_65_method_57_8) hr
  · show Q_bs_gt Z a1 k p x h0 n0 _ T2.heap _
    rw [e2]
    exact ⟨rfl, N2, rfl⟩

def Q_contains_gt (Z : State) (o : Addr) (a1 : Addr) (k : ClassId) (p : Int32) (x : Int32) (h0 : Heap) (n0 : Nat) (xv : Option Value) (xh : Heap) (xL : List Loc) : Prop := xv = some (.int (0 : Int32)) ∧ Fr n0 xL ∧ xh = h0
theorem ef_contains_gt (mM : MethodId) (o : Addr) (a1 : Addr) (k : ClassId) (p : Int32) (x : Int32) : entryFrame mM #[(.ref o), (.int p)] 2 = mkF mM 0 #[.val (.ref o), .val (.int p)] [] := by first | (simp [entryFrame, mkF, argsToLocals, Value.category]; done) | rfl
set_option maxRecDepth 65536 in
set_option maxHeartbeats 40000000 in
theorem rm_contains_gt (l : Launch) (Z : State) (a0 : Array Value) (hw : ∀ d ∈ tables_1, d.before a0 Z = true) (ws : List Jvm.Cond) (o : Addr) (a1 : Addr) (k : ClassId) (p : Int32) (x : Int32) (h0 : Heap) (n0 : Nat) (Z0 : n0 ≤ h0.size) (F_levels_o : Fld Z h0 o "com/example/subsumption/subsumption/DependencySet" "levels" "[I" (.ref a1)) (V_a1 : Arv Z h0 a1 k .int (1 : Int32) [(.int x)] (.int (0 : Int32))) (hc33_2_2 : ¬ (x < p)) (hc48_2_2 : p < x) :
    MetFree l (⟨"com/example/subsumption/subsumption/DependencySet", "contains", "(I)Z"⟩ : MethodName) (head1 (Jvm.Cond.code (⟨"com/example/subsumption/subsumption/DependencySet", "contains", "(I)Z"⟩ : MethodName) prog_20_method_4_code 2 (some .boolean) :: ws) ({ frames := 2, cells := 0, slots := 0, locals := 32 } : Room)) (fun xa xU => xa = #[(.ref o), (.int p)] ∧ Z.Warmed39 xU.vm ∧ xU.heap = h0) (fun _ _ _ _ _ => True) (fun _ xU xo xU' => ∃ xv xL, xo = .returned xv ∧ Q_contains_gt Z o a1 k p x h0 n0 xv xU'.heap xL ∧ FrameEnd xU xo xU' xL ({ frames := 2, cells := 0, slots := 0, locals := 32 } : Room).cells ({ frames := 2, cells := 0, slots := 0, locals := 32 } : Room).slots) := by
  refine MetFree.of_bodySF (plainFor_of_name pn_com_example_subsumption_subsumption_DependencySet) hisR ?_
  intro pP eE sS mM argS belowS methS cC s₁ Bd hml0 hP hK
  obtain ⟨rfl, hZ, hh⟩ := hP
  have hx := Bd.exec
  have hby := Bd.bytes
  have hml : cC.maxLocals = 2 := hml0
  have hown : sS.vm.findClass "com/example/subsumption/subsumption/DependencySet" = some mM.cls := findClass_of_methodNamed Bd.named
  have hnm := (name_of_methodNamed Bd.named Bd.method).1
  have X0 : Stand pP l eE ({ frames := 2, cells := 0, slots := 0, locals := 32 } : Room) sS mM #[(.ref o), (.int p)] belowS methS cC s₁ [] 0 0 := Stand.of_body Bd
  have e0 : s₁.heap = h0 := by rw [← hh, Bd.state]; rfl
  have N0 := Fr.nil n0
  have pre0 : ∀ t', Steps pP.tables eE belowS (s₁.setTop (mkF mM 0 #[.val (.ref o), .val (.int p)] [])) t' → Steps pP.tables eE belowS (s₁.setTop (entryFrame mM #[(.ref o), (.int p)] 2)) t' := fun t' kk' => castTop (ef_contains_gt mM o a1 k p x) kk'
  obtain ⟨T1, X1, e1, st1⟩ := getF X0 hx hZ hown (host := "") (Or.inl (wi hw 13 rfl)) Via.refl e0 F_levels_o (g := (mkF mM 1 #[.val (.ref o), .val (.int p)] [(.ref o)])) rfl rfl (hb hby d_prog_20_method_4_1)
  obtain ⟨_, _, ⟨T2, L2, k2, n2⟩, -, X2, ⟨Lc2, hQ2, l2, y2, z2⟩, st2⟩ := Jvm.LawKit.callS X1 hx (y := (⟨"java/util/Arrays", "binarySearch", "([II)I"⟩ : MethodName)) hown (mvT hZ (wi hw 25 rfl)) (mvT hZ (wi hw 26 rfl)) (mvT hZ (wi hw 27 rfl)) (mvT hZ (wi hw 28 rfl)) (by decide) (backOf (W := 0) (rm_bs_gt l Z a0 hw [] a1 k p x h0 n0 (by omega) V_a1 hc33_2_2 hc48_2_2) hZ (wi hw 28 rfl) (wi hw 27 rfl) (by decide) (by decide)) (g := (mkF mM 5 #[.val (.ref o), .val (.int p)] [(.int p), (.ref a1)])) rfl (by rw [hml]; rfl) (argsL := [(.ref a1), (.int p)]) (rest := []) (lenOf pd_5 rfl) rfl (by show 2 * 0 + _ ≤ _; exact Nat.le_of_eq rfl) (hb hby d_prog_20_method_4_5) (fun _ _ => ⟨rfl, e1, Nat.le_of_ble_eq_true rfl, Nat.le_of_ble_eq_true rfl⟩)
  dsimp only [Pt.U, Pt.locs, Pt.cells, Pt.slots] at X2 l2 y2 z2 st2 hQ2
  subst l2 y2 z2
  obtain ⟨h2, e2⟩ : ∃ z, T2.heap = z := ⟨_, rfl⟩
  rw [e2] at hQ2
  obtain ⟨rfl, N2q, eq2⟩ := hQ2
  rw [eq2] at e2
  have N2 := Fr.app N0 N2q
  obtain ⟨fs, hr, hrun, hended, hW, hsame⟩ := X2.leave (v := some (.int (0 : Int32))) (fun h => by rw [Bd.returns] at h; cases h)
  refine ⟨_, _, pre0 _ ?_, hrun, hended, _, _, rfl, ?_, ⟨_, rfl⟩, hW, hsame.mono (by decide) (by decide)⟩
  · show SS pP eE belowS s₁ (mkF mM 0 #[.val (.ref o), .val (.int p)] []) _
    refine XS.aloadN X0.here hx rfl (hb hby d_prog_20_method_4_0) rfl rfl ?_
    show SS pP eE belowS s₁ (mkF mM 1 #[.val (.ref o), .val (.int p)] [(.ref o)]) _
    refine st1 _ ?_
    show SS pP eE belowS T1 (mkF mM 4 #[.val (.ref o), .val (.int p)] [(.ref a1)]) _
    refine XS.iloadN X1.here hx rfl (hb hby d_prog_20_method_4_4) rfl ?_
    show SS pP eE belowS T1 (mkF mM 5 #[.val (.ref o), .val (.int p)] [(.int p), (.ref a1)]) _
    refine st2 _ ?_
    show SS pP eE belowS T2 (mkF mM 8 #[.val (.ref o), .val (.int p)] [(.int (-1 : Int32))]) _
    refine XS.ifYes X2.here hx rfl (pc0 := 8) (pc' := 15) rfl (hb hby d_prog_20_method_4_8) rfl ((if0 _ _).trans (tlt (by decide : (-1 : Int32) < (0 : Int32))).1) (by decide) (by decide) ?_
    show SS pP eE belowS T2 (mkF mM 15 #[.val (.ref o), .val (.int p)] []) _
    refine XS.iconst X2.here hx rfl (hb hby d_prog_20_method_4_15) ?_
    show SS pP eE belowS T2 (mkF mM 16 #[.val (.ref o), .val (.int p)] [(.int (0 : Int32))]) _
    exact retN X2 hx (t := .boolean) Bd.returns (by simp) (hb hby d_prog_20_method_4_16) hr
  · show Q_contains_gt Z o a1 k p x h0 n0 _ T2.heap _
    rw [e2]
    exact ⟨rfl, N2, rfl⟩
theorem d_prog_20_method_5_0 : decode prog_20_method_5_code 0 = .ok (.aload_n 0, 1) := by decide +kernel
theorem d_prog_20_method_5_1 : decode prog_20_method_5_code 1 = .ok (.getfield 7, 3) := by decide +kernel
theorem d_prog_20_method_5_4 : decode prog_20_method_5_code 4 = .ok (.arraylength, 1) := by decide +kernel
theorem d_prog_20_method_5_5 : decode prog_20_method_5_code 5 = .ok (.ifCond .ne 7, 3) := by decide +kernel
theorem d_prog_20_method_5_12 : decode prog_20_method_5_code 12 = .ok (.aload_n 0, 1) := by decide +kernel
theorem d_prog_20_method_5_13 : decode prog_20_method_5_code 13 = .ok (.getfield 7, 3) := by decide +kernel
theorem d_prog_20_method_5_16 : decode prog_20_method_5_code 16 = .ok (.aload_n 0, 1) := by decide +kernel
theorem d_prog_20_method_5_17 : decode prog_20_method_5_code 17 = .ok (.getfield 7, 3) := by decide +kernel
theorem d_prog_20_method_5_20 : decode prog_20_method_5_code 20 = .ok (.arraylength, 1) := by decide +kernel
theorem d_prog_20_method_5_21 : decode prog_20_method_5_code 21 = .ok (.iconst 1, 1) := by decide +kernel
theorem d_prog_20_method_5_22 : decode prog_20_method_5_code 22 = .ok (.isub, 1) := by decide +kernel
theorem d_prog_20_method_5_23 : decode prog_20_method_5_code 23 = .ok (.iaload, 1) := by decide +kernel
theorem d_prog_20_method_5_24 : decode prog_20_method_5_code 24 = .ok (.ireturn, 1) := by decide +kernel
def Q_highest (Z : State) (a1 : Addr) (w : Addr) (k : ClassId) (p : Int32) (h0 : Heap) (n0 : Nat) (xv : Option Value) (xh : Heap) (xL : List Loc) : Prop := xv = some (.int p) ∧ Fr n0 xL ∧ xh = h0
theorem ef_highest (mM : MethodId) (a1 : Addr) (w : Addr) (k : ClassId) (p : Int32) : entryFrame mM #[(.ref a1)] 1 = mkF mM 0 #[.val (.ref a1)] [] := by first | (simp [entryFrame, mkF, argsToLocals, Value.category]; done) | rfl
set_option maxRecDepth 65536 in
set_option maxHeartbeats 40000000 in
theorem rm_highest (l : Launch) (Z : State) (a0 : Array Value) (hw : ∀ d ∈ tables_1, d.before a0 Z = true) (ws : List Jvm.Cond) (a1 : Addr) (w : Addr) (k : ClassId) (p : Int32) (h0 : Heap) (n0 : Nat) (Z0 : n0 ≤ h0.size) (F_levels_a1 : Fld Z h0 a1 "com/example/subsumption/subsumption/DependencySet" "levels" "[I" (.ref w)) (V_w : Arv Z h0 w k .int (1 : Int32) [(.int p)] (.int (0 : Int32))) :
    MetFree l (⟨"com/example/subsumption/subsumption/DependencySet", "highest", "()I"⟩ : MethodName) (head1 (Jvm.Cond.code (⟨"com/example/subsumption/subsumption/DependencySet", "highest", "()I"⟩ : MethodName) prog_20_method_5_code 1 (some .int) :: ws) ({ frames := 0, cells := 0, slots := 0, locals := 0 } : Room)) (fun xa xU => xa = #[(.ref a1)] ∧ Z.Warmed39 xU.vm ∧ xU.heap = h0) (fun _ _ _ _ _ => True) (fun _ xU xo xU' => ∃ xv xL, xo = .returned xv ∧ Q_highest Z a1 w k p h0 n0 xv xU'.heap xL ∧ FrameEnd xU xo xU' xL ({ frames := 0, cells := 0, slots := 0, locals := 0 } : Room).cells ({ frames := 0, cells := 0, slots := 0, locals := 0 } : Room).slots) := by
  refine MetFree.of_bodySF (plainFor_of_name pn_com_example_subsumption_subsumption_DependencySet) hisR ?_
  intro pP eE sS mM argS belowS methS cC s₁ Bd hml0 hP hK
  obtain ⟨rfl, hZ, hh⟩ := hP
  have hx := Bd.exec
  have hby := Bd.bytes
  have hml : cC.maxLocals = 1 := hml0
  have hown : sS.vm.findClass "com/example/subsumption/subsumption/DependencySet" = some mM.cls := findClass_of_methodNamed Bd.named
  have hnm := (name_of_methodNamed Bd.named Bd.method).1
  have X0 : Stand pP l eE ({ frames := 0, cells := 0, slots := 0, locals := 0 } : Room) sS mM #[(.ref a1)] belowS methS cC s₁ [] 0 0 := Stand.of_body Bd
  have e0 : s₁.heap = h0 := by rw [← hh, Bd.state]; rfl
  have N0 := Fr.nil n0
  have pre0 : ∀ t', Steps pP.tables eE belowS (s₁.setTop (mkF mM 0 #[.val (.ref a1)] [])) t' → Steps pP.tables eE belowS (s₁.setTop (entryFrame mM #[(.ref a1)] 1)) t' := fun t' kk' => castTop (ef_highest mM a1 w k p) kk'
  obtain ⟨T1, X1, e1, st1⟩ := getF X0 hx hZ hown (host := "") (Or.inl (wi hw 13 rfl)) Via.refl e0 F_levels_a1 (g := (mkF mM 1 #[.val (.ref a1)] [(.ref a1)])) rfl rfl (hb hby d_prog_20_method_5_1)
  obtain ⟨cl2, Ar2, q2, S2, Ng2, Ha2, Ga2⟩ := id V_w
  obtain ⟨T3, X3, e3, st3⟩ := getF X1 hx hZ hown (host := "") (Or.inl (wi hw 13 rfl)) Via.refl e1 F_levels_a1 (g := (mkF mM 13 #[.val (.ref a1)] [(.ref a1)])) rfl rfl (hb hby d_prog_20_method_5_13)
  obtain ⟨T4, X4, e4, st4⟩ := getF X3 hx hZ hown (host := "") (Or.inl (wi hw 13 rfl)) Via.refl e3 F_levels_a1 (g := (mkF mM 17 #[.val (.ref a1)] [(.ref a1), (.ref w)])) rfl rfl (hb hby d_prog_20_method_5_17)
  obtain ⟨cl5, Ar5, q5, S5, Ng5, Ha5, Ga5⟩ := id V_w
  obtain ⟨cl6, Ar6, q6, S6, Ng6, Ha6, Ga6⟩ := id V_w
  have hin6 : ¬ ((0 : Int32) < 0 ∨ cl6.slots.size ≤ ((0 : Int32)).toNatClampNeg) := inb_of S6 ⟨by decide, by decide⟩
  have hat6 : cl6.slots[((0 : Int32)).toNatClampNeg]? = some (.int p) := Ha6.at hin6 (rfl)
  obtain ⟨fs, hr, hrun, hended, hW, hsame⟩ := X4.leave (v := some (.int p)) (fun h => by rw [Bd.returns] at h; cases h)
  refine ⟨_, _, pre0 _ ?_, hrun, hended, _, _, rfl, ?_, ⟨_, rfl⟩, hW, hsame.mono (by decide) (by decide)⟩
  · show SS pP eE belowS s₁ (mkF mM 0 #[.val (.ref a1)] []) _
    refine XS.aloadN X0.here hx rfl (hb hby d_prog_20_method_5_0) rfl rfl ?_
    show SS pP eE belowS s₁ (mkF mM 1 #[.val (.ref a1)] [(.ref a1)]) _
    refine st1 _ ?_
    show SS pP eE belowS T1 (mkF mM 4 #[.val (.ref a1)] [(.ref w)]) _
    refine X1.arraylength hx (by rw [e1]; exact Ar2.1) (State.isArrayOf_alike hZ.alike Ar2.2.1) (g := (mkF mM 4 #[.val (.ref a1)] [(.ref w)])) rfl rfl (hb hby d_prog_20_method_5_4) _ ?_
    rw [len_of S2 Ng2]
    show SS pP eE belowS T1 (mkF mM 5 #[.val (.ref a1)] [(.int (1 : Int32))]) _
    refine XS.ifYes X1.here hx rfl (pc0 := 5) (pc' := 12) rfl (hb hby d_prog_20_method_5_5) rfl ((if0 _ _).trans (feq (by decide : ¬ ((1 : Int32) = (0 : Int32)))).2) (by decide) (by decide) ?_
    show SS pP eE belowS T1 (mkF mM 12 #[.val (.ref a1)] []) _
    refine XS.aloadN X1.here hx rfl (hb hby d_prog_20_method_5_12) rfl rfl ?_
    show SS pP eE belowS T1 (mkF mM 13 #[.val (.ref a1)] [(.ref a1)]) _
    refine st3 _ ?_
    show SS pP eE belowS T3 (mkF mM 16 #[.val (.ref a1)] [(.ref w)]) _
    refine XS.aloadN X3.here hx rfl (hb hby d_prog_20_method_5_16) rfl rfl ?_
    show SS pP eE belowS T3 (mkF mM 17 #[.val (.ref a1)] [(.ref a1), (.ref w)]) _
    refine st4 _ ?_
    show SS pP eE belowS T4 (mkF mM 20 #[.val (.ref a1)] [(.ref w), (.ref w)]) _
    refine X4.arraylength hx (by rw [e4]; exact Ar5.1) (State.isArrayOf_alike hZ.alike Ar5.2.1) (g := (mkF mM 20 #[.val (.ref a1)] [(.ref w), (.ref w)])) rfl rfl (hb hby d_prog_20_method_5_20) _ ?_
    rw [len_of S5 Ng5]
    show SS pP eE belowS T4 (mkF mM 21 #[.val (.ref a1)] [(.int (1 : Int32)), (.ref w)]) _
    refine XS.iconst X4.here hx rfl (hb hby d_prog_20_method_5_21) ?_
    show SS pP eE belowS T4 (mkF mM 22 #[.val (.ref a1)] [(.int (1 : Int32)), (.int (1 : Int32)), (.ref w)]) _
    refine XS.isub X4.here hx rfl (hb hby d_prog_20_method_5_22) rfl ?_
    show SS pP eE belowS T4 (mkF mM 23 #[.val (.ref a1)] [(.int (0 : Int32)), (.ref w)]) _
    refine X4.iaload hx (j := (0 : Int32)) (v := (.int p)) (by rw [e4]; exact Ar6.1) (State.isArrayOf_alike hZ.alike Ar6.2.1) Ar6.2.2 hin6 hat6 (g := (mkF mM 23 #[.val (.ref a1)] [(.int (0 : Int32)), (.ref w)])) rfl rfl (hb hby d_prog_20_method_5_23) _ ?_
    show SS pP eE belowS T4 (mkF mM 24 #[.val (.ref a1)] [(.int p)]) _
    exact retI X4 hx Bd.returns (hb hby d_prog_20_method_5_24) hr
  · show Q_highest Z a1 w k p h0 n0 _ T4.heap _
    rw [e4]
    exact ⟨rfl, N0, rfl⟩
theorem d_prog_20_method_7_0 : decode prog_20_method_7_code 0 = .ok (.aload_n 0, 1) := by decide +kernel
theorem d_prog_20_method_7_1 : decode prog_20_method_7_code 1 = .ok (.getfield 7, 3) := by decide +kernel
theorem d_prog_20_method_7_4 : decode prog_20_method_7_code 4 = .ok (.iload_n 1, 1) := by decide +kernel
theorem d_prog_20_method_7_5 : decode prog_20_method_7_code 5 = .ok (.invokestatic 16, 3) := by decide +kernel
theorem d_prog_20_method_7_8 : decode prog_20_method_7_code 8 = .ok (.istore_n 2, 1) := by decide +kernel
theorem d_prog_20_method_7_9 : decode prog_20_method_7_code 9 = .ok (.aload_n 0, 1) := by decide +kernel
theorem d_prog_20_method_7_10 : decode prog_20_method_7_code 10 = .ok (.astore_n 3, 1) := by decide +kernel
theorem d_prog_20_method_7_11 : decode prog_20_method_7_code 11 = .ok (.iload_n 2, 1) := by decide +kernel
theorem d_prog_20_method_7_12 : decode prog_20_method_7_code 12 = .ok (.ifCond .lt 54, 3) := by decide +kernel
theorem d_prog_20_method_7_15 : decode prog_20_method_7_code 15 = .ok (.aload_n 0, 1) := by decide +kernel
theorem d_prog_20_method_7_16 : decode prog_20_method_7_code 16 = .ok (.getfield 7, 3) := by decide +kernel
theorem d_prog_20_method_7_19 : decode prog_20_method_7_code 19 = .ok (.arraylength, 1) := by decide +kernel
theorem d_prog_20_method_7_20 : decode prog_20_method_7_code 20 = .ok (.iconst 1, 1) := by decide +kernel
theorem d_prog_20_method_7_21 : decode prog_20_method_7_code 21 = .ok (.isub, 1) := by decide +kernel
theorem d_prog_20_method_7_22 : decode prog_20_method_7_code 22 = .ok (.newarray .int, 2) := by decide +kernel
theorem d_prog_20_method_7_24 : decode prog_20_method_7_code 24 = .ok (.astore 4, 2) := by decide +kernel
theorem d_prog_20_method_7_26 : decode prog_20_method_7_code 26 = .ok (.aload_n 0, 1) := by decide +kernel
theorem d_prog_20_method_7_27 : decode prog_20_method_7_code 27 = .ok (.getfield 7, 3) := by decide +kernel
theorem d_prog_20_method_7_30 : decode prog_20_method_7_code 30 = .ok (.iconst 0, 1) := by decide +kernel
theorem d_prog_20_method_7_31 : decode prog_20_method_7_code 31 = .ok (.aload 4, 2) := by decide +kernel
theorem d_prog_20_method_7_33 : decode prog_20_method_7_code 33 = .ok (.iconst 0, 1) := by decide +kernel
theorem d_prog_20_method_7_34 : decode prog_20_method_7_code 34 = .ok (.iload_n 2, 1) := by decide +kernel
theorem d_prog_20_method_7_35 : decode prog_20_method_7_code 35 = .ok (.invokestatic 26, 3) := by decide +kernel
theorem d_prog_20_method_7_38 : decode prog_20_method_7_code 38 = .ok (.aload_n 0, 1) := by decide +kernel
theorem d_prog_20_method_7_39 : decode prog_20_method_7_code 39 = .ok (.getfield 7, 3) := by decide +kernel
theorem d_prog_20_method_7_42 : decode prog_20_method_7_code 42 = .ok (.iload_n 2, 1) := by decide +kernel
theorem d_prog_20_method_7_43 : decode prog_20_method_7_code 43 = .ok (.iconst 1, 1) := by decide +kernel
theorem d_prog_20_method_7_44 : decode prog_20_method_7_code 44 = .ok (.iadd, 1) := by decide +kernel
theorem d_prog_20_method_7_45 : decode prog_20_method_7_code 45 = .ok (.aload 4, 2) := by decide +kernel
theorem d_prog_20_method_7_47 : decode prog_20_method_7_code 47 = .ok (.iload_n 2, 1) := by decide +kernel
theorem d_prog_20_method_7_48 : decode prog_20_method_7_code 48 = .ok (.aload 4, 2) := by decide +kernel
theorem d_prog_20_method_7_50 : decode prog_20_method_7_code 50 = .ok (.arraylength, 1) := by decide +kernel
theorem d_prog_20_method_7_51 : decode prog_20_method_7_code 51 = .ok (.iload_n 2, 1) := by decide +kernel
theorem d_prog_20_method_7_52 : decode prog_20_method_7_code 52 = .ok (.isub, 1) := by decide +kernel
theorem d_prog_20_method_7_53 : decode prog_20_method_7_code 53 = .ok (.invokestatic 26, 3) := by decide +kernel
theorem d_prog_20_method_7_56 : decode prog_20_method_7_code 56 = .ok (.new 8, 3) := by decide +kernel
theorem d_prog_20_method_7_59 : decode prog_20_method_7_code 59 = .ok (.dup, 1) := by decide +kernel
theorem d_prog_20_method_7_60 : decode prog_20_method_7_code 60 = .ok (.aload 4, 2) := by decide +kernel
theorem d_prog_20_method_7_62 : decode prog_20_method_7_code 62 = .ok (.invokespecial 13, 3) := by decide +kernel
theorem d_prog_20_method_7_65 : decode prog_20_method_7_code 65 = .ok (.astore_n 3, 1) := by decide +kernel
theorem d_prog_20_method_7_66 : decode prog_20_method_7_code 66 = .ok (.aload_n 3, 1) := by decide +kernel
theorem d_prog_20_method_7_67 : decode prog_20_method_7_code 67 = .ok (.areturn, 1) := by decide +kernel
def Q_without (Z : State) (a1 : Addr) (w : Addr) (k : ClassId) (p : Int32) (h0 : Heap) (n0 : Nat) (xv : Option Value) (xh : Heap) (xL : List Loc) : Prop := ∃ b : Addr, ∃ v2 : Addr, ∃ k2 : ClassId, xv = some (.ref b) ∧ Fr n0 xL ∧ Keep h0 xh [] ∧ Exa Z xh b "com/example/subsumption/subsumption/DependencySet" ∧ Fld Z xh b "com/example/subsumption/subsumption/DependencySet" "levels" "[I" (.ref v2) ∧ Arv Z xh v2 k2 .int (0 : Int32) [] (.int (0 : Int32)) ∧ @LE.le Nat _ h0.size b ∧ @LE.le Nat _ h0.size v2
abbrev Lc_without_0 (a1 : Addr) (p : Int32) : Array Slot := #[.val (.ref a1), .val (.int p), .val (.int (0 : Int32)), .unset, .unset]
abbrev Lc_without_1 (a1 : Addr) (p : Int32) : Array Slot := #[.val (.ref a1), .val (.int p), .val (.int (0 : Int32)), .val (.ref a1), .unset]
abbrev Lc_without_2 (a1 : Addr) (p : Int32) (b5 : Addr) : Array Slot := #[.val (.ref a1), .val (.int p), .val (.int (0 : Int32)), .val (.ref a1), .val (.ref b5)]
abbrev Lc_without_3 (a1 : Addr) (p : Int32) (b18 : Addr) (b5 : Addr) : Array Slot := #[.val (.ref a1), .val (.int p), .val (.int (0 : Int32)), .val (.ref b18), .val (.ref b5)]
theorem ef_without (mM : MethodId) (a1 : Addr) (w : Addr) (k : ClassId) (p : Int32) : entryFrame mM #[(.ref a1), (.int p)] 5 = mkF mM 0 #[.val (.ref a1), .val (.int p), .unset, .unset, .unset] [] := by first | (simp [entryFrame, mkF, argsToLocals, Value.category]; done) | rfl
set_option maxRecDepth 65536 in
set_option maxHeartbeats 40000000 in
theorem rm_without (l : Launch) (Z : State) (a0 : Array Value) (hw : ∀ d ∈ tables_1, d.before a0 Z = true) (ws : List Jvm.Cond) (a1 : Addr) (w : Addr) (k : ClassId) (p : Int32) (h0 : Heap) (n0 : Nat) (Z0 : n0 ≤ h0.size) (F_levels_a1 : Fld Z h0 a1 "com/example/subsumption/subsumption/DependencySet" "levels" "[I" (.ref w)) (V_w : Arv Z h0 w k .int (1 : Int32) [(.int p)] (.int (0 : Int32))) :
    MetFree l (⟨"com/example/subsumption/subsumption/DependencySet", "without", "(I)Lcom/example/subsumption/subsumption/DependencySet;"⟩ : MethodName) (head1 (Jvm.Cond.code (⟨"com/example/subsumption/subsumption/DependencySet", "without", "(I)Lcom/example/subsumption/subsumption/DependencySet;"⟩ : MethodName) prog_20_method_7_code 5 (some (.object "com/example/subsumption/subsumption/DependencySet")) :: ws) ({ frames := 2, cells := 2, slots := 1, locals := 32 } : Room)) (fun xa xU => xa = #[(.ref a1), (.int p)] ∧ Z.Warmed39 xU.vm ∧ xU.heap = h0) (fun _ _ _ _ _ => True) (fun _ xU xo xU' => ∃ xv xL, xo = .returned xv ∧ Q_without Z a1 w k p h0 n0 xv xU'.heap xL ∧ FrameEnd xU xo xU' xL ({ frames := 2, cells := 2, slots := 1, locals := 32 } : Room).cells ({ frames := 2, cells := 2, slots := 1, locals := 32 } : Room).slots) := by
  refine MetFree.of_bodySF (plainFor_of_name pn_com_example_subsumption_subsumption_DependencySet) hisR ?_
  intro pP eE sS mM argS belowS methS cC s₁ Bd hml0 hP hK
  obtain ⟨rfl, hZ, hh⟩ := hP
  have hx := Bd.exec
  have hby := Bd.bytes
  have hml : cC.maxLocals = 5 := hml0
  have hown : sS.vm.findClass "com/example/subsumption/subsumption/DependencySet" = some mM.cls := findClass_of_methodNamed Bd.named
  have hnm := (name_of_methodNamed Bd.named Bd.method).1
  have X0 : Stand pP l eE ({ frames := 2, cells := 2, slots := 1, locals := 32 } : Room) sS mM #[(.ref a1), (.int p)] belowS methS cC s₁ [] 0 0 := Stand.of_body Bd
  have e0 : s₁.heap = h0 := by rw [← hh, Bd.state]; rfl
  have N0 := Fr.nil n0
  have pre0 : ∀ t', Steps pP.tables eE belowS (s₁.setTop (mkF mM 0 #[.val (.ref a1), .val (.int p), .unset, .unset, .unset] [])) t' → Steps pP.tables eE belowS (s₁.setTop (entryFrame mM #[(.ref a1), (.int p)] 5)) t' := fun t' kk' => castTop (ef_without mM a1 w k p) kk'
  obtain ⟨T1, X1, e1, st1⟩ := getF X0 hx hZ hown (host := "") (Or.inl (wi hw 13 rfl)) Via.refl e0 F_levels_a1 (g := (mkF mM 1 #[.val (.ref a1), .val (.int p), .unset, .unset, .unset] [(.ref a1)])) rfl rfl (hb hby d_prog_20_method_7_1)
  obtain ⟨_, _, ⟨T2, L2, k2, n2⟩, -, X2, ⟨Lc2, hQ2, l2, y2, z2⟩, st2⟩ := Jvm.LawKit.callS X1 hx (y := (⟨"java/util/Arrays", "binarySearch", "([II)I"⟩ : MethodName)) hown (mvT hZ (wi hw 25 rfl)) (mvT hZ (wi hw 26 rfl)) (mvT hZ (wi hw 27 rfl)) (mvT hZ (wi hw 28 rfl)) (by decide) (backOf (W := 0) (rm_bs_eq l Z a0 hw [] w k p h0 n0 (by omega) V_w) hZ (wi hw 28 rfl) (wi hw 27 rfl) (by decide) (by decide)) (g := (mkF mM 5 #[.val (.ref a1), .val (.int p), .unset, .unset, .unset] [(.int p), (.ref w)])) rfl (by rw [hml]; rfl) (argsL := [(.ref w), (.int p)]) (rest := []) (lenOf pd_5 rfl) rfl (by show 2 * 0 + _ ≤ _; exact Nat.le_of_eq rfl) (hb hby d_prog_20_method_7_5) (fun _ _ => ⟨rfl, e1, Nat.le_of_ble_eq_true rfl, Nat.le_of_ble_eq_true rfl⟩)
  dsimp only [Pt.U, Pt.locs, Pt.cells, Pt.slots] at X2 l2 y2 z2 st2 hQ2
  subst l2 y2 z2
  obtain ⟨h2, e2⟩ : ∃ z, T2.heap = z := ⟨_, rfl⟩
  rw [e2] at hQ2
  obtain ⟨rfl, N2q, eq2⟩ := hQ2
  rw [eq2] at e2
  have N2 := Fr.app N0 N2q
  obtain ⟨T3, X3, e3, st3⟩ := getF X2 hx hZ hown (host := "") (Or.inl (wi hw 13 rfl)) Via.refl e2 F_levels_a1 (g := (mkF mM 16 (Lc_without_1 a1 p) [(.ref a1)])) rfl rfl (hb hby d_prog_20_method_7_16)
  obtain ⟨cl4, Ar4, q4, S4, Ng4, Ha4, Ga4⟩ := id V_w
  obtain ⟨T5, h5, k5, X5, e5, E5, A5, st5⟩ := newP X3 hx hZ (wi hw 6 rfl) e3 (g := (mkF mM 22 (Lc_without_1 a1 p) [(.int (0 : Int32))])) rfl (hb hby d_prog_20_method_7_22) rfl (by decide) (cap := 0) (by decide) (by decide) (by decide) (by decide)
  obtain ⟨b5, g5⟩ : ∃ z : Nat, z = h0.size := ⟨_, rfl⟩
  rw [← g5] at A5 st5
  have Sz1 : h0.size ≤ h5.size := E5.1
  have V_b5 : Arv Z h5 b5 k5 .int (0 : Int32) [] (.int (0 : Int32)) := (Arv.new A5 (by decide)).pad (pad_rep [] (.int (0 : Int32)) 0)
  have c6_F_levels_a1 : Fld Z h5 a1 "com/example/subsumption/subsumption/DependencySet" "levels" "[I" (.ref w) := Fld.ext E5 F_levels_a1
  obtain ⟨T7, X7, e7, st7⟩ := getF X5 hx hZ hown (host := "") (Or.inl (wi hw 13 rfl)) Via.refl e5 c6_F_levels_a1 (g := (mkF mM 27 (Lc_without_2 a1 p b5) [(.ref a1)])) rfl rfl (hb hby d_prog_20_method_7_27)
  have c8_V_w : Arv Z h5 w k .int (1 : Int32) [(.int p)] (.int (0 : Int32)) := V_w.ext E5
  have ge9_b5 : @LE.le Nat _ n0 b5 := by omega
  obtain ⟨T10, h10, L10, X10, e10, N10, Kc10, Vc10, st10⟩ := cpA X7 hx hZ hown (wi hw 42 rfl) (wi hw 45 rfl) (wi hw 43 rfl) (wi hw 44 rfl) e7 c8_V_w V_b5 (Or.inl ⟨rfl, rfl⟩) (sp := (0 : Int32)) (dp := (0 : Int32)) (nn := (0 : Int32)) (us := []) (by decide) (by decide) (by decide) (by decide) (by decide) (by first | rfl | decide) (by decide) N2 ge9_b5 (g := (mkF mM 35 (Lc_without_2 a1 p b5) [(.int (0 : Int32)), (.int (0 : Int32)), (.ref b5), (.int (0 : Int32)), (.ref w)])) rfl (by rw [hml]; rfl) rfl (hb hby d_prog_20_method_7_35) (by decide) (W := 0) (by show 2 * 0 + _ ≤ _; exact Nat.le_of_eq rfl) (by decide)
  have Sz2 : h5.size ≤ h10.size := Kc10.1
  have Vd10 : Arv Z h10 b5 k5 .int (0 : Int32) [] (.int (0 : Int32)) := Vc10
  have lt_a1 : @LT.lt Nat _ a1 h0.size := F_levels_a1.lt
  have lt_b5 : @LT.lt Nat _ b5 h10.size := Vd10.lt
  have ne_a1_b5_11 : a1 ≠ b5 := (by omega : @Ne Nat a1 b5)
  have c12_F_levels_a1 : Fld Z h10 a1 "com/example/subsumption/subsumption/DependencySet" "levels" "[I" (.ref w) := c6_F_levels_a1.keep Kc10 (ninS ne_a1_b5_11 nin0)
  obtain ⟨T13, X13, e13, st13⟩ := getF X10 hx hZ hown (host := "") (Or.inl (wi hw 13 rfl)) Via.refl e10 c12_F_levels_a1 (g := (mkF mM 39 (Lc_without_2 a1 p b5) [(.ref a1)])) rfl rfl (hb hby d_prog_20_method_7_39)
  obtain ⟨cl14, Ar14, q14, S14, Ng14, Ha14, Ga14⟩ := id Vd10
  have lt_w : @LT.lt Nat _ w h0.size := V_w.lt
  have ne_w_b5_15 : w ≠ b5 := (by omega : @Ne Nat w b5)
  have c16_V_w : Arv Z h10 w k .int (1 : Int32) [(.int p)] (.int (0 : Int32)) := c8_V_w.keep Kc10 (ninS ne_w_b5_15 nin0)
  obtain ⟨T17, h17, L17, X17, e17, N17, Kc17, Vc17, st17⟩ := cpA X13 hx hZ hown (wi hw 42 rfl) (wi hw 45 rfl) (wi hw 43 rfl) (wi hw 44 rfl) e13 c16_V_w Vd10 (Or.inl ⟨rfl, rfl⟩) (sp := (1 : Int32)) (dp := (0 : Int32)) (nn := (0 : Int32)) (us := []) (by decide) (by decide) (by decide) (by decide) (by decide) (by first | rfl | decide) (by decide) N10 ge9_b5 (g := (mkF mM 53 (Lc_without_2 a1 p b5) [(.int (0 : Int32)), (.int (0 : Int32)), (.ref b5), (.int (1 : Int32)), (.ref w)])) rfl (by rw [hml]; rfl) rfl (hb hby d_prog_20_method_7_53) (by decide) (W := 0) (by show 2 * 0 + _ ≤ _; exact Nat.le_of_eq rfl) (by decide)
  have Sz3 : h10.size ≤ h17.size := Kc17.1
  have Vd17 : Arv Z h17 b5 k5 .int (0 : Int32) [] (.int (0 : Int32)) := Vc17
  obtain ⟨T18, h18, X18, e18, E18, A18, D18, B18, st18⟩ := newO X17 hx hZ hown (wi hw 4 rfl) (wi hw 5 rfl) (wi hw 2 rfl) e17 (g := (mkF mM 56 (Lc_without_2 a1 p b5) [])) rfl (hb hby d_prog_20_method_7_56) (by decide) (by decide)
  obtain ⟨b18, g18⟩ : ∃ z : Nat, z = h17.size := ⟨_, rfl⟩
  rw [← g18] at A18 D18 B18 st18
  have Sz4 : h17.size ≤ h18.size := E18.1
  have F18_levels : Fld Z h18 b18 "com/example/subsumption/subsumption/DependencySet" "levels" "[I" .null := D18 (Or.inr (wi hw 14 rfl)) (ty := (.array .int)) (by decide)
  have ge20_b18 : @LE.le Nat _ n0 b18 := by omega
  obtain ⟨_, _, ⟨T19, L19, k19, n19⟩, -, X19, ⟨Lc19, hQ19, l19, y19, z19⟩, st19⟩ := X18.specialBack hx (y := (⟨"com/example/subsumption/subsumption/DependencySet", "<init>", "([I)V"⟩ : MethodName)) rfl hown (mvT hZ (wi hw 7 rfl)) (mvT hZ (wi hw 8 rfl)) (mvT hZ (wi hw 9 rfl)) (by decide) (backOf (W := 1) (rm_init l Z a0 hw [] b18 b5 .null h18 n0 (by omega) A18 F18_levels ge20_b18) hZ (wi hw 9 rfl) (wi hw 2 rfl) (by decide) (by decide)) (g := (mkF mM 62 (Lc_without_2 a1 p b5) [(.ref b5), (.ref b18), (.ref b18)])) rfl (by rw [hml]; rfl) (Steps.refl _) (a := b18) (argsL := [(.ref b5)]) (rest := [(.ref b18)]) (lenOf pd_1 rfl) rfl (by show 2 * 0 + _ ≤ _; exact Nat.le_of_eq rfl) (hb hby d_prog_20_method_7_62) (fun _ _ => ⟨rfl, e18, Nat.le_of_ble_eq_true rfl, Nat.le_of_ble_eq_true rfl⟩)
  dsimp only [Pt.U, Pt.locs, Pt.cells, Pt.slots] at X19 l19 y19 z19 st19 hQ19
  subst l19 y19 z19
  obtain ⟨h19, e19⟩ : ∃ z, T19.heap = z := ⟨_, rfl⟩
  rw [e19] at hQ19
  obtain ⟨rfl, N19q, Kp19, p19_E_a1, p19_F_levels_a1⟩ := hQ19
  have Sz5 : h18.size ≤ h19.size := Kp19.1
  have N19 := Fr.app N17 N19q
  have c21_V_b5 : Arv Z h18 b5 k5 .int (0 : Int32) [] (.int (0 : Int32)) := Vd17.ext E18
  have lt_b18 : @LT.lt Nat _ b18 h19.size := p19_E_a1.lt
  have ne_b5_b18_22 : b5 ≠ b18 := (by omega : @Ne Nat b5 b18)
  have c23_V_b5 : Arv Z h19 b5 k5 .int (0 : Int32) [] (.int (0 : Int32)) := c21_V_b5.keep Kp19 (ninS ne_b5_b18_22 nin0)
  have K24 : Keep h0 h5 [] := (Keep.refl h0 []).ext E5
  have K25 : Keep h0 h10 [] := K24.trans Kc10 (allS (Or.inr (by omega : @LE.le Nat _ h0.size b5)) all0)
  have K26 : Keep h0 h17 [] := K25.trans Kc17 (allS (Or.inr (by omega : @LE.le Nat _ h0.size b5)) all0)
  have K27 : Keep h0 h18 [] := K26.ext E18
  have K28 : Keep h0 h19 [] := K27.trans Kp19 (allS (Or.inr (by omega : @LE.le Nat _ h0.size b18)) all0)
  obtain ⟨fs, hr, hrun, hended, hW, hsame⟩ := X19.leave (v := some (.ref b18)) (fun h => by rw [Bd.returns] at h; cases h)
  refine ⟨_, _, pre0 _ ?_, hrun, hended, _, _, rfl, ?_, ⟨_, rfl⟩, hW, hsame.mono (by decide) (by decide)⟩
  · show SS pP eE belowS s₁ (mkF mM 0 #[.val (.ref a1), .val (.int p), .unset, .unset, .unset] []) _
    refine XS.aloadN X0.here hx rfl (hb hby d_prog_20_method_7_0) rfl rfl ?_
    show SS pP eE belowS s₁ (mkF mM 1 #[.val (.ref a1), .val (.int p), .unset, .unset, .unset] [(.ref a1)]) _
    refine st1 _ ?_
    show SS pP eE belowS T1 (mkF mM 4 #[.val (.ref a1), .val (.int p), .unset, .unset, .unset] [(.ref w)]) _
    refine XS.iloadN X1.here hx rfl (hb hby d_prog_20_method_7_4) rfl ?_
    show SS pP eE belowS T1 (mkF mM 5 #[.val (.ref a1), .val (.int p), .unset, .unset, .unset] [(.int p), (.ref w)]) _
    refine st2 _ ?_
    show SS pP eE belowS T2 (mkF mM 8 #[.val (.ref a1), .val (.int p), .unset, .unset, .unset] [(.int (0 : Int32))]) _
    refine XS.istoreN X2.here hx rfl (hb hby d_prog_20_method_7_8) rfl (l' := (Lc_without_0 a1 p)) rfl ?_
    show SS pP eE belowS T2 (mkF mM 9 (Lc_without_0 a1 p) []) _
    refine XS.aloadN X2.here hx rfl (hb hby d_prog_20_method_7_9) rfl rfl ?_
    show SS pP eE belowS T2 (mkF mM 10 (Lc_without_0 a1 p) [(.ref a1)]) _
    refine XS.astoreN X2.here hx rfl (hb hby d_prog_20_method_7_10) rfl rfl (l' := (Lc_without_1 a1 p)) rfl ?_
    show SS pP eE belowS T2 (mkF mM 11 (Lc_without_1 a1 p) []) _
    refine XS.iloadN X2.here hx rfl (hb hby d_prog_20_method_7_11) rfl ?_
    show SS pP eE belowS T2 (mkF mM 12 (Lc_without_1 a1 p) [(.int (0 : Int32))]) _
    refine XS.ifNo X2.here hx rfl (hb hby d_prog_20_method_7_12) rfl ((if0 _ _).trans (flt (by decide : ¬ ((0 : Int32) < (0 : Int32)))).1) ?_
    show SS pP eE belowS T2 (mkF mM 15 (Lc_without_1 a1 p) []) _
    refine XS.aloadN X2.here hx rfl (hb hby d_prog_20_method_7_15) rfl rfl ?_
    show SS pP eE belowS T2 (mkF mM 16 (Lc_without_1 a1 p) [(.ref a1)]) _
    refine st3 _ ?_
    show SS pP eE belowS T3 (mkF mM 19 (Lc_without_1 a1 p) [(.ref w)]) _
    refine X3.arraylength hx (by rw [e3]; exact Ar4.1) (State.isArrayOf_alike hZ.alike Ar4.2.1) (g := (mkF mM 19 (Lc_without_1 a1 p) [(.ref w)])) rfl rfl (hb hby d_prog_20_method_7_19) _ ?_
    rw [len_of S4 Ng4]
    show SS pP eE belowS T3 (mkF mM 20 (Lc_without_1 a1 p) [(.int (1 : Int32))]) _
    refine XS.iconst X3.here hx rfl (hb hby d_prog_20_method_7_20) ?_
    show SS pP eE belowS T3 (mkF mM 21 (Lc_without_1 a1 p) [(.int (1 : Int32)), (.int (1 : Int32))]) _
    refine XS.isub X3.here hx rfl (hb hby d_prog_20_method_7_21) rfl ?_
    show SS pP eE belowS T3 (mkF mM 22 (Lc_without_1 a1 p) [(.int (0 : Int32))]) _
    refine st5 _ ?_
    show SS pP eE belowS T5 (mkF mM 24 (Lc_without_1 a1 p) [(.ref b5)]) _
    refine XS.astore X5.here hx rfl (hb hby d_prog_20_method_7_24) rfl rfl (l' := (Lc_without_2 a1 p b5)) rfl ?_
    show SS pP eE belowS T5 (mkF mM 26 (Lc_without_2 a1 p b5) []) _
    refine XS.aloadN X5.here hx rfl (hb hby d_prog_20_method_7_26) rfl rfl ?_
    show SS pP eE belowS T5 (mkF mM 27 (Lc_without_2 a1 p b5) [(.ref a1)]) _
    refine st7 _ ?_
    show SS pP eE belowS T7 (mkF mM 30 (Lc_without_2 a1 p b5) [(.ref w)]) _
    refine XS.iconst X7.here hx rfl (hb hby d_prog_20_method_7_30) ?_
    show SS pP eE belowS T7 (mkF mM 31 (Lc_without_2 a1 p b5) [(.int (0 : Int32)), (.ref w)]) _
    refine XS.aload X7.here hx rfl (hb hby d_prog_20_method_7_31) rfl rfl ?_
    show SS pP eE belowS T7 (mkF mM 33 (Lc_without_2 a1 p b5) [(.ref b5), (.int (0 : Int32)), (.ref w)]) _
    refine XS.iconst X7.here hx rfl (hb hby d_prog_20_method_7_33) ?_
    show SS pP eE belowS T7 (mkF mM 34 (Lc_without_2 a1 p b5) [(.int (0 : Int32)), (.ref b5), (.int (0 : Int32)), (.ref w)]) _
    refine XS.iloadN X7.here hx rfl (hb hby d_prog_20_method_7_34) rfl ?_
    show SS pP eE belowS T7 (mkF mM 35 (Lc_without_2 a1 p b5) [(.int (0 : Int32)), (.int (0 : Int32)), (.ref b5), (.int (0 : Int32)), (.ref w)]) _
    refine st10 _ ?_
    show SS pP eE belowS T10 (mkF mM 38 (Lc_without_2 a1 p b5) []) _
    refine XS.aloadN X10.here hx rfl (hb hby d_prog_20_method_7_38) rfl rfl ?_
    show SS pP eE belowS T10 (mkF mM 39 (Lc_without_2 a1 p b5) [(.ref a1)]) _
    refine st13 _ ?_
    show SS pP eE belowS T13 (mkF mM 42 (Lc_without_2 a1 p b5) [(.ref w)]) _
    refine XS.iloadN X13.here hx rfl (hb hby d_prog_20_method_7_42) rfl ?_
    show SS pP eE belowS T13 (mkF mM 43 (Lc_without_2 a1 p b5) [(.int (0 : Int32)), (.ref w)]) _
    refine XS.iconst X13.here hx rfl (hb hby d_prog_20_method_7_43) ?_
    show SS pP eE belowS T13 (mkF mM 44 (Lc_without_2 a1 p b5) [(.int (1 : Int32)), (.int (0 : Int32)), (.ref w)]) _
    refine XS.iadd X13.here hx rfl (hb hby d_prog_20_method_7_44) rfl ?_
    show SS pP eE belowS T13 (mkF mM 45 (Lc_without_2 a1 p b5) [(.int (1 : Int32)), (.ref w)]) _
    refine XS.aload X13.here hx rfl (hb hby d_prog_20_method_7_45) rfl rfl ?_
    show SS pP eE belowS T13 (mkF mM 47 (Lc_without_2 a1 p b5) [(.ref b5), (.int (1 : Int32)), (.ref w)]) _
    refine XS.iloadN X13.here hx rfl (hb hby d_prog_20_method_7_47) rfl ?_
    show SS pP eE belowS T13 (mkF mM 48 (Lc_without_2 a1 p b5) [(.int (0 : Int32)), (.ref b5), (.int (1 : Int32)), (.ref w)]) _
    refine XS.aload X13.here hx rfl (hb hby d_prog_20_method_7_48) rfl rfl ?_
    show SS pP eE belowS T13 (mkF mM 50 (Lc_without_2 a1 p b5) [(.ref b5), (.int (0 : Int32)), (.ref b5), (.int (1 : Int32)), (.ref w)]) _
    refine X13.arraylength hx (by rw [e13]; exact Ar14.1) (State.isArrayOf_alike hZ.alike Ar14.2.1) (g := (mkF mM 50 (Lc_without_2 a1 p b5) [(.ref b5), (.int (0 : Int32)), (.ref b5), (.int (1 : Int32)), (.ref w)])) rfl rfl (hb hby d_prog_20_method_7_50) _ ?_
    rw [len_of S14 Ng14]
    show SS pP eE belowS T13 (mkF mM 51 (Lc_without_2 a1 p b5) [(.int (0 : Int32)), (.int (0 : Int32)), (.ref b5), (.int (1 : Int32)), (.ref w)]) _
    refine XS.iloadN X13.here hx rfl (hb hby d_prog_20_method_7_51) rfl ?_
    show SS pP eE belowS T13 (mkF mM 52 (Lc_without_2 a1 p b5) [(.int (0 : Int32)), (.int (0 : Int32)), (.int (0 : Int32)), (.ref b5), (.int (1 : Int32)), (.ref w)]) _
    refine XS.isub X13.here hx rfl (hb hby d_prog_20_method_7_52) rfl ?_
    show SS pP eE belowS T13 (mkF mM 53 (Lc_without_2 a1 p b5) [(.int (0 : Int32)), (.int (0 : Int32)), (.ref b5), (.int (1 : Int32)), (.ref w)]) _
    refine st17 _ ?_
    show SS pP eE belowS T17 (mkF mM 56 (Lc_without_2 a1 p b5) []) _
    refine st18 _ ?_
    show SS pP eE belowS T18 (mkF mM 59 (Lc_without_2 a1 p b5) [(.ref b18)]) _
    refine XS.dup X18.here hx rfl (hb hby d_prog_20_method_7_59) rfl rfl ?_
    show SS pP eE belowS T18 (mkF mM 60 (Lc_without_2 a1 p b5) [(.ref b18), (.ref b18)]) _
    refine XS.aload X18.here hx rfl (hb hby d_prog_20_method_7_60) rfl rfl ?_
    show SS pP eE belowS T18 (mkF mM 62 (Lc_without_2 a1 p b5) [(.ref b5), (.ref b18), (.ref b18)]) _
    refine st19.trans ?_
    show SS pP eE belowS T19 (mkF mM 65 (Lc_without_2 a1 p b5) [(.ref b18)]) _
    refine XS.astoreN X19.here hx rfl (hb hby d_prog_20_method_7_65) rfl rfl (l' := (Lc_without_3 a1 p b18 b5)) rfl ?_
    show SS pP eE belowS T19 (mkF mM 66 (Lc_without_3 a1 p b18 b5) []) _
    refine XS.aloadN X19.here hx rfl (hb hby d_prog_20_method_7_66) rfl rfl ?_
    show SS pP eE belowS T19 (mkF mM 67 (Lc_without_3 a1 p b18 b5) [(.ref b18)]) _
    jvm_step X19.here [X19.here.top, hx, (hb hby d_prog_20_method_7_67), X19.method', Bd.returns, Value.isRef, FieldType.isReference]
    first | (intro acts; rw [hr _ acts rfl rfl rfl]) | rw [hr _ _ rfl rfl rfl]
    exact Steps.refl _
  · show Q_without Z a1 w k p h0 n0 _ T19.heap _
    rw [e19]
    exact ⟨b18, b5, k5, rfl, N19, K28, p19_E_a1, p19_F_levels_a1, c23_V_b5, (by omega), (by omega)⟩
def Q_law (n0 : Nat) (v : Option Value) (L : List Loc) : Prop := v = some (.int 1) ∧ Fr n0 L
theorem pd_0 : parseMethodDescriptor "(I)Lcom/example/subsumption/subsumption/DependencySet;" = some ⟨[.int], some (.object "com/example/subsumption/subsumption/DependencySet")⟩ := by decide +kernel
theorem pd_3 : parseMethodDescriptor "()Z" = some ⟨[], some .boolean⟩ := by decide +kernel
theorem pd_4 : parseMethodDescriptor "(I)Z" = some ⟨[.int], some .boolean⟩ := by decide +kernel
theorem pd_7 : parseMethodDescriptor "()I" = some ⟨[], some .int⟩ := by decide +kernel
theorem pn_com_example_subsumption_subsumption_DependencySetOfPinLaw : plainName "com/example/subsumption/subsumption/DependencySetOfPinLaw" = true := by first | (simp [plainName, overriddenIn]; done) | decide +kernel
abbrev Lc_law_eq_0 (p0 : Int32) : Array Slot := #[.val (.int p0), .val (.int p0), .unset, .unset, .unset, .unset, .unset, .unset]
abbrev Lc_law_eq_1 (p0 : Int32) (b_1 : Addr) : Array Slot := #[.val (.int p0), .val (.int p0), .val (.ref b_1), .unset, .unset, .unset, .unset, .unset]
abbrev Lc_law_eq_2 (p0 : Int32) (b_1 : Addr) : Array Slot := #[.val (.int p0), .val (.int p0), .val (.ref b_1), .val (.int (1 : Int32)), .unset, .unset, .unset, .unset]
abbrev Lc_law_eq_3 (p0 : Int32) (b_1 : Addr) : Array Slot := #[.val (.int p0), .val (.int p0), .val (.ref b_1), .val (.int (1 : Int32)), .val (.int (1 : Int32)), .unset, .unset, .unset]
abbrev Lc_law_eq_4 (p0 : Int32) (b_1 : Addr) : Array Slot := #[.val (.int p0), .val (.int p0), .val (.ref b_1), .val (.int (1 : Int32)), .val (.int (1 : Int32)), .val (.int (1 : Int32)), .unset, .unset]
abbrev Lc_law_eq_5 (p0 : Int32) (b_1 : Addr) : Array Slot := #[.val (.int p0), .val (.int p0), .val (.ref b_1), .val (.int (1 : Int32)), .val (.int (1 : Int32)), .val (.int (1 : Int32)), .val (.int (1 : Int32)), .unset]
abbrev Lc_law_eq_6 (p0 : Int32) (b_1 : Addr) : Array Slot := #[.val (.int p0), .val (.int p0), .val (.ref b_1), .val (.int (1 : Int32)), .val (.int (1 : Int32)), .val (.int (1 : Int32)), .val (.int (1 : Int32)), .val (.int (1 : Int32))]
theorem ef_law_eq (mM : MethodId) (p0 : Int32) : entryFrame mM #[(.int p0), (.int p0)] maxLocals = mkF mM 0 #[.val (.int p0), .val (.int p0), .unset, .unset, .unset, .unset, .unset, .unset] [] := by first | (simp [entryFrame, mkF, argsToLocals, Value.category, maxLocals]; done) | rfl
set_option maxRecDepth 65536 in
set_option maxHeartbeats 40000000 in
theorem rm_law_eq (l : Launch) (Z : State) (a0 : Array Value) (hw : ∀ d ∈ tables_1, d.before a0 Z = true) (ws : List Jvm.Cond) (p0 : Int32) (h0 : Heap) (n0 : Nat) (Z0 : n0 ≤ h0.size) :
    MetFree l x (head1 (Jvm.Cond.code x code maxLocals ret :: ws) room_1) (fun xa xU => xa = #[(.int p0), (.int p0)] ∧ Z.Warmed39 xU.vm ∧ xU.heap = h0) (fun _ _ _ _ _ => True) (fun _ xU xo xU' => ∃ xv xL, xo = .returned xv ∧ Q_law n0 xv xL ∧ FrameEnd xU xo xU' xL room_1.cells room_1.slots) := by
  refine MetFree.of_bodySF (plainFor_of_name pn_com_example_subsumption_subsumption_DependencySetOfPinLaw) hisR ?_
  intro pP eE sS mM argS belowS methS cC s₁ Bd hml0 hP hK
  obtain ⟨rfl, hZ, hh⟩ := hP
  have hx := Bd.exec
  have hby := Bd.bytes
  have hml : cC.maxLocals = 8 := hml0
  have hown : sS.vm.findClass "com/example/subsumption/subsumption/DependencySetOfPinLaw" = some mM.cls := findClass_of_methodNamed Bd.named
  have hnm := (name_of_methodNamed Bd.named Bd.method).1
  have X0 : Stand pP l eE room_1 sS mM #[(.int p0), (.int p0)] belowS methS cC s₁ [] 0 0 := Stand.of_body Bd
  have e0 : s₁.heap = h0 := by rw [← hh, Bd.state]; rfl
  have N0 := Fr.nil n0
  have pre0 : ∀ t', Steps pP.tables eE belowS (s₁.setTop (mkF mM 0 #[.val (.int p0), .val (.int p0), .unset, .unset, .unset, .unset, .unset, .unset] [])) t' → Steps pP.tables eE belowS (s₁.setTop (entryFrame mM #[(.int p0), (.int p0)] maxLocals)) t' := fun t' kk' => castTop (ef_law_eq mM p0) kk'
  obtain ⟨_, _, ⟨T1, L1, k1, n1⟩, -, X1, ⟨Lc1, hQ1, l1, y1, z1⟩, st1⟩ := Jvm.LawKit.callS X0 hx (y := (⟨"com/example/subsumption/subsumption/DependencySet", "of", "(I)Lcom/example/subsumption/subsumption/DependencySet;"⟩ : MethodName)) hown (mvT hZ (wi hw 0 rfl)) (mvT hZ (wi hw 1 rfl)) (mvT hZ (wi hw 2 rfl)) (mvT hZ (wi hw 3 rfl)) (by decide) (backOf (W := 0) (rm_of l Z a0 hw [] p0 h0 n0 (by omega) ) hZ (wi hw 3 rfl) (wi hw 2 rfl) (by decide) (by decide)) (g := (mkF mM 1 (Lc_law_eq_0 p0) [(.int p0)])) rfl (by rw [hml]; rfl) (argsL := [(.int p0)]) (rest := []) (lenOf pd_0 rfl) rfl (by show 2 * 0 + _ ≤ _; exact Nat.le_of_eq rfl) (hb hby at_1) (fun _ _ => ⟨rfl, e0, Nat.le_of_ble_eq_true rfl, Nat.le_of_ble_eq_true rfl⟩)
  dsimp only [Pt.U, Pt.locs, Pt.cells, Pt.slots] at X1 l1 y1 z1 st1 hQ1
  subst l1 y1 z1
  obtain ⟨h1, e1⟩ : ∃ z, T1.heap = z := ⟨_, rfl⟩
  rw [e1] at hQ1
  obtain ⟨b_1, w_1, k_1, rfl, N1q, Kp1, p1_E_b, p1_F_levels_b, p1_V_w, p1_gh_b, p1_gh_w⟩ := hQ1
  have Sz1 : h0.size ≤ h1.size := Kp1.1
  have N1 := Fr.app N0 N1q
  obtain ⟨cq2, kq2, q2a, q2b, q2c⟩ := isOf hZ e1 p1_E_b
  obtain ⟨_, _, ⟨T2, L2, k2, n2⟩, -, X2, ⟨Lc2, hQ2, l2, y2, z2⟩, st2⟩ := X1.virtualBack hx (y := (⟨"com/example/subsumption/subsumption/DependencySet", "isEmpty", "()Z"⟩ : MethodName)) (z := (⟨"com/example/subsumption/subsumption/DependencySet", "isEmpty", "()Z"⟩ : MethodName)) hown (mvT hZ (wi hw 15 rfl)) (mvT hZ (wi hw 16 rfl)) (notFace_of_selects (args := #[]) (mvT hZ (wi hw 18 rfl))) (mvT hZ (wi hw 18 rfl)) (mvT hZ (wi hw 17 rfl)) (by decide) (backOf (W := 0) (rm_isEmpty1 l Z a0 hw [] b_1 w_1 k_1 [(.int p0)] h1 n0 (by omega) p1_F_levels_b p1_V_w) hZ (wi hw 19 rfl) (wi hw 2 rfl) (by decide) (by decide)) q2a q2c (g := (mkF mM 6 (Lc_law_eq_1 p0 b_1) [(.ref b_1)])) rfl (by rw [hml]; rfl) (Steps.refl _) (argsL := []) (rest := []) (lenOf pd_3 rfl) rfl (by show 2 * 0 + _ ≤ _; exact Nat.le_of_eq rfl) (hb hby at_6) (fun _ _ => ⟨rfl, e1, Nat.le_of_ble_eq_true rfl, Nat.le_of_ble_eq_true rfl⟩)
  dsimp only [Pt.U, Pt.locs, Pt.cells, Pt.slots] at X2 l2 y2 z2 st2 hQ2
  subst l2 y2 z2
  obtain ⟨h2, e2⟩ : ∃ z, T2.heap = z := ⟨_, rfl⟩
  rw [e2] at hQ2
  obtain ⟨rfl, N2q, eq2⟩ := hQ2
  rw [eq2] at e2
  have N2 := Fr.app N1 N2q
  obtain ⟨cq3, kq3, q3a, q3b, q3c⟩ := isOf hZ e2 p1_E_b
  obtain ⟨_, _, ⟨T3, L3, k3, n3⟩, -, X3, ⟨Lc3, hQ3, l3, y3, z3⟩, st3⟩ := X2.virtualBack hx (y := (⟨"com/example/subsumption/subsumption/DependencySet", "contains", "(I)Z"⟩ : MethodName)) (z := (⟨"com/example/subsumption/subsumption/DependencySet", "contains", "(I)Z"⟩ : MethodName)) hown (mvT hZ (wi hw 20 rfl)) (mvT hZ (wi hw 21 rfl)) (notFace_of_selects (args := #[]) (mvT hZ (wi hw 23 rfl))) (mvT hZ (wi hw 23 rfl)) (mvT hZ (wi hw 22 rfl)) (by decide) (backOf (W := 0) (rm_contains_eq l Z a0 hw [] b_1 w_1 k_1 p0 h1 n0 (by omega) p1_F_levels_b p1_V_w) hZ (wi hw 24 rfl) (wi hw 2 rfl) (by decide) (by decide)) q3a q3c (g := (mkF mM 20 (Lc_law_eq_2 p0 b_1) [(.int p0), (.ref b_1)])) rfl (by rw [hml]; rfl) (Steps.refl _) (argsL := [(.int p0)]) (rest := []) (lenOf pd_4 rfl) rfl (by show 2 * 0 + _ ≤ _; exact Nat.le_of_eq rfl) (hb hby at_20) (fun _ _ => ⟨rfl, e2, Nat.le_of_ble_eq_true rfl, Nat.le_of_ble_eq_true rfl⟩)
  dsimp only [Pt.U, Pt.locs, Pt.cells, Pt.slots] at X3 l3 y3 z3 st3 hQ3
  subst l3 y3 z3
  obtain ⟨h3, e3⟩ : ∃ z, T3.heap = z := ⟨_, rfl⟩
  rw [e3] at hQ3
  obtain ⟨rfl, N3q, eq3⟩ := hQ3
  rw [eq3] at e3
  have N3 := Fr.app N2 N3q
  obtain ⟨cq4, kq4, q4a, q4b, q4c⟩ := isOf hZ e3 p1_E_b
  obtain ⟨_, _, ⟨T4, L4, k4, n4⟩, -, X4, ⟨Lc4, hQ4, l4, y4, z4⟩, st4⟩ := X3.virtualBack hx (y := (⟨"com/example/subsumption/subsumption/DependencySet", "highest", "()I"⟩ : MethodName)) (z := (⟨"com/example/subsumption/subsumption/DependencySet", "highest", "()I"⟩ : MethodName)) hown (mvT hZ (wi hw 32 rfl)) (mvT hZ (wi hw 33 rfl)) (notFace_of_selects (args := #[]) (mvT hZ (wi hw 35 rfl))) (mvT hZ (wi hw 35 rfl)) (mvT hZ (wi hw 34 rfl)) (by decide) (backOf (W := 0) (rm_highest l Z a0 hw [] b_1 w_1 k_1 p0 h1 n0 (by omega) p1_F_levels_b p1_V_w) hZ (wi hw 36 rfl) (wi hw 2 rfl) (by decide) (by decide)) q4a q4c (g := (mkF mM 26 (Lc_law_eq_3 p0 b_1) [(.ref b_1)])) rfl (by rw [hml]; rfl) (Steps.refl _) (argsL := []) (rest := []) (lenOf pd_7 rfl) rfl (by show 2 * 0 + _ ≤ _; exact Nat.le_of_eq rfl) (hb hby at_26) (fun _ _ => ⟨rfl, e3, Nat.le_of_ble_eq_true rfl, Nat.le_of_ble_eq_true rfl⟩)
  dsimp only [Pt.U, Pt.locs, Pt.cells, Pt.slots] at X4 l4 y4 z4 st4 hQ4
  subst l4 y4 z4
  obtain ⟨h4, e4⟩ : ∃ z, T4.heap = z := ⟨_, rfl⟩
  rw [e4] at hQ4
  obtain ⟨rfl, N4q, eq4⟩ := hQ4
  rw [eq4] at e4
  have N4 := Fr.app N3 N4q
  obtain ⟨cq5, kq5, q5a, q5b, q5c⟩ := isOf hZ e4 p1_E_b
  obtain ⟨_, _, ⟨T5, L5, k5, n5⟩, -, X5, ⟨Lc5, hQ5, l5, y5, z5⟩, st5⟩ := X4.virtualBack hx (y := (⟨"com/example/subsumption/subsumption/DependencySet", "without", "(I)Lcom/example/subsumption/subsumption/DependencySet;"⟩ : MethodName)) (z := (⟨"com/example/subsumption/subsumption/DependencySet", "without", "(I)Lcom/example/subsumption/subsumption/DependencySet;"⟩ : MethodName)) hown (mvT hZ (wi hw 37 rfl)) (mvT hZ (wi hw 38 rfl)) (notFace_of_selects (args := #[]) (mvT hZ (wi hw 40 rfl))) (mvT hZ (wi hw 40 rfl)) (mvT hZ (wi hw 39 rfl)) (by decide) (backOf (W := 0) (rm_without l Z a0 hw [] b_1 w_1 k_1 p0 h1 n0 (by omega) p1_F_levels_b p1_V_w) hZ (wi hw 41 rfl) (wi hw 2 rfl) (by decide) (by decide)) q5a q5c (g := (mkF mM 62 (Lc_law_eq_5 p0 b_1) [(.int p0), (.ref b_1)])) rfl (by rw [hml]; rfl) (Steps.refl _) (argsL := [(.int p0)]) (rest := []) (lenOf pd_0 rfl) rfl (by show 2 * 0 + _ ≤ _; exact Nat.le_of_eq rfl) (hb hby at_62) (fun _ _ => ⟨rfl, e4, Nat.le_of_ble_eq_true rfl, Nat.le_of_ble_eq_true rfl⟩)
  dsimp only [Pt.U, Pt.locs, Pt.cells, Pt.slots] at X5 l5 y5 z5 st5 hQ5
  subst l5 y5 z5
  obtain ⟨h5, e5⟩ : ∃ z, T5.heap = z := ⟨_, rfl⟩
  rw [e5] at hQ5
  obtain ⟨b_5, v2_5, k2_5, rfl, N5q, Kp5, p5_E_b, p5_F_levels_b, p5_V_v2, p5_gh_b, p5_gh_v2⟩ := hQ5
  have Sz2 : h1.size ≤ h5.size := Kp5.1
  have N5 := Fr.app N4 N5q
  obtain ⟨cq6, kq6, q6a, q6b, q6c⟩ := isOf hZ e5 p5_E_b
  obtain ⟨_, _, ⟨T6, L6, k6, n6⟩, -, X6, ⟨Lc6, hQ6, l6, y6, z6⟩, st6⟩ := X5.virtualBack hx (y := (⟨"com/example/subsumption/subsumption/DependencySet", "isEmpty", "()Z"⟩ : MethodName)) (z := (⟨"com/example/subsumption/subsumption/DependencySet", "isEmpty", "()Z"⟩ : MethodName)) hown (mvT hZ (wi hw 15 rfl)) (mvT hZ (wi hw 16 rfl)) (notFace_of_selects (args := #[]) (mvT hZ (wi hw 18 rfl))) (mvT hZ (wi hw 18 rfl)) (mvT hZ (wi hw 17 rfl)) (by decide) (backOf (W := 0) (rm_isEmpty0 l Z a0 hw [] b_5 v2_5 k2_5 [] h5 n0 (by omega) p5_F_levels_b p5_V_v2) hZ (wi hw 19 rfl) (wi hw 2 rfl) (by decide) (by decide)) q6a q6c (g := (mkF mM 65 (Lc_law_eq_5 p0 b_1) [(.ref b_5)])) rfl (by rw [hml]; rfl) (Steps.refl _) (argsL := []) (rest := []) (lenOf pd_3 rfl) rfl (by show 2 * 0 + _ ≤ _; exact Nat.le_of_eq rfl) (hb hby at_65) (fun _ _ => ⟨rfl, e5, Nat.le_of_ble_eq_true rfl, Nat.le_of_ble_eq_true rfl⟩)
  dsimp only [Pt.U, Pt.locs, Pt.cells, Pt.slots] at X6 l6 y6 z6 st6 hQ6
  subst l6 y6 z6
  obtain ⟨h6, e6⟩ : ∃ z, T6.heap = z := ⟨_, rfl⟩
  rw [e6] at hQ6
  obtain ⟨rfl, N6q, eq6⟩ := hQ6
  rw [eq6] at e6
  have N6 := Fr.app N5 N6q
  obtain ⟨fs, hr, hrun, hended, hW, hsame⟩ := X6.leave (v := some (.int (1 : Int32))) (fun h => by rw [Bd.returns] at h; cases h)
  refine ⟨_, _, pre0 _ ?_, hrun, hended, _, _, rfl, ?_, ⟨_, rfl⟩, hW, hsame.mono (by decide) (by decide)⟩
  · show SS pP eE belowS s₁ (mkF mM 0 (Lc_law_eq_0 p0) []) _
    refine XS.iloadN X0.here hx rfl (hb hby at_0) rfl ?_
    show SS pP eE belowS s₁ (mkF mM 1 (Lc_law_eq_0 p0) [(.int p0)]) _
    refine st1 _ ?_
    show SS pP eE belowS T1 (mkF mM 4 (Lc_law_eq_0 p0) [(.ref b_1)]) _
    refine XS.astoreN X1.here hx rfl (hb hby at_4) rfl rfl (l' := (Lc_law_eq_1 p0 b_1)) rfl ?_
    show SS pP eE belowS T1 (mkF mM 5 (Lc_law_eq_1 p0 b_1) []) _
    refine XS.aloadN X1.here hx rfl (hb hby at_5) rfl rfl ?_
    show SS pP eE belowS T1 (mkF mM 6 (Lc_law_eq_1 p0 b_1) [(.ref b_1)]) _
    refine st2.trans ?_
    show SS pP eE belowS T2 (mkF mM 9 (Lc_law_eq_1 p0 b_1) [(.int (0 : Int32))]) _
    refine XS.ifNo X2.here hx rfl (hb hby at_9) rfl ((if0 _ _).trans (teq (by decide : (0 : Int32) = (0 : Int32))).2) ?_
    show SS pP eE belowS T2 (mkF mM 12 (Lc_law_eq_1 p0 b_1) []) _
    refine XS.iconst X2.here hx rfl (hb hby at_12) ?_
    show SS pP eE belowS T2 (mkF mM 13 (Lc_law_eq_1 p0 b_1) [(.int (1 : Int32))]) _
    refine XS.goto X2.here hx rfl (pc0 := 13) (pc' := 17) rfl (hb hby at_13) (by decide) (by decide) ?_
    show SS pP eE belowS T2 (mkF mM 17 (Lc_law_eq_1 p0 b_1) [(.int (1 : Int32))]) _
    refine XS.istoreN X2.here hx rfl (hb hby at_17) rfl (l' := (Lc_law_eq_2 p0 b_1)) rfl ?_
    show SS pP eE belowS T2 (mkF mM 18 (Lc_law_eq_2 p0 b_1) []) _
    refine XS.aloadN X2.here hx rfl (hb hby at_18) rfl rfl ?_
    show SS pP eE belowS T2 (mkF mM 19 (Lc_law_eq_2 p0 b_1) [(.ref b_1)]) _
    refine XS.iloadN X2.here hx rfl (hb hby at_19) rfl ?_
    show SS pP eE belowS T2 (mkF mM 20 (Lc_law_eq_2 p0 b_1) [(.int p0), (.ref b_1)]) _
    refine st3.trans ?_
    show SS pP eE belowS T3 (mkF mM 23 (Lc_law_eq_2 p0 b_1) [(.int (1 : Int32))]) _
    refine XS.istore X3.here hx rfl (hb hby at_23) rfl (l' := (Lc_law_eq_3 p0 b_1)) rfl ?_
    show SS pP eE belowS T3 (mkF mM 25 (Lc_law_eq_3 p0 b_1) []) _
    refine XS.aloadN X3.here hx rfl (hb hby at_25) rfl rfl ?_
    show SS pP eE belowS T3 (mkF mM 26 (Lc_law_eq_3 p0 b_1) [(.ref b_1)]) _
    refine st4.trans ?_
    show SS pP eE belowS T4 (mkF mM 29 (Lc_law_eq_3 p0 b_1) [(.int p0)]) _
    refine XS.iloadN X4.here hx rfl (hb hby at_29) rfl ?_
    show SS pP eE belowS T4 (mkF mM 30 (Lc_law_eq_3 p0 b_1) [(.int p0), (.int p0)]) _
    refine XS.icmpNo X4.here hx rfl (hb hby at_30) rfl (teq (rfl : p0 = p0)).2 ?_
    show SS pP eE belowS T4 (mkF mM 33 (Lc_law_eq_3 p0 b_1) []) _
    refine XS.iconst X4.here hx rfl (hb hby at_33) ?_
    show SS pP eE belowS T4 (mkF mM 34 (Lc_law_eq_3 p0 b_1) [(.int (1 : Int32))]) _
    refine XS.goto X4.here hx rfl (pc0 := 34) (pc' := 38) rfl (hb hby at_34) (by decide) (by decide) ?_
    show SS pP eE belowS T4 (mkF mM 38 (Lc_law_eq_3 p0 b_1) [(.int (1 : Int32))]) _
    refine XS.istore X4.here hx rfl (hb hby at_38) rfl (l' := (Lc_law_eq_4 p0 b_1)) rfl ?_
    show SS pP eE belowS T4 (mkF mM 40 (Lc_law_eq_4 p0 b_1) []) _
    refine XS.iloadN X4.here hx rfl (hb hby at_40) rfl ?_
    show SS pP eE belowS T4 (mkF mM 41 (Lc_law_eq_4 p0 b_1) [(.int p0)]) _
    refine XS.iloadN X4.here hx rfl (hb hby at_41) rfl ?_
    show SS pP eE belowS T4 (mkF mM 42 (Lc_law_eq_4 p0 b_1) [(.int p0), (.int p0)]) _
    refine XS.icmpYes X4.here hx rfl (pc0 := 42) (pc' := 53) rfl (hb hby at_42) rfl (teq (rfl : p0 = p0)).1 (by decide) (by decide) ?_
    show SS pP eE belowS T4 (mkF mM 53 (Lc_law_eq_4 p0 b_1) []) _
    refine XS.iconst X4.here hx rfl (hb hby at_53) ?_
    show SS pP eE belowS T4 (mkF mM 54 (Lc_law_eq_4 p0 b_1) [(.int (1 : Int32))]) _
    refine XS.goto X4.here hx rfl (pc0 := 54) (pc' := 58) rfl (hb hby at_54) (by decide) (by decide) ?_
    show SS pP eE belowS T4 (mkF mM 58 (Lc_law_eq_4 p0 b_1) [(.int (1 : Int32))]) _
    refine XS.istore X4.here hx rfl (hb hby at_58) rfl (l' := (Lc_law_eq_5 p0 b_1)) rfl ?_
    show SS pP eE belowS T4 (mkF mM 60 (Lc_law_eq_5 p0 b_1) []) _
    refine XS.aloadN X4.here hx rfl (hb hby at_60) rfl rfl ?_
    show SS pP eE belowS T4 (mkF mM 61 (Lc_law_eq_5 p0 b_1) [(.ref b_1)]) _
    refine XS.iloadN X4.here hx rfl (hb hby at_61) rfl ?_
    show SS pP eE belowS T4 (mkF mM 62 (Lc_law_eq_5 p0 b_1) [(.int p0), (.ref b_1)]) _
    refine st5.trans ?_
    show SS pP eE belowS T5 (mkF mM 65 (Lc_law_eq_5 p0 b_1) [(.ref b_5)]) _
    refine st6.trans ?_
    show SS pP eE belowS T6 (mkF mM 68 (Lc_law_eq_5 p0 b_1) [(.int (1 : Int32))]) _
    refine XS.istore X6.here hx rfl (hb hby at_68) rfl (l' := (Lc_law_eq_6 p0 b_1)) rfl ?_
    show SS pP eE belowS T6 (mkF mM 70 (Lc_law_eq_6 p0 b_1) []) _
    refine XS.iloadN X6.here hx rfl (hb hby at_70) rfl ?_
    show SS pP eE belowS T6 (mkF mM 71 (Lc_law_eq_6 p0 b_1) [(.int (1 : Int32))]) _
    refine XS.ifNo X6.here hx rfl (hb hby at_71) rfl ((if0 _ _).trans (feq (by decide : ¬ ((1 : Int32) = (0 : Int32)))).1) ?_
    show SS pP eE belowS T6 (mkF mM 74 (Lc_law_eq_6 p0 b_1) []) _
    refine XS.iload X6.here hx rfl (hb hby at_74) rfl ?_
    show SS pP eE belowS T6 (mkF mM 76 (Lc_law_eq_6 p0 b_1) [(.int (1 : Int32))]) _
    refine XS.ifNo X6.here hx rfl (hb hby at_76) rfl ((if0 _ _).trans (feq (by decide : ¬ ((1 : Int32) = (0 : Int32)))).1) ?_
    show SS pP eE belowS T6 (mkF mM 79 (Lc_law_eq_6 p0 b_1) []) _
    refine XS.iload X6.here hx rfl (hb hby at_79) rfl ?_
    show SS pP eE belowS T6 (mkF mM 81 (Lc_law_eq_6 p0 b_1) [(.int (1 : Int32))]) _
    refine XS.ifNo X6.here hx rfl (hb hby at_81) rfl ((if0 _ _).trans (feq (by decide : ¬ ((1 : Int32) = (0 : Int32)))).1) ?_
    show SS pP eE belowS T6 (mkF mM 84 (Lc_law_eq_6 p0 b_1) []) _
    refine XS.iload X6.here hx rfl (hb hby at_84) rfl ?_
    show SS pP eE belowS T6 (mkF mM 86 (Lc_law_eq_6 p0 b_1) [(.int (1 : Int32))]) _
    refine XS.ifNo X6.here hx rfl (hb hby at_86) rfl ((if0 _ _).trans (feq (by decide : ¬ ((1 : Int32) = (0 : Int32)))).1) ?_
    show SS pP eE belowS T6 (mkF mM 89 (Lc_law_eq_6 p0 b_1) []) _
    refine XS.iload X6.here hx rfl (hb hby at_89) rfl ?_
    show SS pP eE belowS T6 (mkF mM 91 (Lc_law_eq_6 p0 b_1) [(.int (1 : Int32))]) _
    refine XS.ifNo X6.here hx rfl (hb hby at_91) rfl ((if0 _ _).trans (feq (by decide : ¬ ((1 : Int32) = (0 : Int32)))).1) ?_
    show SS pP eE belowS T6 (mkF mM 94 (Lc_law_eq_6 p0 b_1) []) _
    refine XS.iconst X6.here hx rfl (hb hby at_94) ?_
    show SS pP eE belowS T6 (mkF mM 95 (Lc_law_eq_6 p0 b_1) [(.int (1 : Int32))]) _
    refine XS.goto X6.here hx rfl (pc0 := 95) (pc' := 99) rfl (hb hby at_95) (by decide) (by decide) ?_
    show SS pP eE belowS T6 (mkF mM 99 (Lc_law_eq_6 p0 b_1) [(.int (1 : Int32))]) _
    exact retN X6 hx (t := .boolean) Bd.returns (by simp) (hb hby at_99) hr
  · exact ⟨rfl, N6⟩

abbrev Lc_law_lt_0 (p0 : Int32) (p1 : Int32) : Array Slot := #[.val (.int p0), .val (.int p1), .unset, .unset, .unset, .unset, .unset, .unset]
abbrev Lc_law_lt_1 (p0 : Int32) (p1 : Int32) (b_1 : Addr) : Array Slot := #[.val (.int p0), .val (.int p1), .val (.ref b_1), .unset, .unset, .unset, .unset, .unset]
abbrev Lc_law_lt_2 (p0 : Int32) (p1 : Int32) (b_1 : Addr) : Array Slot := #[.val (.int p0), .val (.int p1), .val (.ref b_1), .val (.int (1 : Int32)), .unset, .unset, .unset, .unset]
abbrev Lc_law_lt_3 (p0 : Int32) (p1 : Int32) (b_1 : Addr) : Array Slot := #[.val (.int p0), .val (.int p1), .val (.ref b_1), .val (.int (1 : Int32)), .val (.int (1 : Int32)), .unset, .unset, .unset]
abbrev Lc_law_lt_4 (p0 : Int32) (p1 : Int32) (b_1 : Addr) : Array Slot := #[.val (.int p0), .val (.int p1), .val (.ref b_1), .val (.int (1 : Int32)), .val (.int (1 : Int32)), .val (.int (1 : Int32)), .unset, .unset]
abbrev Lc_law_lt_5 (p0 : Int32) (p1 : Int32) (b_1 : Addr) : Array Slot := #[.val (.int p0), .val (.int p1), .val (.ref b_1), .val (.int (1 : Int32)), .val (.int (1 : Int32)), .val (.int (1 : Int32)), .val (.int (1 : Int32)), .unset]
abbrev Lc_law_lt_6 (p0 : Int32) (p1 : Int32) (b_1 : Addr) : Array Slot := #[.val (.int p0), .val (.int p1), .val (.ref b_1), .val (.int (1 : Int32)), .val (.int (1 : Int32)), .val (.int (1 : Int32)), .val (.int (1 : Int32)), .val (.int (1 : Int32))]
theorem ef_law_lt (mM : MethodId) (p0 : Int32) (p1 : Int32) : entryFrame mM #[(.int p0), (.int p1)] maxLocals = mkF mM 0 #[.val (.int p0), .val (.int p1), .unset, .unset, .unset, .unset, .unset, .unset] [] := by first | (simp [entryFrame, mkF, argsToLocals, Value.category, maxLocals]; done) | rfl
set_option maxRecDepth 65536 in
set_option maxHeartbeats 40000000 in
theorem rm_law_lt (l : Launch) (Z : State) (a0 : Array Value) (hw : ∀ d ∈ tables_1, d.before a0 Z = true) (ws : List Jvm.Cond) (p0 : Int32) (p1 : Int32) (h0 : Heap) (n0 : Nat) (Z0 : n0 ≤ h0.size) (hc42 : ¬ (p1 = p0)) (hc33_2_2_5 : p0 < p1) :
    MetFree l x (head1 (Jvm.Cond.code x code maxLocals ret :: ws) room_1) (fun xa xU => xa = #[(.int p0), (.int p1)] ∧ Z.Warmed39 xU.vm ∧ xU.heap = h0) (fun _ _ _ _ _ => True) (fun _ xU xo xU' => ∃ xv xL, xo = .returned xv ∧ Q_law n0 xv xL ∧ FrameEnd xU xo xU' xL room_1.cells room_1.slots) := by
  refine MetFree.of_bodySF (plainFor_of_name pn_com_example_subsumption_subsumption_DependencySetOfPinLaw) hisR ?_
  intro pP eE sS mM argS belowS methS cC s₁ Bd hml0 hP hK
  obtain ⟨rfl, hZ, hh⟩ := hP
  have hx := Bd.exec
  have hby := Bd.bytes
  have hml : cC.maxLocals = 8 := hml0
  have hown : sS.vm.findClass "com/example/subsumption/subsumption/DependencySetOfPinLaw" = some mM.cls := findClass_of_methodNamed Bd.named
  have hnm := (name_of_methodNamed Bd.named Bd.method).1
  have X0 : Stand pP l eE room_1 sS mM #[(.int p0), (.int p1)] belowS methS cC s₁ [] 0 0 := Stand.of_body Bd
  have e0 : s₁.heap = h0 := by rw [← hh, Bd.state]; rfl
  have N0 := Fr.nil n0
  have pre0 : ∀ t', Steps pP.tables eE belowS (s₁.setTop (mkF mM 0 #[.val (.int p0), .val (.int p1), .unset, .unset, .unset, .unset, .unset, .unset] [])) t' → Steps pP.tables eE belowS (s₁.setTop (entryFrame mM #[(.int p0), (.int p1)] maxLocals)) t' := fun t' kk' => castTop (ef_law_lt mM p0 p1) kk'
  obtain ⟨_, _, ⟨T1, L1, k1, n1⟩, -, X1, ⟨Lc1, hQ1, l1, y1, z1⟩, st1⟩ := Jvm.LawKit.callS X0 hx (y := (⟨"com/example/subsumption/subsumption/DependencySet", "of", "(I)Lcom/example/subsumption/subsumption/DependencySet;"⟩ : MethodName)) hown (mvT hZ (wi hw 0 rfl)) (mvT hZ (wi hw 1 rfl)) (mvT hZ (wi hw 2 rfl)) (mvT hZ (wi hw 3 rfl)) (by decide) (backOf (W := 0) (rm_of l Z a0 hw [] p0 h0 n0 (by omega) ) hZ (wi hw 3 rfl) (wi hw 2 rfl) (by decide) (by decide)) (g := (mkF mM 1 (Lc_law_lt_0 p0 p1) [(.int p0)])) rfl (by rw [hml]; rfl) (argsL := [(.int p0)]) (rest := []) (lenOf pd_0 rfl) rfl (by show 2 * 0 + _ ≤ _; exact Nat.le_of_eq rfl) (hb hby at_1) (fun _ _ => ⟨rfl, e0, Nat.le_of_ble_eq_true rfl, Nat.le_of_ble_eq_true rfl⟩)
  dsimp only [Pt.U, Pt.locs, Pt.cells, Pt.slots] at X1 l1 y1 z1 st1 hQ1
  subst l1 y1 z1
  obtain ⟨h1, e1⟩ : ∃ z, T1.heap = z := ⟨_, rfl⟩
  rw [e1] at hQ1
  obtain ⟨b_1, w_1, k_1, rfl, N1q, Kp1, p1_E_b, p1_F_levels_b, p1_V_w, p1_gh_b, p1_gh_w⟩ := hQ1
  have Sz1 : h0.size ≤ h1.size := Kp1.1
  have N1 := Fr.app N0 N1q
  obtain ⟨cq2, kq2, q2a, q2b, q2c⟩ := isOf hZ e1 p1_E_b
  obtain ⟨_, _, ⟨T2, L2, k2, n2⟩, -, X2, ⟨Lc2, hQ2, l2, y2, z2⟩, st2⟩ := X1.virtualBack hx (y := (⟨"com/example/subsumption/subsumption/DependencySet", "isEmpty", "()Z"⟩ : MethodName)) (z := (⟨"com/example/subsumption/subsumption/DependencySet", "isEmpty", "()Z"⟩ : MethodName)) hown (mvT hZ (wi hw 15 rfl)) (mvT hZ (wi hw 16 rfl)) (notFace_of_selects (args := #[]) (mvT hZ (wi hw 18 rfl))) (mvT hZ (wi hw 18 rfl)) (mvT hZ (wi hw 17 rfl)) (by decide) (backOf (W := 0) (rm_isEmpty1 l Z a0 hw [] b_1 w_1 k_1 [(.int p0)] h1 n0 (by omega) p1_F_levels_b p1_V_w) hZ (wi hw 19 rfl) (wi hw 2 rfl) (by decide) (by decide)) q2a q2c (g := (mkF mM 6 (Lc_law_lt_1 p0 p1 b_1) [(.ref b_1)])) rfl (by rw [hml]; rfl) (Steps.refl _) (argsL := []) (rest := []) (lenOf pd_3 rfl) rfl (by show 2 * 0 + _ ≤ _; exact Nat.le_of_eq rfl) (hb hby at_6) (fun _ _ => ⟨rfl, e1, Nat.le_of_ble_eq_true rfl, Nat.le_of_ble_eq_true rfl⟩)
  dsimp only [Pt.U, Pt.locs, Pt.cells, Pt.slots] at X2 l2 y2 z2 st2 hQ2
  subst l2 y2 z2
  obtain ⟨h2, e2⟩ : ∃ z, T2.heap = z := ⟨_, rfl⟩
  rw [e2] at hQ2
  obtain ⟨rfl, N2q, eq2⟩ := hQ2
  rw [eq2] at e2
  have N2 := Fr.app N1 N2q
  obtain ⟨cq3, kq3, q3a, q3b, q3c⟩ := isOf hZ e2 p1_E_b
  obtain ⟨_, _, ⟨T3, L3, k3, n3⟩, -, X3, ⟨Lc3, hQ3, l3, y3, z3⟩, st3⟩ := X2.virtualBack hx (y := (⟨"com/example/subsumption/subsumption/DependencySet", "contains", "(I)Z"⟩ : MethodName)) (z := (⟨"com/example/subsumption/subsumption/DependencySet", "contains", "(I)Z"⟩ : MethodName)) hown (mvT hZ (wi hw 20 rfl)) (mvT hZ (wi hw 21 rfl)) (notFace_of_selects (args := #[]) (mvT hZ (wi hw 23 rfl))) (mvT hZ (wi hw 23 rfl)) (mvT hZ (wi hw 22 rfl)) (by decide) (backOf (W := 0) (rm_contains_eq l Z a0 hw [] b_1 w_1 k_1 p0 h1 n0 (by omega) p1_F_levels_b p1_V_w) hZ (wi hw 24 rfl) (wi hw 2 rfl) (by decide) (by decide)) q3a q3c (g := (mkF mM 20 (Lc_law_lt_2 p0 p1 b_1) [(.int p0), (.ref b_1)])) rfl (by rw [hml]; rfl) (Steps.refl _) (argsL := [(.int p0)]) (rest := []) (lenOf pd_4 rfl) rfl (by show 2 * 0 + _ ≤ _; exact Nat.le_of_eq rfl) (hb hby at_20) (fun _ _ => ⟨rfl, e2, Nat.le_of_ble_eq_true rfl, Nat.le_of_ble_eq_true rfl⟩)
  dsimp only [Pt.U, Pt.locs, Pt.cells, Pt.slots] at X3 l3 y3 z3 st3 hQ3
  subst l3 y3 z3
  obtain ⟨h3, e3⟩ : ∃ z, T3.heap = z := ⟨_, rfl⟩
  rw [e3] at hQ3
  obtain ⟨rfl, N3q, eq3⟩ := hQ3
  rw [eq3] at e3
  have N3 := Fr.app N2 N3q
  obtain ⟨cq4, kq4, q4a, q4b, q4c⟩ := isOf hZ e3 p1_E_b
  obtain ⟨_, _, ⟨T4, L4, k4, n4⟩, -, X4, ⟨Lc4, hQ4, l4, y4, z4⟩, st4⟩ := X3.virtualBack hx (y := (⟨"com/example/subsumption/subsumption/DependencySet", "highest", "()I"⟩ : MethodName)) (z := (⟨"com/example/subsumption/subsumption/DependencySet", "highest", "()I"⟩ : MethodName)) hown (mvT hZ (wi hw 32 rfl)) (mvT hZ (wi hw 33 rfl)) (notFace_of_selects (args := #[]) (mvT hZ (wi hw 35 rfl))) (mvT hZ (wi hw 35 rfl)) (mvT hZ (wi hw 34 rfl)) (by decide) (backOf (W := 0) (rm_highest l Z a0 hw [] b_1 w_1 k_1 p0 h1 n0 (by omega) p1_F_levels_b p1_V_w) hZ (wi hw 36 rfl) (wi hw 2 rfl) (by decide) (by decide)) q4a q4c (g := (mkF mM 26 (Lc_law_lt_3 p0 p1 b_1) [(.ref b_1)])) rfl (by rw [hml]; rfl) (Steps.refl _) (argsL := []) (rest := []) (lenOf pd_7 rfl) rfl (by show 2 * 0 + _ ≤ _; exact Nat.le_of_eq rfl) (hb hby at_26) (fun _ _ => ⟨rfl, e3, Nat.le_of_ble_eq_true rfl, Nat.le_of_ble_eq_true rfl⟩)
  dsimp only [Pt.U, Pt.locs, Pt.cells, Pt.slots] at X4 l4 y4 z4 st4 hQ4
  subst l4 y4 z4
  obtain ⟨h4, e4⟩ : ∃ z, T4.heap = z := ⟨_, rfl⟩
  rw [e4] at hQ4
  obtain ⟨rfl, N4q, eq4⟩ := hQ4
  rw [eq4] at e4
  have N4 := Fr.app N3 N4q
  obtain ⟨cq5, kq5, q5a, q5b, q5c⟩ := isOf hZ e4 p1_E_b
  obtain ⟨_, _, ⟨T5, L5, k5, n5⟩, -, X5, ⟨Lc5, hQ5, l5, y5, z5⟩, st5⟩ := X4.virtualBack hx (y := (⟨"com/example/subsumption/subsumption/DependencySet", "contains", "(I)Z"⟩ : MethodName)) (z := (⟨"com/example/subsumption/subsumption/DependencySet", "contains", "(I)Z"⟩ : MethodName)) hown (mvT hZ (wi hw 20 rfl)) (mvT hZ (wi hw 21 rfl)) (notFace_of_selects (args := #[]) (mvT hZ (wi hw 23 rfl))) (mvT hZ (wi hw 23 rfl)) (mvT hZ (wi hw 22 rfl)) (by decide) (backOf (W := 0) (rm_contains_lt l Z a0 hw [] b_1 w_1 k_1 p1 p0 h1 n0 (by omega) p1_F_levels_b p1_V_w hc33_2_2_5) hZ (wi hw 24 rfl) (wi hw 2 rfl) (by decide) (by decide)) q5a q5c (g := (mkF mM 47 (Lc_law_lt_4 p0 p1 b_1) [(.int p1), (.ref b_1)])) rfl (by rw [hml]; rfl) (Steps.refl _) (argsL := [(.int p1)]) (rest := []) (lenOf pd_4 rfl) rfl (by show 2 * 0 + _ ≤ _; exact Nat.le_of_eq rfl) (hb hby at_47) (fun _ _ => ⟨rfl, e4, Nat.le_of_ble_eq_true rfl, Nat.le_of_ble_eq_true rfl⟩)
  dsimp only [Pt.U, Pt.locs, Pt.cells, Pt.slots] at X5 l5 y5 z5 st5 hQ5
  subst l5 y5 z5
  obtain ⟨h5, e5⟩ : ∃ z, T5.heap = z := ⟨_, rfl⟩
  rw [e5] at hQ5
  obtain ⟨rfl, N5q, eq5⟩ := hQ5
  rw [eq5] at e5
  have N5 := Fr.app N4 N5q
  obtain ⟨cq6, kq6, q6a, q6b, q6c⟩ := isOf hZ e5 p1_E_b
  obtain ⟨_, _, ⟨T6, L6, k6, n6⟩, -, X6, ⟨Lc6, hQ6, l6, y6, z6⟩, st6⟩ := X5.virtualBack hx (y := (⟨"com/example/subsumption/subsumption/DependencySet", "without", "(I)Lcom/example/subsumption/subsumption/DependencySet;"⟩ : MethodName)) (z := (⟨"com/example/subsumption/subsumption/DependencySet", "without", "(I)Lcom/example/subsumption/subsumption/DependencySet;"⟩ : MethodName)) hown (mvT hZ (wi hw 37 rfl)) (mvT hZ (wi hw 38 rfl)) (notFace_of_selects (args := #[]) (mvT hZ (wi hw 40 rfl))) (mvT hZ (wi hw 40 rfl)) (mvT hZ (wi hw 39 rfl)) (by decide) (backOf (W := 0) (rm_without l Z a0 hw [] b_1 w_1 k_1 p0 h1 n0 (by omega) p1_F_levels_b p1_V_w) hZ (wi hw 41 rfl) (wi hw 2 rfl) (by decide) (by decide)) q6a q6c (g := (mkF mM 62 (Lc_law_lt_5 p0 p1 b_1) [(.int p0), (.ref b_1)])) rfl (by rw [hml]; rfl) (Steps.refl _) (argsL := [(.int p0)]) (rest := []) (lenOf pd_0 rfl) rfl (by show 2 * 0 + _ ≤ _; exact Nat.le_of_eq rfl) (hb hby at_62) (fun _ _ => ⟨rfl, e5, Nat.le_of_ble_eq_true rfl, Nat.le_of_ble_eq_true rfl⟩)
  dsimp only [Pt.U, Pt.locs, Pt.cells, Pt.slots] at X6 l6 y6 z6 st6 hQ6
  subst l6 y6 z6
  obtain ⟨h6, e6⟩ : ∃ z, T6.heap = z := ⟨_, rfl⟩
  rw [e6] at hQ6
  obtain ⟨b_6, v2_6, k2_6, rfl, N6q, Kp6, p6_E_b, p6_F_levels_b, p6_V_v2, p6_gh_b, p6_gh_v2⟩ := hQ6
  have Sz2 : h1.size ≤ h6.size := Kp6.1
  have N6 := Fr.app N5 N6q
  obtain ⟨cq7, kq7, q7a, q7b, q7c⟩ := isOf hZ e6 p6_E_b
  obtain ⟨_, _, ⟨T7, L7, k7, n7⟩, -, X7, ⟨Lc7, hQ7, l7, y7, z7⟩, st7⟩ := X6.virtualBack hx (y := (⟨"com/example/subsumption/subsumption/DependencySet", "isEmpty", "()Z"⟩ : MethodName)) (z := (⟨"com/example/subsumption/subsumption/DependencySet", "isEmpty", "()Z"⟩ : MethodName)) hown (mvT hZ (wi hw 15 rfl)) (mvT hZ (wi hw 16 rfl)) (notFace_of_selects (args := #[]) (mvT hZ (wi hw 18 rfl))) (mvT hZ (wi hw 18 rfl)) (mvT hZ (wi hw 17 rfl)) (by decide) (backOf (W := 0) (rm_isEmpty0 l Z a0 hw [] b_6 v2_6 k2_6 [] h6 n0 (by omega) p6_F_levels_b p6_V_v2) hZ (wi hw 19 rfl) (wi hw 2 rfl) (by decide) (by decide)) q7a q7c (g := (mkF mM 65 (Lc_law_lt_5 p0 p1 b_1) [(.ref b_6)])) rfl (by rw [hml]; rfl) (Steps.refl _) (argsL := []) (rest := []) (lenOf pd_3 rfl) rfl (by show 2 * 0 + _ ≤ _; exact Nat.le_of_eq rfl) (hb hby at_65) (fun _ _ => ⟨rfl, e6, Nat.le_of_ble_eq_true rfl, Nat.le_of_ble_eq_true rfl⟩)
  dsimp only [Pt.U, Pt.locs, Pt.cells, Pt.slots] at X7 l7 y7 z7 st7 hQ7
  subst l7 y7 z7
  obtain ⟨h7, e7⟩ : ∃ z, T7.heap = z := ⟨_, rfl⟩
  rw [e7] at hQ7
  obtain ⟨rfl, N7q, eq7⟩ := hQ7
  rw [eq7] at e7
  have N7 := Fr.app N6 N7q
  obtain ⟨fs, hr, hrun, hended, hW, hsame⟩ := X7.leave (v := some (.int (1 : Int32))) (fun h => by rw [Bd.returns] at h; cases h)
  refine ⟨_, _, pre0 _ ?_, hrun, hended, _, _, rfl, ?_, ⟨_, rfl⟩, hW, hsame.mono (by decide) (by decide)⟩
  · show SS pP eE belowS s₁ (mkF mM 0 (Lc_law_lt_0 p0 p1) []) _
    refine XS.iloadN X0.here hx rfl (hb hby at_0) rfl ?_
    show SS pP eE belowS s₁ (mkF mM 1 (Lc_law_lt_0 p0 p1) [(.int p0)]) _
    refine st1 _ ?_
    show SS pP eE belowS T1 (mkF mM 4 (Lc_law_lt_0 p0 p1) [(.ref b_1)]) _
    refine XS.astoreN X1.here hx rfl (hb hby at_4) rfl rfl (l' := (Lc_law_lt_1 p0 p1 b_1)) rfl ?_
    show SS pP eE belowS T1 (mkF mM 5 (Lc_law_lt_1 p0 p1 b_1) []) _
    refine XS.aloadN X1.here hx rfl (hb hby at_5) rfl rfl ?_
    show SS pP eE belowS T1 (mkF mM 6 (Lc_law_lt_1 p0 p1 b_1) [(.ref b_1)]) _
    refine st2.trans ?_
    show SS pP eE belowS T2 (mkF mM 9 (Lc_law_lt_1 p0 p1 b_1) [(.int (0 : Int32))]) _
    refine XS.ifNo X2.here hx rfl (hb hby at_9) rfl ((if0 _ _).trans (teq (by decide : (0 : Int32) = (0 : Int32))).2) ?_
    show SS pP eE belowS T2 (mkF mM 12 (Lc_law_lt_1 p0 p1 b_1) []) _
    refine XS.iconst X2.here hx rfl (hb hby at_12) ?_
    show SS pP eE belowS T2 (mkF mM 13 (Lc_law_lt_1 p0 p1 b_1) [(.int (1 : Int32))]) _
    refine XS.goto X2.here hx rfl (pc0 := 13) (pc' := 17) rfl (hb hby at_13) (by decide) (by decide) ?_
    show SS pP eE belowS T2 (mkF mM 17 (Lc_law_lt_1 p0 p1 b_1) [(.int (1 : Int32))]) _
    refine XS.istoreN X2.here hx rfl (hb hby at_17) rfl (l' := (Lc_law_lt_2 p0 p1 b_1)) rfl ?_
    show SS pP eE belowS T2 (mkF mM 18 (Lc_law_lt_2 p0 p1 b_1) []) _
    refine XS.aloadN X2.here hx rfl (hb hby at_18) rfl rfl ?_
    show SS pP eE belowS T2 (mkF mM 19 (Lc_law_lt_2 p0 p1 b_1) [(.ref b_1)]) _
    refine XS.iloadN X2.here hx rfl (hb hby at_19) rfl ?_
    show SS pP eE belowS T2 (mkF mM 20 (Lc_law_lt_2 p0 p1 b_1) [(.int p0), (.ref b_1)]) _
    refine st3.trans ?_
    show SS pP eE belowS T3 (mkF mM 23 (Lc_law_lt_2 p0 p1 b_1) [(.int (1 : Int32))]) _
    refine XS.istore X3.here hx rfl (hb hby at_23) rfl (l' := (Lc_law_lt_3 p0 p1 b_1)) rfl ?_
    show SS pP eE belowS T3 (mkF mM 25 (Lc_law_lt_3 p0 p1 b_1) []) _
    refine XS.aloadN X3.here hx rfl (hb hby at_25) rfl rfl ?_
    show SS pP eE belowS T3 (mkF mM 26 (Lc_law_lt_3 p0 p1 b_1) [(.ref b_1)]) _
    refine st4.trans ?_
    show SS pP eE belowS T4 (mkF mM 29 (Lc_law_lt_3 p0 p1 b_1) [(.int p0)]) _
    refine XS.iloadN X4.here hx rfl (hb hby at_29) rfl ?_
    show SS pP eE belowS T4 (mkF mM 30 (Lc_law_lt_3 p0 p1 b_1) [(.int p0), (.int p0)]) _
    refine XS.icmpNo X4.here hx rfl (hb hby at_30) rfl (teq (rfl : p0 = p0)).2 ?_
    show SS pP eE belowS T4 (mkF mM 33 (Lc_law_lt_3 p0 p1 b_1) []) _
    refine XS.iconst X4.here hx rfl (hb hby at_33) ?_
    show SS pP eE belowS T4 (mkF mM 34 (Lc_law_lt_3 p0 p1 b_1) [(.int (1 : Int32))]) _
    refine XS.goto X4.here hx rfl (pc0 := 34) (pc' := 38) rfl (hb hby at_34) (by decide) (by decide) ?_
    show SS pP eE belowS T4 (mkF mM 38 (Lc_law_lt_3 p0 p1 b_1) [(.int (1 : Int32))]) _
    refine XS.istore X4.here hx rfl (hb hby at_38) rfl (l' := (Lc_law_lt_4 p0 p1 b_1)) rfl ?_
    show SS pP eE belowS T4 (mkF mM 40 (Lc_law_lt_4 p0 p1 b_1) []) _
    refine XS.iloadN X4.here hx rfl (hb hby at_40) rfl ?_
    show SS pP eE belowS T4 (mkF mM 41 (Lc_law_lt_4 p0 p1 b_1) [(.int p1)]) _
    refine XS.iloadN X4.here hx rfl (hb hby at_41) rfl ?_
    show SS pP eE belowS T4 (mkF mM 42 (Lc_law_lt_4 p0 p1 b_1) [(.int p0), (.int p1)]) _
    refine XS.icmpNo X4.here hx rfl (hb hby at_42) rfl (feq hc42).1 ?_
    show SS pP eE belowS T4 (mkF mM 45 (Lc_law_lt_4 p0 p1 b_1) []) _
    refine XS.aloadN X4.here hx rfl (hb hby at_45) rfl rfl ?_
    show SS pP eE belowS T4 (mkF mM 46 (Lc_law_lt_4 p0 p1 b_1) [(.ref b_1)]) _
    refine XS.iloadN X4.here hx rfl (hb hby at_46) rfl ?_
    show SS pP eE belowS T4 (mkF mM 47 (Lc_law_lt_4 p0 p1 b_1) [(.int p1), (.ref b_1)]) _
    refine st5.trans ?_
    show SS pP eE belowS T5 (mkF mM 50 (Lc_law_lt_4 p0 p1 b_1) [(.int (0 : Int32))]) _
    refine XS.ifNo X5.here hx rfl (hb hby at_50) rfl ((if0 _ _).trans (teq (by decide : (0 : Int32) = (0 : Int32))).2) ?_
    show SS pP eE belowS T5 (mkF mM 53 (Lc_law_lt_4 p0 p1 b_1) []) _
    refine XS.iconst X5.here hx rfl (hb hby at_53) ?_
    show SS pP eE belowS T5 (mkF mM 54 (Lc_law_lt_4 p0 p1 b_1) [(.int (1 : Int32))]) _
    refine XS.goto X5.here hx rfl (pc0 := 54) (pc' := 58) rfl (hb hby at_54) (by decide) (by decide) ?_
    show SS pP eE belowS T5 (mkF mM 58 (Lc_law_lt_4 p0 p1 b_1) [(.int (1 : Int32))]) _
    refine XS.istore X5.here hx rfl (hb hby at_58) rfl (l' := (Lc_law_lt_5 p0 p1 b_1)) rfl ?_
    show SS pP eE belowS T5 (mkF mM 60 (Lc_law_lt_5 p0 p1 b_1) []) _
    refine XS.aloadN X5.here hx rfl (hb hby at_60) rfl rfl ?_
    show SS pP eE belowS T5 (mkF mM 61 (Lc_law_lt_5 p0 p1 b_1) [(.ref b_1)]) _
    refine XS.iloadN X5.here hx rfl (hb hby at_61) rfl ?_
    show SS pP eE belowS T5 (mkF mM 62 (Lc_law_lt_5 p0 p1 b_1) [(.int p0), (.ref b_1)]) _
    refine st6.trans ?_
    show SS pP eE belowS T6 (mkF mM 65 (Lc_law_lt_5 p0 p1 b_1) [(.ref b_6)]) _
    refine st7.trans ?_
    show SS pP eE belowS T7 (mkF mM 68 (Lc_law_lt_5 p0 p1 b_1) [(.int (1 : Int32))]) _
    refine XS.istore X7.here hx rfl (hb hby at_68) rfl (l' := (Lc_law_lt_6 p0 p1 b_1)) rfl ?_
    show SS pP eE belowS T7 (mkF mM 70 (Lc_law_lt_6 p0 p1 b_1) []) _
    refine XS.iloadN X7.here hx rfl (hb hby at_70) rfl ?_
    show SS pP eE belowS T7 (mkF mM 71 (Lc_law_lt_6 p0 p1 b_1) [(.int (1 : Int32))]) _
    refine XS.ifNo X7.here hx rfl (hb hby at_71) rfl ((if0 _ _).trans (feq (by decide : ¬ ((1 : Int32) = (0 : Int32)))).1) ?_
    show SS pP eE belowS T7 (mkF mM 74 (Lc_law_lt_6 p0 p1 b_1) []) _
    refine XS.iload X7.here hx rfl (hb hby at_74) rfl ?_
    show SS pP eE belowS T7 (mkF mM 76 (Lc_law_lt_6 p0 p1 b_1) [(.int (1 : Int32))]) _
    refine XS.ifNo X7.here hx rfl (hb hby at_76) rfl ((if0 _ _).trans (feq (by decide : ¬ ((1 : Int32) = (0 : Int32)))).1) ?_
    show SS pP eE belowS T7 (mkF mM 79 (Lc_law_lt_6 p0 p1 b_1) []) _
    refine XS.iload X7.here hx rfl (hb hby at_79) rfl ?_
    show SS pP eE belowS T7 (mkF mM 81 (Lc_law_lt_6 p0 p1 b_1) [(.int (1 : Int32))]) _
    refine XS.ifNo X7.here hx rfl (hb hby at_81) rfl ((if0 _ _).trans (feq (by decide : ¬ ((1 : Int32) = (0 : Int32)))).1) ?_
    show SS pP eE belowS T7 (mkF mM 84 (Lc_law_lt_6 p0 p1 b_1) []) _
    refine XS.iload X7.here hx rfl (hb hby at_84) rfl ?_
    show SS pP eE belowS T7 (mkF mM 86 (Lc_law_lt_6 p0 p1 b_1) [(.int (1 : Int32))]) _
    refine XS.ifNo X7.here hx rfl (hb hby at_86) rfl ((if0 _ _).trans (feq (by decide : ¬ ((1 : Int32) = (0 : Int32)))).1) ?_
    show SS pP eE belowS T7 (mkF mM 89 (Lc_law_lt_6 p0 p1 b_1) []) _
    refine XS.iload X7.here hx rfl (hb hby at_89) rfl ?_
    show SS pP eE belowS T7 (mkF mM 91 (Lc_law_lt_6 p0 p1 b_1) [(.int (1 : Int32))]) _
    refine XS.ifNo X7.here hx rfl (hb hby at_91) rfl ((if0 _ _).trans (feq (by decide : ¬ ((1 : Int32) = (0 : Int32)))).1) ?_
    show SS pP eE belowS T7 (mkF mM 94 (Lc_law_lt_6 p0 p1 b_1) []) _
    refine XS.iconst X7.here hx rfl (hb hby at_94) ?_
    show SS pP eE belowS T7 (mkF mM 95 (Lc_law_lt_6 p0 p1 b_1) [(.int (1 : Int32))]) _
    refine XS.goto X7.here hx rfl (pc0 := 95) (pc' := 99) rfl (hb hby at_95) (by decide) (by decide) ?_
    show SS pP eE belowS T7 (mkF mM 99 (Lc_law_lt_6 p0 p1 b_1) [(.int (1 : Int32))]) _
    exact retN X7 hx (t := .boolean) Bd.returns (by simp) (hb hby at_99) hr
  · exact ⟨rfl, N7⟩

abbrev Lc_law_gt_0 (p0 : Int32) (p1 : Int32) : Array Slot := #[.val (.int p0), .val (.int p1), .unset, .unset, .unset, .unset, .unset, .unset]
abbrev Lc_law_gt_1 (p0 : Int32) (p1 : Int32) (b_1 : Addr) : Array Slot := #[.val (.int p0), .val (.int p1), .val (.ref b_1), .unset, .unset, .unset, .unset, .unset]
abbrev Lc_law_gt_2 (p0 : Int32) (p1 : Int32) (b_1 : Addr) : Array Slot := #[.val (.int p0), .val (.int p1), .val (.ref b_1), .val (.int (1 : Int32)), .unset, .unset, .unset, .unset]
abbrev Lc_law_gt_3 (p0 : Int32) (p1 : Int32) (b_1 : Addr) : Array Slot := #[.val (.int p0), .val (.int p1), .val (.ref b_1), .val (.int (1 : Int32)), .val (.int (1 : Int32)), .unset, .unset, .unset]
abbrev Lc_law_gt_4 (p0 : Int32) (p1 : Int32) (b_1 : Addr) : Array Slot := #[.val (.int p0), .val (.int p1), .val (.ref b_1), .val (.int (1 : Int32)), .val (.int (1 : Int32)), .val (.int (1 : Int32)), .unset, .unset]
abbrev Lc_law_gt_5 (p0 : Int32) (p1 : Int32) (b_1 : Addr) : Array Slot := #[.val (.int p0), .val (.int p1), .val (.ref b_1), .val (.int (1 : Int32)), .val (.int (1 : Int32)), .val (.int (1 : Int32)), .val (.int (1 : Int32)), .unset]
abbrev Lc_law_gt_6 (p0 : Int32) (p1 : Int32) (b_1 : Addr) : Array Slot := #[.val (.int p0), .val (.int p1), .val (.ref b_1), .val (.int (1 : Int32)), .val (.int (1 : Int32)), .val (.int (1 : Int32)), .val (.int (1 : Int32)), .val (.int (1 : Int32))]
theorem ef_law_gt (mM : MethodId) (p0 : Int32) (p1 : Int32) : entryFrame mM #[(.int p0), (.int p1)] maxLocals = mkF mM 0 #[.val (.int p0), .val (.int p1), .unset, .unset, .unset, .unset, .unset, .unset] [] := by first | (simp [entryFrame, mkF, argsToLocals, Value.category, maxLocals]; done) | rfl
set_option maxRecDepth 65536 in
set_option maxHeartbeats 40000000 in
theorem rm_law_gt (l : Launch) (Z : State) (a0 : Array Value) (hw : ∀ d ∈ tables_1, d.before a0 Z = true) (ws : List Jvm.Cond) (p0 : Int32) (p1 : Int32) (h0 : Heap) (n0 : Nat) (Z0 : n0 ≤ h0.size) (hc42 : ¬ (p1 = p0)) (hc33_2_2_5 : ¬ (p0 < p1)) (hc48_2_2_5 : p1 < p0) :
    MetFree l x (head1 (Jvm.Cond.code x code maxLocals ret :: ws) room_1) (fun xa xU => xa = #[(.int p0), (.int p1)] ∧ Z.Warmed39 xU.vm ∧ xU.heap = h0) (fun _ _ _ _ _ => True) (fun _ xU xo xU' => ∃ xv xL, xo = .returned xv ∧ Q_law n0 xv xL ∧ FrameEnd xU xo xU' xL room_1.cells room_1.slots) := by
  refine MetFree.of_bodySF (plainFor_of_name pn_com_example_subsumption_subsumption_DependencySetOfPinLaw) hisR ?_
  intro pP eE sS mM argS belowS methS cC s₁ Bd hml0 hP hK
  obtain ⟨rfl, hZ, hh⟩ := hP
  have hx := Bd.exec
  have hby := Bd.bytes
  have hml : cC.maxLocals = 8 := hml0
  have hown : sS.vm.findClass "com/example/subsumption/subsumption/DependencySetOfPinLaw" = some mM.cls := findClass_of_methodNamed Bd.named
  have hnm := (name_of_methodNamed Bd.named Bd.method).1
  have X0 : Stand pP l eE room_1 sS mM #[(.int p0), (.int p1)] belowS methS cC s₁ [] 0 0 := Stand.of_body Bd
  have e0 : s₁.heap = h0 := by rw [← hh, Bd.state]; rfl
  have N0 := Fr.nil n0
  have pre0 : ∀ t', Steps pP.tables eE belowS (s₁.setTop (mkF mM 0 #[.val (.int p0), .val (.int p1), .unset, .unset, .unset, .unset, .unset, .unset] [])) t' → Steps pP.tables eE belowS (s₁.setTop (entryFrame mM #[(.int p0), (.int p1)] maxLocals)) t' := fun t' kk' => castTop (ef_law_gt mM p0 p1) kk'
  obtain ⟨_, _, ⟨T1, L1, k1, n1⟩, -, X1, ⟨Lc1, hQ1, l1, y1, z1⟩, st1⟩ := Jvm.LawKit.callS X0 hx (y := (⟨"com/example/subsumption/subsumption/DependencySet", "of", "(I)Lcom/example/subsumption/subsumption/DependencySet;"⟩ : MethodName)) hown (mvT hZ (wi hw 0 rfl)) (mvT hZ (wi hw 1 rfl)) (mvT hZ (wi hw 2 rfl)) (mvT hZ (wi hw 3 rfl)) (by decide) (backOf (W := 0) (rm_of l Z a0 hw [] p0 h0 n0 (by omega) ) hZ (wi hw 3 rfl) (wi hw 2 rfl) (by decide) (by decide)) (g := (mkF mM 1 (Lc_law_gt_0 p0 p1) [(.int p0)])) rfl (by rw [hml]; rfl) (argsL := [(.int p0)]) (rest := []) (lenOf pd_0 rfl) rfl (by show 2 * 0 + _ ≤ _; exact Nat.le_of_eq rfl) (hb hby at_1) (fun _ _ => ⟨rfl, e0, Nat.le_of_ble_eq_true rfl, Nat.le_of_ble_eq_true rfl⟩)
  dsimp only [Pt.U, Pt.locs, Pt.cells, Pt.slots] at X1 l1 y1 z1 st1 hQ1
  subst l1 y1 z1
  obtain ⟨h1, e1⟩ : ∃ z, T1.heap = z := ⟨_, rfl⟩
  rw [e1] at hQ1
  obtain ⟨b_1, w_1, k_1, rfl, N1q, Kp1, p1_E_b, p1_F_levels_b, p1_V_w, p1_gh_b, p1_gh_w⟩ := hQ1
  have Sz1 : h0.size ≤ h1.size := Kp1.1
  have N1 := Fr.app N0 N1q
  obtain ⟨cq2, kq2, q2a, q2b, q2c⟩ := isOf hZ e1 p1_E_b
  obtain ⟨_, _, ⟨T2, L2, k2, n2⟩, -, X2, ⟨Lc2, hQ2, l2, y2, z2⟩, st2⟩ := X1.virtualBack hx (y := (⟨"com/example/subsumption/subsumption/DependencySet", "isEmpty", "()Z"⟩ : MethodName)) (z := (⟨"com/example/subsumption/subsumption/DependencySet", "isEmpty", "()Z"⟩ : MethodName)) hown (mvT hZ (wi hw 15 rfl)) (mvT hZ (wi hw 16 rfl)) (notFace_of_selects (args := #[]) (mvT hZ (wi hw 18 rfl))) (mvT hZ (wi hw 18 rfl)) (mvT hZ (wi hw 17 rfl)) (by decide) (backOf (W := 0) (rm_isEmpty1 l Z a0 hw [] b_1 w_1 k_1 [(.int p0)] h1 n0 (by omega) p1_F_levels_b p1_V_w) hZ (wi hw 19 rfl) (wi hw 2 rfl) (by decide) (by decide)) q2a q2c (g := (mkF mM 6 (Lc_law_gt_1 p0 p1 b_1) [(.ref b_1)])) rfl (by rw [hml]; rfl) (Steps.refl _) (argsL := []) (rest := []) (lenOf pd_3 rfl) rfl (by show 2 * 0 + _ ≤ _; exact Nat.le_of_eq rfl) (hb hby at_6) (fun _ _ => ⟨rfl, e1, Nat.le_of_ble_eq_true rfl, Nat.le_of_ble_eq_true rfl⟩)
  dsimp only [Pt.U, Pt.locs, Pt.cells, Pt.slots] at X2 l2 y2 z2 st2 hQ2
  subst l2 y2 z2
  obtain ⟨h2, e2⟩ : ∃ z, T2.heap = z := ⟨_, rfl⟩
  rw [e2] at hQ2
  obtain ⟨rfl, N2q, eq2⟩ := hQ2
  rw [eq2] at e2
  have N2 := Fr.app N1 N2q
  obtain ⟨cq3, kq3, q3a, q3b, q3c⟩ := isOf hZ e2 p1_E_b
  obtain ⟨_, _, ⟨T3, L3, k3, n3⟩, -, X3, ⟨Lc3, hQ3, l3, y3, z3⟩, st3⟩ := X2.virtualBack hx (y := (⟨"com/example/subsumption/subsumption/DependencySet", "contains", "(I)Z"⟩ : MethodName)) (z := (⟨"com/example/subsumption/subsumption/DependencySet", "contains", "(I)Z"⟩ : MethodName)) hown (mvT hZ (wi hw 20 rfl)) (mvT hZ (wi hw 21 rfl)) (notFace_of_selects (args := #[]) (mvT hZ (wi hw 23 rfl))) (mvT hZ (wi hw 23 rfl)) (mvT hZ (wi hw 22 rfl)) (by decide) (backOf (W := 0) (rm_contains_eq l Z a0 hw [] b_1 w_1 k_1 p0 h1 n0 (by omega) p1_F_levels_b p1_V_w) hZ (wi hw 24 rfl) (wi hw 2 rfl) (by decide) (by decide)) q3a q3c (g := (mkF mM 20 (Lc_law_gt_2 p0 p1 b_1) [(.int p0), (.ref b_1)])) rfl (by rw [hml]; rfl) (Steps.refl _) (argsL := [(.int p0)]) (rest := []) (lenOf pd_4 rfl) rfl (by show 2 * 0 + _ ≤ _; exact Nat.le_of_eq rfl) (hb hby at_20) (fun _ _ => ⟨rfl, e2, Nat.le_of_ble_eq_true rfl, Nat.le_of_ble_eq_true rfl⟩)
  dsimp only [Pt.U, Pt.locs, Pt.cells, Pt.slots] at X3 l3 y3 z3 st3 hQ3
  subst l3 y3 z3
  obtain ⟨h3, e3⟩ : ∃ z, T3.heap = z := ⟨_, rfl⟩
  rw [e3] at hQ3
  obtain ⟨rfl, N3q, eq3⟩ := hQ3
  rw [eq3] at e3
  have N3 := Fr.app N2 N3q
  obtain ⟨cq4, kq4, q4a, q4b, q4c⟩ := isOf hZ e3 p1_E_b
  obtain ⟨_, _, ⟨T4, L4, k4, n4⟩, -, X4, ⟨Lc4, hQ4, l4, y4, z4⟩, st4⟩ := X3.virtualBack hx (y := (⟨"com/example/subsumption/subsumption/DependencySet", "highest", "()I"⟩ : MethodName)) (z := (⟨"com/example/subsumption/subsumption/DependencySet", "highest", "()I"⟩ : MethodName)) hown (mvT hZ (wi hw 32 rfl)) (mvT hZ (wi hw 33 rfl)) (notFace_of_selects (args := #[]) (mvT hZ (wi hw 35 rfl))) (mvT hZ (wi hw 35 rfl)) (mvT hZ (wi hw 34 rfl)) (by decide) (backOf (W := 0) (rm_highest l Z a0 hw [] b_1 w_1 k_1 p0 h1 n0 (by omega) p1_F_levels_b p1_V_w) hZ (wi hw 36 rfl) (wi hw 2 rfl) (by decide) (by decide)) q4a q4c (g := (mkF mM 26 (Lc_law_gt_3 p0 p1 b_1) [(.ref b_1)])) rfl (by rw [hml]; rfl) (Steps.refl _) (argsL := []) (rest := []) (lenOf pd_7 rfl) rfl (by show 2 * 0 + _ ≤ _; exact Nat.le_of_eq rfl) (hb hby at_26) (fun _ _ => ⟨rfl, e3, Nat.le_of_ble_eq_true rfl, Nat.le_of_ble_eq_true rfl⟩)
  dsimp only [Pt.U, Pt.locs, Pt.cells, Pt.slots] at X4 l4 y4 z4 st4 hQ4
  subst l4 y4 z4
  obtain ⟨h4, e4⟩ : ∃ z, T4.heap = z := ⟨_, rfl⟩
  rw [e4] at hQ4
  obtain ⟨rfl, N4q, eq4⟩ := hQ4
  rw [eq4] at e4
  have N4 := Fr.app N3 N4q
  obtain ⟨cq5, kq5, q5a, q5b, q5c⟩ := isOf hZ e4 p1_E_b
  obtain ⟨_, _, ⟨T5, L5, k5, n5⟩, -, X5, ⟨Lc5, hQ5, l5, y5, z5⟩, st5⟩ := X4.virtualBack hx (y := (⟨"com/example/subsumption/subsumption/DependencySet", "contains", "(I)Z"⟩ : MethodName)) (z := (⟨"com/example/subsumption/subsumption/DependencySet", "contains", "(I)Z"⟩ : MethodName)) hown (mvT hZ (wi hw 20 rfl)) (mvT hZ (wi hw 21 rfl)) (notFace_of_selects (args := #[]) (mvT hZ (wi hw 23 rfl))) (mvT hZ (wi hw 23 rfl)) (mvT hZ (wi hw 22 rfl)) (by decide) (backOf (W := 0) (rm_contains_gt l Z a0 hw [] b_1 w_1 k_1 p1 p0 h1 n0 (by omega) p1_F_levels_b p1_V_w hc33_2_2_5 hc48_2_2_5) hZ (wi hw 24 rfl) (wi hw 2 rfl) (by decide) (by decide)) q5a q5c (g := (mkF mM 47 (Lc_law_gt_4 p0 p1 b_1) [(.int p1), (.ref b_1)])) rfl (by rw [hml]; rfl) (Steps.refl _) (argsL := [(.int p1)]) (rest := []) (lenOf pd_4 rfl) rfl (by show 2 * 0 + _ ≤ _; exact Nat.le_of_eq rfl) (hb hby at_47) (fun _ _ => ⟨rfl, e4, Nat.le_of_ble_eq_true rfl, Nat.le_of_ble_eq_true rfl⟩)
  dsimp only [Pt.U, Pt.locs, Pt.cells, Pt.slots] at X5 l5 y5 z5 st5 hQ5
  subst l5 y5 z5
  obtain ⟨h5, e5⟩ : ∃ z, T5.heap = z := ⟨_, rfl⟩
  rw [e5] at hQ5
  obtain ⟨rfl, N5q, eq5⟩ := hQ5
  rw [eq5] at e5
  have N5 := Fr.app N4 N5q
  obtain ⟨cq6, kq6, q6a, q6b, q6c⟩ := isOf hZ e5 p1_E_b
  obtain ⟨_, _, ⟨T6, L6, k6, n6⟩, -, X6, ⟨Lc6, hQ6, l6, y6, z6⟩, st6⟩ := X5.virtualBack hx (y := (⟨"com/example/subsumption/subsumption/DependencySet", "without", "(I)Lcom/example/subsumption/subsumption/DependencySet;"⟩ : MethodName)) (z := (⟨"com/example/subsumption/subsumption/DependencySet", "without", "(I)Lcom/example/subsumption/subsumption/DependencySet;"⟩ : MethodName)) hown (mvT hZ (wi hw 37 rfl)) (mvT hZ (wi hw 38 rfl)) (notFace_of_selects (args := #[]) (mvT hZ (wi hw 40 rfl))) (mvT hZ (wi hw 40 rfl)) (mvT hZ (wi hw 39 rfl)) (by decide) (backOf (W := 0) (rm_without l Z a0 hw [] b_1 w_1 k_1 p0 h1 n0 (by omega) p1_F_levels_b p1_V_w) hZ (wi hw 41 rfl) (wi hw 2 rfl) (by decide) (by decide)) q6a q6c (g := (mkF mM 62 (Lc_law_gt_5 p0 p1 b_1) [(.int p0), (.ref b_1)])) rfl (by rw [hml]; rfl) (Steps.refl _) (argsL := [(.int p0)]) (rest := []) (lenOf pd_0 rfl) rfl (by show 2 * 0 + _ ≤ _; exact Nat.le_of_eq rfl) (hb hby at_62) (fun _ _ => ⟨rfl, e5, Nat.le_of_ble_eq_true rfl, Nat.le_of_ble_eq_true rfl⟩)
  dsimp only [Pt.U, Pt.locs, Pt.cells, Pt.slots] at X6 l6 y6 z6 st6 hQ6
  subst l6 y6 z6
  obtain ⟨h6, e6⟩ : ∃ z, T6.heap = z := ⟨_, rfl⟩
  rw [e6] at hQ6
  obtain ⟨b_6, v2_6, k2_6, rfl, N6q, Kp6, p6_E_b, p6_F_levels_b, p6_V_v2, p6_gh_b, p6_gh_v2⟩ := hQ6
  have Sz2 : h1.size ≤ h6.size := Kp6.1
  have N6 := Fr.app N5 N6q
  obtain ⟨cq7, kq7, q7a, q7b, q7c⟩ := isOf hZ e6 p6_E_b
  obtain ⟨_, _, ⟨T7, L7, k7, n7⟩, -, X7, ⟨Lc7, hQ7, l7, y7, z7⟩, st7⟩ := X6.virtualBack hx (y := (⟨"com/example/subsumption/subsumption/DependencySet", "isEmpty", "()Z"⟩ : MethodName)) (z := (⟨"com/example/subsumption/subsumption/DependencySet", "isEmpty", "()Z"⟩ : MethodName)) hown (mvT hZ (wi hw 15 rfl)) (mvT hZ (wi hw 16 rfl)) (notFace_of_selects (args := #[]) (mvT hZ (wi hw 18 rfl))) (mvT hZ (wi hw 18 rfl)) (mvT hZ (wi hw 17 rfl)) (by decide) (backOf (W := 0) (rm_isEmpty0 l Z a0 hw [] b_6 v2_6 k2_6 [] h6 n0 (by omega) p6_F_levels_b p6_V_v2) hZ (wi hw 19 rfl) (wi hw 2 rfl) (by decide) (by decide)) q7a q7c (g := (mkF mM 65 (Lc_law_gt_5 p0 p1 b_1) [(.ref b_6)])) rfl (by rw [hml]; rfl) (Steps.refl _) (argsL := []) (rest := []) (lenOf pd_3 rfl) rfl (by show 2 * 0 + _ ≤ _; exact Nat.le_of_eq rfl) (hb hby at_65) (fun _ _ => ⟨rfl, e6, Nat.le_of_ble_eq_true rfl, Nat.le_of_ble_eq_true rfl⟩)
  dsimp only [Pt.U, Pt.locs, Pt.cells, Pt.slots] at X7 l7 y7 z7 st7 hQ7
  subst l7 y7 z7
  obtain ⟨h7, e7⟩ : ∃ z, T7.heap = z := ⟨_, rfl⟩
  rw [e7] at hQ7
  obtain ⟨rfl, N7q, eq7⟩ := hQ7
  rw [eq7] at e7
  have N7 := Fr.app N6 N7q
  obtain ⟨fs, hr, hrun, hended, hW, hsame⟩ := X7.leave (v := some (.int (1 : Int32))) (fun h => by rw [Bd.returns] at h; cases h)
  refine ⟨_, _, pre0 _ ?_, hrun, hended, _, _, rfl, ?_, ⟨_, rfl⟩, hW, hsame.mono (by decide) (by decide)⟩
  · show SS pP eE belowS s₁ (mkF mM 0 (Lc_law_gt_0 p0 p1) []) _
    refine XS.iloadN X0.here hx rfl (hb hby at_0) rfl ?_
    show SS pP eE belowS s₁ (mkF mM 1 (Lc_law_gt_0 p0 p1) [(.int p0)]) _
    refine st1 _ ?_
    show SS pP eE belowS T1 (mkF mM 4 (Lc_law_gt_0 p0 p1) [(.ref b_1)]) _
    refine XS.astoreN X1.here hx rfl (hb hby at_4) rfl rfl (l' := (Lc_law_gt_1 p0 p1 b_1)) rfl ?_
    show SS pP eE belowS T1 (mkF mM 5 (Lc_law_gt_1 p0 p1 b_1) []) _
    refine XS.aloadN X1.here hx rfl (hb hby at_5) rfl rfl ?_
    show SS pP eE belowS T1 (mkF mM 6 (Lc_law_gt_1 p0 p1 b_1) [(.ref b_1)]) _
    refine st2.trans ?_
    show SS pP eE belowS T2 (mkF mM 9 (Lc_law_gt_1 p0 p1 b_1) [(.int (0 : Int32))]) _
    refine XS.ifNo X2.here hx rfl (hb hby at_9) rfl ((if0 _ _).trans (teq (by decide : (0 : Int32) = (0 : Int32))).2) ?_
    show SS pP eE belowS T2 (mkF mM 12 (Lc_law_gt_1 p0 p1 b_1) []) _
    refine XS.iconst X2.here hx rfl (hb hby at_12) ?_
    show SS pP eE belowS T2 (mkF mM 13 (Lc_law_gt_1 p0 p1 b_1) [(.int (1 : Int32))]) _
    refine XS.goto X2.here hx rfl (pc0 := 13) (pc' := 17) rfl (hb hby at_13) (by decide) (by decide) ?_
    show SS pP eE belowS T2 (mkF mM 17 (Lc_law_gt_1 p0 p1 b_1) [(.int (1 : Int32))]) _
    refine XS.istoreN X2.here hx rfl (hb hby at_17) rfl (l' := (Lc_law_gt_2 p0 p1 b_1)) rfl ?_
    show SS pP eE belowS T2 (mkF mM 18 (Lc_law_gt_2 p0 p1 b_1) []) _
    refine XS.aloadN X2.here hx rfl (hb hby at_18) rfl rfl ?_
    show SS pP eE belowS T2 (mkF mM 19 (Lc_law_gt_2 p0 p1 b_1) [(.ref b_1)]) _
    refine XS.iloadN X2.here hx rfl (hb hby at_19) rfl ?_
    show SS pP eE belowS T2 (mkF mM 20 (Lc_law_gt_2 p0 p1 b_1) [(.int p0), (.ref b_1)]) _
    refine st3.trans ?_
    show SS pP eE belowS T3 (mkF mM 23 (Lc_law_gt_2 p0 p1 b_1) [(.int (1 : Int32))]) _
    refine XS.istore X3.here hx rfl (hb hby at_23) rfl (l' := (Lc_law_gt_3 p0 p1 b_1)) rfl ?_
    show SS pP eE belowS T3 (mkF mM 25 (Lc_law_gt_3 p0 p1 b_1) []) _
    refine XS.aloadN X3.here hx rfl (hb hby at_25) rfl rfl ?_
    show SS pP eE belowS T3 (mkF mM 26 (Lc_law_gt_3 p0 p1 b_1) [(.ref b_1)]) _
    refine st4.trans ?_
    show SS pP eE belowS T4 (mkF mM 29 (Lc_law_gt_3 p0 p1 b_1) [(.int p0)]) _
    refine XS.iloadN X4.here hx rfl (hb hby at_29) rfl ?_
    show SS pP eE belowS T4 (mkF mM 30 (Lc_law_gt_3 p0 p1 b_1) [(.int p0), (.int p0)]) _
    refine XS.icmpNo X4.here hx rfl (hb hby at_30) rfl (teq (rfl : p0 = p0)).2 ?_
    show SS pP eE belowS T4 (mkF mM 33 (Lc_law_gt_3 p0 p1 b_1) []) _
    refine XS.iconst X4.here hx rfl (hb hby at_33) ?_
    show SS pP eE belowS T4 (mkF mM 34 (Lc_law_gt_3 p0 p1 b_1) [(.int (1 : Int32))]) _
    refine XS.goto X4.here hx rfl (pc0 := 34) (pc' := 38) rfl (hb hby at_34) (by decide) (by decide) ?_
    show SS pP eE belowS T4 (mkF mM 38 (Lc_law_gt_3 p0 p1 b_1) [(.int (1 : Int32))]) _
    refine XS.istore X4.here hx rfl (hb hby at_38) rfl (l' := (Lc_law_gt_4 p0 p1 b_1)) rfl ?_
    show SS pP eE belowS T4 (mkF mM 40 (Lc_law_gt_4 p0 p1 b_1) []) _
    refine XS.iloadN X4.here hx rfl (hb hby at_40) rfl ?_
    show SS pP eE belowS T4 (mkF mM 41 (Lc_law_gt_4 p0 p1 b_1) [(.int p1)]) _
    refine XS.iloadN X4.here hx rfl (hb hby at_41) rfl ?_
    show SS pP eE belowS T4 (mkF mM 42 (Lc_law_gt_4 p0 p1 b_1) [(.int p0), (.int p1)]) _
    refine XS.icmpNo X4.here hx rfl (hb hby at_42) rfl (feq hc42).1 ?_
    show SS pP eE belowS T4 (mkF mM 45 (Lc_law_gt_4 p0 p1 b_1) []) _
    refine XS.aloadN X4.here hx rfl (hb hby at_45) rfl rfl ?_
    show SS pP eE belowS T4 (mkF mM 46 (Lc_law_gt_4 p0 p1 b_1) [(.ref b_1)]) _
    refine XS.iloadN X4.here hx rfl (hb hby at_46) rfl ?_
    show SS pP eE belowS T4 (mkF mM 47 (Lc_law_gt_4 p0 p1 b_1) [(.int p1), (.ref b_1)]) _
    refine st5.trans ?_
    show SS pP eE belowS T5 (mkF mM 50 (Lc_law_gt_4 p0 p1 b_1) [(.int (0 : Int32))]) _
    refine XS.ifNo X5.here hx rfl (hb hby at_50) rfl ((if0 _ _).trans (teq (by decide : (0 : Int32) = (0 : Int32))).2) ?_
    show SS pP eE belowS T5 (mkF mM 53 (Lc_law_gt_4 p0 p1 b_1) []) _
    refine XS.iconst X5.here hx rfl (hb hby at_53) ?_
    show SS pP eE belowS T5 (mkF mM 54 (Lc_law_gt_4 p0 p1 b_1) [(.int (1 : Int32))]) _
    refine XS.goto X5.here hx rfl (pc0 := 54) (pc' := 58) rfl (hb hby at_54) (by decide) (by decide) ?_
    show SS pP eE belowS T5 (mkF mM 58 (Lc_law_gt_4 p0 p1 b_1) [(.int (1 : Int32))]) _
    refine XS.istore X5.here hx rfl (hb hby at_58) rfl (l' := (Lc_law_gt_5 p0 p1 b_1)) rfl ?_
    show SS pP eE belowS T5 (mkF mM 60 (Lc_law_gt_5 p0 p1 b_1) []) _
    refine XS.aloadN X5.here hx rfl (hb hby at_60) rfl rfl ?_
    show SS pP eE belowS T5 (mkF mM 61 (Lc_law_gt_5 p0 p1 b_1) [(.ref b_1)]) _
    refine XS.iloadN X5.here hx rfl (hb hby at_61) rfl ?_
    show SS pP eE belowS T5 (mkF mM 62 (Lc_law_gt_5 p0 p1 b_1) [(.int p0), (.ref b_1)]) _
    refine st6.trans ?_
    show SS pP eE belowS T6 (mkF mM 65 (Lc_law_gt_5 p0 p1 b_1) [(.ref b_6)]) _
    refine st7.trans ?_
    show SS pP eE belowS T7 (mkF mM 68 (Lc_law_gt_5 p0 p1 b_1) [(.int (1 : Int32))]) _
    refine XS.istore X7.here hx rfl (hb hby at_68) rfl (l' := (Lc_law_gt_6 p0 p1 b_1)) rfl ?_
    show SS pP eE belowS T7 (mkF mM 70 (Lc_law_gt_6 p0 p1 b_1) []) _
    refine XS.iloadN X7.here hx rfl (hb hby at_70) rfl ?_
    show SS pP eE belowS T7 (mkF mM 71 (Lc_law_gt_6 p0 p1 b_1) [(.int (1 : Int32))]) _
    refine XS.ifNo X7.here hx rfl (hb hby at_71) rfl ((if0 _ _).trans (feq (by decide : ¬ ((1 : Int32) = (0 : Int32)))).1) ?_
    show SS pP eE belowS T7 (mkF mM 74 (Lc_law_gt_6 p0 p1 b_1) []) _
    refine XS.iload X7.here hx rfl (hb hby at_74) rfl ?_
    show SS pP eE belowS T7 (mkF mM 76 (Lc_law_gt_6 p0 p1 b_1) [(.int (1 : Int32))]) _
    refine XS.ifNo X7.here hx rfl (hb hby at_76) rfl ((if0 _ _).trans (feq (by decide : ¬ ((1 : Int32) = (0 : Int32)))).1) ?_
    show SS pP eE belowS T7 (mkF mM 79 (Lc_law_gt_6 p0 p1 b_1) []) _
    refine XS.iload X7.here hx rfl (hb hby at_79) rfl ?_
    show SS pP eE belowS T7 (mkF mM 81 (Lc_law_gt_6 p0 p1 b_1) [(.int (1 : Int32))]) _
    refine XS.ifNo X7.here hx rfl (hb hby at_81) rfl ((if0 _ _).trans (feq (by decide : ¬ ((1 : Int32) = (0 : Int32)))).1) ?_
    show SS pP eE belowS T7 (mkF mM 84 (Lc_law_gt_6 p0 p1 b_1) []) _
    refine XS.iload X7.here hx rfl (hb hby at_84) rfl ?_
    show SS pP eE belowS T7 (mkF mM 86 (Lc_law_gt_6 p0 p1 b_1) [(.int (1 : Int32))]) _
    refine XS.ifNo X7.here hx rfl (hb hby at_86) rfl ((if0 _ _).trans (feq (by decide : ¬ ((1 : Int32) = (0 : Int32)))).1) ?_
    show SS pP eE belowS T7 (mkF mM 89 (Lc_law_gt_6 p0 p1 b_1) []) _
    refine XS.iload X7.here hx rfl (hb hby at_89) rfl ?_
    show SS pP eE belowS T7 (mkF mM 91 (Lc_law_gt_6 p0 p1 b_1) [(.int (1 : Int32))]) _
    refine XS.ifNo X7.here hx rfl (hb hby at_91) rfl ((if0 _ _).trans (feq (by decide : ¬ ((1 : Int32) = (0 : Int32)))).1) ?_
    show SS pP eE belowS T7 (mkF mM 94 (Lc_law_gt_6 p0 p1 b_1) []) _
    refine XS.iconst X7.here hx rfl (hb hby at_94) ?_
    show SS pP eE belowS T7 (mkF mM 95 (Lc_law_gt_6 p0 p1 b_1) [(.int (1 : Int32))]) _
    refine XS.goto X7.here hx rfl (pc0 := 95) (pc' := 99) rfl (hb hby at_95) (by decide) (by decide) ?_
    show SS pP eE belowS T7 (mkF mM 99 (Lc_law_gt_6 p0 p1 b_1) [(.int (1 : Int32))]) _
    exact retN X7 hx (t := .boolean) Bd.returns (by simp) (hb hby at_99) hr
  · exact ⟨rfl, N7⟩
set_option maxRecDepth 65536 in
set_option maxHeartbeats 40000000 in
theorem comes_1 {Post : Tables → Env → Array Value → State → Outcome → State → Prop} (hpost : ∀ tb e args s v u, (limb_1_1.after args s (.returned v) u = true ∧ limb_1_2.after args s (.returned v) u = true ∧ True) → FrameEnd s (.returned v) u (Jvm.fieldLocs frame_1_writes args s ++ Jvm.arrayLocs frame_1_arrays args s ++ Jvm.staticLocs frame_1_statics s) 16 128 → Post tb e args s (.returned v) u) :
    ArmFor flags0 classFile x code maxLocals ret World_1 tables_1 room_1 Calls_1 rest_1 Pre_1 Post := by
  intro l hfl _ _ p e ha hc hk s m args below hf hA hF happ hP
  obtain ⟨hcalls, hrest, hpre⟩ := hP
  obtain ⟨-, -, -, hnamed, -, -, -, hat⟩ := (Spec.applies_iff hf).mp happ
  obtain ⟨hg, hn⟩ := and_e (Cond.before_iff.mp (show (Jvm.Cond.and given_1 narrow_1).before args s = true from hpre))
  obtain ⟨g1, g2⟩ := and_e hg
  obtain ⟨g3, g4⟩ := and_e g2
  obtain ⟨w0, w1, rfl⟩ : ∃ w0 w1 : Value, args = #[w0, w1] := by
    have hs : args.size = 2 := by simpa [Cond.value, given_1] using g1
    obtain ⟨L⟩ := args
    match L, hs with
    | [w0, w1], _ => exact ⟨w0, w1, rfl⟩
  have hw := fun d (hd : d ∈ tables_1) => atoms_spec (ws := Jvm.Cond.code x code maxLocals ret :: tables_1) hat d (List.mem_cons_of_mem _ hd)
  have hfit : Fit s := fun {y c} hc i hi => by
    obtain ⟨ha, rfl⟩ := Array.getElem?_eq_some_iff.mp hc
    have q := List.all_eq_true.mp ((Array.all_eq_true_iff_forall_mem.mp hF) _ (Array.getElem_mem ha)) i (List.mem_range.mpr hi)
    simpa [Array.getElem?_eq_getElem hi] using q
  obtain ⟨i0, ei0⟩ := is_v g3
  obtain rfl : w0 = (.int i0) := Option.some.inj ei0
  obtain ⟨i1, ei1⟩ := is_v g4
  obtain rfl : w1 = (.int i1) := Option.some.inj ei1
  have hM : MetFree l x (head1 (Jvm.Cond.code x code maxLocals ret :: tables_1) room_1) (fun a U => a = #[(.int i0), (.int i1)] ∧ s.Warmed39 U.vm ∧ U.heap = s.heap) (fun _ _ _ _ _ => True) (fun _ U o U' => ∃ v L, o = .returned v ∧ Q_law s.heap.size v L ∧ FrameEnd U o U' L room_1.cells room_1.slots) := by
    by_cases q1 : i1 = i0
    · subst q1; exact rm_law_eq l s _ hw tables_1 i1 s.heap s.heap.size (Nat.le_refl _)
    by_cases q2 : i0 < i1
    · exact rm_law_lt l s _ hw tables_1 i0 i1 s.heap s.heap.size (Nat.le_refl _) q1 q2
    · exact rm_law_gt l s _ hw tables_1 i0 i1 s.heap s.heap.size (Nat.le_refl _) q1 q2 (Int32.lt_of_le_of_ne (Int32.not_lt.mp q2) q1)
  obtain ⟨n, o, h1, h2, h3, _, L, rfl, ⟨rfl, N⟩, hq⟩ := hM p e ha hc hk s m _ below hf ((Spec.applies_iff_loose hf).mp happ).1 ⟨rfl, State.Warmed39.refl s, rfl⟩ trivial
  refine ⟨n, _, h1, h2, h3, hpost _ _ _ _ _ _ ⟨Cond.after_iff.mpr rfl, Cond.after_iff.mpr (eq_i res_at (Term.int_eval (1)) rfl), trivial⟩ ⟨hq.1, hq.2.1, (hq.2.2.sift fun y hy => Or.inr (N y hy)).mono (by decide) (by decide)⟩⟩
theorem main_1_1 : Claimed_1_1 := comes_1 fun _ _ _ _ _ _ h hF => ⟨h.1, hF⟩
theorem main_1_2 : Claimed_1_2 := comes_1 fun _ _ _ _ _ _ h hF => ⟨h.2.1, hF⟩
end Jvm.Pilot.@@N@@
namespace Jvm.Pilot.@@N@@
open Jvm Jvm.ClassFile Sem Op Lib Jvm.Free Jvm.Stand Jvm.Pilot.@@N@@.Jvm.D
/-! MADE BY PROGRAM (witnessworld.py) out of the Statement's table words and the real class files: 11 classes; the members and pool entries that the words name. The judged class is class 1, her method 1. -/
namespace start1
open Jvm.ClassFile
def u (s : String) : CpInfo := .utf8 (stringToUtf16 s)
/-- a pool by its gaps: so many unusable entries, then the entry; so many at the end -/
def gap : Nat → List CpInfo → List CpInfo
  | 0, r => r
  | n + 1, r => .unusable :: gap n r
def poolList (es : List (Nat × CpInfo)) (last : Nat) : List CpInfo := es.foldr (fun e r => gap e.1 (e.2 :: r)) (gap last [])
def pool (es : List (Nat × CpInfo)) (last : Nat) : Array CpInfo := ⟨poolList es last⟩
def fileOf (pool : Array CpInfo) (this : Nat) (attrs : Array Attribute := #[]) (ms : Array MethodInfo := #[]) (fl : Nat := 33) (sup : Nat := 0) (ifs : Array Nat := #[]) (fds : Array FieldInfo := #[]) : ClassFile where
  minorVersion := 0
  majorVersion := 65
  constantPool := pool
  accessFlags := fl
  thisClass := this
  superClass := sup
  interfaces := ifs
  fields := fds
  methods := ms
  attributes := attrs
def plain (name : String) (sup : Option ClassId) : Class where
  name := name
  kind := .ordinary
  loader := none
  accessFlags := 33
  super := sup
  interfaces := #[]
  cf := none
  fields := #[]
  methods := #[]
  instanceTypes := #[]
  staticTypes := #[]
  resolved := #[]
  callSites := []
  init := .initialized
  statics := none
  mirror := none

def pool0 : Array CpInfo := pool [(5, u "<init>"), (0, u "()V"), (1, .class_ 10), (1, u "java/lang/Object")] 113

def k0c0 : Code := { maxStack := 0, maxLocals := 1, code := object_method_1_code, exceptionTable := #[], attributes := #[] }
def k0m0 : Method := { name := "<init>", desc := "()V", sig := { parameters := [], returnType := none }, accessFlags := 1, code := some k0c0 }
/-- java/lang/Object -/
def k0 : Class := { plain "java/lang/Object" none with
  accessFlags := 33
  interfaces := #[]
  cf := some (fileOf pool0 8 #[] #[{ accessFlags := 1, nameIndex := 5, descriptorIndex := 6, attributes := #[] }] 33 0 #[] #[])
  fields := #[]
  methods := #[k0m0]
  instanceTypes := #[]
  staticTypes := #[]
  resolved := Array.replicate 124 none
  statics := none }

def pool1 : Array CpInfo := pool [(2, .class_ 4), (1, u "java/lang/Object"), (0, u "<init>"), (0, u "()V"), (0, .methodref 8 9), (0, .class_ 10), (0, .nameAndType 11 12), (0, u "com/example/subsumption/subsumption/DependencySet"), (0, u "of"), (0, u "(I)Lcom/example/subsumption/subsumption/DependencySet;"), (0, .methodref 8 14), (0, .nameAndType 15 16), (0, u "isEmpty"), (0, u "()Z"), (0, .methodref 8 18), (0, .nameAndType 19 20), (0, u "contains"), (0, u "(I)Z"), (0, .methodref 8 22), (0, .nameAndType 23 24), (0, u "highest"), (0, u "()I"), (0, .methodref 8 26), (0, .nameAndType 27 12), (0, u "without"), (0, .class_ 29), (0, u "com/example/subsumption/subsumption/DependencySetOfPinLaw"), (2, u "law"), (0, u "(II)Z")] 3

def k1m0 : Method := { name := "<init>", desc := "()V", sig := { parameters := [], returnType := none }, accessFlags := 1, code := none }
def k1c1 : Code := { maxStack := 2, maxLocals := 8, code := code, exceptionTable := #[], attributes := #[] }
def k1m1 : Method := { name := "law", desc := "(II)Z", sig := { parameters := [.int, .int], returnType := some .boolean }, accessFlags := 9, code := some k1c1 }
/-- com/example/subsumption/subsumption/DependencySetOfPinLaw -/
def k1 : Class := { plain "com/example/subsumption/subsumption/DependencySetOfPinLaw" (some 0) with
  accessFlags := 49
  interfaces := #[]
  cf := some (fileOf pool1 28 #[] #[{ accessFlags := 1, nameIndex := 5, descriptorIndex := 6, attributes := #[] }, { accessFlags := 9, nameIndex := 32, descriptorIndex := 33, attributes := #[] }] 49 2 #[] #[])
  fields := #[]
  methods := #[k1m0, k1m1]
  instanceTypes := #[]
  staticTypes := #[]
  resolved := Array.replicate 37 none
  statics := none }

def pool2 : Array CpInfo := pool [(1, .methodref 2 3), (0, .class_ 4), (0, .nameAndType 5 6), (0, u "java/lang/Object"), (0, u "<init>"), (0, u "()V"), (0, .fieldref 8 9), (0, .class_ 10), (0, .nameAndType 11 12), (0, u "com/example/subsumption/subsumption/DependencySet"), (0, u "levels"), (0, u "[I"), (0, .methodref 8 14), (0, .nameAndType 5 15), (0, u "([I)V"), (0, .methodref 17 18), (0, .class_ 19), (0, .nameAndType 20 21), (0, u "java/util/Arrays"), (0, u "binarySearch"), (0, u "([II)I"), (4, .methodref 27 28), (0, .class_ 29), (0, .nameAndType 30 31), (0, u "java/lang/System"), (0, u "arraycopy"), (0, u "(Ljava/lang/Object;ILjava/lang/Object;II)V"), (6, u "EMPTY"), (0, u "Lcom/example/subsumption/subsumption/DependencySet;"), (2, u "of"), (0, u "(I)Lcom/example/subsumption/subsumption/DependencySet;"), (0, u "isEmpty"), (0, u "()Z"), (1, u "contains"), (0, u "(I)Z"), (0, u "highest"), (0, u "()I"), (3, u "without")] 4

def k2c0 : Code := { maxStack := 2, maxLocals := 2, code := prog_20_method_1_code, exceptionTable := #[], attributes := #[] }
def k2m0 : Method := { name := "<init>", desc := "([I)V", sig := { parameters := [(.array .int)], returnType := none }, accessFlags := 2, code := some k2c0 }
def k2c1 : Code := { maxStack := 6, maxLocals := 1, code := prog_20_method_2_code, exceptionTable := #[], attributes := #[] }
def k2m1 : Method := { name := "of", desc := "(I)Lcom/example/subsumption/subsumption/DependencySet;", sig := { parameters := [.int], returnType := some (.object "com/example/subsumption/subsumption/DependencySet") }, accessFlags := 8, code := some k2c1 }
def k2c2 : Code := { maxStack := 1, maxLocals := 1, code := prog_20_method_3_code, exceptionTable := #[], attributes := #[] }
def k2m2 : Method := { name := "isEmpty", desc := "()Z", sig := { parameters := [], returnType := some .boolean }, accessFlags := 0, code := some k2c2 }
def k2c3 : Code := { maxStack := 2, maxLocals := 2, code := prog_20_method_4_code, exceptionTable := #[], attributes := #[] }
def k2m3 : Method := { name := "contains", desc := "(I)Z", sig := { parameters := [.int], returnType := some .boolean }, accessFlags := 0, code := some k2c3 }
def k2c4 : Code := { maxStack := 3, maxLocals := 1, code := prog_20_method_5_code, exceptionTable := #[], attributes := #[] }
def k2m4 : Method := { name := "highest", desc := "()I", sig := { parameters := [], returnType := some .int }, accessFlags := 0, code := some k2c4 }
def k2c5 : Code := { maxStack := 6, maxLocals := 5, code := prog_20_method_7_code, exceptionTable := #[], attributes := #[] }
def k2m5 : Method := { name := "without", desc := "(I)Lcom/example/subsumption/subsumption/DependencySet;", sig := { parameters := [.int], returnType := some (.object "com/example/subsumption/subsumption/DependencySet") }, accessFlags := 0, code := some k2c5 }
/-- com/example/subsumption/subsumption/DependencySet -/
def k2 : Class := { plain "com/example/subsumption/subsumption/DependencySet" (some 0) with
  accessFlags := 32
  interfaces := #[]
  cf := some (fileOf pool2 8 #[] #[{ accessFlags := 2, nameIndex := 5, descriptorIndex := 15, attributes := #[] }, { accessFlags := 8, nameIndex := 42, descriptorIndex := 43, attributes := #[] }, { accessFlags := 0, nameIndex := 44, descriptorIndex := 45, attributes := #[] }, { accessFlags := 0, nameIndex := 47, descriptorIndex := 48, attributes := #[] }, { accessFlags := 0, nameIndex := 49, descriptorIndex := 50, attributes := #[] }, { accessFlags := 0, nameIndex := 54, descriptorIndex := 43, attributes := #[] }] 32 2 #[] #[{ accessFlags := 24, nameIndex := 38, descriptorIndex := 39, attributes := #[] }, { accessFlags := 18, nameIndex := 11, descriptorIndex := 12, attributes := #[] }])
  fields := #[{ name := "EMPTY", type := (.object "com/example/subsumption/subsumption/DependencySet"), accessFlags := 24, slot := 0, constantValue := 0 }, { name := "levels", type := (.array .int), accessFlags := 18, slot := 0, constantValue := 0 }]
  methods := #[k2m0, k2m1, k2m2, k2m3, k2m4, k2m5]
  instanceTypes := #[(.array .int)]
  staticTypes := #[(.object "com/example/subsumption/subsumption/DependencySet")]
  resolved := Array.replicate 59 none
  statics := none }

def pool3 : Array CpInfo := pool [(2, .class_ 4), (1, u "java/lang/Object"), (0, u "<init>"), (0, u "()V"), (7, .class_ 16), (1, u "java/util/Arrays"), (57, .class_ 76), (1, u "java/util/Arrays$NaturalOrder"), (36, .class_ 115), (1, u "java/util/Arrays$LegacyMergeSort"), (1, u "Z"), (89, u "binarySearch0"), (1, .methodref 14 210), (0, .nameAndType 207 211), (0, u "([IIII)I"), (163, .class_ 376), (0, u "java/util/Arrays$ArrayList"), (68, u "$assertionsDisabled"), (269, u "MIN_ARRAY_SORT_GRAN"), (0, u "I"), (2, u "INSERTIONSORT_THRESHOLD"), (74, u "binarySearch"), (4, u "([II)I"), (175, .class_ 976), (0, u "java/util/Arrays$ArrayItr")] 52

def k3m0 : Method := { name := "<init>", desc := "()V", sig := { parameters := [], returnType := none }, accessFlags := 2, code := none }
def k3c1 : Code := { maxStack := 4, maxLocals := 2, code := jdk_65_method_57_code, exceptionTable := #[], attributes := #[] }
def k3m1 : Method := { name := "binarySearch", desc := "([II)I", sig := { parameters := [(.array .int), .int], returnType := some .int }, accessFlags := 9, code := some k3c1 }
def k3c2 : Code := { maxStack := 2, maxLocals := 8, code := jdk_65_method_59_code, exceptionTable := #[], attributes := #[] }
def k3m2 : Method := { name := "binarySearch0", desc := "([IIII)I", sig := { parameters := [(.array .int), .int, .int, .int], returnType := some .int }, accessFlags := 10, code := some k3c2 }
/-- java/util/Arrays -/
def k3 : Class := { plain "java/util/Arrays" (some 0) with
  accessFlags := 49
  interfaces := #[]
  cf := some (fileOf pool3 14 #[.nestMembers #[975, 375, 113, 74]] #[{ accessFlags := 2, nameIndex := 5, descriptorIndex := 6, attributes := #[] }, { accessFlags := 9, nameIndex := 794, descriptorIndex := 799, attributes := #[] }, { accessFlags := 10, nameIndex := 207, descriptorIndex := 211, attributes := #[] }] 49 2 #[] #[{ accessFlags := 26, nameIndex := 715, descriptorIndex := 716, attributes := #[] }, { accessFlags := 26, nameIndex := 719, descriptorIndex := 716, attributes := #[] }, { accessFlags := 4120, nameIndex := 445, descriptorIndex := 117, attributes := #[] }])
  fields := #[{ name := "MIN_ARRAY_SORT_GRAN", type := .int, accessFlags := 26, slot := 0, constantValue := 0 }, { name := "INSERTIONSORT_THRESHOLD", type := .int, accessFlags := 26, slot := 1, constantValue := 0 }, { name := "$assertionsDisabled", type := .boolean, accessFlags := 4120, slot := 2, constantValue := 0 }]
  methods := #[k3m0, k3m1, k3m2]
  instanceTypes := #[]
  staticTypes := #[.int, .int, .boolean]
  resolved := Array.replicate 1029 none
  statics := none }

def pool4 : Array CpInfo := pool [(2, .class_ 4), (1, u "java/lang/Object"), (0, u "<init>"), (0, u "()V"), (1, .class_ 10), (1, u "java/lang/System"), (0, u "allowSecurityManager"), (0, u "I"), (16, u "cons"), (0, u "Ljava/io/Console;"), (77, .class_ 110), (1, u "java/lang/System$CallersHolder"), (43, u "initialErrStream"), (0, u "Ljava/io/PrintStream;"), (19, u "security"), (0, u "Ljava/lang/SecurityManager;"), (31, .class_ 209), (0, u "java/lang/System$1"), (7, u "props"), (0, u "Ljava/util/Properties;"), (2, u "lineSeparator"), (0, u "Ljava/lang/String;"), (96, .class_ 321), (1, u "java/lang/System$LoggerFinder"), (5, .class_ 328), (0, u "java/lang/System$Logger"), (67, u "err"), (2, u "out"), (91, u "notSupportedJnuEncoding"), (15, u "in"), (17, u "initialIn"), (0, u "Ljava/io/InputStream;"), (35, u "bootLayer"), (0, u "Ljava/lang/ModuleLayer;"), (99, .class_ 664), (0, u "java/lang/System$2"), (9, u "NEVER"), (2, u "MAYBE"), (49, u "arraycopy"), (0, u "(Ljava/lang/Object;ILjava/lang/Object;II)V"), (72, .class_ 802), (0, u "java/lang/System$Logger$Level")] 31

def k4m0 : Method := { name := "<init>", desc := "()V", sig := { parameters := [], returnType := none }, accessFlags := 2, code := none }
def k4m1 : Method := { name := "arraycopy", desc := "(Ljava/lang/Object;ILjava/lang/Object;II)V", sig := { parameters := [(.object "java/lang/Object"), .int, (.object "java/lang/Object"), .int, .int], returnType := none }, accessFlags := 265, code := none }
/-- java/lang/System -/
def k4 : Class := { plain "java/lang/System" (some 0) with
  accessFlags := 49
  interfaces := #[]
  cf := some (fileOf pool4 8 #[.nestMembers #[319, 327, 801, 108, 663, 208]] #[{ accessFlags := 2, nameIndex := 5, descriptorIndex := 6, attributes := #[] }, { accessFlags := 265, nameIndex := 727, descriptorIndex := 728, attributes := #[] }] 49 2 #[] #[{ accessFlags := 25, nameIndex := 507, descriptorIndex := 526, attributes := #[] }, { accessFlags := 25, nameIndex := 399, descriptorIndex := 155, attributes := #[] }, { accessFlags := 25, nameIndex := 396, descriptorIndex := 155, attributes := #[] }, { accessFlags := 10, nameIndex := 525, descriptorIndex := 526, attributes := #[] }, { accessFlags := 26, nameIndex := 674, descriptorIndex := 12, attributes := #[] }, { accessFlags := 26, nameIndex := 677, descriptorIndex := 12, attributes := #[] }, { accessFlags := 10, nameIndex := 11, descriptorIndex := 12, attributes := #[] }, { accessFlags := 74, nameIndex := 175, descriptorIndex := 176, attributes := #[] }, { accessFlags := 10, nameIndex := 491, descriptorIndex := 222, attributes := #[] }, { accessFlags := 74, nameIndex := 29, descriptorIndex := 30, attributes := #[] }, { accessFlags := 74, nameIndex := 154, descriptorIndex := 155, attributes := #[] }, { accessFlags := 10, nameIndex := 217, descriptorIndex := 218, attributes := #[] }, { accessFlags := 10, nameIndex := 221, descriptorIndex := 222, attributes := #[] }, { accessFlags := 8, nameIndex := 562, descriptorIndex := 563, attributes := #[] }])
  fields := #[{ name := "in", type := (.object "java/io/InputStream"), accessFlags := 25, slot := 0, constantValue := 0 }, { name := "out", type := (.object "java/io/PrintStream"), accessFlags := 25, slot := 1, constantValue := 0 }, { name := "err", type := (.object "java/io/PrintStream"), accessFlags := 25, slot := 2, constantValue := 0 }, { name := "initialIn", type := (.object "java/io/InputStream"), accessFlags := 10, slot := 3, constantValue := 0 }, { name := "NEVER", type := .int, accessFlags := 26, slot := 4, constantValue := 0 }, { name := "MAYBE", type := .int, accessFlags := 26, slot := 5, constantValue := 0 }, { name := "allowSecurityManager", type := .int, accessFlags := 10, slot := 6, constantValue := 0 }, { name := "security", type := (.object "java/lang/SecurityManager"), accessFlags := 74, slot := 7, constantValue := 0 }, { name := "notSupportedJnuEncoding", type := (.object "java/lang/String"), accessFlags := 10, slot := 8, constantValue := 0 }, { name := "cons", type := (.object "java/io/Console"), accessFlags := 74, slot := 9, constantValue := 0 }, { name := "initialErrStream", type := (.object "java/io/PrintStream"), accessFlags := 74, slot := 10, constantValue := 0 }, { name := "props", type := (.object "java/util/Properties"), accessFlags := 10, slot := 11, constantValue := 0 }, { name := "lineSeparator", type := (.object "java/lang/String"), accessFlags := 10, slot := 12, constantValue := 0 }, { name := "bootLayer", type := (.object "java/lang/ModuleLayer"), accessFlags := 8, slot := 13, constantValue := 0 }]
  methods := #[k4m0, k4m1]
  instanceTypes := #[]
  staticTypes := #[(.object "java/io/InputStream"), (.object "java/io/PrintStream"), (.object "java/io/PrintStream"), (.object "java/io/InputStream"), .int, .int, .int, (.object "java/lang/SecurityManager"), (.object "java/lang/String"), (.object "java/io/Console"), (.object "java/io/PrintStream"), (.object "java/util/Properties"), (.object "java/lang/String"), (.object "java/lang/ModuleLayer")]
  resolved := Array.replicate 834 none
  statics := none }

def pool5 : Array CpInfo := pool [(1, u "java/lang/Cloneable"), (0, .class_ 1), (0, u "java/lang/Object"), (0, .class_ 3)] 3

/-- java/lang/Cloneable -/
def k5 : Class := { plain "java/lang/Cloneable" (some 0) with
  accessFlags := 1537
  interfaces := #[]
  cf := some (fileOf pool5 2 #[] #[] 1537 4 #[] #[])
  fields := #[]
  methods := #[]
  instanceTypes := #[]
  staticTypes := #[]
  resolved := Array.replicate 8 none
  statics := none }

def pool6 : Array CpInfo := pool [(1, u "java/io/Serializable"), (0, .class_ 1), (0, u "java/lang/Object"), (0, .class_ 3)] 3

/-- java/io/Serializable -/
def k6 : Class := { plain "java/io/Serializable" (some 0) with
  accessFlags := 1537
  interfaces := #[]
  cf := some (fileOf pool6 2 #[] #[] 1537 4 #[] #[])
  fields := #[]
  methods := #[]
  instanceTypes := #[]
  staticTypes := #[]
  resolved := Array.replicate 8 none
  statics := none }

/-- the primitive byte -/
def k7 : Class := { plain "byte" none with kind := .primitive 'B', accessFlags := 0x411 }
/-- [B -/
def k8 : Class := { plain "[B" (some 0) with kind := .array 7 .byte, interfaces := #[5, 6], accessFlags := 1041 }

/-- the primitive int -/
def k9 : Class := { plain "int" none with kind := .primitive 'I', accessFlags := 0x411 }
/-- [I -/
def k10 : Class := { plain "[I" (some 0) with kind := .array 9 .int, interfaces := #[5, 6], accessFlags := 1041 }

def heap : Heap := #[]
def classes : Array Class := #[k0, k1, k2, k3, k4, k5, k6, k7, k8, k9, k10]
def interned : List (Array UInt16 × Addr) := []
def slotsUsed : Nat := 0
def theMethod : MethodId := ⟨1, 1⟩
def args0 : Array Value := #[.int 5, .int 7]
def aboutOver (below : List Frame) : State where
  vm := { classes := classes, interned := interned.toArray }
  heap := heap
  slotsUsed := slotsUsed
  threads := #[{ frames := .invoking theMethod args0 :: below }]
def below0 : List Frame := [.native { method := ⟨0, 0⟩, args := #[] }]
def about1 : State := aboutOver below0
def p0 : Program := .bare "" "" ""
def e0 : Env := launch0.env 0 0 0
theorem w_frames : about1.frames = Frame.invoking theMethod args0 :: below0 := rfl
set_option maxRecDepth 65536 in
theorem w_args : argsFit about1.vm theMethod args0 = true := by decide +kernel
set_option maxRecDepth 65536 in
theorem w_heap : heapFits about1 = true := by decide +kernel
set_option maxRecDepth 65536 in
theorem w_runnable : about1.curStatus? = some .runnable := by decide +kernel
set_option maxRecDepth 65536 in
theorem w_alone : about1.alone = true := by decide +kernel
set_option maxRecDepth 65536 in
theorem w_named : about1.methodNamed? x = some theMethod := by decide +kernel
set_option maxRecDepth 65536 in
theorem w_hears : about1.hears theMethod below0 = true := by decide +kernel
set_option maxRecDepth 65536 in
theorem w_ripe : about1.ripe theMethod args0 below0 = true := by decide +kernel
theorem w_running : about1.status = .running := rfl
set_option maxRecDepth 65536 in
theorem w_room : about1.hasRoom e0.platform room_1 = true :=
  launch0.hasRoom_least _ room_1 (by decide +kernel) (by decide +kernel) (by decide +kernel) (by decide +kernel) (by decide +kernel) (by decide +kernel)
theorem allAtoms_all (ts : List Jvm.Cond) (a : Array Jvm.Value) (st : Jvm.State) : (allAtoms ts).before a st = ts.all (fun c => c.before a st) := by
  induction ts with
  | nil => rfl
  | cons c t ih =>
    show (Jvm.Cond.and c (allAtoms t)).before a st = _
    rw [Jvm.Cond.before_and, ih, List.all_cons]
def words1 : List Jvm.Cond := Jvm.Cond.code x code maxLocals ret :: tables_1
/-- a 'code' word, met by the world's own term for the bytes: nothing is compared byte by byte -/
theorem code_word {y : MethodName} {bytes : ByteArray} {mx : Nat} {rt : Option FieldType} {a : Array Value} {s : State} {m : MethodId} {meth : Method} {c : Code} (h1 : s.methodNamed? y = some m) (h2 : s.vm.method? m = some meth) (h3 : meth.code = some c) (h4 : c.code = bytes)
    (h5 : (c.maxLocals == mx && c.exceptionTable.isEmpty && decide (c.maxStack ≤ mostOperands) && decide (meth.sig.returnType = rt) && !meth.locks && decide (parseMethodDescriptor y.desc = some meth.sig)) = true) : (Jvm.Cond.code y bytes mx rt).before a s = true := by
  simp only [Bool.and_eq_true, beq_iff_eq, Bool.not_eq_true', decide_eq_true_eq] at h5
  obtain ⟨⟨⟨⟨⟨g1, g2⟩, g3⟩, g4⟩, g5⟩, g6⟩ := h5
  simp [Cond.before, Cond.holds, Cond.value, h1, h2, h3, h4, g1, g2, g3, g4, g5, g6]
def isCode : Jvm.Cond → Bool
  | .code _ _ _ _ => true
  | _ => false
theorem all_split {L : List Jvm.Cond} {P : Jvm.Cond → Bool} (h1 : L.all (fun c => isCode c || P c) = true) (h2 : ∀ c ∈ L.filter isCode, P c = true) : L.all P = true := by
  refine List.all_eq_true.mpr fun c hc => ?_
  have h := List.all_eq_true.mp h1 c hc
  rcases Bool.eq_false_or_eq_true (isCode c) with hi | hi
  · exact h2 c (List.mem_filter.mpr ⟨hc, hi⟩)
  · simpa [hi] using h
set_option maxRecDepth 65536 in
theorem w_c0 : (Jvm.Cond.code x code maxLocals ret).before args0 about1 = true := code_word (m := ⟨1, 1⟩) (meth := k1m1) (c := k1c1) (by decide +kernel) rfl rfl rfl (by decide +kernel)
set_option maxRecDepth 65536 in
theorem w_c1 : (Jvm.Cond.code ({ cls := "com/example/subsumption/subsumption/DependencySet", name := "of", desc := "(I)Lcom/example/subsumption/subsumption/DependencySet;" } : Jvm.MethodName) prog_20_method_2_code (1 : Nat) (Option.some (Jvm.ClassFile.FieldType.object "com/example/subsumption/subsumption/DependencySet"))).before args0 about1 = true := code_word (m := ⟨2, 1⟩) (meth := k2m1) (c := k2c1) (by decide +kernel) rfl rfl rfl (by decide +kernel)
set_option maxRecDepth 65536 in
theorem w_c2 : (Jvm.Cond.code ({ cls := "com/example/subsumption/subsumption/DependencySet", name := "<init>", desc := "([I)V" } : Jvm.MethodName) prog_20_method_1_code (2 : Nat) (Option.none : Option Jvm.ClassFile.FieldType)).before args0 about1 = true := code_word (m := ⟨2, 0⟩) (meth := k2m0) (c := k2c0) (by decide +kernel) rfl rfl rfl (by decide +kernel)
set_option maxRecDepth 65536 in
theorem w_c3 : (Jvm.Cond.code ({ cls := "java/lang/Object", name := "<init>", desc := "()V" } : Jvm.MethodName) object_method_1_code (1 : Nat) (Option.none : Option Jvm.ClassFile.FieldType)).before args0 about1 = true := code_word (m := ⟨0, 0⟩) (meth := k0m0) (c := k0c0) (by decide +kernel) rfl rfl rfl (by decide +kernel)
set_option maxRecDepth 65536 in
theorem w_c4 : (Jvm.Cond.code ({ cls := "com/example/subsumption/subsumption/DependencySet", name := "isEmpty", desc := "()Z" } : Jvm.MethodName) prog_20_method_3_code (1 : Nat) (Option.some Jvm.ClassFile.FieldType.boolean)).before args0 about1 = true := code_word (m := ⟨2, 2⟩) (meth := k2m2) (c := k2c2) (by decide +kernel) rfl rfl rfl (by decide +kernel)
set_option maxRecDepth 65536 in
theorem w_c5 : (Jvm.Cond.code ({ cls := "com/example/subsumption/subsumption/DependencySet", name := "contains", desc := "(I)Z" } : Jvm.MethodName) prog_20_method_4_code (2 : Nat) (Option.some Jvm.ClassFile.FieldType.boolean)).before args0 about1 = true := code_word (m := ⟨2, 3⟩) (meth := k2m3) (c := k2c3) (by decide +kernel) rfl rfl rfl (by decide +kernel)
set_option maxRecDepth 65536 in
theorem w_c6 : (Jvm.Cond.code ({ cls := "java/util/Arrays", name := "binarySearch", desc := "([II)I" } : Jvm.MethodName) jdk_65_method_57_code (2 : Nat) (Option.some Jvm.ClassFile.FieldType.int)).before args0 about1 = true := code_word (m := ⟨3, 1⟩) (meth := k3m1) (c := k3c1) (by decide +kernel) rfl rfl rfl (by decide +kernel)
set_option maxRecDepth 65536 in
theorem w_c7 : (Jvm.Cond.code ({ cls := "java/util/Arrays", name := "binarySearch0", desc := "([IIII)I" } : Jvm.MethodName) jdk_65_method_59_code (8 : Nat) (Option.some Jvm.ClassFile.FieldType.int)).before args0 about1 = true := code_word (m := ⟨3, 2⟩) (meth := k3m2) (c := k3c2) (by decide +kernel) rfl rfl rfl (by decide +kernel)
set_option maxRecDepth 65536 in
theorem w_c8 : (Jvm.Cond.code ({ cls := "com/example/subsumption/subsumption/DependencySet", name := "highest", desc := "()I" } : Jvm.MethodName) prog_20_method_5_code (1 : Nat) (Option.some Jvm.ClassFile.FieldType.int)).before args0 about1 = true := code_word (m := ⟨2, 4⟩) (meth := k2m4) (c := k2c4) (by decide +kernel) rfl rfl rfl (by decide +kernel)
set_option maxRecDepth 65536 in
theorem w_c9 : (Jvm.Cond.code ({ cls := "com/example/subsumption/subsumption/DependencySet", name := "without", desc := "(I)Lcom/example/subsumption/subsumption/DependencySet;" } : Jvm.MethodName) prog_20_method_7_code (5 : Nat) (Option.some (Jvm.ClassFile.FieldType.object "com/example/subsumption/subsumption/DependencySet"))).before args0 about1 = true := code_word (m := ⟨2, 5⟩) (meth := k2m5) (c := k2c5) (by decide +kernel) rfl rfl rfl (by decide +kernel)
def codes1 : List Jvm.Cond := [Jvm.Cond.code x code maxLocals ret, Jvm.Cond.code ({ cls := "com/example/subsumption/subsumption/DependencySet", name := "of", desc := "(I)Lcom/example/subsumption/subsumption/DependencySet;" } : Jvm.MethodName) prog_20_method_2_code (1 : Nat) (Option.some (Jvm.ClassFile.FieldType.object "com/example/subsumption/subsumption/DependencySet")), Jvm.Cond.code ({ cls := "com/example/subsumption/subsumption/DependencySet", name := "<init>", desc := "([I)V" } : Jvm.MethodName) prog_20_method_1_code (2 : Nat) (Option.none : Option Jvm.ClassFile.FieldType), Jvm.Cond.code ({ cls := "java/lang/Object", name := "<init>", desc := "()V" } : Jvm.MethodName) object_method_1_code (1 : Nat) (Option.none : Option Jvm.ClassFile.FieldType), Jvm.Cond.code ({ cls := "com/example/subsumption/subsumption/DependencySet", name := "isEmpty", desc := "()Z" } : Jvm.MethodName) prog_20_method_3_code (1 : Nat) (Option.some Jvm.ClassFile.FieldType.boolean), Jvm.Cond.code ({ cls := "com/example/subsumption/subsumption/DependencySet", name := "contains", desc := "(I)Z" } : Jvm.MethodName) prog_20_method_4_code (2 : Nat) (Option.some Jvm.ClassFile.FieldType.boolean), Jvm.Cond.code ({ cls := "java/util/Arrays", name := "binarySearch", desc := "([II)I" } : Jvm.MethodName) jdk_65_method_57_code (2 : Nat) (Option.some Jvm.ClassFile.FieldType.int), Jvm.Cond.code ({ cls := "java/util/Arrays", name := "binarySearch0", desc := "([IIII)I" } : Jvm.MethodName) jdk_65_method_59_code (8 : Nat) (Option.some Jvm.ClassFile.FieldType.int), Jvm.Cond.code ({ cls := "com/example/subsumption/subsumption/DependencySet", name := "highest", desc := "()I" } : Jvm.MethodName) prog_20_method_5_code (1 : Nat) (Option.some Jvm.ClassFile.FieldType.int), Jvm.Cond.code ({ cls := "com/example/subsumption/subsumption/DependencySet", name := "without", desc := "(I)Lcom/example/subsumption/subsumption/DependencySet;" } : Jvm.MethodName) prog_20_method_7_code (5 : Nat) (Option.some (Jvm.ClassFile.FieldType.object "com/example/subsumption/subsumption/DependencySet"))]
set_option maxRecDepth 65536 in
theorem codes_eq : words1.filter isCode = codes1 := rfl
theorem w_codes : ∀ c ∈ words1.filter isCode, c.before args0 about1 = true := by
  rw [codes_eq]
  intro c hc
  simp only [codes1, List.mem_cons, List.not_mem_nil, or_false] at hc
  rcases hc with rfl | rfl | rfl | rfl | rfl | rfl | rfl | rfl | rfl | rfl
  · exact w_c0
  · exact w_c1
  · exact w_c2
  · exact w_c3
  · exact w_c4
  · exact w_c5
  · exact w_c6
  · exact w_c7
  · exact w_c8
  · exact w_c9
set_option maxRecDepth 65536 in
theorem w_t1 : (words1.take 24).all (fun c => isCode c || c.before args0 about1) = true := by decide +kernel
set_option maxRecDepth 65536 in
theorem w_t2 : (words1.drop 24).all (fun c => isCode c || c.before args0 about1) = true := by decide +kernel
theorem w_tables : (allAtoms (Jvm.Cond.code x code maxLocals ret :: tables_1)).before args0 about1 = true := by
  rw [allAtoms_all]
  show words1.all (fun c => c.before args0 about1) = true
  refine all_split ?_ w_codes
  rw [← List.take_append_drop 24 words1, List.all_append, w_t1, w_t2]
  rfl
set_option maxRecDepth 65536 in
theorem w_case : (Jvm.Cond.and given_1 narrow_1).before args0 about1 = true := by decide +kernel
theorem w_applies : (headSpec (Jvm.Cond.code x code maxLocals ret :: tables_1) room_1).applies x e0.platform about1 = true :=
  (Spec.applies_iff w_frames).mpr ⟨w_running, w_runnable, w_alone, w_named, w_hears, w_ripe, w_room, w_tables⟩
theorem atStart : AtStart classFile x code maxLocals ret World_1 tables_1 room_1 Calls_1 rest_1 Pre_1 launch0 p0 e0 about1 theMethod args0 below0 :=
  ⟨lists_1, trivial, launch0.admits_env _ _ _, launch0.least_env, fairChoices_fair.cas, fairChoices_fair.clock, w_frames, w_args, w_heap, w_applies, trivial, trivial, w_case⟩
end start1
theorem witness_1 : WitnessClaimed_1 := ⟨start1.p0, start1.e0, start1.about1, start1.theMethod, start1.args0, start1.below0, start1.atStart⟩
end Jvm.Pilot.@@N@@

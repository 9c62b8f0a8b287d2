import JvmDerived
import JvmDerived.Pilot.@@N@@Statement
import JvmDerived.Pilot.@@N@@Code
set_option linter.unusedVariables false
set_option linter.unusedSimpArgs false
namespace Jvm.RoadKit
open Sem ClassFile Op Lib Jvm.Stand Jvm.Free Jvm.LawKit
section New
variable {p : Program} {l : Launch} {e : Env} {R : Room} {s : State} {m : MethodId} {args : Array Value} {below : List Frame} {meth : Method} {c : Code} {T : State} {locs : List Loc} {cells slots : Nat}
theorem retI (X : Stand p l e R s m args below meth c T locs cells slots) (hx : p.tables.exec = Jvm.exec) {pc : Nat} {Ls : Array Slot} {z : Int32} {rest : List Value} (hret : meth.sig.returnType = some .int) (hd : decode c.code pc = .ok (.ireturn, 1)) {fs : List Frame}
    (hl : ∀ (f : JFrame) (acts : List Action), f.method = m → f.locked = none → f.entered = [] → (doReturn e (T.setTop f) acts (some (.int z))).1 = T.setFrames fs) : Steps p.tables e below (T.setTop (mkF m pc Ls (.int z :: rest))) (T.setFrames fs) := by
  have hm' : T.vm.method? m = some meth := X.method'
  have hn : narrow .int (.int z) = .int z := rfl
  show Steps p.tables e below (T.setTop { method := m, pc := pc, locals := Ls, stack := _ :: rest, locked := none }) _
  jvm_step X.here [X.here.top, hx, hd, hm', hret, hn]
  first | (intro acts; rw [hl _ acts rfl rfl rfl]) | rw [hl _ _ rfl rfl rfl]
  exact Steps.refl _
end New
end Jvm.RoadKit
namespace Jvm.Pilot.@@N@@
open Jvm Jvm.ClassFile Sem Op Lib Jvm.Free Jvm.Stand Jvm.LawKit Jvm.RoadKit Bundle Jvm.Pilot.@@N@@.Jvm.D
abbrev SS (p : Program) (e : Env) (below : List Frame) (T : State) (f : JFrame) (t : State) : Prop := Steps p.tables e below (T.setTop f) t
theorem wi {Z : State} {a0 : Array Value} (hw : ∀ d ∈ tables_1, d.before a0 Z = true) (i : Nat) {d : Jvm.Cond} (h : tables_1[i]? = some d) : d.before a0 Z = true := hw _ (List.mem_of_getElem? h)
theorem d_prog_4_method_1_0 : decode prog_4_method_1_code 0 = .ok (.aload_n 0, 1) := by decide +kernel
theorem d_prog_4_method_1_1 : decode prog_4_method_1_code 1 = .ok (.invokespecial 1, 3) := by decide +kernel
theorem d_prog_4_method_1_4 : decode prog_4_method_1_code 4 = .ok (.aload_n 0, 1) := by decide +kernel
theorem d_prog_4_method_1_5 : decode prog_4_method_1_code 5 = .ok (.getstatic 7, 3) := by decide +kernel
theorem d_prog_4_method_1_8 : decode prog_4_method_1_code 8 = .ok (.putfield 13, 3) := by decide +kernel
theorem d_prog_4_method_1_11 : decode prog_4_method_1_code 11 = .ok (.aload_n 0, 1) := by decide +kernel
theorem d_prog_4_method_1_12 : decode prog_4_method_1_code 12 = .ok (.getstatic 7, 3) := by decide +kernel
theorem d_prog_4_method_1_15 : decode prog_4_method_1_code 15 = .ok (.putfield 16, 3) := by decide +kernel
theorem d_prog_4_method_1_18 : decode prog_4_method_1_code 18 = .ok (.return_, 1) := by decide +kernel
theorem pn_com_example_macroweave_macroweave_BracketPairs : plainName "com/example/macroweave/macroweave/BracketPairs" = true := by first | (simp [plainName, overriddenIn]; done) | decide +kernel
def Q_init (Z : State) (a1 : Addr) (aN : Addr) (u1 : Value) (u2 : Value) (u3 : Value) (u4 : Value) (h0 : Heap) (n0 : Nat) (xv : Option Value) (xh : Heap) (xL : List Loc) : Prop := xv = none ∧ Fr n0 xL ∧ Keep h0 xh [a1] ∧ Exa Z xh a1 "com/example/macroweave/macroweave/BracketPairs" ∧ Fld Z xh a1 "com/example/macroweave/macroweave/BracketPairs" "contentStarts" "[I" (.ref aN) ∧ Fld Z xh a1 "com/example/macroweave/macroweave/BracketPairs" "closes" "[I" (.ref aN) ∧ Fld Z xh a1 "com/example/macroweave/macroweave/BracketPairs" "brackets" "Lcom/example/macroweave/macroweave/Brackets;" u3 ∧ Fld Z xh a1 "com/example/macroweave/macroweave/BracketPairs" "size" "I" u4
theorem ef_init (mM : MethodId) (a1 : Addr) (aN : Addr) (u1 : Value) (u2 : Value) (u3 : Value) (u4 : Value) : entryFrame mM #[(.ref a1)] 1 = mkF mM 0 #[.val (.ref a1)] [] := by first | (simp [entryFrame, mkF, argsToLocals, Value.category]; done) | rfl
set_option maxRecDepth 65536 in
set_option maxHeartbeats 40000000 in
theorem rm_init (l : Launch) (Z : State) (a0 : Array Value) (hw : ∀ d ∈ tables_1, d.before a0 Z = true) (ws : List Jvm.Cond) (a1 : Addr) (aN : Addr) (u1 : Value) (u2 : Value) (u3 : Value) (u4 : Value) (h0 : Heap) (n0 : Nat) (Z0 : n0 ≤ h0.size) (E_a1 : Exa Z h0 a1 "com/example/macroweave/macroweave/BracketPairs") (F_contentStarts_a1 : Fld Z h0 a1 "com/example/macroweave/macroweave/BracketPairs" "contentStarts" "[I" u1) (F_closes_a1 : Fld Z h0 a1 "com/example/macroweave/macroweave/BracketPairs" "closes" "[I" u2) (F_brackets_a1 : Fld Z h0 a1 "com/example/macroweave/macroweave/BracketPairs" "brackets" "Lcom/example/macroweave/macroweave/Brackets;" u3) (F_size_a1 : Fld Z h0 a1 "com/example/macroweave/macroweave/BracketPairs" "size" "I" u4) (g_a1 : @LE.le Nat _ n0 a1) (OL : Old Z n0 h0) (S_NONE : Sta Z Z.heap "com/example/macroweave/macroweave/BracketPairs" "NONE" "[I" (.ref aN)) :
    MetFree l (⟨"com/example/macroweave/macroweave/BracketPairs", "<init>", "()V"⟩ : MethodName) (head1 (Jvm.Cond.code (⟨"com/example/macroweave/macroweave/BracketPairs", "<init>", "()V"⟩ : MethodName) prog_4_method_1_code 1 none :: ws) ({ frames := 1, cells := 0, slots := 0, locals := 12 } : Room)) (fun xa xU => xa = #[(.ref a1)] ∧ Z.Warmed39 xU.vm ∧ xU.heap = h0) (fun _ _ _ _ _ => True) (fun _ xU xo xU' => ∃ xv xL, xo = .returned xv ∧ Q_init Z a1 aN u1 u2 u3 u4 h0 n0 xv xU'.heap xL ∧ FrameEnd xU xo xU' xL ({ frames := 1, cells := 0, slots := 0, locals := 12 } : Room).cells ({ frames := 1, cells := 0, slots := 0, locals := 12 } : Room).slots) := by
  refine MetFree.of_bodySF (plainFor_of_name pn_com_example_macroweave_macroweave_BracketPairs) hisR ?_
  intro pP eE sS mM argS belowS methS cC s₁ Bd hml0 hP hK
  obtain ⟨rfl, hZ, hh⟩ := hP
  have hx := Bd.exec
  have hby := Bd.bytes
  have hml : cC.maxLocals = 1 := hml0
  have hown : sS.vm.findClass "com/example/macroweave/macroweave/BracketPairs" = some mM.cls := findClass_of_methodNamed Bd.named
  have hnm := (name_of_methodNamed Bd.named Bd.method).1
  have X0 : Stand pP l eE ({ frames := 1, cells := 0, slots := 0, locals := 12 } : Room) sS mM #[(.ref a1)] belowS methS cC s₁ [] 0 0 := Stand.of_body Bd
  have e0 : s₁.heap = h0 := by rw [← hh, Bd.state]; rfl
  have N0 := Fr.nil n0
  have pre0 : ∀ t', Steps pP.tables eE belowS (s₁.setTop (mkF mM 0 #[.val (.ref a1)] [])) t' → Steps pP.tables eE belowS (s₁.setTop (entryFrame mM #[(.ref a1)] 1)) t' := fun t' kk' => castTop (ef_init mM a1 aN u1 u2 u3 u4) kk'
  obtain ⟨T101, X101, e101, st101⟩ := initO X0 hx hZ hown (wi hw 9 rfl) (wi hw 10 rfl) (wi hw 11 rfl) e0 (g := (mkF mM 1 #[.val (.ref a1)] [(.ref a1)])) rfl (by rw [hml]; rfl) rfl (hb hby d_prog_4_method_1_1) (by decide) (W := 0) (by show 2 * 0 + _ ≤ _; exact Nat.le_of_eq rfl) (by decide)
  have c102_S_NONE : Sta Z h0 "com/example/macroweave/macroweave/BracketPairs" "NONE" "[I" (.ref aN) := Sta.ext OL.2 S_NONE
  obtain ⟨T103, X103, e103, st103⟩ := getS2 X101 hx hZ hown (host := "") (Or.inl (wi hw 12 rfl)) Via.refl e101 c102_S_NONE (g := (mkF mM 5 #[.val (.ref a1)] [(.ref a1)])) rfl (hb hby d_prog_4_method_1_5)
  obtain ⟨T104, h104, X104, e104, W104, st104⟩ := putF X103 hx hZ hown (host := "") (Or.inl (wi hw 14 rfl)) Via.refl e103 F_contentStarts_a1 E_a1 (Or.inl (wi hw 15 rfl)) (wi hw 4 rfl) (ty := (.array .int)) (by decide) rfl rfl (g := (mkF mM 8 #[.val (.ref a1)] [(.ref aN), (.ref a1)])) rfl rfl (hb hby d_prog_4_method_1_8)
  have Sz1 : h0.size ≤ h104.size := Nat.le_of_eq (Wr.size W104).symm
  have Fw104 : Fld Z h104 a1 "com/example/macroweave/macroweave/BracketPairs" "contentStarts" "[I" (.ref aN) := Fld.same W104 F_contentStarts_a1
  have N104 := Fr.snoc X104 N0 g_a1
  have c105_OL : Old Z n0 h104 := OL.wr W104 g_a1
  have c106_S_NONE : Sta Z h104 "com/example/macroweave/macroweave/BracketPairs" "NONE" "[I" (.ref aN) := Sta.ext c105_OL.2 S_NONE
  obtain ⟨T107, X107, e107, st107⟩ := getS2 X104 hx hZ hown (host := "") (Or.inl (wi hw 12 rfl)) Via.refl e104 c106_S_NONE (g := (mkF mM 12 #[.val (.ref a1)] [(.ref a1)])) rfl (hb hby d_prog_4_method_1_12)
  have c108_F_closes_a1 : Fld Z h104 a1 "com/example/macroweave/macroweave/BracketPairs" "closes" "[I" u2 := Fld.other W104 F_closes_a1 (Or.inr (slot_ne (Or.inl (wi hw 17 rfl)) (Or.inl (wi hw 15 rfl)) (by decide) (t := (.array .int)) (t' := (.array .int)) (by decide) (by decide)))
  have c109_E_a1 : Exa Z h104 a1 "com/example/macroweave/macroweave/BracketPairs" := Exa.wr W104 E_a1
  obtain ⟨T110, h110, X110, e110, W110, st110⟩ := putF X107 hx hZ hown (host := "") (Or.inl (wi hw 16 rfl)) Via.refl e107 c108_F_closes_a1 c109_E_a1 (Or.inl (wi hw 17 rfl)) (wi hw 4 rfl) (ty := (.array .int)) (by decide) rfl rfl (g := (mkF mM 15 #[.val (.ref a1)] [(.ref aN), (.ref a1)])) rfl rfl (hb hby d_prog_4_method_1_15)
  have Sz2 : h104.size ≤ h110.size := Nat.le_of_eq (Wr.size W110).symm
  have Fw110 : Fld Z h110 a1 "com/example/macroweave/macroweave/BracketPairs" "closes" "[I" (.ref aN) := Fld.same W110 c108_F_closes_a1
  have N110 := Fr.snoc X110 N104 g_a1
  have c111_E_a1 : Exa Z h110 a1 "com/example/macroweave/macroweave/BracketPairs" := Exa.wr W110 c109_E_a1
  have c112_F_contentStarts_a1 : Fld Z h110 a1 "com/example/macroweave/macroweave/BracketPairs" "contentStarts" "[I" (.ref aN) := Fld.other W110 Fw104 (Or.inr (slot_ne (Or.inl (wi hw 15 rfl)) (Or.inl (wi hw 17 rfl)) (by decide) (t := (.array .int)) (t' := (.array .int)) (by decide) (by decide)))
  have c113_F_brackets_a1 : Fld Z h104 a1 "com/example/macroweave/macroweave/BracketPairs" "brackets" "Lcom/example/macroweave/macroweave/Brackets;" u3 := Fld.other W104 F_brackets_a1 (Or.inr (slot_ne (Or.inl (wi hw 24 rfl)) (Or.inl (wi hw 15 rfl)) (by decide) (t := (.object "com/example/macroweave/macroweave/Brackets")) (t' := (.array .int)) (by decide) (by decide)))
  have c114_F_brackets_a1 : Fld Z h110 a1 "com/example/macroweave/macroweave/BracketPairs" "brackets" "Lcom/example/macroweave/macroweave/Brackets;" u3 := Fld.other W110 c113_F_brackets_a1 (Or.inr (slot_ne (Or.inl (wi hw 24 rfl)) (Or.inl (wi hw 17 rfl)) (by decide) (t := (.object "com/example/macroweave/macroweave/Brackets")) (t' := (.array .int)) (by decide) (by decide)))
  have c115_F_size_a1 : Fld Z h104 a1 "com/example/macroweave/macroweave/BracketPairs" "size" "I" u4 := Fld.other W104 F_size_a1 (Or.inr (slot_ne (Or.inl (wi hw 26 rfl)) (Or.inl (wi hw 15 rfl)) (by decide) (t := .int) (t' := (.array .int)) (by decide) (by decide)))
  have c116_F_size_a1 : Fld Z h110 a1 "com/example/macroweave/macroweave/BracketPairs" "size" "I" u4 := Fld.other W110 c115_F_size_a1 (Or.inr (slot_ne (Or.inl (wi hw 26 rfl)) (Or.inl (wi hw 17 rfl)) (by decide) (t := .int) (t' := (.array .int)) (by decide) (by decide)))
  have K117 : Keep h0 h104 [a1] := (Keep.refl h0 [a1]).wr W104 (Or.inl (List.mem_of_getElem? (i := 0) rfl))
  have K118 : Keep h0 h110 [a1] := K117.wr W110 (Or.inl (List.mem_of_getElem? (i := 0) rfl))
  obtain ⟨fs, hr, hrun, hended, hW, hsame⟩ := X110.leave (v := none) (fun _ => rfl)
  refine ⟨_, _, pre0 _ ?_, hrun, hended, _, _, rfl, ?_, ⟨_, rfl⟩, hW, hsame.mono (by decide) (by decide)⟩
  · show SS pP eE belowS s₁ (mkF mM 0 #[.val (.ref a1)] []) _
    refine XS.aloadN X0.here hx rfl (hb hby d_prog_4_method_1_0) rfl rfl ?_
    show SS pP eE belowS s₁ (mkF mM 1 #[.val (.ref a1)] [(.ref a1)]) _
    refine st101 _ ?_
    show SS pP eE belowS T101 (mkF mM 4 #[.val (.ref a1)] []) _
    refine XS.aloadN X101.here hx rfl (hb hby d_prog_4_method_1_4) rfl rfl ?_
    show SS pP eE belowS T101 (mkF mM 5 #[.val (.ref a1)] [(.ref a1)]) _
    refine st103 _ ?_
    show SS pP eE belowS T103 (mkF mM 8 #[.val (.ref a1)] [(.ref aN), (.ref a1)]) _
    refine st104 _ ?_
    show SS pP eE belowS T104 (mkF mM 11 #[.val (.ref a1)] []) _
    refine XS.aloadN X104.here hx rfl (hb hby d_prog_4_method_1_11) rfl rfl ?_
    show SS pP eE belowS T104 (mkF mM 12 #[.val (.ref a1)] [(.ref a1)]) _
    refine st107 _ ?_
    show SS pP eE belowS T107 (mkF mM 15 #[.val (.ref a1)] [(.ref aN), (.ref a1)]) _
    refine st110 _ ?_
    show SS pP eE belowS T110 (mkF mM 18 #[.val (.ref a1)] []) _
    exact X110.returnOut hx Bd.returns (hb hby d_prog_4_method_1_18) hr
  · show Q_init Z a1 aN u1 u2 u3 u4 h0 n0 _ T110.heap _
    rw [e110]
    exact ⟨rfl, N110, K118, c111_E_a1, c112_F_contentStarts_a1, Fw110, c114_F_brackets_a1, c116_F_size_a1⟩
theorem d_jdk_29_method_65_0 : decode jdk_29_method_65_code 0 = .ok (.iload_n 0, 1) := by decide +kernel
theorem d_jdk_29_method_65_1 : decode jdk_29_method_65_code 1 = .ok (.iload_n 1, 1) := by decide +kernel
theorem d_jdk_29_method_65_2 : decode jdk_29_method_65_code 2 = .ok (.if_icmp .lt 7, 3) := by decide +kernel
theorem d_jdk_29_method_65_5 : decode jdk_29_method_65_code 5 = .ok (.iload_n 0, 1) := by decide +kernel
theorem d_jdk_29_method_65_6 : decode jdk_29_method_65_code 6 = .ok (.goto 4, 3) := by decide +kernel
theorem d_jdk_29_method_65_10 : decode jdk_29_method_65_code 10 = .ok (.ireturn, 1) := by decide +kernel
def Q_max40 (Z : State)  (h0 : Heap) (n0 : Nat) (xv : Option Value) (xh : Heap) (xL : List Loc) : Prop := xv = some (.int (4 : Int32)) ∧ Fr n0 xL ∧ xh = h0
theorem ef_max40 (mM : MethodId)  : entryFrame mM #[(.int (4 : Int32)), (.int (0 : Int32))] 2 = mkF mM 0 #[.val (.int (4 : Int32)), .val (.int (0 : Int32))] [] := by first | (simp [entryFrame, mkF, argsToLocals, Value.category]; done) | rfl
set_option maxRecDepth 65536 in
set_option maxHeartbeats 40000000 in
theorem rm_max40 (l : Launch) (Z : State) (a0 : Array Value) (hw : ∀ d ∈ tables_1, d.before a0 Z = true) (ws : List Jvm.Cond)  (h0 : Heap) (n0 : Nat) (Z0 : n0 ≤ h0.size) :
    MetFree l (⟨"java/lang/Math", "max", "(II)I"⟩ : MethodName) (head1 (Jvm.Cond.code (⟨"java/lang/Math", "max", "(II)I"⟩ : MethodName) jdk_29_method_65_code 2 (some .int) :: ws) ({ frames := 0, cells := 0, slots := 0, locals := 0 } : Room)) (fun xa xU => xa = #[(.int (4 : Int32)), (.int (0 : Int32))] ∧ Z.Warmed39 xU.vm ∧ xU.heap = h0) (fun _ _ _ _ _ => True) (fun _ xU xo xU' => ∃ xv xL, xo = .returned xv ∧ Q_max40 Z  h0 n0 xv xU'.heap xL ∧ FrameEnd xU xo xU' xL ({ frames := 0, cells := 0, slots := 0, locals := 0 } : Room).cells ({ frames := 0, cells := 0, slots := 0, locals := 0 } : Room).slots) := by
  refine MetFree.of_bodySF (Jvm.Free.JP.mathPlain rfl (by decide +kernel)) hisR ?_
  intro pP eE sS mM argS belowS methS cC s₁ Bd hml0 hP hK
  obtain ⟨rfl, hZ, hh⟩ := hP
  have hx := Bd.exec
  have hby := Bd.bytes
  have hml : cC.maxLocals = 2 := hml0
  have hown : sS.vm.findClass "java/lang/Math" = some mM.cls := findClass_of_methodNamed Bd.named
  have hnm := (name_of_methodNamed Bd.named Bd.method).1
  have X0 : Stand pP l eE ({ frames := 0, cells := 0, slots := 0, locals := 0 } : Room) sS mM #[(.int (4 : Int32)), (.int (0 : Int32))] belowS methS cC s₁ [] 0 0 := Stand.of_body Bd
  have e0 : s₁.heap = h0 := by rw [← hh, Bd.state]; rfl
  have N0 := Fr.nil n0
  have pre0 : ∀ t', Steps pP.tables eE belowS (s₁.setTop (mkF mM 0 #[.val (.int (4 : Int32)), .val (.int (0 : Int32))] [])) t' → Steps pP.tables eE belowS (s₁.setTop (entryFrame mM #[(.int (4 : Int32)), (.int (0 : Int32))] 2)) t' := fun t' kk' => castTop (ef_max40 mM ) kk'
  obtain ⟨fs, hr, hrun, hended, hW, hsame⟩ := X0.leave (v := some (.int (4 : Int32))) (fun h => by rw [Bd.returns] at h; cases h)
  refine ⟨_, _, pre0 _ ?_, hrun, hended, _, _, rfl, ?_, ⟨_, rfl⟩, hW, hsame.mono (by decide) (by decide)⟩
  · show SS pP eE belowS s₁ (mkF mM 0 #[.val (.int (4 : Int32)), .val (.int (0 : Int32))] []) _
    refine XS.iloadN X0.here hx rfl (hb hby d_jdk_29_method_65_0) rfl ?_
    show SS pP eE belowS s₁ (mkF mM 1 #[.val (.int (4 : Int32)), .val (.int (0 : Int32))] [(.int (4 : Int32))]) _
    refine XS.iloadN X0.here hx rfl (hb hby d_jdk_29_method_65_1) rfl ?_
    show SS pP eE belowS s₁ (mkF mM 2 #[.val (.int (4 : Int32)), .val (.int (0 : Int32))] [(.int (0 : Int32)), (.int (4 : Int32))]) _
    refine XS.icmpNo X0.here hx rfl (hb hby d_jdk_29_method_65_2) rfl (flt (by decide : ¬ ((4 : Int32) < (0 : Int32)))).1 ?_
    show SS pP eE belowS s₁ (mkF mM 5 #[.val (.int (4 : Int32)), .val (.int (0 : Int32))] []) _
    refine XS.iloadN X0.here hx rfl (hb hby d_jdk_29_method_65_5) rfl ?_
    show SS pP eE belowS s₁ (mkF mM 6 #[.val (.int (4 : Int32)), .val (.int (0 : Int32))] [(.int (4 : Int32))]) _
    refine XS.goto X0.here hx rfl (pc0 := 6) (pc' := 10) rfl (hb hby d_jdk_29_method_65_6) (by decide) (by decide) ?_
    show SS pP eE belowS s₁ (mkF mM 10 #[.val (.int (4 : Int32)), .val (.int (0 : Int32))] [(.int (4 : Int32))]) _
    exact retI X0 hx Bd.returns (hb hby d_jdk_29_method_65_10) hr
  · show Q_max40 Z  h0 n0 _ s₁.heap _
    rw [e0]
    exact ⟨rfl, N0, rfl⟩
theorem d_jdk_29_method_69_0 : decode jdk_29_method_69_code 0 = .ok (.iload_n 0, 1) := by decide +kernel
theorem d_jdk_29_method_69_1 : decode jdk_29_method_69_code 1 = .ok (.iload_n 1, 1) := by decide +kernel
theorem d_jdk_29_method_69_2 : decode jdk_29_method_69_code 2 = .ok (.if_icmp .gt 7, 3) := by decide +kernel
theorem d_jdk_29_method_69_5 : decode jdk_29_method_69_code 5 = .ok (.iload_n 0, 1) := by decide +kernel
theorem d_jdk_29_method_69_6 : decode jdk_29_method_69_code 6 = .ok (.goto 4, 3) := by decide +kernel
theorem d_jdk_29_method_69_10 : decode jdk_29_method_69_code 10 = .ok (.ireturn, 1) := by decide +kernel
def Q_min04 (Z : State)  (h0 : Heap) (n0 : Nat) (xv : Option Value) (xh : Heap) (xL : List Loc) : Prop := xv = some (.int (0 : Int32)) ∧ Fr n0 xL ∧ xh = h0
theorem ef_min04 (mM : MethodId)  : entryFrame mM #[(.int (0 : Int32)), (.int (4 : Int32))] 2 = mkF mM 0 #[.val (.int (0 : Int32)), .val (.int (4 : Int32))] [] := by first | (simp [entryFrame, mkF, argsToLocals, Value.category]; done) | rfl
set_option maxRecDepth 65536 in
set_option maxHeartbeats 40000000 in
theorem rm_min04 (l : Launch) (Z : State) (a0 : Array Value) (hw : ∀ d ∈ tables_1, d.before a0 Z = true) (ws : List Jvm.Cond)  (h0 : Heap) (n0 : Nat) (Z0 : n0 ≤ h0.size) :
    MetFree l (⟨"java/lang/Math", "min", "(II)I"⟩ : MethodName) (head1 (Jvm.Cond.code (⟨"java/lang/Math", "min", "(II)I"⟩ : MethodName) jdk_29_method_69_code 2 (some .int) :: ws) ({ frames := 0, cells := 0, slots := 0, locals := 0 } : Room)) (fun xa xU => xa = #[(.int (0 : Int32)), (.int (4 : Int32))] ∧ Z.Warmed39 xU.vm ∧ xU.heap = h0) (fun _ _ _ _ _ => True) (fun _ xU xo xU' => ∃ xv xL, xo = .returned xv ∧ Q_min04 Z  h0 n0 xv xU'.heap xL ∧ FrameEnd xU xo xU' xL ({ frames := 0, cells := 0, slots := 0, locals := 0 } : Room).cells ({ frames := 0, cells := 0, slots := 0, locals := 0 } : Room).slots) := by
  refine MetFree.of_bodySF (Jvm.Free.JP.mathPlain rfl (by decide +kernel)) hisR ?_
  intro pP eE sS mM argS belowS methS cC s₁ Bd hml0 hP hK
  obtain ⟨rfl, hZ, hh⟩ := hP
  have hx := Bd.exec
  have hby := Bd.bytes
  have hml : cC.maxLocals = 2 := hml0
  have hown : sS.vm.findClass "java/lang/Math" = some mM.cls := findClass_of_methodNamed Bd.named
  have hnm := (name_of_methodNamed Bd.named Bd.method).1
  have X0 : Stand pP l eE ({ frames := 0, cells := 0, slots := 0, locals := 0 } : Room) sS mM #[(.int (0 : Int32)), (.int (4 : Int32))] belowS methS cC s₁ [] 0 0 := Stand.of_body Bd
  have e0 : s₁.heap = h0 := by rw [← hh, Bd.state]; rfl
  have N0 := Fr.nil n0
  have pre0 : ∀ t', Steps pP.tables eE belowS (s₁.setTop (mkF mM 0 #[.val (.int (0 : Int32)), .val (.int (4 : Int32))] [])) t' → Steps pP.tables eE belowS (s₁.setTop (entryFrame mM #[(.int (0 : Int32)), (.int (4 : Int32))] 2)) t' := fun t' kk' => castTop (ef_min04 mM ) kk'
  obtain ⟨fs, hr, hrun, hended, hW, hsame⟩ := X0.leave (v := some (.int (0 : Int32))) (fun h => by rw [Bd.returns] at h; cases h)
  refine ⟨_, _, pre0 _ ?_, hrun, hended, _, _, rfl, ?_, ⟨_, rfl⟩, hW, hsame.mono (by decide) (by decide)⟩
  · show SS pP eE belowS s₁ (mkF mM 0 #[.val (.int (0 : Int32)), .val (.int (4 : Int32))] []) _
    refine XS.iloadN X0.here hx rfl (hb hby d_jdk_29_method_69_0) rfl ?_
    show SS pP eE belowS s₁ (mkF mM 1 #[.val (.int (0 : Int32)), .val (.int (4 : Int32))] [(.int (0 : Int32))]) _
    refine XS.iloadN X0.here hx rfl (hb hby d_jdk_29_method_69_1) rfl ?_
    show SS pP eE belowS s₁ (mkF mM 2 #[.val (.int (0 : Int32)), .val (.int (4 : Int32))] [(.int (4 : Int32)), (.int (0 : Int32))]) _
    refine XS.icmpNo X0.here hx rfl (hb hby d_jdk_29_method_69_2) rfl (flt (by decide : ¬ ((4 : Int32) < (0 : Int32)))).2.2.1 ?_
    show SS pP eE belowS s₁ (mkF mM 5 #[.val (.int (0 : Int32)), .val (.int (4 : Int32))] []) _
    refine XS.iloadN X0.here hx rfl (hb hby d_jdk_29_method_69_5) rfl ?_
    show SS pP eE belowS s₁ (mkF mM 6 #[.val (.int (0 : Int32)), .val (.int (4 : Int32))] [(.int (0 : Int32))]) _
    refine XS.goto X0.here hx rfl (pc0 := 6) (pc' := 10) rfl (hb hby d_jdk_29_method_69_6) (by decide) (by decide) ?_
    show SS pP eE belowS s₁ (mkF mM 10 #[.val (.int (0 : Int32)), .val (.int (4 : Int32))] [(.int (0 : Int32))]) _
    exact retI X0 hx Bd.returns (hb hby d_jdk_29_method_69_10) hr
  · show Q_min04 Z  h0 n0 _ s₁.heap _
    rw [e0]
    exact ⟨rfl, N0, rfl⟩
theorem d_jdk_65_method_123_0 : decode jdk_65_method_123_code 0 = .ok (.iload_n 1, 1) := by decide +kernel
theorem d_jdk_65_method_123_1 : decode jdk_65_method_123_code 1 = .ok (.aload_n 0, 1) := by decide +kernel
theorem d_jdk_65_method_123_2 : decode jdk_65_method_123_code 2 = .ok (.arraylength, 1) := by decide +kernel
theorem d_jdk_65_method_123_3 : decode jdk_65_method_123_code 3 = .ok (.if_icmp .ne 11, 3) := by decide +kernel
theorem d_jdk_65_method_123_14 : decode jdk_65_method_123_code 14 = .ok (.iload_n 1, 1) := by decide +kernel
theorem d_jdk_65_method_123_15 : decode jdk_65_method_123_code 15 = .ok (.newarray .int, 2) := by decide +kernel
theorem d_jdk_65_method_123_17 : decode jdk_65_method_123_code 17 = .ok (.astore_n 2, 1) := by decide +kernel
theorem d_jdk_65_method_123_18 : decode jdk_65_method_123_code 18 = .ok (.aload_n 0, 1) := by decide +kernel
theorem d_jdk_65_method_123_19 : decode jdk_65_method_123_code 19 = .ok (.iconst 0, 1) := by decide +kernel
theorem d_jdk_65_method_123_20 : decode jdk_65_method_123_code 20 = .ok (.aload_n 2, 1) := by decide +kernel
theorem d_jdk_65_method_123_21 : decode jdk_65_method_123_code 21 = .ok (.iconst 0, 1) := by decide +kernel
theorem d_jdk_65_method_123_22 : decode jdk_65_method_123_code 22 = .ok (.aload_n 0, 1) := by decide +kernel
theorem d_jdk_65_method_123_23 : decode jdk_65_method_123_code 23 = .ok (.arraylength, 1) := by decide +kernel
theorem d_jdk_65_method_123_24 : decode jdk_65_method_123_code 24 = .ok (.iload_n 1, 1) := by decide +kernel
theorem d_jdk_65_method_123_25 : decode jdk_65_method_123_code 25 = .ok (.invokestatic 304, 3) := by decide +kernel
theorem pd_2 : parseMethodDescriptor "(II)I" = some ⟨[.int, .int], some .int⟩ := by decide +kernel
theorem d_jdk_65_method_123_28 : decode jdk_65_method_123_code 28 = .ok (.invokestatic 150, 3) := by decide +kernel
theorem d_jdk_65_method_123_31 : decode jdk_65_method_123_code 31 = .ok (.aload_n 2, 1) := by decide +kernel
theorem d_jdk_65_method_123_32 : decode jdk_65_method_123_code 32 = .ok (.areturn, 1) := by decide +kernel
theorem pn_java_util_Arrays : plainName "java/util/Arrays" = true := by first | (simp [plainName, overriddenIn]; done) | decide +kernel
def Q_copyOf (Z : State) (a1 : Addr) (k : ClassId) (h0 : Heap) (n0 : Nat) (xv : Option Value) (xh : Heap) (xL : List Loc) : Prop := ∃ b : Addr, ∃ k2 : ClassId, xv = some (.ref b) ∧ Fr n0 xL ∧ Keep h0 xh [] ∧ Arv Z xh b k2 .int (4 : Int32) [(.int (0 : Int32)), (.int (0 : Int32)), (.int (0 : Int32)), (.int (0 : Int32))] (.int (0 : Int32)) ∧ @LE.le Nat _ h0.size b
theorem ef_copyOf (mM : MethodId) (a1 : Addr) (k : ClassId) : entryFrame mM #[(.ref a1), (.int (4 : Int32))] 3 = mkF mM 0 #[.val (.ref a1), .val (.int (4 : Int32)), .unset] [] := by first | (simp [entryFrame, mkF, argsToLocals, Value.category]; done) | rfl
set_option maxRecDepth 65536 in
set_option maxHeartbeats 40000000 in
theorem rm_copyOf (l : Launch) (Z : State) (a0 : Array Value) (hw : ∀ d ∈ tables_1, d.before a0 Z = true) (ws : List Jvm.Cond) (a1 : Addr) (k : ClassId) (h0 : Heap) (n0 : Nat) (Z0 : n0 ≤ h0.size) (V_a1 : Arv Z h0 a1 k .int (0 : Int32) [] (.int (0 : Int32))) :
    MetFree l (⟨"java/util/Arrays", "copyOf", "([II)[I"⟩ : MethodName) (head1 (Jvm.Cond.code (⟨"java/util/Arrays", "copyOf", "([II)[I"⟩ : MethodName) jdk_65_method_123_code 3 (some (.array .int)) :: ws) ({ frames := 1, cells := 1, slots := 4, locals := 18 } : Room)) (fun xa xU => xa = #[(.ref a1), (.int (4 : Int32))] ∧ Z.Warmed39 xU.vm ∧ xU.heap = h0) (fun _ _ _ _ _ => True) (fun _ xU xo xU' => ∃ xv xL, xo = .returned xv ∧ Q_copyOf Z a1 k h0 n0 xv xU'.heap xL ∧ FrameEnd xU xo xU' xL ({ frames := 1, cells := 1, slots := 4, locals := 18 } : Room).cells ({ frames := 1, cells := 1, slots := 4, locals := 18 } : Room).slots) := by
  refine MetFree.of_bodySF (plainFor_of_name pn_java_util_Arrays) hisR ?_
  intro pP eE sS mM argS belowS methS cC s₁ Bd hml0 hP hK
  obtain ⟨rfl, hZ, hh⟩ := hP
  have hx := Bd.exec
  have hby := Bd.bytes
  have hml : cC.maxLocals = 3 := hml0
  have hown : sS.vm.findClass "java/util/Arrays" = some mM.cls := findClass_of_methodNamed Bd.named
  have hnm := (name_of_methodNamed Bd.named Bd.method).1
  have X0 : Stand pP l eE ({ frames := 1, cells := 1, slots := 4, locals := 18 } : Room) sS mM #[(.ref a1), (.int (4 : Int32))] belowS methS cC s₁ [] 0 0 := Stand.of_body Bd
  have e0 : s₁.heap = h0 := by rw [← hh, Bd.state]; rfl
  have N0 := Fr.nil n0
  have pre0 : ∀ t', Steps pP.tables eE belowS (s₁.setTop (mkF mM 0 #[.val (.ref a1), .val (.int (4 : Int32)), .unset] [])) t' → Steps pP.tables eE belowS (s₁.setTop (entryFrame mM #[(.ref a1), (.int (4 : Int32))] 3)) t' := fun t' kk' => castTop (ef_copyOf mM a1 k) kk'
  obtain ⟨cl101, Ar101, q101, S101, Ng101, Ha101, Ga101⟩ := id V_a1
  obtain ⟨T102, h102, k102, X102, e102, E102, A102, st102⟩ := newP X0 hx hZ (wi hw 35 rfl) e0 (g := (mkF mM 15 #[.val (.ref a1), .val (.int (4 : Int32)), .unset] [(.int (4 : Int32))])) rfl (hb hby d_jdk_65_method_123_15) rfl (by decide) (cap := 4) (by decide) (by decide) (by decide) (by decide)
  obtain ⟨b102, g102⟩ : ∃ z : Nat, z = h0.size := ⟨_, rfl⟩
  rw [← g102] at A102 st102
  have Sz1 : h0.size ≤ h102.size := E102.1
  have V_b102 : Arv Z h102 b102 k102 .int (4 : Int32) [(.int (0 : Int32)), (.int (0 : Int32)), (.int (0 : Int32)), (.int (0 : Int32))] (.int (0 : Int32)) := (Arv.new A102 (by decide)).pad (pad_rep [] (.int (0 : Int32)) 4)
  have c103_V_a1 : Arv Z h102 a1 k .int (0 : Int32) [] (.int (0 : Int32)) := V_a1.ext E102
  obtain ⟨cl104, Ar104, q104, S104, Ng104, Ha104, Ga104⟩ := id c103_V_a1
  obtain ⟨_, _, ⟨T105, L105, k105, n105⟩, -, X105, ⟨Lc105, hQ105, l105, y105, z105⟩, st105⟩ := Jvm.LawKit.callS X102 hx (y := (⟨"java/lang/Math", "min", "(II)I"⟩ : MethodName)) hown (mvT hZ (wi hw 36 rfl)) (mvT hZ (wi hw 37 rfl)) (mvT hZ (wi hw 29 rfl)) (mvT hZ (wi hw 38 rfl)) (by decide) (backOf (W := 4) (rm_min04 l Z a0 hw []  h102 n0 (by omega) ) hZ (wi hw 38 rfl) (wi hw 29 rfl) (by decide) (by decide)) (g := (mkF mM 25 #[.val (.ref a1), .val (.int (4 : Int32)), .val (.ref b102)] [(.int (4 : Int32)), (.int (0 : Int32)), (.int (0 : Int32)), (.ref b102), (.int (0 : Int32)), (.ref a1)])) rfl (by rw [hml]; rfl) (argsL := [(.int (0 : Int32)), (.int (4 : Int32))]) (rest := [(.int (0 : Int32)), (.ref b102), (.int (0 : Int32)), (.ref a1)]) (lenOf pd_2 rfl) rfl (by show 2 * 0 + _ ≤ _; exact Nat.le_of_eq rfl) (hb hby d_jdk_65_method_123_25) (fun _ _ => ⟨rfl, e102, Nat.le_of_ble_eq_true rfl, Nat.le_of_ble_eq_true rfl⟩)
  dsimp only [Pt.U, Pt.locs, Pt.cells, Pt.slots] at X105 l105 y105 z105 st105 hQ105
  subst l105 y105 z105
  obtain ⟨h105, e105⟩ : ∃ z, T105.heap = z := ⟨_, rfl⟩
  rw [e105] at hQ105
  obtain ⟨rfl, N105q, eq105⟩ := hQ105
  rw [eq105] at e105
  have N105 := Fr.app N0 N105q
  have ge106_b102 : @LE.le Nat _ n0 b102 := by omega
  obtain ⟨T107, h107, L107, X107, e107, N107, Kc107, Vc107, st107⟩ := cpA X105 hx hZ hown (wi hw 39 rfl) (wi hw 42 rfl) (wi hw 40 rfl) (wi hw 41 rfl) e105 c103_V_a1 V_b102 (Or.inl ⟨rfl, rfl⟩) (sp := (0 : Int32)) (dp := (0 : Int32)) (nn := (0 : Int32)) (us := []) (by decide) (by decide) (by decide) (by decide) (by decide) (by first | rfl | decide) (by decide) N105 ge106_b102 (g := (mkF mM 28 #[.val (.ref a1), .val (.int (4 : Int32)), .val (.ref b102)] [(.int (0 : Int32)), (.int (0 : Int32)), (.ref b102), (.int (0 : Int32)), (.ref a1)])) rfl (by rw [hml]; rfl) rfl (hb hby d_jdk_65_method_123_28) (by decide) (W := 0) (by show 2 * 0 + _ ≤ _; exact Nat.le_of_eq rfl) (by decide)
  have Sz2 : h102.size ≤ h107.size := Kc107.1
  have Vd107 : Arv Z h107 b102 k102 .int (4 : Int32) [(.int (0 : Int32)), (.int (0 : Int32)), (.int (0 : Int32)), (.int (0 : Int32))] (.int (0 : Int32)) := Vc107
  have K108 : Keep h0 h102 [] := (Keep.refl h0 []).ext E102
  have K109 : Keep h0 h107 [] := K108.trans Kc107 (allS (Or.inr (by omega : @LE.le Nat _ h0.size b102)) all0)
  obtain ⟨fs, hr, hrun, hended, hW, hsame⟩ := X107.leave (v := some (.ref b102)) (fun h => by rw [Bd.returns] at h; cases h)
  refine ⟨_, _, pre0 _ ?_, hrun, hended, _, _, rfl, ?_, ⟨_, rfl⟩, hW, hsame.mono (by decide) (by decide)⟩
  · show SS pP eE belowS s₁ (mkF mM 0 #[.val (.ref a1), .val (.int (4 : Int32)), .unset] []) _
    refine XS.iloadN X0.here hx rfl (hb hby d_jdk_65_method_123_0) rfl ?_
    show SS pP eE belowS s₁ (mkF mM 1 #[.val (.ref a1), .val (.int (4 : Int32)), .unset] [(.int (4 : Int32))]) _
    refine XS.aloadN X0.here hx rfl (hb hby d_jdk_65_method_123_1) rfl rfl ?_
    show SS pP eE belowS s₁ (mkF mM 2 #[.val (.ref a1), .val (.int (4 : Int32)), .unset] [(.ref a1), (.int (4 : Int32))]) _
    refine X0.arraylength hx (by rw [e0]; exact Ar101.1) (State.isArrayOf_alike hZ.alike Ar101.2.1) (g := (mkF mM 2 #[.val (.ref a1), .val (.int (4 : Int32)), .unset] [(.ref a1), (.int (4 : Int32))])) rfl rfl (hb hby d_jdk_65_method_123_2) _ ?_
    rw [len_of S101 Ng101]
    show SS pP eE belowS s₁ (mkF mM 3 #[.val (.ref a1), .val (.int (4 : Int32)), .unset] [(.int (0 : Int32)), (.int (4 : Int32))]) _
    refine XS.icmpYes X0.here hx rfl (pc0 := 3) (pc' := 14) rfl (hb hby d_jdk_65_method_123_3) rfl (feq (by decide : ¬ ((4 : Int32) = (0 : Int32)))).2 (by decide) (by decide) ?_
    show SS pP eE belowS s₁ (mkF mM 14 #[.val (.ref a1), .val (.int (4 : Int32)), .unset] []) _
    refine XS.iloadN X0.here hx rfl (hb hby d_jdk_65_method_123_14) rfl ?_
    show SS pP eE belowS s₁ (mkF mM 15 #[.val (.ref a1), .val (.int (4 : Int32)), .unset] [(.int (4 : Int32))]) _
    refine st102 _ ?_
    show SS pP eE belowS T102 (mkF mM 17 #[.val (.ref a1), .val (.int (4 : Int32)), .unset] [(.ref b102)]) _
    refine XS.astoreN X102.here hx rfl (hb hby d_jdk_65_method_123_17) rfl rfl (l' := #[.val (.ref a1), .val (.int (4 : Int32)), .val (.ref b102)]) rfl ?_
    show SS pP eE belowS T102 (mkF mM 18 #[.val (.ref a1), .val (.int (4 : Int32)), .val (.ref b102)] []) _
    refine XS.aloadN X102.here hx rfl (hb hby d_jdk_65_method_123_18) rfl rfl ?_
    show SS pP eE belowS T102 (mkF mM 19 #[.val (.ref a1), .val (.int (4 : Int32)), .val (.ref b102)] [(.ref a1)]) _
    refine XS.iconst X102.here hx rfl (hb hby d_jdk_65_method_123_19) ?_
    show SS pP eE belowS T102 (mkF mM 20 #[.val (.ref a1), .val (.int (4 : Int32)), .val (.ref b102)] [(.int (0 : Int32)), (.ref a1)]) _
    refine XS.aloadN X102.here hx rfl (hb hby d_jdk_65_method_123_20) rfl rfl ?_
    show SS pP eE belowS T102 (mkF mM 21 #[.val (.ref a1), .val (.int (4 : Int32)), .val (.ref b102)] [(.ref b102), (.int (0 : Int32)), (.ref a1)]) _
    refine XS.iconst X102.here hx rfl (hb hby d_jdk_65_method_123_21) ?_
    show SS pP eE belowS T102 (mkF mM 22 #[.val (.ref a1), .val (.int (4 : Int32)), .val (.ref b102)] [(.int (0 : Int32)), (.ref b102), (.int (0 : Int32)), (.ref a1)]) _
    refine XS.aloadN X102.here hx rfl (hb hby d_jdk_65_method_123_22) rfl rfl ?_
    show SS pP eE belowS T102 (mkF mM 23 #[.val (.ref a1), .val (.int (4 : Int32)), .val (.ref b102)] [(.ref a1), (.int (0 : Int32)), (.ref b102), (.int (0 : Int32)), (.ref a1)]) _
    refine X102.arraylength hx (by rw [e102]; exact Ar104.1) (State.isArrayOf_alike hZ.alike Ar104.2.1) (g := (mkF mM 23 #[.val (.ref a1), .val (.int (4 : Int32)), .val (.ref b102)] [(.ref a1), (.int (0 : Int32)), (.ref b102), (.int (0 : Int32)), (.ref a1)])) rfl rfl (hb hby d_jdk_65_method_123_23) _ ?_
    rw [len_of S104 Ng104]
    show SS pP eE belowS T102 (mkF mM 24 #[.val (.ref a1), .val (.int (4 : Int32)), .val (.ref b102)] [(.int (0 : Int32)), (.int (0 : Int32)), (.ref b102), (.int (0 : Int32)), (.ref a1)]) _
    refine XS.iloadN X102.here hx rfl (hb hby d_jdk_65_method_123_24) rfl ?_
    show SS pP eE belowS T102 (mkF mM 25 #[.val (.ref a1), .val (.int (4 : Int32)), .val (.ref b102)] [(.int (4 : Int32)), (.int (0 : Int32)), (.int (0 : Int32)), (.ref b102), (.int (0 : Int32)), (.ref a1)]) _
    refine st105 _ ?_
    show SS pP eE belowS T105 (mkF mM 28 #[.val (.ref a1), .val (.int (4 : Int32)), .val (.ref b102)] [(.int (0 : Int32)), (.int (0 : Int32)), (.ref b102), (.int (0 : Int32)), (.ref a1)]) _
    refine st107 _ ?_
    show SS pP eE belowS T107 (mkF mM 31 #[.val (.ref a1), .val (.int (4 : Int32)), .val (.ref b102)] []) _
    refine XS.aloadN X107.here hx rfl (hb hby d_jdk_65_method_123_31) rfl rfl ?_
    show SS pP eE belowS T107 (mkF mM 32 #[.val (.ref a1), .val (.int (4 : Int32)), .val (.ref b102)] [(.ref b102)]) _
    jvm_step X107.here [X107.here.top, hx, (hb hby d_jdk_65_method_123_32), X107.method', Bd.returns, Value.isRef, FieldType.isReference]
    first | (intro acts; rw [hr _ acts rfl rfl rfl]) | rw [hr _ _ rfl rfl rfl]
    exact Steps.refl _
  · show Q_copyOf Z a1 k h0 n0 _ T107.heap _
    rw [e107]
    exact ⟨b102, k102, rfl, N107, K109, Vd107, (by omega)⟩
theorem d_prog_4_method_3_0 : decode prog_4_method_3_code 0 = .ok (.aload_n 1, 1) := by decide +kernel
theorem d_prog_4_method_3_1 : decode prog_4_method_3_code 1 = .ok (.aload_n 0, 1) := by decide +kernel
theorem d_prog_4_method_3_2 : decode prog_4_method_3_code 2 = .ok (.getfield 19, 3) := by decide +kernel
theorem d_prog_4_method_3_5 : decode prog_4_method_3_code 5 = .ok (.if_acmp .eq 13, 3) := by decide +kernel
theorem d_prog_4_method_3_8 : decode prog_4_method_3_code 8 = .ok (.aload_n 0, 1) := by decide +kernel
theorem d_prog_4_method_3_9 : decode prog_4_method_3_code 9 = .ok (.aload_n 1, 1) := by decide +kernel
theorem d_prog_4_method_3_10 : decode prog_4_method_3_code 10 = .ok (.putfield 19, 3) := by decide +kernel
theorem d_prog_4_method_3_13 : decode prog_4_method_3_code 13 = .ok (.aload_n 0, 1) := by decide +kernel
theorem d_prog_4_method_3_14 : decode prog_4_method_3_code 14 = .ok (.iconst 0, 1) := by decide +kernel
theorem d_prog_4_method_3_15 : decode prog_4_method_3_code 15 = .ok (.putfield 23, 3) := by decide +kernel
theorem d_prog_4_method_3_18 : decode prog_4_method_3_code 18 = .ok (.aload_n 0, 1) := by decide +kernel
theorem d_prog_4_method_3_19 : decode prog_4_method_3_code 19 = .ok (.getfield 23, 3) := by decide +kernel
theorem d_prog_4_method_3_22 : decode prog_4_method_3_code 22 = .ok (.ifCond .le 20, 3) := by decide +kernel
theorem d_prog_4_method_3_42 : decode prog_4_method_3_code 42 = .ok (.aload_n 0, 1) := by decide +kernel
theorem d_prog_4_method_3_43 : decode prog_4_method_3_code 43 = .ok (.getfield 23, 3) := by decide +kernel
theorem d_prog_4_method_3_46 : decode prog_4_method_3_code 46 = .ok (.aload_n 0, 1) := by decide +kernel
theorem d_prog_4_method_3_47 : decode prog_4_method_3_code 47 = .ok (.getfield 13, 3) := by decide +kernel
theorem d_prog_4_method_3_50 : decode prog_4_method_3_code 50 = .ok (.arraylength, 1) := by decide +kernel
theorem d_prog_4_method_3_51 : decode prog_4_method_3_code 51 = .ok (.if_icmp .ne 38, 3) := by decide +kernel
theorem d_prog_4_method_3_54 : decode prog_4_method_3_code 54 = .ok (.iconst 4, 1) := by decide +kernel
theorem d_prog_4_method_3_55 : decode prog_4_method_3_code 55 = .ok (.aload_n 0, 1) := by decide +kernel
theorem d_prog_4_method_3_56 : decode prog_4_method_3_code 56 = .ok (.getfield 23, 3) := by decide +kernel
theorem d_prog_4_method_3_59 : decode prog_4_method_3_code 59 = .ok (.iconst 2, 1) := by decide +kernel
theorem d_prog_4_method_3_60 : decode prog_4_method_3_code 60 = .ok (.imul, 1) := by decide +kernel
theorem d_prog_4_method_3_61 : decode prog_4_method_3_code 61 = .ok (.invokestatic 33, 3) := by decide +kernel
theorem d_prog_4_method_3_64 : decode prog_4_method_3_code 64 = .ok (.istore_n 3, 1) := by decide +kernel
theorem d_prog_4_method_3_65 : decode prog_4_method_3_code 65 = .ok (.aload_n 0, 1) := by decide +kernel
theorem d_prog_4_method_3_66 : decode prog_4_method_3_code 66 = .ok (.aload_n 0, 1) := by decide +kernel
theorem d_prog_4_method_3_67 : decode prog_4_method_3_code 67 = .ok (.getfield 13, 3) := by decide +kernel
theorem d_prog_4_method_3_70 : decode prog_4_method_3_code 70 = .ok (.iload_n 3, 1) := by decide +kernel
theorem d_prog_4_method_3_71 : decode prog_4_method_3_code 71 = .ok (.invokestatic 39, 3) := by decide +kernel
theorem pd_3 : parseMethodDescriptor "([II)[I" = some ⟨[(.array .int), .int], some (.array .int)⟩ := by decide +kernel
theorem d_prog_4_method_3_74 : decode prog_4_method_3_code 74 = .ok (.putfield 13, 3) := by decide +kernel
theorem d_prog_4_method_3_77 : decode prog_4_method_3_code 77 = .ok (.aload_n 0, 1) := by decide +kernel
theorem d_prog_4_method_3_78 : decode prog_4_method_3_code 78 = .ok (.aload_n 0, 1) := by decide +kernel
theorem d_prog_4_method_3_79 : decode prog_4_method_3_code 79 = .ok (.getfield 16, 3) := by decide +kernel
theorem d_prog_4_method_3_82 : decode prog_4_method_3_code 82 = .ok (.iload_n 3, 1) := by decide +kernel
theorem d_prog_4_method_3_83 : decode prog_4_method_3_code 83 = .ok (.invokestatic 39, 3) := by decide +kernel
theorem d_prog_4_method_3_86 : decode prog_4_method_3_code 86 = .ok (.putfield 16, 3) := by decide +kernel
theorem d_prog_4_method_3_89 : decode prog_4_method_3_code 89 = .ok (.aload_n 0, 1) := by decide +kernel
theorem d_prog_4_method_3_90 : decode prog_4_method_3_code 90 = .ok (.getfield 13, 3) := by decide +kernel
theorem d_prog_4_method_3_93 : decode prog_4_method_3_code 93 = .ok (.aload_n 0, 1) := by decide +kernel
theorem d_prog_4_method_3_94 : decode prog_4_method_3_code 94 = .ok (.getfield 23, 3) := by decide +kernel
theorem d_prog_4_method_3_97 : decode prog_4_method_3_code 97 = .ok (.iload_n 2, 1) := by decide +kernel
theorem d_prog_4_method_3_98 : decode prog_4_method_3_code 98 = .ok (.iastore, 1) := by decide +kernel
theorem d_prog_4_method_3_99 : decode prog_4_method_3_code 99 = .ok (.aload_n 0, 1) := by decide +kernel
theorem d_prog_4_method_3_100 : decode prog_4_method_3_code 100 = .ok (.getfield 16, 3) := by decide +kernel
theorem d_prog_4_method_3_103 : decode prog_4_method_3_code 103 = .ok (.aload_n 0, 1) := by decide +kernel
theorem d_prog_4_method_3_104 : decode prog_4_method_3_code 104 = .ok (.getfield 23, 3) := by decide +kernel
theorem d_prog_4_method_3_107 : decode prog_4_method_3_code 107 = .ok (.iconst (-1), 1) := by decide +kernel
theorem d_prog_4_method_3_108 : decode prog_4_method_3_code 108 = .ok (.iastore, 1) := by decide +kernel
theorem d_prog_4_method_3_109 : decode prog_4_method_3_code 109 = .ok (.aload_n 0, 1) := by decide +kernel
theorem d_prog_4_method_3_110 : decode prog_4_method_3_code 110 = .ok (.dup, 1) := by decide +kernel
theorem d_prog_4_method_3_111 : decode prog_4_method_3_code 111 = .ok (.getfield 23, 3) := by decide +kernel
theorem d_prog_4_method_3_114 : decode prog_4_method_3_code 114 = .ok (.dup_x1, 1) := by decide +kernel
theorem d_prog_4_method_3_115 : decode prog_4_method_3_code 115 = .ok (.iconst 1, 1) := by decide +kernel
theorem d_prog_4_method_3_116 : decode prog_4_method_3_code 116 = .ok (.iadd, 1) := by decide +kernel
theorem d_prog_4_method_3_117 : decode prog_4_method_3_code 117 = .ok (.putfield 23, 3) := by decide +kernel
theorem d_prog_4_method_3_120 : decode prog_4_method_3_code 120 = .ok (.ireturn, 1) := by decide +kernel
def Q_open1 (Z : State) (a1 : Addr) (d : Addr) (x : Int32) (aN : Addr) (k : ClassId) (h0 : Heap) (n0 : Nat) (xv : Option Value) (xh : Heap) (xL : List Loc) : Prop := ∃ b1 : Addr, ∃ b2 : Addr, ∃ k1 : ClassId, ∃ k2 : ClassId, xv = some (.int (0 : Int32)) ∧ Fr n0 xL ∧ Keep h0 xh [a1] ∧ Exa Z xh a1 "com/example/macroweave/macroweave/BracketPairs" ∧ Fld Z xh a1 "com/example/macroweave/macroweave/BracketPairs" "brackets" "Lcom/example/macroweave/macroweave/Brackets;" (.ref d) ∧ Fld Z xh a1 "com/example/macroweave/macroweave/BracketPairs" "contentStarts" "[I" (.ref b1) ∧ Fld Z xh a1 "com/example/macroweave/macroweave/BracketPairs" "closes" "[I" (.ref b2) ∧ Fld Z xh a1 "com/example/macroweave/macroweave/BracketPairs" "size" "I" (.int (1 : Int32)) ∧ Arv Z xh b1 k1 .int (4 : Int32) [(.int x), (.int (0 : Int32)), (.int (0 : Int32)), (.int (0 : Int32))] (.int (0 : Int32)) ∧ Arv Z xh b2 k2 .int (4 : Int32) [(.int (-1 : Int32)), (.int (0 : Int32)), (.int (0 : Int32)), (.int (0 : Int32))] (.int (0 : Int32)) ∧ @LE.le Nat _ h0.size b1 ∧ @LE.le Nat _ h0.size b2 ∧ b1 ≠ b2
abbrev Lc_open1_0 (a1 : Addr) (d : Addr) (x : Int32) : Array Slot := #[.val (.ref a1), .val (.ref d), .val (.int x), .val (.int (4 : Int32))]
theorem ef_open1 (mM : MethodId) (a1 : Addr) (d : Addr) (x : Int32) (aN : Addr) (k : ClassId) : entryFrame mM #[(.ref a1), (.ref d), (.int x)] 4 = mkF mM 0 #[.val (.ref a1), .val (.ref d), .val (.int x), .unset] [] := by first | (simp [entryFrame, mkF, argsToLocals, Value.category]; done) | rfl
set_option maxRecDepth 65536 in
set_option maxHeartbeats 40000000 in
theorem rm_open1 (l : Launch) (Z : State) (a0 : Array Value) (hw : ∀ d ∈ tables_1, d.before a0 Z = true) (ws : List Jvm.Cond) (a1 : Addr) (d : Addr) (x : Int32) (aN : Addr) (k : ClassId) (h0 : Heap) (n0 : Nat) (Z0 : n0 ≤ h0.size) (E_a1 : Exa Z h0 a1 "com/example/macroweave/macroweave/BracketPairs") (F_brackets_a1 : Fld Z h0 a1 "com/example/macroweave/macroweave/BracketPairs" "brackets" "Lcom/example/macroweave/macroweave/Brackets;" .null) (F_contentStarts_a1 : Fld Z h0 a1 "com/example/macroweave/macroweave/BracketPairs" "contentStarts" "[I" (.ref aN)) (F_closes_a1 : Fld Z h0 a1 "com/example/macroweave/macroweave/BracketPairs" "closes" "[I" (.ref aN)) (F_size_a1 : Fld Z h0 a1 "com/example/macroweave/macroweave/BracketPairs" "size" "I" (.int (0 : Int32))) (V_aN : Arv Z h0 aN k .int (0 : Int32) [] (.int (0 : Int32))) (ne_a1_aN : a1 ≠ aN) (g_a1 : @LE.le Nat _ n0 a1) :
    MetFree l (⟨"com/example/macroweave/macroweave/BracketPairs", "opened", "(Lcom/example/macroweave/macroweave/Brackets;I)I"⟩ : MethodName) (head1 (Jvm.Cond.code (⟨"com/example/macroweave/macroweave/BracketPairs", "opened", "(Lcom/example/macroweave/macroweave/Brackets;I)I"⟩ : MethodName) prog_4_method_3_code 4 (some .int) :: ws) ({ frames := 2, cells := 2, slots := 8, locals := 33 } : Room)) (fun xa xU => xa = #[(.ref a1), (.ref d), (.int x)] ∧ Z.Warmed39 xU.vm ∧ xU.heap = h0) (fun _ _ _ _ _ => True) (fun _ xU xo xU' => ∃ xv xL, xo = .returned xv ∧ Q_open1 Z a1 d x aN k h0 n0 xv xU'.heap xL ∧ FrameEnd xU xo xU' xL ({ frames := 2, cells := 2, slots := 8, locals := 33 } : Room).cells ({ frames := 2, cells := 2, slots := 8, locals := 33 } : Room).slots) := by
  refine MetFree.of_bodySF (plainFor_of_name pn_com_example_macroweave_macroweave_BracketPairs) hisR ?_
  intro pP eE sS mM argS belowS methS cC s₁ Bd hml0 hP hK
  obtain ⟨rfl, hZ, hh⟩ := hP
  have hx := Bd.exec
  have hby := Bd.bytes
  have hml : cC.maxLocals = 4 := hml0
  have hown : sS.vm.findClass "com/example/macroweave/macroweave/BracketPairs" = some mM.cls := findClass_of_methodNamed Bd.named
  have hnm := (name_of_methodNamed Bd.named Bd.method).1
  have X0 : Stand pP l eE ({ frames := 2, cells := 2, slots := 8, locals := 33 } : Room) sS mM #[(.ref a1), (.ref d), (.int x)] belowS methS cC s₁ [] 0 0 := Stand.of_body Bd
  have e0 : s₁.heap = h0 := by rw [← hh, Bd.state]; rfl
  have N0 := Fr.nil n0
  have pre0 : ∀ t', Steps pP.tables eE belowS (s₁.setTop (mkF mM 0 #[.val (.ref a1), .val (.ref d), .val (.int x), .unset] [])) t' → Steps pP.tables eE belowS (s₁.setTop (entryFrame mM #[(.ref a1), (.ref d), (.int x)] 4)) t' := fun t' kk' => castTop (ef_open1 mM a1 d x aN k) kk'
  obtain ⟨T101, X101, e101, st101⟩ := getF X0 hx hZ hown (host := "") (Or.inl (wi hw 23 rfl)) Via.refl e0 F_brackets_a1 (g := (mkF mM 2 #[.val (.ref a1), .val (.ref d), .val (.int x), .unset] [(.ref a1), (.ref d)])) rfl rfl (hb hby d_prog_4_method_3_2)
  obtain ⟨T102, h102, X102, e102, W102, st102⟩ := putF X101 hx hZ hown (host := "") (Or.inl (wi hw 23 rfl)) Via.refl e101 F_brackets_a1 E_a1 (Or.inl (wi hw 24 rfl)) (wi hw 4 rfl) (ty := (.object "com/example/macroweave/macroweave/Brackets")) (by decide) rfl rfl (g := (mkF mM 10 #[.val (.ref a1), .val (.ref d), .val (.int x), .unset] [(.ref d), (.ref a1)])) rfl rfl (hb hby d_prog_4_method_3_10)
  have Sz1 : h0.size ≤ h102.size := Nat.le_of_eq (Wr.size W102).symm
  have Fw102 : Fld Z h102 a1 "com/example/macroweave/macroweave/BracketPairs" "brackets" "Lcom/example/macroweave/macroweave/Brackets;" (.ref d) := Fld.same W102 F_brackets_a1
  have N102 := Fr.snoc X102 N0 g_a1
  have c103_F_size_a1 : Fld Z h102 a1 "com/example/macroweave/macroweave/BracketPairs" "size" "I" (.int (0 : Int32)) := Fld.other W102 F_size_a1 (Or.inr (slot_ne (Or.inl (wi hw 26 rfl)) (Or.inl (wi hw 24 rfl)) (by decide) (t := .int) (t' := (.object "com/example/macroweave/macroweave/Brackets")) (by decide) (by decide)))
  have c104_E_a1 : Exa Z h102 a1 "com/example/macroweave/macroweave/BracketPairs" := Exa.wr W102 E_a1
  obtain ⟨T105, h105, X105, e105, W105, st105⟩ := putF X102 hx hZ hown (host := "") (Or.inl (wi hw 25 rfl)) Via.refl e102 c103_F_size_a1 c104_E_a1 (Or.inl (wi hw 26 rfl)) (wi hw 4 rfl) (ty := .int) (by decide) rfl rfl (g := (mkF mM 15 #[.val (.ref a1), .val (.ref d), .val (.int x), .unset] [(.int (0 : Int32)), (.ref a1)])) rfl rfl (hb hby d_prog_4_method_3_15)
  have Sz2 : h102.size ≤ h105.size := Nat.le_of_eq (Wr.size W105).symm
  have Fw105 : Fld Z h105 a1 "com/example/macroweave/macroweave/BracketPairs" "size" "I" (.int (0 : Int32)) := Fld.same W105 c103_F_size_a1
  have N105 := Fr.snoc X105 N102 g_a1
  obtain ⟨T106, X106, e106, st106⟩ := getF X105 hx hZ hown (host := "") (Or.inl (wi hw 25 rfl)) Via.refl e105 Fw105 (g := (mkF mM 19 #[.val (.ref a1), .val (.ref d), .val (.int x), .unset] [(.ref a1)])) rfl rfl (hb hby d_prog_4_method_3_19)
  obtain ⟨T107, X107, e107, st107⟩ := getF X106 hx hZ hown (host := "") (Or.inl (wi hw 25 rfl)) Via.refl e106 Fw105 (g := (mkF mM 43 #[.val (.ref a1), .val (.ref d), .val (.int x), .unset] [(.ref a1)])) rfl rfl (hb hby d_prog_4_method_3_43)
  have c108_F_contentStarts_a1 : Fld Z h102 a1 "com/example/macroweave/macroweave/BracketPairs" "contentStarts" "[I" (.ref aN) := Fld.other W102 F_contentStarts_a1 (Or.inr (slot_ne (Or.inl (wi hw 15 rfl)) (Or.inl (wi hw 24 rfl)) (by decide) (t := (.array .int)) (t' := (.object "com/example/macroweave/macroweave/Brackets")) (by decide) (by decide)))
  have c109_F_contentStarts_a1 : Fld Z h105 a1 "com/example/macroweave/macroweave/BracketPairs" "contentStarts" "[I" (.ref aN) := Fld.other W105 c108_F_contentStarts_a1 (Or.inr (slot_ne (Or.inl (wi hw 15 rfl)) (Or.inl (wi hw 26 rfl)) (by decide) (t := (.array .int)) (t' := .int) (by decide) (by decide)))
  obtain ⟨T110, X110, e110, st110⟩ := getF X107 hx hZ hown (host := "") (Or.inl (wi hw 14 rfl)) Via.refl e107 c109_F_contentStarts_a1 (g := (mkF mM 47 #[.val (.ref a1), .val (.ref d), .val (.int x), .unset] [(.ref a1), (.int (0 : Int32))])) rfl rfl (hb hby d_prog_4_method_3_47)
  have c111_V_aN : Arv Z h102 aN k .int (0 : Int32) [] (.int (0 : Int32)) := V_aN.other W102 (Ne.symm ne_a1_aN)
  have c112_V_aN : Arv Z h105 aN k .int (0 : Int32) [] (.int (0 : Int32)) := c111_V_aN.other W105 (Ne.symm ne_a1_aN)
  obtain ⟨cl113, Ar113, q113, S113, Ng113, Ha113, Ga113⟩ := id c112_V_aN
  obtain ⟨T114, X114, e114, st114⟩ := getF X110 hx hZ hown (host := "") (Or.inl (wi hw 25 rfl)) Via.refl e110 Fw105 (g := (mkF mM 56 #[.val (.ref a1), .val (.ref d), .val (.int x), .unset] [(.ref a1), (.int (4 : Int32))])) rfl rfl (hb hby d_prog_4_method_3_56)
  obtain ⟨_, _, ⟨T115, L115, k115, n115⟩, -, X115, ⟨Lc115, hQ115, l115, y115, z115⟩, st115⟩ := Jvm.LawKit.callS X114 hx (y := (⟨"java/lang/Math", "max", "(II)I"⟩ : MethodName)) hown (mvT hZ (wi hw 27 rfl)) (mvT hZ (wi hw 28 rfl)) (mvT hZ (wi hw 29 rfl)) (mvT hZ (wi hw 30 rfl)) (by decide) (backOf (W := 0) (rm_max40 l Z a0 hw []  h105 n0 (by omega) ) hZ (wi hw 30 rfl) (wi hw 29 rfl) (by decide) (by decide)) (g := (mkF mM 61 #[.val (.ref a1), .val (.ref d), .val (.int x), .unset] [(.int (0 : Int32)), (.int (4 : Int32))])) rfl (by rw [hml]; rfl) (argsL := [(.int (4 : Int32)), (.int (0 : Int32))]) (rest := []) (lenOf pd_2 rfl) rfl (by show 2 * 0 + _ ≤ _; exact Nat.le_of_eq rfl) (hb hby d_prog_4_method_3_61) (fun _ _ => ⟨rfl, e114, Nat.le_of_ble_eq_true rfl, Nat.le_of_ble_eq_true rfl⟩)
  dsimp only [Pt.U, Pt.locs, Pt.cells, Pt.slots] at X115 l115 y115 z115 st115 hQ115
  subst l115 y115 z115
  obtain ⟨h115, e115⟩ : ∃ z, T115.heap = z := ⟨_, rfl⟩
  rw [e115] at hQ115
  obtain ⟨rfl, N115q, eq115⟩ := hQ115
  rw [eq115] at e115
  have N115 := Fr.app N105 N115q
  obtain ⟨T116, X116, e116, st116⟩ := getF X115 hx hZ hown (host := "") (Or.inl (wi hw 14 rfl)) Via.refl e115 c109_F_contentStarts_a1 (g := (mkF mM 67 (Lc_open1_0 a1 d x) [(.ref a1), (.ref a1)])) rfl rfl (hb hby d_prog_4_method_3_67)
  obtain ⟨_, _, ⟨T117, L117, k117, n117⟩, -, X117, ⟨Lc117, hQ117, l117, y117, z117⟩, st117⟩ := Jvm.LawKit.callS X116 hx (y := (⟨"java/util/Arrays", "copyOf", "([II)[I"⟩ : MethodName)) hown (mvT hZ (wi hw 31 rfl)) (mvT hZ (wi hw 32 rfl)) (mvT hZ (wi hw 33 rfl)) (mvT hZ (wi hw 34 rfl)) (by decide) (backOf (W := 1) (rm_copyOf l Z a0 hw [] aN k h105 n0 (by omega) c112_V_aN) hZ (wi hw 34 rfl) (wi hw 33 rfl) (by decide) (by decide)) (g := (mkF mM 71 (Lc_open1_0 a1 d x) [(.int (4 : Int32)), (.ref aN), (.ref a1)])) rfl (by rw [hml]; rfl) (argsL := [(.ref aN), (.int (4 : Int32))]) (rest := [(.ref a1)]) (lenOf pd_3 rfl) rfl (by show 2 * 0 + _ ≤ _; exact Nat.le_of_eq rfl) (hb hby d_prog_4_method_3_71) (fun _ _ => ⟨rfl, e116, Nat.le_of_ble_eq_true rfl, Nat.le_of_ble_eq_true rfl⟩)
  dsimp only [Pt.U, Pt.locs, Pt.cells, Pt.slots] at X117 l117 y117 z117 st117 hQ117
  subst l117 y117 z117
  obtain ⟨h117, e117⟩ : ∃ z, T117.heap = z := ⟨_, rfl⟩
  rw [e117] at hQ117
  obtain ⟨b_117, k2_117, rfl, N117q, Kp117, p117_V_b, p117_gh_b⟩ := hQ117
  have Sz3 : h105.size ≤ h117.size := Kp117.1
  have N117 := Fr.app N115 N117q
  have c118_F_contentStarts_a1 : Fld Z h117 a1 "com/example/macroweave/macroweave/BracketPairs" "contentStarts" "[I" (.ref aN) := c109_F_contentStarts_a1.keep Kp117 nin0
  have c119_E_a1 : Exa Z h105 a1 "com/example/macroweave/macroweave/BracketPairs" := Exa.wr W105 c104_E_a1
  have c120_E_a1 : Exa Z h117 a1 "com/example/macroweave/macroweave/BracketPairs" := c119_E_a1.keep Kp117
  obtain ⟨T121, h121, X121, e121, W121, st121⟩ := putF X117 hx hZ hown (host := "") (Or.inl (wi hw 14 rfl)) Via.refl e117 c118_F_contentStarts_a1 c120_E_a1 (Or.inl (wi hw 15 rfl)) (wi hw 4 rfl) (ty := (.array .int)) (by decide) rfl rfl (g := (mkF mM 74 (Lc_open1_0 a1 d x) [(.ref b_117), (.ref a1)])) rfl rfl (hb hby d_prog_4_method_3_74)
  have Sz4 : h117.size ≤ h121.size := Nat.le_of_eq (Wr.size W121).symm
  have Fw121 : Fld Z h121 a1 "com/example/macroweave/macroweave/BracketPairs" "contentStarts" "[I" (.ref b_117) := Fld.same W121 c118_F_contentStarts_a1
  have N121 := Fr.snoc X121 N117 g_a1
  have c122_F_closes_a1 : Fld Z h102 a1 "com/example/macroweave/macroweave/BracketPairs" "closes" "[I" (.ref aN) := Fld.other W102 F_closes_a1 (Or.inr (slot_ne (Or.inl (wi hw 17 rfl)) (Or.inl (wi hw 24 rfl)) (by decide) (t := (.array .int)) (t' := (.object "com/example/macroweave/macroweave/Brackets")) (by decide) (by decide)))
  have c123_F_closes_a1 : Fld Z h105 a1 "com/example/macroweave/macroweave/BracketPairs" "closes" "[I" (.ref aN) := Fld.other W105 c122_F_closes_a1 (Or.inr (slot_ne (Or.inl (wi hw 17 rfl)) (Or.inl (wi hw 26 rfl)) (by decide) (t := (.array .int)) (t' := .int) (by decide) (by decide)))
  have c124_F_closes_a1 : Fld Z h117 a1 "com/example/macroweave/macroweave/BracketPairs" "closes" "[I" (.ref aN) := c123_F_closes_a1.keep Kp117 nin0
  have c125_F_closes_a1 : Fld Z h121 a1 "com/example/macroweave/macroweave/BracketPairs" "closes" "[I" (.ref aN) := Fld.other W121 c124_F_closes_a1 (Or.inr (slot_ne (Or.inl (wi hw 17 rfl)) (Or.inl (wi hw 15 rfl)) (by decide) (t := (.array .int)) (t' := (.array .int)) (by decide) (by decide)))
  obtain ⟨T126, X126, e126, st126⟩ := getF X121 hx hZ hown (host := "") (Or.inl (wi hw 16 rfl)) Via.refl e121 c125_F_closes_a1 (g := (mkF mM 79 (Lc_open1_0 a1 d x) [(.ref a1), (.ref a1)])) rfl rfl (hb hby d_prog_4_method_3_79)
  have c128_V_aN : Arv Z h117 aN k .int (0 : Int32) [] (.int (0 : Int32)) := c112_V_aN.keep Kp117 nin0
  have c129_V_aN : Arv Z h121 aN k .int (0 : Int32) [] (.int (0 : Int32)) := c128_V_aN.other W121 (Ne.symm ne_a1_aN)
  obtain ⟨_, _, ⟨T127, L127, k127, n127⟩, -, X127, ⟨Lc127, hQ127, l127, y127, z127⟩, st127⟩ := Jvm.LawKit.callS X126 hx (y := (⟨"java/util/Arrays", "copyOf", "([II)[I"⟩ : MethodName)) hown (mvT hZ (wi hw 31 rfl)) (mvT hZ (wi hw 32 rfl)) (mvT hZ (wi hw 33 rfl)) (mvT hZ (wi hw 34 rfl)) (by decide) (backOf (W := 1) (rm_copyOf l Z a0 hw [] aN k h121 n0 (by omega) c129_V_aN) hZ (wi hw 34 rfl) (wi hw 33 rfl) (by decide) (by decide)) (g := (mkF mM 83 (Lc_open1_0 a1 d x) [(.int (4 : Int32)), (.ref aN), (.ref a1)])) rfl (by rw [hml]; rfl) (argsL := [(.ref aN), (.int (4 : Int32))]) (rest := [(.ref a1)]) (lenOf pd_3 rfl) rfl (by show 2 * 0 + _ ≤ _; exact Nat.le_of_eq rfl) (hb hby d_prog_4_method_3_83) (fun _ _ => ⟨rfl, e126, Nat.le_of_ble_eq_true rfl, Nat.le_of_ble_eq_true rfl⟩)
  dsimp only [Pt.U, Pt.locs, Pt.cells, Pt.slots] at X127 l127 y127 z127 st127 hQ127
  subst l127 y127 z127
  obtain ⟨h127, e127⟩ : ∃ z, T127.heap = z := ⟨_, rfl⟩
  rw [e127] at hQ127
  obtain ⟨b_127, k2_127, rfl, N127q, Kp127, p127_V_b, p127_gh_b⟩ := hQ127
  have Sz5 : h121.size ≤ h127.size := Kp127.1
  have N127 := Fr.app N121 N127q
  have c130_F_closes_a1 : Fld Z h127 a1 "com/example/macroweave/macroweave/BracketPairs" "closes" "[I" (.ref aN) := c125_F_closes_a1.keep Kp127 nin0
  have c131_E_a1 : Exa Z h121 a1 "com/example/macroweave/macroweave/BracketPairs" := Exa.wr W121 c120_E_a1
  have c132_E_a1 : Exa Z h127 a1 "com/example/macroweave/macroweave/BracketPairs" := c131_E_a1.keep Kp127
  obtain ⟨T133, h133, X133, e133, W133, st133⟩ := putF X127 hx hZ hown (host := "") (Or.inl (wi hw 16 rfl)) Via.refl e127 c130_F_closes_a1 c132_E_a1 (Or.inl (wi hw 17 rfl)) (wi hw 4 rfl) (ty := (.array .int)) (by decide) rfl rfl (g := (mkF mM 86 (Lc_open1_0 a1 d x) [(.ref b_127), (.ref a1)])) rfl rfl (hb hby d_prog_4_method_3_86)
  have Sz6 : h127.size ≤ h133.size := Nat.le_of_eq (Wr.size W133).symm
  have Fw133 : Fld Z h133 a1 "com/example/macroweave/macroweave/BracketPairs" "closes" "[I" (.ref b_127) := Fld.same W133 c130_F_closes_a1
  have N133 := Fr.snoc X133 N127 g_a1
  have c134_F_contentStarts_a1 : Fld Z h127 a1 "com/example/macroweave/macroweave/BracketPairs" "contentStarts" "[I" (.ref b_117) := Fw121.keep Kp127 nin0
  have c135_F_contentStarts_a1 : Fld Z h133 a1 "com/example/macroweave/macroweave/BracketPairs" "contentStarts" "[I" (.ref b_117) := Fld.other W133 c134_F_contentStarts_a1 (Or.inr (slot_ne (Or.inl (wi hw 15 rfl)) (Or.inl (wi hw 17 rfl)) (by decide) (t := (.array .int)) (t' := (.array .int)) (by decide) (by decide)))
  obtain ⟨T136, X136, e136, st136⟩ := getF X133 hx hZ hown (host := "") (Or.inl (wi hw 14 rfl)) Via.refl e133 c135_F_contentStarts_a1 (g := (mkF mM 90 (Lc_open1_0 a1 d x) [(.ref a1)])) rfl rfl (hb hby d_prog_4_method_3_90)
  have c137_F_size_a1 : Fld Z h117 a1 "com/example/macroweave/macroweave/BracketPairs" "size" "I" (.int (0 : Int32)) := Fw105.keep Kp117 nin0
  have c138_F_size_a1 : Fld Z h121 a1 "com/example/macroweave/macroweave/BracketPairs" "size" "I" (.int (0 : Int32)) := Fld.other W121 c137_F_size_a1 (Or.inr (slot_ne (Or.inl (wi hw 26 rfl)) (Or.inl (wi hw 15 rfl)) (by decide) (t := .int) (t' := (.array .int)) (by decide) (by decide)))
  have c139_F_size_a1 : Fld Z h127 a1 "com/example/macroweave/macroweave/BracketPairs" "size" "I" (.int (0 : Int32)) := c138_F_size_a1.keep Kp127 nin0
  have c140_F_size_a1 : Fld Z h133 a1 "com/example/macroweave/macroweave/BracketPairs" "size" "I" (.int (0 : Int32)) := Fld.other W133 c139_F_size_a1 (Or.inr (slot_ne (Or.inl (wi hw 26 rfl)) (Or.inl (wi hw 17 rfl)) (by decide) (t := .int) (t' := (.array .int)) (by decide) (by decide)))
  obtain ⟨T141, X141, e141, st141⟩ := getF X136 hx hZ hown (host := "") (Or.inl (wi hw 25 rfl)) Via.refl e136 c140_F_size_a1 (g := (mkF mM 94 (Lc_open1_0 a1 d x) [(.ref a1), (.ref b_117)])) rfl rfl (hb hby d_prog_4_method_3_94)
  have lt_b_117 : @LT.lt Nat _ b_117 h117.size := p117_V_b.lt
  have lt_a1 : @LT.lt Nat _ a1 h0.size := E_a1.lt
  have ne_b_117_a1_142 : b_117 ≠ a1 := (by omega : @Ne Nat b_117 a1)
  have c143_V_b_117 : Arv Z h121 b_117 k2_117 .int (4 : Int32) [(.int (0 : Int32)), (.int (0 : Int32)), (.int (0 : Int32)), (.int (0 : Int32))] (.int (0 : Int32)) := p117_V_b.other W121 ne_b_117_a1_142
  have c144_V_b_117 : Arv Z h127 b_117 k2_117 .int (4 : Int32) [(.int (0 : Int32)), (.int (0 : Int32)), (.int (0 : Int32)), (.int (0 : Int32))] (.int (0 : Int32)) := c143_V_b_117.keep Kp127 nin0
  have c145_V_b_117 : Arv Z h133 b_117 k2_117 .int (4 : Int32) [(.int (0 : Int32)), (.int (0 : Int32)), (.int (0 : Int32)), (.int (0 : Int32))] (.int (0 : Int32)) := c144_V_b_117.other W133 ne_b_117_a1_142
  obtain ⟨cl146, Ar146, q146, S146, Ng146, Ha146, Ga146⟩ := id c145_V_b_117
  have hin146 : ¬ ((0 : Int32) < 0 ∨ cl146.slots.size ≤ ((0 : Int32)).toNatClampNeg) := inb_of S146 ⟨by decide, by decide⟩
  obtain ⟨T147, h147, X147, e147, W147, st147⟩ := stI X141 hx hZ e141 Ar146 (j := (0 : Int32)) hin146 (g := (mkF mM 98 (Lc_open1_0 a1 d x) [(.int x), (.int (0 : Int32)), (.ref b_117)])) rfl rfl (hb hby d_prog_4_method_3_98)
  have ge148_b_117 : @LE.le Nat _ n0 b_117 := by omega
  have Sz7 : h133.size ≤ h147.size := Nat.le_of_eq (Wr.size W147).symm
  have Vs147 := Arv.set Ar146 q146 S146 Ng146 Ha146 Ga146 rfl W147 0 rfl (Nat.le_of_ble_eq_true rfl)
  have Vt147 : Arv Z h147 b_117 k2_117 .int (4 : Int32) [(.int x), (.int (0 : Int32)), (.int (0 : Int32)), (.int (0 : Int32))] (.int (0 : Int32)) := Vs147
  have N147 := Fr.snoc X147 N133 ge148_b_117
  have ne_a1_b_117_149 : a1 ≠ b_117 := (by omega : @Ne Nat a1 b_117)
  have c150_F_closes_a1 : Fld Z h147 a1 "com/example/macroweave/macroweave/BracketPairs" "closes" "[I" (.ref b_127) := Fld.other W147 Fw133 (Or.inl ne_a1_b_117_149)
  obtain ⟨T151, X151, e151, st151⟩ := getF X147 hx hZ hown (host := "") (Or.inl (wi hw 16 rfl)) Via.refl e147 c150_F_closes_a1 (g := (mkF mM 100 (Lc_open1_0 a1 d x) [(.ref a1)])) rfl rfl (hb hby d_prog_4_method_3_100)
  have c152_F_size_a1 : Fld Z h147 a1 "com/example/macroweave/macroweave/BracketPairs" "size" "I" (.int (0 : Int32)) := Fld.other W147 c140_F_size_a1 (Or.inl ne_a1_b_117_149)
  obtain ⟨T153, X153, e153, st153⟩ := getF X151 hx hZ hown (host := "") (Or.inl (wi hw 25 rfl)) Via.refl e151 c152_F_size_a1 (g := (mkF mM 104 (Lc_open1_0 a1 d x) [(.ref a1), (.ref b_127)])) rfl rfl (hb hby d_prog_4_method_3_104)
  have lt_b_127 : @LT.lt Nat _ b_127 h127.size := p127_V_b.lt
  have ne_b_127_a1_154 : b_127 ≠ a1 := (by omega : @Ne Nat b_127 a1)
  have c155_V_b_127 : Arv Z h133 b_127 k2_127 .int (4 : Int32) [(.int (0 : Int32)), (.int (0 : Int32)), (.int (0 : Int32)), (.int (0 : Int32))] (.int (0 : Int32)) := p127_V_b.other W133 ne_b_127_a1_154
  have ne_b_127_b_117_156 : b_127 ≠ b_117 := (by omega : @Ne Nat b_127 b_117)
  have c157_V_b_127 : Arv Z h147 b_127 k2_127 .int (4 : Int32) [(.int (0 : Int32)), (.int (0 : Int32)), (.int (0 : Int32)), (.int (0 : Int32))] (.int (0 : Int32)) := c155_V_b_127.other W147 ne_b_127_b_117_156
  obtain ⟨cl158, Ar158, q158, S158, Ng158, Ha158, Ga158⟩ := id c157_V_b_127
  have hin158 : ¬ ((0 : Int32) < 0 ∨ cl158.slots.size ≤ ((0 : Int32)).toNatClampNeg) := inb_of S158 ⟨by decide, by decide⟩
  obtain ⟨T159, h159, X159, e159, W159, st159⟩ := stI X153 hx hZ e153 Ar158 (j := (0 : Int32)) hin158 (g := (mkF mM 108 (Lc_open1_0 a1 d x) [(.int (-1 : Int32)), (.int (0 : Int32)), (.ref b_127)])) rfl rfl (hb hby d_prog_4_method_3_108)
  have ge160_b_127 : @LE.le Nat _ n0 b_127 := by omega
  have Sz8 : h147.size ≤ h159.size := Nat.le_of_eq (Wr.size W159).symm
  have Vs159 := Arv.set Ar158 q158 S158 Ng158 Ha158 Ga158 rfl W159 0 rfl (Nat.le_of_ble_eq_true rfl)
  have Vt159 : Arv Z h159 b_127 k2_127 .int (4 : Int32) [(.int (-1 : Int32)), (.int (0 : Int32)), (.int (0 : Int32)), (.int (0 : Int32))] (.int (0 : Int32)) := Vs159
  have N159 := Fr.snoc X159 N147 ge160_b_127
  have ne_a1_b_127_161 : a1 ≠ b_127 := (by omega : @Ne Nat a1 b_127)
  have c162_F_size_a1 : Fld Z h159 a1 "com/example/macroweave/macroweave/BracketPairs" "size" "I" (.int (0 : Int32)) := Fld.other W159 c152_F_size_a1 (Or.inl ne_a1_b_127_161)
  obtain ⟨T163, X163, e163, st163⟩ := getF X159 hx hZ hown (host := "") (Or.inl (wi hw 25 rfl)) Via.refl e159 c162_F_size_a1 (g := (mkF mM 111 (Lc_open1_0 a1 d x) [(.ref a1), (.ref a1)])) rfl rfl (hb hby d_prog_4_method_3_111)
  have c164_E_a1 : Exa Z h133 a1 "com/example/macroweave/macroweave/BracketPairs" := Exa.wr W133 c132_E_a1
  have c165_E_a1 : Exa Z h147 a1 "com/example/macroweave/macroweave/BracketPairs" := Exa.wr W147 c164_E_a1
  have c166_E_a1 : Exa Z h159 a1 "com/example/macroweave/macroweave/BracketPairs" := Exa.wr W159 c165_E_a1
  obtain ⟨T167, h167, X167, e167, W167, st167⟩ := putF X163 hx hZ hown (host := "") (Or.inl (wi hw 25 rfl)) Via.refl e163 c162_F_size_a1 c166_E_a1 (Or.inl (wi hw 26 rfl)) (wi hw 4 rfl) (ty := .int) (by decide) rfl rfl (g := (mkF mM 117 (Lc_open1_0 a1 d x) [(.int (1 : Int32)), (.ref a1), (.int (0 : Int32))])) rfl rfl (hb hby d_prog_4_method_3_117)
  have Sz9 : h159.size ≤ h167.size := Nat.le_of_eq (Wr.size W167).symm
  have Fw167 : Fld Z h167 a1 "com/example/macroweave/macroweave/BracketPairs" "size" "I" (.int (1 : Int32)) := Fld.same W167 c162_F_size_a1
  have N167 := Fr.snoc X167 N159 g_a1
  have c168_F_contentStarts_a1 : Fld Z h147 a1 "com/example/macroweave/macroweave/BracketPairs" "contentStarts" "[I" (.ref b_117) := Fld.other W147 c135_F_contentStarts_a1 (Or.inl ne_a1_b_117_149)
  have c169_F_contentStarts_a1 : Fld Z h159 a1 "com/example/macroweave/macroweave/BracketPairs" "contentStarts" "[I" (.ref b_117) := Fld.other W159 c168_F_contentStarts_a1 (Or.inl ne_a1_b_127_161)
  have c170_F_contentStarts_a1 : Fld Z h167 a1 "com/example/macroweave/macroweave/BracketPairs" "contentStarts" "[I" (.ref b_117) := Fld.other W167 c169_F_contentStarts_a1 (Or.inr (slot_ne (Or.inl (wi hw 15 rfl)) (Or.inl (wi hw 26 rfl)) (by decide) (t := (.array .int)) (t' := .int) (by decide) (by decide)))
  have c171_F_closes_a1 : Fld Z h159 a1 "com/example/macroweave/macroweave/BracketPairs" "closes" "[I" (.ref b_127) := Fld.other W159 c150_F_closes_a1 (Or.inl ne_a1_b_127_161)
  have c172_F_closes_a1 : Fld Z h167 a1 "com/example/macroweave/macroweave/BracketPairs" "closes" "[I" (.ref b_127) := Fld.other W167 c171_F_closes_a1 (Or.inr (slot_ne (Or.inl (wi hw 17 rfl)) (Or.inl (wi hw 26 rfl)) (by decide) (t := (.array .int)) (t' := .int) (by decide) (by decide)))
  have ne_b_117_b_127_173 : b_117 ≠ b_127 := (by omega : @Ne Nat b_117 b_127)
  have c174_V_b_117 : Arv Z h159 b_117 k2_117 .int (4 : Int32) [(.int x), (.int (0 : Int32)), (.int (0 : Int32)), (.int (0 : Int32))] (.int (0 : Int32)) := Vt147.other W159 ne_b_117_b_127_173
  have c175_V_b_117 : Arv Z h167 b_117 k2_117 .int (4 : Int32) [(.int x), (.int (0 : Int32)), (.int (0 : Int32)), (.int (0 : Int32))] (.int (0 : Int32)) := c174_V_b_117.other W167 ne_b_117_a1_142
  have c176_V_b_127 : Arv Z h167 b_127 k2_127 .int (4 : Int32) [(.int (-1 : Int32)), (.int (0 : Int32)), (.int (0 : Int32)), (.int (0 : Int32))] (.int (0 : Int32)) := Vt159.other W167 ne_b_127_a1_154
  have c177_E_a1 : Exa Z h167 a1 "com/example/macroweave/macroweave/BracketPairs" := Exa.wr W167 c166_E_a1
  have c178_F_brackets_a1 : Fld Z h105 a1 "com/example/macroweave/macroweave/BracketPairs" "brackets" "Lcom/example/macroweave/macroweave/Brackets;" (.ref d) := Fld.other W105 Fw102 (Or.inr (slot_ne (Or.inl (wi hw 24 rfl)) (Or.inl (wi hw 26 rfl)) (by decide) (t := (.object "com/example/macroweave/macroweave/Brackets")) (t' := .int) (by decide) (by decide)))
  have c179_F_brackets_a1 : Fld Z h117 a1 "com/example/macroweave/macroweave/BracketPairs" "brackets" "Lcom/example/macroweave/macroweave/Brackets;" (.ref d) := c178_F_brackets_a1.keep Kp117 nin0
  have c180_F_brackets_a1 : Fld Z h121 a1 "com/example/macroweave/macroweave/BracketPairs" "brackets" "Lcom/example/macroweave/macroweave/Brackets;" (.ref d) := Fld.other W121 c179_F_brackets_a1 (Or.inr (slot_ne (Or.inl (wi hw 24 rfl)) (Or.inl (wi hw 15 rfl)) (by decide) (t := (.object "com/example/macroweave/macroweave/Brackets")) (t' := (.array .int)) (by decide) (by decide)))
  have c181_F_brackets_a1 : Fld Z h127 a1 "com/example/macroweave/macroweave/BracketPairs" "brackets" "Lcom/example/macroweave/macroweave/Brackets;" (.ref d) := c180_F_brackets_a1.keep Kp127 nin0
  have c182_F_brackets_a1 : Fld Z h133 a1 "com/example/macroweave/macroweave/BracketPairs" "brackets" "Lcom/example/macroweave/macroweave/Brackets;" (.ref d) := Fld.other W133 c181_F_brackets_a1 (Or.inr (slot_ne (Or.inl (wi hw 24 rfl)) (Or.inl (wi hw 17 rfl)) (by decide) (t := (.object "com/example/macroweave/macroweave/Brackets")) (t' := (.array .int)) (by decide) (by decide)))
  have c183_F_brackets_a1 : Fld Z h147 a1 "com/example/macroweave/macroweave/BracketPairs" "brackets" "Lcom/example/macroweave/macroweave/Brackets;" (.ref d) := Fld.other W147 c182_F_brackets_a1 (Or.inl ne_a1_b_117_149)
  have c184_F_brackets_a1 : Fld Z h159 a1 "com/example/macroweave/macroweave/BracketPairs" "brackets" "Lcom/example/macroweave/macroweave/Brackets;" (.ref d) := Fld.other W159 c183_F_brackets_a1 (Or.inl ne_a1_b_127_161)
  have c185_F_brackets_a1 : Fld Z h167 a1 "com/example/macroweave/macroweave/BracketPairs" "brackets" "Lcom/example/macroweave/macroweave/Brackets;" (.ref d) := Fld.other W167 c184_F_brackets_a1 (Or.inr (slot_ne (Or.inl (wi hw 24 rfl)) (Or.inl (wi hw 26 rfl)) (by decide) (t := (.object "com/example/macroweave/macroweave/Brackets")) (t' := .int) (by decide) (by decide)))
  have K186 : Keep h0 h102 [a1] := (Keep.refl h0 [a1]).wr W102 (Or.inl (List.mem_of_getElem? (i := 0) rfl))
  have K187 : Keep h0 h105 [a1] := K186.wr W105 (Or.inl (List.mem_of_getElem? (i := 0) rfl))
  have K188 : Keep h0 h117 [a1] := K187.trans Kp117 all0
  have K189 : Keep h0 h121 [a1] := K188.wr W121 (Or.inl (List.mem_of_getElem? (i := 0) rfl))
  have K190 : Keep h0 h127 [a1] := K189.trans Kp127 all0
  have K191 : Keep h0 h133 [a1] := K190.wr W133 (Or.inl (List.mem_of_getElem? (i := 0) rfl))
  have K192 : Keep h0 h147 [a1] := K191.wr W147 (Or.inr (by omega : @LE.le Nat _ h0.size b_117))
  have K193 : Keep h0 h159 [a1] := K192.wr W159 (Or.inr (by omega : @LE.le Nat _ h0.size b_127))
  have K194 : Keep h0 h167 [a1] := K193.wr W167 (Or.inl (List.mem_of_getElem? (i := 0) rfl))
  obtain ⟨fs, hr, hrun, hended, hW, hsame⟩ := X167.leave (v := some (.int (0 : Int32))) (fun h => by rw [Bd.returns] at h; cases h)
  refine ⟨_, _, pre0 _ ?_, hrun, hended, _, _, rfl, ?_, ⟨_, rfl⟩, hW, hsame.mono (by decide) (by decide)⟩
  · show SS pP eE belowS s₁ (mkF mM 0 #[.val (.ref a1), .val (.ref d), .val (.int x), .unset] []) _
    refine XS.aloadN X0.here hx rfl (hb hby d_prog_4_method_3_0) rfl rfl ?_
    show SS pP eE belowS s₁ (mkF mM 1 #[.val (.ref a1), .val (.ref d), .val (.int x), .unset] [(.ref d)]) _
    refine XS.aloadN X0.here hx rfl (hb hby d_prog_4_method_3_1) rfl rfl ?_
    show SS pP eE belowS s₁ (mkF mM 2 #[.val (.ref a1), .val (.ref d), .val (.int x), .unset] [(.ref a1), (.ref d)]) _
    refine st101 _ ?_
    show SS pP eE belowS T101 (mkF mM 5 #[.val (.ref a1), .val (.ref d), .val (.int x), .unset] [.null, (.ref d)]) _
    refine Jvm.RoadKit.acmp (g := (mkF mM 5 #[.val (.ref a1), .val (.ref d), .val (.int x), .unset] [.null, (.ref d)])) X101 hx rfl rfl rfl (pc0 := 5) (pc' := 8) (same := false) rfl (hb hby d_prog_4_method_3_5) rfl (decide_eq_false nofun) (by decide) (by decide) ?_
    show SS pP eE belowS T101 (mkF mM 8 #[.val (.ref a1), .val (.ref d), .val (.int x), .unset] []) _
    refine XS.aloadN X101.here hx rfl (hb hby d_prog_4_method_3_8) rfl rfl ?_
    show SS pP eE belowS T101 (mkF mM 9 #[.val (.ref a1), .val (.ref d), .val (.int x), .unset] [(.ref a1)]) _
    refine XS.aloadN X101.here hx rfl (hb hby d_prog_4_method_3_9) rfl rfl ?_
    show SS pP eE belowS T101 (mkF mM 10 #[.val (.ref a1), .val (.ref d), .val (.int x), .unset] [(.ref d), (.ref a1)]) _
    refine st102 _ ?_
    show SS pP eE belowS T102 (mkF mM 13 #[.val (.ref a1), .val (.ref d), .val (.int x), .unset] []) _
    refine XS.aloadN X102.here hx rfl (hb hby d_prog_4_method_3_13) rfl rfl ?_
    show SS pP eE belowS T102 (mkF mM 14 #[.val (.ref a1), .val (.ref d), .val (.int x), .unset] [(.ref a1)]) _
    refine XS.iconst X102.here hx rfl (hb hby d_prog_4_method_3_14) ?_
    show SS pP eE belowS T102 (mkF mM 15 #[.val (.ref a1), .val (.ref d), .val (.int x), .unset] [(.int (0 : Int32)), (.ref a1)]) _
    refine st105 _ ?_
    show SS pP eE belowS T105 (mkF mM 18 #[.val (.ref a1), .val (.ref d), .val (.int x), .unset] []) _
    refine XS.aloadN X105.here hx rfl (hb hby d_prog_4_method_3_18) rfl rfl ?_
    show SS pP eE belowS T105 (mkF mM 19 #[.val (.ref a1), .val (.ref d), .val (.int x), .unset] [(.ref a1)]) _
    refine st106 _ ?_
    show SS pP eE belowS T106 (mkF mM 22 #[.val (.ref a1), .val (.ref d), .val (.int x), .unset] [(.int (0 : Int32))]) _
    refine XS.ifYes X106.here hx rfl (pc0 := 22) (pc' := 42) rfl (hb hby d_prog_4_method_3_22) rfl ((if0 _ _).trans (flt (by decide : ¬ ((0 : Int32) < (0 : Int32)))).2.2.2) (by decide) (by decide) ?_
    show SS pP eE belowS T106 (mkF mM 42 #[.val (.ref a1), .val (.ref d), .val (.int x), .unset] []) _
    refine XS.aloadN X106.here hx rfl (hb hby d_prog_4_method_3_42) rfl rfl ?_
    show SS pP eE belowS T106 (mkF mM 43 #[.val (.ref a1), .val (.ref d), .val (.int x), .unset] [(.ref a1)]) _
    refine st107 _ ?_
    show SS pP eE belowS T107 (mkF mM 46 #[.val (.ref a1), .val (.ref d), .val (.int x), .unset] [(.int (0 : Int32))]) _
    refine XS.aloadN X107.here hx rfl (hb hby d_prog_4_method_3_46) rfl rfl ?_
    show SS pP eE belowS T107 (mkF mM 47 #[.val (.ref a1), .val (.ref d), .val (.int x), .unset] [(.ref a1), (.int (0 : Int32))]) _
    refine st110 _ ?_
    show SS pP eE belowS T110 (mkF mM 50 #[.val (.ref a1), .val (.ref d), .val (.int x), .unset] [(.ref aN), (.int (0 : Int32))]) _
    refine X110.arraylength hx (by rw [e110]; exact Ar113.1) (State.isArrayOf_alike hZ.alike Ar113.2.1) (g := (mkF mM 50 #[.val (.ref a1), .val (.ref d), .val (.int x), .unset] [(.ref aN), (.int (0 : Int32))])) rfl rfl (hb hby d_prog_4_method_3_50) _ ?_
    rw [len_of S113 Ng113]
    show SS pP eE belowS T110 (mkF mM 51 #[.val (.ref a1), .val (.ref d), .val (.int x), .unset] [(.int (0 : Int32)), (.int (0 : Int32))]) _
    refine XS.icmpNo X110.here hx rfl (hb hby d_prog_4_method_3_51) rfl (teq (by decide : (0 : Int32) = (0 : Int32))).2 ?_
    show SS pP eE belowS T110 (mkF mM 54 #[.val (.ref a1), .val (.ref d), .val (.int x), .unset] []) _
    refine XS.iconst X110.here hx rfl (hb hby d_prog_4_method_3_54) ?_
    show SS pP eE belowS T110 (mkF mM 55 #[.val (.ref a1), .val (.ref d), .val (.int x), .unset] [(.int (4 : Int32))]) _
    refine XS.aloadN X110.here hx rfl (hb hby d_prog_4_method_3_55) rfl rfl ?_
    show SS pP eE belowS T110 (mkF mM 56 #[.val (.ref a1), .val (.ref d), .val (.int x), .unset] [(.ref a1), (.int (4 : Int32))]) _
    refine st114 _ ?_
    show SS pP eE belowS T114 (mkF mM 59 #[.val (.ref a1), .val (.ref d), .val (.int x), .unset] [(.int (0 : Int32)), (.int (4 : Int32))]) _
    refine XS.iconst X114.here hx rfl (hb hby d_prog_4_method_3_59) ?_
    show SS pP eE belowS T114 (mkF mM 60 #[.val (.ref a1), .val (.ref d), .val (.int x), .unset] [(.int (2 : Int32)), (.int (0 : Int32)), (.int (4 : Int32))]) _
    refine XS.imul X114.here hx rfl (hb hby d_prog_4_method_3_60) rfl ?_
    show SS pP eE belowS T114 (mkF mM 61 #[.val (.ref a1), .val (.ref d), .val (.int x), .unset] [(.int (0 : Int32)), (.int (4 : Int32))]) _
    refine st115 _ ?_
    show SS pP eE belowS T115 (mkF mM 64 #[.val (.ref a1), .val (.ref d), .val (.int x), .unset] [(.int (4 : Int32))]) _
    refine XS.istoreN X115.here hx rfl (hb hby d_prog_4_method_3_64) rfl (l' := (Lc_open1_0 a1 d x)) rfl ?_
    show SS pP eE belowS T115 (mkF mM 65 (Lc_open1_0 a1 d x) []) _
    refine XS.aloadN X115.here hx rfl (hb hby d_prog_4_method_3_65) rfl rfl ?_
    show SS pP eE belowS T115 (mkF mM 66 (Lc_open1_0 a1 d x) [(.ref a1)]) _
    refine XS.aloadN X115.here hx rfl (hb hby d_prog_4_method_3_66) rfl rfl ?_
    show SS pP eE belowS T115 (mkF mM 67 (Lc_open1_0 a1 d x) [(.ref a1), (.ref a1)]) _
    refine st116 _ ?_
    show SS pP eE belowS T116 (mkF mM 70 (Lc_open1_0 a1 d x) [(.ref aN), (.ref a1)]) _
    refine XS.iloadN X116.here hx rfl (hb hby d_prog_4_method_3_70) rfl ?_
    show SS pP eE belowS T116 (mkF mM 71 (Lc_open1_0 a1 d x) [(.int (4 : Int32)), (.ref aN), (.ref a1)]) _
    refine st117 _ ?_
    show SS pP eE belowS T117 (mkF mM 74 (Lc_open1_0 a1 d x) [(.ref b_117), (.ref a1)]) _
    refine st121 _ ?_
    show SS pP eE belowS T121 (mkF mM 77 (Lc_open1_0 a1 d x) []) _
    refine XS.aloadN X121.here hx rfl (hb hby d_prog_4_method_3_77) rfl rfl ?_
    show SS pP eE belowS T121 (mkF mM 78 (Lc_open1_0 a1 d x) [(.ref a1)]) _
    refine XS.aloadN X121.here hx rfl (hb hby d_prog_4_method_3_78) rfl rfl ?_
    show SS pP eE belowS T121 (mkF mM 79 (Lc_open1_0 a1 d x) [(.ref a1), (.ref a1)]) _
    refine st126 _ ?_
    show SS pP eE belowS T126 (mkF mM 82 (Lc_open1_0 a1 d x) [(.ref aN), (.ref a1)]) _
    refine XS.iloadN X126.here hx rfl (hb hby d_prog_4_method_3_82) rfl ?_
    show SS pP eE belowS T126 (mkF mM 83 (Lc_open1_0 a1 d x) [(.int (4 : Int32)), (.ref aN), (.ref a1)]) _
    refine st127 _ ?_
    show SS pP eE belowS T127 (mkF mM 86 (Lc_open1_0 a1 d x) [(.ref b_127), (.ref a1)]) _
    refine st133 _ ?_
    show SS pP eE belowS T133 (mkF mM 89 (Lc_open1_0 a1 d x) []) _
    refine XS.aloadN X133.here hx rfl (hb hby d_prog_4_method_3_89) rfl rfl ?_
    show SS pP eE belowS T133 (mkF mM 90 (Lc_open1_0 a1 d x) [(.ref a1)]) _
    refine st136 _ ?_
    show SS pP eE belowS T136 (mkF mM 93 (Lc_open1_0 a1 d x) [(.ref b_117)]) _
    refine XS.aloadN X136.here hx rfl (hb hby d_prog_4_method_3_93) rfl rfl ?_
    show SS pP eE belowS T136 (mkF mM 94 (Lc_open1_0 a1 d x) [(.ref a1), (.ref b_117)]) _
    refine st141 _ ?_
    show SS pP eE belowS T141 (mkF mM 97 (Lc_open1_0 a1 d x) [(.int (0 : Int32)), (.ref b_117)]) _
    refine XS.iloadN X141.here hx rfl (hb hby d_prog_4_method_3_97) rfl ?_
    show SS pP eE belowS T141 (mkF mM 98 (Lc_open1_0 a1 d x) [(.int x), (.int (0 : Int32)), (.ref b_117)]) _
    refine st147 _ ?_
    show SS pP eE belowS T147 (mkF mM 99 (Lc_open1_0 a1 d x) []) _
    refine XS.aloadN X147.here hx rfl (hb hby d_prog_4_method_3_99) rfl rfl ?_
    show SS pP eE belowS T147 (mkF mM 100 (Lc_open1_0 a1 d x) [(.ref a1)]) _
    refine st151 _ ?_
    show SS pP eE belowS T151 (mkF mM 103 (Lc_open1_0 a1 d x) [(.ref b_127)]) _
    refine XS.aloadN X151.here hx rfl (hb hby d_prog_4_method_3_103) rfl rfl ?_
    show SS pP eE belowS T151 (mkF mM 104 (Lc_open1_0 a1 d x) [(.ref a1), (.ref b_127)]) _
    refine st153 _ ?_
    show SS pP eE belowS T153 (mkF mM 107 (Lc_open1_0 a1 d x) [(.int (0 : Int32)), (.ref b_127)]) _
    refine XS.iconst X153.here hx rfl (hb hby d_prog_4_method_3_107) ?_
    show SS pP eE belowS T153 (mkF mM 108 (Lc_open1_0 a1 d x) [(.int (-1 : Int32)), (.int (0 : Int32)), (.ref b_127)]) _
    refine st159 _ ?_
    show SS pP eE belowS T159 (mkF mM 109 (Lc_open1_0 a1 d x) []) _
    refine XS.aloadN X159.here hx rfl (hb hby d_prog_4_method_3_109) rfl rfl ?_
    show SS pP eE belowS T159 (mkF mM 110 (Lc_open1_0 a1 d x) [(.ref a1)]) _
    refine XS.dup X159.here hx rfl (hb hby d_prog_4_method_3_110) rfl rfl ?_
    show SS pP eE belowS T159 (mkF mM 111 (Lc_open1_0 a1 d x) [(.ref a1), (.ref a1)]) _
    refine st163 _ ?_
    show SS pP eE belowS T163 (mkF mM 114 (Lc_open1_0 a1 d x) [(.int (0 : Int32)), (.ref a1)]) _
    refine XS.dupX1 X163.here hx rfl (hb hby d_prog_4_method_3_114) rfl rfl rfl ?_
    show SS pP eE belowS T163 (mkF mM 115 (Lc_open1_0 a1 d x) [(.int (0 : Int32)), (.ref a1), (.int (0 : Int32))]) _
    refine XS.iconst X163.here hx rfl (hb hby d_prog_4_method_3_115) ?_
    show SS pP eE belowS T163 (mkF mM 116 (Lc_open1_0 a1 d x) [(.int (1 : Int32)), (.int (0 : Int32)), (.ref a1), (.int (0 : Int32))]) _
    refine XS.iadd X163.here hx rfl (hb hby d_prog_4_method_3_116) rfl ?_
    show SS pP eE belowS T163 (mkF mM 117 (Lc_open1_0 a1 d x) [(.int (1 : Int32)), (.ref a1), (.int (0 : Int32))]) _
    refine st167 _ ?_
    show SS pP eE belowS T167 (mkF mM 120 (Lc_open1_0 a1 d x) [(.int (0 : Int32))]) _
    exact retI X167 hx Bd.returns (hb hby d_prog_4_method_3_120) hr
  · show Q_open1 Z a1 d x aN k h0 n0 _ T167.heap _
    rw [e167]
    exact ⟨b_117, b_127, k2_117, k2_127, rfl, N167, K194, c177_E_a1, c185_F_brackets_a1, c170_F_contentStarts_a1, c172_F_closes_a1, Fw167, c175_V_b_117, c176_V_b_127, (by omega), (by omega), ne_b_117_b_127_173⟩
theorem d_prog_4_method_3_25 : decode prog_4_method_3_code 25 = .ok (.iload_n 2, 1) := by decide +kernel
theorem d_prog_4_method_3_26 : decode prog_4_method_3_code 26 = .ok (.aload_n 0, 1) := by decide +kernel
theorem d_prog_4_method_3_27 : decode prog_4_method_3_code 27 = .ok (.getfield 13, 3) := by decide +kernel
theorem d_prog_4_method_3_30 : decode prog_4_method_3_code 30 = .ok (.aload_n 0, 1) := by decide +kernel
theorem d_prog_4_method_3_31 : decode prog_4_method_3_code 31 = .ok (.getfield 23, 3) := by decide +kernel
theorem d_prog_4_method_3_34 : decode prog_4_method_3_code 34 = .ok (.iconst 1, 1) := by decide +kernel
theorem d_prog_4_method_3_35 : decode prog_4_method_3_code 35 = .ok (.isub, 1) := by decide +kernel
theorem d_prog_4_method_3_36 : decode prog_4_method_3_code 36 = .ok (.iaload, 1) := by decide +kernel
theorem d_prog_4_method_3_37 : decode prog_4_method_3_code 37 = .ok (.if_icmp .gt 5, 3) := by decide +kernel
def Q_open2 (Z : State) (a1 : Addr) (d : Addr) (y : Int32) (x : Int32) (b1 : Addr) (b2 : Addr) (k1 : ClassId) (k2 : ClassId) (h0 : Heap) (n0 : Nat) (xv : Option Value) (xh : Heap) (xL : List Loc) : Prop := xv = some (.int (1 : Int32)) ∧ Fr n0 xL ∧ Keep h0 xh [a1, b1, b2] ∧ Exa Z xh a1 "com/example/macroweave/macroweave/BracketPairs" ∧ Fld Z xh a1 "com/example/macroweave/macroweave/BracketPairs" "brackets" "Lcom/example/macroweave/macroweave/Brackets;" (.ref d) ∧ Fld Z xh a1 "com/example/macroweave/macroweave/BracketPairs" "contentStarts" "[I" (.ref b1) ∧ Fld Z xh a1 "com/example/macroweave/macroweave/BracketPairs" "closes" "[I" (.ref b2) ∧ Fld Z xh a1 "com/example/macroweave/macroweave/BracketPairs" "size" "I" (.int (2 : Int32)) ∧ Arv Z xh b1 k1 .int (4 : Int32) [(.int x), (.int y), (.int (0 : Int32)), (.int (0 : Int32))] (.int (0 : Int32)) ∧ Arv Z xh b2 k2 .int (4 : Int32) [(.int (-1 : Int32)), (.int (-1 : Int32)), (.int (0 : Int32)), (.int (0 : Int32))] (.int (0 : Int32))
theorem ef_open2 (mM : MethodId) (a1 : Addr) (d : Addr) (y : Int32) (x : Int32) (b1 : Addr) (b2 : Addr) (k1 : ClassId) (k2 : ClassId) : entryFrame mM #[(.ref a1), (.ref d), (.int y)] 4 = mkF mM 0 #[.val (.ref a1), .val (.ref d), .val (.int y), .unset] [] := by first | (simp [entryFrame, mkF, argsToLocals, Value.category]; done) | rfl
set_option maxRecDepth 65536 in
set_option maxHeartbeats 40000000 in
theorem rm_open2 (l : Launch) (Z : State) (a0 : Array Value) (hw : ∀ d ∈ tables_1, d.before a0 Z = true) (ws : List Jvm.Cond) (a1 : Addr) (d : Addr) (y : Int32) (x : Int32) (b1 : Addr) (b2 : Addr) (k1 : ClassId) (k2 : ClassId) (h0 : Heap) (n0 : Nat) (Z0 : n0 ≤ h0.size) (E_a1 : Exa Z h0 a1 "com/example/macroweave/macroweave/BracketPairs") (F_brackets_a1 : Fld Z h0 a1 "com/example/macroweave/macroweave/BracketPairs" "brackets" "Lcom/example/macroweave/macroweave/Brackets;" (.ref d)) (F_contentStarts_a1 : Fld Z h0 a1 "com/example/macroweave/macroweave/BracketPairs" "contentStarts" "[I" (.ref b1)) (F_closes_a1 : Fld Z h0 a1 "com/example/macroweave/macroweave/BracketPairs" "closes" "[I" (.ref b2)) (F_size_a1 : Fld Z h0 a1 "com/example/macroweave/macroweave/BracketPairs" "size" "I" (.int (1 : Int32))) (V_b1 : Arv Z h0 b1 k1 .int (4 : Int32) [(.int x), (.int (0 : Int32)), (.int (0 : Int32)), (.int (0 : Int32))] (.int (0 : Int32))) (V_b2 : Arv Z h0 b2 k2 .int (4 : Int32) [(.int (-1 : Int32)), (.int (0 : Int32)), (.int (0 : Int32)), (.int (0 : Int32))] (.int (0 : Int32))) (ne_a1_b1 : a1 ≠ b1) (ne_a1_b2 : a1 ≠ b2) (ne_b1_b2 : b1 ≠ b2) (g_a1 : @LE.le Nat _ n0 a1) (g_b1 : @LE.le Nat _ n0 b1) (g_b2 : @LE.le Nat _ n0 b2) (hc37 : x < y) :
    MetFree l (⟨"com/example/macroweave/macroweave/BracketPairs", "opened", "(Lcom/example/macroweave/macroweave/Brackets;I)I"⟩ : MethodName) (head1 (Jvm.Cond.code (⟨"com/example/macroweave/macroweave/BracketPairs", "opened", "(Lcom/example/macroweave/macroweave/Brackets;I)I"⟩ : MethodName) prog_4_method_3_code 4 (some .int) :: ws) ({ frames := 0, cells := 0, slots := 0, locals := 0 } : Room)) (fun xa xU => xa = #[(.ref a1), (.ref d), (.int y)] ∧ Z.Warmed39 xU.vm ∧ xU.heap = h0) (fun _ _ _ _ _ => True) (fun _ xU xo xU' => ∃ xv xL, xo = .returned xv ∧ Q_open2 Z a1 d y x b1 b2 k1 k2 h0 n0 xv xU'.heap xL ∧ FrameEnd xU xo xU' xL ({ frames := 0, cells := 0, slots := 0, locals := 0 } : Room).cells ({ frames := 0, cells := 0, slots := 0, locals := 0 } : Room).slots) := by
  refine MetFree.of_bodySF (plainFor_of_name pn_com_example_macroweave_macroweave_BracketPairs) hisR ?_
  intro pP eE sS mM argS belowS methS cC s₁ Bd hml0 hP hK
  obtain ⟨rfl, hZ, hh⟩ := hP
  have hx := Bd.exec
  have hby := Bd.bytes
  have hml : cC.maxLocals = 4 := hml0
  have hown : sS.vm.findClass "com/example/macroweave/macroweave/BracketPairs" = some mM.cls := findClass_of_methodNamed Bd.named
  have hnm := (name_of_methodNamed Bd.named Bd.method).1
  have X0 : Stand pP l eE ({ frames := 0, cells := 0, slots := 0, locals := 0 } : Room) sS mM #[(.ref a1), (.ref d), (.int y)] belowS methS cC s₁ [] 0 0 := Stand.of_body Bd
  have e0 : s₁.heap = h0 := by rw [← hh, Bd.state]; rfl
  have N0 := Fr.nil n0
  have pre0 : ∀ t', Steps pP.tables eE belowS (s₁.setTop (mkF mM 0 #[.val (.ref a1), .val (.ref d), .val (.int y), .unset] [])) t' → Steps pP.tables eE belowS (s₁.setTop (entryFrame mM #[(.ref a1), (.ref d), (.int y)] 4)) t' := fun t' kk' => castTop (ef_open2 mM a1 d y x b1 b2 k1 k2) kk'
  obtain ⟨T101, X101, e101, st101⟩ := getF X0 hx hZ hown (host := "") (Or.inl (wi hw 23 rfl)) Via.refl e0 F_brackets_a1 (g := (mkF mM 2 #[.val (.ref a1), .val (.ref d), .val (.int y), .unset] [(.ref a1), (.ref d)])) rfl rfl (hb hby d_prog_4_method_3_2)
  obtain ⟨T102, X102, e102, st102⟩ := getF X101 hx hZ hown (host := "") (Or.inl (wi hw 25 rfl)) Via.refl e101 F_size_a1 (g := (mkF mM 19 #[.val (.ref a1), .val (.ref d), .val (.int y), .unset] [(.ref a1)])) rfl rfl (hb hby d_prog_4_method_3_19)
  obtain ⟨T103, X103, e103, st103⟩ := getF X102 hx hZ hown (host := "") (Or.inl (wi hw 14 rfl)) Via.refl e102 F_contentStarts_a1 (g := (mkF mM 27 #[.val (.ref a1), .val (.ref d), .val (.int y), .unset] [(.ref a1), (.int y)])) rfl rfl (hb hby d_prog_4_method_3_27)
  obtain ⟨T104, X104, e104, st104⟩ := getF X103 hx hZ hown (host := "") (Or.inl (wi hw 25 rfl)) Via.refl e103 F_size_a1 (g := (mkF mM 31 #[.val (.ref a1), .val (.ref d), .val (.int y), .unset] [(.ref a1), (.ref b1), (.int y)])) rfl rfl (hb hby d_prog_4_method_3_31)
  obtain ⟨cl105, Ar105, q105, S105, Ng105, Ha105, Ga105⟩ := id V_b1
  have hin105 : ¬ ((0 : Int32) < 0 ∨ cl105.slots.size ≤ ((0 : Int32)).toNatClampNeg) := inb_of S105 ⟨by decide, by decide⟩
  have hat105 : cl105.slots[((0 : Int32)).toNatClampNeg]? = some (.int x) := Ha105.at hin105 (rfl)
  obtain ⟨T106, X106, e106, st106⟩ := getF X104 hx hZ hown (host := "") (Or.inl (wi hw 25 rfl)) Via.refl e104 F_size_a1 (g := (mkF mM 43 #[.val (.ref a1), .val (.ref d), .val (.int y), .unset] [(.ref a1)])) rfl rfl (hb hby d_prog_4_method_3_43)
  obtain ⟨T107, X107, e107, st107⟩ := getF X106 hx hZ hown (host := "") (Or.inl (wi hw 14 rfl)) Via.refl e106 F_contentStarts_a1 (g := (mkF mM 47 #[.val (.ref a1), .val (.ref d), .val (.int y), .unset] [(.ref a1), (.int (1 : Int32))])) rfl rfl (hb hby d_prog_4_method_3_47)
  obtain ⟨cl108, Ar108, q108, S108, Ng108, Ha108, Ga108⟩ := id V_b1
  obtain ⟨T109, X109, e109, st109⟩ := getF X107 hx hZ hown (host := "") (Or.inl (wi hw 14 rfl)) Via.refl e107 F_contentStarts_a1 (g := (mkF mM 90 #[.val (.ref a1), .val (.ref d), .val (.int y), .unset] [(.ref a1)])) rfl rfl (hb hby d_prog_4_method_3_90)
  obtain ⟨T110, X110, e110, st110⟩ := getF X109 hx hZ hown (host := "") (Or.inl (wi hw 25 rfl)) Via.refl e109 F_size_a1 (g := (mkF mM 94 #[.val (.ref a1), .val (.ref d), .val (.int y), .unset] [(.ref a1), (.ref b1)])) rfl rfl (hb hby d_prog_4_method_3_94)
  obtain ⟨cl111, Ar111, q111, S111, Ng111, Ha111, Ga111⟩ := id V_b1
  have hin111 : ¬ ((1 : Int32) < 0 ∨ cl111.slots.size ≤ ((1 : Int32)).toNatClampNeg) := inb_of S111 ⟨by decide, by decide⟩
  obtain ⟨T112, h112, X112, e112, W112, st112⟩ := stI X110 hx hZ e110 Ar111 (j := (1 : Int32)) hin111 (g := (mkF mM 98 #[.val (.ref a1), .val (.ref d), .val (.int y), .unset] [(.int y), (.int (1 : Int32)), (.ref b1)])) rfl rfl (hb hby d_prog_4_method_3_98)
  have Sz1 : h0.size ≤ h112.size := Nat.le_of_eq (Wr.size W112).symm
  have Vs112 := Arv.set Ar111 q111 S111 Ng111 Ha111 Ga111 rfl W112 1 rfl (Nat.le_of_ble_eq_true rfl)
  have Vt112 : Arv Z h112 b1 k1 .int (4 : Int32) [(.int x), (.int y), (.int (0 : Int32)), (.int (0 : Int32))] (.int (0 : Int32)) := Vs112
  have N112 := Fr.snoc X112 N0 g_b1
  have c113_F_closes_a1 : Fld Z h112 a1 "com/example/macroweave/macroweave/BracketPairs" "closes" "[I" (.ref b2) := Fld.other W112 F_closes_a1 (Or.inl ne_a1_b1)
  obtain ⟨T114, X114, e114, st114⟩ := getF X112 hx hZ hown (host := "") (Or.inl (wi hw 16 rfl)) Via.refl e112 c113_F_closes_a1 (g := (mkF mM 100 #[.val (.ref a1), .val (.ref d), .val (.int y), .unset] [(.ref a1)])) rfl rfl (hb hby d_prog_4_method_3_100)
  have c115_F_size_a1 : Fld Z h112 a1 "com/example/macroweave/macroweave/BracketPairs" "size" "I" (.int (1 : Int32)) := Fld.other W112 F_size_a1 (Or.inl ne_a1_b1)
  obtain ⟨T116, X116, e116, st116⟩ := getF X114 hx hZ hown (host := "") (Or.inl (wi hw 25 rfl)) Via.refl e114 c115_F_size_a1 (g := (mkF mM 104 #[.val (.ref a1), .val (.ref d), .val (.int y), .unset] [(.ref a1), (.ref b2)])) rfl rfl (hb hby d_prog_4_method_3_104)
  have c117_V_b2 : Arv Z h112 b2 k2 .int (4 : Int32) [(.int (-1 : Int32)), (.int (0 : Int32)), (.int (0 : Int32)), (.int (0 : Int32))] (.int (0 : Int32)) := V_b2.other W112 (Ne.symm ne_b1_b2)
  obtain ⟨cl118, Ar118, q118, S118, Ng118, Ha118, Ga118⟩ := id c117_V_b2
  have hin118 : ¬ ((1 : Int32) < 0 ∨ cl118.slots.size ≤ ((1 : Int32)).toNatClampNeg) := inb_of S118 ⟨by decide, by decide⟩
  obtain ⟨T119, h119, X119, e119, W119, st119⟩ := stI X116 hx hZ e116 Ar118 (j := (1 : Int32)) hin118 (g := (mkF mM 108 #[.val (.ref a1), .val (.ref d), .val (.int y), .unset] [(.int (-1 : Int32)), (.int (1 : Int32)), (.ref b2)])) rfl rfl (hb hby d_prog_4_method_3_108)
  have Sz2 : h112.size ≤ h119.size := Nat.le_of_eq (Wr.size W119).symm
  have Vs119 := Arv.set Ar118 q118 S118 Ng118 Ha118 Ga118 rfl W119 1 rfl (Nat.le_of_ble_eq_true rfl)
  have Vt119 : Arv Z h119 b2 k2 .int (4 : Int32) [(.int (-1 : Int32)), (.int (-1 : Int32)), (.int (0 : Int32)), (.int (0 : Int32))] (.int (0 : Int32)) := Vs119
  have N119 := Fr.snoc X119 N112 g_b2
  have c120_F_size_a1 : Fld Z h119 a1 "com/example/macroweave/macroweave/BracketPairs" "size" "I" (.int (1 : Int32)) := Fld.other W119 c115_F_size_a1 (Or.inl ne_a1_b2)
  obtain ⟨T121, X121, e121, st121⟩ := getF X119 hx hZ hown (host := "") (Or.inl (wi hw 25 rfl)) Via.refl e119 c120_F_size_a1 (g := (mkF mM 111 #[.val (.ref a1), .val (.ref d), .val (.int y), .unset] [(.ref a1), (.ref a1)])) rfl rfl (hb hby d_prog_4_method_3_111)
  have c122_E_a1 : Exa Z h112 a1 "com/example/macroweave/macroweave/BracketPairs" := Exa.wr W112 E_a1
  have c123_E_a1 : Exa Z h119 a1 "com/example/macroweave/macroweave/BracketPairs" := Exa.wr W119 c122_E_a1
  obtain ⟨T124, h124, X124, e124, W124, st124⟩ := putF X121 hx hZ hown (host := "") (Or.inl (wi hw 25 rfl)) Via.refl e121 c120_F_size_a1 c123_E_a1 (Or.inl (wi hw 26 rfl)) (wi hw 4 rfl) (ty := .int) (by decide) rfl rfl (g := (mkF mM 117 #[.val (.ref a1), .val (.ref d), .val (.int y), .unset] [(.int (2 : Int32)), (.ref a1), (.int (1 : Int32))])) rfl rfl (hb hby d_prog_4_method_3_117)
  have Sz3 : h119.size ≤ h124.size := Nat.le_of_eq (Wr.size W124).symm
  have Fw124 : Fld Z h124 a1 "com/example/macroweave/macroweave/BracketPairs" "size" "I" (.int (2 : Int32)) := Fld.same W124 c120_F_size_a1
  have N124 := Fr.snoc X124 N119 g_a1
  have c125_E_a1 : Exa Z h124 a1 "com/example/macroweave/macroweave/BracketPairs" := Exa.wr W124 c123_E_a1
  have c126_F_brackets_a1 : Fld Z h112 a1 "com/example/macroweave/macroweave/BracketPairs" "brackets" "Lcom/example/macroweave/macroweave/Brackets;" (.ref d) := Fld.other W112 F_brackets_a1 (Or.inl ne_a1_b1)
  have c127_F_brackets_a1 : Fld Z h119 a1 "com/example/macroweave/macroweave/BracketPairs" "brackets" "Lcom/example/macroweave/macroweave/Brackets;" (.ref d) := Fld.other W119 c126_F_brackets_a1 (Or.inl ne_a1_b2)
  have c128_F_brackets_a1 : Fld Z h124 a1 "com/example/macroweave/macroweave/BracketPairs" "brackets" "Lcom/example/macroweave/macroweave/Brackets;" (.ref d) := Fld.other W124 c127_F_brackets_a1 (Or.inr (slot_ne (Or.inl (wi hw 24 rfl)) (Or.inl (wi hw 26 rfl)) (by decide) (t := (.object "com/example/macroweave/macroweave/Brackets")) (t' := .int) (by decide) (by decide)))
  have c129_F_contentStarts_a1 : Fld Z h112 a1 "com/example/macroweave/macroweave/BracketPairs" "contentStarts" "[I" (.ref b1) := Fld.other W112 F_contentStarts_a1 (Or.inl ne_a1_b1)
  have c130_F_contentStarts_a1 : Fld Z h119 a1 "com/example/macroweave/macroweave/BracketPairs" "contentStarts" "[I" (.ref b1) := Fld.other W119 c129_F_contentStarts_a1 (Or.inl ne_a1_b2)
  have c131_F_contentStarts_a1 : Fld Z h124 a1 "com/example/macroweave/macroweave/BracketPairs" "contentStarts" "[I" (.ref b1) := Fld.other W124 c130_F_contentStarts_a1 (Or.inr (slot_ne (Or.inl (wi hw 15 rfl)) (Or.inl (wi hw 26 rfl)) (by decide) (t := (.array .int)) (t' := .int) (by decide) (by decide)))
  have c132_F_closes_a1 : Fld Z h119 a1 "com/example/macroweave/macroweave/BracketPairs" "closes" "[I" (.ref b2) := Fld.other W119 c113_F_closes_a1 (Or.inl ne_a1_b2)
  have c133_F_closes_a1 : Fld Z h124 a1 "com/example/macroweave/macroweave/BracketPairs" "closes" "[I" (.ref b2) := Fld.other W124 c132_F_closes_a1 (Or.inr (slot_ne (Or.inl (wi hw 17 rfl)) (Or.inl (wi hw 26 rfl)) (by decide) (t := (.array .int)) (t' := .int) (by decide) (by decide)))
  have c134_V_b1 : Arv Z h119 b1 k1 .int (4 : Int32) [(.int x), (.int y), (.int (0 : Int32)), (.int (0 : Int32))] (.int (0 : Int32)) := Vt112.other W119 ne_b1_b2
  have c135_V_b1 : Arv Z h124 b1 k1 .int (4 : Int32) [(.int x), (.int y), (.int (0 : Int32)), (.int (0 : Int32))] (.int (0 : Int32)) := c134_V_b1.other W124 (Ne.symm ne_a1_b1)
  have c136_V_b2 : Arv Z h124 b2 k2 .int (4 : Int32) [(.int (-1 : Int32)), (.int (-1 : Int32)), (.int (0 : Int32)), (.int (0 : Int32))] (.int (0 : Int32)) := Vt119.other W124 (Ne.symm ne_a1_b2)
  have K137 : Keep h0 h112 [a1, b1, b2] := (Keep.refl h0 [a1, b1, b2]).wr W112 (Or.inl (List.mem_of_getElem? (i := 1) rfl))
  have K138 : Keep h0 h119 [a1, b1, b2] := K137.wr W119 (Or.inl (List.mem_of_getElem? (i := 2) rfl))
  have K139 : Keep h0 h124 [a1, b1, b2] := K138.wr W124 (Or.inl (List.mem_of_getElem? (i := 0) rfl))
  obtain ⟨fs, hr, hrun, hended, hW, hsame⟩ := X124.leave (v := some (.int (1 : Int32))) (fun h => by rw [Bd.returns] at h; cases h)
  refine ⟨_, _, pre0 _ ?_, hrun, hended, _, _, rfl, ?_, ⟨_, rfl⟩, hW, hsame.mono (by decide) (by decide)⟩
  · show SS pP eE belowS s₁ (mkF mM 0 #[.val (.ref a1), .val (.ref d), .val (.int y), .unset] []) _
    refine XS.aloadN X0.here hx rfl (hb hby d_prog_4_method_3_0) rfl rfl ?_
    show SS pP eE belowS s₁ (mkF mM 1 #[.val (.ref a1), .val (.ref d), .val (.int y), .unset] [(.ref d)]) _
    refine XS.aloadN X0.here hx rfl (hb hby d_prog_4_method_3_1) rfl rfl ?_
    show SS pP eE belowS s₁ (mkF mM 2 #[.val (.ref a1), .val (.ref d), .val (.int y), .unset] [(.ref a1), (.ref d)]) _
    refine st101 _ ?_
    show SS pP eE belowS T101 (mkF mM 5 #[.val (.ref a1), .val (.ref d), .val (.int y), .unset] [(.ref d), (.ref d)]) _
    refine Jvm.RoadKit.acmp (g := (mkF mM 5 #[.val (.ref a1), .val (.ref d), .val (.int y), .unset] [(.ref d), (.ref d)])) X101 hx rfl rfl rfl (pc0 := 5) (pc' := 18) (same := true) rfl (hb hby d_prog_4_method_3_5) rfl (decide_eq_true rfl) (by decide) (by decide) ?_
    show SS pP eE belowS T101 (mkF mM 18 #[.val (.ref a1), .val (.ref d), .val (.int y), .unset] []) _
    refine XS.aloadN X101.here hx rfl (hb hby d_prog_4_method_3_18) rfl rfl ?_
    show SS pP eE belowS T101 (mkF mM 19 #[.val (.ref a1), .val (.ref d), .val (.int y), .unset] [(.ref a1)]) _
    refine st102 _ ?_
    show SS pP eE belowS T102 (mkF mM 22 #[.val (.ref a1), .val (.ref d), .val (.int y), .unset] [(.int (1 : Int32))]) _
    refine XS.ifNo X102.here hx rfl (hb hby d_prog_4_method_3_22) rfl ((if0 _ _).trans (tlt (by decide : (0 : Int32) < (1 : Int32))).2.2.2) ?_
    show SS pP eE belowS T102 (mkF mM 25 #[.val (.ref a1), .val (.ref d), .val (.int y), .unset] []) _
    refine XS.iloadN X102.here hx rfl (hb hby d_prog_4_method_3_25) rfl ?_
    show SS pP eE belowS T102 (mkF mM 26 #[.val (.ref a1), .val (.ref d), .val (.int y), .unset] [(.int y)]) _
    refine XS.aloadN X102.here hx rfl (hb hby d_prog_4_method_3_26) rfl rfl ?_
    show SS pP eE belowS T102 (mkF mM 27 #[.val (.ref a1), .val (.ref d), .val (.int y), .unset] [(.ref a1), (.int y)]) _
    refine st103 _ ?_
    show SS pP eE belowS T103 (mkF mM 30 #[.val (.ref a1), .val (.ref d), .val (.int y), .unset] [(.ref b1), (.int y)]) _
    refine XS.aloadN X103.here hx rfl (hb hby d_prog_4_method_3_30) rfl rfl ?_
    show SS pP eE belowS T103 (mkF mM 31 #[.val (.ref a1), .val (.ref d), .val (.int y), .unset] [(.ref a1), (.ref b1), (.int y)]) _
    refine st104 _ ?_
    show SS pP eE belowS T104 (mkF mM 34 #[.val (.ref a1), .val (.ref d), .val (.int y), .unset] [(.int (1 : Int32)), (.ref b1), (.int y)]) _
    refine XS.iconst X104.here hx rfl (hb hby d_prog_4_method_3_34) ?_
    show SS pP eE belowS T104 (mkF mM 35 #[.val (.ref a1), .val (.ref d), .val (.int y), .unset] [(.int (1 : Int32)), (.int (1 : Int32)), (.ref b1), (.int y)]) _
    refine XS.isub X104.here hx rfl (hb hby d_prog_4_method_3_35) rfl ?_
    show SS pP eE belowS T104 (mkF mM 36 #[.val (.ref a1), .val (.ref d), .val (.int y), .unset] [(.int (0 : Int32)), (.ref b1), (.int y)]) _
    refine X104.iaload hx (j := (0 : Int32)) (v := (.int x)) (by rw [e104]; exact Ar105.1) (State.isArrayOf_alike hZ.alike Ar105.2.1) Ar105.2.2 hin105 hat105 (g := (mkF mM 36 #[.val (.ref a1), .val (.ref d), .val (.int y), .unset] [(.int (0 : Int32)), (.ref b1), (.int y)])) rfl rfl (hb hby d_prog_4_method_3_36) _ ?_
    show SS pP eE belowS T104 (mkF mM 37 #[.val (.ref a1), .val (.ref d), .val (.int y), .unset] [(.int x), (.int y)]) _
    refine XS.icmpYes X104.here hx rfl (pc0 := 37) (pc' := 42) rfl (hb hby d_prog_4_method_3_37) rfl (tlt hc37).2.2.1 (by decide) (by decide) ?_
    show SS pP eE belowS T104 (mkF mM 42 #[.val (.ref a1), .val (.ref d), .val (.int y), .unset] []) _
    refine XS.aloadN X104.here hx rfl (hb hby d_prog_4_method_3_42) rfl rfl ?_
    show SS pP eE belowS T104 (mkF mM 43 #[.val (.ref a1), .val (.ref d), .val (.int y), .unset] [(.ref a1)]) _
    refine st106 _ ?_
    show SS pP eE belowS T106 (mkF mM 46 #[.val (.ref a1), .val (.ref d), .val (.int y), .unset] [(.int (1 : Int32))]) _
    refine XS.aloadN X106.here hx rfl (hb hby d_prog_4_method_3_46) rfl rfl ?_
    show SS pP eE belowS T106 (mkF mM 47 #[.val (.ref a1), .val (.ref d), .val (.int y), .unset] [(.ref a1), (.int (1 : Int32))]) _
    refine st107 _ ?_
    show SS pP eE belowS T107 (mkF mM 50 #[.val (.ref a1), .val (.ref d), .val (.int y), .unset] [(.ref b1), (.int (1 : Int32))]) _
    refine X107.arraylength hx (by rw [e107]; exact Ar108.1) (State.isArrayOf_alike hZ.alike Ar108.2.1) (g := (mkF mM 50 #[.val (.ref a1), .val (.ref d), .val (.int y), .unset] [(.ref b1), (.int (1 : Int32))])) rfl rfl (hb hby d_prog_4_method_3_50) _ ?_
    rw [len_of S108 Ng108]
    show SS pP eE belowS T107 (mkF mM 51 #[.val (.ref a1), .val (.ref d), .val (.int y), .unset] [(.int (4 : Int32)), (.int (1 : Int32))]) _
    refine XS.icmpYes X107.here hx rfl (pc0 := 51) (pc' := 89) rfl (hb hby d_prog_4_method_3_51) rfl (feq (by decide : ¬ ((1 : Int32) = (4 : Int32)))).2 (by decide) (by decide) ?_
    show SS pP eE belowS T107 (mkF mM 89 #[.val (.ref a1), .val (.ref d), .val (.int y), .unset] []) _
    refine XS.aloadN X107.here hx rfl (hb hby d_prog_4_method_3_89) rfl rfl ?_
    show SS pP eE belowS T107 (mkF mM 90 #[.val (.ref a1), .val (.ref d), .val (.int y), .unset] [(.ref a1)]) _
    refine st109 _ ?_
    show SS pP eE belowS T109 (mkF mM 93 #[.val (.ref a1), .val (.ref d), .val (.int y), .unset] [(.ref b1)]) _
    refine XS.aloadN X109.here hx rfl (hb hby d_prog_4_method_3_93) rfl rfl ?_
    show SS pP eE belowS T109 (mkF mM 94 #[.val (.ref a1), .val (.ref d), .val (.int y), .unset] [(.ref a1), (.ref b1)]) _
    refine st110 _ ?_
    show SS pP eE belowS T110 (mkF mM 97 #[.val (.ref a1), .val (.ref d), .val (.int y), .unset] [(.int (1 : Int32)), (.ref b1)]) _
    refine XS.iloadN X110.here hx rfl (hb hby d_prog_4_method_3_97) rfl ?_
    show SS pP eE belowS T110 (mkF mM 98 #[.val (.ref a1), .val (.ref d), .val (.int y), .unset] [(.int y), (.int (1 : Int32)), (.ref b1)]) _
    refine st112 _ ?_
    show SS pP eE belowS T112 (mkF mM 99 #[.val (.ref a1), .val (.ref d), .val (.int y), .unset] []) _
    refine XS.aloadN X112.here hx rfl (hb hby d_prog_4_method_3_99) rfl rfl ?_
    show SS pP eE belowS T112 (mkF mM 100 #[.val (.ref a1), .val (.ref d), .val (.int y), .unset] [(.ref a1)]) _
    refine st114 _ ?_
    show SS pP eE belowS T114 (mkF mM 103 #[.val (.ref a1), .val (.ref d), .val (.int y), .unset] [(.ref b2)]) _
    refine XS.aloadN X114.here hx rfl (hb hby d_prog_4_method_3_103) rfl rfl ?_
    show SS pP eE belowS T114 (mkF mM 104 #[.val (.ref a1), .val (.ref d), .val (.int y), .unset] [(.ref a1), (.ref b2)]) _
    refine st116 _ ?_
    show SS pP eE belowS T116 (mkF mM 107 #[.val (.ref a1), .val (.ref d), .val (.int y), .unset] [(.int (1 : Int32)), (.ref b2)]) _
    refine XS.iconst X116.here hx rfl (hb hby d_prog_4_method_3_107) ?_
    show SS pP eE belowS T116 (mkF mM 108 #[.val (.ref a1), .val (.ref d), .val (.int y), .unset] [(.int (-1 : Int32)), (.int (1 : Int32)), (.ref b2)]) _
    refine st119 _ ?_
    show SS pP eE belowS T119 (mkF mM 109 #[.val (.ref a1), .val (.ref d), .val (.int y), .unset] []) _
    refine XS.aloadN X119.here hx rfl (hb hby d_prog_4_method_3_109) rfl rfl ?_
    show SS pP eE belowS T119 (mkF mM 110 #[.val (.ref a1), .val (.ref d), .val (.int y), .unset] [(.ref a1)]) _
    refine XS.dup X119.here hx rfl (hb hby d_prog_4_method_3_110) rfl rfl ?_
    show SS pP eE belowS T119 (mkF mM 111 #[.val (.ref a1), .val (.ref d), .val (.int y), .unset] [(.ref a1), (.ref a1)]) _
    refine st121 _ ?_
    show SS pP eE belowS T121 (mkF mM 114 #[.val (.ref a1), .val (.ref d), .val (.int y), .unset] [(.int (1 : Int32)), (.ref a1)]) _
    refine XS.dupX1 X121.here hx rfl (hb hby d_prog_4_method_3_114) rfl rfl rfl ?_
    show SS pP eE belowS T121 (mkF mM 115 #[.val (.ref a1), .val (.ref d), .val (.int y), .unset] [(.int (1 : Int32)), (.ref a1), (.int (1 : Int32))]) _
    refine XS.iconst X121.here hx rfl (hb hby d_prog_4_method_3_115) ?_
    show SS pP eE belowS T121 (mkF mM 116 #[.val (.ref a1), .val (.ref d), .val (.int y), .unset] [(.int (1 : Int32)), (.int (1 : Int32)), (.ref a1), (.int (1 : Int32))]) _
    refine XS.iadd X121.here hx rfl (hb hby d_prog_4_method_3_116) rfl ?_
    show SS pP eE belowS T121 (mkF mM 117 #[.val (.ref a1), .val (.ref d), .val (.int y), .unset] [(.int (2 : Int32)), (.ref a1), (.int (1 : Int32))]) _
    refine st124 _ ?_
    show SS pP eE belowS T124 (mkF mM 120 #[.val (.ref a1), .val (.ref d), .val (.int y), .unset] [(.int (1 : Int32))]) _
    exact retI X124 hx Bd.returns (hb hby d_prog_4_method_3_120) hr
  · show Q_open2 Z a1 d y x b1 b2 k1 k2 h0 n0 _ T124.heap _
    rw [e124]
    exact ⟨rfl, N124, K139, c125_E_a1, c128_F_brackets_a1, c131_F_contentStarts_a1, c133_F_closes_a1, Fw124, c135_V_b1, c136_V_b2⟩
theorem d_prog_4_method_3_40 : decode prog_4_method_3_code 40 = .ok (.iconst (-1), 1) := by decide +kernel
theorem d_prog_4_method_3_41 : decode prog_4_method_3_code 41 = .ok (.ireturn, 1) := by decide +kernel
def Q_open2n (Z : State) (a1 : Addr) (d : Addr) (y : Int32) (x : Int32) (b1 : Addr) (b2 : Addr) (k1 : ClassId) (k2 : ClassId) (h0 : Heap) (n0 : Nat) (xv : Option Value) (xh : Heap) (xL : List Loc) : Prop := xv = some (.int (-1 : Int32)) ∧ Fr n0 xL ∧ xh = h0
theorem ef_open2n (mM : MethodId) (a1 : Addr) (d : Addr) (y : Int32) (x : Int32) (b1 : Addr) (b2 : Addr) (k1 : ClassId) (k2 : ClassId) : entryFrame mM #[(.ref a1), (.ref d), (.int y)] 4 = mkF mM 0 #[.val (.ref a1), .val (.ref d), .val (.int y), .unset] [] := by first | (simp [entryFrame, mkF, argsToLocals, Value.category]; done) | rfl
set_option maxRecDepth 65536 in
set_option maxHeartbeats 40000000 in
theorem rm_open2n (l : Launch) (Z : State) (a0 : Array Value) (hw : ∀ d ∈ tables_1, d.before a0 Z = true) (ws : List Jvm.Cond) (a1 : Addr) (d : Addr) (y : Int32) (x : Int32) (b1 : Addr) (b2 : Addr) (k1 : ClassId) (k2 : ClassId) (h0 : Heap) (n0 : Nat) (Z0 : n0 ≤ h0.size) (E_a1 : Exa Z h0 a1 "com/example/macroweave/macroweave/BracketPairs") (F_brackets_a1 : Fld Z h0 a1 "com/example/macroweave/macroweave/BracketPairs" "brackets" "Lcom/example/macroweave/macroweave/Brackets;" (.ref d)) (F_contentStarts_a1 : Fld Z h0 a1 "com/example/macroweave/macroweave/BracketPairs" "contentStarts" "[I" (.ref b1)) (F_closes_a1 : Fld Z h0 a1 "com/example/macroweave/macroweave/BracketPairs" "closes" "[I" (.ref b2)) (F_size_a1 : Fld Z h0 a1 "com/example/macroweave/macroweave/BracketPairs" "size" "I" (.int (1 : Int32))) (V_b1 : Arv Z h0 b1 k1 .int (4 : Int32) [(.int x), (.int (0 : Int32)), (.int (0 : Int32)), (.int (0 : Int32))] (.int (0 : Int32))) (V_b2 : Arv Z h0 b2 k2 .int (4 : Int32) [(.int (-1 : Int32)), (.int (0 : Int32)), (.int (0 : Int32)), (.int (0 : Int32))] (.int (0 : Int32))) (ne_a1_b1 : a1 ≠ b1) (ne_a1_b2 : a1 ≠ b2) (ne_b1_b2 : b1 ≠ b2) (g_a1 : @LE.le Nat _ n0 a1) (g_b1 : @LE.le Nat _ n0 b1) (g_b2 : @LE.le Nat _ n0 b2) (hc37 : ¬ (x < y)) :
    MetFree l (⟨"com/example/macroweave/macroweave/BracketPairs", "opened", "(Lcom/example/macroweave/macroweave/Brackets;I)I"⟩ : MethodName) (head1 (Jvm.Cond.code (⟨"com/example/macroweave/macroweave/BracketPairs", "opened", "(Lcom/example/macroweave/macroweave/Brackets;I)I"⟩ : MethodName) prog_4_method_3_code 4 (some .int) :: ws) ({ frames := 0, cells := 0, slots := 0, locals := 0 } : Room)) (fun xa xU => xa = #[(.ref a1), (.ref d), (.int y)] ∧ Z.Warmed39 xU.vm ∧ xU.heap = h0) (fun _ _ _ _ _ => True) (fun _ xU xo xU' => ∃ xv xL, xo = .returned xv ∧ Q_open2n Z a1 d y x b1 b2 k1 k2 h0 n0 xv xU'.heap xL ∧ FrameEnd xU xo xU' xL ({ frames := 0, cells := 0, slots := 0, locals := 0 } : Room).cells ({ frames := 0, cells := 0, slots := 0, locals := 0 } : Room).slots) := by
  refine MetFree.of_bodySF (plainFor_of_name pn_com_example_macroweave_macroweave_BracketPairs) hisR ?_
  intro pP eE sS mM argS belowS methS cC s₁ Bd hml0 hP hK
  obtain ⟨rfl, hZ, hh⟩ := hP
  have hx := Bd.exec
  have hby := Bd.bytes
  have hml : cC.maxLocals = 4 := hml0
  have hown : sS.vm.findClass "com/example/macroweave/macroweave/BracketPairs" = some mM.cls := findClass_of_methodNamed Bd.named
  have hnm := (name_of_methodNamed Bd.named Bd.method).1
  have X0 : Stand pP l eE ({ frames := 0, cells := 0, slots := 0, locals := 0 } : Room) sS mM #[(.ref a1), (.ref d), (.int y)] belowS methS cC s₁ [] 0 0 := Stand.of_body Bd
  have e0 : s₁.heap = h0 := by rw [← hh, Bd.state]; rfl
  have N0 := Fr.nil n0
  have pre0 : ∀ t', Steps pP.tables eE belowS (s₁.setTop (mkF mM 0 #[.val (.ref a1), .val (.ref d), .val (.int y), .unset] [])) t' → Steps pP.tables eE belowS (s₁.setTop (entryFrame mM #[(.ref a1), (.ref d), (.int y)] 4)) t' := fun t' kk' => castTop (ef_open2n mM a1 d y x b1 b2 k1 k2) kk'
  obtain ⟨T101, X101, e101, st101⟩ := getF X0 hx hZ hown (host := "") (Or.inl (wi hw 23 rfl)) Via.refl e0 F_brackets_a1 (g := (mkF mM 2 #[.val (.ref a1), .val (.ref d), .val (.int y), .unset] [(.ref a1), (.ref d)])) rfl rfl (hb hby d_prog_4_method_3_2)
  obtain ⟨T102, X102, e102, st102⟩ := getF X101 hx hZ hown (host := "") (Or.inl (wi hw 25 rfl)) Via.refl e101 F_size_a1 (g := (mkF mM 19 #[.val (.ref a1), .val (.ref d), .val (.int y), .unset] [(.ref a1)])) rfl rfl (hb hby d_prog_4_method_3_19)
  obtain ⟨T103, X103, e103, st103⟩ := getF X102 hx hZ hown (host := "") (Or.inl (wi hw 14 rfl)) Via.refl e102 F_contentStarts_a1 (g := (mkF mM 27 #[.val (.ref a1), .val (.ref d), .val (.int y), .unset] [(.ref a1), (.int y)])) rfl rfl (hb hby d_prog_4_method_3_27)
  obtain ⟨T104, X104, e104, st104⟩ := getF X103 hx hZ hown (host := "") (Or.inl (wi hw 25 rfl)) Via.refl e103 F_size_a1 (g := (mkF mM 31 #[.val (.ref a1), .val (.ref d), .val (.int y), .unset] [(.ref a1), (.ref b1), (.int y)])) rfl rfl (hb hby d_prog_4_method_3_31)
  obtain ⟨cl105, Ar105, q105, S105, Ng105, Ha105, Ga105⟩ := id V_b1
  have hin105 : ¬ ((0 : Int32) < 0 ∨ cl105.slots.size ≤ ((0 : Int32)).toNatClampNeg) := inb_of S105 ⟨by decide, by decide⟩
  have hat105 : cl105.slots[((0 : Int32)).toNatClampNeg]? = some (.int x) := Ha105.at hin105 (rfl)
  obtain ⟨fs, hr, hrun, hended, hW, hsame⟩ := X104.leave (v := some (.int (-1 : Int32))) (fun h => by rw [Bd.returns] at h; cases h)
  refine ⟨_, _, pre0 _ ?_, hrun, hended, _, _, rfl, ?_, ⟨_, rfl⟩, hW, hsame.mono (by decide) (by decide)⟩
  · show SS pP eE belowS s₁ (mkF mM 0 #[.val (.ref a1), .val (.ref d), .val (.int y), .unset] []) _
    refine XS.aloadN X0.here hx rfl (hb hby d_prog_4_method_3_0) rfl rfl ?_
    show SS pP eE belowS s₁ (mkF mM 1 #[.val (.ref a1), .val (.ref d), .val (.int y), .unset] [(.ref d)]) _
    refine XS.aloadN X0.here hx rfl (hb hby d_prog_4_method_3_1) rfl rfl ?_
    show SS pP eE belowS s₁ (mkF mM 2 #[.val (.ref a1), .val (.ref d), .val (.int y), .unset] [(.ref a1), (.ref d)]) _
    refine st101 _ ?_
    show SS pP eE belowS T101 (mkF mM 5 #[.val (.ref a1), .val (.ref d), .val (.int y), .unset] [(.ref d), (.ref d)]) _
    refine Jvm.RoadKit.acmp (g := (mkF mM 5 #[.val (.ref a1), .val (.ref d), .val (.int y), .unset] [(.ref d), (.ref d)])) X101 hx rfl rfl rfl (pc0 := 5) (pc' := 18) (same := true) rfl (hb hby d_prog_4_method_3_5) rfl (decide_eq_true rfl) (by decide) (by decide) ?_
    show SS pP eE belowS T101 (mkF mM 18 #[.val (.ref a1), .val (.ref d), .val (.int y), .unset] []) _
    refine XS.aloadN X101.here hx rfl (hb hby d_prog_4_method_3_18) rfl rfl ?_
    show SS pP eE belowS T101 (mkF mM 19 #[.val (.ref a1), .val (.ref d), .val (.int y), .unset] [(.ref a1)]) _
    refine st102 _ ?_
    show SS pP eE belowS T102 (mkF mM 22 #[.val (.ref a1), .val (.ref d), .val (.int y), .unset] [(.int (1 : Int32))]) _
    refine XS.ifNo X102.here hx rfl (hb hby d_prog_4_method_3_22) rfl ((if0 _ _).trans (tlt (by decide : (0 : Int32) < (1 : Int32))).2.2.2) ?_
    show SS pP eE belowS T102 (mkF mM 25 #[.val (.ref a1), .val (.ref d), .val (.int y), .unset] []) _
    refine XS.iloadN X102.here hx rfl (hb hby d_prog_4_method_3_25) rfl ?_
    show SS pP eE belowS T102 (mkF mM 26 #[.val (.ref a1), .val (.ref d), .val (.int y), .unset] [(.int y)]) _
    refine XS.aloadN X102.here hx rfl (hb hby d_prog_4_method_3_26) rfl rfl ?_
    show SS pP eE belowS T102 (mkF mM 27 #[.val (.ref a1), .val (.ref d), .val (.int y), .unset] [(.ref a1), (.int y)]) _
    refine st103 _ ?_
    show SS pP eE belowS T103 (mkF mM 30 #[.val (.ref a1), .val (.ref d), .val (.int y), .unset] [(.ref b1), (.int y)]) _
    refine XS.aloadN X103.here hx rfl (hb hby d_prog_4_method_3_30) rfl rfl ?_
    show SS pP eE belowS T103 (mkF mM 31 #[.val (.ref a1), .val (.ref d), .val (.int y), .unset] [(.ref a1), (.ref b1), (.int y)]) _
    refine st104 _ ?_
    show SS pP eE belowS T104 (mkF mM 34 #[.val (.ref a1), .val (.ref d), .val (.int y), .unset] [(.int (1 : Int32)), (.ref b1), (.int y)]) _
    refine XS.iconst X104.here hx rfl (hb hby d_prog_4_method_3_34) ?_
    show SS pP eE belowS T104 (mkF mM 35 #[.val (.ref a1), .val (.ref d), .val (.int y), .unset] [(.int (1 : Int32)), (.int (1 : Int32)), (.ref b1), (.int y)]) _
    refine XS.isub X104.here hx rfl (hb hby d_prog_4_method_3_35) rfl ?_
    show SS pP eE belowS T104 (mkF mM 36 #[.val (.ref a1), .val (.ref d), .val (.int y), .unset] [(.int (0 : Int32)), (.ref b1), (.int y)]) _
    refine X104.iaload hx (j := (0 : Int32)) (v := (.int x)) (by rw [e104]; exact Ar105.1) (State.isArrayOf_alike hZ.alike Ar105.2.1) Ar105.2.2 hin105 hat105 (g := (mkF mM 36 #[.val (.ref a1), .val (.ref d), .val (.int y), .unset] [(.int (0 : Int32)), (.ref b1), (.int y)])) rfl rfl (hb hby d_prog_4_method_3_36) _ ?_
    show SS pP eE belowS T104 (mkF mM 37 #[.val (.ref a1), .val (.ref d), .val (.int y), .unset] [(.int x), (.int y)]) _
    refine XS.icmpNo X104.here hx rfl (hb hby d_prog_4_method_3_37) rfl (flt hc37).2.2.1 ?_
    show SS pP eE belowS T104 (mkF mM 40 #[.val (.ref a1), .val (.ref d), .val (.int y), .unset] []) _
    refine XS.iconst X104.here hx rfl (hb hby d_prog_4_method_3_40) ?_
    show SS pP eE belowS T104 (mkF mM 41 #[.val (.ref a1), .val (.ref d), .val (.int y), .unset] [(.int (-1 : Int32))]) _
    exact retI X104 hx Bd.returns (hb hby d_prog_4_method_3_41) hr
  · show Q_open2n Z a1 d y x b1 b2 k1 k2 h0 n0 _ T104.heap _
    rw [e104]
    exact ⟨rfl, N0, rfl⟩
theorem d_prog_4_method_4_0 : decode prog_4_method_4_code 0 = .ok (.iload_n 1, 1) := by decide +kernel
theorem d_prog_4_method_4_1 : decode prog_4_method_4_code 1 = .ok (.ifCond .lt 10, 3) := by decide +kernel
theorem d_prog_4_method_4_4 : decode prog_4_method_4_code 4 = .ok (.aload_n 0, 1) := by decide +kernel
theorem d_prog_4_method_4_5 : decode prog_4_method_4_code 5 = .ok (.getfield 16, 3) := by decide +kernel
theorem d_prog_4_method_4_8 : decode prog_4_method_4_code 8 = .ok (.iload_n 1, 1) := by decide +kernel
theorem d_prog_4_method_4_9 : decode prog_4_method_4_code 9 = .ok (.iload_n 2, 1) := by decide +kernel
theorem d_prog_4_method_4_10 : decode prog_4_method_4_code 10 = .ok (.iastore, 1) := by decide +kernel
theorem d_prog_4_method_4_11 : decode prog_4_method_4_code 11 = .ok (.return_, 1) := by decide +kernel
def Q_closed0 (Z : State) (a1 : Addr) (c : Int32) (b2 : Addr) (k2 : ClassId) (ea : Int32) (eb : Int32) (h0 : Heap) (n0 : Nat) (xv : Option Value) (xh : Heap) (xL : List Loc) : Prop := xv = none ∧ Fr n0 xL ∧ Keep h0 xh [b2] ∧ Arv Z xh b2 k2 .int (4 : Int32) [(.int c), (.int eb), (.int (0 : Int32)), (.int (0 : Int32))] (.int (0 : Int32))
theorem ef_closed0 (mM : MethodId) (a1 : Addr) (c : Int32) (b2 : Addr) (k2 : ClassId) (ea : Int32) (eb : Int32) : entryFrame mM #[(.ref a1), (.int (0 : Int32)), (.int c)] 3 = mkF mM 0 #[.val (.ref a1), .val (.int (0 : Int32)), .val (.int c)] [] := by first | (simp [entryFrame, mkF, argsToLocals, Value.category]; done) | rfl
set_option maxRecDepth 65536 in
set_option maxHeartbeats 40000000 in
theorem rm_closed0 (l : Launch) (Z : State) (a0 : Array Value) (hw : ∀ d ∈ tables_1, d.before a0 Z = true) (ws : List Jvm.Cond) (a1 : Addr) (c : Int32) (b2 : Addr) (k2 : ClassId) (ea : Int32) (eb : Int32) (h0 : Heap) (n0 : Nat) (Z0 : n0 ≤ h0.size) (E_a1 : Exa Z h0 a1 "com/example/macroweave/macroweave/BracketPairs") (F_closes_a1 : Fld Z h0 a1 "com/example/macroweave/macroweave/BracketPairs" "closes" "[I" (.ref b2)) (V_b2 : Arv Z h0 b2 k2 .int (4 : Int32) [(.int ea), (.int eb), (.int (0 : Int32)), (.int (0 : Int32))] (.int (0 : Int32))) (ne_a1_b2 : a1 ≠ b2) (g_b2 : @LE.le Nat _ n0 b2) :
    MetFree l (⟨"com/example/macroweave/macroweave/BracketPairs", "closed", "(II)V"⟩ : MethodName) (head1 (Jvm.Cond.code (⟨"com/example/macroweave/macroweave/BracketPairs", "closed", "(II)V"⟩ : MethodName) prog_4_method_4_code 3 none :: ws) ({ frames := 0, cells := 0, slots := 0, locals := 0 } : Room)) (fun xa xU => xa = #[(.ref a1), (.int (0 : Int32)), (.int c)] ∧ Z.Warmed39 xU.vm ∧ xU.heap = h0) (fun _ _ _ _ _ => True) (fun _ xU xo xU' => ∃ xv xL, xo = .returned xv ∧ Q_closed0 Z a1 c b2 k2 ea eb h0 n0 xv xU'.heap xL ∧ FrameEnd xU xo xU' xL ({ frames := 0, cells := 0, slots := 0, locals := 0 } : Room).cells ({ frames := 0, cells := 0, slots := 0, locals := 0 } : Room).slots) := by
  refine MetFree.of_bodySF (plainFor_of_name pn_com_example_macroweave_macroweave_BracketPairs) hisR ?_
  intro pP eE sS mM argS belowS methS cC s₁ Bd hml0 hP hK
  obtain ⟨rfl, hZ, hh⟩ := hP
  have hx := Bd.exec
  have hby := Bd.bytes
  have hml : cC.maxLocals = 3 := hml0
  have hown : sS.vm.findClass "com/example/macroweave/macroweave/BracketPairs" = some mM.cls := findClass_of_methodNamed Bd.named
  have hnm := (name_of_methodNamed Bd.named Bd.method).1
  have X0 : Stand pP l eE ({ frames := 0, cells := 0, slots := 0, locals := 0 } : Room) sS mM #[(.ref a1), (.int (0 : Int32)), (.int c)] belowS methS cC s₁ [] 0 0 := Stand.of_body Bd
  have e0 : s₁.heap = h0 := by rw [← hh, Bd.state]; rfl
  have N0 := Fr.nil n0
  have pre0 : ∀ t', Steps pP.tables eE belowS (s₁.setTop (mkF mM 0 #[.val (.ref a1), .val (.int (0 : Int32)), .val (.int c)] [])) t' → Steps pP.tables eE belowS (s₁.setTop (entryFrame mM #[(.ref a1), (.int (0 : Int32)), (.int c)] 3)) t' := fun t' kk' => castTop (ef_closed0 mM a1 c b2 k2 ea eb) kk'
  obtain ⟨T101, X101, e101, st101⟩ := getF X0 hx hZ hown (host := "") (Or.inl (wi hw 16 rfl)) Via.refl e0 F_closes_a1 (g := (mkF mM 5 #[.val (.ref a1), .val (.int (0 : Int32)), .val (.int c)] [(.ref a1)])) rfl rfl (hb hby d_prog_4_method_4_5)
  obtain ⟨cl102, Ar102, q102, S102, Ng102, Ha102, Ga102⟩ := id V_b2
  have hin102 : ¬ ((0 : Int32) < 0 ∨ cl102.slots.size ≤ ((0 : Int32)).toNatClampNeg) := inb_of S102 ⟨by decide, by decide⟩
  obtain ⟨T103, h103, X103, e103, W103, st103⟩ := stI X101 hx hZ e101 Ar102 (j := (0 : Int32)) hin102 (g := (mkF mM 10 #[.val (.ref a1), .val (.int (0 : Int32)), .val (.int c)] [(.int c), (.int (0 : Int32)), (.ref b2)])) rfl rfl (hb hby d_prog_4_method_4_10)
  have Sz1 : h0.size ≤ h103.size := Nat.le_of_eq (Wr.size W103).symm
  have Vs103 := Arv.set Ar102 q102 S102 Ng102 Ha102 Ga102 rfl W103 0 rfl (Nat.le_of_ble_eq_true rfl)
  have Vt103 : Arv Z h103 b2 k2 .int (4 : Int32) [(.int c), (.int eb), (.int (0 : Int32)), (.int (0 : Int32))] (.int (0 : Int32)) := Vs103
  have N103 := Fr.snoc X103 N0 g_b2
  have K104 : Keep h0 h103 [b2] := (Keep.refl h0 [b2]).wr W103 (Or.inl (List.mem_of_getElem? (i := 0) rfl))
  obtain ⟨fs, hr, hrun, hended, hW, hsame⟩ := X103.leave (v := none) (fun _ => rfl)
  refine ⟨_, _, pre0 _ ?_, hrun, hended, _, _, rfl, ?_, ⟨_, rfl⟩, hW, hsame.mono (by decide) (by decide)⟩
  · show SS pP eE belowS s₁ (mkF mM 0 #[.val (.ref a1), .val (.int (0 : Int32)), .val (.int c)] []) _
    refine XS.iloadN X0.here hx rfl (hb hby d_prog_4_method_4_0) rfl ?_
    show SS pP eE belowS s₁ (mkF mM 1 #[.val (.ref a1), .val (.int (0 : Int32)), .val (.int c)] [(.int (0 : Int32))]) _
    refine XS.ifNo X0.here hx rfl (hb hby d_prog_4_method_4_1) rfl ((if0 _ _).trans (flt (by decide : ¬ ((0 : Int32) < (0 : Int32)))).1) ?_
    show SS pP eE belowS s₁ (mkF mM 4 #[.val (.ref a1), .val (.int (0 : Int32)), .val (.int c)] []) _
    refine XS.aloadN X0.here hx rfl (hb hby d_prog_4_method_4_4) rfl rfl ?_
    show SS pP eE belowS s₁ (mkF mM 5 #[.val (.ref a1), .val (.int (0 : Int32)), .val (.int c)] [(.ref a1)]) _
    refine st101 _ ?_
    show SS pP eE belowS T101 (mkF mM 8 #[.val (.ref a1), .val (.int (0 : Int32)), .val (.int c)] [(.ref b2)]) _
    refine XS.iloadN X101.here hx rfl (hb hby d_prog_4_method_4_8) rfl ?_
    show SS pP eE belowS T101 (mkF mM 9 #[.val (.ref a1), .val (.int (0 : Int32)), .val (.int c)] [(.int (0 : Int32)), (.ref b2)]) _
    refine XS.iloadN X101.here hx rfl (hb hby d_prog_4_method_4_9) rfl ?_
    show SS pP eE belowS T101 (mkF mM 10 #[.val (.ref a1), .val (.int (0 : Int32)), .val (.int c)] [(.int c), (.int (0 : Int32)), (.ref b2)]) _
    refine st103 _ ?_
    show SS pP eE belowS T103 (mkF mM 11 #[.val (.ref a1), .val (.int (0 : Int32)), .val (.int c)] []) _
    exact X103.returnOut hx Bd.returns (hb hby d_prog_4_method_4_11) hr
  · show Q_closed0 Z a1 c b2 k2 ea eb h0 n0 _ T103.heap _
    rw [e103]
    exact ⟨rfl, N103, K104, Vt103⟩

def Q_closed1 (Z : State) (a1 : Addr) (c : Int32) (b2 : Addr) (k2 : ClassId) (ea : Int32) (eb : Int32) (h0 : Heap) (n0 : Nat) (xv : Option Value) (xh : Heap) (xL : List Loc) : Prop := xv = none ∧ Fr n0 xL ∧ Keep h0 xh [b2] ∧ Arv Z xh b2 k2 .int (4 : Int32) [(.int ea), (.int c), (.int (0 : Int32)), (.int (0 : Int32))] (.int (0 : Int32))
theorem ef_closed1 (mM : MethodId) (a1 : Addr) (c : Int32) (b2 : Addr) (k2 : ClassId) (ea : Int32) (eb : Int32) : entryFrame mM #[(.ref a1), (.int (1 : Int32)), (.int c)] 3 = mkF mM 0 #[.val (.ref a1), .val (.int (1 : Int32)), .val (.int c)] [] := by first | (simp [entryFrame, mkF, argsToLocals, Value.category]; done) | rfl
set_option maxRecDepth 65536 in
set_option maxHeartbeats 40000000 in
theorem rm_closed1 (l : Launch) (Z : State) (a0 : Array Value) (hw : ∀ d ∈ tables_1, d.before a0 Z = true) (ws : List Jvm.Cond) (a1 : Addr) (c : Int32) (b2 : Addr) (k2 : ClassId) (ea : Int32) (eb : Int32) (h0 : Heap) (n0 : Nat) (Z0 : n0 ≤ h0.size) (E_a1 : Exa Z h0 a1 "com/example/macroweave/macroweave/BracketPairs") (F_closes_a1 : Fld Z h0 a1 "com/example/macroweave/macroweave/BracketPairs" "closes" "[I" (.ref b2)) (V_b2 : Arv Z h0 b2 k2 .int (4 : Int32) [(.int ea), (.int eb), (.int (0 : Int32)), (.int (0 : Int32))] (.int (0 : Int32))) (ne_a1_b2 : a1 ≠ b2) (g_b2 : @LE.le Nat _ n0 b2) :
    MetFree l (⟨"com/example/macroweave/macroweave/BracketPairs", "closed", "(II)V"⟩ : MethodName) (head1 (Jvm.Cond.code (⟨"com/example/macroweave/macroweave/BracketPairs", "closed", "(II)V"⟩ : MethodName) prog_4_method_4_code 3 none :: ws) ({ frames := 0, cells := 0, slots := 0, locals := 0 } : Room)) (fun xa xU => xa = #[(.ref a1), (.int (1 : Int32)), (.int c)] ∧ Z.Warmed39 xU.vm ∧ xU.heap = h0) (fun _ _ _ _ _ => True) (fun _ xU xo xU' => ∃ xv xL, xo = .returned xv ∧ Q_closed1 Z a1 c b2 k2 ea eb h0 n0 xv xU'.heap xL ∧ FrameEnd xU xo xU' xL ({ frames := 0, cells := 0, slots := 0, locals := 0 } : Room).cells ({ frames := 0, cells := 0, slots := 0, locals := 0 } : Room).slots) := by
  refine MetFree.of_bodySF (plainFor_of_name pn_com_example_macroweave_macroweave_BracketPairs) hisR ?_
  intro pP eE sS mM argS belowS methS cC s₁ Bd hml0 hP hK
  obtain ⟨rfl, hZ, hh⟩ := hP
  have hx := Bd.exec
  have hby := Bd.bytes
  have hml : cC.maxLocals = 3 := hml0
  have hown : sS.vm.findClass "com/example/macroweave/macroweave/BracketPairs" = some mM.cls := findClass_of_methodNamed Bd.named
  have hnm := (name_of_methodNamed Bd.named Bd.method).1
  have X0 : Stand pP l eE ({ frames := 0, cells := 0, slots := 0, locals := 0 } : Room) sS mM #[(.ref a1), (.int (1 : Int32)), (.int c)] belowS methS cC s₁ [] 0 0 := Stand.of_body Bd
  have e0 : s₁.heap = h0 := by rw [← hh, Bd.state]; rfl
  have N0 := Fr.nil n0
  have pre0 : ∀ t', Steps pP.tables eE belowS (s₁.setTop (mkF mM 0 #[.val (.ref a1), .val (.int (1 : Int32)), .val (.int c)] [])) t' → Steps pP.tables eE belowS (s₁.setTop (entryFrame mM #[(.ref a1), (.int (1 : Int32)), (.int c)] 3)) t' := fun t' kk' => castTop (ef_closed1 mM a1 c b2 k2 ea eb) kk'
  obtain ⟨T101, X101, e101, st101⟩ := getF X0 hx hZ hown (host := "") (Or.inl (wi hw 16 rfl)) Via.refl e0 F_closes_a1 (g := (mkF mM 5 #[.val (.ref a1), .val (.int (1 : Int32)), .val (.int c)] [(.ref a1)])) rfl rfl (hb hby d_prog_4_method_4_5)
  obtain ⟨cl102, Ar102, q102, S102, Ng102, Ha102, Ga102⟩ := id V_b2
  have hin102 : ¬ ((1 : Int32) < 0 ∨ cl102.slots.size ≤ ((1 : Int32)).toNatClampNeg) := inb_of S102 ⟨by decide, by decide⟩
  obtain ⟨T103, h103, X103, e103, W103, st103⟩ := stI X101 hx hZ e101 Ar102 (j := (1 : Int32)) hin102 (g := (mkF mM 10 #[.val (.ref a1), .val (.int (1 : Int32)), .val (.int c)] [(.int c), (.int (1 : Int32)), (.ref b2)])) rfl rfl (hb hby d_prog_4_method_4_10)
  have Sz1 : h0.size ≤ h103.size := Nat.le_of_eq (Wr.size W103).symm
  have Vs103 := Arv.set Ar102 q102 S102 Ng102 Ha102 Ga102 rfl W103 1 rfl (Nat.le_of_ble_eq_true rfl)
  have Vt103 : Arv Z h103 b2 k2 .int (4 : Int32) [(.int ea), (.int c), (.int (0 : Int32)), (.int (0 : Int32))] (.int (0 : Int32)) := Vs103
  have N103 := Fr.snoc X103 N0 g_b2
  have K104 : Keep h0 h103 [b2] := (Keep.refl h0 [b2]).wr W103 (Or.inl (List.mem_of_getElem? (i := 0) rfl))
  obtain ⟨fs, hr, hrun, hended, hW, hsame⟩ := X103.leave (v := none) (fun _ => rfl)
  refine ⟨_, _, pre0 _ ?_, hrun, hended, _, _, rfl, ?_, ⟨_, rfl⟩, hW, hsame.mono (by decide) (by decide)⟩
  · show SS pP eE belowS s₁ (mkF mM 0 #[.val (.ref a1), .val (.int (1 : Int32)), .val (.int c)] []) _
    refine XS.iloadN X0.here hx rfl (hb hby d_prog_4_method_4_0) rfl ?_
    show SS pP eE belowS s₁ (mkF mM 1 #[.val (.ref a1), .val (.int (1 : Int32)), .val (.int c)] [(.int (1 : Int32))]) _
    refine XS.ifNo X0.here hx rfl (hb hby d_prog_4_method_4_1) rfl ((if0 _ _).trans (flt (by decide : ¬ ((1 : Int32) < (0 : Int32)))).1) ?_
    show SS pP eE belowS s₁ (mkF mM 4 #[.val (.ref a1), .val (.int (1 : Int32)), .val (.int c)] []) _
    refine XS.aloadN X0.here hx rfl (hb hby d_prog_4_method_4_4) rfl rfl ?_
    show SS pP eE belowS s₁ (mkF mM 5 #[.val (.ref a1), .val (.int (1 : Int32)), .val (.int c)] [(.ref a1)]) _
    refine st101 _ ?_
    show SS pP eE belowS T101 (mkF mM 8 #[.val (.ref a1), .val (.int (1 : Int32)), .val (.int c)] [(.ref b2)]) _
    refine XS.iloadN X101.here hx rfl (hb hby d_prog_4_method_4_8) rfl ?_
    show SS pP eE belowS T101 (mkF mM 9 #[.val (.ref a1), .val (.int (1 : Int32)), .val (.int c)] [(.int (1 : Int32)), (.ref b2)]) _
    refine XS.iloadN X101.here hx rfl (hb hby d_prog_4_method_4_9) rfl ?_
    show SS pP eE belowS T101 (mkF mM 10 #[.val (.ref a1), .val (.int (1 : Int32)), .val (.int c)] [(.int c), (.int (1 : Int32)), (.ref b2)]) _
    refine st103 _ ?_
    show SS pP eE belowS T103 (mkF mM 11 #[.val (.ref a1), .val (.int (1 : Int32)), .val (.int c)] []) _
    exact X103.returnOut hx Bd.returns (hb hby d_prog_4_method_4_11) hr
  · show Q_closed1 Z a1 c b2 k2 ea eb h0 n0 _ T103.heap _
    rw [e103]
    exact ⟨rfl, N103, K104, Vt103⟩

def Q_closedn (Z : State) (a1 : Addr) (c : Int32) (h0 : Heap) (n0 : Nat) (xv : Option Value) (xh : Heap) (xL : List Loc) : Prop := xv = none ∧ Fr n0 xL ∧ xh = h0
theorem ef_closedn (mM : MethodId) (a1 : Addr) (c : Int32) : entryFrame mM #[(.ref a1), (.int (-1 : Int32)), (.int c)] 3 = mkF mM 0 #[.val (.ref a1), .val (.int (-1 : Int32)), .val (.int c)] [] := by first | (simp [entryFrame, mkF, argsToLocals, Value.category]; done) | rfl
set_option maxRecDepth 65536 in
set_option maxHeartbeats 40000000 in
theorem rm_closedn (l : Launch) (Z : State) (a0 : Array Value) (hw : ∀ d ∈ tables_1, d.before a0 Z = true) (ws : List Jvm.Cond) (a1 : Addr) (c : Int32) (h0 : Heap) (n0 : Nat) (Z0 : n0 ≤ h0.size) :
    MetFree l (⟨"com/example/macroweave/macroweave/BracketPairs", "closed", "(II)V"⟩ : MethodName) (head1 (Jvm.Cond.code (⟨"com/example/macroweave/macroweave/BracketPairs", "closed", "(II)V"⟩ : MethodName) prog_4_method_4_code 3 none :: ws) ({ frames := 0, cells := 0, slots := 0, locals := 0 } : Room)) (fun xa xU => xa = #[(.ref a1), (.int (-1 : Int32)), (.int c)] ∧ Z.Warmed39 xU.vm ∧ xU.heap = h0) (fun _ _ _ _ _ => True) (fun _ xU xo xU' => ∃ xv xL, xo = .returned xv ∧ Q_closedn Z a1 c h0 n0 xv xU'.heap xL ∧ FrameEnd xU xo xU' xL ({ frames := 0, cells := 0, slots := 0, locals := 0 } : Room).cells ({ frames := 0, cells := 0, slots := 0, locals := 0 } : Room).slots) := by
  refine MetFree.of_bodySF (plainFor_of_name pn_com_example_macroweave_macroweave_BracketPairs) hisR ?_
  intro pP eE sS mM argS belowS methS cC s₁ Bd hml0 hP hK
  obtain ⟨rfl, hZ, hh⟩ := hP
  have hx := Bd.exec
  have hby := Bd.bytes
  have hml : cC.maxLocals = 3 := hml0
  have hown : sS.vm.findClass "com/example/macroweave/macroweave/BracketPairs" = some mM.cls := findClass_of_methodNamed Bd.named
  have hnm := (name_of_methodNamed Bd.named Bd.method).1
  have X0 : Stand pP l eE ({ frames := 0, cells := 0, slots := 0, locals := 0 } : Room) sS mM #[(.ref a1), (.int (-1 : Int32)), (.int c)] belowS methS cC s₁ [] 0 0 := Stand.of_body Bd
  have e0 : s₁.heap = h0 := by rw [← hh, Bd.state]; rfl
  have N0 := Fr.nil n0
  have pre0 : ∀ t', Steps pP.tables eE belowS (s₁.setTop (mkF mM 0 #[.val (.ref a1), .val (.int (-1 : Int32)), .val (.int c)] [])) t' → Steps pP.tables eE belowS (s₁.setTop (entryFrame mM #[(.ref a1), (.int (-1 : Int32)), (.int c)] 3)) t' := fun t' kk' => castTop (ef_closedn mM a1 c) kk'
  obtain ⟨fs, hr, hrun, hended, hW, hsame⟩ := X0.leave (v := none) (fun _ => rfl)
  refine ⟨_, _, pre0 _ ?_, hrun, hended, _, _, rfl, ?_, ⟨_, rfl⟩, hW, hsame.mono (by decide) (by decide)⟩
  · show SS pP eE belowS s₁ (mkF mM 0 #[.val (.ref a1), .val (.int (-1 : Int32)), .val (.int c)] []) _
    refine XS.iloadN X0.here hx rfl (hb hby d_prog_4_method_4_0) rfl ?_
    show SS pP eE belowS s₁ (mkF mM 1 #[.val (.ref a1), .val (.int (-1 : Int32)), .val (.int c)] [(.int (-1 : Int32))]) _
    refine XS.ifYes X0.here hx rfl (pc0 := 1) (pc' := 11) rfl (hb hby d_prog_4_method_4_1) rfl ((if0 _ _).trans (tlt (by decide : (-1 : Int32) < (0 : Int32))).1) (by decide) (by decide) ?_
    show SS pP eE belowS s₁ (mkF mM 11 #[.val (.ref a1), .val (.int (-1 : Int32)), .val (.int c)] []) _
    exact X0.returnOut hx Bd.returns (hb hby d_prog_4_method_4_11) hr
  · show Q_closedn Z a1 c h0 n0 _ s₁.heap _
    rw [e0]
    exact ⟨rfl, N0, rfl⟩
theorem d_jdk_65_method_30_0 : decode jdk_65_method_30_code 0 = .ok (.iload_n 1, 1) := by decide +kernel
theorem d_jdk_65_method_30_1 : decode jdk_65_method_30_code 1 = .ok (.iload_n 2, 1) := by decide +kernel
theorem d_jdk_65_method_30_2 : decode jdk_65_method_30_code 2 = .ok (.if_icmp .le 44, 3) := by decide +kernel
theorem d_jdk_65_method_30_46 : decode jdk_65_method_30_code 46 = .ok (.iload_n 1, 1) := by decide +kernel
theorem d_jdk_65_method_30_47 : decode jdk_65_method_30_code 47 = .ok (.ifCond .ge 12, 3) := by decide +kernel
theorem d_jdk_65_method_30_59 : decode jdk_65_method_30_code 59 = .ok (.iload_n 2, 1) := by decide +kernel
theorem d_jdk_65_method_30_60 : decode jdk_65_method_30_code 60 = .ok (.iload_n 0, 1) := by decide +kernel
theorem d_jdk_65_method_30_61 : decode jdk_65_method_30_code 61 = .ok (.if_icmp .le 12, 3) := by decide +kernel
theorem d_jdk_65_method_30_73 : decode jdk_65_method_30_code 73 = .ok (.return_, 1) := by decide +kernel
def Q_rc1 (Z : State)  (h0 : Heap) (n0 : Nat) (xv : Option Value) (xh : Heap) (xL : List Loc) : Prop := xv = none ∧ Fr n0 xL ∧ xh = h0
abbrev Lc_rc1_0  : Array Slot := #[.val (.int (4 : Int32)), .val (.int (0 : Int32)), .val (.int (1 : Int32))]
theorem ef_rc1 (mM : MethodId)  : entryFrame mM #[(.int (4 : Int32)), (.int (0 : Int32)), (.int (1 : Int32))] 3 = mkF mM 0 #[.val (.int (4 : Int32)), .val (.int (0 : Int32)), .val (.int (1 : Int32))] [] := by first | (simp [entryFrame, mkF, argsToLocals, Value.category]; done) | rfl
set_option maxRecDepth 65536 in
set_option maxHeartbeats 40000000 in
theorem rm_rc1 (l : Launch) (Z : State) (a0 : Array Value) (hw : ∀ d ∈ tables_1, d.before a0 Z = true) (ws : List Jvm.Cond)  (h0 : Heap) (n0 : Nat) (Z0 : n0 ≤ h0.size) :
    MetFree l (⟨"java/util/Arrays", "rangeCheck", "(III)V"⟩ : MethodName) (head1 (Jvm.Cond.code (⟨"java/util/Arrays", "rangeCheck", "(III)V"⟩ : MethodName) jdk_65_method_30_code 3 none :: ws) ({ frames := 0, cells := 0, slots := 0, locals := 0 } : Room)) (fun xa xU => xa = #[(.int (4 : Int32)), (.int (0 : Int32)), (.int (1 : Int32))] ∧ Z.Warmed39 xU.vm ∧ xU.heap = h0) (fun _ _ _ _ _ => True) (fun _ xU xo xU' => ∃ xv xL, xo = .returned xv ∧ Q_rc1 Z  h0 n0 xv xU'.heap xL ∧ FrameEnd xU xo xU' xL ({ frames := 0, cells := 0, slots := 0, locals := 0 } : Room).cells ({ frames := 0, cells := 0, slots := 0, locals := 0 } : Room).slots) := by
  refine MetFree.of_bodySF (plainFor_of_name pn_java_util_Arrays) hisR ?_
  intro pP eE sS mM argS belowS methS cC s₁ Bd hml0 hP hK
  obtain ⟨rfl, hZ, hh⟩ := hP
  have hx := Bd.exec
  have hby := Bd.bytes
  have hml : cC.maxLocals = 3 := hml0
  have hown : sS.vm.findClass "java/util/Arrays" = some mM.cls := findClass_of_methodNamed Bd.named
  have hnm := (name_of_methodNamed Bd.named Bd.method).1
  have X0 : Stand pP l eE ({ frames := 0, cells := 0, slots := 0, locals := 0 } : Room) sS mM #[(.int (4 : Int32)), (.int (0 : Int32)), (.int (1 : Int32))] belowS methS cC s₁ [] 0 0 := Stand.of_body Bd
  have e0 : s₁.heap = h0 := by rw [← hh, Bd.state]; rfl
  have N0 := Fr.nil n0
  have pre0 : ∀ t', Steps pP.tables eE belowS (s₁.setTop (mkF mM 0 #[.val (.int (4 : Int32)), .val (.int (0 : Int32)), .val (.int (1 : Int32))] [])) t' → Steps pP.tables eE belowS (s₁.setTop (entryFrame mM #[(.int (4 : Int32)), (.int (0 : Int32)), (.int (1 : Int32))] 3)) t' := fun t' kk' => castTop (ef_rc1 mM ) kk'
  obtain ⟨fs, hr, hrun, hended, hW, hsame⟩ := X0.leave (v := none) (fun _ => rfl)
  refine ⟨_, _, pre0 _ ?_, hrun, hended, _, _, rfl, ?_, ⟨_, rfl⟩, hW, hsame.mono (by decide) (by decide)⟩
  · show SS pP eE belowS s₁ (mkF mM 0 Lc_rc1_0 []) _
    refine XS.iloadN X0.here hx rfl (hb hby d_jdk_65_method_30_0) rfl ?_
    show SS pP eE belowS s₁ (mkF mM 1 Lc_rc1_0 [(.int (0 : Int32))]) _
    refine XS.iloadN X0.here hx rfl (hb hby d_jdk_65_method_30_1) rfl ?_
    show SS pP eE belowS s₁ (mkF mM 2 Lc_rc1_0 [(.int (1 : Int32)), (.int (0 : Int32))]) _
    refine XS.icmpYes X0.here hx rfl (pc0 := 2) (pc' := 46) rfl (hb hby d_jdk_65_method_30_2) rfl (flt (by decide : ¬ ((1 : Int32) < (0 : Int32)))).2.2.2 (by decide) (by decide) ?_
    show SS pP eE belowS s₁ (mkF mM 46 Lc_rc1_0 []) _
    refine XS.iloadN X0.here hx rfl (hb hby d_jdk_65_method_30_46) rfl ?_
    show SS pP eE belowS s₁ (mkF mM 47 Lc_rc1_0 [(.int (0 : Int32))]) _
    refine XS.ifYes X0.here hx rfl (pc0 := 47) (pc' := 59) rfl (hb hby d_jdk_65_method_30_47) rfl ((if0 _ _).trans (flt (by decide : ¬ ((0 : Int32) < (0 : Int32)))).2.1) (by decide) (by decide) ?_
    show SS pP eE belowS s₁ (mkF mM 59 Lc_rc1_0 []) _
    refine XS.iloadN X0.here hx rfl (hb hby d_jdk_65_method_30_59) rfl ?_
    show SS pP eE belowS s₁ (mkF mM 60 Lc_rc1_0 [(.int (1 : Int32))]) _
    refine XS.iloadN X0.here hx rfl (hb hby d_jdk_65_method_30_60) rfl ?_
    show SS pP eE belowS s₁ (mkF mM 61 Lc_rc1_0 [(.int (4 : Int32)), (.int (1 : Int32))]) _
    refine XS.icmpYes X0.here hx rfl (pc0 := 61) (pc' := 73) rfl (hb hby d_jdk_65_method_30_61) rfl (flt (by decide : ¬ ((4 : Int32) < (1 : Int32)))).2.2.2 (by decide) (by decide) ?_
    show SS pP eE belowS s₁ (mkF mM 73 Lc_rc1_0 []) _
    exact X0.returnOut hx Bd.returns (hb hby d_jdk_65_method_30_73) hr
  · show Q_rc1 Z  h0 n0 _ s₁.heap _
    rw [e0]
    exact ⟨rfl, N0, rfl⟩

def Q_rc2 (Z : State)  (h0 : Heap) (n0 : Nat) (xv : Option Value) (xh : Heap) (xL : List Loc) : Prop := xv = none ∧ Fr n0 xL ∧ xh = h0
abbrev Lc_rc2_0  : Array Slot := #[.val (.int (4 : Int32)), .val (.int (0 : Int32)), .val (.int (2 : Int32))]
theorem ef_rc2 (mM : MethodId)  : entryFrame mM #[(.int (4 : Int32)), (.int (0 : Int32)), (.int (2 : Int32))] 3 = mkF mM 0 #[.val (.int (4 : Int32)), .val (.int (0 : Int32)), .val (.int (2 : Int32))] [] := by first | (simp [entryFrame, mkF, argsToLocals, Value.category]; done) | rfl
set_option maxRecDepth 65536 in
set_option maxHeartbeats 40000000 in
theorem rm_rc2 (l : Launch) (Z : State) (a0 : Array Value) (hw : ∀ d ∈ tables_1, d.before a0 Z = true) (ws : List Jvm.Cond)  (h0 : Heap) (n0 : Nat) (Z0 : n0 ≤ h0.size) :
    MetFree l (⟨"java/util/Arrays", "rangeCheck", "(III)V"⟩ : MethodName) (head1 (Jvm.Cond.code (⟨"java/util/Arrays", "rangeCheck", "(III)V"⟩ : MethodName) jdk_65_method_30_code 3 none :: ws) ({ frames := 0, cells := 0, slots := 0, locals := 0 } : Room)) (fun xa xU => xa = #[(.int (4 : Int32)), (.int (0 : Int32)), (.int (2 : Int32))] ∧ Z.Warmed39 xU.vm ∧ xU.heap = h0) (fun _ _ _ _ _ => True) (fun _ xU xo xU' => ∃ xv xL, xo = .returned xv ∧ Q_rc2 Z  h0 n0 xv xU'.heap xL ∧ FrameEnd xU xo xU' xL ({ frames := 0, cells := 0, slots := 0, locals := 0 } : Room).cells ({ frames := 0, cells := 0, slots := 0, locals := 0 } : Room).slots) := by
  refine MetFree.of_bodySF (plainFor_of_name pn_java_util_Arrays) hisR ?_
  intro pP eE sS mM argS belowS methS cC s₁ Bd hml0 hP hK
  obtain ⟨rfl, hZ, hh⟩ := hP
  have hx := Bd.exec
  have hby := Bd.bytes
  have hml : cC.maxLocals = 3 := hml0
  have hown : sS.vm.findClass "java/util/Arrays" = some mM.cls := findClass_of_methodNamed Bd.named
  have hnm := (name_of_methodNamed Bd.named Bd.method).1
  have X0 : Stand pP l eE ({ frames := 0, cells := 0, slots := 0, locals := 0 } : Room) sS mM #[(.int (4 : Int32)), (.int (0 : Int32)), (.int (2 : Int32))] belowS methS cC s₁ [] 0 0 := Stand.of_body Bd
  have e0 : s₁.heap = h0 := by rw [← hh, Bd.state]; rfl
  have N0 := Fr.nil n0
  have pre0 : ∀ t', Steps pP.tables eE belowS (s₁.setTop (mkF mM 0 #[.val (.int (4 : Int32)), .val (.int (0 : Int32)), .val (.int (2 : Int32))] [])) t' → Steps pP.tables eE belowS (s₁.setTop (entryFrame mM #[(.int (4 : Int32)), (.int (0 : Int32)), (.int (2 : Int32))] 3)) t' := fun t' kk' => castTop (ef_rc2 mM ) kk'
  obtain ⟨fs, hr, hrun, hended, hW, hsame⟩ := X0.leave (v := none) (fun _ => rfl)
  refine ⟨_, _, pre0 _ ?_, hrun, hended, _, _, rfl, ?_, ⟨_, rfl⟩, hW, hsame.mono (by decide) (by decide)⟩
  · show SS pP eE belowS s₁ (mkF mM 0 Lc_rc2_0 []) _
    refine XS.iloadN X0.here hx rfl (hb hby d_jdk_65_method_30_0) rfl ?_
    show SS pP eE belowS s₁ (mkF mM 1 Lc_rc2_0 [(.int (0 : Int32))]) _
    refine XS.iloadN X0.here hx rfl (hb hby d_jdk_65_method_30_1) rfl ?_
    show SS pP eE belowS s₁ (mkF mM 2 Lc_rc2_0 [(.int (2 : Int32)), (.int (0 : Int32))]) _
    refine XS.icmpYes X0.here hx rfl (pc0 := 2) (pc' := 46) rfl (hb hby d_jdk_65_method_30_2) rfl (flt (by decide : ¬ ((2 : Int32) < (0 : Int32)))).2.2.2 (by decide) (by decide) ?_
    show SS pP eE belowS s₁ (mkF mM 46 Lc_rc2_0 []) _
    refine XS.iloadN X0.here hx rfl (hb hby d_jdk_65_method_30_46) rfl ?_
    show SS pP eE belowS s₁ (mkF mM 47 Lc_rc2_0 [(.int (0 : Int32))]) _
    refine XS.ifYes X0.here hx rfl (pc0 := 47) (pc' := 59) rfl (hb hby d_jdk_65_method_30_47) rfl ((if0 _ _).trans (flt (by decide : ¬ ((0 : Int32) < (0 : Int32)))).2.1) (by decide) (by decide) ?_
    show SS pP eE belowS s₁ (mkF mM 59 Lc_rc2_0 []) _
    refine XS.iloadN X0.here hx rfl (hb hby d_jdk_65_method_30_59) rfl ?_
    show SS pP eE belowS s₁ (mkF mM 60 Lc_rc2_0 [(.int (2 : Int32))]) _
    refine XS.iloadN X0.here hx rfl (hb hby d_jdk_65_method_30_60) rfl ?_
    show SS pP eE belowS s₁ (mkF mM 61 Lc_rc2_0 [(.int (4 : Int32)), (.int (2 : Int32))]) _
    refine XS.icmpYes X0.here hx rfl (pc0 := 61) (pc' := 73) rfl (hb hby d_jdk_65_method_30_61) rfl (flt (by decide : ¬ ((4 : Int32) < (2 : Int32)))).2.2.2 (by decide) (by decide) ?_
    show SS pP eE belowS s₁ (mkF mM 73 Lc_rc2_0 []) _
    exact X0.returnOut hx Bd.returns (hb hby d_jdk_65_method_30_73) hr
  · show Q_rc2 Z  h0 n0 _ s₁.heap _
    rw [e0]
    exact ⟨rfl, N0, rfl⟩
theorem d_jdk_65_method_59_0 : decode jdk_65_method_59_code 0 = .ok (.iload_n 1, 1) := by decide +kernel
theorem d_jdk_65_method_59_1 : decode jdk_65_method_59_code 1 = .ok (.istore 4, 2) := by decide +kernel
theorem d_jdk_65_method_59_3 : decode jdk_65_method_59_code 3 = .ok (.iload_n 2, 1) := by decide +kernel
theorem d_jdk_65_method_59_4 : decode jdk_65_method_59_code 4 = .ok (.iconst 1, 1) := by decide +kernel
theorem d_jdk_65_method_59_5 : decode jdk_65_method_59_code 5 = .ok (.isub, 1) := by decide +kernel
theorem d_jdk_65_method_59_6 : decode jdk_65_method_59_code 6 = .ok (.istore 5, 2) := by decide +kernel
theorem d_jdk_65_method_59_8 : decode jdk_65_method_59_code 8 = .ok (.iload 4, 2) := by decide +kernel
theorem d_jdk_65_method_59_10 : decode jdk_65_method_59_code 10 = .ok (.iload 5, 2) := by decide +kernel
theorem d_jdk_65_method_59_12 : decode jdk_65_method_59_code 12 = .ok (.if_icmp .gt 54, 3) := by decide +kernel
theorem d_jdk_65_method_59_15 : decode jdk_65_method_59_code 15 = .ok (.iload 4, 2) := by decide +kernel
theorem d_jdk_65_method_59_17 : decode jdk_65_method_59_code 17 = .ok (.iload 5, 2) := by decide +kernel
theorem d_jdk_65_method_59_19 : decode jdk_65_method_59_code 19 = .ok (.iadd, 1) := by decide +kernel
theorem d_jdk_65_method_59_20 : decode jdk_65_method_59_code 20 = .ok (.iconst 1, 1) := by decide +kernel
theorem d_jdk_65_method_59_21 : decode jdk_65_method_59_code 21 = .ok (.iushr, 1) := by decide +kernel
theorem d_jdk_65_method_59_22 : decode jdk_65_method_59_code 22 = .ok (.istore 6, 2) := by decide +kernel
theorem d_jdk_65_method_59_24 : decode jdk_65_method_59_code 24 = .ok (.aload_n 0, 1) := by decide +kernel
theorem d_jdk_65_method_59_25 : decode jdk_65_method_59_code 25 = .ok (.iload 6, 2) := by decide +kernel
theorem d_jdk_65_method_59_27 : decode jdk_65_method_59_code 27 = .ok (.iaload, 1) := by decide +kernel
theorem d_jdk_65_method_59_28 : decode jdk_65_method_59_code 28 = .ok (.istore 7, 2) := by decide +kernel
theorem d_jdk_65_method_59_30 : decode jdk_65_method_59_code 30 = .ok (.iload 7, 2) := by decide +kernel
theorem d_jdk_65_method_59_32 : decode jdk_65_method_59_code 32 = .ok (.iload_n 3, 1) := by decide +kernel
theorem d_jdk_65_method_59_33 : decode jdk_65_method_59_code 33 = .ok (.if_icmp .ge 12, 3) := by decide +kernel
theorem d_jdk_65_method_59_45 : decode jdk_65_method_59_code 45 = .ok (.iload 7, 2) := by decide +kernel
theorem d_jdk_65_method_59_47 : decode jdk_65_method_59_code 47 = .ok (.iload_n 3, 1) := by decide +kernel
theorem d_jdk_65_method_59_48 : decode jdk_65_method_59_code 48 = .ok (.if_icmp .le 12, 3) := by decide +kernel
theorem d_jdk_65_method_59_60 : decode jdk_65_method_59_code 60 = .ok (.iload 6, 2) := by decide +kernel
theorem d_jdk_65_method_59_62 : decode jdk_65_method_59_code 62 = .ok (.ireturn, 1) := by decide +kernel
def Q_bs0_1x (Z : State) (a1 : Addr) (k1 : ClassId) (x : Int32) (h0 : Heap) (n0 : Nat) (xv : Option Value) (xh : Heap) (xL : List Loc) : Prop := xv = some (.int (0 : Int32)) ∧ Fr n0 xL ∧ xh = h0
abbrev Lc_bs0_1x_0 (a1 : Addr) (x : Int32) : Array Slot := #[.val (.ref a1), .val (.int (0 : Int32)), .val (.int (1 : Int32)), .val (.int x), .unset, .unset, .unset, .unset]
abbrev Lc_bs0_1x_1 (a1 : Addr) (x : Int32) : Array Slot := #[.val (.ref a1), .val (.int (0 : Int32)), .val (.int (1 : Int32)), .val (.int x), .val (.int (0 : Int32)), .unset, .unset, .unset]
abbrev Lc_bs0_1x_2 (a1 : Addr) (x : Int32) : Array Slot := #[.val (.ref a1), .val (.int (0 : Int32)), .val (.int (1 : Int32)), .val (.int x), .val (.int (0 : Int32)), .val (.int (0 : Int32)), .unset, .unset]
abbrev Lc_bs0_1x_3 (a1 : Addr) (x : Int32) : Array Slot := #[.val (.ref a1), .val (.int (0 : Int32)), .val (.int (1 : Int32)), .val (.int x), .val (.int (0 : Int32)), .val (.int (0 : Int32)), .val (.int (0 : Int32)), .unset]
abbrev Lc_bs0_1x_4 (a1 : Addr) (x : Int32) : Array Slot := #[.val (.ref a1), .val (.int (0 : Int32)), .val (.int (1 : Int32)), .val (.int x), .val (.int (0 : Int32)), .val (.int (0 : Int32)), .val (.int (0 : Int32)), .val (.int x)]
theorem ef_bs0_1x (mM : MethodId) (a1 : Addr) (k1 : ClassId) (x : Int32) : entryFrame mM #[(.ref a1), (.int (0 : Int32)), (.int (1 : Int32)), (.int x)] 8 = mkF mM 0 #[.val (.ref a1), .val (.int (0 : Int32)), .val (.int (1 : Int32)), .val (.int x), .unset, .unset, .unset, .unset] [] := by first | (simp [entryFrame, mkF, argsToLocals, Value.category]; done) | rfl
set_option maxRecDepth 65536 in
set_option maxHeartbeats 40000000 in
theorem rm_bs0_1x (l : Launch) (Z : State) (a0 : Array Value) (hw : ∀ d ∈ tables_1, d.before a0 Z = true) (ws : List Jvm.Cond) (a1 : Addr) (k1 : ClassId) (x : Int32) (h0 : Heap) (n0 : Nat) (Z0 : n0 ≤ h0.size) (V_a1 : Arv Z h0 a1 k1 .int (4 : Int32) [(.int x), (.int (0 : Int32)), (.int (0 : Int32)), (.int (0 : Int32))] (.int (0 : Int32))) :
    MetFree l (⟨"java/util/Arrays", "binarySearch0", "([IIII)I"⟩ : MethodName) (head1 (Jvm.Cond.code (⟨"java/util/Arrays", "binarySearch0", "([IIII)I"⟩ : MethodName) jdk_65_method_59_code 8 (some .int) :: ws) ({ frames := 0, cells := 0, slots := 0, locals := 0 } : Room)) (fun xa xU => xa = #[(.ref a1), (.int (0 : Int32)), (.int (1 : Int32)), (.int x)] ∧ Z.Warmed39 xU.vm ∧ xU.heap = h0) (fun _ _ _ _ _ => True) (fun _ xU xo xU' => ∃ xv xL, xo = .returned xv ∧ Q_bs0_1x Z a1 k1 x h0 n0 xv xU'.heap xL ∧ FrameEnd xU xo xU' xL ({ frames := 0, cells := 0, slots := 0, locals := 0 } : Room).cells ({ frames := 0, cells := 0, slots := 0, locals := 0 } : Room).slots) := by
  refine MetFree.of_bodySF (plainFor_of_name pn_java_util_Arrays) hisR ?_
  intro pP eE sS mM argS belowS methS cC s₁ Bd hml0 hP hK
  obtain ⟨rfl, hZ, hh⟩ := hP
  have hx := Bd.exec
  have hby := Bd.bytes
  have hml : cC.maxLocals = 8 := hml0
  have hown : sS.vm.findClass "java/util/Arrays" = some mM.cls := findClass_of_methodNamed Bd.named
  have hnm := (name_of_methodNamed Bd.named Bd.method).1
  have X0 : Stand pP l eE ({ frames := 0, cells := 0, slots := 0, locals := 0 } : Room) sS mM #[(.ref a1), (.int (0 : Int32)), (.int (1 : Int32)), (.int x)] belowS methS cC s₁ [] 0 0 := Stand.of_body Bd
  have e0 : s₁.heap = h0 := by rw [← hh, Bd.state]; rfl
  have N0 := Fr.nil n0
  have pre0 : ∀ t', Steps pP.tables eE belowS (s₁.setTop (mkF mM 0 #[.val (.ref a1), .val (.int (0 : Int32)), .val (.int (1 : Int32)), .val (.int x), .unset, .unset, .unset, .unset] [])) t' → Steps pP.tables eE belowS (s₁.setTop (entryFrame mM #[(.ref a1), (.int (0 : Int32)), (.int (1 : Int32)), (.int x)] 8)) t' := fun t' kk' => castTop (ef_bs0_1x mM a1 k1 x) kk'
  obtain ⟨cl101, Ar101, q101, S101, Ng101, Ha101, Ga101⟩ := id V_a1
  have hin101 : ¬ ((0 : Int32) < 0 ∨ cl101.slots.size ≤ ((0 : Int32)).toNatClampNeg) := inb_of S101 ⟨by decide, by decide⟩
  have hat101 : cl101.slots[((0 : Int32)).toNatClampNeg]? = some (.int x) := Ha101.at hin101 (rfl)
  obtain ⟨fs, hr, hrun, hended, hW, hsame⟩ := X0.leave (v := some (.int (0 : Int32))) (fun h => by rw [Bd.returns] at h; cases h)
  refine ⟨_, _, pre0 _ ?_, hrun, hended, _, _, rfl, ?_, ⟨_, rfl⟩, hW, hsame.mono (by decide) (by decide)⟩
  · show SS pP eE belowS s₁ (mkF mM 0 (Lc_bs0_1x_0 a1 x) []) _
    refine XS.iloadN X0.here hx rfl (hb hby d_jdk_65_method_59_0) rfl ?_
    show SS pP eE belowS s₁ (mkF mM 1 (Lc_bs0_1x_0 a1 x) [(.int (0 : Int32))]) _
    refine XS.istore X0.here hx rfl (hb hby d_jdk_65_method_59_1) rfl (l' := (Lc_bs0_1x_1 a1 x)) rfl ?_
    show SS pP eE belowS s₁ (mkF mM 3 (Lc_bs0_1x_1 a1 x) []) _
    refine XS.iloadN X0.here hx rfl (hb hby d_jdk_65_method_59_3) rfl ?_
    show SS pP eE belowS s₁ (mkF mM 4 (Lc_bs0_1x_1 a1 x) [(.int (1 : Int32))]) _
    refine XS.iconst X0.here hx rfl (hb hby d_jdk_65_method_59_4) ?_
    show SS pP eE belowS s₁ (mkF mM 5 (Lc_bs0_1x_1 a1 x) [(.int (1 : Int32)), (.int (1 : Int32))]) _
    refine XS.isub X0.here hx rfl (hb hby d_jdk_65_method_59_5) rfl ?_
    show SS pP eE belowS s₁ (mkF mM 6 (Lc_bs0_1x_1 a1 x) [(.int (0 : Int32))]) _
    refine XS.istore X0.here hx rfl (hb hby d_jdk_65_method_59_6) rfl (l' := (Lc_bs0_1x_2 a1 x)) rfl ?_
    show SS pP eE belowS s₁ (mkF mM 8 (Lc_bs0_1x_2 a1 x) []) _
    refine XS.iload X0.here hx rfl (hb hby d_jdk_65_method_59_8) rfl ?_
    show SS pP eE belowS s₁ (mkF mM 10 (Lc_bs0_1x_2 a1 x) [(.int (0 : Int32))]) _
    refine XS.iload X0.here hx rfl (hb hby d_jdk_65_method_59_10) rfl ?_
    show SS pP eE belowS s₁ (mkF mM 12 (Lc_bs0_1x_2 a1 x) [(.int (0 : Int32)), (.int (0 : Int32))]) _
    refine XS.icmpNo X0.here hx rfl (hb hby d_jdk_65_method_59_12) rfl (flt (by decide : ¬ ((0 : Int32) < (0 : Int32)))).2.2.1 ?_
    show SS pP eE belowS s₁ (mkF mM 15 (Lc_bs0_1x_2 a1 x) []) _
    refine XS.iload X0.here hx rfl (hb hby d_jdk_65_method_59_15) rfl ?_
    show SS pP eE belowS s₁ (mkF mM 17 (Lc_bs0_1x_2 a1 x) [(.int (0 : Int32))]) _
    refine XS.iload X0.here hx rfl (hb hby d_jdk_65_method_59_17) rfl ?_
    show SS pP eE belowS s₁ (mkF mM 19 (Lc_bs0_1x_2 a1 x) [(.int (0 : Int32)), (.int (0 : Int32))]) _
    refine XS.iadd X0.here hx rfl (hb hby d_jdk_65_method_59_19) rfl ?_
    show SS pP eE belowS s₁ (mkF mM 20 (Lc_bs0_1x_2 a1 x) [(.int (0 : Int32))]) _
    refine XS.iconst X0.here hx rfl (hb hby d_jdk_65_method_59_20) ?_
    show SS pP eE belowS s₁ (mkF mM 21 (Lc_bs0_1x_2 a1 x) [(.int (1 : Int32)), (.int (0 : Int32))]) _
    refine XS.iushr X0.here hx rfl (hb hby d_jdk_65_method_59_21) rfl ?_
    show SS pP eE belowS s₁ (mkF mM 22 (Lc_bs0_1x_2 a1 x) [(.int (0 : Int32))]) _
    refine XS.istore X0.here hx rfl (hb hby d_jdk_65_method_59_22) rfl (l' := (Lc_bs0_1x_3 a1 x)) rfl ?_
    show SS pP eE belowS s₁ (mkF mM 24 (Lc_bs0_1x_3 a1 x) []) _
    refine XS.aloadN X0.here hx rfl (hb hby d_jdk_65_method_59_24) rfl rfl ?_
    show SS pP eE belowS s₁ (mkF mM 25 (Lc_bs0_1x_3 a1 x) [(.ref a1)]) _
    refine XS.iload X0.here hx rfl (hb hby d_jdk_65_method_59_25) rfl ?_
    show SS pP eE belowS s₁ (mkF mM 27 (Lc_bs0_1x_3 a1 x) [(.int (0 : Int32)), (.ref a1)]) _
    refine X0.iaload hx (j := (0 : Int32)) (v := (.int x)) (by rw [e0]; exact Ar101.1) (State.isArrayOf_alike hZ.alike Ar101.2.1) Ar101.2.2 hin101 hat101 (g := (mkF mM 27 (Lc_bs0_1x_3 a1 x) [(.int (0 : Int32)), (.ref a1)])) rfl rfl (hb hby d_jdk_65_method_59_27) _ ?_
    show SS pP eE belowS s₁ (mkF mM 28 (Lc_bs0_1x_3 a1 x) [(.int x)]) _
    refine XS.istore X0.here hx rfl (hb hby d_jdk_65_method_59_28) rfl (l' := (Lc_bs0_1x_4 a1 x)) rfl ?_
    show SS pP eE belowS s₁ (mkF mM 30 (Lc_bs0_1x_4 a1 x) []) _
    refine XS.iload X0.here hx rfl (hb hby d_jdk_65_method_59_30) rfl ?_
    show SS pP eE belowS s₁ (mkF mM 32 (Lc_bs0_1x_4 a1 x) [(.int x)]) _
    refine XS.iloadN X0.here hx rfl (hb hby d_jdk_65_method_59_32) rfl ?_
    show SS pP eE belowS s₁ (mkF mM 33 (Lc_bs0_1x_4 a1 x) [(.int x), (.int x)]) _
    refine XS.icmpYes X0.here hx rfl (pc0 := 33) (pc' := 45) rfl (hb hby d_jdk_65_method_59_33) rfl (flt (Int32.lt_irrefl : ¬ (x < x))).2.1 (by decide) (by decide) ?_
    show SS pP eE belowS s₁ (mkF mM 45 (Lc_bs0_1x_4 a1 x) []) _
    refine XS.iload X0.here hx rfl (hb hby d_jdk_65_method_59_45) rfl ?_
    show SS pP eE belowS s₁ (mkF mM 47 (Lc_bs0_1x_4 a1 x) [(.int x)]) _
    refine XS.iloadN X0.here hx rfl (hb hby d_jdk_65_method_59_47) rfl ?_
    show SS pP eE belowS s₁ (mkF mM 48 (Lc_bs0_1x_4 a1 x) [(.int x), (.int x)]) _
    refine XS.icmpYes X0.here hx rfl (pc0 := 48) (pc' := 60) rfl (hb hby d_jdk_65_method_59_48) rfl (flt (Int32.lt_irrefl : ¬ (x < x))).2.2.2 (by decide) (by decide) ?_
    show SS pP eE belowS s₁ (mkF mM 60 (Lc_bs0_1x_4 a1 x) []) _
    refine XS.iload X0.here hx rfl (hb hby d_jdk_65_method_59_60) rfl ?_
    show SS pP eE belowS s₁ (mkF mM 62 (Lc_bs0_1x_4 a1 x) [(.int (0 : Int32))]) _
    exact retI X0 hx Bd.returns (hb hby d_jdk_65_method_59_62) hr
  · show Q_bs0_1x Z a1 k1 x h0 n0 _ s₁.heap _
    rw [e0]
    exact ⟨rfl, N0, rfl⟩
theorem d_jdk_65_method_58_0 : decode jdk_65_method_58_code 0 = .ok (.aload_n 0, 1) := by decide +kernel
theorem d_jdk_65_method_58_1 : decode jdk_65_method_58_code 1 = .ok (.arraylength, 1) := by decide +kernel
theorem d_jdk_65_method_58_2 : decode jdk_65_method_58_code 2 = .ok (.iload_n 1, 1) := by decide +kernel
theorem d_jdk_65_method_58_3 : decode jdk_65_method_58_code 3 = .ok (.iload_n 2, 1) := by decide +kernel
theorem d_jdk_65_method_58_4 : decode jdk_65_method_58_code 4 = .ok (.invokestatic 13, 3) := by decide +kernel
theorem pd_7 : parseMethodDescriptor "(III)V" = some ⟨[.int, .int, .int], none⟩ := by decide +kernel
theorem d_jdk_65_method_58_7 : decode jdk_65_method_58_code 7 = .ok (.aload_n 0, 1) := by decide +kernel
theorem d_jdk_65_method_58_8 : decode jdk_65_method_58_code 8 = .ok (.iload_n 1, 1) := by decide +kernel
theorem d_jdk_65_method_58_9 : decode jdk_65_method_58_code 9 = .ok (.iload_n 2, 1) := by decide +kernel
theorem d_jdk_65_method_58_10 : decode jdk_65_method_58_code 10 = .ok (.iload_n 3, 1) := by decide +kernel
theorem d_jdk_65_method_58_11 : decode jdk_65_method_58_code 11 = .ok (.invokestatic 209, 3) := by decide +kernel
theorem pd_6 : parseMethodDescriptor "([IIII)I" = some ⟨[(.array .int), .int, .int, .int], some .int⟩ := by decide +kernel
theorem d_jdk_65_method_58_14 : decode jdk_65_method_58_code 14 = .ok (.ireturn, 1) := by decide +kernel
def Q_bs_1x (Z : State) (a1 : Addr) (k1 : ClassId) (x : Int32) (h0 : Heap) (n0 : Nat) (xv : Option Value) (xh : Heap) (xL : List Loc) : Prop := xv = some (.int (0 : Int32)) ∧ Fr n0 xL ∧ xh = h0
abbrev Lc_bs_1x_0 (a1 : Addr) (x : Int32) : Array Slot := #[.val (.ref a1), .val (.int (0 : Int32)), .val (.int (1 : Int32)), .val (.int x)]
theorem ef_bs_1x (mM : MethodId) (a1 : Addr) (k1 : ClassId) (x : Int32) : entryFrame mM #[(.ref a1), (.int (0 : Int32)), (.int (1 : Int32)), (.int x)] 4 = mkF mM 0 #[.val (.ref a1), .val (.int (0 : Int32)), .val (.int (1 : Int32)), .val (.int x)] [] := by first | (simp [entryFrame, mkF, argsToLocals, Value.category]; done) | rfl
set_option maxRecDepth 65536 in
set_option maxHeartbeats 40000000 in
theorem rm_bs_1x (l : Launch) (Z : State) (a0 : Array Value) (hw : ∀ d ∈ tables_1, d.before a0 Z = true) (ws : List Jvm.Cond) (a1 : Addr) (k1 : ClassId) (x : Int32) (h0 : Heap) (n0 : Nat) (Z0 : n0 ≤ h0.size) (V_a1 : Arv Z h0 a1 k1 .int (4 : Int32) [(.int x), (.int (0 : Int32)), (.int (0 : Int32)), (.int (0 : Int32))] (.int (0 : Int32))) :
    MetFree l (⟨"java/util/Arrays", "binarySearch", "([IIII)I"⟩ : MethodName) (head1 (Jvm.Cond.code (⟨"java/util/Arrays", "binarySearch", "([IIII)I"⟩ : MethodName) jdk_65_method_58_code 4 (some .int) :: ws) ({ frames := 1, cells := 0, slots := 0, locals := 19 } : Room)) (fun xa xU => xa = #[(.ref a1), (.int (0 : Int32)), (.int (1 : Int32)), (.int x)] ∧ Z.Warmed39 xU.vm ∧ xU.heap = h0) (fun _ _ _ _ _ => True) (fun _ xU xo xU' => ∃ xv xL, xo = .returned xv ∧ Q_bs_1x Z a1 k1 x h0 n0 xv xU'.heap xL ∧ FrameEnd xU xo xU' xL ({ frames := 1, cells := 0, slots := 0, locals := 19 } : Room).cells ({ frames := 1, cells := 0, slots := 0, locals := 19 } : Room).slots) := by
  refine MetFree.of_bodySF (plainFor_of_name pn_java_util_Arrays) hisR ?_
  intro pP eE sS mM argS belowS methS cC s₁ Bd hml0 hP hK
  obtain ⟨rfl, hZ, hh⟩ := hP
  have hx := Bd.exec
  have hby := Bd.bytes
  have hml : cC.maxLocals = 4 := hml0
  have hown : sS.vm.findClass "java/util/Arrays" = some mM.cls := findClass_of_methodNamed Bd.named
  have hnm := (name_of_methodNamed Bd.named Bd.method).1
  have X0 : Stand pP l eE ({ frames := 1, cells := 0, slots := 0, locals := 19 } : Room) sS mM #[(.ref a1), (.int (0 : Int32)), (.int (1 : Int32)), (.int x)] belowS methS cC s₁ [] 0 0 := Stand.of_body Bd
  have e0 : s₁.heap = h0 := by rw [← hh, Bd.state]; rfl
  have N0 := Fr.nil n0
  have pre0 : ∀ t', Steps pP.tables eE belowS (s₁.setTop (mkF mM 0 #[.val (.ref a1), .val (.int (0 : Int32)), .val (.int (1 : Int32)), .val (.int x)] [])) t' → Steps pP.tables eE belowS (s₁.setTop (entryFrame mM #[(.ref a1), (.int (0 : Int32)), (.int (1 : Int32)), (.int x)] 4)) t' := fun t' kk' => castTop (ef_bs_1x mM a1 k1 x) kk'
  obtain ⟨cl101, Ar101, q101, S101, Ng101, Ha101, Ga101⟩ := id V_a1
  obtain ⟨_, _, ⟨T102, L102, k102, n102⟩, -, X102, ⟨Lc102, hQ102, l102, y102, z102⟩, st102⟩ := Jvm.LawKit.callS X0 hx (y := (⟨"java/util/Arrays", "rangeCheck", "(III)V"⟩ : MethodName)) hown (mvT hZ (wi hw 56 rfl)) (mvT hZ (wi hw 57 rfl)) (mvT hZ (wi hw 33 rfl)) (mvT hZ (wi hw 58 rfl)) (by decide) (backOf (W := 0) (rm_rc1 l Z a0 hw []  h0 n0 (by omega) ) hZ (wi hw 58 rfl) (wi hw 33 rfl) (by decide) (by decide)) (g := (mkF mM 4 (Lc_bs_1x_0 a1 x) [(.int (1 : Int32)), (.int (0 : Int32)), (.int (4 : Int32))])) rfl (by rw [hml]; rfl) (argsL := [(.int (4 : Int32)), (.int (0 : Int32)), (.int (1 : Int32))]) (rest := []) (lenOf pd_7 rfl) rfl (by show 2 * 0 + _ ≤ _; exact Nat.le_of_eq rfl) (hb hby d_jdk_65_method_58_4) (fun _ _ => ⟨rfl, e0, Nat.le_of_ble_eq_true rfl, Nat.le_of_ble_eq_true rfl⟩)
  dsimp only [Pt.U, Pt.locs, Pt.cells, Pt.slots] at X102 l102 y102 z102 st102 hQ102
  subst l102 y102 z102
  obtain ⟨h102, e102⟩ : ∃ z, T102.heap = z := ⟨_, rfl⟩
  rw [e102] at hQ102
  obtain ⟨rfl, N102q, eq102⟩ := hQ102
  rw [eq102] at e102
  have N102 := Fr.app N0 N102q
  obtain ⟨_, _, ⟨T103, L103, k103, n103⟩, -, X103, ⟨Lc103, hQ103, l103, y103, z103⟩, st103⟩ := Jvm.LawKit.callS X102 hx (y := (⟨"java/util/Arrays", "binarySearch0", "([IIII)I"⟩ : MethodName)) hown (mvT hZ (wi hw 59 rfl)) (mvT hZ (wi hw 60 rfl)) (mvT hZ (wi hw 33 rfl)) (mvT hZ (wi hw 61 rfl)) (by decide) (backOf (W := 0) (rm_bs0_1x l Z a0 hw [] a1 k1 x h0 n0 (by omega) V_a1) hZ (wi hw 61 rfl) (wi hw 33 rfl) (by decide) (by decide)) (g := (mkF mM 11 (Lc_bs_1x_0 a1 x) [(.int x), (.int (1 : Int32)), (.int (0 : Int32)), (.ref a1)])) rfl (by rw [hml]; rfl) (argsL := [(.ref a1), (.int (0 : Int32)), (.int (1 : Int32)), (.int x)]) (rest := []) (lenOf pd_6 rfl) rfl (by show 2 * 0 + _ ≤ _; exact Nat.le_of_eq rfl) (hb hby d_jdk_65_method_58_11) (fun _ _ => ⟨rfl, e102, Nat.le_of_ble_eq_true rfl, Nat.le_of_ble_eq_true rfl⟩)
  dsimp only [Pt.U, Pt.locs, Pt.cells, Pt.slots] at X103 l103 y103 z103 st103 hQ103
  subst l103 y103 z103
  obtain ⟨h103, e103⟩ : ∃ z, T103.heap = z := ⟨_, rfl⟩
  rw [e103] at hQ103
  obtain ⟨rfl, N103q, eq103⟩ := hQ103
  rw [eq103] at e103
  have N103 := Fr.app N102 N103q
  obtain ⟨fs, hr, hrun, hended, hW, hsame⟩ := X103.leave (v := some (.int (0 : Int32))) (fun h => by rw [Bd.returns] at h; cases h)
  refine ⟨_, _, pre0 _ ?_, hrun, hended, _, _, rfl, ?_, ⟨_, rfl⟩, hW, hsame.mono (by decide) (by decide)⟩
  · show SS pP eE belowS s₁ (mkF mM 0 (Lc_bs_1x_0 a1 x) []) _
    refine XS.aloadN X0.here hx rfl (hb hby d_jdk_65_method_58_0) rfl rfl ?_
    show SS pP eE belowS s₁ (mkF mM 1 (Lc_bs_1x_0 a1 x) [(.ref a1)]) _
    refine X0.arraylength hx (by rw [e0]; exact Ar101.1) (State.isArrayOf_alike hZ.alike Ar101.2.1) (g := (mkF mM 1 (Lc_bs_1x_0 a1 x) [(.ref a1)])) rfl rfl (hb hby d_jdk_65_method_58_1) _ ?_
    rw [len_of S101 Ng101]
    show SS pP eE belowS s₁ (mkF mM 2 (Lc_bs_1x_0 a1 x) [(.int (4 : Int32))]) _
    refine XS.iloadN X0.here hx rfl (hb hby d_jdk_65_method_58_2) rfl ?_
    show SS pP eE belowS s₁ (mkF mM 3 (Lc_bs_1x_0 a1 x) [(.int (0 : Int32)), (.int (4 : Int32))]) _
    refine XS.iloadN X0.here hx rfl (hb hby d_jdk_65_method_58_3) rfl ?_
    show SS pP eE belowS s₁ (mkF mM 4 (Lc_bs_1x_0 a1 x) [(.int (1 : Int32)), (.int (0 : Int32)), (.int (4 : Int32))]) _
    refine st102 _ ?_
    show SS pP eE belowS T102 (mkF mM 7 (Lc_bs_1x_0 a1 x) []) _
    refine XS.aloadN X102.here hx rfl (hb hby d_jdk_65_method_58_7) rfl rfl ?_
    show SS pP eE belowS T102 (mkF mM 8 (Lc_bs_1x_0 a1 x) [(.ref a1)]) _
    refine XS.iloadN X102.here hx rfl (hb hby d_jdk_65_method_58_8) rfl ?_
    show SS pP eE belowS T102 (mkF mM 9 (Lc_bs_1x_0 a1 x) [(.int (0 : Int32)), (.ref a1)]) _
    refine XS.iloadN X102.here hx rfl (hb hby d_jdk_65_method_58_9) rfl ?_
    show SS pP eE belowS T102 (mkF mM 10 (Lc_bs_1x_0 a1 x) [(.int (1 : Int32)), (.int (0 : Int32)), (.ref a1)]) _
    refine XS.iloadN X102.here hx rfl (hb hby d_jdk_65_method_58_10) rfl ?_
    show SS pP eE belowS T102 (mkF mM 11 (Lc_bs_1x_0 a1 x) [(.int x), (.int (1 : Int32)), (.int (0 : Int32)), (.ref a1)]) _
    refine st103 _ ?_
    show SS pP eE belowS T103 (mkF mM 14 (Lc_bs_1x_0 a1 x) [(.int (0 : Int32))]) _
    exact retI X103 hx Bd.returns (hb hby d_jdk_65_method_58_14) hr
  · show Q_bs_1x Z a1 k1 x h0 n0 _ T103.heap _
    rw [e103]
    exact ⟨rfl, N103, rfl⟩
theorem d_prog_4_method_2_0 : decode prog_4_method_2_code 0 = .ok (.aload_n 1, 1) := by decide +kernel
theorem d_prog_4_method_2_1 : decode prog_4_method_2_code 1 = .ok (.aload_n 0, 1) := by decide +kernel
theorem d_prog_4_method_2_2 : decode prog_4_method_2_code 2 = .ok (.getfield 19, 3) := by decide +kernel
theorem d_prog_4_method_2_5 : decode prog_4_method_2_code 5 = .ok (.if_acmp .eq 5, 3) := by decide +kernel
theorem d_prog_4_method_2_10 : decode prog_4_method_2_code 10 = .ok (.aload_n 0, 1) := by decide +kernel
theorem d_prog_4_method_2_11 : decode prog_4_method_2_code 11 = .ok (.getfield 13, 3) := by decide +kernel
theorem d_prog_4_method_2_14 : decode prog_4_method_2_code 14 = .ok (.iconst 0, 1) := by decide +kernel
theorem d_prog_4_method_2_15 : decode prog_4_method_2_code 15 = .ok (.aload_n 0, 1) := by decide +kernel
theorem d_prog_4_method_2_16 : decode prog_4_method_2_code 16 = .ok (.getfield 23, 3) := by decide +kernel
theorem d_prog_4_method_2_19 : decode prog_4_method_2_code 19 = .ok (.iload_n 2, 1) := by decide +kernel
theorem d_prog_4_method_2_20 : decode prog_4_method_2_code 20 = .ok (.invokestatic 27, 3) := by decide +kernel
theorem d_prog_4_method_2_23 : decode prog_4_method_2_code 23 = .ok (.istore_n 3, 1) := by decide +kernel
theorem d_prog_4_method_2_24 : decode prog_4_method_2_code 24 = .ok (.iload_n 3, 1) := by decide +kernel
theorem d_prog_4_method_2_25 : decode prog_4_method_2_code 25 = .ok (.ifCond .lt 12, 3) := by decide +kernel
theorem d_prog_4_method_2_28 : decode prog_4_method_2_code 28 = .ok (.aload_n 0, 1) := by decide +kernel
theorem d_prog_4_method_2_29 : decode prog_4_method_2_code 29 = .ok (.getfield 16, 3) := by decide +kernel
theorem d_prog_4_method_2_32 : decode prog_4_method_2_code 32 = .ok (.iload_n 3, 1) := by decide +kernel
theorem d_prog_4_method_2_33 : decode prog_4_method_2_code 33 = .ok (.iaload, 1) := by decide +kernel
theorem d_prog_4_method_2_34 : decode prog_4_method_2_code 34 = .ok (.goto 4, 3) := by decide +kernel
theorem d_prog_4_method_2_38 : decode prog_4_method_2_code 38 = .ok (.ireturn, 1) := by decide +kernel
def Q_close_1x (Z : State) (o : Addr) (d : Addr) (a1 : Addr) (k1 : ClassId) (x : Int32) (b2 : Addr) (k2 : ClassId) (ea : Int32) (eb : Int32) (h0 : Heap) (n0 : Nat) (xv : Option Value) (xh : Heap) (xL : List Loc) : Prop := xv = some (.int ea) ∧ Fr n0 xL ∧ xh = h0
abbrev Lc_close_1x_0 (o : Addr) (d : Addr) (x : Int32) : Array Slot := #[.val (.ref o), .val (.ref d), .val (.int x), .val (.int (0 : Int32))]
theorem ef_close_1x (mM : MethodId) (o : Addr) (d : Addr) (a1 : Addr) (k1 : ClassId) (x : Int32) (b2 : Addr) (k2 : ClassId) (ea : Int32) (eb : Int32) : entryFrame mM #[(.ref o), (.ref d), (.int x)] 4 = mkF mM 0 #[.val (.ref o), .val (.ref d), .val (.int x), .unset] [] := by first | (simp [entryFrame, mkF, argsToLocals, Value.category]; done) | rfl
set_option maxRecDepth 65536 in
set_option maxHeartbeats 40000000 in
theorem rm_close_1x (l : Launch) (Z : State) (a0 : Array Value) (hw : ∀ d ∈ tables_1, d.before a0 Z = true) (ws : List Jvm.Cond) (o : Addr) (d : Addr) (a1 : Addr) (k1 : ClassId) (x : Int32) (b2 : Addr) (k2 : ClassId) (ea : Int32) (eb : Int32) (h0 : Heap) (n0 : Nat) (Z0 : n0 ≤ h0.size) (F_brackets_o : Fld Z h0 o "com/example/macroweave/macroweave/BracketPairs" "brackets" "Lcom/example/macroweave/macroweave/Brackets;" (.ref d)) (F_contentStarts_o : Fld Z h0 o "com/example/macroweave/macroweave/BracketPairs" "contentStarts" "[I" (.ref a1)) (F_closes_o : Fld Z h0 o "com/example/macroweave/macroweave/BracketPairs" "closes" "[I" (.ref b2)) (F_size_o : Fld Z h0 o "com/example/macroweave/macroweave/BracketPairs" "size" "I" (.int (1 : Int32))) (V_a1 : Arv Z h0 a1 k1 .int (4 : Int32) [(.int x), (.int (0 : Int32)), (.int (0 : Int32)), (.int (0 : Int32))] (.int (0 : Int32))) (V_b2 : Arv Z h0 b2 k2 .int (4 : Int32) [(.int ea), (.int eb), (.int (0 : Int32)), (.int (0 : Int32))] (.int (0 : Int32))) :
    MetFree l (⟨"com/example/macroweave/macroweave/BracketPairs", "close", "(Lcom/example/macroweave/macroweave/Brackets;I)I"⟩ : MethodName) (head1 (Jvm.Cond.code (⟨"com/example/macroweave/macroweave/BracketPairs", "close", "(Lcom/example/macroweave/macroweave/Brackets;I)I"⟩ : MethodName) prog_4_method_2_code 4 (some .int) :: ws) ({ frames := 2, cells := 0, slots := 0, locals := 34 } : Room)) (fun xa xU => xa = #[(.ref o), (.ref d), (.int x)] ∧ Z.Warmed39 xU.vm ∧ xU.heap = h0) (fun _ _ _ _ _ => True) (fun _ xU xo xU' => ∃ xv xL, xo = .returned xv ∧ Q_close_1x Z o d a1 k1 x b2 k2 ea eb h0 n0 xv xU'.heap xL ∧ FrameEnd xU xo xU' xL ({ frames := 2, cells := 0, slots := 0, locals := 34 } : Room).cells ({ frames := 2, cells := 0, slots := 0, locals := 34 } : Room).slots) := by
  refine MetFree.of_bodySF (plainFor_of_name pn_com_example_macroweave_macroweave_BracketPairs) hisR ?_
  intro pP eE sS mM argS belowS methS cC s₁ Bd hml0 hP hK
  obtain ⟨rfl, hZ, hh⟩ := hP
  have hx := Bd.exec
  have hby := Bd.bytes
  have hml : cC.maxLocals = 4 := hml0
  have hown : sS.vm.findClass "com/example/macroweave/macroweave/BracketPairs" = some mM.cls := findClass_of_methodNamed Bd.named
  have hnm := (name_of_methodNamed Bd.named Bd.method).1
  have X0 : Stand pP l eE ({ frames := 2, cells := 0, slots := 0, locals := 34 } : Room) sS mM #[(.ref o), (.ref d), (.int x)] belowS methS cC s₁ [] 0 0 := Stand.of_body Bd
  have e0 : s₁.heap = h0 := by rw [← hh, Bd.state]; rfl
  have N0 := Fr.nil n0
  have pre0 : ∀ t', Steps pP.tables eE belowS (s₁.setTop (mkF mM 0 #[.val (.ref o), .val (.ref d), .val (.int x), .unset] [])) t' → Steps pP.tables eE belowS (s₁.setTop (entryFrame mM #[(.ref o), (.ref d), (.int x)] 4)) t' := fun t' kk' => castTop (ef_close_1x mM o d a1 k1 x b2 k2 ea eb) kk'
  obtain ⟨T101, X101, e101, st101⟩ := getF X0 hx hZ hown (host := "") (Or.inl (wi hw 23 rfl)) Via.refl e0 F_brackets_o (g := (mkF mM 2 #[.val (.ref o), .val (.ref d), .val (.int x), .unset] [(.ref o), (.ref d)])) rfl rfl (hb hby d_prog_4_method_2_2)
  obtain ⟨T102, X102, e102, st102⟩ := getF X101 hx hZ hown (host := "") (Or.inl (wi hw 14 rfl)) Via.refl e101 F_contentStarts_o (g := (mkF mM 11 #[.val (.ref o), .val (.ref d), .val (.int x), .unset] [(.ref o)])) rfl rfl (hb hby d_prog_4_method_2_11)
  obtain ⟨T103, X103, e103, st103⟩ := getF X102 hx hZ hown (host := "") (Or.inl (wi hw 25 rfl)) Via.refl e102 F_size_o (g := (mkF mM 16 #[.val (.ref o), .val (.ref d), .val (.int x), .unset] [(.ref o), (.int (0 : Int32)), (.ref a1)])) rfl rfl (hb hby d_prog_4_method_2_16)
  obtain ⟨_, _, ⟨T104, L104, k104, n104⟩, -, X104, ⟨Lc104, hQ104, l104, y104, z104⟩, st104⟩ := Jvm.LawKit.callS X103 hx (y := (⟨"java/util/Arrays", "binarySearch", "([IIII)I"⟩ : MethodName)) hown (mvT hZ (wi hw 53 rfl)) (mvT hZ (wi hw 54 rfl)) (mvT hZ (wi hw 33 rfl)) (mvT hZ (wi hw 55 rfl)) (by decide) (backOf (W := 0) (rm_bs_1x l Z a0 hw [] a1 k1 x h0 n0 (by omega) V_a1) hZ (wi hw 55 rfl) (wi hw 33 rfl) (by decide) (by decide)) (g := (mkF mM 20 #[.val (.ref o), .val (.ref d), .val (.int x), .unset] [(.int x), (.int (1 : Int32)), (.int (0 : Int32)), (.ref a1)])) rfl (by rw [hml]; rfl) (argsL := [(.ref a1), (.int (0 : Int32)), (.int (1 : Int32)), (.int x)]) (rest := []) (lenOf pd_6 rfl) rfl (by show 2 * 0 + _ ≤ _; exact Nat.le_of_eq rfl) (hb hby d_prog_4_method_2_20) (fun _ _ => ⟨rfl, e103, Nat.le_of_ble_eq_true rfl, Nat.le_of_ble_eq_true rfl⟩)
  dsimp only [Pt.U, Pt.locs, Pt.cells, Pt.slots] at X104 l104 y104 z104 st104 hQ104
  subst l104 y104 z104
  obtain ⟨h104, e104⟩ : ∃ z, T104.heap = z := ⟨_, rfl⟩
  rw [e104] at hQ104
  obtain ⟨rfl, N104q, eq104⟩ := hQ104
  rw [eq104] at e104
  have N104 := Fr.app N0 N104q
  obtain ⟨T105, X105, e105, st105⟩ := getF X104 hx hZ hown (host := "") (Or.inl (wi hw 16 rfl)) Via.refl e104 F_closes_o (g := (mkF mM 29 (Lc_close_1x_0 o d x) [(.ref o)])) rfl rfl (hb hby d_prog_4_method_2_29)
  obtain ⟨cl106, Ar106, q106, S106, Ng106, Ha106, Ga106⟩ := id V_b2
  have hin106 : ¬ ((0 : Int32) < 0 ∨ cl106.slots.size ≤ ((0 : Int32)).toNatClampNeg) := inb_of S106 ⟨by decide, by decide⟩
  have hat106 : cl106.slots[((0 : Int32)).toNatClampNeg]? = some (.int ea) := Ha106.at hin106 (rfl)
  obtain ⟨fs, hr, hrun, hended, hW, hsame⟩ := X105.leave (v := some (.int ea)) (fun h => by rw [Bd.returns] at h; cases h)
  refine ⟨_, _, pre0 _ ?_, hrun, hended, _, _, rfl, ?_, ⟨_, rfl⟩, hW, hsame.mono (by decide) (by decide)⟩
  · show SS pP eE belowS s₁ (mkF mM 0 #[.val (.ref o), .val (.ref d), .val (.int x), .unset] []) _
    refine XS.aloadN X0.here hx rfl (hb hby d_prog_4_method_2_0) rfl rfl ?_
    show SS pP eE belowS s₁ (mkF mM 1 #[.val (.ref o), .val (.ref d), .val (.int x), .unset] [(.ref d)]) _
    refine XS.aloadN X0.here hx rfl (hb hby d_prog_4_method_2_1) rfl rfl ?_
    show SS pP eE belowS s₁ (mkF mM 2 #[.val (.ref o), .val (.ref d), .val (.int x), .unset] [(.ref o), (.ref d)]) _
    refine st101 _ ?_
    show SS pP eE belowS T101 (mkF mM 5 #[.val (.ref o), .val (.ref d), .val (.int x), .unset] [(.ref d), (.ref d)]) _
    refine Jvm.RoadKit.acmp (g := (mkF mM 5 #[.val (.ref o), .val (.ref d), .val (.int x), .unset] [(.ref d), (.ref d)])) X101 hx rfl rfl rfl (pc0 := 5) (pc' := 10) (same := true) rfl (hb hby d_prog_4_method_2_5) rfl (decide_eq_true rfl) (by decide) (by decide) ?_
    show SS pP eE belowS T101 (mkF mM 10 #[.val (.ref o), .val (.ref d), .val (.int x), .unset] []) _
    refine XS.aloadN X101.here hx rfl (hb hby d_prog_4_method_2_10) rfl rfl ?_
    show SS pP eE belowS T101 (mkF mM 11 #[.val (.ref o), .val (.ref d), .val (.int x), .unset] [(.ref o)]) _
    refine st102 _ ?_
    show SS pP eE belowS T102 (mkF mM 14 #[.val (.ref o), .val (.ref d), .val (.int x), .unset] [(.ref a1)]) _
    refine XS.iconst X102.here hx rfl (hb hby d_prog_4_method_2_14) ?_
    show SS pP eE belowS T102 (mkF mM 15 #[.val (.ref o), .val (.ref d), .val (.int x), .unset] [(.int (0 : Int32)), (.ref a1)]) _
    refine XS.aloadN X102.here hx rfl (hb hby d_prog_4_method_2_15) rfl rfl ?_
    show SS pP eE belowS T102 (mkF mM 16 #[.val (.ref o), .val (.ref d), .val (.int x), .unset] [(.ref o), (.int (0 : Int32)), (.ref a1)]) _
    refine st103 _ ?_
    show SS pP eE belowS T103 (mkF mM 19 #[.val (.ref o), .val (.ref d), .val (.int x), .unset] [(.int (1 : Int32)), (.int (0 : Int32)), (.ref a1)]) _
    refine XS.iloadN X103.here hx rfl (hb hby d_prog_4_method_2_19) rfl ?_
    show SS pP eE belowS T103 (mkF mM 20 #[.val (.ref o), .val (.ref d), .val (.int x), .unset] [(.int x), (.int (1 : Int32)), (.int (0 : Int32)), (.ref a1)]) _
    refine st104 _ ?_
    show SS pP eE belowS T104 (mkF mM 23 #[.val (.ref o), .val (.ref d), .val (.int x), .unset] [(.int (0 : Int32))]) _
    refine XS.istoreN X104.here hx rfl (hb hby d_prog_4_method_2_23) rfl (l' := (Lc_close_1x_0 o d x)) rfl ?_
    show SS pP eE belowS T104 (mkF mM 24 (Lc_close_1x_0 o d x) []) _
    refine XS.iloadN X104.here hx rfl (hb hby d_prog_4_method_2_24) rfl ?_
    show SS pP eE belowS T104 (mkF mM 25 (Lc_close_1x_0 o d x) [(.int (0 : Int32))]) _
    refine XS.ifNo X104.here hx rfl (hb hby d_prog_4_method_2_25) rfl ((if0 _ _).trans (flt (by decide : ¬ ((0 : Int32) < (0 : Int32)))).1) ?_
    show SS pP eE belowS T104 (mkF mM 28 (Lc_close_1x_0 o d x) []) _
    refine XS.aloadN X104.here hx rfl (hb hby d_prog_4_method_2_28) rfl rfl ?_
    show SS pP eE belowS T104 (mkF mM 29 (Lc_close_1x_0 o d x) [(.ref o)]) _
    refine st105 _ ?_
    show SS pP eE belowS T105 (mkF mM 32 (Lc_close_1x_0 o d x) [(.ref b2)]) _
    refine XS.iloadN X105.here hx rfl (hb hby d_prog_4_method_2_32) rfl ?_
    show SS pP eE belowS T105 (mkF mM 33 (Lc_close_1x_0 o d x) [(.int (0 : Int32)), (.ref b2)]) _
    refine X105.iaload hx (j := (0 : Int32)) (v := (.int ea)) (by rw [e105]; exact Ar106.1) (State.isArrayOf_alike hZ.alike Ar106.2.1) Ar106.2.2 hin106 hat106 (g := (mkF mM 33 (Lc_close_1x_0 o d x) [(.int (0 : Int32)), (.ref b2)])) rfl rfl (hb hby d_prog_4_method_2_33) _ ?_
    show SS pP eE belowS T105 (mkF mM 34 (Lc_close_1x_0 o d x) [(.int ea)]) _
    refine XS.goto X105.here hx rfl (pc0 := 34) (pc' := 38) rfl (hb hby d_prog_4_method_2_34) (by decide) (by decide) ?_
    show SS pP eE belowS T105 (mkF mM 38 (Lc_close_1x_0 o d x) [(.int ea)]) _
    exact retI X105 hx Bd.returns (hb hby d_prog_4_method_2_38) hr
  · show Q_close_1x Z o d a1 k1 x b2 k2 ea eb h0 n0 _ T105.heap _
    rw [e105]
    exact ⟨rfl, N104, rfl⟩
theorem d_jdk_65_method_59_51 : decode jdk_65_method_59_code 51 = .ok (.iload 6, 2) := by decide +kernel
theorem d_jdk_65_method_59_53 : decode jdk_65_method_59_code 53 = .ok (.iconst 1, 1) := by decide +kernel
theorem d_jdk_65_method_59_54 : decode jdk_65_method_59_code 54 = .ok (.isub, 1) := by decide +kernel
theorem d_jdk_65_method_59_55 : decode jdk_65_method_59_code 55 = .ok (.istore 5, 2) := by decide +kernel
theorem d_jdk_65_method_59_57 : decode jdk_65_method_59_code 57 = .ok (.goto 6, 3) := by decide +kernel
theorem d_jdk_65_method_59_63 : decode jdk_65_method_59_code 63 = .ok (.goto (-55), 3) := by decide +kernel
theorem d_jdk_65_method_59_66 : decode jdk_65_method_59_code 66 = .ok (.iload 4, 2) := by decide +kernel
theorem d_jdk_65_method_59_68 : decode jdk_65_method_59_code 68 = .ok (.iconst 1, 1) := by decide +kernel
theorem d_jdk_65_method_59_69 : decode jdk_65_method_59_code 69 = .ok (.iadd, 1) := by decide +kernel
theorem d_jdk_65_method_59_70 : decode jdk_65_method_59_code 70 = .ok (.ineg, 1) := by decide +kernel
theorem d_jdk_65_method_59_71 : decode jdk_65_method_59_code 71 = .ok (.ireturn, 1) := by decide +kernel
def Q_bs0_1y (Z : State) (a1 : Addr) (k1 : ClassId) (x : Int32) (y : Int32) (h0 : Heap) (n0 : Nat) (xv : Option Value) (xh : Heap) (xL : List Loc) : Prop := xv = some (.int (-1 : Int32)) ∧ Fr n0 xL ∧ xh = h0
abbrev Lc_bs0_1y_0 (a1 : Addr) (y : Int32) : Array Slot := #[.val (.ref a1), .val (.int (0 : Int32)), .val (.int (1 : Int32)), .val (.int y), .unset, .unset, .unset, .unset]
abbrev Lc_bs0_1y_1 (a1 : Addr) (y : Int32) : Array Slot := #[.val (.ref a1), .val (.int (0 : Int32)), .val (.int (1 : Int32)), .val (.int y), .val (.int (0 : Int32)), .unset, .unset, .unset]
abbrev Lc_bs0_1y_2 (a1 : Addr) (y : Int32) : Array Slot := #[.val (.ref a1), .val (.int (0 : Int32)), .val (.int (1 : Int32)), .val (.int y), .val (.int (0 : Int32)), .val (.int (0 : Int32)), .unset, .unset]
abbrev Lc_bs0_1y_3 (a1 : Addr) (y : Int32) : Array Slot := #[.val (.ref a1), .val (.int (0 : Int32)), .val (.int (1 : Int32)), .val (.int y), .val (.int (0 : Int32)), .val (.int (0 : Int32)), .val (.int (0 : Int32)), .unset]
abbrev Lc_bs0_1y_4 (a1 : Addr) (y : Int32) (x : Int32) : Array Slot := #[.val (.ref a1), .val (.int (0 : Int32)), .val (.int (1 : Int32)), .val (.int y), .val (.int (0 : Int32)), .val (.int (0 : Int32)), .val (.int (0 : Int32)), .val (.int x)]
abbrev Lc_bs0_1y_5 (a1 : Addr) (y : Int32) (x : Int32) : Array Slot := #[.val (.ref a1), .val (.int (0 : Int32)), .val (.int (1 : Int32)), .val (.int y), .val (.int (0 : Int32)), .val (.int (-1 : Int32)), .val (.int (0 : Int32)), .val (.int x)]
theorem ef_bs0_1y (mM : MethodId) (a1 : Addr) (k1 : ClassId) (x : Int32) (y : Int32) : entryFrame mM #[(.ref a1), (.int (0 : Int32)), (.int (1 : Int32)), (.int y)] 8 = mkF mM 0 #[.val (.ref a1), .val (.int (0 : Int32)), .val (.int (1 : Int32)), .val (.int y), .unset, .unset, .unset, .unset] [] := by first | (simp [entryFrame, mkF, argsToLocals, Value.category]; done) | rfl
set_option maxRecDepth 65536 in
set_option maxHeartbeats 40000000 in
theorem rm_bs0_1y (l : Launch) (Z : State) (a0 : Array Value) (hw : ∀ d ∈ tables_1, d.before a0 Z = true) (ws : List Jvm.Cond) (a1 : Addr) (k1 : ClassId) (x : Int32) (y : Int32) (h0 : Heap) (n0 : Nat) (Z0 : n0 ≤ h0.size) (V_a1 : Arv Z h0 a1 k1 .int (4 : Int32) [(.int x), (.int (0 : Int32)), (.int (0 : Int32)), (.int (0 : Int32))] (.int (0 : Int32))) (hc33 : ¬ (x < y)) (hc48 : y < x) :
    MetFree l (⟨"java/util/Arrays", "binarySearch0", "([IIII)I"⟩ : MethodName) (head1 (Jvm.Cond.code (⟨"java/util/Arrays", "binarySearch0", "([IIII)I"⟩ : MethodName) jdk_65_method_59_code 8 (some .int) :: ws) ({ frames := 0, cells := 0, slots := 0, locals := 0 } : Room)) (fun xa xU => xa = #[(.ref a1), (.int (0 : Int32)), (.int (1 : Int32)), (.int y)] ∧ Z.Warmed39 xU.vm ∧ xU.heap = h0) (fun _ _ _ _ _ => True) (fun _ xU xo xU' => ∃ xv xL, xo = .returned xv ∧ Q_bs0_1y Z a1 k1 x y h0 n0 xv xU'.heap xL ∧ FrameEnd xU xo xU' xL ({ frames := 0, cells := 0, slots := 0, locals := 0 } : Room).cells ({ frames := 0, cells := 0, slots := 0, locals := 0 } : Room).slots) := by
  refine MetFree.of_bodySF (plainFor_of_name pn_java_util_Arrays) hisR ?_
  intro pP eE sS mM argS belowS methS cC s₁ Bd hml0 hP hK
  obtain ⟨rfl, hZ, hh⟩ := hP
  have hx := Bd.exec
  have hby := Bd.bytes
  have hml : cC.maxLocals = 8 := hml0
  have hown : sS.vm.findClass "java/util/Arrays" = some mM.cls := findClass_of_methodNamed Bd.named
  have hnm := (name_of_methodNamed Bd.named Bd.method).1
  have X0 : Stand pP l eE ({ frames := 0, cells := 0, slots := 0, locals := 0 } : Room) sS mM #[(.ref a1), (.int (0 : Int32)), (.int (1 : Int32)), (.int y)] belowS methS cC s₁ [] 0 0 := Stand.of_body Bd
  have e0 : s₁.heap = h0 := by rw [← hh, Bd.state]; rfl
  have N0 := Fr.nil n0
  have pre0 : ∀ t', Steps pP.tables eE belowS (s₁.setTop (mkF mM 0 #[.val (.ref a1), .val (.int (0 : Int32)), .val (.int (1 : Int32)), .val (.int y), .unset, .unset, .unset, .unset] [])) t' → Steps pP.tables eE belowS (s₁.setTop (entryFrame mM #[(.ref a1), (.int (0 : Int32)), (.int (1 : Int32)), (.int y)] 8)) t' := fun t' kk' => castTop (ef_bs0_1y mM a1 k1 x y) kk'
  obtain ⟨cl101, Ar101, q101, S101, Ng101, Ha101, Ga101⟩ := id V_a1
  have hin101 : ¬ ((0 : Int32) < 0 ∨ cl101.slots.size ≤ ((0 : Int32)).toNatClampNeg) := inb_of S101 ⟨by decide, by decide⟩
  have hat101 : cl101.slots[((0 : Int32)).toNatClampNeg]? = some (.int x) := Ha101.at hin101 (rfl)
  obtain ⟨fs, hr, hrun, hended, hW, hsame⟩ := X0.leave (v := some (.int (-1 : Int32))) (fun h => by rw [Bd.returns] at h; cases h)
  refine ⟨_, _, pre0 _ ?_, hrun, hended, _, _, rfl, ?_, ⟨_, rfl⟩, hW, hsame.mono (by decide) (by decide)⟩
  · show SS pP eE belowS s₁ (mkF mM 0 (Lc_bs0_1y_0 a1 y) []) _
    refine XS.iloadN X0.here hx rfl (hb hby d_jdk_65_method_59_0) rfl ?_
    show SS pP eE belowS s₁ (mkF mM 1 (Lc_bs0_1y_0 a1 y) [(.int (0 : Int32))]) _
    refine XS.istore X0.here hx rfl (hb hby d_jdk_65_method_59_1) rfl (l' := (Lc_bs0_1y_1 a1 y)) rfl ?_
    show SS pP eE belowS s₁ (mkF mM 3 (Lc_bs0_1y_1 a1 y) []) _
    refine XS.iloadN X0.here hx rfl (hb hby d_jdk_65_method_59_3) rfl ?_
    show SS pP eE belowS s₁ (mkF mM 4 (Lc_bs0_1y_1 a1 y) [(.int (1 : Int32))]) _
    refine XS.iconst X0.here hx rfl (hb hby d_jdk_65_method_59_4) ?_
    show SS pP eE belowS s₁ (mkF mM 5 (Lc_bs0_1y_1 a1 y) [(.int (1 : Int32)), (.int (1 : Int32))]) _
    refine XS.isub X0.here hx rfl (hb hby d_jdk_65_method_59_5) rfl ?_
    show SS pP eE belowS s₁ (mkF mM 6 (Lc_bs0_1y_1 a1 y) [(.int (0 : Int32))]) _
    refine XS.istore X0.here hx rfl (hb hby d_jdk_65_method_59_6) rfl (l' := (Lc_bs0_1y_2 a1 y)) rfl ?_
    show SS pP eE belowS s₁ (mkF mM 8 (Lc_bs0_1y_2 a1 y) []) _
    refine XS.iload X0.here hx rfl (hb hby d_jdk_65_method_59_8) rfl ?_
    show SS pP eE belowS s₁ (mkF mM 10 (Lc_bs0_1y_2 a1 y) [(.int (0 : Int32))]) _
    refine XS.iload X0.here hx rfl (hb hby d_jdk_65_method_59_10) rfl ?_
    show SS pP eE belowS s₁ (mkF mM 12 (Lc_bs0_1y_2 a1 y) [(.int (0 : Int32)), (.int (0 : Int32))]) _
    refine XS.icmpNo X0.here hx rfl (hb hby d_jdk_65_method_59_12) rfl (flt (by decide : ¬ ((0 : Int32) < (0 : Int32)))).2.2.1 ?_
    show SS pP eE belowS s₁ (mkF mM 15 (Lc_bs0_1y_2 a1 y) []) _
    refine XS.iload X0.here hx rfl (hb hby d_jdk_65_method_59_15) rfl ?_
    show SS pP eE belowS s₁ (mkF mM 17 (Lc_bs0_1y_2 a1 y) [(.int (0 : Int32))]) _
    refine XS.iload X0.here hx rfl (hb hby d_jdk_65_method_59_17) rfl ?_
    show SS pP eE belowS s₁ (mkF mM 19 (Lc_bs0_1y_2 a1 y) [(.int (0 : Int32)), (.int (0 : Int32))]) _
    refine XS.iadd X0.here hx rfl (hb hby d_jdk_65_method_59_19) rfl ?_
    show SS pP eE belowS s₁ (mkF mM 20 (Lc_bs0_1y_2 a1 y) [(.int (0 : Int32))]) _
    refine XS.iconst X0.here hx rfl (hb hby d_jdk_65_method_59_20) ?_
    show SS pP eE belowS s₁ (mkF mM 21 (Lc_bs0_1y_2 a1 y) [(.int (1 : Int32)), (.int (0 : Int32))]) _
    refine XS.iushr X0.here hx rfl (hb hby d_jdk_65_method_59_21) rfl ?_
    show SS pP eE belowS s₁ (mkF mM 22 (Lc_bs0_1y_2 a1 y) [(.int (0 : Int32))]) _
    refine XS.istore X0.here hx rfl (hb hby d_jdk_65_method_59_22) rfl (l' := (Lc_bs0_1y_3 a1 y)) rfl ?_
    show SS pP eE belowS s₁ (mkF mM 24 (Lc_bs0_1y_3 a1 y) []) _
    refine XS.aloadN X0.here hx rfl (hb hby d_jdk_65_method_59_24) rfl rfl ?_
    show SS pP eE belowS s₁ (mkF mM 25 (Lc_bs0_1y_3 a1 y) [(.ref a1)]) _
    refine XS.iload X0.here hx rfl (hb hby d_jdk_65_method_59_25) rfl ?_
    show SS pP eE belowS s₁ (mkF mM 27 (Lc_bs0_1y_3 a1 y) [(.int (0 : Int32)), (.ref a1)]) _
    refine X0.iaload hx (j := (0 : Int32)) (v := (.int x)) (by rw [e0]; exact Ar101.1) (State.isArrayOf_alike hZ.alike Ar101.2.1) Ar101.2.2 hin101 hat101 (g := (mkF mM 27 (Lc_bs0_1y_3 a1 y) [(.int (0 : Int32)), (.ref a1)])) rfl rfl (hb hby d_jdk_65_method_59_27) _ ?_
    show SS pP eE belowS s₁ (mkF mM 28 (Lc_bs0_1y_3 a1 y) [(.int x)]) _
    refine XS.istore X0.here hx rfl (hb hby d_jdk_65_method_59_28) rfl (l' := (Lc_bs0_1y_4 a1 y x)) rfl ?_
    show SS pP eE belowS s₁ (mkF mM 30 (Lc_bs0_1y_4 a1 y x) []) _
    refine XS.iload X0.here hx rfl (hb hby d_jdk_65_method_59_30) rfl ?_
    show SS pP eE belowS s₁ (mkF mM 32 (Lc_bs0_1y_4 a1 y x) [(.int x)]) _
    refine XS.iloadN X0.here hx rfl (hb hby d_jdk_65_method_59_32) rfl ?_
    show SS pP eE belowS s₁ (mkF mM 33 (Lc_bs0_1y_4 a1 y x) [(.int y), (.int x)]) _
    refine XS.icmpYes X0.here hx rfl (pc0 := 33) (pc' := 45) rfl (hb hby d_jdk_65_method_59_33) rfl (flt hc33).2.1 (by decide) (by decide) ?_
    show SS pP eE belowS s₁ (mkF mM 45 (Lc_bs0_1y_4 a1 y x) []) _
    refine XS.iload X0.here hx rfl (hb hby d_jdk_65_method_59_45) rfl ?_
    show SS pP eE belowS s₁ (mkF mM 47 (Lc_bs0_1y_4 a1 y x) [(.int x)]) _
    refine XS.iloadN X0.here hx rfl (hb hby d_jdk_65_method_59_47) rfl ?_
    show SS pP eE belowS s₁ (mkF mM 48 (Lc_bs0_1y_4 a1 y x) [(.int y), (.int x)]) _
    refine XS.icmpNo X0.here hx rfl (hb hby d_jdk_65_method_59_48) rfl (tlt hc48).2.2.2 ?_
    show SS pP eE belowS s₁ (mkF mM 51 (Lc_bs0_1y_4 a1 y x) []) _
    refine XS.iload X0.here hx rfl (hb hby d_jdk_65_method_59_51) rfl ?_
    show SS pP eE belowS s₁ (mkF mM 53 (Lc_bs0_1y_4 a1 y x) [(.int (0 : Int32))]) _
    refine XS.iconst X0.here hx rfl (hb hby d_jdk_65_method_59_53) ?_
    show SS pP eE belowS s₁ (mkF mM 54 (Lc_bs0_1y_4 a1 y x) [(.int (1 : Int32)), (.int (0 : Int32))]) _
    refine XS.isub X0.here hx rfl (hb hby d_jdk_65_method_59_54) rfl ?_
    show SS pP eE belowS s₁ (mkF mM 55 (Lc_bs0_1y_4 a1 y x) [(.int (-1 : Int32))]) _
    refine XS.istore X0.here hx rfl (hb hby d_jdk_65_method_59_55) rfl (l' := (Lc_bs0_1y_5 a1 y x)) rfl ?_
    show SS pP eE belowS s₁ (mkF mM 57 (Lc_bs0_1y_5 a1 y x) []) _
    refine XS.goto X0.here hx rfl (pc0 := 57) (pc' := 63) rfl (hb hby d_jdk_65_method_59_57) (by decide) (by decide) ?_
    show SS pP eE belowS s₁ (mkF mM 63 (Lc_bs0_1y_5 a1 y x) []) _
    refine XS.goto X0.here hx rfl (pc0 := 63) (pc' := 8) rfl (hb hby d_jdk_65_method_59_63) (by decide) (by decide) ?_
    show SS pP eE belowS s₁ (mkF mM 8 (Lc_bs0_1y_5 a1 y x) []) _
    refine XS.iload X0.here hx rfl (hb hby d_jdk_65_method_59_8) rfl ?_
    show SS pP eE belowS s₁ (mkF mM 10 (Lc_bs0_1y_5 a1 y x) [(.int (0 : Int32))]) _
    refine XS.iload X0.here hx rfl (hb hby d_jdk_65_method_59_10) rfl ?_
    show SS pP eE belowS s₁ (mkF mM 12 (Lc_bs0_1y_5 a1 y x) [(.int (-1 : Int32)), (.int (0 : Int32))]) _
    refine XS.icmpYes X0.here hx rfl (pc0 := 12) (pc' := 66) rfl (hb hby d_jdk_65_method_59_12) rfl (tlt (by decide : (-1 : Int32) < (0 : Int32))).2.2.1 (by decide) (by decide) ?_
    show SS pP eE belowS s₁ (mkF mM 66 (Lc_bs0_1y_5 a1 y x) []) _
    refine XS.iload X0.here hx rfl (hb hby d_jdk_65_method_59_66) rfl ?_
    show SS pP eE belowS s₁ (mkF mM 68 (Lc_bs0_1y_5 a1 y x) [(.int (0 : Int32))]) _
    refine XS.iconst X0.here hx rfl (hb hby d_jdk_65_method_59_68) ?_
    show SS pP eE belowS s₁ (mkF mM 69 (Lc_bs0_1y_5 a1 y x) [(.int (1 : Int32)), (.int (0 : Int32))]) _
    refine XS.iadd X0.here hx rfl (hb hby d_jdk_65_method_59_69) rfl ?_
    show SS pP eE belowS s₁ (mkF mM 70 (Lc_bs0_1y_5 a1 y x) [(.int (1 : Int32))]) _
    refine XS.ineg X0.here hx rfl (hb hby d_jdk_65_method_59_70) rfl ?_
    show SS pP eE belowS s₁ (mkF mM 71 (Lc_bs0_1y_5 a1 y x) [(.int (-1 : Int32))]) _
    exact retI X0 hx Bd.returns (hb hby d_jdk_65_method_59_71) hr
  · show Q_bs0_1y Z a1 k1 x y h0 n0 _ s₁.heap _
    rw [e0]
    exact ⟨rfl, N0, rfl⟩

def Q_bs_1y (Z : State) (a1 : Addr) (k1 : ClassId) (x : Int32) (y : Int32) (h0 : Heap) (n0 : Nat) (xv : Option Value) (xh : Heap) (xL : List Loc) : Prop := xv = some (.int (-1 : Int32)) ∧ Fr n0 xL ∧ xh = h0
abbrev Lc_bs_1y_0 (a1 : Addr) (y : Int32) : Array Slot := #[.val (.ref a1), .val (.int (0 : Int32)), .val (.int (1 : Int32)), .val (.int y)]
theorem ef_bs_1y (mM : MethodId) (a1 : Addr) (k1 : ClassId) (x : Int32) (y : Int32) : entryFrame mM #[(.ref a1), (.int (0 : Int32)), (.int (1 : Int32)), (.int y)] 4 = mkF mM 0 #[.val (.ref a1), .val (.int (0 : Int32)), .val (.int (1 : Int32)), .val (.int y)] [] := by first | (simp [entryFrame, mkF, argsToLocals, Value.category]; done) | rfl
set_option maxRecDepth 65536 in
set_option maxHeartbeats 40000000 in
theorem rm_bs_1y (l : Launch) (Z : State) (a0 : Array Value) (hw : ∀ d ∈ tables_1, d.before a0 Z = true) (ws : List Jvm.Cond) (a1 : Addr) (k1 : ClassId) (x : Int32) (y : Int32) (h0 : Heap) (n0 : Nat) (Z0 : n0 ≤ h0.size) (V_a1 : Arv Z h0 a1 k1 .int (4 : Int32) [(.int x), (.int (0 : Int32)), (.int (0 : Int32)), (.int (0 : Int32))] (.int (0 : Int32))) (hc33_103 : ¬ (x < y)) (hc48_103 : y < x) :
    MetFree l (⟨"java/util/Arrays", "binarySearch", "([IIII)I"⟩ : MethodName) (head1 (Jvm.Cond.code (⟨"java/util/Arrays", "binarySearch", "([IIII)I"⟩ : MethodName) jdk_65_method_58_code 4 (some .int) :: ws) ({ frames := 1, cells := 0, slots := 0, locals := 19 } : Room)) (fun xa xU => xa = #[(.ref a1), (.int (0 : Int32)), (.int (1 : Int32)), (.int y)] ∧ Z.Warmed39 xU.vm ∧ xU.heap = h0) (fun _ _ _ _ _ => True) (fun _ xU xo xU' => ∃ xv xL, xo = .returned xv ∧ Q_bs_1y Z a1 k1 x y h0 n0 xv xU'.heap xL ∧ FrameEnd xU xo xU' xL ({ frames := 1, cells := 0, slots := 0, locals := 19 } : Room).cells ({ frames := 1, cells := 0, slots := 0, locals := 19 } : Room).slots) := by
  refine MetFree.of_bodySF (plainFor_of_name pn_java_util_Arrays) hisR ?_
  intro pP eE sS mM argS belowS methS cC s₁ Bd hml0 hP hK
  obtain ⟨rfl, hZ, hh⟩ := hP
  have hx := Bd.exec
  have hby := Bd.bytes
  have hml : cC.maxLocals = 4 := hml0
  have hown : sS.vm.findClass "java/util/Arrays" = some mM.cls := findClass_of_methodNamed Bd.named
  have hnm := (name_of_methodNamed Bd.named Bd.method).1
  have X0 : Stand pP l eE ({ frames := 1, cells := 0, slots := 0, locals := 19 } : Room) sS mM #[(.ref a1), (.int (0 : Int32)), (.int (1 : Int32)), (.int y)] belowS methS cC s₁ [] 0 0 := Stand.of_body Bd
  have e0 : s₁.heap = h0 := by rw [← hh, Bd.state]; rfl
  have N0 := Fr.nil n0
  have pre0 : ∀ t', Steps pP.tables eE belowS (s₁.setTop (mkF mM 0 #[.val (.ref a1), .val (.int (0 : Int32)), .val (.int (1 : Int32)), .val (.int y)] [])) t' → Steps pP.tables eE belowS (s₁.setTop (entryFrame mM #[(.ref a1), (.int (0 : Int32)), (.int (1 : Int32)), (.int y)] 4)) t' := fun t' kk' => castTop (ef_bs_1y mM a1 k1 x y) kk'
  obtain ⟨cl101, Ar101, q101, S101, Ng101, Ha101, Ga101⟩ := id V_a1
  obtain ⟨_, _, ⟨T102, L102, k102, n102⟩, -, X102, ⟨Lc102, hQ102, l102, y102, z102⟩, st102⟩ := Jvm.LawKit.callS X0 hx (y := (⟨"java/util/Arrays", "rangeCheck", "(III)V"⟩ : MethodName)) hown (mvT hZ (wi hw 56 rfl)) (mvT hZ (wi hw 57 rfl)) (mvT hZ (wi hw 33 rfl)) (mvT hZ (wi hw 58 rfl)) (by decide) (backOf (W := 0) (rm_rc1 l Z a0 hw []  h0 n0 (by omega) ) hZ (wi hw 58 rfl) (wi hw 33 rfl) (by decide) (by decide)) (g := (mkF mM 4 (Lc_bs_1y_0 a1 y) [(.int (1 : Int32)), (.int (0 : Int32)), (.int (4 : Int32))])) rfl (by rw [hml]; rfl) (argsL := [(.int (4 : Int32)), (.int (0 : Int32)), (.int (1 : Int32))]) (rest := []) (lenOf pd_7 rfl) rfl (by show 2 * 0 + _ ≤ _; exact Nat.le_of_eq rfl) (hb hby d_jdk_65_method_58_4) (fun _ _ => ⟨rfl, e0, Nat.le_of_ble_eq_true rfl, Nat.le_of_ble_eq_true rfl⟩)
  dsimp only [Pt.U, Pt.locs, Pt.cells, Pt.slots] at X102 l102 y102 z102 st102 hQ102
  subst l102 y102 z102
  obtain ⟨h102, e102⟩ : ∃ z, T102.heap = z := ⟨_, rfl⟩
  rw [e102] at hQ102
  obtain ⟨rfl, N102q, eq102⟩ := hQ102
  rw [eq102] at e102
  have N102 := Fr.app N0 N102q
  obtain ⟨_, _, ⟨T103, L103, k103, n103⟩, -, X103, ⟨Lc103, hQ103, l103, y103, z103⟩, st103⟩ := Jvm.LawKit.callS X102 hx (y := (⟨"java/util/Arrays", "binarySearch0", "([IIII)I"⟩ : MethodName)) hown (mvT hZ (wi hw 59 rfl)) (mvT hZ (wi hw 60 rfl)) (mvT hZ (wi hw 33 rfl)) (mvT hZ (wi hw 61 rfl)) (by decide) (backOf (W := 0) (rm_bs0_1y l Z a0 hw [] a1 k1 x y h0 n0 (by omega) V_a1 hc33_103 hc48_103) hZ (wi hw 61 rfl) (wi hw 33 rfl) (by decide) (by decide)) (g := (mkF mM 11 (Lc_bs_1y_0 a1 y) [(.int y), (.int (1 : Int32)), (.int (0 : Int32)), (.ref a1)])) rfl (by rw [hml]; rfl) (argsL := [(.ref a1), (.int (0 : Int32)), (.int (1 : Int32)), (.int y)]) (rest := []) (lenOf pd_6 rfl) rfl (by show 2 * 0 + _ ≤ _; exact Nat.le_of_eq rfl) (hb hby d_jdk_65_method_58_11) (fun _ _ => ⟨rfl, e102, Nat.le_of_ble_eq_true rfl, Nat.le_of_ble_eq_true rfl⟩)
  dsimp only [Pt.U, Pt.locs, Pt.cells, Pt.slots] at X103 l103 y103 z103 st103 hQ103
  subst l103 y103 z103
  obtain ⟨h103, e103⟩ : ∃ z, T103.heap = z := ⟨_, rfl⟩
  rw [e103] at hQ103
  obtain ⟨rfl, N103q, eq103⟩ := hQ103
  rw [eq103] at e103
  have N103 := Fr.app N102 N103q
  obtain ⟨fs, hr, hrun, hended, hW, hsame⟩ := X103.leave (v := some (.int (-1 : Int32))) (fun h => by rw [Bd.returns] at h; cases h)
  refine ⟨_, _, pre0 _ ?_, hrun, hended, _, _, rfl, ?_, ⟨_, rfl⟩, hW, hsame.mono (by decide) (by decide)⟩
  · show SS pP eE belowS s₁ (mkF mM 0 (Lc_bs_1y_0 a1 y) []) _
    refine XS.aloadN X0.here hx rfl (hb hby d_jdk_65_method_58_0) rfl rfl ?_
    show SS pP eE belowS s₁ (mkF mM 1 (Lc_bs_1y_0 a1 y) [(.ref a1)]) _
    refine X0.arraylength hx (by rw [e0]; exact Ar101.1) (State.isArrayOf_alike hZ.alike Ar101.2.1) (g := (mkF mM 1 (Lc_bs_1y_0 a1 y) [(.ref a1)])) rfl rfl (hb hby d_jdk_65_method_58_1) _ ?_
    rw [len_of S101 Ng101]
    show SS pP eE belowS s₁ (mkF mM 2 (Lc_bs_1y_0 a1 y) [(.int (4 : Int32))]) _
    refine XS.iloadN X0.here hx rfl (hb hby d_jdk_65_method_58_2) rfl ?_
    show SS pP eE belowS s₁ (mkF mM 3 (Lc_bs_1y_0 a1 y) [(.int (0 : Int32)), (.int (4 : Int32))]) _
    refine XS.iloadN X0.here hx rfl (hb hby d_jdk_65_method_58_3) rfl ?_
    show SS pP eE belowS s₁ (mkF mM 4 (Lc_bs_1y_0 a1 y) [(.int (1 : Int32)), (.int (0 : Int32)), (.int (4 : Int32))]) _
    refine st102 _ ?_
    show SS pP eE belowS T102 (mkF mM 7 (Lc_bs_1y_0 a1 y) []) _
    refine XS.aloadN X102.here hx rfl (hb hby d_jdk_65_method_58_7) rfl rfl ?_
    show SS pP eE belowS T102 (mkF mM 8 (Lc_bs_1y_0 a1 y) [(.ref a1)]) _
    refine XS.iloadN X102.here hx rfl (hb hby d_jdk_65_method_58_8) rfl ?_
    show SS pP eE belowS T102 (mkF mM 9 (Lc_bs_1y_0 a1 y) [(.int (0 : Int32)), (.ref a1)]) _
    refine XS.iloadN X102.here hx rfl (hb hby d_jdk_65_method_58_9) rfl ?_
    show SS pP eE belowS T102 (mkF mM 10 (Lc_bs_1y_0 a1 y) [(.int (1 : Int32)), (.int (0 : Int32)), (.ref a1)]) _
    refine XS.iloadN X102.here hx rfl (hb hby d_jdk_65_method_58_10) rfl ?_
    show SS pP eE belowS T102 (mkF mM 11 (Lc_bs_1y_0 a1 y) [(.int y), (.int (1 : Int32)), (.int (0 : Int32)), (.ref a1)]) _
    refine st103 _ ?_
    show SS pP eE belowS T103 (mkF mM 14 (Lc_bs_1y_0 a1 y) [(.int (-1 : Int32))]) _
    exact retI X103 hx Bd.returns (hb hby d_jdk_65_method_58_14) hr
  · show Q_bs_1y Z a1 k1 x y h0 n0 _ T103.heap _
    rw [e103]
    exact ⟨rfl, N103, rfl⟩
theorem d_prog_4_method_2_37 : decode prog_4_method_2_code 37 = .ok (.iconst (-1), 1) := by decide +kernel
def Q_close_1y (Z : State) (o : Addr) (d : Addr) (a1 : Addr) (k1 : ClassId) (x : Int32) (y : Int32) (b2 : Addr) (k2 : ClassId) (ea : Int32) (eb : Int32) (h0 : Heap) (n0 : Nat) (xv : Option Value) (xh : Heap) (xL : List Loc) : Prop := xv = some (.int (-1 : Int32)) ∧ Fr n0 xL ∧ xh = h0
abbrev Lc_close_1y_0 (o : Addr) (d : Addr) (y : Int32) : Array Slot := #[.val (.ref o), .val (.ref d), .val (.int y), .val (.int (-1 : Int32))]
theorem ef_close_1y (mM : MethodId) (o : Addr) (d : Addr) (a1 : Addr) (k1 : ClassId) (x : Int32) (y : Int32) (b2 : Addr) (k2 : ClassId) (ea : Int32) (eb : Int32) : entryFrame mM #[(.ref o), (.ref d), (.int y)] 4 = mkF mM 0 #[.val (.ref o), .val (.ref d), .val (.int y), .unset] [] := by first | (simp [entryFrame, mkF, argsToLocals, Value.category]; done) | rfl
set_option maxRecDepth 65536 in
set_option maxHeartbeats 40000000 in
theorem rm_close_1y (l : Launch) (Z : State) (a0 : Array Value) (hw : ∀ d ∈ tables_1, d.before a0 Z = true) (ws : List Jvm.Cond) (o : Addr) (d : Addr) (a1 : Addr) (k1 : ClassId) (x : Int32) (y : Int32) (b2 : Addr) (k2 : ClassId) (ea : Int32) (eb : Int32) (h0 : Heap) (n0 : Nat) (Z0 : n0 ≤ h0.size) (F_brackets_o : Fld Z h0 o "com/example/macroweave/macroweave/BracketPairs" "brackets" "Lcom/example/macroweave/macroweave/Brackets;" (.ref d)) (F_contentStarts_o : Fld Z h0 o "com/example/macroweave/macroweave/BracketPairs" "contentStarts" "[I" (.ref a1)) (F_closes_o : Fld Z h0 o "com/example/macroweave/macroweave/BracketPairs" "closes" "[I" (.ref b2)) (F_size_o : Fld Z h0 o "com/example/macroweave/macroweave/BracketPairs" "size" "I" (.int (1 : Int32))) (V_a1 : Arv Z h0 a1 k1 .int (4 : Int32) [(.int x), (.int (0 : Int32)), (.int (0 : Int32)), (.int (0 : Int32))] (.int (0 : Int32))) (V_b2 : Arv Z h0 b2 k2 .int (4 : Int32) [(.int ea), (.int eb), (.int (0 : Int32)), (.int (0 : Int32))] (.int (0 : Int32))) (hc33_103_104 : ¬ (x < y)) (hc48_103_104 : y < x) :
    MetFree l (⟨"com/example/macroweave/macroweave/BracketPairs", "close", "(Lcom/example/macroweave/macroweave/Brackets;I)I"⟩ : MethodName) (head1 (Jvm.Cond.code (⟨"com/example/macroweave/macroweave/BracketPairs", "close", "(Lcom/example/macroweave/macroweave/Brackets;I)I"⟩ : MethodName) prog_4_method_2_code 4 (some .int) :: ws) ({ frames := 2, cells := 0, slots := 0, locals := 34 } : Room)) (fun xa xU => xa = #[(.ref o), (.ref d), (.int y)] ∧ Z.Warmed39 xU.vm ∧ xU.heap = h0) (fun _ _ _ _ _ => True) (fun _ xU xo xU' => ∃ xv xL, xo = .returned xv ∧ Q_close_1y Z o d a1 k1 x y b2 k2 ea eb h0 n0 xv xU'.heap xL ∧ FrameEnd xU xo xU' xL ({ frames := 2, cells := 0, slots := 0, locals := 34 } : Room).cells ({ frames := 2, cells := 0, slots := 0, locals := 34 } : Room).slots) := by
  refine MetFree.of_bodySF (plainFor_of_name pn_com_example_macroweave_macroweave_BracketPairs) hisR ?_
  intro pP eE sS mM argS belowS methS cC s₁ Bd hml0 hP hK
  obtain ⟨rfl, hZ, hh⟩ := hP
  have hx := Bd.exec
  have hby := Bd.bytes
  have hml : cC.maxLocals = 4 := hml0
  have hown : sS.vm.findClass "com/example/macroweave/macroweave/BracketPairs" = some mM.cls := findClass_of_methodNamed Bd.named
  have hnm := (name_of_methodNamed Bd.named Bd.method).1
  have X0 : Stand pP l eE ({ frames := 2, cells := 0, slots := 0, locals := 34 } : Room) sS mM #[(.ref o), (.ref d), (.int y)] belowS methS cC s₁ [] 0 0 := Stand.of_body Bd
  have e0 : s₁.heap = h0 := by rw [← hh, Bd.state]; rfl
  have N0 := Fr.nil n0
  have pre0 : ∀ t', Steps pP.tables eE belowS (s₁.setTop (mkF mM 0 #[.val (.ref o), .val (.ref d), .val (.int y), .unset] [])) t' → Steps pP.tables eE belowS (s₁.setTop (entryFrame mM #[(.ref o), (.ref d), (.int y)] 4)) t' := fun t' kk' => castTop (ef_close_1y mM o d a1 k1 x y b2 k2 ea eb) kk'
  obtain ⟨T101, X101, e101, st101⟩ := getF X0 hx hZ hown (host := "") (Or.inl (wi hw 23 rfl)) Via.refl e0 F_brackets_o (g := (mkF mM 2 #[.val (.ref o), .val (.ref d), .val (.int y), .unset] [(.ref o), (.ref d)])) rfl rfl (hb hby d_prog_4_method_2_2)
  obtain ⟨T102, X102, e102, st102⟩ := getF X101 hx hZ hown (host := "") (Or.inl (wi hw 14 rfl)) Via.refl e101 F_contentStarts_o (g := (mkF mM 11 #[.val (.ref o), .val (.ref d), .val (.int y), .unset] [(.ref o)])) rfl rfl (hb hby d_prog_4_method_2_11)
  obtain ⟨T103, X103, e103, st103⟩ := getF X102 hx hZ hown (host := "") (Or.inl (wi hw 25 rfl)) Via.refl e102 F_size_o (g := (mkF mM 16 #[.val (.ref o), .val (.ref d), .val (.int y), .unset] [(.ref o), (.int (0 : Int32)), (.ref a1)])) rfl rfl (hb hby d_prog_4_method_2_16)
  obtain ⟨_, _, ⟨T104, L104, k104, n104⟩, -, X104, ⟨Lc104, hQ104, l104, y104, z104⟩, st104⟩ := Jvm.LawKit.callS X103 hx (y := (⟨"java/util/Arrays", "binarySearch", "([IIII)I"⟩ : MethodName)) hown (mvT hZ (wi hw 53 rfl)) (mvT hZ (wi hw 54 rfl)) (mvT hZ (wi hw 33 rfl)) (mvT hZ (wi hw 55 rfl)) (by decide) (backOf (W := 0) (rm_bs_1y l Z a0 hw [] a1 k1 x y h0 n0 (by omega) V_a1 hc33_103_104 hc48_103_104) hZ (wi hw 55 rfl) (wi hw 33 rfl) (by decide) (by decide)) (g := (mkF mM 20 #[.val (.ref o), .val (.ref d), .val (.int y), .unset] [(.int y), (.int (1 : Int32)), (.int (0 : Int32)), (.ref a1)])) rfl (by rw [hml]; rfl) (argsL := [(.ref a1), (.int (0 : Int32)), (.int (1 : Int32)), (.int y)]) (rest := []) (lenOf pd_6 rfl) rfl (by show 2 * 0 + _ ≤ _; exact Nat.le_of_eq rfl) (hb hby d_prog_4_method_2_20) (fun _ _ => ⟨rfl, e103, Nat.le_of_ble_eq_true rfl, Nat.le_of_ble_eq_true rfl⟩)
  dsimp only [Pt.U, Pt.locs, Pt.cells, Pt.slots] at X104 l104 y104 z104 st104 hQ104
  subst l104 y104 z104
  obtain ⟨h104, e104⟩ : ∃ z, T104.heap = z := ⟨_, rfl⟩
  rw [e104] at hQ104
  obtain ⟨rfl, N104q, eq104⟩ := hQ104
  rw [eq104] at e104
  have N104 := Fr.app N0 N104q
  obtain ⟨fs, hr, hrun, hended, hW, hsame⟩ := X104.leave (v := some (.int (-1 : Int32))) (fun h => by rw [Bd.returns] at h; cases h)
  refine ⟨_, _, pre0 _ ?_, hrun, hended, _, _, rfl, ?_, ⟨_, rfl⟩, hW, hsame.mono (by decide) (by decide)⟩
  · show SS pP eE belowS s₁ (mkF mM 0 #[.val (.ref o), .val (.ref d), .val (.int y), .unset] []) _
    refine XS.aloadN X0.here hx rfl (hb hby d_prog_4_method_2_0) rfl rfl ?_
    show SS pP eE belowS s₁ (mkF mM 1 #[.val (.ref o), .val (.ref d), .val (.int y), .unset] [(.ref d)]) _
    refine XS.aloadN X0.here hx rfl (hb hby d_prog_4_method_2_1) rfl rfl ?_
    show SS pP eE belowS s₁ (mkF mM 2 #[.val (.ref o), .val (.ref d), .val (.int y), .unset] [(.ref o), (.ref d)]) _
    refine st101 _ ?_
    show SS pP eE belowS T101 (mkF mM 5 #[.val (.ref o), .val (.ref d), .val (.int y), .unset] [(.ref d), (.ref d)]) _
    refine Jvm.RoadKit.acmp (g := (mkF mM 5 #[.val (.ref o), .val (.ref d), .val (.int y), .unset] [(.ref d), (.ref d)])) X101 hx rfl rfl rfl (pc0 := 5) (pc' := 10) (same := true) rfl (hb hby d_prog_4_method_2_5) rfl (decide_eq_true rfl) (by decide) (by decide) ?_
    show SS pP eE belowS T101 (mkF mM 10 #[.val (.ref o), .val (.ref d), .val (.int y), .unset] []) _
    refine XS.aloadN X101.here hx rfl (hb hby d_prog_4_method_2_10) rfl rfl ?_
    show SS pP eE belowS T101 (mkF mM 11 #[.val (.ref o), .val (.ref d), .val (.int y), .unset] [(.ref o)]) _
    refine st102 _ ?_
    show SS pP eE belowS T102 (mkF mM 14 #[.val (.ref o), .val (.ref d), .val (.int y), .unset] [(.ref a1)]) _
    refine XS.iconst X102.here hx rfl (hb hby d_prog_4_method_2_14) ?_
    show SS pP eE belowS T102 (mkF mM 15 #[.val (.ref o), .val (.ref d), .val (.int y), .unset] [(.int (0 : Int32)), (.ref a1)]) _
    refine XS.aloadN X102.here hx rfl (hb hby d_prog_4_method_2_15) rfl rfl ?_
    show SS pP eE belowS T102 (mkF mM 16 #[.val (.ref o), .val (.ref d), .val (.int y), .unset] [(.ref o), (.int (0 : Int32)), (.ref a1)]) _
    refine st103 _ ?_
    show SS pP eE belowS T103 (mkF mM 19 #[.val (.ref o), .val (.ref d), .val (.int y), .unset] [(.int (1 : Int32)), (.int (0 : Int32)), (.ref a1)]) _
    refine XS.iloadN X103.here hx rfl (hb hby d_prog_4_method_2_19) rfl ?_
    show SS pP eE belowS T103 (mkF mM 20 #[.val (.ref o), .val (.ref d), .val (.int y), .unset] [(.int y), (.int (1 : Int32)), (.int (0 : Int32)), (.ref a1)]) _
    refine st104 _ ?_
    show SS pP eE belowS T104 (mkF mM 23 #[.val (.ref o), .val (.ref d), .val (.int y), .unset] [(.int (-1 : Int32))]) _
    refine XS.istoreN X104.here hx rfl (hb hby d_prog_4_method_2_23) rfl (l' := (Lc_close_1y_0 o d y)) rfl ?_
    show SS pP eE belowS T104 (mkF mM 24 (Lc_close_1y_0 o d y) []) _
    refine XS.iloadN X104.here hx rfl (hb hby d_prog_4_method_2_24) rfl ?_
    show SS pP eE belowS T104 (mkF mM 25 (Lc_close_1y_0 o d y) [(.int (-1 : Int32))]) _
    refine XS.ifYes X104.here hx rfl (pc0 := 25) (pc' := 37) rfl (hb hby d_prog_4_method_2_25) rfl ((if0 _ _).trans (tlt (by decide : (-1 : Int32) < (0 : Int32))).1) (by decide) (by decide) ?_
    show SS pP eE belowS T104 (mkF mM 37 (Lc_close_1y_0 o d y) []) _
    refine XS.iconst X104.here hx rfl (hb hby d_prog_4_method_2_37) ?_
    show SS pP eE belowS T104 (mkF mM 38 (Lc_close_1y_0 o d y) [(.int (-1 : Int32))]) _
    exact retI X104 hx Bd.returns (hb hby d_prog_4_method_2_38) hr
  · show Q_close_1y Z o d a1 k1 x y b2 k2 ea eb h0 n0 _ T104.heap _
    rw [e104]
    exact ⟨rfl, N104, rfl⟩

def Q_bs0_2x (Z : State) (a1 : Addr) (k1 : ClassId) (x : Int32) (y : Int32) (h0 : Heap) (n0 : Nat) (xv : Option Value) (xh : Heap) (xL : List Loc) : Prop := xv = some (.int (0 : Int32)) ∧ Fr n0 xL ∧ xh = h0
abbrev Lc_bs0_2x_0 (a1 : Addr) (x : Int32) : Array Slot := #[.val (.ref a1), .val (.int (0 : Int32)), .val (.int (2 : Int32)), .val (.int x), .unset, .unset, .unset, .unset]
abbrev Lc_bs0_2x_1 (a1 : Addr) (x : Int32) : Array Slot := #[.val (.ref a1), .val (.int (0 : Int32)), .val (.int (2 : Int32)), .val (.int x), .val (.int (0 : Int32)), .unset, .unset, .unset]
abbrev Lc_bs0_2x_2 (a1 : Addr) (x : Int32) : Array Slot := #[.val (.ref a1), .val (.int (0 : Int32)), .val (.int (2 : Int32)), .val (.int x), .val (.int (0 : Int32)), .val (.int (1 : Int32)), .unset, .unset]
abbrev Lc_bs0_2x_3 (a1 : Addr) (x : Int32) : Array Slot := #[.val (.ref a1), .val (.int (0 : Int32)), .val (.int (2 : Int32)), .val (.int x), .val (.int (0 : Int32)), .val (.int (1 : Int32)), .val (.int (0 : Int32)), .unset]
abbrev Lc_bs0_2x_4 (a1 : Addr) (x : Int32) : Array Slot := #[.val (.ref a1), .val (.int (0 : Int32)), .val (.int (2 : Int32)), .val (.int x), .val (.int (0 : Int32)), .val (.int (1 : Int32)), .val (.int (0 : Int32)), .val (.int x)]
theorem ef_bs0_2x (mM : MethodId) (a1 : Addr) (k1 : ClassId) (x : Int32) (y : Int32) : entryFrame mM #[(.ref a1), (.int (0 : Int32)), (.int (2 : Int32)), (.int x)] 8 = mkF mM 0 #[.val (.ref a1), .val (.int (0 : Int32)), .val (.int (2 : Int32)), .val (.int x), .unset, .unset, .unset, .unset] [] := by first | (simp [entryFrame, mkF, argsToLocals, Value.category]; done) | rfl
set_option maxRecDepth 65536 in
set_option maxHeartbeats 40000000 in
theorem rm_bs0_2x (l : Launch) (Z : State) (a0 : Array Value) (hw : ∀ d ∈ tables_1, d.before a0 Z = true) (ws : List Jvm.Cond) (a1 : Addr) (k1 : ClassId) (x : Int32) (y : Int32) (h0 : Heap) (n0 : Nat) (Z0 : n0 ≤ h0.size) (V_a1 : Arv Z h0 a1 k1 .int (4 : Int32) [(.int x), (.int y), (.int (0 : Int32)), (.int (0 : Int32))] (.int (0 : Int32))) :
    MetFree l (⟨"java/util/Arrays", "binarySearch0", "([IIII)I"⟩ : MethodName) (head1 (Jvm.Cond.code (⟨"java/util/Arrays", "binarySearch0", "([IIII)I"⟩ : MethodName) jdk_65_method_59_code 8 (some .int) :: ws) ({ frames := 0, cells := 0, slots := 0, locals := 0 } : Room)) (fun xa xU => xa = #[(.ref a1), (.int (0 : Int32)), (.int (2 : Int32)), (.int x)] ∧ Z.Warmed39 xU.vm ∧ xU.heap = h0) (fun _ _ _ _ _ => True) (fun _ xU xo xU' => ∃ xv xL, xo = .returned xv ∧ Q_bs0_2x Z a1 k1 x y h0 n0 xv xU'.heap xL ∧ FrameEnd xU xo xU' xL ({ frames := 0, cells := 0, slots := 0, locals := 0 } : Room).cells ({ frames := 0, cells := 0, slots := 0, locals := 0 } : Room).slots) := by
  refine MetFree.of_bodySF (plainFor_of_name pn_java_util_Arrays) hisR ?_
  intro pP eE sS mM argS belowS methS cC s₁ Bd hml0 hP hK
  obtain ⟨rfl, hZ, hh⟩ := hP
  have hx := Bd.exec
  have hby := Bd.bytes
  have hml : cC.maxLocals = 8 := hml0
  have hown : sS.vm.findClass "java/util/Arrays" = some mM.cls := findClass_of_methodNamed Bd.named
  have hnm := (name_of_methodNamed Bd.named Bd.method).1
  have X0 : Stand pP l eE ({ frames := 0, cells := 0, slots := 0, locals := 0 } : Room) sS mM #[(.ref a1), (.int (0 : Int32)), (.int (2 : Int32)), (.int x)] belowS methS cC s₁ [] 0 0 := Stand.of_body Bd
  have e0 : s₁.heap = h0 := by rw [← hh, Bd.state]; rfl
  have N0 := Fr.nil n0
  have pre0 : ∀ t', Steps pP.tables eE belowS (s₁.setTop (mkF mM 0 #[.val (.ref a1), .val (.int (0 : Int32)), .val (.int (2 : Int32)), .val (.int x), .unset, .unset, .unset, .unset] [])) t' → Steps pP.tables eE belowS (s₁.setTop (entryFrame mM #[(.ref a1), (.int (0 : Int32)), (.int (2 : Int32)), (.int x)] 8)) t' := fun t' kk' => castTop (ef_bs0_2x mM a1 k1 x y) kk'
  obtain ⟨cl101, Ar101, q101, S101, Ng101, Ha101, Ga101⟩ := id V_a1
  have hin101 : ¬ ((0 : Int32) < 0 ∨ cl101.slots.size ≤ ((0 : Int32)).toNatClampNeg) := inb_of S101 ⟨by decide, by decide⟩
  have hat101 : cl101.slots[((0 : Int32)).toNatClampNeg]? = some (.int x) := Ha101.at hin101 (rfl)
  obtain ⟨fs, hr, hrun, hended, hW, hsame⟩ := X0.leave (v := some (.int (0 : Int32))) (fun h => by rw [Bd.returns] at h; cases h)
  refine ⟨_, _, pre0 _ ?_, hrun, hended, _, _, rfl, ?_, ⟨_, rfl⟩, hW, hsame.mono (by decide) (by decide)⟩
  · show SS pP eE belowS s₁ (mkF mM 0 (Lc_bs0_2x_0 a1 x) []) _
    refine XS.iloadN X0.here hx rfl (hb hby d_jdk_65_method_59_0) rfl ?_
    show SS pP eE belowS s₁ (mkF mM 1 (Lc_bs0_2x_0 a1 x) [(.int (0 : Int32))]) _
    refine XS.istore X0.here hx rfl (hb hby d_jdk_65_method_59_1) rfl (l' := (Lc_bs0_2x_1 a1 x)) rfl ?_
    show SS pP eE belowS s₁ (mkF mM 3 (Lc_bs0_2x_1 a1 x) []) _
    refine XS.iloadN X0.here hx rfl (hb hby d_jdk_65_method_59_3) rfl ?_
    show SS pP eE belowS s₁ (mkF mM 4 (Lc_bs0_2x_1 a1 x) [(.int (2 : Int32))]) _
    refine XS.iconst X0.here hx rfl (hb hby d_jdk_65_method_59_4) ?_
    show SS pP eE belowS s₁ (mkF mM 5 (Lc_bs0_2x_1 a1 x) [(.int (1 : Int32)), (.int (2 : Int32))]) _
    refine XS.isub X0.here hx rfl (hb hby d_jdk_65_method_59_5) rfl ?_
    show SS pP eE belowS s₁ (mkF mM 6 (Lc_bs0_2x_1 a1 x) [(.int (1 : Int32))]) _
    refine XS.istore X0.here hx rfl (hb hby d_jdk_65_method_59_6) rfl (l' := (Lc_bs0_2x_2 a1 x)) rfl ?_
    show SS pP eE belowS s₁ (mkF mM 8 (Lc_bs0_2x_2 a1 x) []) _
    refine XS.iload X0.here hx rfl (hb hby d_jdk_65_method_59_8) rfl ?_
    show SS pP eE belowS s₁ (mkF mM 10 (Lc_bs0_2x_2 a1 x) [(.int (0 : Int32))]) _
    refine XS.iload X0.here hx rfl (hb hby d_jdk_65_method_59_10) rfl ?_
    show SS pP eE belowS s₁ (mkF mM 12 (Lc_bs0_2x_2 a1 x) [(.int (1 : Int32)), (.int (0 : Int32))]) _
    refine XS.icmpNo X0.here hx rfl (hb hby d_jdk_65_method_59_12) rfl (flt (by decide : ¬ ((1 : Int32) < (0 : Int32)))).2.2.1 ?_
    show SS pP eE belowS s₁ (mkF mM 15 (Lc_bs0_2x_2 a1 x) []) _
    refine XS.iload X0.here hx rfl (hb hby d_jdk_65_method_59_15) rfl ?_
    show SS pP eE belowS s₁ (mkF mM 17 (Lc_bs0_2x_2 a1 x) [(.int (0 : Int32))]) _
    refine XS.iload X0.here hx rfl (hb hby d_jdk_65_method_59_17) rfl ?_
    show SS pP eE belowS s₁ (mkF mM 19 (Lc_bs0_2x_2 a1 x) [(.int (1 : Int32)), (.int (0 : Int32))]) _
    refine XS.iadd X0.here hx rfl (hb hby d_jdk_65_method_59_19) rfl ?_
    show SS pP eE belowS s₁ (mkF mM 20 (Lc_bs0_2x_2 a1 x) [(.int (1 : Int32))]) _
    refine XS.iconst X0.here hx rfl (hb hby d_jdk_65_method_59_20) ?_
    show SS pP eE belowS s₁ (mkF mM 21 (Lc_bs0_2x_2 a1 x) [(.int (1 : Int32)), (.int (1 : Int32))]) _
    refine XS.iushr X0.here hx rfl (hb hby d_jdk_65_method_59_21) rfl ?_
    show SS pP eE belowS s₁ (mkF mM 22 (Lc_bs0_2x_2 a1 x) [(.int (0 : Int32))]) _
    refine XS.istore X0.here hx rfl (hb hby d_jdk_65_method_59_22) rfl (l' := (Lc_bs0_2x_3 a1 x)) rfl ?_
    show SS pP eE belowS s₁ (mkF mM 24 (Lc_bs0_2x_3 a1 x) []) _
    refine XS.aloadN X0.here hx rfl (hb hby d_jdk_65_method_59_24) rfl rfl ?_
    show SS pP eE belowS s₁ (mkF mM 25 (Lc_bs0_2x_3 a1 x) [(.ref a1)]) _
    refine XS.iload X0.here hx rfl (hb hby d_jdk_65_method_59_25) rfl ?_
    show SS pP eE belowS s₁ (mkF mM 27 (Lc_bs0_2x_3 a1 x) [(.int (0 : Int32)), (.ref a1)]) _
    refine X0.iaload hx (j := (0 : Int32)) (v := (.int x)) (by rw [e0]; exact Ar101.1) (State.isArrayOf_alike hZ.alike Ar101.2.1) Ar101.2.2 hin101 hat101 (g := (mkF mM 27 (Lc_bs0_2x_3 a1 x) [(.int (0 : Int32)), (.ref a1)])) rfl rfl (hb hby d_jdk_65_method_59_27) _ ?_
    show SS pP eE belowS s₁ (mkF mM 28 (Lc_bs0_2x_3 a1 x) [(.int x)]) _
    refine XS.istore X0.here hx rfl (hb hby d_jdk_65_method_59_28) rfl (l' := (Lc_bs0_2x_4 a1 x)) rfl ?_
    show SS pP eE belowS s₁ (mkF mM 30 (Lc_bs0_2x_4 a1 x) []) _
    refine XS.iload X0.here hx rfl (hb hby d_jdk_65_method_59_30) rfl ?_
    show SS pP eE belowS s₁ (mkF mM 32 (Lc_bs0_2x_4 a1 x) [(.int x)]) _
    refine XS.iloadN X0.here hx rfl (hb hby d_jdk_65_method_59_32) rfl ?_
    show SS pP eE belowS s₁ (mkF mM 33 (Lc_bs0_2x_4 a1 x) [(.int x), (.int x)]) _
    refine XS.icmpYes X0.here hx rfl (pc0 := 33) (pc' := 45) rfl (hb hby d_jdk_65_method_59_33) rfl (flt (Int32.lt_irrefl : ¬ (x < x))).2.1 (by decide) (by decide) ?_
    show SS pP eE belowS s₁ (mkF mM 45 (Lc_bs0_2x_4 a1 x) []) _
    refine XS.iload X0.here hx rfl (hb hby d_jdk_65_method_59_45) rfl ?_
    show SS pP eE belowS s₁ (mkF mM 47 (Lc_bs0_2x_4 a1 x) [(.int x)]) _
    refine XS.iloadN X0.here hx rfl (hb hby d_jdk_65_method_59_47) rfl ?_
    show SS pP eE belowS s₁ (mkF mM 48 (Lc_bs0_2x_4 a1 x) [(.int x), (.int x)]) _
    refine XS.icmpYes X0.here hx rfl (pc0 := 48) (pc' := 60) rfl (hb hby d_jdk_65_method_59_48) rfl (flt (Int32.lt_irrefl : ¬ (x < x))).2.2.2 (by decide) (by decide) ?_
    show SS pP eE belowS s₁ (mkF mM 60 (Lc_bs0_2x_4 a1 x) []) _
    refine XS.iload X0.here hx rfl (hb hby d_jdk_65_method_59_60) rfl ?_
    show SS pP eE belowS s₁ (mkF mM 62 (Lc_bs0_2x_4 a1 x) [(.int (0 : Int32))]) _
    exact retI X0 hx Bd.returns (hb hby d_jdk_65_method_59_62) hr
  · show Q_bs0_2x Z a1 k1 x y h0 n0 _ s₁.heap _
    rw [e0]
    exact ⟨rfl, N0, rfl⟩

def Q_bs_2x (Z : State) (a1 : Addr) (k1 : ClassId) (x : Int32) (y : Int32) (h0 : Heap) (n0 : Nat) (xv : Option Value) (xh : Heap) (xL : List Loc) : Prop := xv = some (.int (0 : Int32)) ∧ Fr n0 xL ∧ xh = h0
abbrev Lc_bs_2x_0 (a1 : Addr) (x : Int32) : Array Slot := #[.val (.ref a1), .val (.int (0 : Int32)), .val (.int (2 : Int32)), .val (.int x)]
theorem ef_bs_2x (mM : MethodId) (a1 : Addr) (k1 : ClassId) (x : Int32) (y : Int32) : entryFrame mM #[(.ref a1), (.int (0 : Int32)), (.int (2 : Int32)), (.int x)] 4 = mkF mM 0 #[.val (.ref a1), .val (.int (0 : Int32)), .val (.int (2 : Int32)), .val (.int x)] [] := by first | (simp [entryFrame, mkF, argsToLocals, Value.category]; done) | rfl
set_option maxRecDepth 65536 in
set_option maxHeartbeats 40000000 in
theorem rm_bs_2x (l : Launch) (Z : State) (a0 : Array Value) (hw : ∀ d ∈ tables_1, d.before a0 Z = true) (ws : List Jvm.Cond) (a1 : Addr) (k1 : ClassId) (x : Int32) (y : Int32) (h0 : Heap) (n0 : Nat) (Z0 : n0 ≤ h0.size) (V_a1 : Arv Z h0 a1 k1 .int (4 : Int32) [(.int x), (.int y), (.int (0 : Int32)), (.int (0 : Int32))] (.int (0 : Int32))) :
    MetFree l (⟨"java/util/Arrays", "binarySearch", "([IIII)I"⟩ : MethodName) (head1 (Jvm.Cond.code (⟨"java/util/Arrays", "binarySearch", "([IIII)I"⟩ : MethodName) jdk_65_method_58_code 4 (some .int) :: ws) ({ frames := 1, cells := 0, slots := 0, locals := 19 } : Room)) (fun xa xU => xa = #[(.ref a1), (.int (0 : Int32)), (.int (2 : Int32)), (.int x)] ∧ Z.Warmed39 xU.vm ∧ xU.heap = h0) (fun _ _ _ _ _ => True) (fun _ xU xo xU' => ∃ xv xL, xo = .returned xv ∧ Q_bs_2x Z a1 k1 x y h0 n0 xv xU'.heap xL ∧ FrameEnd xU xo xU' xL ({ frames := 1, cells := 0, slots := 0, locals := 19 } : Room).cells ({ frames := 1, cells := 0, slots := 0, locals := 19 } : Room).slots) := by
  refine MetFree.of_bodySF (plainFor_of_name pn_java_util_Arrays) hisR ?_
  intro pP eE sS mM argS belowS methS cC s₁ Bd hml0 hP hK
  obtain ⟨rfl, hZ, hh⟩ := hP
  have hx := Bd.exec
  have hby := Bd.bytes
  have hml : cC.maxLocals = 4 := hml0
  have hown : sS.vm.findClass "java/util/Arrays" = some mM.cls := findClass_of_methodNamed Bd.named
  have hnm := (name_of_methodNamed Bd.named Bd.method).1
  have X0 : Stand pP l eE ({ frames := 1, cells := 0, slots := 0, locals := 19 } : Room) sS mM #[(.ref a1), (.int (0 : Int32)), (.int (2 : Int32)), (.int x)] belowS methS cC s₁ [] 0 0 := Stand.of_body Bd
  have e0 : s₁.heap = h0 := by rw [← hh, Bd.state]; rfl
  have N0 := Fr.nil n0
  have pre0 : ∀ t', Steps pP.tables eE belowS (s₁.setTop (mkF mM 0 #[.val (.ref a1), .val (.int (0 : Int32)), .val (.int (2 : Int32)), .val (.int x)] [])) t' → Steps pP.tables eE belowS (s₁.setTop (entryFrame mM #[(.ref a1), (.int (0 : Int32)), (.int (2 : Int32)), (.int x)] 4)) t' := fun t' kk' => castTop (ef_bs_2x mM a1 k1 x y) kk'
  obtain ⟨cl101, Ar101, q101, S101, Ng101, Ha101, Ga101⟩ := id V_a1
  obtain ⟨_, _, ⟨T102, L102, k102, n102⟩, -, X102, ⟨Lc102, hQ102, l102, y102, z102⟩, st102⟩ := Jvm.LawKit.callS X0 hx (y := (⟨"java/util/Arrays", "rangeCheck", "(III)V"⟩ : MethodName)) hown (mvT hZ (wi hw 56 rfl)) (mvT hZ (wi hw 57 rfl)) (mvT hZ (wi hw 33 rfl)) (mvT hZ (wi hw 58 rfl)) (by decide) (backOf (W := 0) (rm_rc2 l Z a0 hw []  h0 n0 (by omega) ) hZ (wi hw 58 rfl) (wi hw 33 rfl) (by decide) (by decide)) (g := (mkF mM 4 (Lc_bs_2x_0 a1 x) [(.int (2 : Int32)), (.int (0 : Int32)), (.int (4 : Int32))])) rfl (by rw [hml]; rfl) (argsL := [(.int (4 : Int32)), (.int (0 : Int32)), (.int (2 : Int32))]) (rest := []) (lenOf pd_7 rfl) rfl (by show 2 * 0 + _ ≤ _; exact Nat.le_of_eq rfl) (hb hby d_jdk_65_method_58_4) (fun _ _ => ⟨rfl, e0, Nat.le_of_ble_eq_true rfl, Nat.le_of_ble_eq_true rfl⟩)
  dsimp only [Pt.U, Pt.locs, Pt.cells, Pt.slots] at X102 l102 y102 z102 st102 hQ102
  subst l102 y102 z102
  obtain ⟨h102, e102⟩ : ∃ z, T102.heap = z := ⟨_, rfl⟩
  rw [e102] at hQ102
  obtain ⟨rfl, N102q, eq102⟩ := hQ102
  rw [eq102] at e102
  have N102 := Fr.app N0 N102q
  obtain ⟨_, _, ⟨T103, L103, k103, n103⟩, -, X103, ⟨Lc103, hQ103, l103, y103, z103⟩, st103⟩ := Jvm.LawKit.callS X102 hx (y := (⟨"java/util/Arrays", "binarySearch0", "([IIII)I"⟩ : MethodName)) hown (mvT hZ (wi hw 59 rfl)) (mvT hZ (wi hw 60 rfl)) (mvT hZ (wi hw 33 rfl)) (mvT hZ (wi hw 61 rfl)) (by decide) (backOf (W := 0) (rm_bs0_2x l Z a0 hw [] a1 k1 x y h0 n0 (by omega) V_a1) hZ (wi hw 61 rfl) (wi hw 33 rfl) (by decide) (by decide)) (g := (mkF mM 11 (Lc_bs_2x_0 a1 x) [(.int x), (.int (2 : Int32)), (.int (0 : Int32)), (.ref a1)])) rfl (by rw [hml]; rfl) (argsL := [(.ref a1), (.int (0 : Int32)), (.int (2 : Int32)), (.int x)]) (rest := []) (lenOf pd_6 rfl) rfl (by show 2 * 0 + _ ≤ _; exact Nat.le_of_eq rfl) (hb hby d_jdk_65_method_58_11) (fun _ _ => ⟨rfl, e102, Nat.le_of_ble_eq_true rfl, Nat.le_of_ble_eq_true rfl⟩)
  dsimp only [Pt.U, Pt.locs, Pt.cells, Pt.slots] at X103 l103 y103 z103 st103 hQ103
  subst l103 y103 z103
  obtain ⟨h103, e103⟩ : ∃ z, T103.heap = z := ⟨_, rfl⟩
  rw [e103] at hQ103
  obtain ⟨rfl, N103q, eq103⟩ := hQ103
  rw [eq103] at e103
  have N103 := Fr.app N102 N103q
  obtain ⟨fs, hr, hrun, hended, hW, hsame⟩ := X103.leave (v := some (.int (0 : Int32))) (fun h => by rw [Bd.returns] at h; cases h)
  refine ⟨_, _, pre0 _ ?_, hrun, hended, _, _, rfl, ?_, ⟨_, rfl⟩, hW, hsame.mono (by decide) (by decide)⟩
  · show SS pP eE belowS s₁ (mkF mM 0 (Lc_bs_2x_0 a1 x) []) _
    refine XS.aloadN X0.here hx rfl (hb hby d_jdk_65_method_58_0) rfl rfl ?_
    show SS pP eE belowS s₁ (mkF mM 1 (Lc_bs_2x_0 a1 x) [(.ref a1)]) _
    refine X0.arraylength hx (by rw [e0]; exact Ar101.1) (State.isArrayOf_alike hZ.alike Ar101.2.1) (g := (mkF mM 1 (Lc_bs_2x_0 a1 x) [(.ref a1)])) rfl rfl (hb hby d_jdk_65_method_58_1) _ ?_
    rw [len_of S101 Ng101]
    show SS pP eE belowS s₁ (mkF mM 2 (Lc_bs_2x_0 a1 x) [(.int (4 : Int32))]) _
    refine XS.iloadN X0.here hx rfl (hb hby d_jdk_65_method_58_2) rfl ?_
    show SS pP eE belowS s₁ (mkF mM 3 (Lc_bs_2x_0 a1 x) [(.int (0 : Int32)), (.int (4 : Int32))]) _
    refine XS.iloadN X0.here hx rfl (hb hby d_jdk_65_method_58_3) rfl ?_
    show SS pP eE belowS s₁ (mkF mM 4 (Lc_bs_2x_0 a1 x) [(.int (2 : Int32)), (.int (0 : Int32)), (.int (4 : Int32))]) _
    refine st102 _ ?_
    show SS pP eE belowS T102 (mkF mM 7 (Lc_bs_2x_0 a1 x) []) _
    refine XS.aloadN X102.here hx rfl (hb hby d_jdk_65_method_58_7) rfl rfl ?_
    show SS pP eE belowS T102 (mkF mM 8 (Lc_bs_2x_0 a1 x) [(.ref a1)]) _
    refine XS.iloadN X102.here hx rfl (hb hby d_jdk_65_method_58_8) rfl ?_
    show SS pP eE belowS T102 (mkF mM 9 (Lc_bs_2x_0 a1 x) [(.int (0 : Int32)), (.ref a1)]) _
    refine XS.iloadN X102.here hx rfl (hb hby d_jdk_65_method_58_9) rfl ?_
    show SS pP eE belowS T102 (mkF mM 10 (Lc_bs_2x_0 a1 x) [(.int (2 : Int32)), (.int (0 : Int32)), (.ref a1)]) _
    refine XS.iloadN X102.here hx rfl (hb hby d_jdk_65_method_58_10) rfl ?_
    show SS pP eE belowS T102 (mkF mM 11 (Lc_bs_2x_0 a1 x) [(.int x), (.int (2 : Int32)), (.int (0 : Int32)), (.ref a1)]) _
    refine st103 _ ?_
    show SS pP eE belowS T103 (mkF mM 14 (Lc_bs_2x_0 a1 x) [(.int (0 : Int32))]) _
    exact retI X103 hx Bd.returns (hb hby d_jdk_65_method_58_14) hr
  · show Q_bs_2x Z a1 k1 x y h0 n0 _ T103.heap _
    rw [e103]
    exact ⟨rfl, N103, rfl⟩

def Q_close_2x (Z : State) (o : Addr) (d : Addr) (a1 : Addr) (k1 : ClassId) (x : Int32) (y : Int32) (b2 : Addr) (k2 : ClassId) (ea : Int32) (eb : Int32) (h0 : Heap) (n0 : Nat) (xv : Option Value) (xh : Heap) (xL : List Loc) : Prop := xv = some (.int ea) ∧ Fr n0 xL ∧ xh = h0
abbrev Lc_close_2x_0 (o : Addr) (d : Addr) (x : Int32) : Array Slot := #[.val (.ref o), .val (.ref d), .val (.int x), .val (.int (0 : Int32))]
theorem ef_close_2x (mM : MethodId) (o : Addr) (d : Addr) (a1 : Addr) (k1 : ClassId) (x : Int32) (y : Int32) (b2 : Addr) (k2 : ClassId) (ea : Int32) (eb : Int32) : entryFrame mM #[(.ref o), (.ref d), (.int x)] 4 = mkF mM 0 #[.val (.ref o), .val (.ref d), .val (.int x), .unset] [] := by first | (simp [entryFrame, mkF, argsToLocals, Value.category]; done) | rfl
set_option maxRecDepth 65536 in
set_option maxHeartbeats 40000000 in
theorem rm_close_2x (l : Launch) (Z : State) (a0 : Array Value) (hw : ∀ d ∈ tables_1, d.before a0 Z = true) (ws : List Jvm.Cond) (o : Addr) (d : Addr) (a1 : Addr) (k1 : ClassId) (x : Int32) (y : Int32) (b2 : Addr) (k2 : ClassId) (ea : Int32) (eb : Int32) (h0 : Heap) (n0 : Nat) (Z0 : n0 ≤ h0.size) (F_brackets_o : Fld Z h0 o "com/example/macroweave/macroweave/BracketPairs" "brackets" "Lcom/example/macroweave/macroweave/Brackets;" (.ref d)) (F_contentStarts_o : Fld Z h0 o "com/example/macroweave/macroweave/BracketPairs" "contentStarts" "[I" (.ref a1)) (F_closes_o : Fld Z h0 o "com/example/macroweave/macroweave/BracketPairs" "closes" "[I" (.ref b2)) (F_size_o : Fld Z h0 o "com/example/macroweave/macroweave/BracketPairs" "size" "I" (.int (2 : Int32))) (V_a1 : Arv Z h0 a1 k1 .int (4 : Int32) [(.int x), (.int y), (.int (0 : Int32)), (.int (0 : Int32))] (.int (0 : Int32))) (V_b2 : Arv Z h0 b2 k2 .int (4 : Int32) [(.int ea), (.int eb), (.int (0 : Int32)), (.int (0 : Int32))] (.int (0 : Int32))) :
    MetFree l (⟨"com/example/macroweave/macroweave/BracketPairs", "close", "(Lcom/example/macroweave/macroweave/Brackets;I)I"⟩ : MethodName) (head1 (Jvm.Cond.code (⟨"com/example/macroweave/macroweave/BracketPairs", "close", "(Lcom/example/macroweave/macroweave/Brackets;I)I"⟩ : MethodName) prog_4_method_2_code 4 (some .int) :: ws) ({ frames := 2, cells := 0, slots := 0, locals := 34 } : Room)) (fun xa xU => xa = #[(.ref o), (.ref d), (.int x)] ∧ Z.Warmed39 xU.vm ∧ xU.heap = h0) (fun _ _ _ _ _ => True) (fun _ xU xo xU' => ∃ xv xL, xo = .returned xv ∧ Q_close_2x Z o d a1 k1 x y b2 k2 ea eb h0 n0 xv xU'.heap xL ∧ FrameEnd xU xo xU' xL ({ frames := 2, cells := 0, slots := 0, locals := 34 } : Room).cells ({ frames := 2, cells := 0, slots := 0, locals := 34 } : Room).slots) := by
  refine MetFree.of_bodySF (plainFor_of_name pn_com_example_macroweave_macroweave_BracketPairs) hisR ?_
  intro pP eE sS mM argS belowS methS cC s₁ Bd hml0 hP hK
  obtain ⟨rfl, hZ, hh⟩ := hP
  have hx := Bd.exec
  have hby := Bd.bytes
  have hml : cC.maxLocals = 4 := hml0
  have hown : sS.vm.findClass "com/example/macroweave/macroweave/BracketPairs" = some mM.cls := findClass_of_methodNamed Bd.named
  have hnm := (name_of_methodNamed Bd.named Bd.method).1
  have X0 : Stand pP l eE ({ frames := 2, cells := 0, slots := 0, locals := 34 } : Room) sS mM #[(.ref o), (.ref d), (.int x)] belowS methS cC s₁ [] 0 0 := Stand.of_body Bd
  have e0 : s₁.heap = h0 := by rw [← hh, Bd.state]; rfl
  have N0 := Fr.nil n0
  have pre0 : ∀ t', Steps pP.tables eE belowS (s₁.setTop (mkF mM 0 #[.val (.ref o), .val (.ref d), .val (.int x), .unset] [])) t' → Steps pP.tables eE belowS (s₁.setTop (entryFrame mM #[(.ref o), (.ref d), (.int x)] 4)) t' := fun t' kk' => castTop (ef_close_2x mM o d a1 k1 x y b2 k2 ea eb) kk'
  obtain ⟨T101, X101, e101, st101⟩ := getF X0 hx hZ hown (host := "") (Or.inl (wi hw 23 rfl)) Via.refl e0 F_brackets_o (g := (mkF mM 2 #[.val (.ref o), .val (.ref d), .val (.int x), .unset] [(.ref o), (.ref d)])) rfl rfl (hb hby d_prog_4_method_2_2)
  obtain ⟨T102, X102, e102, st102⟩ := getF X101 hx hZ hown (host := "") (Or.inl (wi hw 14 rfl)) Via.refl e101 F_contentStarts_o (g := (mkF mM 11 #[.val (.ref o), .val (.ref d), .val (.int x), .unset] [(.ref o)])) rfl rfl (hb hby d_prog_4_method_2_11)
  obtain ⟨T103, X103, e103, st103⟩ := getF X102 hx hZ hown (host := "") (Or.inl (wi hw 25 rfl)) Via.refl e102 F_size_o (g := (mkF mM 16 #[.val (.ref o), .val (.ref d), .val (.int x), .unset] [(.ref o), (.int (0 : Int32)), (.ref a1)])) rfl rfl (hb hby d_prog_4_method_2_16)
  obtain ⟨_, _, ⟨T104, L104, k104, n104⟩, -, X104, ⟨Lc104, hQ104, l104, y104, z104⟩, st104⟩ := Jvm.LawKit.callS X103 hx (y := (⟨"java/util/Arrays", "binarySearch", "([IIII)I"⟩ : MethodName)) hown (mvT hZ (wi hw 53 rfl)) (mvT hZ (wi hw 54 rfl)) (mvT hZ (wi hw 33 rfl)) (mvT hZ (wi hw 55 rfl)) (by decide) (backOf (W := 0) (rm_bs_2x l Z a0 hw [] a1 k1 x y h0 n0 (by omega) V_a1) hZ (wi hw 55 rfl) (wi hw 33 rfl) (by decide) (by decide)) (g := (mkF mM 20 #[.val (.ref o), .val (.ref d), .val (.int x), .unset] [(.int x), (.int (2 : Int32)), (.int (0 : Int32)), (.ref a1)])) rfl (by rw [hml]; rfl) (argsL := [(.ref a1), (.int (0 : Int32)), (.int (2 : Int32)), (.int x)]) (rest := []) (lenOf pd_6 rfl) rfl (by show 2 * 0 + _ ≤ _; exact Nat.le_of_eq rfl) (hb hby d_prog_4_method_2_20) (fun _ _ => ⟨rfl, e103, Nat.le_of_ble_eq_true rfl, Nat.le_of_ble_eq_true rfl⟩)
  dsimp only [Pt.U, Pt.locs, Pt.cells, Pt.slots] at X104 l104 y104 z104 st104 hQ104
  subst l104 y104 z104
  obtain ⟨h104, e104⟩ : ∃ z, T104.heap = z := ⟨_, rfl⟩
  rw [e104] at hQ104
  obtain ⟨rfl, N104q, eq104⟩ := hQ104
  rw [eq104] at e104
  have N104 := Fr.app N0 N104q
  obtain ⟨T105, X105, e105, st105⟩ := getF X104 hx hZ hown (host := "") (Or.inl (wi hw 16 rfl)) Via.refl e104 F_closes_o (g := (mkF mM 29 (Lc_close_2x_0 o d x) [(.ref o)])) rfl rfl (hb hby d_prog_4_method_2_29)
  obtain ⟨cl106, Ar106, q106, S106, Ng106, Ha106, Ga106⟩ := id V_b2
  have hin106 : ¬ ((0 : Int32) < 0 ∨ cl106.slots.size ≤ ((0 : Int32)).toNatClampNeg) := inb_of S106 ⟨by decide, by decide⟩
  have hat106 : cl106.slots[((0 : Int32)).toNatClampNeg]? = some (.int ea) := Ha106.at hin106 (rfl)
  obtain ⟨fs, hr, hrun, hended, hW, hsame⟩ := X105.leave (v := some (.int ea)) (fun h => by rw [Bd.returns] at h; cases h)
  refine ⟨_, _, pre0 _ ?_, hrun, hended, _, _, rfl, ?_, ⟨_, rfl⟩, hW, hsame.mono (by decide) (by decide)⟩
  · show SS pP eE belowS s₁ (mkF mM 0 #[.val (.ref o), .val (.ref d), .val (.int x), .unset] []) _
    refine XS.aloadN X0.here hx rfl (hb hby d_prog_4_method_2_0) rfl rfl ?_
    show SS pP eE belowS s₁ (mkF mM 1 #[.val (.ref o), .val (.ref d), .val (.int x), .unset] [(.ref d)]) _
    refine XS.aloadN X0.here hx rfl (hb hby d_prog_4_method_2_1) rfl rfl ?_
    show SS pP eE belowS s₁ (mkF mM 2 #[.val (.ref o), .val (.ref d), .val (.int x), .unset] [(.ref o), (.ref d)]) _
    refine st101 _ ?_
    show SS pP eE belowS T101 (mkF mM 5 #[.val (.ref o), .val (.ref d), .val (.int x), .unset] [(.ref d), (.ref d)]) _
    refine Jvm.RoadKit.acmp (g := (mkF mM 5 #[.val (.ref o), .val (.ref d), .val (.int x), .unset] [(.ref d), (.ref d)])) X101 hx rfl rfl rfl (pc0 := 5) (pc' := 10) (same := true) rfl (hb hby d_prog_4_method_2_5) rfl (decide_eq_true rfl) (by decide) (by decide) ?_
    show SS pP eE belowS T101 (mkF mM 10 #[.val (.ref o), .val (.ref d), .val (.int x), .unset] []) _
    refine XS.aloadN X101.here hx rfl (hb hby d_prog_4_method_2_10) rfl rfl ?_
    show SS pP eE belowS T101 (mkF mM 11 #[.val (.ref o), .val (.ref d), .val (.int x), .unset] [(.ref o)]) _
    refine st102 _ ?_
    show SS pP eE belowS T102 (mkF mM 14 #[.val (.ref o), .val (.ref d), .val (.int x), .unset] [(.ref a1)]) _
    refine XS.iconst X102.here hx rfl (hb hby d_prog_4_method_2_14) ?_
    show SS pP eE belowS T102 (mkF mM 15 #[.val (.ref o), .val (.ref d), .val (.int x), .unset] [(.int (0 : Int32)), (.ref a1)]) _
    refine XS.aloadN X102.here hx rfl (hb hby d_prog_4_method_2_15) rfl rfl ?_
    show SS pP eE belowS T102 (mkF mM 16 #[.val (.ref o), .val (.ref d), .val (.int x), .unset] [(.ref o), (.int (0 : Int32)), (.ref a1)]) _
    refine st103 _ ?_
    show SS pP eE belowS T103 (mkF mM 19 #[.val (.ref o), .val (.ref d), .val (.int x), .unset] [(.int (2 : Int32)), (.int (0 : Int32)), (.ref a1)]) _
    refine XS.iloadN X103.here hx rfl (hb hby d_prog_4_method_2_19) rfl ?_
    show SS pP eE belowS T103 (mkF mM 20 #[.val (.ref o), .val (.ref d), .val (.int x), .unset] [(.int x), (.int (2 : Int32)), (.int (0 : Int32)), (.ref a1)]) _
    refine st104 _ ?_
    show SS pP eE belowS T104 (mkF mM 23 #[.val (.ref o), .val (.ref d), .val (.int x), .unset] [(.int (0 : Int32))]) _
    refine XS.istoreN X104.here hx rfl (hb hby d_prog_4_method_2_23) rfl (l' := (Lc_close_2x_0 o d x)) rfl ?_
    show SS pP eE belowS T104 (mkF mM 24 (Lc_close_2x_0 o d x) []) _
    refine XS.iloadN X104.here hx rfl (hb hby d_prog_4_method_2_24) rfl ?_
    show SS pP eE belowS T104 (mkF mM 25 (Lc_close_2x_0 o d x) [(.int (0 : Int32))]) _
    refine XS.ifNo X104.here hx rfl (hb hby d_prog_4_method_2_25) rfl ((if0 _ _).trans (flt (by decide : ¬ ((0 : Int32) < (0 : Int32)))).1) ?_
    show SS pP eE belowS T104 (mkF mM 28 (Lc_close_2x_0 o d x) []) _
    refine XS.aloadN X104.here hx rfl (hb hby d_prog_4_method_2_28) rfl rfl ?_
    show SS pP eE belowS T104 (mkF mM 29 (Lc_close_2x_0 o d x) [(.ref o)]) _
    refine st105 _ ?_
    show SS pP eE belowS T105 (mkF mM 32 (Lc_close_2x_0 o d x) [(.ref b2)]) _
    refine XS.iloadN X105.here hx rfl (hb hby d_prog_4_method_2_32) rfl ?_
    show SS pP eE belowS T105 (mkF mM 33 (Lc_close_2x_0 o d x) [(.int (0 : Int32)), (.ref b2)]) _
    refine X105.iaload hx (j := (0 : Int32)) (v := (.int ea)) (by rw [e105]; exact Ar106.1) (State.isArrayOf_alike hZ.alike Ar106.2.1) Ar106.2.2 hin106 hat106 (g := (mkF mM 33 (Lc_close_2x_0 o d x) [(.int (0 : Int32)), (.ref b2)])) rfl rfl (hb hby d_prog_4_method_2_33) _ ?_
    show SS pP eE belowS T105 (mkF mM 34 (Lc_close_2x_0 o d x) [(.int ea)]) _
    refine XS.goto X105.here hx rfl (pc0 := 34) (pc' := 38) rfl (hb hby d_prog_4_method_2_34) (by decide) (by decide) ?_
    show SS pP eE belowS T105 (mkF mM 38 (Lc_close_2x_0 o d x) [(.int ea)]) _
    exact retI X105 hx Bd.returns (hb hby d_prog_4_method_2_38) hr
  · show Q_close_2x Z o d a1 k1 x y b2 k2 ea eb h0 n0 _ T105.heap _
    rw [e105]
    exact ⟨rfl, N104, rfl⟩
theorem d_jdk_65_method_59_36 : decode jdk_65_method_59_code 36 = .ok (.iload 6, 2) := by decide +kernel
theorem d_jdk_65_method_59_38 : decode jdk_65_method_59_code 38 = .ok (.iconst 1, 1) := by decide +kernel
theorem d_jdk_65_method_59_39 : decode jdk_65_method_59_code 39 = .ok (.iadd, 1) := by decide +kernel
theorem d_jdk_65_method_59_40 : decode jdk_65_method_59_code 40 = .ok (.istore 4, 2) := by decide +kernel
theorem d_jdk_65_method_59_42 : decode jdk_65_method_59_code 42 = .ok (.goto 21, 3) := by decide +kernel
def Q_bs0_2y (Z : State) (a1 : Addr) (k1 : ClassId) (x : Int32) (y : Int32) (h0 : Heap) (n0 : Nat) (xv : Option Value) (xh : Heap) (xL : List Loc) : Prop := xv = some (.int (1 : Int32)) ∧ Fr n0 xL ∧ xh = h0
abbrev Lc_bs0_2y_0 (a1 : Addr) (y : Int32) : Array Slot := #[.val (.ref a1), .val (.int (0 : Int32)), .val (.int (2 : Int32)), .val (.int y), .unset, .unset, .unset, .unset]
abbrev Lc_bs0_2y_1 (a1 : Addr) (y : Int32) : Array Slot := #[.val (.ref a1), .val (.int (0 : Int32)), .val (.int (2 : Int32)), .val (.int y), .val (.int (0 : Int32)), .unset, .unset, .unset]
abbrev Lc_bs0_2y_2 (a1 : Addr) (y : Int32) : Array Slot := #[.val (.ref a1), .val (.int (0 : Int32)), .val (.int (2 : Int32)), .val (.int y), .val (.int (0 : Int32)), .val (.int (1 : Int32)), .unset, .unset]
abbrev Lc_bs0_2y_3 (a1 : Addr) (y : Int32) : Array Slot := #[.val (.ref a1), .val (.int (0 : Int32)), .val (.int (2 : Int32)), .val (.int y), .val (.int (0 : Int32)), .val (.int (1 : Int32)), .val (.int (0 : Int32)), .unset]
abbrev Lc_bs0_2y_4 (a1 : Addr) (y : Int32) (x : Int32) : Array Slot := #[.val (.ref a1), .val (.int (0 : Int32)), .val (.int (2 : Int32)), .val (.int y), .val (.int (0 : Int32)), .val (.int (1 : Int32)), .val (.int (0 : Int32)), .val (.int x)]
abbrev Lc_bs0_2y_5 (a1 : Addr) (y : Int32) (x : Int32) : Array Slot := #[.val (.ref a1), .val (.int (0 : Int32)), .val (.int (2 : Int32)), .val (.int y), .val (.int (1 : Int32)), .val (.int (1 : Int32)), .val (.int (0 : Int32)), .val (.int x)]
abbrev Lc_bs0_2y_6 (a1 : Addr) (y : Int32) (x : Int32) : Array Slot := #[.val (.ref a1), .val (.int (0 : Int32)), .val (.int (2 : Int32)), .val (.int y), .val (.int (1 : Int32)), .val (.int (1 : Int32)), .val (.int (1 : Int32)), .val (.int x)]
abbrev Lc_bs0_2y_7 (a1 : Addr) (y : Int32) : Array Slot := #[.val (.ref a1), .val (.int (0 : Int32)), .val (.int (2 : Int32)), .val (.int y), .val (.int (1 : Int32)), .val (.int (1 : Int32)), .val (.int (1 : Int32)), .val (.int y)]
theorem ef_bs0_2y (mM : MethodId) (a1 : Addr) (k1 : ClassId) (x : Int32) (y : Int32) : entryFrame mM #[(.ref a1), (.int (0 : Int32)), (.int (2 : Int32)), (.int y)] 8 = mkF mM 0 #[.val (.ref a1), .val (.int (0 : Int32)), .val (.int (2 : Int32)), .val (.int y), .unset, .unset, .unset, .unset] [] := by first | (simp [entryFrame, mkF, argsToLocals, Value.category]; done) | rfl
set_option maxRecDepth 65536 in
set_option maxHeartbeats 40000000 in
theorem rm_bs0_2y (l : Launch) (Z : State) (a0 : Array Value) (hw : ∀ d ∈ tables_1, d.before a0 Z = true) (ws : List Jvm.Cond) (a1 : Addr) (k1 : ClassId) (x : Int32) (y : Int32) (h0 : Heap) (n0 : Nat) (Z0 : n0 ≤ h0.size) (V_a1 : Arv Z h0 a1 k1 .int (4 : Int32) [(.int x), (.int y), (.int (0 : Int32)), (.int (0 : Int32))] (.int (0 : Int32))) (hc33 : x < y) :
    MetFree l (⟨"java/util/Arrays", "binarySearch0", "([IIII)I"⟩ : MethodName) (head1 (Jvm.Cond.code (⟨"java/util/Arrays", "binarySearch0", "([IIII)I"⟩ : MethodName) jdk_65_method_59_code 8 (some .int) :: ws) ({ frames := 0, cells := 0, slots := 0, locals := 0 } : Room)) (fun xa xU => xa = #[(.ref a1), (.int (0 : Int32)), (.int (2 : Int32)), (.int y)] ∧ Z.Warmed39 xU.vm ∧ xU.heap = h0) (fun _ _ _ _ _ => True) (fun _ xU xo xU' => ∃ xv xL, xo = .returned xv ∧ Q_bs0_2y Z a1 k1 x y h0 n0 xv xU'.heap xL ∧ FrameEnd xU xo xU' xL ({ frames := 0, cells := 0, slots := 0, locals := 0 } : Room).cells ({ frames := 0, cells := 0, slots := 0, locals := 0 } : Room).slots) := by
  refine MetFree.of_bodySF (plainFor_of_name pn_java_util_Arrays) hisR ?_
  intro pP eE sS mM argS belowS methS cC s₁ Bd hml0 hP hK
  obtain ⟨rfl, hZ, hh⟩ := hP
  have hx := Bd.exec
  have hby := Bd.bytes
  have hml : cC.maxLocals = 8 := hml0
  have hown : sS.vm.findClass "java/util/Arrays" = some mM.cls := findClass_of_methodNamed Bd.named
  have hnm := (name_of_methodNamed Bd.named Bd.method).1
  have X0 : Stand pP l eE ({ frames := 0, cells := 0, slots := 0, locals := 0 } : Room) sS mM #[(.ref a1), (.int (0 : Int32)), (.int (2 : Int32)), (.int y)] belowS methS cC s₁ [] 0 0 := Stand.of_body Bd
  have e0 : s₁.heap = h0 := by rw [← hh, Bd.state]; rfl
  have N0 := Fr.nil n0
  have pre0 : ∀ t', Steps pP.tables eE belowS (s₁.setTop (mkF mM 0 #[.val (.ref a1), .val (.int (0 : Int32)), .val (.int (2 : Int32)), .val (.int y), .unset, .unset, .unset, .unset] [])) t' → Steps pP.tables eE belowS (s₁.setTop (entryFrame mM #[(.ref a1), (.int (0 : Int32)), (.int (2 : Int32)), (.int y)] 8)) t' := fun t' kk' => castTop (ef_bs0_2y mM a1 k1 x y) kk'
  obtain ⟨cl101, Ar101, q101, S101, Ng101, Ha101, Ga101⟩ := id V_a1
  have hin101 : ¬ ((0 : Int32) < 0 ∨ cl101.slots.size ≤ ((0 : Int32)).toNatClampNeg) := inb_of S101 ⟨by decide, by decide⟩
  have hat101 : cl101.slots[((0 : Int32)).toNatClampNeg]? = some (.int x) := Ha101.at hin101 (rfl)
  obtain ⟨cl102, Ar102, q102, S102, Ng102, Ha102, Ga102⟩ := id V_a1
  have hin102 : ¬ ((1 : Int32) < 0 ∨ cl102.slots.size ≤ ((1 : Int32)).toNatClampNeg) := inb_of S102 ⟨by decide, by decide⟩
  have hat102 : cl102.slots[((1 : Int32)).toNatClampNeg]? = some (.int y) := Ha102.at hin102 (rfl)
  obtain ⟨fs, hr, hrun, hended, hW, hsame⟩ := X0.leave (v := some (.int (1 : Int32))) (fun h => by rw [Bd.returns] at h; cases h)
  refine ⟨_, _, pre0 _ ?_, hrun, hended, _, _, rfl, ?_, ⟨_, rfl⟩, hW, hsame.mono (by decide) (by decide)⟩
  · show SS pP eE belowS s₁ (mkF mM 0 (Lc_bs0_2y_0 a1 y) []) _
    refine XS.iloadN X0.here hx rfl (hb hby d_jdk_65_method_59_0) rfl ?_
    show SS pP eE belowS s₁ (mkF mM 1 (Lc_bs0_2y_0 a1 y) [(.int (0 : Int32))]) _
    refine XS.istore X0.here hx rfl (hb hby d_jdk_65_method_59_1) rfl (l' := (Lc_bs0_2y_1 a1 y)) rfl ?_
    show SS pP eE belowS s₁ (mkF mM 3 (Lc_bs0_2y_1 a1 y) []) _
    refine XS.iloadN X0.here hx rfl (hb hby d_jdk_65_method_59_3) rfl ?_
    show SS pP eE belowS s₁ (mkF mM 4 (Lc_bs0_2y_1 a1 y) [(.int (2 : Int32))]) _
    refine XS.iconst X0.here hx rfl (hb hby d_jdk_65_method_59_4) ?_
    show SS pP eE belowS s₁ (mkF mM 5 (Lc_bs0_2y_1 a1 y) [(.int (1 : Int32)), (.int (2 : Int32))]) _
    refine XS.isub X0.here hx rfl (hb hby d_jdk_65_method_59_5) rfl ?_
    show SS pP eE belowS s₁ (mkF mM 6 (Lc_bs0_2y_1 a1 y) [(.int (1 : Int32))]) _
    refine XS.istore X0.here hx rfl (hb hby d_jdk_65_method_59_6) rfl (l' := (Lc_bs0_2y_2 a1 y)) rfl ?_
    show SS pP eE belowS s₁ (mkF mM 8 (Lc_bs0_2y_2 a1 y) []) _
    refine XS.iload X0.here hx rfl (hb hby d_jdk_65_method_59_8) rfl ?_
    show SS pP eE belowS s₁ (mkF mM 10 (Lc_bs0_2y_2 a1 y) [(.int (0 : Int32))]) _
    refine XS.iload X0.here hx rfl (hb hby d_jdk_65_method_59_10) rfl ?_
    show SS pP eE belowS s₁ (mkF mM 12 (Lc_bs0_2y_2 a1 y) [(.int (1 : Int32)), (.int (0 : Int32))]) _
    refine XS.icmpNo X0.here hx rfl (hb hby d_jdk_65_method_59_12) rfl (flt (by decide : ¬ ((1 : Int32) < (0 : Int32)))).2.2.1 ?_
    show SS pP eE belowS s₁ (mkF mM 15 (Lc_bs0_2y_2 a1 y) []) _
    refine XS.iload X0.here hx rfl (hb hby d_jdk_65_method_59_15) rfl ?_
    show SS pP eE belowS s₁ (mkF mM 17 (Lc_bs0_2y_2 a1 y) [(.int (0 : Int32))]) _
    refine XS.iload X0.here hx rfl (hb hby d_jdk_65_method_59_17) rfl ?_
    show SS pP eE belowS s₁ (mkF mM 19 (Lc_bs0_2y_2 a1 y) [(.int (1 : Int32)), (.int (0 : Int32))]) _
    refine XS.iadd X0.here hx rfl (hb hby d_jdk_65_method_59_19) rfl ?_
    show SS pP eE belowS s₁ (mkF mM 20 (Lc_bs0_2y_2 a1 y) [(.int (1 : Int32))]) _
    refine XS.iconst X0.here hx rfl (hb hby d_jdk_65_method_59_20) ?_
    show SS pP eE belowS s₁ (mkF mM 21 (Lc_bs0_2y_2 a1 y) [(.int (1 : Int32)), (.int (1 : Int32))]) _
    refine XS.iushr X0.here hx rfl (hb hby d_jdk_65_method_59_21) rfl ?_
    show SS pP eE belowS s₁ (mkF mM 22 (Lc_bs0_2y_2 a1 y) [(.int (0 : Int32))]) _
    refine XS.istore X0.here hx rfl (hb hby d_jdk_65_method_59_22) rfl (l' := (Lc_bs0_2y_3 a1 y)) rfl ?_
    show SS pP eE belowS s₁ (mkF mM 24 (Lc_bs0_2y_3 a1 y) []) _
    refine XS.aloadN X0.here hx rfl (hb hby d_jdk_65_method_59_24) rfl rfl ?_
    show SS pP eE belowS s₁ (mkF mM 25 (Lc_bs0_2y_3 a1 y) [(.ref a1)]) _
    refine XS.iload X0.here hx rfl (hb hby d_jdk_65_method_59_25) rfl ?_
    show SS pP eE belowS s₁ (mkF mM 27 (Lc_bs0_2y_3 a1 y) [(.int (0 : Int32)), (.ref a1)]) _
    refine X0.iaload hx (j := (0 : Int32)) (v := (.int x)) (by rw [e0]; exact Ar101.1) (State.isArrayOf_alike hZ.alike Ar101.2.1) Ar101.2.2 hin101 hat101 (g := (mkF mM 27 (Lc_bs0_2y_3 a1 y) [(.int (0 : Int32)), (.ref a1)])) rfl rfl (hb hby d_jdk_65_method_59_27) _ ?_
    show SS pP eE belowS s₁ (mkF mM 28 (Lc_bs0_2y_3 a1 y) [(.int x)]) _
    refine XS.istore X0.here hx rfl (hb hby d_jdk_65_method_59_28) rfl (l' := (Lc_bs0_2y_4 a1 y x)) rfl ?_
    show SS pP eE belowS s₁ (mkF mM 30 (Lc_bs0_2y_4 a1 y x) []) _
    refine XS.iload X0.here hx rfl (hb hby d_jdk_65_method_59_30) rfl ?_
    show SS pP eE belowS s₁ (mkF mM 32 (Lc_bs0_2y_4 a1 y x) [(.int x)]) _
    refine XS.iloadN X0.here hx rfl (hb hby d_jdk_65_method_59_32) rfl ?_
    show SS pP eE belowS s₁ (mkF mM 33 (Lc_bs0_2y_4 a1 y x) [(.int y), (.int x)]) _
    refine XS.icmpNo X0.here hx rfl (hb hby d_jdk_65_method_59_33) rfl (tlt hc33).2.1 ?_
    show SS pP eE belowS s₁ (mkF mM 36 (Lc_bs0_2y_4 a1 y x) []) _
    refine XS.iload X0.here hx rfl (hb hby d_jdk_65_method_59_36) rfl ?_
    show SS pP eE belowS s₁ (mkF mM 38 (Lc_bs0_2y_4 a1 y x) [(.int (0 : Int32))]) _
    refine XS.iconst X0.here hx rfl (hb hby d_jdk_65_method_59_38) ?_
    show SS pP eE belowS s₁ (mkF mM 39 (Lc_bs0_2y_4 a1 y x) [(.int (1 : Int32)), (.int (0 : Int32))]) _
    refine XS.iadd X0.here hx rfl (hb hby d_jdk_65_method_59_39) rfl ?_
    show SS pP eE belowS s₁ (mkF mM 40 (Lc_bs0_2y_4 a1 y x) [(.int (1 : Int32))]) _
    refine XS.istore X0.here hx rfl (hb hby d_jdk_65_method_59_40) rfl (l' := (Lc_bs0_2y_5 a1 y x)) rfl ?_
    show SS pP eE belowS s₁ (mkF mM 42 (Lc_bs0_2y_5 a1 y x) []) _
    refine XS.goto X0.here hx rfl (pc0 := 42) (pc' := 63) rfl (hb hby d_jdk_65_method_59_42) (by decide) (by decide) ?_
    show SS pP eE belowS s₁ (mkF mM 63 (Lc_bs0_2y_5 a1 y x) []) _
    refine XS.goto X0.here hx rfl (pc0 := 63) (pc' := 8) rfl (hb hby d_jdk_65_method_59_63) (by decide) (by decide) ?_
    show SS pP eE belowS s₁ (mkF mM 8 (Lc_bs0_2y_5 a1 y x) []) _
    refine XS.iload X0.here hx rfl (hb hby d_jdk_65_method_59_8) rfl ?_
    show SS pP eE belowS s₁ (mkF mM 10 (Lc_bs0_2y_5 a1 y x) [(.int (1 : Int32))]) _
    refine XS.iload X0.here hx rfl (hb hby d_jdk_65_method_59_10) rfl ?_
    show SS pP eE belowS s₁ (mkF mM 12 (Lc_bs0_2y_5 a1 y x) [(.int (1 : Int32)), (.int (1 : Int32))]) _
    refine XS.icmpNo X0.here hx rfl (hb hby d_jdk_65_method_59_12) rfl (flt (by decide : ¬ ((1 : Int32) < (1 : Int32)))).2.2.1 ?_
    show SS pP eE belowS s₁ (mkF mM 15 (Lc_bs0_2y_5 a1 y x) []) _
    refine XS.iload X0.here hx rfl (hb hby d_jdk_65_method_59_15) rfl ?_
    show SS pP eE belowS s₁ (mkF mM 17 (Lc_bs0_2y_5 a1 y x) [(.int (1 : Int32))]) _
    refine XS.iload X0.here hx rfl (hb hby d_jdk_65_method_59_17) rfl ?_
    show SS pP eE belowS s₁ (mkF mM 19 (Lc_bs0_2y_5 a1 y x) [(.int (1 : Int32)), (.int (1 : Int32))]) _
    refine XS.iadd X0.here hx rfl (hb hby d_jdk_65_method_59_19) rfl ?_
    show SS pP eE belowS s₁ (mkF mM 20 (Lc_bs0_2y_5 a1 y x) [(.int (2 : Int32))]) _
    refine XS.iconst X0.here hx rfl (hb hby d_jdk_65_method_59_20) ?_
    show SS pP eE belowS s₁ (mkF mM 21 (Lc_bs0_2y_5 a1 y x) [(.int (1 : Int32)), (.int (2 : Int32))]) _
    refine XS.iushr X0.here hx rfl (hb hby d_jdk_65_method_59_21) rfl ?_
    show SS pP eE belowS s₁ (mkF mM 22 (Lc_bs0_2y_5 a1 y x) [(.int (1 : Int32))]) _
    refine XS.istore X0.here hx rfl (hb hby d_jdk_65_method_59_22) rfl (l' := (Lc_bs0_2y_6 a1 y x)) rfl ?_
    show SS pP eE belowS s₁ (mkF mM 24 (Lc_bs0_2y_6 a1 y x) []) _
    refine XS.aloadN X0.here hx rfl (hb hby d_jdk_65_method_59_24) rfl rfl ?_
    show SS pP eE belowS s₁ (mkF mM 25 (Lc_bs0_2y_6 a1 y x) [(.ref a1)]) _
    refine XS.iload X0.here hx rfl (hb hby d_jdk_65_method_59_25) rfl ?_
    show SS pP eE belowS s₁ (mkF mM 27 (Lc_bs0_2y_6 a1 y x) [(.int (1 : Int32)), (.ref a1)]) _
    refine X0.iaload hx (j := (1 : Int32)) (v := (.int y)) (by rw [e0]; exact Ar102.1) (State.isArrayOf_alike hZ.alike Ar102.2.1) Ar102.2.2 hin102 hat102 (g := (mkF mM 27 (Lc_bs0_2y_6 a1 y x) [(.int (1 : Int32)), (.ref a1)])) rfl rfl (hb hby d_jdk_65_method_59_27) _ ?_
    show SS pP eE belowS s₁ (mkF mM 28 (Lc_bs0_2y_6 a1 y x) [(.int y)]) _
    refine XS.istore X0.here hx rfl (hb hby d_jdk_65_method_59_28) rfl (l' := (Lc_bs0_2y_7 a1 y)) rfl ?_
    show SS pP eE belowS s₁ (mkF mM 30 (Lc_bs0_2y_7 a1 y) []) _
    refine XS.iload X0.here hx rfl (hb hby d_jdk_65_method_59_30) rfl ?_
    show SS pP eE belowS s₁ (mkF mM 32 (Lc_bs0_2y_7 a1 y) [(.int y)]) _
    refine XS.iloadN X0.here hx rfl (hb hby d_jdk_65_method_59_32) rfl ?_
    show SS pP eE belowS s₁ (mkF mM 33 (Lc_bs0_2y_7 a1 y) [(.int y), (.int y)]) _
    refine XS.icmpYes X0.here hx rfl (pc0 := 33) (pc' := 45) rfl (hb hby d_jdk_65_method_59_33) rfl (flt (Int32.lt_irrefl : ¬ (y < y))).2.1 (by decide) (by decide) ?_
    show SS pP eE belowS s₁ (mkF mM 45 (Lc_bs0_2y_7 a1 y) []) _
    refine XS.iload X0.here hx rfl (hb hby d_jdk_65_method_59_45) rfl ?_
    show SS pP eE belowS s₁ (mkF mM 47 (Lc_bs0_2y_7 a1 y) [(.int y)]) _
    refine XS.iloadN X0.here hx rfl (hb hby d_jdk_65_method_59_47) rfl ?_
    show SS pP eE belowS s₁ (mkF mM 48 (Lc_bs0_2y_7 a1 y) [(.int y), (.int y)]) _
    refine XS.icmpYes X0.here hx rfl (pc0 := 48) (pc' := 60) rfl (hb hby d_jdk_65_method_59_48) rfl (flt (Int32.lt_irrefl : ¬ (y < y))).2.2.2 (by decide) (by decide) ?_
    show SS pP eE belowS s₁ (mkF mM 60 (Lc_bs0_2y_7 a1 y) []) _
    refine XS.iload X0.here hx rfl (hb hby d_jdk_65_method_59_60) rfl ?_
    show SS pP eE belowS s₁ (mkF mM 62 (Lc_bs0_2y_7 a1 y) [(.int (1 : Int32))]) _
    exact retI X0 hx Bd.returns (hb hby d_jdk_65_method_59_62) hr
  · show Q_bs0_2y Z a1 k1 x y h0 n0 _ s₁.heap _
    rw [e0]
    exact ⟨rfl, N0, rfl⟩

def Q_bs_2y (Z : State) (a1 : Addr) (k1 : ClassId) (x : Int32) (y : Int32) (h0 : Heap) (n0 : Nat) (xv : Option Value) (xh : Heap) (xL : List Loc) : Prop := xv = some (.int (1 : Int32)) ∧ Fr n0 xL ∧ xh = h0
abbrev Lc_bs_2y_0 (a1 : Addr) (y : Int32) : Array Slot := #[.val (.ref a1), .val (.int (0 : Int32)), .val (.int (2 : Int32)), .val (.int y)]
theorem ef_bs_2y (mM : MethodId) (a1 : Addr) (k1 : ClassId) (x : Int32) (y : Int32) : entryFrame mM #[(.ref a1), (.int (0 : Int32)), (.int (2 : Int32)), (.int y)] 4 = mkF mM 0 #[.val (.ref a1), .val (.int (0 : Int32)), .val (.int (2 : Int32)), .val (.int y)] [] := by first | (simp [entryFrame, mkF, argsToLocals, Value.category]; done) | rfl
set_option maxRecDepth 65536 in
set_option maxHeartbeats 40000000 in
theorem rm_bs_2y (l : Launch) (Z : State) (a0 : Array Value) (hw : ∀ d ∈ tables_1, d.before a0 Z = true) (ws : List Jvm.Cond) (a1 : Addr) (k1 : ClassId) (x : Int32) (y : Int32) (h0 : Heap) (n0 : Nat) (Z0 : n0 ≤ h0.size) (V_a1 : Arv Z h0 a1 k1 .int (4 : Int32) [(.int x), (.int y), (.int (0 : Int32)), (.int (0 : Int32))] (.int (0 : Int32))) (hc33_103 : x < y) :
    MetFree l (⟨"java/util/Arrays", "binarySearch", "([IIII)I"⟩ : MethodName) (head1 (Jvm.Cond.code (⟨"java/util/Arrays", "binarySearch", "([IIII)I"⟩ : MethodName) jdk_65_method_58_code 4 (some .int) :: ws) ({ frames := 1, cells := 0, slots := 0, locals := 19 } : Room)) (fun xa xU => xa = #[(.ref a1), (.int (0 : Int32)), (.int (2 : Int32)), (.int y)] ∧ Z.Warmed39 xU.vm ∧ xU.heap = h0) (fun _ _ _ _ _ => True) (fun _ xU xo xU' => ∃ xv xL, xo = .returned xv ∧ Q_bs_2y Z a1 k1 x y h0 n0 xv xU'.heap xL ∧ FrameEnd xU xo xU' xL ({ frames := 1, cells := 0, slots := 0, locals := 19 } : Room).cells ({ frames := 1, cells := 0, slots := 0, locals := 19 } : Room).slots) := by
  refine MetFree.of_bodySF (plainFor_of_name pn_java_util_Arrays) hisR ?_
  intro pP eE sS mM argS belowS methS cC s₁ Bd hml0 hP hK
  obtain ⟨rfl, hZ, hh⟩ := hP
  have hx := Bd.exec
  have hby := Bd.bytes
  have hml : cC.maxLocals = 4 := hml0
  have hown : sS.vm.findClass "java/util/Arrays" = some mM.cls := findClass_of_methodNamed Bd.named
  have hnm := (name_of_methodNamed Bd.named Bd.method).1
  have X0 : Stand pP l eE ({ frames := 1, cells := 0, slots := 0, locals := 19 } : Room) sS mM #[(.ref a1), (.int (0 : Int32)), (.int (2 : Int32)), (.int y)] belowS methS cC s₁ [] 0 0 := Stand.of_body Bd
  have e0 : s₁.heap = h0 := by rw [← hh, Bd.state]; rfl
  have N0 := Fr.nil n0
  have pre0 : ∀ t', Steps pP.tables eE belowS (s₁.setTop (mkF mM 0 #[.val (.ref a1), .val (.int (0 : Int32)), .val (.int (2 : Int32)), .val (.int y)] [])) t' → Steps pP.tables eE belowS (s₁.setTop (entryFrame mM #[(.ref a1), (.int (0 : Int32)), (.int (2 : Int32)), (.int y)] 4)) t' := fun t' kk' => castTop (ef_bs_2y mM a1 k1 x y) kk'
  obtain ⟨cl101, Ar101, q101, S101, Ng101, Ha101, Ga101⟩ := id V_a1
  obtain ⟨_, _, ⟨T102, L102, k102, n102⟩, -, X102, ⟨Lc102, hQ102, l102, y102, z102⟩, st102⟩ := Jvm.LawKit.callS X0 hx (y := (⟨"java/util/Arrays", "rangeCheck", "(III)V"⟩ : MethodName)) hown (mvT hZ (wi hw 56 rfl)) (mvT hZ (wi hw 57 rfl)) (mvT hZ (wi hw 33 rfl)) (mvT hZ (wi hw 58 rfl)) (by decide) (backOf (W := 0) (rm_rc2 l Z a0 hw []  h0 n0 (by omega) ) hZ (wi hw 58 rfl) (wi hw 33 rfl) (by decide) (by decide)) (g := (mkF mM 4 (Lc_bs_2y_0 a1 y) [(.int (2 : Int32)), (.int (0 : Int32)), (.int (4 : Int32))])) rfl (by rw [hml]; rfl) (argsL := [(.int (4 : Int32)), (.int (0 : Int32)), (.int (2 : Int32))]) (rest := []) (lenOf pd_7 rfl) rfl (by show 2 * 0 + _ ≤ _; exact Nat.le_of_eq rfl) (hb hby d_jdk_65_method_58_4) (fun _ _ => ⟨rfl, e0, Nat.le_of_ble_eq_true rfl, Nat.le_of_ble_eq_true rfl⟩)
  dsimp only [Pt.U, Pt.locs, Pt.cells, Pt.slots] at X102 l102 y102 z102 st102 hQ102
  subst l102 y102 z102
  obtain ⟨h102, e102⟩ : ∃ z, T102.heap = z := ⟨_, rfl⟩
  rw [e102] at hQ102
  obtain ⟨rfl, N102q, eq102⟩ := hQ102
  rw [eq102] at e102
  have N102 := Fr.app N0 N102q
  obtain ⟨_, _, ⟨T103, L103, k103, n103⟩, -, X103, ⟨Lc103, hQ103, l103, y103, z103⟩, st103⟩ := Jvm.LawKit.callS X102 hx (y := (⟨"java/util/Arrays", "binarySearch0", "([IIII)I"⟩ : MethodName)) hown (mvT hZ (wi hw 59 rfl)) (mvT hZ (wi hw 60 rfl)) (mvT hZ (wi hw 33 rfl)) (mvT hZ (wi hw 61 rfl)) (by decide) (backOf (W := 0) (rm_bs0_2y l Z a0 hw [] a1 k1 x y h0 n0 (by omega) V_a1 hc33_103) hZ (wi hw 61 rfl) (wi hw 33 rfl) (by decide) (by decide)) (g := (mkF mM 11 (Lc_bs_2y_0 a1 y) [(.int y), (.int (2 : Int32)), (.int (0 : Int32)), (.ref a1)])) rfl (by rw [hml]; rfl) (argsL := [(.ref a1), (.int (0 : Int32)), (.int (2 : Int32)), (.int y)]) (rest := []) (lenOf pd_6 rfl) rfl (by show 2 * 0 + _ ≤ _; exact Nat.le_of_eq rfl) (hb hby d_jdk_65_method_58_11) (fun _ _ => ⟨rfl, e102, Nat.le_of_ble_eq_true rfl, Nat.le_of_ble_eq_true rfl⟩)
  dsimp only [Pt.U, Pt.locs, Pt.cells, Pt.slots] at X103 l103 y103 z103 st103 hQ103
  subst l103 y103 z103
  obtain ⟨h103, e103⟩ : ∃ z, T103.heap = z := ⟨_, rfl⟩
  rw [e103] at hQ103
  obtain ⟨rfl, N103q, eq103⟩ := hQ103
  rw [eq103] at e103
  have N103 := Fr.app N102 N103q
  obtain ⟨fs, hr, hrun, hended, hW, hsame⟩ := X103.leave (v := some (.int (1 : Int32))) (fun h => by rw [Bd.returns] at h; cases h)
  refine ⟨_, _, pre0 _ ?_, hrun, hended, _, _, rfl, ?_, ⟨_, rfl⟩, hW, hsame.mono (by decide) (by decide)⟩
  · show SS pP eE belowS s₁ (mkF mM 0 (Lc_bs_2y_0 a1 y) []) _
    refine XS.aloadN X0.here hx rfl (hb hby d_jdk_65_method_58_0) rfl rfl ?_
    show SS pP eE belowS s₁ (mkF mM 1 (Lc_bs_2y_0 a1 y) [(.ref a1)]) _
    refine X0.arraylength hx (by rw [e0]; exact Ar101.1) (State.isArrayOf_alike hZ.alike Ar101.2.1) (g := (mkF mM 1 (Lc_bs_2y_0 a1 y) [(.ref a1)])) rfl rfl (hb hby d_jdk_65_method_58_1) _ ?_
    rw [len_of S101 Ng101]
    show SS pP eE belowS s₁ (mkF mM 2 (Lc_bs_2y_0 a1 y) [(.int (4 : Int32))]) _
    refine XS.iloadN X0.here hx rfl (hb hby d_jdk_65_method_58_2) rfl ?_
    show SS pP eE belowS s₁ (mkF mM 3 (Lc_bs_2y_0 a1 y) [(.int (0 : Int32)), (.int (4 : Int32))]) _
    refine XS.iloadN X0.here hx rfl (hb hby d_jdk_65_method_58_3) rfl ?_
    show SS pP eE belowS s₁ (mkF mM 4 (Lc_bs_2y_0 a1 y) [(.int (2 : Int32)), (.int (0 : Int32)), (.int (4 : Int32))]) _
    refine st102 _ ?_
    show SS pP eE belowS T102 (mkF mM 7 (Lc_bs_2y_0 a1 y) []) _
    refine XS.aloadN X102.here hx rfl (hb hby d_jdk_65_method_58_7) rfl rfl ?_
    show SS pP eE belowS T102 (mkF mM 8 (Lc_bs_2y_0 a1 y) [(.ref a1)]) _
    refine XS.iloadN X102.here hx rfl (hb hby d_jdk_65_method_58_8) rfl ?_
    show SS pP eE belowS T102 (mkF mM 9 (Lc_bs_2y_0 a1 y) [(.int (0 : Int32)), (.ref a1)]) _
    refine XS.iloadN X102.here hx rfl (hb hby d_jdk_65_method_58_9) rfl ?_
    show SS pP eE belowS T102 (mkF mM 10 (Lc_bs_2y_0 a1 y) [(.int (2 : Int32)), (.int (0 : Int32)), (.ref a1)]) _
    refine XS.iloadN X102.here hx rfl (hb hby d_jdk_65_method_58_10) rfl ?_
    show SS pP eE belowS T102 (mkF mM 11 (Lc_bs_2y_0 a1 y) [(.int y), (.int (2 : Int32)), (.int (0 : Int32)), (.ref a1)]) _
    refine st103 _ ?_
    show SS pP eE belowS T103 (mkF mM 14 (Lc_bs_2y_0 a1 y) [(.int (1 : Int32))]) _
    exact retI X103 hx Bd.returns (hb hby d_jdk_65_method_58_14) hr
  · show Q_bs_2y Z a1 k1 x y h0 n0 _ T103.heap _
    rw [e103]
    exact ⟨rfl, N103, rfl⟩

def Q_close_2y (Z : State) (o : Addr) (d : Addr) (a1 : Addr) (k1 : ClassId) (x : Int32) (y : Int32) (b2 : Addr) (k2 : ClassId) (ea : Int32) (eb : Int32) (h0 : Heap) (n0 : Nat) (xv : Option Value) (xh : Heap) (xL : List Loc) : Prop := xv = some (.int eb) ∧ Fr n0 xL ∧ xh = h0
abbrev Lc_close_2y_0 (o : Addr) (d : Addr) (y : Int32) : Array Slot := #[.val (.ref o), .val (.ref d), .val (.int y), .val (.int (1 : Int32))]
theorem ef_close_2y (mM : MethodId) (o : Addr) (d : Addr) (a1 : Addr) (k1 : ClassId) (x : Int32) (y : Int32) (b2 : Addr) (k2 : ClassId) (ea : Int32) (eb : Int32) : entryFrame mM #[(.ref o), (.ref d), (.int y)] 4 = mkF mM 0 #[.val (.ref o), .val (.ref d), .val (.int y), .unset] [] := by first | (simp [entryFrame, mkF, argsToLocals, Value.category]; done) | rfl
set_option maxRecDepth 65536 in
set_option maxHeartbeats 40000000 in
theorem rm_close_2y (l : Launch) (Z : State) (a0 : Array Value) (hw : ∀ d ∈ tables_1, d.before a0 Z = true) (ws : List Jvm.Cond) (o : Addr) (d : Addr) (a1 : Addr) (k1 : ClassId) (x : Int32) (y : Int32) (b2 : Addr) (k2 : ClassId) (ea : Int32) (eb : Int32) (h0 : Heap) (n0 : Nat) (Z0 : n0 ≤ h0.size) (F_brackets_o : Fld Z h0 o "com/example/macroweave/macroweave/BracketPairs" "brackets" "Lcom/example/macroweave/macroweave/Brackets;" (.ref d)) (F_contentStarts_o : Fld Z h0 o "com/example/macroweave/macroweave/BracketPairs" "contentStarts" "[I" (.ref a1)) (F_closes_o : Fld Z h0 o "com/example/macroweave/macroweave/BracketPairs" "closes" "[I" (.ref b2)) (F_size_o : Fld Z h0 o "com/example/macroweave/macroweave/BracketPairs" "size" "I" (.int (2 : Int32))) (V_a1 : Arv Z h0 a1 k1 .int (4 : Int32) [(.int x), (.int y), (.int (0 : Int32)), (.int (0 : Int32))] (.int (0 : Int32))) (V_b2 : Arv Z h0 b2 k2 .int (4 : Int32) [(.int ea), (.int eb), (.int (0 : Int32)), (.int (0 : Int32))] (.int (0 : Int32))) (hc33_103_104 : x < y) :
    MetFree l (⟨"com/example/macroweave/macroweave/BracketPairs", "close", "(Lcom/example/macroweave/macroweave/Brackets;I)I"⟩ : MethodName) (head1 (Jvm.Cond.code (⟨"com/example/macroweave/macroweave/BracketPairs", "close", "(Lcom/example/macroweave/macroweave/Brackets;I)I"⟩ : MethodName) prog_4_method_2_code 4 (some .int) :: ws) ({ frames := 2, cells := 0, slots := 0, locals := 34 } : Room)) (fun xa xU => xa = #[(.ref o), (.ref d), (.int y)] ∧ Z.Warmed39 xU.vm ∧ xU.heap = h0) (fun _ _ _ _ _ => True) (fun _ xU xo xU' => ∃ xv xL, xo = .returned xv ∧ Q_close_2y Z o d a1 k1 x y b2 k2 ea eb h0 n0 xv xU'.heap xL ∧ FrameEnd xU xo xU' xL ({ frames := 2, cells := 0, slots := 0, locals := 34 } : Room).cells ({ frames := 2, cells := 0, slots := 0, locals := 34 } : Room).slots) := by
  refine MetFree.of_bodySF (plainFor_of_name pn_com_example_macroweave_macroweave_BracketPairs) hisR ?_
  intro pP eE sS mM argS belowS methS cC s₁ Bd hml0 hP hK
  obtain ⟨rfl, hZ, hh⟩ := hP
  have hx := Bd.exec
  have hby := Bd.bytes
  have hml : cC.maxLocals = 4 := hml0
  have hown : sS.vm.findClass "com/example/macroweave/macroweave/BracketPairs" = some mM.cls := findClass_of_methodNamed Bd.named
  have hnm := (name_of_methodNamed Bd.named Bd.method).1
  have X0 : Stand pP l eE ({ frames := 2, cells := 0, slots := 0, locals := 34 } : Room) sS mM #[(.ref o), (.ref d), (.int y)] belowS methS cC s₁ [] 0 0 := Stand.of_body Bd
  have e0 : s₁.heap = h0 := by rw [← hh, Bd.state]; rfl
  have N0 := Fr.nil n0
  have pre0 : ∀ t', Steps pP.tables eE belowS (s₁.setTop (mkF mM 0 #[.val (.ref o), .val (.ref d), .val (.int y), .unset] [])) t' → Steps pP.tables eE belowS (s₁.setTop (entryFrame mM #[(.ref o), (.ref d), (.int y)] 4)) t' := fun t' kk' => castTop (ef_close_2y mM o d a1 k1 x y b2 k2 ea eb) kk'
  obtain ⟨T101, X101, e101, st101⟩ := getF X0 hx hZ hown (host := "") (Or.inl (wi hw 23 rfl)) Via.refl e0 F_brackets_o (g := (mkF mM 2 #[.val (.ref o), .val (.ref d), .val (.int y), .unset] [(.ref o), (.ref d)])) rfl rfl (hb hby d_prog_4_method_2_2)
  obtain ⟨T102, X102, e102, st102⟩ := getF X101 hx hZ hown (host := "") (Or.inl (wi hw 14 rfl)) Via.refl e101 F_contentStarts_o (g := (mkF mM 11 #[.val (.ref o), .val (.ref d), .val (.int y), .unset] [(.ref o)])) rfl rfl (hb hby d_prog_4_method_2_11)
  obtain ⟨T103, X103, e103, st103⟩ := getF X102 hx hZ hown (host := "") (Or.inl (wi hw 25 rfl)) Via.refl e102 F_size_o (g := (mkF mM 16 #[.val (.ref o), .val (.ref d), .val (.int y), .unset] [(.ref o), (.int (0 : Int32)), (.ref a1)])) rfl rfl (hb hby d_prog_4_method_2_16)
  obtain ⟨_, _, ⟨T104, L104, k104, n104⟩, -, X104, ⟨Lc104, hQ104, l104, y104, z104⟩, st104⟩ := Jvm.LawKit.callS X103 hx (y := (⟨"java/util/Arrays", "binarySearch", "([IIII)I"⟩ : MethodName)) hown (mvT hZ (wi hw 53 rfl)) (mvT hZ (wi hw 54 rfl)) (mvT hZ (wi hw 33 rfl)) (mvT hZ (wi hw 55 rfl)) (by decide) (backOf (W := 0) (rm_bs_2y l Z a0 hw [] a1 k1 x y h0 n0 (by omega) V_a1 hc33_103_104) hZ (wi hw 55 rfl) (wi hw 33 rfl) (by decide) (by decide)) (g := (mkF mM 20 #[.val (.ref o), .val (.ref d), .val (.int y), .unset] [(.int y), (.int (2 : Int32)), (.int (0 : Int32)), (.ref a1)])) rfl (by rw [hml]; rfl) (argsL := [(.ref a1), (.int (0 : Int32)), (.int (2 : Int32)), (.int y)]) (rest := []) (lenOf pd_6 rfl) rfl (by show 2 * 0 + _ ≤ _; exact Nat.le_of_eq rfl) (hb hby d_prog_4_method_2_20) (fun _ _ => ⟨rfl, e103, Nat.le_of_ble_eq_true rfl, Nat.le_of_ble_eq_true rfl⟩)
  dsimp only [Pt.U, Pt.locs, Pt.cells, Pt.slots] at X104 l104 y104 z104 st104 hQ104
  subst l104 y104 z104
  obtain ⟨h104, e104⟩ : ∃ z, T104.heap = z := ⟨_, rfl⟩
  rw [e104] at hQ104
  obtain ⟨rfl, N104q, eq104⟩ := hQ104
  rw [eq104] at e104
  have N104 := Fr.app N0 N104q
  obtain ⟨T105, X105, e105, st105⟩ := getF X104 hx hZ hown (host := "") (Or.inl (wi hw 16 rfl)) Via.refl e104 F_closes_o (g := (mkF mM 29 (Lc_close_2y_0 o d y) [(.ref o)])) rfl rfl (hb hby d_prog_4_method_2_29)
  obtain ⟨cl106, Ar106, q106, S106, Ng106, Ha106, Ga106⟩ := id V_b2
  have hin106 : ¬ ((1 : Int32) < 0 ∨ cl106.slots.size ≤ ((1 : Int32)).toNatClampNeg) := inb_of S106 ⟨by decide, by decide⟩
  have hat106 : cl106.slots[((1 : Int32)).toNatClampNeg]? = some (.int eb) := Ha106.at hin106 (rfl)
  obtain ⟨fs, hr, hrun, hended, hW, hsame⟩ := X105.leave (v := some (.int eb)) (fun h => by rw [Bd.returns] at h; cases h)
  refine ⟨_, _, pre0 _ ?_, hrun, hended, _, _, rfl, ?_, ⟨_, rfl⟩, hW, hsame.mono (by decide) (by decide)⟩
  · show SS pP eE belowS s₁ (mkF mM 0 #[.val (.ref o), .val (.ref d), .val (.int y), .unset] []) _
    refine XS.aloadN X0.here hx rfl (hb hby d_prog_4_method_2_0) rfl rfl ?_
    show SS pP eE belowS s₁ (mkF mM 1 #[.val (.ref o), .val (.ref d), .val (.int y), .unset] [(.ref d)]) _
    refine XS.aloadN X0.here hx rfl (hb hby d_prog_4_method_2_1) rfl rfl ?_
    show SS pP eE belowS s₁ (mkF mM 2 #[.val (.ref o), .val (.ref d), .val (.int y), .unset] [(.ref o), (.ref d)]) _
    refine st101 _ ?_
    show SS pP eE belowS T101 (mkF mM 5 #[.val (.ref o), .val (.ref d), .val (.int y), .unset] [(.ref d), (.ref d)]) _
    refine Jvm.RoadKit.acmp (g := (mkF mM 5 #[.val (.ref o), .val (.ref d), .val (.int y), .unset] [(.ref d), (.ref d)])) X101 hx rfl rfl rfl (pc0 := 5) (pc' := 10) (same := true) rfl (hb hby d_prog_4_method_2_5) rfl (decide_eq_true rfl) (by decide) (by decide) ?_
    show SS pP eE belowS T101 (mkF mM 10 #[.val (.ref o), .val (.ref d), .val (.int y), .unset] []) _
    refine XS.aloadN X101.here hx rfl (hb hby d_prog_4_method_2_10) rfl rfl ?_
    show SS pP eE belowS T101 (mkF mM 11 #[.val (.ref o), .val (.ref d), .val (.int y), .unset] [(.ref o)]) _
    refine st102 _ ?_
    show SS pP eE belowS T102 (mkF mM 14 #[.val (.ref o), .val (.ref d), .val (.int y), .unset] [(.ref a1)]) _
    refine XS.iconst X102.here hx rfl (hb hby d_prog_4_method_2_14) ?_
    show SS pP eE belowS T102 (mkF mM 15 #[.val (.ref o), .val (.ref d), .val (.int y), .unset] [(.int (0 : Int32)), (.ref a1)]) _
    refine XS.aloadN X102.here hx rfl (hb hby d_prog_4_method_2_15) rfl rfl ?_
    show SS pP eE belowS T102 (mkF mM 16 #[.val (.ref o), .val (.ref d), .val (.int y), .unset] [(.ref o), (.int (0 : Int32)), (.ref a1)]) _
    refine st103 _ ?_
    show SS pP eE belowS T103 (mkF mM 19 #[.val (.ref o), .val (.ref d), .val (.int y), .unset] [(.int (2 : Int32)), (.int (0 : Int32)), (.ref a1)]) _
    refine XS.iloadN X103.here hx rfl (hb hby d_prog_4_method_2_19) rfl ?_
    show SS pP eE belowS T103 (mkF mM 20 #[.val (.ref o), .val (.ref d), .val (.int y), .unset] [(.int y), (.int (2 : Int32)), (.int (0 : Int32)), (.ref a1)]) _
    refine st104 _ ?_
    show SS pP eE belowS T104 (mkF mM 23 #[.val (.ref o), .val (.ref d), .val (.int y), .unset] [(.int (1 : Int32))]) _
    refine XS.istoreN X104.here hx rfl (hb hby d_prog_4_method_2_23) rfl (l' := (Lc_close_2y_0 o d y)) rfl ?_
    show SS pP eE belowS T104 (mkF mM 24 (Lc_close_2y_0 o d y) []) _
    refine XS.iloadN X104.here hx rfl (hb hby d_prog_4_method_2_24) rfl ?_
    show SS pP eE belowS T104 (mkF mM 25 (Lc_close_2y_0 o d y) [(.int (1 : Int32))]) _
    refine XS.ifNo X104.here hx rfl (hb hby d_prog_4_method_2_25) rfl ((if0 _ _).trans (flt (by decide : ¬ ((1 : Int32) < (0 : Int32)))).1) ?_
    show SS pP eE belowS T104 (mkF mM 28 (Lc_close_2y_0 o d y) []) _
    refine XS.aloadN X104.here hx rfl (hb hby d_prog_4_method_2_28) rfl rfl ?_
    show SS pP eE belowS T104 (mkF mM 29 (Lc_close_2y_0 o d y) [(.ref o)]) _
    refine st105 _ ?_
    show SS pP eE belowS T105 (mkF mM 32 (Lc_close_2y_0 o d y) [(.ref b2)]) _
    refine XS.iloadN X105.here hx rfl (hb hby d_prog_4_method_2_32) rfl ?_
    show SS pP eE belowS T105 (mkF mM 33 (Lc_close_2y_0 o d y) [(.int (1 : Int32)), (.ref b2)]) _
    refine X105.iaload hx (j := (1 : Int32)) (v := (.int eb)) (by rw [e105]; exact Ar106.1) (State.isArrayOf_alike hZ.alike Ar106.2.1) Ar106.2.2 hin106 hat106 (g := (mkF mM 33 (Lc_close_2y_0 o d y) [(.int (1 : Int32)), (.ref b2)])) rfl rfl (hb hby d_prog_4_method_2_33) _ ?_
    show SS pP eE belowS T105 (mkF mM 34 (Lc_close_2y_0 o d y) [(.int eb)]) _
    refine XS.goto X105.here hx rfl (pc0 := 34) (pc' := 38) rfl (hb hby d_prog_4_method_2_34) (by decide) (by decide) ?_
    show SS pP eE belowS T105 (mkF mM 38 (Lc_close_2y_0 o d y) [(.int eb)]) _
    exact retI X105 hx Bd.returns (hb hby d_prog_4_method_2_38) hr
  · show Q_close_2y Z o d a1 k1 x y b2 k2 ea eb h0 n0 _ T105.heap _
    rw [e105]
    exact ⟨rfl, N104, rfl⟩
def Q_law (n0 : Nat) (v : Option Value) (L : List Loc) : Prop := v = some (.int 1) ∧ Fr n0 L
theorem pd_0 : parseMethodDescriptor "()V" = some ⟨[], none⟩ := by decide +kernel
theorem pd_1 : parseMethodDescriptor "(Lcom/example/macroweave/macroweave/Brackets;I)I" = some ⟨[(.object "com/example/macroweave/macroweave/Brackets"), .int], some .int⟩ := by decide +kernel
theorem pd_5 : parseMethodDescriptor "(II)V" = some ⟨[.int, .int], none⟩ := by decide +kernel
theorem pn_com_example_macroweave_macroweave_BracketPairsClosedPinLaw : plainName "com/example/macroweave/macroweave/BracketPairsClosedPinLaw" = true := by first | (simp [plainName, overriddenIn]; done) | decide +kernel
abbrev Lc_law_gt_0_0_0 (p0 : Int32) (p1 : Int32) (p2 : Int32) (p3 : Int32) (p4 : Int32) : Array Slot := #[.val (.int p0), .val (.int p1), .val (.int p2), .val (.int p3), .val (.int p4), .unset, .unset, .unset, .unset, .unset, .unset, .unset, .unset, .unset]
abbrev Lc_law_gt_0_0_1 (p0 : Int32) (p1 : Int32) (p2 : Int32) (p3 : Int32) (p4 : Int32) (d : Addr) : Array Slot := #[.val (.int p0), .val (.int p1), .val (.int p2), .val (.int p3), .val (.int p4), .val (.ref d), .unset, .unset, .unset, .unset, .unset, .unset, .unset, .unset]
abbrev Lc_law_gt_0_0_2 (p0 : Int32) (p1 : Int32) (p2 : Int32) (p3 : Int32) (p4 : Int32) (d : Addr) (b103 : Addr) : Array Slot := #[.val (.int p0), .val (.int p1), .val (.int p2), .val (.int p3), .val (.int p4), .val (.ref d), .val (.ref b103), .unset, .unset, .unset, .unset, .unset, .unset, .unset]
abbrev Lc_law_gt_0_0_3 (p0 : Int32) (p1 : Int32) (p2 : Int32) (p3 : Int32) (p4 : Int32) (d : Addr) (b103 : Addr) : Array Slot := #[.val (.int p0), .val (.int p1), .val (.int p2), .val (.int p3), .val (.int p4), .val (.ref d), .val (.ref b103), .val (.int (0 : Int32)), .unset, .unset, .unset, .unset, .unset, .unset]
abbrev Lc_law_gt_0_0_4 (p0 : Int32) (p1 : Int32) (p2 : Int32) (p3 : Int32) (p4 : Int32) (d : Addr) (b103 : Addr) : Array Slot := #[.val (.int p0), .val (.int p1), .val (.int p2), .val (.int p3), .val (.int p4), .val (.ref d), .val (.ref b103), .val (.int (0 : Int32)), .val (.int (1 : Int32)), .unset, .unset, .unset, .unset, .unset]
abbrev Lc_law_gt_0_0_5 (p0 : Int32) (p1 : Int32) (p2 : Int32) (p3 : Int32) (p4 : Int32) (d : Addr) (b103 : Addr) : Array Slot := #[.val (.int p0), .val (.int p1), .val (.int p2), .val (.int p3), .val (.int p4), .val (.ref d), .val (.ref b103), .val (.int (0 : Int32)), .val (.int (1 : Int32)), .val (.int (p4 &&& (3 : Int32))), .unset, .unset, .unset, .unset]
abbrev Lc_law_gt_0_0_6 (p0 : Int32) (p1 : Int32) (p2 : Int32) (p3 : Int32) (p4 : Int32) (d : Addr) (b103 : Addr) : Array Slot := #[.val (.int p0), .val (.int p1), .val (.int p2), .val (.int p3), .val (.int p4), .val (.ref d), .val (.ref b103), .val (.int (0 : Int32)), .val (.int (1 : Int32)), .val (.int (p4 &&& (3 : Int32))), .val (.int (0 : Int32)), .unset, .unset, .unset]
abbrev Lc_law_gt_0_0_7 (p0 : Int32) (p1 : Int32) (p2 : Int32) (p3 : Int32) (p4 : Int32) (d : Addr) (b103 : Addr) : Array Slot := #[.val (.int p0), .val (.int p1), .val (.int p2), .val (.int p3), .val (.int p4), .val (.ref d), .val (.ref b103), .val (.int (0 : Int32)), .val (.int (1 : Int32)), .val (.int (p4 &&& (3 : Int32))), .val (.int (0 : Int32)), .val (.int (0 : Int32)), .unset, .unset]
abbrev Lc_law_gt_0_0_8 (p0 : Int32) (p1 : Int32) (p2 : Int32) (p3 : Int32) (p4 : Int32) (d : Addr) (b103 : Addr) : Array Slot := #[.val (.int p0), .val (.int p1), .val (.int p2), .val (.int p3), .val (.int p4), .val (.ref d), .val (.ref b103), .val (.int (0 : Int32)), .val (.int (1 : Int32)), .val (.int (p4 &&& (3 : Int32))), .val (.int (0 : Int32)), .val (.int (0 : Int32)), .val (.int p2), .unset]
abbrev Lc_law_gt_0_0_9 (p0 : Int32) (p1 : Int32) (p2 : Int32) (p3 : Int32) (p4 : Int32) (d : Addr) (b103 : Addr) : Array Slot := #[.val (.int p0), .val (.int p1), .val (.int p2), .val (.int p3), .val (.int p4), .val (.ref d), .val (.ref b103), .val (.int (0 : Int32)), .val (.int (1 : Int32)), .val (.int (p4 &&& (3 : Int32))), .val (.int (0 : Int32)), .val (.int (0 : Int32)), .val (.int p2), .val (.int (-1 : Int32))]
theorem ef_law_gt_0_0 (mM : MethodId) (p0 : Int32) (p1 : Int32) (p2 : Int32) (p3 : Int32) (p4 : Int32) (aN : Addr) (kN : ClassId) (d : Addr) : entryFrame mM #[(.int p0), (.int p1), (.int p2), (.int p3), (.int p4)] maxLocals = mkF mM 0 #[.val (.int p0), .val (.int p1), .val (.int p2), .val (.int p3), .val (.int p4), .unset, .unset, .unset, .unset, .unset, .unset, .unset, .unset, .unset] [] := by first | (simp [entryFrame, mkF, argsToLocals, Value.category, maxLocals]; done) | rfl
set_option maxRecDepth 65536 in
set_option maxHeartbeats 40000000 in
theorem rm_law_gt_0_0 (l : Launch) (Z : State) (a0 : Array Value) (hw : ∀ d ∈ tables_1, d.before a0 Z = true) (ws : List Jvm.Cond) (p0 : Int32) (p1 : Int32) (p2 : Int32) (p3 : Int32) (p4 : Int32) (aN : Addr) (kN : ClassId) (d : Addr) (h0 : Heap) (n0 : Nat) (Z0 : n0 ≤ h0.size) (OL : Old Z n0 h0) (S_DEFAULT : Sta Z Z.heap "com/example/macroweave/macroweave/Brackets" "DEFAULT" "Lcom/example/macroweave/macroweave/Brackets;" (.ref d)) (S_NONE : Sta Z Z.heap "com/example/macroweave/macroweave/BracketPairs" "NONE" "[I" (.ref aN)) (V_aN : Arv Z h0 aN kN .int (0 : Int32) [] (.int (0 : Int32))) (hc37_112 : p0 < p1) (hc66 : (p4 &&& (3 : Int32)) = (0 : Int32)) (hc94 : ((p4 >>> ((2 : Int32) &&& 31)) &&& (1 : Int32)) = (0 : Int32)) :
    MetFree l x (head1 (Jvm.Cond.code x code maxLocals ret :: ws) room_1) (fun xa xU => xa = #[(.int p0), (.int p1), (.int p2), (.int p3), (.int p4)] ∧ Z.Warmed39 xU.vm ∧ xU.heap = h0) (fun _ _ _ _ _ => True) (fun _ xU xo xU' => ∃ xv xL, xo = .returned xv ∧ Q_law n0 xv xL ∧ FrameEnd xU xo xU' xL room_1.cells room_1.slots) := by
  refine MetFree.of_bodySF (plainFor_of_name pn_com_example_macroweave_macroweave_BracketPairsClosedPinLaw) hisR ?_
  intro pP eE sS mM argS belowS methS cC s₁ Bd hml0 hP hK
  obtain ⟨rfl, hZ, hh⟩ := hP
  have hx := Bd.exec
  have hby := Bd.bytes
  have hml : cC.maxLocals = 14 := hml0
  have hown : sS.vm.findClass "com/example/macroweave/macroweave/BracketPairsClosedPinLaw" = some mM.cls := findClass_of_methodNamed Bd.named
  have hnm := (name_of_methodNamed Bd.named Bd.method).1
  have X0 : Stand pP l eE room_1 sS mM #[(.int p0), (.int p1), (.int p2), (.int p3), (.int p4)] belowS methS cC s₁ [] 0 0 := Stand.of_body Bd
  have e0 : s₁.heap = h0 := by rw [← hh, Bd.state]; rfl
  have N0 := Fr.nil n0
  have pre0 : ∀ t', Steps pP.tables eE belowS (s₁.setTop (mkF mM 0 #[.val (.int p0), .val (.int p1), .val (.int p2), .val (.int p3), .val (.int p4), .unset, .unset, .unset, .unset, .unset, .unset, .unset, .unset, .unset] [])) t' → Steps pP.tables eE belowS (s₁.setTop (entryFrame mM #[(.int p0), (.int p1), (.int p2), (.int p3), (.int p4)] maxLocals)) t' := fun t' kk' => castTop (ef_law_gt_0_0 mM p0 p1 p2 p3 p4 aN kN d) kk'
  have c101_S_DEFAULT : Sta Z h0 "com/example/macroweave/macroweave/Brackets" "DEFAULT" "Lcom/example/macroweave/macroweave/Brackets;" (.ref d) := Sta.ext OL.2 S_DEFAULT
  obtain ⟨T102, X102, e102, st102⟩ := getS2 X0 hx hZ hown (host := "") (Or.inl (wi hw 0 rfl)) Via.refl e0 c101_S_DEFAULT (g := (mkF mM 0 (Lc_law_gt_0_0_0 p0 p1 p2 p3 p4) [])) rfl (hb hby at_0)
  obtain ⟨T103, h103, X103, e103, E103, A103, D103, B103, st103⟩ := newO X102 hx hZ hown (wi hw 3 rfl) (wi hw 4 rfl) (wi hw 5 rfl) e102 (g := (mkF mM 5 (Lc_law_gt_0_0_1 p0 p1 p2 p3 p4 d) [])) rfl (hb hby at_5) (by decide) (by decide)
  obtain ⟨b103, g103⟩ : ∃ z : Nat, z = h0.size := ⟨_, rfl⟩
  rw [← g103] at A103 D103 B103 st103
  have Sz1 : h0.size ≤ h103.size := E103.1
  have F103_contentStarts : Fld Z h103 b103 "com/example/macroweave/macroweave/BracketPairs" "contentStarts" "[I" .null := D103 (Or.inl (wi hw 15 rfl)) (ty := (.array .int)) (by decide)
  have F103_closes : Fld Z h103 b103 "com/example/macroweave/macroweave/BracketPairs" "closes" "[I" .null := D103 (Or.inl (wi hw 17 rfl)) (ty := (.array .int)) (by decide)
  have F103_brackets : Fld Z h103 b103 "com/example/macroweave/macroweave/BracketPairs" "brackets" "Lcom/example/macroweave/macroweave/Brackets;" .null := D103 (Or.inl (wi hw 24 rfl)) (ty := (.object "com/example/macroweave/macroweave/Brackets")) (by decide)
  have F103_size : Fld Z h103 b103 "com/example/macroweave/macroweave/BracketPairs" "size" "I" (.int (0 : Int32)) := D103 (Or.inl (wi hw 26 rfl)) (ty := .int) (by decide)
  have c105_OL : Old Z n0 h103 := OL.ext E103
  have ge106_b103 : @LE.le Nat _ n0 b103 := by omega
  obtain ⟨_, _, ⟨T104, L104, k104, n104⟩, -, X104, ⟨Lc104, hQ104, l104, y104, z104⟩, st104⟩ := X103.specialBack hx (y := (⟨"com/example/macroweave/macroweave/BracketPairs", "<init>", "()V"⟩ : MethodName)) rfl hown (mvT hZ (wi hw 6 rfl)) (mvT hZ (wi hw 7 rfl)) (mvT hZ (wi hw 8 rfl)) (by decide) (backOf (W := 1) (rm_init l Z a0 hw [] b103 aN .null .null .null (.int (0 : Int32)) h103 n0 (by omega) A103 F103_contentStarts F103_closes F103_brackets F103_size ge106_b103 c105_OL S_NONE) hZ (wi hw 8 rfl) (wi hw 5 rfl) (by decide) (by decide)) (g := (mkF mM 9 (Lc_law_gt_0_0_1 p0 p1 p2 p3 p4 d) [(.ref b103), (.ref b103)])) rfl (by rw [hml]; rfl) (Steps.refl _) (a := b103) (argsL := []) (rest := [(.ref b103)]) (lenOf pd_0 rfl) rfl (by show 2 * 0 + _ ≤ _; exact Nat.le_of_eq rfl) (hb hby at_9) (fun _ _ => ⟨rfl, e103, Nat.le_of_ble_eq_true rfl, Nat.le_of_ble_eq_true rfl⟩)
  dsimp only [Pt.U, Pt.locs, Pt.cells, Pt.slots] at X104 l104 y104 z104 st104 hQ104
  subst l104 y104 z104
  obtain ⟨h104, e104⟩ : ∃ z, T104.heap = z := ⟨_, rfl⟩
  rw [e104] at hQ104
  obtain ⟨rfl, N104q, Kp104, p104_E_a1, p104_F_contentStarts_a1, p104_F_closes_a1, p104_F_brackets_a1, p104_F_size_a1⟩ := hQ104
  have Sz2 : h103.size ≤ h104.size := Kp104.1
  have N104 := Fr.app N0 N104q
  have c108_V_aN : Arv Z h103 aN kN .int (0 : Int32) [] (.int (0 : Int32)) := V_aN.ext E103
  have lt_aN : @LT.lt Nat _ aN h0.size := V_aN.lt
  have lt_b103 : @LT.lt Nat _ b103 h104.size := p104_E_a1.lt
  have ne_aN_b103_109 : aN ≠ b103 := (by omega : @Ne Nat aN b103)
  have c110_V_aN : Arv Z h104 aN kN .int (0 : Int32) [] (.int (0 : Int32)) := c108_V_aN.keep Kp104 (ninS ne_aN_b103_109 nin0)
  have ne_b103_aN_111 : b103 ≠ aN := (by omega : @Ne Nat b103 aN)
  obtain ⟨cq107, kq107, q107a, q107b, q107c⟩ := isOf hZ e104 p104_E_a1
  obtain ⟨_, _, ⟨T107, L107, k107, n107⟩, -, X107, ⟨Lc107, hQ107, l107, y107, z107⟩, st107⟩ := X104.virtualBack hx (y := (⟨"com/example/macroweave/macroweave/BracketPairs", "opened", "(Lcom/example/macroweave/macroweave/Brackets;I)I"⟩ : MethodName)) (z := (⟨"com/example/macroweave/macroweave/BracketPairs", "opened", "(Lcom/example/macroweave/macroweave/Brackets;I)I"⟩ : MethodName)) hown (mvT hZ (wi hw 18 rfl)) (mvT hZ (wi hw 19 rfl)) (notFace_of_selects (args := #[]) (mvT hZ (wi hw 21 rfl))) (mvT hZ (wi hw 21 rfl)) (mvT hZ (wi hw 20 rfl)) (by decide) (backOf (W := 0) (rm_open1 l Z a0 hw [] b103 d p0 aN kN h104 n0 (by omega) p104_E_a1 p104_F_brackets_a1 p104_F_contentStarts_a1 p104_F_closes_a1 p104_F_size_a1 c110_V_aN ne_b103_aN_111 ge106_b103) hZ (wi hw 22 rfl) (wi hw 5 rfl) (by decide) (by decide)) q107a q107c (g := (mkF mM 19 (Lc_law_gt_0_0_2 p0 p1 p2 p3 p4 d b103) [(.int p0), (.ref d), (.ref b103)])) rfl (by rw [hml]; rfl) (Steps.refl _) (argsL := [(.ref d), (.int p0)]) (rest := []) (lenOf pd_1 rfl) rfl (by show 2 * 0 + _ ≤ _; exact Nat.le_of_eq rfl) (hb hby at_19) (fun _ _ => ⟨rfl, e104, Nat.le_of_ble_eq_true rfl, Nat.le_of_ble_eq_true rfl⟩)
  dsimp only [Pt.U, Pt.locs, Pt.cells, Pt.slots] at X107 l107 y107 z107 st107 hQ107
  subst l107 y107 z107
  obtain ⟨h107, e107⟩ : ∃ z, T107.heap = z := ⟨_, rfl⟩
  rw [e107] at hQ107
  obtain ⟨b1_107, b2_107, k1_107, k2_107, rfl, N107q, Kp107, p107_E_a1, p107_F_brackets_a1, p107_F_contentStarts_a1, p107_F_closes_a1, p107_F_size_a1, p107_V_b1, p107_V_b2, p107_gh_b1, p107_gh_b2, p107_ne_b1_b2⟩ := hQ107
  have Sz3 : h104.size ≤ h107.size := Kp107.1
  have N107 := Fr.app N104 N107q
  have lt_b1_107 : @LT.lt Nat _ b1_107 h107.size := p107_V_b1.lt
  have ne_b103_b1_107_113 : b103 ≠ b1_107 := (by omega : @Ne Nat b103 b1_107)
  have lt_b2_107 : @LT.lt Nat _ b2_107 h107.size := p107_V_b2.lt
  have ne_b103_b2_107_114 : b103 ≠ b2_107 := (by omega : @Ne Nat b103 b2_107)
  have ge115_b1_107 : @LE.le Nat _ n0 b1_107 := by omega
  have ge116_b2_107 : @LE.le Nat _ n0 b2_107 := by omega
  obtain ⟨cq112, kq112, q112a, q112b, q112c⟩ := isOf hZ e107 p107_E_a1
  obtain ⟨_, _, ⟨T112, L112, k112, n112⟩, -, X112, ⟨Lc112, hQ112, l112, y112, z112⟩, st112⟩ := X107.virtualBack hx (y := (⟨"com/example/macroweave/macroweave/BracketPairs", "opened", "(Lcom/example/macroweave/macroweave/Brackets;I)I"⟩ : MethodName)) (z := (⟨"com/example/macroweave/macroweave/BracketPairs", "opened", "(Lcom/example/macroweave/macroweave/Brackets;I)I"⟩ : MethodName)) hown (mvT hZ (wi hw 18 rfl)) (mvT hZ (wi hw 19 rfl)) (notFace_of_selects (args := #[]) (mvT hZ (wi hw 21 rfl))) (mvT hZ (wi hw 21 rfl)) (mvT hZ (wi hw 20 rfl)) (by decide) (backOf (W := 0) (rm_open2 l Z a0 hw [] b103 d p1 p0 b1_107 b2_107 k1_107 k2_107 h107 n0 (by omega) p107_E_a1 p107_F_brackets_a1 p107_F_contentStarts_a1 p107_F_closes_a1 p107_F_size_a1 p107_V_b1 p107_V_b2 ne_b103_b1_107_113 ne_b103_b2_107_114 p107_ne_b1_b2 ge106_b103 ge115_b1_107 ge116_b2_107 hc37_112) hZ (wi hw 22 rfl) (wi hw 5 rfl) (by decide) (by decide)) q112a q112c (g := (mkF mM 29 (Lc_law_gt_0_0_3 p0 p1 p2 p3 p4 d b103) [(.int p1), (.ref d), (.ref b103)])) rfl (by rw [hml]; rfl) (Steps.refl _) (argsL := [(.ref d), (.int p1)]) (rest := []) (lenOf pd_1 rfl) rfl (by show 2 * 0 + _ ≤ _; exact Nat.le_of_eq rfl) (hb hby at_29) (fun _ _ => ⟨rfl, e107, Nat.le_of_ble_eq_true rfl, Nat.le_of_ble_eq_true rfl⟩)
  dsimp only [Pt.U, Pt.locs, Pt.cells, Pt.slots] at X112 l112 y112 z112 st112 hQ112
  subst l112 y112 z112
  obtain ⟨h112, e112⟩ : ∃ z, T112.heap = z := ⟨_, rfl⟩
  rw [e112] at hQ112
  obtain ⟨rfl, N112q, Kp112, p112_E_a1, p112_F_brackets_a1, p112_F_contentStarts_a1, p112_F_closes_a1, p112_F_size_a1, p112_V_b1, p112_V_b2⟩ := hQ112
  have Sz4 : h107.size ≤ h112.size := Kp112.1
  have N112 := Fr.app N107 N112q
  obtain ⟨cq117, kq117, q117a, q117b, q117c⟩ := isOf hZ e112 p112_E_a1
  obtain ⟨_, _, ⟨T117, L117, k117, n117⟩, -, X117, ⟨Lc117, hQ117, l117, y117, z117⟩, st117⟩ := X112.virtualBack hx (y := (⟨"com/example/macroweave/macroweave/BracketPairs", "closed", "(II)V"⟩ : MethodName)) (z := (⟨"com/example/macroweave/macroweave/BracketPairs", "closed", "(II)V"⟩ : MethodName)) hown (mvT hZ (wi hw 43 rfl)) (mvT hZ (wi hw 44 rfl)) (notFace_of_selects (args := #[]) (mvT hZ (wi hw 46 rfl))) (mvT hZ (wi hw 46 rfl)) (mvT hZ (wi hw 45 rfl)) (by decide) (backOf (W := 0) (rm_closed0 l Z a0 hw [] b103 p2 b2_107 k2_107 (-1 : Int32) (-1 : Int32) h112 n0 (by omega) p112_E_a1 p112_F_closes_a1 p112_V_b2 ne_b103_b2_107_114 ge116_b2_107) hZ (wi hw 47 rfl) (wi hw 5 rfl) (by decide) (by decide)) q117a q117c (g := (mkF mM 109 (Lc_law_gt_0_0_7 p0 p1 p2 p3 p4 d b103) [(.int p2), (.int (0 : Int32)), (.ref b103)])) rfl (by rw [hml]; rfl) (Steps.refl _) (argsL := [(.int (0 : Int32)), (.int p2)]) (rest := []) (lenOf pd_5 rfl) rfl (by show 2 * 0 + _ ≤ _; exact Nat.le_of_eq rfl) (hb hby at_109) (fun _ _ => ⟨rfl, e112, Nat.le_of_ble_eq_true rfl, Nat.le_of_ble_eq_true rfl⟩)
  dsimp only [Pt.U, Pt.locs, Pt.cells, Pt.slots] at X117 l117 y117 z117 st117 hQ117
  subst l117 y117 z117
  obtain ⟨h117, e117⟩ : ∃ z, T117.heap = z := ⟨_, rfl⟩
  rw [e117] at hQ117
  obtain ⟨rfl, N117q, Kp117, p117_V_b2⟩ := hQ117
  have Sz5 : h112.size ≤ h117.size := Kp117.1
  have N117 := Fr.app N112 N117q
  have c119_F_brackets_b103 : Fld Z h117 b103 "com/example/macroweave/macroweave/BracketPairs" "brackets" "Lcom/example/macroweave/macroweave/Brackets;" (.ref d) := p112_F_brackets_a1.keep Kp117 (ninS ne_b103_b2_107_114 nin0)
  have c120_F_contentStarts_b103 : Fld Z h117 b103 "com/example/macroweave/macroweave/BracketPairs" "contentStarts" "[I" (.ref b1_107) := p112_F_contentStarts_a1.keep Kp117 (ninS ne_b103_b2_107_114 nin0)
  have c121_F_closes_b103 : Fld Z h117 b103 "com/example/macroweave/macroweave/BracketPairs" "closes" "[I" (.ref b2_107) := p112_F_closes_a1.keep Kp117 (ninS ne_b103_b2_107_114 nin0)
  have c122_F_size_b103 : Fld Z h117 b103 "com/example/macroweave/macroweave/BracketPairs" "size" "I" (.int (2 : Int32)) := p112_F_size_a1.keep Kp117 (ninS ne_b103_b2_107_114 nin0)
  have c123_V_b1_107 : Arv Z h117 b1_107 k1_107 .int (4 : Int32) [(.int p0), (.int p1), (.int (0 : Int32)), (.int (0 : Int32))] (.int (0 : Int32)) := p112_V_b1.keep Kp117 (ninS p107_ne_b1_b2 nin0)
  have c124_E_b103 : Exa Z h117 b103 "com/example/macroweave/macroweave/BracketPairs" := p112_E_a1.keep Kp117
  obtain ⟨cq118, kq118, q118a, q118b, q118c⟩ := isOf hZ e117 c124_E_b103
  obtain ⟨_, _, ⟨T118, L118, k118, n118⟩, -, X118, ⟨Lc118, hQ118, l118, y118, z118⟩, st118⟩ := X117.virtualBack hx (y := (⟨"com/example/macroweave/macroweave/BracketPairs", "close", "(Lcom/example/macroweave/macroweave/Brackets;I)I"⟩ : MethodName)) (z := (⟨"com/example/macroweave/macroweave/BracketPairs", "close", "(Lcom/example/macroweave/macroweave/Brackets;I)I"⟩ : MethodName)) hown (mvT hZ (wi hw 48 rfl)) (mvT hZ (wi hw 49 rfl)) (notFace_of_selects (args := #[]) (mvT hZ (wi hw 51 rfl))) (mvT hZ (wi hw 51 rfl)) (mvT hZ (wi hw 50 rfl)) (by decide) (backOf (W := 0) (rm_close_2x l Z a0 hw [] b103 d b1_107 k1_107 p0 p1 b2_107 k2_107 p2 (-1 : Int32) h117 n0 (by omega) c119_F_brackets_b103 c120_F_contentStarts_b103 c121_F_closes_b103 c122_F_size_b103 c123_V_b1_107 p117_V_b2) hZ (wi hw 52 rfl) (wi hw 5 rfl) (by decide) (by decide)) q118a q118c (g := (mkF mM 187 (Lc_law_gt_0_0_9 p0 p1 p2 p3 p4 d b103) [(.int p0), (.ref d), (.ref b103)])) rfl (by rw [hml]; rfl) (Steps.refl _) (argsL := [(.ref d), (.int p0)]) (rest := []) (lenOf pd_1 rfl) rfl (by show 2 * 0 + _ ≤ _; exact Nat.le_of_eq rfl) (hb hby at_187) (fun _ _ => ⟨rfl, e117, Nat.le_of_ble_eq_true rfl, Nat.le_of_ble_eq_true rfl⟩)
  dsimp only [Pt.U, Pt.locs, Pt.cells, Pt.slots] at X118 l118 y118 z118 st118 hQ118
  subst l118 y118 z118
  obtain ⟨h118, e118⟩ : ∃ z, T118.heap = z := ⟨_, rfl⟩
  rw [e118] at hQ118
  obtain ⟨rfl, N118q, eq118⟩ := hQ118
  rw [eq118] at e118
  have N118 := Fr.app N117 N118q
  obtain ⟨cq125, kq125, q125a, q125b, q125c⟩ := isOf hZ e118 c124_E_b103
  obtain ⟨_, _, ⟨T125, L125, k125, n125⟩, -, X125, ⟨Lc125, hQ125, l125, y125, z125⟩, st125⟩ := X118.virtualBack hx (y := (⟨"com/example/macroweave/macroweave/BracketPairs", "close", "(Lcom/example/macroweave/macroweave/Brackets;I)I"⟩ : MethodName)) (z := (⟨"com/example/macroweave/macroweave/BracketPairs", "close", "(Lcom/example/macroweave/macroweave/Brackets;I)I"⟩ : MethodName)) hown (mvT hZ (wi hw 48 rfl)) (mvT hZ (wi hw 49 rfl)) (notFace_of_selects (args := #[]) (mvT hZ (wi hw 51 rfl))) (mvT hZ (wi hw 51 rfl)) (mvT hZ (wi hw 50 rfl)) (by decide) (backOf (W := 0) (rm_close_2y l Z a0 hw [] b103 d b1_107 k1_107 p0 p1 b2_107 k2_107 p2 (-1 : Int32) h117 n0 (by omega) c119_F_brackets_b103 c120_F_contentStarts_b103 c121_F_closes_b103 c122_F_size_b103 c123_V_b1_107 p117_V_b2 hc37_112) hZ (wi hw 52 rfl) (wi hw 5 rfl) (by decide) (by decide)) q125a q125c (g := (mkF mM 200 (Lc_law_gt_0_0_9 p0 p1 p2 p3 p4 d b103) [(.int p1), (.ref d), (.ref b103)])) rfl (by rw [hml]; rfl) (Steps.refl _) (argsL := [(.ref d), (.int p1)]) (rest := []) (lenOf pd_1 rfl) rfl (by show 2 * 0 + _ ≤ _; exact Nat.le_of_eq rfl) (hb hby at_200) (fun _ _ => ⟨rfl, e118, Nat.le_of_ble_eq_true rfl, Nat.le_of_ble_eq_true rfl⟩)
  dsimp only [Pt.U, Pt.locs, Pt.cells, Pt.slots] at X125 l125 y125 z125 st125 hQ125
  subst l125 y125 z125
  obtain ⟨h125, e125⟩ : ∃ z, T125.heap = z := ⟨_, rfl⟩
  rw [e125] at hQ125
  obtain ⟨rfl, N125q, eq125⟩ := hQ125
  rw [eq125] at e125
  have N125 := Fr.app N118 N125q
  obtain ⟨fs, hr, hrun, hended, hW, hsame⟩ := X125.leave (v := some (.int (1 : Int32))) (fun h => by rw [Bd.returns] at h; cases h)
  refine ⟨_, _, pre0 _ ?_, hrun, hended, _, _, rfl, ?_, ⟨_, rfl⟩, hW, hsame.mono (by decide) (by decide)⟩
  · show SS pP eE belowS s₁ (mkF mM 0 (Lc_law_gt_0_0_0 p0 p1 p2 p3 p4) []) _
    refine st102 _ ?_
    show SS pP eE belowS T102 (mkF mM 3 (Lc_law_gt_0_0_0 p0 p1 p2 p3 p4) [(.ref d)]) _
    refine XS.astore X102.here hx rfl (hb hby at_3) rfl rfl (l' := (Lc_law_gt_0_0_1 p0 p1 p2 p3 p4 d)) rfl ?_
    show SS pP eE belowS T102 (mkF mM 5 (Lc_law_gt_0_0_1 p0 p1 p2 p3 p4 d) []) _
    refine st103 _ ?_
    show SS pP eE belowS T103 (mkF mM 8 (Lc_law_gt_0_0_1 p0 p1 p2 p3 p4 d) [(.ref b103)]) _
    refine XS.dup X103.here hx rfl (hb hby at_8) rfl rfl ?_
    show SS pP eE belowS T103 (mkF mM 9 (Lc_law_gt_0_0_1 p0 p1 p2 p3 p4 d) [(.ref b103), (.ref b103)]) _
    refine st104.trans ?_
    show SS pP eE belowS T104 (mkF mM 12 (Lc_law_gt_0_0_1 p0 p1 p2 p3 p4 d) [(.ref b103)]) _
    refine XS.astore X104.here hx rfl (hb hby at_12) rfl rfl (l' := (Lc_law_gt_0_0_2 p0 p1 p2 p3 p4 d b103)) rfl ?_
    show SS pP eE belowS T104 (mkF mM 14 (Lc_law_gt_0_0_2 p0 p1 p2 p3 p4 d b103) []) _
    refine XS.aload X104.here hx rfl (hb hby at_14) rfl rfl ?_
    show SS pP eE belowS T104 (mkF mM 16 (Lc_law_gt_0_0_2 p0 p1 p2 p3 p4 d b103) [(.ref b103)]) _
    refine XS.aload X104.here hx rfl (hb hby at_16) rfl rfl ?_
    show SS pP eE belowS T104 (mkF mM 18 (Lc_law_gt_0_0_2 p0 p1 p2 p3 p4 d b103) [(.ref d), (.ref b103)]) _
    refine XS.iloadN X104.here hx rfl (hb hby at_18) rfl ?_
    show SS pP eE belowS T104 (mkF mM 19 (Lc_law_gt_0_0_2 p0 p1 p2 p3 p4 d b103) [(.int p0), (.ref d), (.ref b103)]) _
    refine st107.trans ?_
    show SS pP eE belowS T107 (mkF mM 22 (Lc_law_gt_0_0_2 p0 p1 p2 p3 p4 d b103) [(.int (0 : Int32))]) _
    refine XS.istore X107.here hx rfl (hb hby at_22) rfl (l' := (Lc_law_gt_0_0_3 p0 p1 p2 p3 p4 d b103)) rfl ?_
    show SS pP eE belowS T107 (mkF mM 24 (Lc_law_gt_0_0_3 p0 p1 p2 p3 p4 d b103) []) _
    refine XS.aload X107.here hx rfl (hb hby at_24) rfl rfl ?_
    show SS pP eE belowS T107 (mkF mM 26 (Lc_law_gt_0_0_3 p0 p1 p2 p3 p4 d b103) [(.ref b103)]) _
    refine XS.aload X107.here hx rfl (hb hby at_26) rfl rfl ?_
    show SS pP eE belowS T107 (mkF mM 28 (Lc_law_gt_0_0_3 p0 p1 p2 p3 p4 d b103) [(.ref d), (.ref b103)]) _
    refine XS.iloadN X107.here hx rfl (hb hby at_28) rfl ?_
    show SS pP eE belowS T107 (mkF mM 29 (Lc_law_gt_0_0_3 p0 p1 p2 p3 p4 d b103) [(.int p1), (.ref d), (.ref b103)]) _
    refine st112.trans ?_
    show SS pP eE belowS T112 (mkF mM 32 (Lc_law_gt_0_0_3 p0 p1 p2 p3 p4 d b103) [(.int (1 : Int32))]) _
    refine XS.istore X112.here hx rfl (hb hby at_32) rfl (l' := (Lc_law_gt_0_0_4 p0 p1 p2 p3 p4 d b103)) rfl ?_
    show SS pP eE belowS T112 (mkF mM 34 (Lc_law_gt_0_0_4 p0 p1 p2 p3 p4 d b103) []) _
    refine XS.iload X112.here hx rfl (hb hby at_34) rfl ?_
    show SS pP eE belowS T112 (mkF mM 36 (Lc_law_gt_0_0_4 p0 p1 p2 p3 p4 d b103) [(.int (0 : Int32))]) _
    refine XS.ifYes X112.here hx rfl (pc0 := 36) (pc' := 41) rfl (hb hby at_36) rfl ((if0 _ _).trans (teq (by decide : (0 : Int32) = (0 : Int32))).1) (by decide) (by decide) ?_
    show SS pP eE belowS T112 (mkF mM 41 (Lc_law_gt_0_0_4 p0 p1 p2 p3 p4 d b103) []) _
    refine XS.iload X112.here hx rfl (hb hby at_41) rfl ?_
    show SS pP eE belowS T112 (mkF mM 43 (Lc_law_gt_0_0_4 p0 p1 p2 p3 p4 d b103) [(.int (1 : Int32))]) _
    refine XS.iloadN X112.here hx rfl (hb hby at_43) rfl ?_
    show SS pP eE belowS T112 (mkF mM 44 (Lc_law_gt_0_0_4 p0 p1 p2 p3 p4 d b103) [(.int p1), (.int (1 : Int32))]) _
    refine XS.iloadN X112.here hx rfl (hb hby at_44) rfl ?_
    show SS pP eE belowS T112 (mkF mM 45 (Lc_law_gt_0_0_4 p0 p1 p2 p3 p4 d b103) [(.int p0), (.int p1), (.int (1 : Int32))]) _
    refine XS.icmpNo X112.here hx rfl (hb hby at_45) rfl (tlt hc37_112).2.2.2 ?_
    show SS pP eE belowS T112 (mkF mM 48 (Lc_law_gt_0_0_4 p0 p1 p2 p3 p4 d b103) [(.int (1 : Int32))]) _
    refine XS.iconst X112.here hx rfl (hb hby at_48) ?_
    show SS pP eE belowS T112 (mkF mM 49 (Lc_law_gt_0_0_4 p0 p1 p2 p3 p4 d b103) [(.int (1 : Int32)), (.int (1 : Int32))]) _
    refine XS.goto X112.here hx rfl (pc0 := 49) (pc' := 53) rfl (hb hby at_49) (by decide) (by decide) ?_
    show SS pP eE belowS T112 (mkF mM 53 (Lc_law_gt_0_0_4 p0 p1 p2 p3 p4 d b103) [(.int (1 : Int32)), (.int (1 : Int32))]) _
    refine XS.icmpYes X112.here hx rfl (pc0 := 53) (pc' := 58) rfl (hb hby at_53) rfl (teq (by decide : (1 : Int32) = (1 : Int32))).1 (by decide) (by decide) ?_
    show SS pP eE belowS T112 (mkF mM 58 (Lc_law_gt_0_0_4 p0 p1 p2 p3 p4 d b103) []) _
    refine XS.iload X112.here hx rfl (hb hby at_58) rfl ?_
    show SS pP eE belowS T112 (mkF mM 60 (Lc_law_gt_0_0_4 p0 p1 p2 p3 p4 d b103) [(.int p4)]) _
    refine XS.iconst X112.here hx rfl (hb hby at_60) ?_
    show SS pP eE belowS T112 (mkF mM 61 (Lc_law_gt_0_0_4 p0 p1 p2 p3 p4 d b103) [(.int (3 : Int32)), (.int p4)]) _
    refine XS.iand X112.here hx rfl (hb hby at_61) rfl ?_
    show SS pP eE belowS T112 (mkF mM 62 (Lc_law_gt_0_0_4 p0 p1 p2 p3 p4 d b103) [(.int (p4 &&& (3 : Int32)))]) _
    refine XS.istore X112.here hx rfl (hb hby at_62) rfl (l' := (Lc_law_gt_0_0_5 p0 p1 p2 p3 p4 d b103)) rfl ?_
    show SS pP eE belowS T112 (mkF mM 64 (Lc_law_gt_0_0_5 p0 p1 p2 p3 p4 d b103) []) _
    refine XS.iload X112.here hx rfl (hb hby at_64) rfl ?_
    show SS pP eE belowS T112 (mkF mM 66 (Lc_law_gt_0_0_5 p0 p1 p2 p3 p4 d b103) [(.int (p4 &&& (3 : Int32)))]) _
    refine XS.ifNo X112.here hx rfl (hb hby at_66) rfl ((if0 _ _).trans (teq hc66).2) ?_
    show SS pP eE belowS T112 (mkF mM 69 (Lc_law_gt_0_0_5 p0 p1 p2 p3 p4 d b103) []) _
    refine XS.iload X112.here hx rfl (hb hby at_69) rfl ?_
    show SS pP eE belowS T112 (mkF mM 71 (Lc_law_gt_0_0_5 p0 p1 p2 p3 p4 d b103) [(.int (0 : Int32))]) _
    refine XS.goto X112.here hx rfl (pc0 := 71) (pc' := 86) rfl (hb hby at_71) (by decide) (by decide) ?_
    show SS pP eE belowS T112 (mkF mM 86 (Lc_law_gt_0_0_5 p0 p1 p2 p3 p4 d b103) [(.int (0 : Int32))]) _
    refine XS.istore X112.here hx rfl (hb hby at_86) rfl (l' := (Lc_law_gt_0_0_6 p0 p1 p2 p3 p4 d b103)) rfl ?_
    show SS pP eE belowS T112 (mkF mM 88 (Lc_law_gt_0_0_6 p0 p1 p2 p3 p4 d b103) []) _
    refine XS.iload X112.here hx rfl (hb hby at_88) rfl ?_
    show SS pP eE belowS T112 (mkF mM 90 (Lc_law_gt_0_0_6 p0 p1 p2 p3 p4 d b103) [(.int p4)]) _
    refine XS.iconst X112.here hx rfl (hb hby at_90) ?_
    show SS pP eE belowS T112 (mkF mM 91 (Lc_law_gt_0_0_6 p0 p1 p2 p3 p4 d b103) [(.int (2 : Int32)), (.int p4)]) _
    refine XS.ishr X112.here hx rfl (hb hby at_91) rfl ?_
    show SS pP eE belowS T112 (mkF mM 92 (Lc_law_gt_0_0_6 p0 p1 p2 p3 p4 d b103) [(.int (p4 >>> ((2 : Int32) &&& 31)))]) _
    refine XS.iconst X112.here hx rfl (hb hby at_92) ?_
    show SS pP eE belowS T112 (mkF mM 93 (Lc_law_gt_0_0_6 p0 p1 p2 p3 p4 d b103) [(.int (1 : Int32)), (.int (p4 >>> ((2 : Int32) &&& 31)))]) _
    refine XS.iand X112.here hx rfl (hb hby at_93) rfl ?_
    show SS pP eE belowS T112 (mkF mM 94 (Lc_law_gt_0_0_6 p0 p1 p2 p3 p4 d b103) [(.int ((p4 >>> ((2 : Int32) &&& 31)) &&& (1 : Int32)))]) _
    refine XS.ifYes X112.here hx rfl (pc0 := 94) (pc' := 101) rfl (hb hby at_94) rfl ((if0 _ _).trans (teq hc94).1) (by decide) (by decide) ?_
    show SS pP eE belowS T112 (mkF mM 101 (Lc_law_gt_0_0_6 p0 p1 p2 p3 p4 d b103) []) _
    refine XS.iconst X112.here hx rfl (hb hby at_101) ?_
    show SS pP eE belowS T112 (mkF mM 102 (Lc_law_gt_0_0_6 p0 p1 p2 p3 p4 d b103) [(.int (0 : Int32))]) _
    refine XS.istore X112.here hx rfl (hb hby at_102) rfl (l' := (Lc_law_gt_0_0_7 p0 p1 p2 p3 p4 d b103)) rfl ?_
    show SS pP eE belowS T112 (mkF mM 104 (Lc_law_gt_0_0_7 p0 p1 p2 p3 p4 d b103) []) _
    refine XS.aload X112.here hx rfl (hb hby at_104) rfl rfl ?_
    show SS pP eE belowS T112 (mkF mM 106 (Lc_law_gt_0_0_7 p0 p1 p2 p3 p4 d b103) [(.ref b103)]) _
    refine XS.iload X112.here hx rfl (hb hby at_106) rfl ?_
    show SS pP eE belowS T112 (mkF mM 108 (Lc_law_gt_0_0_7 p0 p1 p2 p3 p4 d b103) [(.int (0 : Int32)), (.ref b103)]) _
    refine XS.iloadN X112.here hx rfl (hb hby at_108) rfl ?_
    show SS pP eE belowS T112 (mkF mM 109 (Lc_law_gt_0_0_7 p0 p1 p2 p3 p4 d b103) [(.int p2), (.int (0 : Int32)), (.ref b103)]) _
    refine st117.trans ?_
    show SS pP eE belowS T117 (mkF mM 112 (Lc_law_gt_0_0_7 p0 p1 p2 p3 p4 d b103) []) _
    refine XS.iload X117.here hx rfl (hb hby at_112) rfl ?_
    show SS pP eE belowS T117 (mkF mM 114 (Lc_law_gt_0_0_7 p0 p1 p2 p3 p4 d b103) [(.int (0 : Int32))]) _
    refine XS.ifYes X117.here hx rfl (pc0 := 114) (pc' := 125) rfl (hb hby at_114) rfl ((if0 _ _).trans (teq (by decide : (0 : Int32) = (0 : Int32))).1) (by decide) (by decide) ?_
    show SS pP eE belowS T117 (mkF mM 125 (Lc_law_gt_0_0_7 p0 p1 p2 p3 p4 d b103) []) _
    refine XS.iload X117.here hx rfl (hb hby at_125) rfl ?_
    show SS pP eE belowS T117 (mkF mM 127 (Lc_law_gt_0_0_7 p0 p1 p2 p3 p4 d b103) [(.int (0 : Int32))]) _
    refine XS.ifYes X117.here hx rfl (pc0 := 127) (pc' := 134) rfl (hb hby at_127) rfl ((if0 _ _).trans (teq (by decide : (0 : Int32) = (0 : Int32))).1) (by decide) (by decide) ?_
    show SS pP eE belowS T117 (mkF mM 134 (Lc_law_gt_0_0_7 p0 p1 p2 p3 p4 d b103) []) _
    refine XS.iload X117.here hx rfl (hb hby at_134) rfl ?_
    show SS pP eE belowS T117 (mkF mM 136 (Lc_law_gt_0_0_7 p0 p1 p2 p3 p4 d b103) [(.int (0 : Int32))]) _
    refine XS.ifNo X117.here hx rfl (hb hby at_136) rfl ((if0 _ _).trans (teq (by decide : (0 : Int32) = (0 : Int32))).2) ?_
    show SS pP eE belowS T117 (mkF mM 139 (Lc_law_gt_0_0_7 p0 p1 p2 p3 p4 d b103) []) _
    refine XS.iloadN X117.here hx rfl (hb hby at_139) rfl ?_
    show SS pP eE belowS T117 (mkF mM 140 (Lc_law_gt_0_0_7 p0 p1 p2 p3 p4 d b103) [(.int p2)]) _
    refine XS.goto X117.here hx rfl (pc0 := 140) (pc' := 144) rfl (hb hby at_140) (by decide) (by decide) ?_
    show SS pP eE belowS T117 (mkF mM 144 (Lc_law_gt_0_0_7 p0 p1 p2 p3 p4 d b103) [(.int p2)]) _
    refine XS.istore X117.here hx rfl (hb hby at_144) rfl (l' := (Lc_law_gt_0_0_8 p0 p1 p2 p3 p4 d b103)) rfl ?_
    show SS pP eE belowS T117 (mkF mM 146 (Lc_law_gt_0_0_8 p0 p1 p2 p3 p4 d b103) []) _
    refine XS.iloadN X117.here hx rfl (hb hby at_146) rfl ?_
    show SS pP eE belowS T117 (mkF mM 147 (Lc_law_gt_0_0_8 p0 p1 p2 p3 p4 d b103) [(.int p1)]) _
    refine XS.iloadN X117.here hx rfl (hb hby at_147) rfl ?_
    show SS pP eE belowS T117 (mkF mM 148 (Lc_law_gt_0_0_8 p0 p1 p2 p3 p4 d b103) [(.int p0), (.int p1)]) _
    refine XS.icmpNo X117.here hx rfl (hb hby at_148) rfl (tlt hc37_112).2.2.2 ?_
    show SS pP eE belowS T117 (mkF mM 151 (Lc_law_gt_0_0_8 p0 p1 p2 p3 p4 d b103) []) _
    refine XS.iload X117.here hx rfl (hb hby at_151) rfl ?_
    show SS pP eE belowS T117 (mkF mM 153 (Lc_law_gt_0_0_8 p0 p1 p2 p3 p4 d b103) [(.int (0 : Int32))]) _
    refine XS.iconst X117.here hx rfl (hb hby at_153) ?_
    show SS pP eE belowS T117 (mkF mM 154 (Lc_law_gt_0_0_8 p0 p1 p2 p3 p4 d b103) [(.int (1 : Int32)), (.int (0 : Int32))]) _
    refine XS.icmpYes X117.here hx rfl (pc0 := 154) (pc' := 161) rfl (hb hby at_154) rfl (feq (by decide : ¬ ((0 : Int32) = (1 : Int32)))).2 (by decide) (by decide) ?_
    show SS pP eE belowS T117 (mkF mM 161 (Lc_law_gt_0_0_8 p0 p1 p2 p3 p4 d b103) []) _
    refine XS.iconst X117.here hx rfl (hb hby at_161) ?_
    show SS pP eE belowS T117 (mkF mM 162 (Lc_law_gt_0_0_8 p0 p1 p2 p3 p4 d b103) [(.int (-1 : Int32))]) _
    refine XS.istore X117.here hx rfl (hb hby at_162) rfl (l' := (Lc_law_gt_0_0_9 p0 p1 p2 p3 p4 d b103)) rfl ?_
    show SS pP eE belowS T117 (mkF mM 164 (Lc_law_gt_0_0_9 p0 p1 p2 p3 p4 d b103) []) _
    refine XS.goto X117.here hx rfl (pc0 := 164) (pc' := 182) rfl (hb hby at_164) (by decide) (by decide) ?_
    show SS pP eE belowS T117 (mkF mM 182 (Lc_law_gt_0_0_9 p0 p1 p2 p3 p4 d b103) []) _
    refine XS.aload X117.here hx rfl (hb hby at_182) rfl rfl ?_
    show SS pP eE belowS T117 (mkF mM 184 (Lc_law_gt_0_0_9 p0 p1 p2 p3 p4 d b103) [(.ref b103)]) _
    refine XS.aload X117.here hx rfl (hb hby at_184) rfl rfl ?_
    show SS pP eE belowS T117 (mkF mM 186 (Lc_law_gt_0_0_9 p0 p1 p2 p3 p4 d b103) [(.ref d), (.ref b103)]) _
    refine XS.iloadN X117.here hx rfl (hb hby at_186) rfl ?_
    show SS pP eE belowS T117 (mkF mM 187 (Lc_law_gt_0_0_9 p0 p1 p2 p3 p4 d b103) [(.int p0), (.ref d), (.ref b103)]) _
    refine st118.trans ?_
    show SS pP eE belowS T118 (mkF mM 190 (Lc_law_gt_0_0_9 p0 p1 p2 p3 p4 d b103) [(.int p2)]) _
    refine XS.iload X118.here hx rfl (hb hby at_190) rfl ?_
    show SS pP eE belowS T118 (mkF mM 192 (Lc_law_gt_0_0_9 p0 p1 p2 p3 p4 d b103) [(.int p2), (.int p2)]) _
    refine XS.icmpNo X118.here hx rfl (hb hby at_192) rfl (teq (rfl : p2 = p2)).2 ?_
    show SS pP eE belowS T118 (mkF mM 195 (Lc_law_gt_0_0_9 p0 p1 p2 p3 p4 d b103) []) _
    refine XS.aload X118.here hx rfl (hb hby at_195) rfl rfl ?_
    show SS pP eE belowS T118 (mkF mM 197 (Lc_law_gt_0_0_9 p0 p1 p2 p3 p4 d b103) [(.ref b103)]) _
    refine XS.aload X118.here hx rfl (hb hby at_197) rfl rfl ?_
    show SS pP eE belowS T118 (mkF mM 199 (Lc_law_gt_0_0_9 p0 p1 p2 p3 p4 d b103) [(.ref d), (.ref b103)]) _
    refine XS.iloadN X118.here hx rfl (hb hby at_199) rfl ?_
    show SS pP eE belowS T118 (mkF mM 200 (Lc_law_gt_0_0_9 p0 p1 p2 p3 p4 d b103) [(.int p1), (.ref d), (.ref b103)]) _
    refine st125.trans ?_
    show SS pP eE belowS T125 (mkF mM 203 (Lc_law_gt_0_0_9 p0 p1 p2 p3 p4 d b103) [(.int (-1 : Int32))]) _
    refine XS.iload X125.here hx rfl (hb hby at_203) rfl ?_
    show SS pP eE belowS T125 (mkF mM 205 (Lc_law_gt_0_0_9 p0 p1 p2 p3 p4 d b103) [(.int (-1 : Int32)), (.int (-1 : Int32))]) _
    refine XS.icmpNo X125.here hx rfl (hb hby at_205) rfl (teq (by decide : (-1 : Int32) = (-1 : Int32))).2 ?_
    show SS pP eE belowS T125 (mkF mM 208 (Lc_law_gt_0_0_9 p0 p1 p2 p3 p4 d b103) []) _
    refine XS.iconst X125.here hx rfl (hb hby at_208) ?_
    show SS pP eE belowS T125 (mkF mM 209 (Lc_law_gt_0_0_9 p0 p1 p2 p3 p4 d b103) [(.int (1 : Int32))]) _
    refine XS.goto X125.here hx rfl (pc0 := 209) (pc' := 213) rfl (hb hby at_209) (by decide) (by decide) ?_
    show SS pP eE belowS T125 (mkF mM 213 (Lc_law_gt_0_0_9 p0 p1 p2 p3 p4 d b103) [(.int (1 : Int32))]) _
    exact retN X125 hx (t := .boolean) Bd.returns (by simp) (hb hby at_213) hr
  · exact ⟨rfl, N125⟩

abbrev Lc_law_gt_0_1_0 (p0 : Int32) (p1 : Int32) (p2 : Int32) (p3 : Int32) (p4 : Int32) : Array Slot := #[.val (.int p0), .val (.int p1), .val (.int p2), .val (.int p3), .val (.int p4), .unset, .unset, .unset, .unset, .unset, .unset, .unset, .unset, .unset]
abbrev Lc_law_gt_0_1_1 (p0 : Int32) (p1 : Int32) (p2 : Int32) (p3 : Int32) (p4 : Int32) (d : Addr) : Array Slot := #[.val (.int p0), .val (.int p1), .val (.int p2), .val (.int p3), .val (.int p4), .val (.ref d), .unset, .unset, .unset, .unset, .unset, .unset, .unset, .unset]
abbrev Lc_law_gt_0_1_2 (p0 : Int32) (p1 : Int32) (p2 : Int32) (p3 : Int32) (p4 : Int32) (d : Addr) (b103 : Addr) : Array Slot := #[.val (.int p0), .val (.int p1), .val (.int p2), .val (.int p3), .val (.int p4), .val (.ref d), .val (.ref b103), .unset, .unset, .unset, .unset, .unset, .unset, .unset]
abbrev Lc_law_gt_0_1_3 (p0 : Int32) (p1 : Int32) (p2 : Int32) (p3 : Int32) (p4 : Int32) (d : Addr) (b103 : Addr) : Array Slot := #[.val (.int p0), .val (.int p1), .val (.int p2), .val (.int p3), .val (.int p4), .val (.ref d), .val (.ref b103), .val (.int (0 : Int32)), .unset, .unset, .unset, .unset, .unset, .unset]
abbrev Lc_law_gt_0_1_4 (p0 : Int32) (p1 : Int32) (p2 : Int32) (p3 : Int32) (p4 : Int32) (d : Addr) (b103 : Addr) : Array Slot := #[.val (.int p0), .val (.int p1), .val (.int p2), .val (.int p3), .val (.int p4), .val (.ref d), .val (.ref b103), .val (.int (0 : Int32)), .val (.int (1 : Int32)), .unset, .unset, .unset, .unset, .unset]
abbrev Lc_law_gt_0_1_5 (p0 : Int32) (p1 : Int32) (p2 : Int32) (p3 : Int32) (p4 : Int32) (d : Addr) (b103 : Addr) : Array Slot := #[.val (.int p0), .val (.int p1), .val (.int p2), .val (.int p3), .val (.int p4), .val (.ref d), .val (.ref b103), .val (.int (0 : Int32)), .val (.int (1 : Int32)), .val (.int (p4 &&& (3 : Int32))), .unset, .unset, .unset, .unset]
abbrev Lc_law_gt_0_1_6 (p0 : Int32) (p1 : Int32) (p2 : Int32) (p3 : Int32) (p4 : Int32) (d : Addr) (b103 : Addr) : Array Slot := #[.val (.int p0), .val (.int p1), .val (.int p2), .val (.int p3), .val (.int p4), .val (.ref d), .val (.ref b103), .val (.int (0 : Int32)), .val (.int (1 : Int32)), .val (.int (p4 &&& (3 : Int32))), .val (.int (0 : Int32)), .unset, .unset, .unset]
abbrev Lc_law_gt_0_1_7 (p0 : Int32) (p1 : Int32) (p2 : Int32) (p3 : Int32) (p4 : Int32) (d : Addr) (b103 : Addr) : Array Slot := #[.val (.int p0), .val (.int p1), .val (.int p2), .val (.int p3), .val (.int p4), .val (.ref d), .val (.ref b103), .val (.int (0 : Int32)), .val (.int (1 : Int32)), .val (.int (p4 &&& (3 : Int32))), .val (.int (0 : Int32)), .val (.int (1 : Int32)), .unset, .unset]
abbrev Lc_law_gt_0_1_8 (p0 : Int32) (p1 : Int32) (p2 : Int32) (p3 : Int32) (p4 : Int32) (d : Addr) (b103 : Addr) : Array Slot := #[.val (.int p0), .val (.int p1), .val (.int p2), .val (.int p3), .val (.int p4), .val (.ref d), .val (.ref b103), .val (.int (0 : Int32)), .val (.int (1 : Int32)), .val (.int (p4 &&& (3 : Int32))), .val (.int (0 : Int32)), .val (.int (1 : Int32)), .val (.int p3), .unset]
abbrev Lc_law_gt_0_1_9 (p0 : Int32) (p1 : Int32) (p2 : Int32) (p3 : Int32) (p4 : Int32) (d : Addr) (b103 : Addr) : Array Slot := #[.val (.int p0), .val (.int p1), .val (.int p2), .val (.int p3), .val (.int p4), .val (.ref d), .val (.ref b103), .val (.int (0 : Int32)), .val (.int (1 : Int32)), .val (.int (p4 &&& (3 : Int32))), .val (.int (0 : Int32)), .val (.int (1 : Int32)), .val (.int p3), .val (.int (-1 : Int32))]
theorem ef_law_gt_0_1 (mM : MethodId) (p0 : Int32) (p1 : Int32) (p2 : Int32) (p3 : Int32) (p4 : Int32) (aN : Addr) (kN : ClassId) (d : Addr) : entryFrame mM #[(.int p0), (.int p1), (.int p2), (.int p3), (.int p4)] maxLocals = mkF mM 0 #[.val (.int p0), .val (.int p1), .val (.int p2), .val (.int p3), .val (.int p4), .unset, .unset, .unset, .unset, .unset, .unset, .unset, .unset, .unset] [] := by first | (simp [entryFrame, mkF, argsToLocals, Value.category, maxLocals]; done) | rfl
set_option maxRecDepth 65536 in
set_option maxHeartbeats 40000000 in
theorem rm_law_gt_0_1 (l : Launch) (Z : State) (a0 : Array Value) (hw : ∀ d ∈ tables_1, d.before a0 Z = true) (ws : List Jvm.Cond) (p0 : Int32) (p1 : Int32) (p2 : Int32) (p3 : Int32) (p4 : Int32) (aN : Addr) (kN : ClassId) (d : Addr) (h0 : Heap) (n0 : Nat) (Z0 : n0 ≤ h0.size) (OL : Old Z n0 h0) (S_DEFAULT : Sta Z Z.heap "com/example/macroweave/macroweave/Brackets" "DEFAULT" "Lcom/example/macroweave/macroweave/Brackets;" (.ref d)) (S_NONE : Sta Z Z.heap "com/example/macroweave/macroweave/BracketPairs" "NONE" "[I" (.ref aN)) (V_aN : Arv Z h0 aN kN .int (0 : Int32) [] (.int (0 : Int32))) (hc37_112 : p0 < p1) (hc66 : (p4 &&& (3 : Int32)) = (0 : Int32)) (hc94 : ¬ (((p4 >>> ((2 : Int32) &&& 31)) &&& (1 : Int32)) = (0 : Int32))) :
    MetFree l x (head1 (Jvm.Cond.code x code maxLocals ret :: ws) room_1) (fun xa xU => xa = #[(.int p0), (.int p1), (.int p2), (.int p3), (.int p4)] ∧ Z.Warmed39 xU.vm ∧ xU.heap = h0) (fun _ _ _ _ _ => True) (fun _ xU xo xU' => ∃ xv xL, xo = .returned xv ∧ Q_law n0 xv xL ∧ FrameEnd xU xo xU' xL room_1.cells room_1.slots) := by
  refine MetFree.of_bodySF (plainFor_of_name pn_com_example_macroweave_macroweave_BracketPairsClosedPinLaw) hisR ?_
  intro pP eE sS mM argS belowS methS cC s₁ Bd hml0 hP hK
  obtain ⟨rfl, hZ, hh⟩ := hP
  have hx := Bd.exec
  have hby := Bd.bytes
  have hml : cC.maxLocals = 14 := hml0
  have hown : sS.vm.findClass "com/example/macroweave/macroweave/BracketPairsClosedPinLaw" = some mM.cls := findClass_of_methodNamed Bd.named
  have hnm := (name_of_methodNamed Bd.named Bd.method).1
  have X0 : Stand pP l eE room_1 sS mM #[(.int p0), (.int p1), (.int p2), (.int p3), (.int p4)] belowS methS cC s₁ [] 0 0 := Stand.of_body Bd
  have e0 : s₁.heap = h0 := by rw [← hh, Bd.state]; rfl
  have N0 := Fr.nil n0
  have pre0 : ∀ t', Steps pP.tables eE belowS (s₁.setTop (mkF mM 0 #[.val (.int p0), .val (.int p1), .val (.int p2), .val (.int p3), .val (.int p4), .unset, .unset, .unset, .unset, .unset, .unset, .unset, .unset, .unset] [])) t' → Steps pP.tables eE belowS (s₁.setTop (entryFrame mM #[(.int p0), (.int p1), (.int p2), (.int p3), (.int p4)] maxLocals)) t' := fun t' kk' => castTop (ef_law_gt_0_1 mM p0 p1 p2 p3 p4 aN kN d) kk'
  have c101_S_DEFAULT : Sta Z h0 "com/example/macroweave/macroweave/Brackets" "DEFAULT" "Lcom/example/macroweave/macroweave/Brackets;" (.ref d) := Sta.ext OL.2 S_DEFAULT
  obtain ⟨T102, X102, e102, st102⟩ := getS2 X0 hx hZ hown (host := "") (Or.inl (wi hw 0 rfl)) Via.refl e0 c101_S_DEFAULT (g := (mkF mM 0 (Lc_law_gt_0_1_0 p0 p1 p2 p3 p4) [])) rfl (hb hby at_0)
  obtain ⟨T103, h103, X103, e103, E103, A103, D103, B103, st103⟩ := newO X102 hx hZ hown (wi hw 3 rfl) (wi hw 4 rfl) (wi hw 5 rfl) e102 (g := (mkF mM 5 (Lc_law_gt_0_1_1 p0 p1 p2 p3 p4 d) [])) rfl (hb hby at_5) (by decide) (by decide)
  obtain ⟨b103, g103⟩ : ∃ z : Nat, z = h0.size := ⟨_, rfl⟩
  rw [← g103] at A103 D103 B103 st103
  have Sz1 : h0.size ≤ h103.size := E103.1
  have F103_contentStarts : Fld Z h103 b103 "com/example/macroweave/macroweave/BracketPairs" "contentStarts" "[I" .null := D103 (Or.inl (wi hw 15 rfl)) (ty := (.array .int)) (by decide)
  have F103_closes : Fld Z h103 b103 "com/example/macroweave/macroweave/BracketPairs" "closes" "[I" .null := D103 (Or.inl (wi hw 17 rfl)) (ty := (.array .int)) (by decide)
  have F103_brackets : Fld Z h103 b103 "com/example/macroweave/macroweave/BracketPairs" "brackets" "Lcom/example/macroweave/macroweave/Brackets;" .null := D103 (Or.inl (wi hw 24 rfl)) (ty := (.object "com/example/macroweave/macroweave/Brackets")) (by decide)
  have F103_size : Fld Z h103 b103 "com/example/macroweave/macroweave/BracketPairs" "size" "I" (.int (0 : Int32)) := D103 (Or.inl (wi hw 26 rfl)) (ty := .int) (by decide)
  have c105_OL : Old Z n0 h103 := OL.ext E103
  have ge106_b103 : @LE.le Nat _ n0 b103 := by omega
  obtain ⟨_, _, ⟨T104, L104, k104, n104⟩, -, X104, ⟨Lc104, hQ104, l104, y104, z104⟩, st104⟩ := X103.specialBack hx (y := (⟨"com/example/macroweave/macroweave/BracketPairs", "<init>", "()V"⟩ : MethodName)) rfl hown (mvT hZ (wi hw 6 rfl)) (mvT hZ (wi hw 7 rfl)) (mvT hZ (wi hw 8 rfl)) (by decide) (backOf (W := 1) (rm_init l Z a0 hw [] b103 aN .null .null .null (.int (0 : Int32)) h103 n0 (by omega) A103 F103_contentStarts F103_closes F103_brackets F103_size ge106_b103 c105_OL S_NONE) hZ (wi hw 8 rfl) (wi hw 5 rfl) (by decide) (by decide)) (g := (mkF mM 9 (Lc_law_gt_0_1_1 p0 p1 p2 p3 p4 d) [(.ref b103), (.ref b103)])) rfl (by rw [hml]; rfl) (Steps.refl _) (a := b103) (argsL := []) (rest := [(.ref b103)]) (lenOf pd_0 rfl) rfl (by show 2 * 0 + _ ≤ _; exact Nat.le_of_eq rfl) (hb hby at_9) (fun _ _ => ⟨rfl, e103, Nat.le_of_ble_eq_true rfl, Nat.le_of_ble_eq_true rfl⟩)
  dsimp only [Pt.U, Pt.locs, Pt.cells, Pt.slots] at X104 l104 y104 z104 st104 hQ104
  subst l104 y104 z104
  obtain ⟨h104, e104⟩ : ∃ z, T104.heap = z := ⟨_, rfl⟩
  rw [e104] at hQ104
  obtain ⟨rfl, N104q, Kp104, p104_E_a1, p104_F_contentStarts_a1, p104_F_closes_a1, p104_F_brackets_a1, p104_F_size_a1⟩ := hQ104
  have Sz2 : h103.size ≤ h104.size := Kp104.1
  have N104 := Fr.app N0 N104q
  have c108_V_aN : Arv Z h103 aN kN .int (0 : Int32) [] (.int (0 : Int32)) := V_aN.ext E103
  have lt_aN : @LT.lt Nat _ aN h0.size := V_aN.lt
  have lt_b103 : @LT.lt Nat _ b103 h104.size := p104_E_a1.lt
  have ne_aN_b103_109 : aN ≠ b103 := (by omega : @Ne Nat aN b103)
  have c110_V_aN : Arv Z h104 aN kN .int (0 : Int32) [] (.int (0 : Int32)) := c108_V_aN.keep Kp104 (ninS ne_aN_b103_109 nin0)
  have ne_b103_aN_111 : b103 ≠ aN := (by omega : @Ne Nat b103 aN)
  obtain ⟨cq107, kq107, q107a, q107b, q107c⟩ := isOf hZ e104 p104_E_a1
  obtain ⟨_, _, ⟨T107, L107, k107, n107⟩, -, X107, ⟨Lc107, hQ107, l107, y107, z107⟩, st107⟩ := X104.virtualBack hx (y := (⟨"com/example/macroweave/macroweave/BracketPairs", "opened", "(Lcom/example/macroweave/macroweave/Brackets;I)I"⟩ : MethodName)) (z := (⟨"com/example/macroweave/macroweave/BracketPairs", "opened", "(Lcom/example/macroweave/macroweave/Brackets;I)I"⟩ : MethodName)) hown (mvT hZ (wi hw 18 rfl)) (mvT hZ (wi hw 19 rfl)) (notFace_of_selects (args := #[]) (mvT hZ (wi hw 21 rfl))) (mvT hZ (wi hw 21 rfl)) (mvT hZ (wi hw 20 rfl)) (by decide) (backOf (W := 0) (rm_open1 l Z a0 hw [] b103 d p0 aN kN h104 n0 (by omega) p104_E_a1 p104_F_brackets_a1 p104_F_contentStarts_a1 p104_F_closes_a1 p104_F_size_a1 c110_V_aN ne_b103_aN_111 ge106_b103) hZ (wi hw 22 rfl) (wi hw 5 rfl) (by decide) (by decide)) q107a q107c (g := (mkF mM 19 (Lc_law_gt_0_1_2 p0 p1 p2 p3 p4 d b103) [(.int p0), (.ref d), (.ref b103)])) rfl (by rw [hml]; rfl) (Steps.refl _) (argsL := [(.ref d), (.int p0)]) (rest := []) (lenOf pd_1 rfl) rfl (by show 2 * 0 + _ ≤ _; exact Nat.le_of_eq rfl) (hb hby at_19) (fun _ _ => ⟨rfl, e104, Nat.le_of_ble_eq_true rfl, Nat.le_of_ble_eq_true rfl⟩)
  dsimp only [Pt.U, Pt.locs, Pt.cells, Pt.slots] at X107 l107 y107 z107 st107 hQ107
  subst l107 y107 z107
  obtain ⟨h107, e107⟩ : ∃ z, T107.heap = z := ⟨_, rfl⟩
  rw [e107] at hQ107
  obtain ⟨b1_107, b2_107, k1_107, k2_107, rfl, N107q, Kp107, p107_E_a1, p107_F_brackets_a1, p107_F_contentStarts_a1, p107_F_closes_a1, p107_F_size_a1, p107_V_b1, p107_V_b2, p107_gh_b1, p107_gh_b2, p107_ne_b1_b2⟩ := hQ107
  have Sz3 : h104.size ≤ h107.size := Kp107.1
  have N107 := Fr.app N104 N107q
  have lt_b1_107 : @LT.lt Nat _ b1_107 h107.size := p107_V_b1.lt
  have ne_b103_b1_107_113 : b103 ≠ b1_107 := (by omega : @Ne Nat b103 b1_107)
  have lt_b2_107 : @LT.lt Nat _ b2_107 h107.size := p107_V_b2.lt
  have ne_b103_b2_107_114 : b103 ≠ b2_107 := (by omega : @Ne Nat b103 b2_107)
  have ge115_b1_107 : @LE.le Nat _ n0 b1_107 := by omega
  have ge116_b2_107 : @LE.le Nat _ n0 b2_107 := by omega
  obtain ⟨cq112, kq112, q112a, q112b, q112c⟩ := isOf hZ e107 p107_E_a1
  obtain ⟨_, _, ⟨T112, L112, k112, n112⟩, -, X112, ⟨Lc112, hQ112, l112, y112, z112⟩, st112⟩ := X107.virtualBack hx (y := (⟨"com/example/macroweave/macroweave/BracketPairs", "opened", "(Lcom/example/macroweave/macroweave/Brackets;I)I"⟩ : MethodName)) (z := (⟨"com/example/macroweave/macroweave/BracketPairs", "opened", "(Lcom/example/macroweave/macroweave/Brackets;I)I"⟩ : MethodName)) hown (mvT hZ (wi hw 18 rfl)) (mvT hZ (wi hw 19 rfl)) (notFace_of_selects (args := #[]) (mvT hZ (wi hw 21 rfl))) (mvT hZ (wi hw 21 rfl)) (mvT hZ (wi hw 20 rfl)) (by decide) (backOf (W := 0) (rm_open2 l Z a0 hw [] b103 d p1 p0 b1_107 b2_107 k1_107 k2_107 h107 n0 (by omega) p107_E_a1 p107_F_brackets_a1 p107_F_contentStarts_a1 p107_F_closes_a1 p107_F_size_a1 p107_V_b1 p107_V_b2 ne_b103_b1_107_113 ne_b103_b2_107_114 p107_ne_b1_b2 ge106_b103 ge115_b1_107 ge116_b2_107 hc37_112) hZ (wi hw 22 rfl) (wi hw 5 rfl) (by decide) (by decide)) q112a q112c (g := (mkF mM 29 (Lc_law_gt_0_1_3 p0 p1 p2 p3 p4 d b103) [(.int p1), (.ref d), (.ref b103)])) rfl (by rw [hml]; rfl) (Steps.refl _) (argsL := [(.ref d), (.int p1)]) (rest := []) (lenOf pd_1 rfl) rfl (by show 2 * 0 + _ ≤ _; exact Nat.le_of_eq rfl) (hb hby at_29) (fun _ _ => ⟨rfl, e107, Nat.le_of_ble_eq_true rfl, Nat.le_of_ble_eq_true rfl⟩)
  dsimp only [Pt.U, Pt.locs, Pt.cells, Pt.slots] at X112 l112 y112 z112 st112 hQ112
  subst l112 y112 z112
  obtain ⟨h112, e112⟩ : ∃ z, T112.heap = z := ⟨_, rfl⟩
  rw [e112] at hQ112
  obtain ⟨rfl, N112q, Kp112, p112_E_a1, p112_F_brackets_a1, p112_F_contentStarts_a1, p112_F_closes_a1, p112_F_size_a1, p112_V_b1, p112_V_b2⟩ := hQ112
  have Sz4 : h107.size ≤ h112.size := Kp112.1
  have N112 := Fr.app N107 N112q
  obtain ⟨cq117, kq117, q117a, q117b, q117c⟩ := isOf hZ e112 p112_E_a1
  obtain ⟨_, _, ⟨T117, L117, k117, n117⟩, -, X117, ⟨Lc117, hQ117, l117, y117, z117⟩, st117⟩ := X112.virtualBack hx (y := (⟨"com/example/macroweave/macroweave/BracketPairs", "closed", "(II)V"⟩ : MethodName)) (z := (⟨"com/example/macroweave/macroweave/BracketPairs", "closed", "(II)V"⟩ : MethodName)) hown (mvT hZ (wi hw 43 rfl)) (mvT hZ (wi hw 44 rfl)) (notFace_of_selects (args := #[]) (mvT hZ (wi hw 46 rfl))) (mvT hZ (wi hw 46 rfl)) (mvT hZ (wi hw 45 rfl)) (by decide) (backOf (W := 0) (rm_closed0 l Z a0 hw [] b103 p2 b2_107 k2_107 (-1 : Int32) (-1 : Int32) h112 n0 (by omega) p112_E_a1 p112_F_closes_a1 p112_V_b2 ne_b103_b2_107_114 ge116_b2_107) hZ (wi hw 47 rfl) (wi hw 5 rfl) (by decide) (by decide)) q117a q117c (g := (mkF mM 109 (Lc_law_gt_0_1_7 p0 p1 p2 p3 p4 d b103) [(.int p2), (.int (0 : Int32)), (.ref b103)])) rfl (by rw [hml]; rfl) (Steps.refl _) (argsL := [(.int (0 : Int32)), (.int p2)]) (rest := []) (lenOf pd_5 rfl) rfl (by show 2 * 0 + _ ≤ _; exact Nat.le_of_eq rfl) (hb hby at_109) (fun _ _ => ⟨rfl, e112, Nat.le_of_ble_eq_true rfl, Nat.le_of_ble_eq_true rfl⟩)
  dsimp only [Pt.U, Pt.locs, Pt.cells, Pt.slots] at X117 l117 y117 z117 st117 hQ117
  subst l117 y117 z117
  obtain ⟨h117, e117⟩ : ∃ z, T117.heap = z := ⟨_, rfl⟩
  rw [e117] at hQ117
  obtain ⟨rfl, N117q, Kp117, p117_V_b2⟩ := hQ117
  have Sz5 : h112.size ≤ h117.size := Kp117.1
  have N117 := Fr.app N112 N117q
  have c119_E_b103 : Exa Z h117 b103 "com/example/macroweave/macroweave/BracketPairs" := p112_E_a1.keep Kp117
  have c120_F_closes_b103 : Fld Z h117 b103 "com/example/macroweave/macroweave/BracketPairs" "closes" "[I" (.ref b2_107) := p112_F_closes_a1.keep Kp117 (ninS ne_b103_b2_107_114 nin0)
  obtain ⟨cq118, kq118, q118a, q118b, q118c⟩ := isOf hZ e117 c119_E_b103
  obtain ⟨_, _, ⟨T118, L118, k118, n118⟩, -, X118, ⟨Lc118, hQ118, l118, y118, z118⟩, st118⟩ := X117.virtualBack hx (y := (⟨"com/example/macroweave/macroweave/BracketPairs", "closed", "(II)V"⟩ : MethodName)) (z := (⟨"com/example/macroweave/macroweave/BracketPairs", "closed", "(II)V"⟩ : MethodName)) hown (mvT hZ (wi hw 43 rfl)) (mvT hZ (wi hw 44 rfl)) (notFace_of_selects (args := #[]) (mvT hZ (wi hw 46 rfl))) (mvT hZ (wi hw 46 rfl)) (mvT hZ (wi hw 45 rfl)) (by decide) (backOf (W := 0) (rm_closed0 l Z a0 hw [] b103 p3 b2_107 k2_107 p2 (-1 : Int32) h117 n0 (by omega) c119_E_b103 c120_F_closes_b103 p117_V_b2 ne_b103_b2_107_114 ge116_b2_107) hZ (wi hw 47 rfl) (wi hw 5 rfl) (by decide) (by decide)) q118a q118c (g := (mkF mM 122 (Lc_law_gt_0_1_7 p0 p1 p2 p3 p4 d b103) [(.int p3), (.int (0 : Int32)), (.ref b103)])) rfl (by rw [hml]; rfl) (Steps.refl _) (argsL := [(.int (0 : Int32)), (.int p3)]) (rest := []) (lenOf pd_5 rfl) rfl (by show 2 * 0 + _ ≤ _; exact Nat.le_of_eq rfl) (hb hby at_122) (fun _ _ => ⟨rfl, e117, Nat.le_of_ble_eq_true rfl, Nat.le_of_ble_eq_true rfl⟩)
  dsimp only [Pt.U, Pt.locs, Pt.cells, Pt.slots] at X118 l118 y118 z118 st118 hQ118
  subst l118 y118 z118
  obtain ⟨h118, e118⟩ : ∃ z, T118.heap = z := ⟨_, rfl⟩
  rw [e118] at hQ118
  obtain ⟨rfl, N118q, Kp118, p118_V_b2⟩ := hQ118
  have Sz6 : h117.size ≤ h118.size := Kp118.1
  have N118 := Fr.app N117 N118q
  have c122_F_brackets_b103 : Fld Z h117 b103 "com/example/macroweave/macroweave/BracketPairs" "brackets" "Lcom/example/macroweave/macroweave/Brackets;" (.ref d) := p112_F_brackets_a1.keep Kp117 (ninS ne_b103_b2_107_114 nin0)
  have c123_F_brackets_b103 : Fld Z h118 b103 "com/example/macroweave/macroweave/BracketPairs" "brackets" "Lcom/example/macroweave/macroweave/Brackets;" (.ref d) := c122_F_brackets_b103.keep Kp118 (ninS ne_b103_b2_107_114 nin0)
  have c124_F_contentStarts_b103 : Fld Z h117 b103 "com/example/macroweave/macroweave/BracketPairs" "contentStarts" "[I" (.ref b1_107) := p112_F_contentStarts_a1.keep Kp117 (ninS ne_b103_b2_107_114 nin0)
  have c125_F_contentStarts_b103 : Fld Z h118 b103 "com/example/macroweave/macroweave/BracketPairs" "contentStarts" "[I" (.ref b1_107) := c124_F_contentStarts_b103.keep Kp118 (ninS ne_b103_b2_107_114 nin0)
  have c126_F_closes_b103 : Fld Z h118 b103 "com/example/macroweave/macroweave/BracketPairs" "closes" "[I" (.ref b2_107) := c120_F_closes_b103.keep Kp118 (ninS ne_b103_b2_107_114 nin0)
  have c127_F_size_b103 : Fld Z h117 b103 "com/example/macroweave/macroweave/BracketPairs" "size" "I" (.int (2 : Int32)) := p112_F_size_a1.keep Kp117 (ninS ne_b103_b2_107_114 nin0)
  have c128_F_size_b103 : Fld Z h118 b103 "com/example/macroweave/macroweave/BracketPairs" "size" "I" (.int (2 : Int32)) := c127_F_size_b103.keep Kp118 (ninS ne_b103_b2_107_114 nin0)
  have c129_V_b1_107 : Arv Z h117 b1_107 k1_107 .int (4 : Int32) [(.int p0), (.int p1), (.int (0 : Int32)), (.int (0 : Int32))] (.int (0 : Int32)) := p112_V_b1.keep Kp117 (ninS p107_ne_b1_b2 nin0)
  have c130_V_b1_107 : Arv Z h118 b1_107 k1_107 .int (4 : Int32) [(.int p0), (.int p1), (.int (0 : Int32)), (.int (0 : Int32))] (.int (0 : Int32)) := c129_V_b1_107.keep Kp118 (ninS p107_ne_b1_b2 nin0)
  have c131_E_b103 : Exa Z h118 b103 "com/example/macroweave/macroweave/BracketPairs" := c119_E_b103.keep Kp118
  obtain ⟨cq121, kq121, q121a, q121b, q121c⟩ := isOf hZ e118 c131_E_b103
  obtain ⟨_, _, ⟨T121, L121, k121, n121⟩, -, X121, ⟨Lc121, hQ121, l121, y121, z121⟩, st121⟩ := X118.virtualBack hx (y := (⟨"com/example/macroweave/macroweave/BracketPairs", "close", "(Lcom/example/macroweave/macroweave/Brackets;I)I"⟩ : MethodName)) (z := (⟨"com/example/macroweave/macroweave/BracketPairs", "close", "(Lcom/example/macroweave/macroweave/Brackets;I)I"⟩ : MethodName)) hown (mvT hZ (wi hw 48 rfl)) (mvT hZ (wi hw 49 rfl)) (notFace_of_selects (args := #[]) (mvT hZ (wi hw 51 rfl))) (mvT hZ (wi hw 51 rfl)) (mvT hZ (wi hw 50 rfl)) (by decide) (backOf (W := 0) (rm_close_2x l Z a0 hw [] b103 d b1_107 k1_107 p0 p1 b2_107 k2_107 p3 (-1 : Int32) h118 n0 (by omega) c123_F_brackets_b103 c125_F_contentStarts_b103 c126_F_closes_b103 c128_F_size_b103 c130_V_b1_107 p118_V_b2) hZ (wi hw 52 rfl) (wi hw 5 rfl) (by decide) (by decide)) q121a q121c (g := (mkF mM 187 (Lc_law_gt_0_1_9 p0 p1 p2 p3 p4 d b103) [(.int p0), (.ref d), (.ref b103)])) rfl (by rw [hml]; rfl) (Steps.refl _) (argsL := [(.ref d), (.int p0)]) (rest := []) (lenOf pd_1 rfl) rfl (by show 2 * 0 + _ ≤ _; exact Nat.le_of_eq rfl) (hb hby at_187) (fun _ _ => ⟨rfl, e118, Nat.le_of_ble_eq_true rfl, Nat.le_of_ble_eq_true rfl⟩)
  dsimp only [Pt.U, Pt.locs, Pt.cells, Pt.slots] at X121 l121 y121 z121 st121 hQ121
  subst l121 y121 z121
  obtain ⟨h121, e121⟩ : ∃ z, T121.heap = z := ⟨_, rfl⟩
  rw [e121] at hQ121
  obtain ⟨rfl, N121q, eq121⟩ := hQ121
  rw [eq121] at e121
  have N121 := Fr.app N118 N121q
  obtain ⟨cq132, kq132, q132a, q132b, q132c⟩ := isOf hZ e121 c131_E_b103
  obtain ⟨_, _, ⟨T132, L132, k132, n132⟩, -, X132, ⟨Lc132, hQ132, l132, y132, z132⟩, st132⟩ := X121.virtualBack hx (y := (⟨"com/example/macroweave/macroweave/BracketPairs", "close", "(Lcom/example/macroweave/macroweave/Brackets;I)I"⟩ : MethodName)) (z := (⟨"com/example/macroweave/macroweave/BracketPairs", "close", "(Lcom/example/macroweave/macroweave/Brackets;I)I"⟩ : MethodName)) hown (mvT hZ (wi hw 48 rfl)) (mvT hZ (wi hw 49 rfl)) (notFace_of_selects (args := #[]) (mvT hZ (wi hw 51 rfl))) (mvT hZ (wi hw 51 rfl)) (mvT hZ (wi hw 50 rfl)) (by decide) (backOf (W := 0) (rm_close_2y l Z a0 hw [] b103 d b1_107 k1_107 p0 p1 b2_107 k2_107 p3 (-1 : Int32) h118 n0 (by omega) c123_F_brackets_b103 c125_F_contentStarts_b103 c126_F_closes_b103 c128_F_size_b103 c130_V_b1_107 p118_V_b2 hc37_112) hZ (wi hw 52 rfl) (wi hw 5 rfl) (by decide) (by decide)) q132a q132c (g := (mkF mM 200 (Lc_law_gt_0_1_9 p0 p1 p2 p3 p4 d b103) [(.int p1), (.ref d), (.ref b103)])) rfl (by rw [hml]; rfl) (Steps.refl _) (argsL := [(.ref d), (.int p1)]) (rest := []) (lenOf pd_1 rfl) rfl (by show 2 * 0 + _ ≤ _; exact Nat.le_of_eq rfl) (hb hby at_200) (fun _ _ => ⟨rfl, e121, Nat.le_of_ble_eq_true rfl, Nat.le_of_ble_eq_true rfl⟩)
  dsimp only [Pt.U, Pt.locs, Pt.cells, Pt.slots] at X132 l132 y132 z132 st132 hQ132
  subst l132 y132 z132
  obtain ⟨h132, e132⟩ : ∃ z, T132.heap = z := ⟨_, rfl⟩
  rw [e132] at hQ132
  obtain ⟨rfl, N132q, eq132⟩ := hQ132
  rw [eq132] at e132
  have N132 := Fr.app N121 N132q
  obtain ⟨fs, hr, hrun, hended, hW, hsame⟩ := X132.leave (v := some (.int (1 : Int32))) (fun h => by rw [Bd.returns] at h; cases h)
  refine ⟨_, _, pre0 _ ?_, hrun, hended, _, _, rfl, ?_, ⟨_, rfl⟩, hW, hsame.mono (by decide) (by decide)⟩
  · show SS pP eE belowS s₁ (mkF mM 0 (Lc_law_gt_0_1_0 p0 p1 p2 p3 p4) []) _
    refine st102 _ ?_
    show SS pP eE belowS T102 (mkF mM 3 (Lc_law_gt_0_1_0 p0 p1 p2 p3 p4) [(.ref d)]) _
    refine XS.astore X102.here hx rfl (hb hby at_3) rfl rfl (l' := (Lc_law_gt_0_1_1 p0 p1 p2 p3 p4 d)) rfl ?_
    show SS pP eE belowS T102 (mkF mM 5 (Lc_law_gt_0_1_1 p0 p1 p2 p3 p4 d) []) _
    refine st103 _ ?_
    show SS pP eE belowS T103 (mkF mM 8 (Lc_law_gt_0_1_1 p0 p1 p2 p3 p4 d) [(.ref b103)]) _
    refine XS.dup X103.here hx rfl (hb hby at_8) rfl rfl ?_
    show SS pP eE belowS T103 (mkF mM 9 (Lc_law_gt_0_1_1 p0 p1 p2 p3 p4 d) [(.ref b103), (.ref b103)]) _
    refine st104.trans ?_
    show SS pP eE belowS T104 (mkF mM 12 (Lc_law_gt_0_1_1 p0 p1 p2 p3 p4 d) [(.ref b103)]) _
    refine XS.astore X104.here hx rfl (hb hby at_12) rfl rfl (l' := (Lc_law_gt_0_1_2 p0 p1 p2 p3 p4 d b103)) rfl ?_
    show SS pP eE belowS T104 (mkF mM 14 (Lc_law_gt_0_1_2 p0 p1 p2 p3 p4 d b103) []) _
    refine XS.aload X104.here hx rfl (hb hby at_14) rfl rfl ?_
    show SS pP eE belowS T104 (mkF mM 16 (Lc_law_gt_0_1_2 p0 p1 p2 p3 p4 d b103) [(.ref b103)]) _
    refine XS.aload X104.here hx rfl (hb hby at_16) rfl rfl ?_
    show SS pP eE belowS T104 (mkF mM 18 (Lc_law_gt_0_1_2 p0 p1 p2 p3 p4 d b103) [(.ref d), (.ref b103)]) _
    refine XS.iloadN X104.here hx rfl (hb hby at_18) rfl ?_
    show SS pP eE belowS T104 (mkF mM 19 (Lc_law_gt_0_1_2 p0 p1 p2 p3 p4 d b103) [(.int p0), (.ref d), (.ref b103)]) _
    refine st107.trans ?_
    show SS pP eE belowS T107 (mkF mM 22 (Lc_law_gt_0_1_2 p0 p1 p2 p3 p4 d b103) [(.int (0 : Int32))]) _
    refine XS.istore X107.here hx rfl (hb hby at_22) rfl (l' := (Lc_law_gt_0_1_3 p0 p1 p2 p3 p4 d b103)) rfl ?_
    show SS pP eE belowS T107 (mkF mM 24 (Lc_law_gt_0_1_3 p0 p1 p2 p3 p4 d b103) []) _
    refine XS.aload X107.here hx rfl (hb hby at_24) rfl rfl ?_
    show SS pP eE belowS T107 (mkF mM 26 (Lc_law_gt_0_1_3 p0 p1 p2 p3 p4 d b103) [(.ref b103)]) _
    refine XS.aload X107.here hx rfl (hb hby at_26) rfl rfl ?_
    show SS pP eE belowS T107 (mkF mM 28 (Lc_law_gt_0_1_3 p0 p1 p2 p3 p4 d b103) [(.ref d), (.ref b103)]) _
    refine XS.iloadN X107.here hx rfl (hb hby at_28) rfl ?_
    show SS pP eE belowS T107 (mkF mM 29 (Lc_law_gt_0_1_3 p0 p1 p2 p3 p4 d b103) [(.int p1), (.ref d), (.ref b103)]) _
    refine st112.trans ?_
    show SS pP eE belowS T112 (mkF mM 32 (Lc_law_gt_0_1_3 p0 p1 p2 p3 p4 d b103) [(.int (1 : Int32))]) _
    refine XS.istore X112.here hx rfl (hb hby at_32) rfl (l' := (Lc_law_gt_0_1_4 p0 p1 p2 p3 p4 d b103)) rfl ?_
    show SS pP eE belowS T112 (mkF mM 34 (Lc_law_gt_0_1_4 p0 p1 p2 p3 p4 d b103) []) _
    refine XS.iload X112.here hx rfl (hb hby at_34) rfl ?_
    show SS pP eE belowS T112 (mkF mM 36 (Lc_law_gt_0_1_4 p0 p1 p2 p3 p4 d b103) [(.int (0 : Int32))]) _
    refine XS.ifYes X112.here hx rfl (pc0 := 36) (pc' := 41) rfl (hb hby at_36) rfl ((if0 _ _).trans (teq (by decide : (0 : Int32) = (0 : Int32))).1) (by decide) (by decide) ?_
    show SS pP eE belowS T112 (mkF mM 41 (Lc_law_gt_0_1_4 p0 p1 p2 p3 p4 d b103) []) _
    refine XS.iload X112.here hx rfl (hb hby at_41) rfl ?_
    show SS pP eE belowS T112 (mkF mM 43 (Lc_law_gt_0_1_4 p0 p1 p2 p3 p4 d b103) [(.int (1 : Int32))]) _
    refine XS.iloadN X112.here hx rfl (hb hby at_43) rfl ?_
    show SS pP eE belowS T112 (mkF mM 44 (Lc_law_gt_0_1_4 p0 p1 p2 p3 p4 d b103) [(.int p1), (.int (1 : Int32))]) _
    refine XS.iloadN X112.here hx rfl (hb hby at_44) rfl ?_
    show SS pP eE belowS T112 (mkF mM 45 (Lc_law_gt_0_1_4 p0 p1 p2 p3 p4 d b103) [(.int p0), (.int p1), (.int (1 : Int32))]) _
    refine XS.icmpNo X112.here hx rfl (hb hby at_45) rfl (tlt hc37_112).2.2.2 ?_
    show SS pP eE belowS T112 (mkF mM 48 (Lc_law_gt_0_1_4 p0 p1 p2 p3 p4 d b103) [(.int (1 : Int32))]) _
    refine XS.iconst X112.here hx rfl (hb hby at_48) ?_
    show SS pP eE belowS T112 (mkF mM 49 (Lc_law_gt_0_1_4 p0 p1 p2 p3 p4 d b103) [(.int (1 : Int32)), (.int (1 : Int32))]) _
    refine XS.goto X112.here hx rfl (pc0 := 49) (pc' := 53) rfl (hb hby at_49) (by decide) (by decide) ?_
    show SS pP eE belowS T112 (mkF mM 53 (Lc_law_gt_0_1_4 p0 p1 p2 p3 p4 d b103) [(.int (1 : Int32)), (.int (1 : Int32))]) _
    refine XS.icmpYes X112.here hx rfl (pc0 := 53) (pc' := 58) rfl (hb hby at_53) rfl (teq (by decide : (1 : Int32) = (1 : Int32))).1 (by decide) (by decide) ?_
    show SS pP eE belowS T112 (mkF mM 58 (Lc_law_gt_0_1_4 p0 p1 p2 p3 p4 d b103) []) _
    refine XS.iload X112.here hx rfl (hb hby at_58) rfl ?_
    show SS pP eE belowS T112 (mkF mM 60 (Lc_law_gt_0_1_4 p0 p1 p2 p3 p4 d b103) [(.int p4)]) _
    refine XS.iconst X112.here hx rfl (hb hby at_60) ?_
    show SS pP eE belowS T112 (mkF mM 61 (Lc_law_gt_0_1_4 p0 p1 p2 p3 p4 d b103) [(.int (3 : Int32)), (.int p4)]) _
    refine XS.iand X112.here hx rfl (hb hby at_61) rfl ?_
    show SS pP eE belowS T112 (mkF mM 62 (Lc_law_gt_0_1_4 p0 p1 p2 p3 p4 d b103) [(.int (p4 &&& (3 : Int32)))]) _
    refine XS.istore X112.here hx rfl (hb hby at_62) rfl (l' := (Lc_law_gt_0_1_5 p0 p1 p2 p3 p4 d b103)) rfl ?_
    show SS pP eE belowS T112 (mkF mM 64 (Lc_law_gt_0_1_5 p0 p1 p2 p3 p4 d b103) []) _
    refine XS.iload X112.here hx rfl (hb hby at_64) rfl ?_
    show SS pP eE belowS T112 (mkF mM 66 (Lc_law_gt_0_1_5 p0 p1 p2 p3 p4 d b103) [(.int (p4 &&& (3 : Int32)))]) _
    refine XS.ifNo X112.here hx rfl (hb hby at_66) rfl ((if0 _ _).trans (teq hc66).2) ?_
    show SS pP eE belowS T112 (mkF mM 69 (Lc_law_gt_0_1_5 p0 p1 p2 p3 p4 d b103) []) _
    refine XS.iload X112.here hx rfl (hb hby at_69) rfl ?_
    show SS pP eE belowS T112 (mkF mM 71 (Lc_law_gt_0_1_5 p0 p1 p2 p3 p4 d b103) [(.int (0 : Int32))]) _
    refine XS.goto X112.here hx rfl (pc0 := 71) (pc' := 86) rfl (hb hby at_71) (by decide) (by decide) ?_
    show SS pP eE belowS T112 (mkF mM 86 (Lc_law_gt_0_1_5 p0 p1 p2 p3 p4 d b103) [(.int (0 : Int32))]) _
    refine XS.istore X112.here hx rfl (hb hby at_86) rfl (l' := (Lc_law_gt_0_1_6 p0 p1 p2 p3 p4 d b103)) rfl ?_
    show SS pP eE belowS T112 (mkF mM 88 (Lc_law_gt_0_1_6 p0 p1 p2 p3 p4 d b103) []) _
    refine XS.iload X112.here hx rfl (hb hby at_88) rfl ?_
    show SS pP eE belowS T112 (mkF mM 90 (Lc_law_gt_0_1_6 p0 p1 p2 p3 p4 d b103) [(.int p4)]) _
    refine XS.iconst X112.here hx rfl (hb hby at_90) ?_
    show SS pP eE belowS T112 (mkF mM 91 (Lc_law_gt_0_1_6 p0 p1 p2 p3 p4 d b103) [(.int (2 : Int32)), (.int p4)]) _
    refine XS.ishr X112.here hx rfl (hb hby at_91) rfl ?_
    show SS pP eE belowS T112 (mkF mM 92 (Lc_law_gt_0_1_6 p0 p1 p2 p3 p4 d b103) [(.int (p4 >>> ((2 : Int32) &&& 31)))]) _
    refine XS.iconst X112.here hx rfl (hb hby at_92) ?_
    show SS pP eE belowS T112 (mkF mM 93 (Lc_law_gt_0_1_6 p0 p1 p2 p3 p4 d b103) [(.int (1 : Int32)), (.int (p4 >>> ((2 : Int32) &&& 31)))]) _
    refine XS.iand X112.here hx rfl (hb hby at_93) rfl ?_
    show SS pP eE belowS T112 (mkF mM 94 (Lc_law_gt_0_1_6 p0 p1 p2 p3 p4 d b103) [(.int ((p4 >>> ((2 : Int32) &&& 31)) &&& (1 : Int32)))]) _
    refine XS.ifNo X112.here hx rfl (hb hby at_94) rfl ((if0 _ _).trans (feq hc94).1) ?_
    show SS pP eE belowS T112 (mkF mM 97 (Lc_law_gt_0_1_6 p0 p1 p2 p3 p4 d b103) []) _
    refine XS.iconst X112.here hx rfl (hb hby at_97) ?_
    show SS pP eE belowS T112 (mkF mM 98 (Lc_law_gt_0_1_6 p0 p1 p2 p3 p4 d b103) [(.int (1 : Int32))]) _
    refine XS.goto X112.here hx rfl (pc0 := 98) (pc' := 102) rfl (hb hby at_98) (by decide) (by decide) ?_
    show SS pP eE belowS T112 (mkF mM 102 (Lc_law_gt_0_1_6 p0 p1 p2 p3 p4 d b103) [(.int (1 : Int32))]) _
    refine XS.istore X112.here hx rfl (hb hby at_102) rfl (l' := (Lc_law_gt_0_1_7 p0 p1 p2 p3 p4 d b103)) rfl ?_
    show SS pP eE belowS T112 (mkF mM 104 (Lc_law_gt_0_1_7 p0 p1 p2 p3 p4 d b103) []) _
    refine XS.aload X112.here hx rfl (hb hby at_104) rfl rfl ?_
    show SS pP eE belowS T112 (mkF mM 106 (Lc_law_gt_0_1_7 p0 p1 p2 p3 p4 d b103) [(.ref b103)]) _
    refine XS.iload X112.here hx rfl (hb hby at_106) rfl ?_
    show SS pP eE belowS T112 (mkF mM 108 (Lc_law_gt_0_1_7 p0 p1 p2 p3 p4 d b103) [(.int (0 : Int32)), (.ref b103)]) _
    refine XS.iloadN X112.here hx rfl (hb hby at_108) rfl ?_
    show SS pP eE belowS T112 (mkF mM 109 (Lc_law_gt_0_1_7 p0 p1 p2 p3 p4 d b103) [(.int p2), (.int (0 : Int32)), (.ref b103)]) _
    refine st117.trans ?_
    show SS pP eE belowS T117 (mkF mM 112 (Lc_law_gt_0_1_7 p0 p1 p2 p3 p4 d b103) []) _
    refine XS.iload X117.here hx rfl (hb hby at_112) rfl ?_
    show SS pP eE belowS T117 (mkF mM 114 (Lc_law_gt_0_1_7 p0 p1 p2 p3 p4 d b103) [(.int (1 : Int32))]) _
    refine XS.ifNo X117.here hx rfl (hb hby at_114) rfl ((if0 _ _).trans (feq (by decide : ¬ ((1 : Int32) = (0 : Int32)))).1) ?_
    show SS pP eE belowS T117 (mkF mM 117 (Lc_law_gt_0_1_7 p0 p1 p2 p3 p4 d b103) []) _
    refine XS.aload X117.here hx rfl (hb hby at_117) rfl rfl ?_
    show SS pP eE belowS T117 (mkF mM 119 (Lc_law_gt_0_1_7 p0 p1 p2 p3 p4 d b103) [(.ref b103)]) _
    refine XS.iload X117.here hx rfl (hb hby at_119) rfl ?_
    show SS pP eE belowS T117 (mkF mM 121 (Lc_law_gt_0_1_7 p0 p1 p2 p3 p4 d b103) [(.int (0 : Int32)), (.ref b103)]) _
    refine XS.iloadN X117.here hx rfl (hb hby at_121) rfl ?_
    show SS pP eE belowS T117 (mkF mM 122 (Lc_law_gt_0_1_7 p0 p1 p2 p3 p4 d b103) [(.int p3), (.int (0 : Int32)), (.ref b103)]) _
    refine st118.trans ?_
    show SS pP eE belowS T118 (mkF mM 125 (Lc_law_gt_0_1_7 p0 p1 p2 p3 p4 d b103) []) _
    refine XS.iload X118.here hx rfl (hb hby at_125) rfl ?_
    show SS pP eE belowS T118 (mkF mM 127 (Lc_law_gt_0_1_7 p0 p1 p2 p3 p4 d b103) [(.int (1 : Int32))]) _
    refine XS.ifNo X118.here hx rfl (hb hby at_127) rfl ((if0 _ _).trans (feq (by decide : ¬ ((1 : Int32) = (0 : Int32)))).1) ?_
    show SS pP eE belowS T118 (mkF mM 130 (Lc_law_gt_0_1_7 p0 p1 p2 p3 p4 d b103) []) _
    refine XS.iloadN X118.here hx rfl (hb hby at_130) rfl ?_
    show SS pP eE belowS T118 (mkF mM 131 (Lc_law_gt_0_1_7 p0 p1 p2 p3 p4 d b103) [(.int p3)]) _
    refine XS.goto X118.here hx rfl (pc0 := 131) (pc' := 144) rfl (hb hby at_131) (by decide) (by decide) ?_
    show SS pP eE belowS T118 (mkF mM 144 (Lc_law_gt_0_1_7 p0 p1 p2 p3 p4 d b103) [(.int p3)]) _
    refine XS.istore X118.here hx rfl (hb hby at_144) rfl (l' := (Lc_law_gt_0_1_8 p0 p1 p2 p3 p4 d b103)) rfl ?_
    show SS pP eE belowS T118 (mkF mM 146 (Lc_law_gt_0_1_8 p0 p1 p2 p3 p4 d b103) []) _
    refine XS.iloadN X118.here hx rfl (hb hby at_146) rfl ?_
    show SS pP eE belowS T118 (mkF mM 147 (Lc_law_gt_0_1_8 p0 p1 p2 p3 p4 d b103) [(.int p1)]) _
    refine XS.iloadN X118.here hx rfl (hb hby at_147) rfl ?_
    show SS pP eE belowS T118 (mkF mM 148 (Lc_law_gt_0_1_8 p0 p1 p2 p3 p4 d b103) [(.int p0), (.int p1)]) _
    refine XS.icmpNo X118.here hx rfl (hb hby at_148) rfl (tlt hc37_112).2.2.2 ?_
    show SS pP eE belowS T118 (mkF mM 151 (Lc_law_gt_0_1_8 p0 p1 p2 p3 p4 d b103) []) _
    refine XS.iload X118.here hx rfl (hb hby at_151) rfl ?_
    show SS pP eE belowS T118 (mkF mM 153 (Lc_law_gt_0_1_8 p0 p1 p2 p3 p4 d b103) [(.int (0 : Int32))]) _
    refine XS.iconst X118.here hx rfl (hb hby at_153) ?_
    show SS pP eE belowS T118 (mkF mM 154 (Lc_law_gt_0_1_8 p0 p1 p2 p3 p4 d b103) [(.int (1 : Int32)), (.int (0 : Int32))]) _
    refine XS.icmpYes X118.here hx rfl (pc0 := 154) (pc' := 161) rfl (hb hby at_154) rfl (feq (by decide : ¬ ((0 : Int32) = (1 : Int32)))).2 (by decide) (by decide) ?_
    show SS pP eE belowS T118 (mkF mM 161 (Lc_law_gt_0_1_8 p0 p1 p2 p3 p4 d b103) []) _
    refine XS.iconst X118.here hx rfl (hb hby at_161) ?_
    show SS pP eE belowS T118 (mkF mM 162 (Lc_law_gt_0_1_8 p0 p1 p2 p3 p4 d b103) [(.int (-1 : Int32))]) _
    refine XS.istore X118.here hx rfl (hb hby at_162) rfl (l' := (Lc_law_gt_0_1_9 p0 p1 p2 p3 p4 d b103)) rfl ?_
    show SS pP eE belowS T118 (mkF mM 164 (Lc_law_gt_0_1_9 p0 p1 p2 p3 p4 d b103) []) _
    refine XS.goto X118.here hx rfl (pc0 := 164) (pc' := 182) rfl (hb hby at_164) (by decide) (by decide) ?_
    show SS pP eE belowS T118 (mkF mM 182 (Lc_law_gt_0_1_9 p0 p1 p2 p3 p4 d b103) []) _
    refine XS.aload X118.here hx rfl (hb hby at_182) rfl rfl ?_
    show SS pP eE belowS T118 (mkF mM 184 (Lc_law_gt_0_1_9 p0 p1 p2 p3 p4 d b103) [(.ref b103)]) _
    refine XS.aload X118.here hx rfl (hb hby at_184) rfl rfl ?_
    show SS pP eE belowS T118 (mkF mM 186 (Lc_law_gt_0_1_9 p0 p1 p2 p3 p4 d b103) [(.ref d), (.ref b103)]) _
    refine XS.iloadN X118.here hx rfl (hb hby at_186) rfl ?_
    show SS pP eE belowS T118 (mkF mM 187 (Lc_law_gt_0_1_9 p0 p1 p2 p3 p4 d b103) [(.int p0), (.ref d), (.ref b103)]) _
    refine st121.trans ?_
    show SS pP eE belowS T121 (mkF mM 190 (Lc_law_gt_0_1_9 p0 p1 p2 p3 p4 d b103) [(.int p3)]) _
    refine XS.iload X121.here hx rfl (hb hby at_190) rfl ?_
    show SS pP eE belowS T121 (mkF mM 192 (Lc_law_gt_0_1_9 p0 p1 p2 p3 p4 d b103) [(.int p3), (.int p3)]) _
    refine XS.icmpNo X121.here hx rfl (hb hby at_192) rfl (teq (rfl : p3 = p3)).2 ?_
    show SS pP eE belowS T121 (mkF mM 195 (Lc_law_gt_0_1_9 p0 p1 p2 p3 p4 d b103) []) _
    refine XS.aload X121.here hx rfl (hb hby at_195) rfl rfl ?_
    show SS pP eE belowS T121 (mkF mM 197 (Lc_law_gt_0_1_9 p0 p1 p2 p3 p4 d b103) [(.ref b103)]) _
    refine XS.aload X121.here hx rfl (hb hby at_197) rfl rfl ?_
    show SS pP eE belowS T121 (mkF mM 199 (Lc_law_gt_0_1_9 p0 p1 p2 p3 p4 d b103) [(.ref d), (.ref b103)]) _
    refine XS.iloadN X121.here hx rfl (hb hby at_199) rfl ?_
    show SS pP eE belowS T121 (mkF mM 200 (Lc_law_gt_0_1_9 p0 p1 p2 p3 p4 d b103) [(.int p1), (.ref d), (.ref b103)]) _
    refine st132.trans ?_
    show SS pP eE belowS T132 (mkF mM 203 (Lc_law_gt_0_1_9 p0 p1 p2 p3 p4 d b103) [(.int (-1 : Int32))]) _
    refine XS.iload X132.here hx rfl (hb hby at_203) rfl ?_
    show SS pP eE belowS T132 (mkF mM 205 (Lc_law_gt_0_1_9 p0 p1 p2 p3 p4 d b103) [(.int (-1 : Int32)), (.int (-1 : Int32))]) _
    refine XS.icmpNo X132.here hx rfl (hb hby at_205) rfl (teq (by decide : (-1 : Int32) = (-1 : Int32))).2 ?_
    show SS pP eE belowS T132 (mkF mM 208 (Lc_law_gt_0_1_9 p0 p1 p2 p3 p4 d b103) []) _
    refine XS.iconst X132.here hx rfl (hb hby at_208) ?_
    show SS pP eE belowS T132 (mkF mM 209 (Lc_law_gt_0_1_9 p0 p1 p2 p3 p4 d b103) [(.int (1 : Int32))]) _
    refine XS.goto X132.here hx rfl (pc0 := 209) (pc' := 213) rfl (hb hby at_209) (by decide) (by decide) ?_
    show SS pP eE belowS T132 (mkF mM 213 (Lc_law_gt_0_1_9 p0 p1 p2 p3 p4 d b103) [(.int (1 : Int32))]) _
    exact retN X132 hx (t := .boolean) Bd.returns (by simp) (hb hby at_213) hr
  · exact ⟨rfl, N132⟩

abbrev Lc_law_gt_1_0_0 (p0 : Int32) (p1 : Int32) (p2 : Int32) (p3 : Int32) (p4 : Int32) : Array Slot := #[.val (.int p0), .val (.int p1), .val (.int p2), .val (.int p3), .val (.int p4), .unset, .unset, .unset, .unset, .unset, .unset, .unset, .unset, .unset]
abbrev Lc_law_gt_1_0_1 (p0 : Int32) (p1 : Int32) (p2 : Int32) (p3 : Int32) (p4 : Int32) (d : Addr) : Array Slot := #[.val (.int p0), .val (.int p1), .val (.int p2), .val (.int p3), .val (.int p4), .val (.ref d), .unset, .unset, .unset, .unset, .unset, .unset, .unset, .unset]
abbrev Lc_law_gt_1_0_2 (p0 : Int32) (p1 : Int32) (p2 : Int32) (p3 : Int32) (p4 : Int32) (d : Addr) (b103 : Addr) : Array Slot := #[.val (.int p0), .val (.int p1), .val (.int p2), .val (.int p3), .val (.int p4), .val (.ref d), .val (.ref b103), .unset, .unset, .unset, .unset, .unset, .unset, .unset]
abbrev Lc_law_gt_1_0_3 (p0 : Int32) (p1 : Int32) (p2 : Int32) (p3 : Int32) (p4 : Int32) (d : Addr) (b103 : Addr) : Array Slot := #[.val (.int p0), .val (.int p1), .val (.int p2), .val (.int p3), .val (.int p4), .val (.ref d), .val (.ref b103), .val (.int (0 : Int32)), .unset, .unset, .unset, .unset, .unset, .unset]
abbrev Lc_law_gt_1_0_4 (p0 : Int32) (p1 : Int32) (p2 : Int32) (p3 : Int32) (p4 : Int32) (d : Addr) (b103 : Addr) : Array Slot := #[.val (.int p0), .val (.int p1), .val (.int p2), .val (.int p3), .val (.int p4), .val (.ref d), .val (.ref b103), .val (.int (0 : Int32)), .val (.int (1 : Int32)), .unset, .unset, .unset, .unset, .unset]
abbrev Lc_law_gt_1_0_5 (p0 : Int32) (p1 : Int32) (p2 : Int32) (p3 : Int32) (p4 : Int32) (d : Addr) (b103 : Addr) : Array Slot := #[.val (.int p0), .val (.int p1), .val (.int p2), .val (.int p3), .val (.int p4), .val (.ref d), .val (.ref b103), .val (.int (0 : Int32)), .val (.int (1 : Int32)), .val (.int (p4 &&& (3 : Int32))), .unset, .unset, .unset, .unset]
abbrev Lc_law_gt_1_0_6 (p0 : Int32) (p1 : Int32) (p2 : Int32) (p3 : Int32) (p4 : Int32) (d : Addr) (b103 : Addr) : Array Slot := #[.val (.int p0), .val (.int p1), .val (.int p2), .val (.int p3), .val (.int p4), .val (.ref d), .val (.ref b103), .val (.int (0 : Int32)), .val (.int (1 : Int32)), .val (.int (p4 &&& (3 : Int32))), .val (.int (1 : Int32)), .unset, .unset, .unset]
abbrev Lc_law_gt_1_0_7 (p0 : Int32) (p1 : Int32) (p2 : Int32) (p3 : Int32) (p4 : Int32) (d : Addr) (b103 : Addr) : Array Slot := #[.val (.int p0), .val (.int p1), .val (.int p2), .val (.int p3), .val (.int p4), .val (.ref d), .val (.ref b103), .val (.int (0 : Int32)), .val (.int (1 : Int32)), .val (.int (p4 &&& (3 : Int32))), .val (.int (1 : Int32)), .val (.int (0 : Int32)), .unset, .unset]
abbrev Lc_law_gt_1_0_8 (p0 : Int32) (p1 : Int32) (p2 : Int32) (p3 : Int32) (p4 : Int32) (d : Addr) (b103 : Addr) : Array Slot := #[.val (.int p0), .val (.int p1), .val (.int p2), .val (.int p3), .val (.int p4), .val (.ref d), .val (.ref b103), .val (.int (0 : Int32)), .val (.int (1 : Int32)), .val (.int (p4 &&& (3 : Int32))), .val (.int (1 : Int32)), .val (.int (0 : Int32)), .val (.int (-1 : Int32)), .unset]
abbrev Lc_law_gt_1_0_9 (p0 : Int32) (p1 : Int32) (p2 : Int32) (p3 : Int32) (p4 : Int32) (d : Addr) (b103 : Addr) : Array Slot := #[.val (.int p0), .val (.int p1), .val (.int p2), .val (.int p3), .val (.int p4), .val (.ref d), .val (.ref b103), .val (.int (0 : Int32)), .val (.int (1 : Int32)), .val (.int (p4 &&& (3 : Int32))), .val (.int (1 : Int32)), .val (.int (0 : Int32)), .val (.int (-1 : Int32)), .val (.int p2)]
theorem ef_law_gt_1_0 (mM : MethodId) (p0 : Int32) (p1 : Int32) (p2 : Int32) (p3 : Int32) (p4 : Int32) (aN : Addr) (kN : ClassId) (d : Addr) : entryFrame mM #[(.int p0), (.int p1), (.int p2), (.int p3), (.int p4)] maxLocals = mkF mM 0 #[.val (.int p0), .val (.int p1), .val (.int p2), .val (.int p3), .val (.int p4), .unset, .unset, .unset, .unset, .unset, .unset, .unset, .unset, .unset] [] := by first | (simp [entryFrame, mkF, argsToLocals, Value.category, maxLocals]; done) | rfl
set_option maxRecDepth 65536 in
set_option maxHeartbeats 40000000 in
theorem rm_law_gt_1_0 (l : Launch) (Z : State) (a0 : Array Value) (hw : ∀ d ∈ tables_1, d.before a0 Z = true) (ws : List Jvm.Cond) (p0 : Int32) (p1 : Int32) (p2 : Int32) (p3 : Int32) (p4 : Int32) (aN : Addr) (kN : ClassId) (d : Addr) (h0 : Heap) (n0 : Nat) (Z0 : n0 ≤ h0.size) (OL : Old Z n0 h0) (S_DEFAULT : Sta Z Z.heap "com/example/macroweave/macroweave/Brackets" "DEFAULT" "Lcom/example/macroweave/macroweave/Brackets;" (.ref d)) (S_NONE : Sta Z Z.heap "com/example/macroweave/macroweave/BracketPairs" "NONE" "[I" (.ref aN)) (V_aN : Arv Z h0 aN kN .int (0 : Int32) [] (.int (0 : Int32))) (hc37_112 : p0 < p1) (hc66 : ¬ ((p4 &&& (3 : Int32)) = (0 : Int32))) (hc77 : (p4 &&& (3 : Int32)) = (1 : Int32)) (hc94 : ((p4 >>> ((2 : Int32) &&& 31)) &&& (1 : Int32)) = (0 : Int32)) :
    MetFree l x (head1 (Jvm.Cond.code x code maxLocals ret :: ws) room_1) (fun xa xU => xa = #[(.int p0), (.int p1), (.int p2), (.int p3), (.int p4)] ∧ Z.Warmed39 xU.vm ∧ xU.heap = h0) (fun _ _ _ _ _ => True) (fun _ xU xo xU' => ∃ xv xL, xo = .returned xv ∧ Q_law n0 xv xL ∧ FrameEnd xU xo xU' xL room_1.cells room_1.slots) := by
  refine MetFree.of_bodySF (plainFor_of_name pn_com_example_macroweave_macroweave_BracketPairsClosedPinLaw) hisR ?_
  intro pP eE sS mM argS belowS methS cC s₁ Bd hml0 hP hK
  obtain ⟨rfl, hZ, hh⟩ := hP
  have hx := Bd.exec
  have hby := Bd.bytes
  have hml : cC.maxLocals = 14 := hml0
  have hown : sS.vm.findClass "com/example/macroweave/macroweave/BracketPairsClosedPinLaw" = some mM.cls := findClass_of_methodNamed Bd.named
  have hnm := (name_of_methodNamed Bd.named Bd.method).1
  have X0 : Stand pP l eE room_1 sS mM #[(.int p0), (.int p1), (.int p2), (.int p3), (.int p4)] belowS methS cC s₁ [] 0 0 := Stand.of_body Bd
  have e0 : s₁.heap = h0 := by rw [← hh, Bd.state]; rfl
  have N0 := Fr.nil n0
  have pre0 : ∀ t', Steps pP.tables eE belowS (s₁.setTop (mkF mM 0 #[.val (.int p0), .val (.int p1), .val (.int p2), .val (.int p3), .val (.int p4), .unset, .unset, .unset, .unset, .unset, .unset, .unset, .unset, .unset] [])) t' → Steps pP.tables eE belowS (s₁.setTop (entryFrame mM #[(.int p0), (.int p1), (.int p2), (.int p3), (.int p4)] maxLocals)) t' := fun t' kk' => castTop (ef_law_gt_1_0 mM p0 p1 p2 p3 p4 aN kN d) kk'
  have c101_S_DEFAULT : Sta Z h0 "com/example/macroweave/macroweave/Brackets" "DEFAULT" "Lcom/example/macroweave/macroweave/Brackets;" (.ref d) := Sta.ext OL.2 S_DEFAULT
  obtain ⟨T102, X102, e102, st102⟩ := getS2 X0 hx hZ hown (host := "") (Or.inl (wi hw 0 rfl)) Via.refl e0 c101_S_DEFAULT (g := (mkF mM 0 (Lc_law_gt_1_0_0 p0 p1 p2 p3 p4) [])) rfl (hb hby at_0)
  obtain ⟨T103, h103, X103, e103, E103, A103, D103, B103, st103⟩ := newO X102 hx hZ hown (wi hw 3 rfl) (wi hw 4 rfl) (wi hw 5 rfl) e102 (g := (mkF mM 5 (Lc_law_gt_1_0_1 p0 p1 p2 p3 p4 d) [])) rfl (hb hby at_5) (by decide) (by decide)
  obtain ⟨b103, g103⟩ : ∃ z : Nat, z = h0.size := ⟨_, rfl⟩
  rw [← g103] at A103 D103 B103 st103
  have Sz1 : h0.size ≤ h103.size := E103.1
  have F103_contentStarts : Fld Z h103 b103 "com/example/macroweave/macroweave/BracketPairs" "contentStarts" "[I" .null := D103 (Or.inl (wi hw 15 rfl)) (ty := (.array .int)) (by decide)
  have F103_closes : Fld Z h103 b103 "com/example/macroweave/macroweave/BracketPairs" "closes" "[I" .null := D103 (Or.inl (wi hw 17 rfl)) (ty := (.array .int)) (by decide)
  have F103_brackets : Fld Z h103 b103 "com/example/macroweave/macroweave/BracketPairs" "brackets" "Lcom/example/macroweave/macroweave/Brackets;" .null := D103 (Or.inl (wi hw 24 rfl)) (ty := (.object "com/example/macroweave/macroweave/Brackets")) (by decide)
  have F103_size : Fld Z h103 b103 "com/example/macroweave/macroweave/BracketPairs" "size" "I" (.int (0 : Int32)) := D103 (Or.inl (wi hw 26 rfl)) (ty := .int) (by decide)
  have c105_OL : Old Z n0 h103 := OL.ext E103
  have ge106_b103 : @LE.le Nat _ n0 b103 := by omega
  obtain ⟨_, _, ⟨T104, L104, k104, n104⟩, -, X104, ⟨Lc104, hQ104, l104, y104, z104⟩, st104⟩ := X103.specialBack hx (y := (⟨"com/example/macroweave/macroweave/BracketPairs", "<init>", "()V"⟩ : MethodName)) rfl hown (mvT hZ (wi hw 6 rfl)) (mvT hZ (wi hw 7 rfl)) (mvT hZ (wi hw 8 rfl)) (by decide) (backOf (W := 1) (rm_init l Z a0 hw [] b103 aN .null .null .null (.int (0 : Int32)) h103 n0 (by omega) A103 F103_contentStarts F103_closes F103_brackets F103_size ge106_b103 c105_OL S_NONE) hZ (wi hw 8 rfl) (wi hw 5 rfl) (by decide) (by decide)) (g := (mkF mM 9 (Lc_law_gt_1_0_1 p0 p1 p2 p3 p4 d) [(.ref b103), (.ref b103)])) rfl (by rw [hml]; rfl) (Steps.refl _) (a := b103) (argsL := []) (rest := [(.ref b103)]) (lenOf pd_0 rfl) rfl (by show 2 * 0 + _ ≤ _; exact Nat.le_of_eq rfl) (hb hby at_9) (fun _ _ => ⟨rfl, e103, Nat.le_of_ble_eq_true rfl, Nat.le_of_ble_eq_true rfl⟩)
  dsimp only [Pt.U, Pt.locs, Pt.cells, Pt.slots] at X104 l104 y104 z104 st104 hQ104
  subst l104 y104 z104
  obtain ⟨h104, e104⟩ : ∃ z, T104.heap = z := ⟨_, rfl⟩
  rw [e104] at hQ104
  obtain ⟨rfl, N104q, Kp104, p104_E_a1, p104_F_contentStarts_a1, p104_F_closes_a1, p104_F_brackets_a1, p104_F_size_a1⟩ := hQ104
  have Sz2 : h103.size ≤ h104.size := Kp104.1
  have N104 := Fr.app N0 N104q
  have c108_V_aN : Arv Z h103 aN kN .int (0 : Int32) [] (.int (0 : Int32)) := V_aN.ext E103
  have lt_aN : @LT.lt Nat _ aN h0.size := V_aN.lt
  have lt_b103 : @LT.lt Nat _ b103 h104.size := p104_E_a1.lt
  have ne_aN_b103_109 : aN ≠ b103 := (by omega : @Ne Nat aN b103)
  have c110_V_aN : Arv Z h104 aN kN .int (0 : Int32) [] (.int (0 : Int32)) := c108_V_aN.keep Kp104 (ninS ne_aN_b103_109 nin0)
  have ne_b103_aN_111 : b103 ≠ aN := (by omega : @Ne Nat b103 aN)
  obtain ⟨cq107, kq107, q107a, q107b, q107c⟩ := isOf hZ e104 p104_E_a1
  obtain ⟨_, _, ⟨T107, L107, k107, n107⟩, -, X107, ⟨Lc107, hQ107, l107, y107, z107⟩, st107⟩ := X104.virtualBack hx (y := (⟨"com/example/macroweave/macroweave/BracketPairs", "opened", "(Lcom/example/macroweave/macroweave/Brackets;I)I"⟩ : MethodName)) (z := (⟨"com/example/macroweave/macroweave/BracketPairs", "opened", "(Lcom/example/macroweave/macroweave/Brackets;I)I"⟩ : MethodName)) hown (mvT hZ (wi hw 18 rfl)) (mvT hZ (wi hw 19 rfl)) (notFace_of_selects (args := #[]) (mvT hZ (wi hw 21 rfl))) (mvT hZ (wi hw 21 rfl)) (mvT hZ (wi hw 20 rfl)) (by decide) (backOf (W := 0) (rm_open1 l Z a0 hw [] b103 d p0 aN kN h104 n0 (by omega) p104_E_a1 p104_F_brackets_a1 p104_F_contentStarts_a1 p104_F_closes_a1 p104_F_size_a1 c110_V_aN ne_b103_aN_111 ge106_b103) hZ (wi hw 22 rfl) (wi hw 5 rfl) (by decide) (by decide)) q107a q107c (g := (mkF mM 19 (Lc_law_gt_1_0_2 p0 p1 p2 p3 p4 d b103) [(.int p0), (.ref d), (.ref b103)])) rfl (by rw [hml]; rfl) (Steps.refl _) (argsL := [(.ref d), (.int p0)]) (rest := []) (lenOf pd_1 rfl) rfl (by show 2 * 0 + _ ≤ _; exact Nat.le_of_eq rfl) (hb hby at_19) (fun _ _ => ⟨rfl, e104, Nat.le_of_ble_eq_true rfl, Nat.le_of_ble_eq_true rfl⟩)
  dsimp only [Pt.U, Pt.locs, Pt.cells, Pt.slots] at X107 l107 y107 z107 st107 hQ107
  subst l107 y107 z107
  obtain ⟨h107, e107⟩ : ∃ z, T107.heap = z := ⟨_, rfl⟩
  rw [e107] at hQ107
  obtain ⟨b1_107, b2_107, k1_107, k2_107, rfl, N107q, Kp107, p107_E_a1, p107_F_brackets_a1, p107_F_contentStarts_a1, p107_F_closes_a1, p107_F_size_a1, p107_V_b1, p107_V_b2, p107_gh_b1, p107_gh_b2, p107_ne_b1_b2⟩ := hQ107
  have Sz3 : h104.size ≤ h107.size := Kp107.1
  have N107 := Fr.app N104 N107q
  have lt_b1_107 : @LT.lt Nat _ b1_107 h107.size := p107_V_b1.lt
  have ne_b103_b1_107_113 : b103 ≠ b1_107 := (by omega : @Ne Nat b103 b1_107)
  have lt_b2_107 : @LT.lt Nat _ b2_107 h107.size := p107_V_b2.lt
  have ne_b103_b2_107_114 : b103 ≠ b2_107 := (by omega : @Ne Nat b103 b2_107)
  have ge115_b1_107 : @LE.le Nat _ n0 b1_107 := by omega
  have ge116_b2_107 : @LE.le Nat _ n0 b2_107 := by omega
  obtain ⟨cq112, kq112, q112a, q112b, q112c⟩ := isOf hZ e107 p107_E_a1
  obtain ⟨_, _, ⟨T112, L112, k112, n112⟩, -, X112, ⟨Lc112, hQ112, l112, y112, z112⟩, st112⟩ := X107.virtualBack hx (y := (⟨"com/example/macroweave/macroweave/BracketPairs", "opened", "(Lcom/example/macroweave/macroweave/Brackets;I)I"⟩ : MethodName)) (z := (⟨"com/example/macroweave/macroweave/BracketPairs", "opened", "(Lcom/example/macroweave/macroweave/Brackets;I)I"⟩ : MethodName)) hown (mvT hZ (wi hw 18 rfl)) (mvT hZ (wi hw 19 rfl)) (notFace_of_selects (args := #[]) (mvT hZ (wi hw 21 rfl))) (mvT hZ (wi hw 21 rfl)) (mvT hZ (wi hw 20 rfl)) (by decide) (backOf (W := 0) (rm_open2 l Z a0 hw [] b103 d p1 p0 b1_107 b2_107 k1_107 k2_107 h107 n0 (by omega) p107_E_a1 p107_F_brackets_a1 p107_F_contentStarts_a1 p107_F_closes_a1 p107_F_size_a1 p107_V_b1 p107_V_b2 ne_b103_b1_107_113 ne_b103_b2_107_114 p107_ne_b1_b2 ge106_b103 ge115_b1_107 ge116_b2_107 hc37_112) hZ (wi hw 22 rfl) (wi hw 5 rfl) (by decide) (by decide)) q112a q112c (g := (mkF mM 29 (Lc_law_gt_1_0_3 p0 p1 p2 p3 p4 d b103) [(.int p1), (.ref d), (.ref b103)])) rfl (by rw [hml]; rfl) (Steps.refl _) (argsL := [(.ref d), (.int p1)]) (rest := []) (lenOf pd_1 rfl) rfl (by show 2 * 0 + _ ≤ _; exact Nat.le_of_eq rfl) (hb hby at_29) (fun _ _ => ⟨rfl, e107, Nat.le_of_ble_eq_true rfl, Nat.le_of_ble_eq_true rfl⟩)
  dsimp only [Pt.U, Pt.locs, Pt.cells, Pt.slots] at X112 l112 y112 z112 st112 hQ112
  subst l112 y112 z112
  obtain ⟨h112, e112⟩ : ∃ z, T112.heap = z := ⟨_, rfl⟩
  rw [e112] at hQ112
  obtain ⟨rfl, N112q, Kp112, p112_E_a1, p112_F_brackets_a1, p112_F_contentStarts_a1, p112_F_closes_a1, p112_F_size_a1, p112_V_b1, p112_V_b2⟩ := hQ112
  have Sz4 : h107.size ≤ h112.size := Kp112.1
  have N112 := Fr.app N107 N112q
  obtain ⟨cq117, kq117, q117a, q117b, q117c⟩ := isOf hZ e112 p112_E_a1
  obtain ⟨_, _, ⟨T117, L117, k117, n117⟩, -, X117, ⟨Lc117, hQ117, l117, y117, z117⟩, st117⟩ := X112.virtualBack hx (y := (⟨"com/example/macroweave/macroweave/BracketPairs", "closed", "(II)V"⟩ : MethodName)) (z := (⟨"com/example/macroweave/macroweave/BracketPairs", "closed", "(II)V"⟩ : MethodName)) hown (mvT hZ (wi hw 43 rfl)) (mvT hZ (wi hw 44 rfl)) (notFace_of_selects (args := #[]) (mvT hZ (wi hw 46 rfl))) (mvT hZ (wi hw 46 rfl)) (mvT hZ (wi hw 45 rfl)) (by decide) (backOf (W := 0) (rm_closed1 l Z a0 hw [] b103 p2 b2_107 k2_107 (-1 : Int32) (-1 : Int32) h112 n0 (by omega) p112_E_a1 p112_F_closes_a1 p112_V_b2 ne_b103_b2_107_114 ge116_b2_107) hZ (wi hw 47 rfl) (wi hw 5 rfl) (by decide) (by decide)) q117a q117c (g := (mkF mM 109 (Lc_law_gt_1_0_7 p0 p1 p2 p3 p4 d b103) [(.int p2), (.int (1 : Int32)), (.ref b103)])) rfl (by rw [hml]; rfl) (Steps.refl _) (argsL := [(.int (1 : Int32)), (.int p2)]) (rest := []) (lenOf pd_5 rfl) rfl (by show 2 * 0 + _ ≤ _; exact Nat.le_of_eq rfl) (hb hby at_109) (fun _ _ => ⟨rfl, e112, Nat.le_of_ble_eq_true rfl, Nat.le_of_ble_eq_true rfl⟩)
  dsimp only [Pt.U, Pt.locs, Pt.cells, Pt.slots] at X117 l117 y117 z117 st117 hQ117
  subst l117 y117 z117
  obtain ⟨h117, e117⟩ : ∃ z, T117.heap = z := ⟨_, rfl⟩
  rw [e117] at hQ117
  obtain ⟨rfl, N117q, Kp117, p117_V_b2⟩ := hQ117
  have Sz5 : h112.size ≤ h117.size := Kp117.1
  have N117 := Fr.app N112 N117q
  have c119_F_brackets_b103 : Fld Z h117 b103 "com/example/macroweave/macroweave/BracketPairs" "brackets" "Lcom/example/macroweave/macroweave/Brackets;" (.ref d) := p112_F_brackets_a1.keep Kp117 (ninS ne_b103_b2_107_114 nin0)
  have c120_F_contentStarts_b103 : Fld Z h117 b103 "com/example/macroweave/macroweave/BracketPairs" "contentStarts" "[I" (.ref b1_107) := p112_F_contentStarts_a1.keep Kp117 (ninS ne_b103_b2_107_114 nin0)
  have c121_F_closes_b103 : Fld Z h117 b103 "com/example/macroweave/macroweave/BracketPairs" "closes" "[I" (.ref b2_107) := p112_F_closes_a1.keep Kp117 (ninS ne_b103_b2_107_114 nin0)
  have c122_F_size_b103 : Fld Z h117 b103 "com/example/macroweave/macroweave/BracketPairs" "size" "I" (.int (2 : Int32)) := p112_F_size_a1.keep Kp117 (ninS ne_b103_b2_107_114 nin0)
  have c123_V_b1_107 : Arv Z h117 b1_107 k1_107 .int (4 : Int32) [(.int p0), (.int p1), (.int (0 : Int32)), (.int (0 : Int32))] (.int (0 : Int32)) := p112_V_b1.keep Kp117 (ninS p107_ne_b1_b2 nin0)
  have c124_E_b103 : Exa Z h117 b103 "com/example/macroweave/macroweave/BracketPairs" := p112_E_a1.keep Kp117
  obtain ⟨cq118, kq118, q118a, q118b, q118c⟩ := isOf hZ e117 c124_E_b103
  obtain ⟨_, _, ⟨T118, L118, k118, n118⟩, -, X118, ⟨Lc118, hQ118, l118, y118, z118⟩, st118⟩ := X117.virtualBack hx (y := (⟨"com/example/macroweave/macroweave/BracketPairs", "close", "(Lcom/example/macroweave/macroweave/Brackets;I)I"⟩ : MethodName)) (z := (⟨"com/example/macroweave/macroweave/BracketPairs", "close", "(Lcom/example/macroweave/macroweave/Brackets;I)I"⟩ : MethodName)) hown (mvT hZ (wi hw 48 rfl)) (mvT hZ (wi hw 49 rfl)) (notFace_of_selects (args := #[]) (mvT hZ (wi hw 51 rfl))) (mvT hZ (wi hw 51 rfl)) (mvT hZ (wi hw 50 rfl)) (by decide) (backOf (W := 0) (rm_close_2x l Z a0 hw [] b103 d b1_107 k1_107 p0 p1 b2_107 k2_107 (-1 : Int32) p2 h117 n0 (by omega) c119_F_brackets_b103 c120_F_contentStarts_b103 c121_F_closes_b103 c122_F_size_b103 c123_V_b1_107 p117_V_b2) hZ (wi hw 52 rfl) (wi hw 5 rfl) (by decide) (by decide)) q118a q118c (g := (mkF mM 187 (Lc_law_gt_1_0_9 p0 p1 p2 p3 p4 d b103) [(.int p0), (.ref d), (.ref b103)])) rfl (by rw [hml]; rfl) (Steps.refl _) (argsL := [(.ref d), (.int p0)]) (rest := []) (lenOf pd_1 rfl) rfl (by show 2 * 0 + _ ≤ _; exact Nat.le_of_eq rfl) (hb hby at_187) (fun _ _ => ⟨rfl, e117, Nat.le_of_ble_eq_true rfl, Nat.le_of_ble_eq_true rfl⟩)
  dsimp only [Pt.U, Pt.locs, Pt.cells, Pt.slots] at X118 l118 y118 z118 st118 hQ118
  subst l118 y118 z118
  obtain ⟨h118, e118⟩ : ∃ z, T118.heap = z := ⟨_, rfl⟩
  rw [e118] at hQ118
  obtain ⟨rfl, N118q, eq118⟩ := hQ118
  rw [eq118] at e118
  have N118 := Fr.app N117 N118q
  obtain ⟨cq125, kq125, q125a, q125b, q125c⟩ := isOf hZ e118 c124_E_b103
  obtain ⟨_, _, ⟨T125, L125, k125, n125⟩, -, X125, ⟨Lc125, hQ125, l125, y125, z125⟩, st125⟩ := X118.virtualBack hx (y := (⟨"com/example/macroweave/macroweave/BracketPairs", "close", "(Lcom/example/macroweave/macroweave/Brackets;I)I"⟩ : MethodName)) (z := (⟨"com/example/macroweave/macroweave/BracketPairs", "close", "(Lcom/example/macroweave/macroweave/Brackets;I)I"⟩ : MethodName)) hown (mvT hZ (wi hw 48 rfl)) (mvT hZ (wi hw 49 rfl)) (notFace_of_selects (args := #[]) (mvT hZ (wi hw 51 rfl))) (mvT hZ (wi hw 51 rfl)) (mvT hZ (wi hw 50 rfl)) (by decide) (backOf (W := 0) (rm_close_2y l Z a0 hw [] b103 d b1_107 k1_107 p0 p1 b2_107 k2_107 (-1 : Int32) p2 h117 n0 (by omega) c119_F_brackets_b103 c120_F_contentStarts_b103 c121_F_closes_b103 c122_F_size_b103 c123_V_b1_107 p117_V_b2 hc37_112) hZ (wi hw 52 rfl) (wi hw 5 rfl) (by decide) (by decide)) q125a q125c (g := (mkF mM 200 (Lc_law_gt_1_0_9 p0 p1 p2 p3 p4 d b103) [(.int p1), (.ref d), (.ref b103)])) rfl (by rw [hml]; rfl) (Steps.refl _) (argsL := [(.ref d), (.int p1)]) (rest := []) (lenOf pd_1 rfl) rfl (by show 2 * 0 + _ ≤ _; exact Nat.le_of_eq rfl) (hb hby at_200) (fun _ _ => ⟨rfl, e118, Nat.le_of_ble_eq_true rfl, Nat.le_of_ble_eq_true rfl⟩)
  dsimp only [Pt.U, Pt.locs, Pt.cells, Pt.slots] at X125 l125 y125 z125 st125 hQ125
  subst l125 y125 z125
  obtain ⟨h125, e125⟩ : ∃ z, T125.heap = z := ⟨_, rfl⟩
  rw [e125] at hQ125
  obtain ⟨rfl, N125q, eq125⟩ := hQ125
  rw [eq125] at e125
  have N125 := Fr.app N118 N125q
  obtain ⟨fs, hr, hrun, hended, hW, hsame⟩ := X125.leave (v := some (.int (1 : Int32))) (fun h => by rw [Bd.returns] at h; cases h)
  refine ⟨_, _, pre0 _ ?_, hrun, hended, _, _, rfl, ?_, ⟨_, rfl⟩, hW, hsame.mono (by decide) (by decide)⟩
  · show SS pP eE belowS s₁ (mkF mM 0 (Lc_law_gt_1_0_0 p0 p1 p2 p3 p4) []) _
    refine st102 _ ?_
    show SS pP eE belowS T102 (mkF mM 3 (Lc_law_gt_1_0_0 p0 p1 p2 p3 p4) [(.ref d)]) _
    refine XS.astore X102.here hx rfl (hb hby at_3) rfl rfl (l' := (Lc_law_gt_1_0_1 p0 p1 p2 p3 p4 d)) rfl ?_
    show SS pP eE belowS T102 (mkF mM 5 (Lc_law_gt_1_0_1 p0 p1 p2 p3 p4 d) []) _
    refine st103 _ ?_
    show SS pP eE belowS T103 (mkF mM 8 (Lc_law_gt_1_0_1 p0 p1 p2 p3 p4 d) [(.ref b103)]) _
    refine XS.dup X103.here hx rfl (hb hby at_8) rfl rfl ?_
    show SS pP eE belowS T103 (mkF mM 9 (Lc_law_gt_1_0_1 p0 p1 p2 p3 p4 d) [(.ref b103), (.ref b103)]) _
    refine st104.trans ?_
    show SS pP eE belowS T104 (mkF mM 12 (Lc_law_gt_1_0_1 p0 p1 p2 p3 p4 d) [(.ref b103)]) _
    refine XS.astore X104.here hx rfl (hb hby at_12) rfl rfl (l' := (Lc_law_gt_1_0_2 p0 p1 p2 p3 p4 d b103)) rfl ?_
    show SS pP eE belowS T104 (mkF mM 14 (Lc_law_gt_1_0_2 p0 p1 p2 p3 p4 d b103) []) _
    refine XS.aload X104.here hx rfl (hb hby at_14) rfl rfl ?_
    show SS pP eE belowS T104 (mkF mM 16 (Lc_law_gt_1_0_2 p0 p1 p2 p3 p4 d b103) [(.ref b103)]) _
    refine XS.aload X104.here hx rfl (hb hby at_16) rfl rfl ?_
    show SS pP eE belowS T104 (mkF mM 18 (Lc_law_gt_1_0_2 p0 p1 p2 p3 p4 d b103) [(.ref d), (.ref b103)]) _
    refine XS.iloadN X104.here hx rfl (hb hby at_18) rfl ?_
    show SS pP eE belowS T104 (mkF mM 19 (Lc_law_gt_1_0_2 p0 p1 p2 p3 p4 d b103) [(.int p0), (.ref d), (.ref b103)]) _
    refine st107.trans ?_
    show SS pP eE belowS T107 (mkF mM 22 (Lc_law_gt_1_0_2 p0 p1 p2 p3 p4 d b103) [(.int (0 : Int32))]) _
    refine XS.istore X107.here hx rfl (hb hby at_22) rfl (l' := (Lc_law_gt_1_0_3 p0 p1 p2 p3 p4 d b103)) rfl ?_
    show SS pP eE belowS T107 (mkF mM 24 (Lc_law_gt_1_0_3 p0 p1 p2 p3 p4 d b103) []) _
    refine XS.aload X107.here hx rfl (hb hby at_24) rfl rfl ?_
    show SS pP eE belowS T107 (mkF mM 26 (Lc_law_gt_1_0_3 p0 p1 p2 p3 p4 d b103) [(.ref b103)]) _
    refine XS.aload X107.here hx rfl (hb hby at_26) rfl rfl ?_
    show SS pP eE belowS T107 (mkF mM 28 (Lc_law_gt_1_0_3 p0 p1 p2 p3 p4 d b103) [(.ref d), (.ref b103)]) _
    refine XS.iloadN X107.here hx rfl (hb hby at_28) rfl ?_
    show SS pP eE belowS T107 (mkF mM 29 (Lc_law_gt_1_0_3 p0 p1 p2 p3 p4 d b103) [(.int p1), (.ref d), (.ref b103)]) _
    refine st112.trans ?_
    show SS pP eE belowS T112 (mkF mM 32 (Lc_law_gt_1_0_3 p0 p1 p2 p3 p4 d b103) [(.int (1 : Int32))]) _
    refine XS.istore X112.here hx rfl (hb hby at_32) rfl (l' := (Lc_law_gt_1_0_4 p0 p1 p2 p3 p4 d b103)) rfl ?_
    show SS pP eE belowS T112 (mkF mM 34 (Lc_law_gt_1_0_4 p0 p1 p2 p3 p4 d b103) []) _
    refine XS.iload X112.here hx rfl (hb hby at_34) rfl ?_
    show SS pP eE belowS T112 (mkF mM 36 (Lc_law_gt_1_0_4 p0 p1 p2 p3 p4 d b103) [(.int (0 : Int32))]) _
    refine XS.ifYes X112.here hx rfl (pc0 := 36) (pc' := 41) rfl (hb hby at_36) rfl ((if0 _ _).trans (teq (by decide : (0 : Int32) = (0 : Int32))).1) (by decide) (by decide) ?_
    show SS pP eE belowS T112 (mkF mM 41 (Lc_law_gt_1_0_4 p0 p1 p2 p3 p4 d b103) []) _
    refine XS.iload X112.here hx rfl (hb hby at_41) rfl ?_
    show SS pP eE belowS T112 (mkF mM 43 (Lc_law_gt_1_0_4 p0 p1 p2 p3 p4 d b103) [(.int (1 : Int32))]) _
    refine XS.iloadN X112.here hx rfl (hb hby at_43) rfl ?_
    show SS pP eE belowS T112 (mkF mM 44 (Lc_law_gt_1_0_4 p0 p1 p2 p3 p4 d b103) [(.int p1), (.int (1 : Int32))]) _
    refine XS.iloadN X112.here hx rfl (hb hby at_44) rfl ?_
    show SS pP eE belowS T112 (mkF mM 45 (Lc_law_gt_1_0_4 p0 p1 p2 p3 p4 d b103) [(.int p0), (.int p1), (.int (1 : Int32))]) _
    refine XS.icmpNo X112.here hx rfl (hb hby at_45) rfl (tlt hc37_112).2.2.2 ?_
    show SS pP eE belowS T112 (mkF mM 48 (Lc_law_gt_1_0_4 p0 p1 p2 p3 p4 d b103) [(.int (1 : Int32))]) _
    refine XS.iconst X112.here hx rfl (hb hby at_48) ?_
    show SS pP eE belowS T112 (mkF mM 49 (Lc_law_gt_1_0_4 p0 p1 p2 p3 p4 d b103) [(.int (1 : Int32)), (.int (1 : Int32))]) _
    refine XS.goto X112.here hx rfl (pc0 := 49) (pc' := 53) rfl (hb hby at_49) (by decide) (by decide) ?_
    show SS pP eE belowS T112 (mkF mM 53 (Lc_law_gt_1_0_4 p0 p1 p2 p3 p4 d b103) [(.int (1 : Int32)), (.int (1 : Int32))]) _
    refine XS.icmpYes X112.here hx rfl (pc0 := 53) (pc' := 58) rfl (hb hby at_53) rfl (teq (by decide : (1 : Int32) = (1 : Int32))).1 (by decide) (by decide) ?_
    show SS pP eE belowS T112 (mkF mM 58 (Lc_law_gt_1_0_4 p0 p1 p2 p3 p4 d b103) []) _
    refine XS.iload X112.here hx rfl (hb hby at_58) rfl ?_
    show SS pP eE belowS T112 (mkF mM 60 (Lc_law_gt_1_0_4 p0 p1 p2 p3 p4 d b103) [(.int p4)]) _
    refine XS.iconst X112.here hx rfl (hb hby at_60) ?_
    show SS pP eE belowS T112 (mkF mM 61 (Lc_law_gt_1_0_4 p0 p1 p2 p3 p4 d b103) [(.int (3 : Int32)), (.int p4)]) _
    refine XS.iand X112.here hx rfl (hb hby at_61) rfl ?_
    show SS pP eE belowS T112 (mkF mM 62 (Lc_law_gt_1_0_4 p0 p1 p2 p3 p4 d b103) [(.int (p4 &&& (3 : Int32)))]) _
    refine XS.istore X112.here hx rfl (hb hby at_62) rfl (l' := (Lc_law_gt_1_0_5 p0 p1 p2 p3 p4 d b103)) rfl ?_
    show SS pP eE belowS T112 (mkF mM 64 (Lc_law_gt_1_0_5 p0 p1 p2 p3 p4 d b103) []) _
    refine XS.iload X112.here hx rfl (hb hby at_64) rfl ?_
    show SS pP eE belowS T112 (mkF mM 66 (Lc_law_gt_1_0_5 p0 p1 p2 p3 p4 d b103) [(.int (p4 &&& (3 : Int32)))]) _
    refine XS.ifYes X112.here hx rfl (pc0 := 66) (pc' := 74) rfl (hb hby at_66) rfl ((if0 _ _).trans (feq hc66).2) (by decide) (by decide) ?_
    show SS pP eE belowS T112 (mkF mM 74 (Lc_law_gt_1_0_5 p0 p1 p2 p3 p4 d b103) []) _
    refine XS.iload X112.here hx rfl (hb hby at_74) rfl ?_
    show SS pP eE belowS T112 (mkF mM 76 (Lc_law_gt_1_0_5 p0 p1 p2 p3 p4 d b103) [(.int (p4 &&& (3 : Int32)))]) _
    refine XS.iconst X112.here hx rfl (hb hby at_76) ?_
    show SS pP eE belowS T112 (mkF mM 77 (Lc_law_gt_1_0_5 p0 p1 p2 p3 p4 d b103) [(.int (1 : Int32)), (.int (p4 &&& (3 : Int32)))]) _
    refine XS.icmpNo X112.here hx rfl (hb hby at_77) rfl (teq hc77).2 ?_
    show SS pP eE belowS T112 (mkF mM 80 (Lc_law_gt_1_0_5 p0 p1 p2 p3 p4 d b103) []) _
    refine XS.iload X112.here hx rfl (hb hby at_80) rfl ?_
    show SS pP eE belowS T112 (mkF mM 82 (Lc_law_gt_1_0_5 p0 p1 p2 p3 p4 d b103) [(.int (1 : Int32))]) _
    refine XS.goto X112.here hx rfl (pc0 := 82) (pc' := 86) rfl (hb hby at_82) (by decide) (by decide) ?_
    show SS pP eE belowS T112 (mkF mM 86 (Lc_law_gt_1_0_5 p0 p1 p2 p3 p4 d b103) [(.int (1 : Int32))]) _
    refine XS.istore X112.here hx rfl (hb hby at_86) rfl (l' := (Lc_law_gt_1_0_6 p0 p1 p2 p3 p4 d b103)) rfl ?_
    show SS pP eE belowS T112 (mkF mM 88 (Lc_law_gt_1_0_6 p0 p1 p2 p3 p4 d b103) []) _
    refine XS.iload X112.here hx rfl (hb hby at_88) rfl ?_
    show SS pP eE belowS T112 (mkF mM 90 (Lc_law_gt_1_0_6 p0 p1 p2 p3 p4 d b103) [(.int p4)]) _
    refine XS.iconst X112.here hx rfl (hb hby at_90) ?_
    show SS pP eE belowS T112 (mkF mM 91 (Lc_law_gt_1_0_6 p0 p1 p2 p3 p4 d b103) [(.int (2 : Int32)), (.int p4)]) _
    refine XS.ishr X112.here hx rfl (hb hby at_91) rfl ?_
    show SS pP eE belowS T112 (mkF mM 92 (Lc_law_gt_1_0_6 p0 p1 p2 p3 p4 d b103) [(.int (p4 >>> ((2 : Int32) &&& 31)))]) _
    refine XS.iconst X112.here hx rfl (hb hby at_92) ?_
    show SS pP eE belowS T112 (mkF mM 93 (Lc_law_gt_1_0_6 p0 p1 p2 p3 p4 d b103) [(.int (1 : Int32)), (.int (p4 >>> ((2 : Int32) &&& 31)))]) _
    refine XS.iand X112.here hx rfl (hb hby at_93) rfl ?_
    show SS pP eE belowS T112 (mkF mM 94 (Lc_law_gt_1_0_6 p0 p1 p2 p3 p4 d b103) [(.int ((p4 >>> ((2 : Int32) &&& 31)) &&& (1 : Int32)))]) _
    refine XS.ifYes X112.here hx rfl (pc0 := 94) (pc' := 101) rfl (hb hby at_94) rfl ((if0 _ _).trans (teq hc94).1) (by decide) (by decide) ?_
    show SS pP eE belowS T112 (mkF mM 101 (Lc_law_gt_1_0_6 p0 p1 p2 p3 p4 d b103) []) _
    refine XS.iconst X112.here hx rfl (hb hby at_101) ?_
    show SS pP eE belowS T112 (mkF mM 102 (Lc_law_gt_1_0_6 p0 p1 p2 p3 p4 d b103) [(.int (0 : Int32))]) _
    refine XS.istore X112.here hx rfl (hb hby at_102) rfl (l' := (Lc_law_gt_1_0_7 p0 p1 p2 p3 p4 d b103)) rfl ?_
    show SS pP eE belowS T112 (mkF mM 104 (Lc_law_gt_1_0_7 p0 p1 p2 p3 p4 d b103) []) _
    refine XS.aload X112.here hx rfl (hb hby at_104) rfl rfl ?_
    show SS pP eE belowS T112 (mkF mM 106 (Lc_law_gt_1_0_7 p0 p1 p2 p3 p4 d b103) [(.ref b103)]) _
    refine XS.iload X112.here hx rfl (hb hby at_106) rfl ?_
    show SS pP eE belowS T112 (mkF mM 108 (Lc_law_gt_1_0_7 p0 p1 p2 p3 p4 d b103) [(.int (1 : Int32)), (.ref b103)]) _
    refine XS.iloadN X112.here hx rfl (hb hby at_108) rfl ?_
    show SS pP eE belowS T112 (mkF mM 109 (Lc_law_gt_1_0_7 p0 p1 p2 p3 p4 d b103) [(.int p2), (.int (1 : Int32)), (.ref b103)]) _
    refine st117.trans ?_
    show SS pP eE belowS T117 (mkF mM 112 (Lc_law_gt_1_0_7 p0 p1 p2 p3 p4 d b103) []) _
    refine XS.iload X117.here hx rfl (hb hby at_112) rfl ?_
    show SS pP eE belowS T117 (mkF mM 114 (Lc_law_gt_1_0_7 p0 p1 p2 p3 p4 d b103) [(.int (0 : Int32))]) _
    refine XS.ifYes X117.here hx rfl (pc0 := 114) (pc' := 125) rfl (hb hby at_114) rfl ((if0 _ _).trans (teq (by decide : (0 : Int32) = (0 : Int32))).1) (by decide) (by decide) ?_
    show SS pP eE belowS T117 (mkF mM 125 (Lc_law_gt_1_0_7 p0 p1 p2 p3 p4 d b103) []) _
    refine XS.iload X117.here hx rfl (hb hby at_125) rfl ?_
    show SS pP eE belowS T117 (mkF mM 127 (Lc_law_gt_1_0_7 p0 p1 p2 p3 p4 d b103) [(.int (0 : Int32))]) _
    refine XS.ifYes X117.here hx rfl (pc0 := 127) (pc' := 134) rfl (hb hby at_127) rfl ((if0 _ _).trans (teq (by decide : (0 : Int32) = (0 : Int32))).1) (by decide) (by decide) ?_
    show SS pP eE belowS T117 (mkF mM 134 (Lc_law_gt_1_0_7 p0 p1 p2 p3 p4 d b103) []) _
    refine XS.iload X117.here hx rfl (hb hby at_134) rfl ?_
    show SS pP eE belowS T117 (mkF mM 136 (Lc_law_gt_1_0_7 p0 p1 p2 p3 p4 d b103) [(.int (1 : Int32))]) _
    refine XS.ifYes X117.here hx rfl (pc0 := 136) (pc' := 143) rfl (hb hby at_136) rfl ((if0 _ _).trans (feq (by decide : ¬ ((1 : Int32) = (0 : Int32)))).2) (by decide) (by decide) ?_
    show SS pP eE belowS T117 (mkF mM 143 (Lc_law_gt_1_0_7 p0 p1 p2 p3 p4 d b103) []) _
    refine XS.iconst X117.here hx rfl (hb hby at_143) ?_
    show SS pP eE belowS T117 (mkF mM 144 (Lc_law_gt_1_0_7 p0 p1 p2 p3 p4 d b103) [(.int (-1 : Int32))]) _
    refine XS.istore X117.here hx rfl (hb hby at_144) rfl (l' := (Lc_law_gt_1_0_8 p0 p1 p2 p3 p4 d b103)) rfl ?_
    show SS pP eE belowS T117 (mkF mM 146 (Lc_law_gt_1_0_8 p0 p1 p2 p3 p4 d b103) []) _
    refine XS.iloadN X117.here hx rfl (hb hby at_146) rfl ?_
    show SS pP eE belowS T117 (mkF mM 147 (Lc_law_gt_1_0_8 p0 p1 p2 p3 p4 d b103) [(.int p1)]) _
    refine XS.iloadN X117.here hx rfl (hb hby at_147) rfl ?_
    show SS pP eE belowS T117 (mkF mM 148 (Lc_law_gt_1_0_8 p0 p1 p2 p3 p4 d b103) [(.int p0), (.int p1)]) _
    refine XS.icmpNo X117.here hx rfl (hb hby at_148) rfl (tlt hc37_112).2.2.2 ?_
    show SS pP eE belowS T117 (mkF mM 151 (Lc_law_gt_1_0_8 p0 p1 p2 p3 p4 d b103) []) _
    refine XS.iload X117.here hx rfl (hb hby at_151) rfl ?_
    show SS pP eE belowS T117 (mkF mM 153 (Lc_law_gt_1_0_8 p0 p1 p2 p3 p4 d b103) [(.int (1 : Int32))]) _
    refine XS.iconst X117.here hx rfl (hb hby at_153) ?_
    show SS pP eE belowS T117 (mkF mM 154 (Lc_law_gt_1_0_8 p0 p1 p2 p3 p4 d b103) [(.int (1 : Int32)), (.int (1 : Int32))]) _
    refine XS.icmpNo X117.here hx rfl (hb hby at_154) rfl (teq (by decide : (1 : Int32) = (1 : Int32))).2 ?_
    show SS pP eE belowS T117 (mkF mM 157 (Lc_law_gt_1_0_8 p0 p1 p2 p3 p4 d b103) []) _
    refine XS.iloadN X117.here hx rfl (hb hby at_157) rfl ?_
    show SS pP eE belowS T117 (mkF mM 158 (Lc_law_gt_1_0_8 p0 p1 p2 p3 p4 d b103) [(.int p2)]) _
    refine XS.goto X117.here hx rfl (pc0 := 158) (pc' := 162) rfl (hb hby at_158) (by decide) (by decide) ?_
    show SS pP eE belowS T117 (mkF mM 162 (Lc_law_gt_1_0_8 p0 p1 p2 p3 p4 d b103) [(.int p2)]) _
    refine XS.istore X117.here hx rfl (hb hby at_162) rfl (l' := (Lc_law_gt_1_0_9 p0 p1 p2 p3 p4 d b103)) rfl ?_
    show SS pP eE belowS T117 (mkF mM 164 (Lc_law_gt_1_0_9 p0 p1 p2 p3 p4 d b103) []) _
    refine XS.goto X117.here hx rfl (pc0 := 164) (pc' := 182) rfl (hb hby at_164) (by decide) (by decide) ?_
    show SS pP eE belowS T117 (mkF mM 182 (Lc_law_gt_1_0_9 p0 p1 p2 p3 p4 d b103) []) _
    refine XS.aload X117.here hx rfl (hb hby at_182) rfl rfl ?_
    show SS pP eE belowS T117 (mkF mM 184 (Lc_law_gt_1_0_9 p0 p1 p2 p3 p4 d b103) [(.ref b103)]) _
    refine XS.aload X117.here hx rfl (hb hby at_184) rfl rfl ?_
    show SS pP eE belowS T117 (mkF mM 186 (Lc_law_gt_1_0_9 p0 p1 p2 p3 p4 d b103) [(.ref d), (.ref b103)]) _
    refine XS.iloadN X117.here hx rfl (hb hby at_186) rfl ?_
    show SS pP eE belowS T117 (mkF mM 187 (Lc_law_gt_1_0_9 p0 p1 p2 p3 p4 d b103) [(.int p0), (.ref d), (.ref b103)]) _
    refine st118.trans ?_
    show SS pP eE belowS T118 (mkF mM 190 (Lc_law_gt_1_0_9 p0 p1 p2 p3 p4 d b103) [(.int (-1 : Int32))]) _
    refine XS.iload X118.here hx rfl (hb hby at_190) rfl ?_
    show SS pP eE belowS T118 (mkF mM 192 (Lc_law_gt_1_0_9 p0 p1 p2 p3 p4 d b103) [(.int (-1 : Int32)), (.int (-1 : Int32))]) _
    refine XS.icmpNo X118.here hx rfl (hb hby at_192) rfl (teq (by decide : (-1 : Int32) = (-1 : Int32))).2 ?_
    show SS pP eE belowS T118 (mkF mM 195 (Lc_law_gt_1_0_9 p0 p1 p2 p3 p4 d b103) []) _
    refine XS.aload X118.here hx rfl (hb hby at_195) rfl rfl ?_
    show SS pP eE belowS T118 (mkF mM 197 (Lc_law_gt_1_0_9 p0 p1 p2 p3 p4 d b103) [(.ref b103)]) _
    refine XS.aload X118.here hx rfl (hb hby at_197) rfl rfl ?_
    show SS pP eE belowS T118 (mkF mM 199 (Lc_law_gt_1_0_9 p0 p1 p2 p3 p4 d b103) [(.ref d), (.ref b103)]) _
    refine XS.iloadN X118.here hx rfl (hb hby at_199) rfl ?_
    show SS pP eE belowS T118 (mkF mM 200 (Lc_law_gt_1_0_9 p0 p1 p2 p3 p4 d b103) [(.int p1), (.ref d), (.ref b103)]) _
    refine st125.trans ?_
    show SS pP eE belowS T125 (mkF mM 203 (Lc_law_gt_1_0_9 p0 p1 p2 p3 p4 d b103) [(.int p2)]) _
    refine XS.iload X125.here hx rfl (hb hby at_203) rfl ?_
    show SS pP eE belowS T125 (mkF mM 205 (Lc_law_gt_1_0_9 p0 p1 p2 p3 p4 d b103) [(.int p2), (.int p2)]) _
    refine XS.icmpNo X125.here hx rfl (hb hby at_205) rfl (teq (rfl : p2 = p2)).2 ?_
    show SS pP eE belowS T125 (mkF mM 208 (Lc_law_gt_1_0_9 p0 p1 p2 p3 p4 d b103) []) _
    refine XS.iconst X125.here hx rfl (hb hby at_208) ?_
    show SS pP eE belowS T125 (mkF mM 209 (Lc_law_gt_1_0_9 p0 p1 p2 p3 p4 d b103) [(.int (1 : Int32))]) _
    refine XS.goto X125.here hx rfl (pc0 := 209) (pc' := 213) rfl (hb hby at_209) (by decide) (by decide) ?_
    show SS pP eE belowS T125 (mkF mM 213 (Lc_law_gt_1_0_9 p0 p1 p2 p3 p4 d b103) [(.int (1 : Int32))]) _
    exact retN X125 hx (t := .boolean) Bd.returns (by simp) (hb hby at_213) hr
  · exact ⟨rfl, N125⟩

abbrev Lc_law_gt_1_1_0 (p0 : Int32) (p1 : Int32) (p2 : Int32) (p3 : Int32) (p4 : Int32) : Array Slot := #[.val (.int p0), .val (.int p1), .val (.int p2), .val (.int p3), .val (.int p4), .unset, .unset, .unset, .unset, .unset, .unset, .unset, .unset, .unset]
abbrev Lc_law_gt_1_1_1 (p0 : Int32) (p1 : Int32) (p2 : Int32) (p3 : Int32) (p4 : Int32) (d : Addr) : Array Slot := #[.val (.int p0), .val (.int p1), .val (.int p2), .val (.int p3), .val (.int p4), .val (.ref d), .unset, .unset, .unset, .unset, .unset, .unset, .unset, .unset]
abbrev Lc_law_gt_1_1_2 (p0 : Int32) (p1 : Int32) (p2 : Int32) (p3 : Int32) (p4 : Int32) (d : Addr) (b103 : Addr) : Array Slot := #[.val (.int p0), .val (.int p1), .val (.int p2), .val (.int p3), .val (.int p4), .val (.ref d), .val (.ref b103), .unset, .unset, .unset, .unset, .unset, .unset, .unset]
abbrev Lc_law_gt_1_1_3 (p0 : Int32) (p1 : Int32) (p2 : Int32) (p3 : Int32) (p4 : Int32) (d : Addr) (b103 : Addr) : Array Slot := #[.val (.int p0), .val (.int p1), .val (.int p2), .val (.int p3), .val (.int p4), .val (.ref d), .val (.ref b103), .val (.int (0 : Int32)), .unset, .unset, .unset, .unset, .unset, .unset]
abbrev Lc_law_gt_1_1_4 (p0 : Int32) (p1 : Int32) (p2 : Int32) (p3 : Int32) (p4 : Int32) (d : Addr) (b103 : Addr) : Array Slot := #[.val (.int p0), .val (.int p1), .val (.int p2), .val (.int p3), .val (.int p4), .val (.ref d), .val (.ref b103), .val (.int (0 : Int32)), .val (.int (1 : Int32)), .unset, .unset, .unset, .unset, .unset]
abbrev Lc_law_gt_1_1_5 (p0 : Int32) (p1 : Int32) (p2 : Int32) (p3 : Int32) (p4 : Int32) (d : Addr) (b103 : Addr) : Array Slot := #[.val (.int p0), .val (.int p1), .val (.int p2), .val (.int p3), .val (.int p4), .val (.ref d), .val (.ref b103), .val (.int (0 : Int32)), .val (.int (1 : Int32)), .val (.int (p4 &&& (3 : Int32))), .unset, .unset, .unset, .unset]
abbrev Lc_law_gt_1_1_6 (p0 : Int32) (p1 : Int32) (p2 : Int32) (p3 : Int32) (p4 : Int32) (d : Addr) (b103 : Addr) : Array Slot := #[.val (.int p0), .val (.int p1), .val (.int p2), .val (.int p3), .val (.int p4), .val (.ref d), .val (.ref b103), .val (.int (0 : Int32)), .val (.int (1 : Int32)), .val (.int (p4 &&& (3 : Int32))), .val (.int (1 : Int32)), .unset, .unset, .unset]
abbrev Lc_law_gt_1_1_7 (p0 : Int32) (p1 : Int32) (p2 : Int32) (p3 : Int32) (p4 : Int32) (d : Addr) (b103 : Addr) : Array Slot := #[.val (.int p0), .val (.int p1), .val (.int p2), .val (.int p3), .val (.int p4), .val (.ref d), .val (.ref b103), .val (.int (0 : Int32)), .val (.int (1 : Int32)), .val (.int (p4 &&& (3 : Int32))), .val (.int (1 : Int32)), .val (.int (1 : Int32)), .unset, .unset]
abbrev Lc_law_gt_1_1_8 (p0 : Int32) (p1 : Int32) (p2 : Int32) (p3 : Int32) (p4 : Int32) (d : Addr) (b103 : Addr) : Array Slot := #[.val (.int p0), .val (.int p1), .val (.int p2), .val (.int p3), .val (.int p4), .val (.ref d), .val (.ref b103), .val (.int (0 : Int32)), .val (.int (1 : Int32)), .val (.int (p4 &&& (3 : Int32))), .val (.int (1 : Int32)), .val (.int (1 : Int32)), .val (.int p3), .unset]
abbrev Lc_law_gt_1_1_9 (p0 : Int32) (p1 : Int32) (p2 : Int32) (p3 : Int32) (p4 : Int32) (d : Addr) (b103 : Addr) : Array Slot := #[.val (.int p0), .val (.int p1), .val (.int p2), .val (.int p3), .val (.int p4), .val (.ref d), .val (.ref b103), .val (.int (0 : Int32)), .val (.int (1 : Int32)), .val (.int (p4 &&& (3 : Int32))), .val (.int (1 : Int32)), .val (.int (1 : Int32)), .val (.int p3), .val (.int p2)]
theorem ef_law_gt_1_1 (mM : MethodId) (p0 : Int32) (p1 : Int32) (p2 : Int32) (p3 : Int32) (p4 : Int32) (aN : Addr) (kN : ClassId) (d : Addr) : entryFrame mM #[(.int p0), (.int p1), (.int p2), (.int p3), (.int p4)] maxLocals = mkF mM 0 #[.val (.int p0), .val (.int p1), .val (.int p2), .val (.int p3), .val (.int p4), .unset, .unset, .unset, .unset, .unset, .unset, .unset, .unset, .unset] [] := by first | (simp [entryFrame, mkF, argsToLocals, Value.category, maxLocals]; done) | rfl
set_option maxRecDepth 65536 in
set_option maxHeartbeats 40000000 in
theorem rm_law_gt_1_1 (l : Launch) (Z : State) (a0 : Array Value) (hw : ∀ d ∈ tables_1, d.before a0 Z = true) (ws : List Jvm.Cond) (p0 : Int32) (p1 : Int32) (p2 : Int32) (p3 : Int32) (p4 : Int32) (aN : Addr) (kN : ClassId) (d : Addr) (h0 : Heap) (n0 : Nat) (Z0 : n0 ≤ h0.size) (OL : Old Z n0 h0) (S_DEFAULT : Sta Z Z.heap "com/example/macroweave/macroweave/Brackets" "DEFAULT" "Lcom/example/macroweave/macroweave/Brackets;" (.ref d)) (S_NONE : Sta Z Z.heap "com/example/macroweave/macroweave/BracketPairs" "NONE" "[I" (.ref aN)) (V_aN : Arv Z h0 aN kN .int (0 : Int32) [] (.int (0 : Int32))) (hc37_112 : p0 < p1) (hc66 : ¬ ((p4 &&& (3 : Int32)) = (0 : Int32))) (hc77 : (p4 &&& (3 : Int32)) = (1 : Int32)) (hc94 : ¬ (((p4 >>> ((2 : Int32) &&& 31)) &&& (1 : Int32)) = (0 : Int32))) :
    MetFree l x (head1 (Jvm.Cond.code x code maxLocals ret :: ws) room_1) (fun xa xU => xa = #[(.int p0), (.int p1), (.int p2), (.int p3), (.int p4)] ∧ Z.Warmed39 xU.vm ∧ xU.heap = h0) (fun _ _ _ _ _ => True) (fun _ xU xo xU' => ∃ xv xL, xo = .returned xv ∧ Q_law n0 xv xL ∧ FrameEnd xU xo xU' xL room_1.cells room_1.slots) := by
  refine MetFree.of_bodySF (plainFor_of_name pn_com_example_macroweave_macroweave_BracketPairsClosedPinLaw) hisR ?_
  intro pP eE sS mM argS belowS methS cC s₁ Bd hml0 hP hK
  obtain ⟨rfl, hZ, hh⟩ := hP
  have hx := Bd.exec
  have hby := Bd.bytes
  have hml : cC.maxLocals = 14 := hml0
  have hown : sS.vm.findClass "com/example/macroweave/macroweave/BracketPairsClosedPinLaw" = some mM.cls := findClass_of_methodNamed Bd.named
  have hnm := (name_of_methodNamed Bd.named Bd.method).1
  have X0 : Stand pP l eE room_1 sS mM #[(.int p0), (.int p1), (.int p2), (.int p3), (.int p4)] belowS methS cC s₁ [] 0 0 := Stand.of_body Bd
  have e0 : s₁.heap = h0 := by rw [← hh, Bd.state]; rfl
  have N0 := Fr.nil n0
  have pre0 : ∀ t', Steps pP.tables eE belowS (s₁.setTop (mkF mM 0 #[.val (.int p0), .val (.int p1), .val (.int p2), .val (.int p3), .val (.int p4), .unset, .unset, .unset, .unset, .unset, .unset, .unset, .unset, .unset] [])) t' → Steps pP.tables eE belowS (s₁.setTop (entryFrame mM #[(.int p0), (.int p1), (.int p2), (.int p3), (.int p4)] maxLocals)) t' := fun t' kk' => castTop (ef_law_gt_1_1 mM p0 p1 p2 p3 p4 aN kN d) kk'
  have c101_S_DEFAULT : Sta Z h0 "com/example/macroweave/macroweave/Brackets" "DEFAULT" "Lcom/example/macroweave/macroweave/Brackets;" (.ref d) := Sta.ext OL.2 S_DEFAULT
  obtain ⟨T102, X102, e102, st102⟩ := getS2 X0 hx hZ hown (host := "") (Or.inl (wi hw 0 rfl)) Via.refl e0 c101_S_DEFAULT (g := (mkF mM 0 (Lc_law_gt_1_1_0 p0 p1 p2 p3 p4) [])) rfl (hb hby at_0)
  obtain ⟨T103, h103, X103, e103, E103, A103, D103, B103, st103⟩ := newO X102 hx hZ hown (wi hw 3 rfl) (wi hw 4 rfl) (wi hw 5 rfl) e102 (g := (mkF mM 5 (Lc_law_gt_1_1_1 p0 p1 p2 p3 p4 d) [])) rfl (hb hby at_5) (by decide) (by decide)
  obtain ⟨b103, g103⟩ : ∃ z : Nat, z = h0.size := ⟨_, rfl⟩
  rw [← g103] at A103 D103 B103 st103
  have Sz1 : h0.size ≤ h103.size := E103.1
  have F103_contentStarts : Fld Z h103 b103 "com/example/macroweave/macroweave/BracketPairs" "contentStarts" "[I" .null := D103 (Or.inl (wi hw 15 rfl)) (ty := (.array .int)) (by decide)
  have F103_closes : Fld Z h103 b103 "com/example/macroweave/macroweave/BracketPairs" "closes" "[I" .null := D103 (Or.inl (wi hw 17 rfl)) (ty := (.array .int)) (by decide)
  have F103_brackets : Fld Z h103 b103 "com/example/macroweave/macroweave/BracketPairs" "brackets" "Lcom/example/macroweave/macroweave/Brackets;" .null := D103 (Or.inl (wi hw 24 rfl)) (ty := (.object "com/example/macroweave/macroweave/Brackets")) (by decide)
  have F103_size : Fld Z h103 b103 "com/example/macroweave/macroweave/BracketPairs" "size" "I" (.int (0 : Int32)) := D103 (Or.inl (wi hw 26 rfl)) (ty := .int) (by decide)
  have c105_OL : Old Z n0 h103 := OL.ext E103
  have ge106_b103 : @LE.le Nat _ n0 b103 := by omega
  obtain ⟨_, _, ⟨T104, L104, k104, n104⟩, -, X104, ⟨Lc104, hQ104, l104, y104, z104⟩, st104⟩ := X103.specialBack hx (y := (⟨"com/example/macroweave/macroweave/BracketPairs", "<init>", "()V"⟩ : MethodName)) rfl hown (mvT hZ (wi hw 6 rfl)) (mvT hZ (wi hw 7 rfl)) (mvT hZ (wi hw 8 rfl)) (by decide) (backOf (W := 1) (rm_init l Z a0 hw [] b103 aN .null .null .null (.int (0 : Int32)) h103 n0 (by omega) A103 F103_contentStarts F103_closes F103_brackets F103_size ge106_b103 c105_OL S_NONE) hZ (wi hw 8 rfl) (wi hw 5 rfl) (by decide) (by decide)) (g := (mkF mM 9 (Lc_law_gt_1_1_1 p0 p1 p2 p3 p4 d) [(.ref b103), (.ref b103)])) rfl (by rw [hml]; rfl) (Steps.refl _) (a := b103) (argsL := []) (rest := [(.ref b103)]) (lenOf pd_0 rfl) rfl (by show 2 * 0 + _ ≤ _; exact Nat.le_of_eq rfl) (hb hby at_9) (fun _ _ => ⟨rfl, e103, Nat.le_of_ble_eq_true rfl, Nat.le_of_ble_eq_true rfl⟩)
  dsimp only [Pt.U, Pt.locs, Pt.cells, Pt.slots] at X104 l104 y104 z104 st104 hQ104
  subst l104 y104 z104
  obtain ⟨h104, e104⟩ : ∃ z, T104.heap = z := ⟨_, rfl⟩
  rw [e104] at hQ104
  obtain ⟨rfl, N104q, Kp104, p104_E_a1, p104_F_contentStarts_a1, p104_F_closes_a1, p104_F_brackets_a1, p104_F_size_a1⟩ := hQ104
  have Sz2 : h103.size ≤ h104.size := Kp104.1
  have N104 := Fr.app N0 N104q
  have c108_V_aN : Arv Z h103 aN kN .int (0 : Int32) [] (.int (0 : Int32)) := V_aN.ext E103
  have lt_aN : @LT.lt Nat _ aN h0.size := V_aN.lt
  have lt_b103 : @LT.lt Nat _ b103 h104.size := p104_E_a1.lt
  have ne_aN_b103_109 : aN ≠ b103 := (by omega : @Ne Nat aN b103)
  have c110_V_aN : Arv Z h104 aN kN .int (0 : Int32) [] (.int (0 : Int32)) := c108_V_aN.keep Kp104 (ninS ne_aN_b103_109 nin0)
  have ne_b103_aN_111 : b103 ≠ aN := (by omega : @Ne Nat b103 aN)
  obtain ⟨cq107, kq107, q107a, q107b, q107c⟩ := isOf hZ e104 p104_E_a1
  obtain ⟨_, _, ⟨T107, L107, k107, n107⟩, -, X107, ⟨Lc107, hQ107, l107, y107, z107⟩, st107⟩ := X104.virtualBack hx (y := (⟨"com/example/macroweave/macroweave/BracketPairs", "opened", "(Lcom/example/macroweave/macroweave/Brackets;I)I"⟩ : MethodName)) (z := (⟨"com/example/macroweave/macroweave/BracketPairs", "opened", "(Lcom/example/macroweave/macroweave/Brackets;I)I"⟩ : MethodName)) hown (mvT hZ (wi hw 18 rfl)) (mvT hZ (wi hw 19 rfl)) (notFace_of_selects (args := #[]) (mvT hZ (wi hw 21 rfl))) (mvT hZ (wi hw 21 rfl)) (mvT hZ (wi hw 20 rfl)) (by decide) (backOf (W := 0) (rm_open1 l Z a0 hw [] b103 d p0 aN kN h104 n0 (by omega) p104_E_a1 p104_F_brackets_a1 p104_F_contentStarts_a1 p104_F_closes_a1 p104_F_size_a1 c110_V_aN ne_b103_aN_111 ge106_b103) hZ (wi hw 22 rfl) (wi hw 5 rfl) (by decide) (by decide)) q107a q107c (g := (mkF mM 19 (Lc_law_gt_1_1_2 p0 p1 p2 p3 p4 d b103) [(.int p0), (.ref d), (.ref b103)])) rfl (by rw [hml]; rfl) (Steps.refl _) (argsL := [(.ref d), (.int p0)]) (rest := []) (lenOf pd_1 rfl) rfl (by show 2 * 0 + _ ≤ _; exact Nat.le_of_eq rfl) (hb hby at_19) (fun _ _ => ⟨rfl, e104, Nat.le_of_ble_eq_true rfl, Nat.le_of_ble_eq_true rfl⟩)
  dsimp only [Pt.U, Pt.locs, Pt.cells, Pt.slots] at X107 l107 y107 z107 st107 hQ107
  subst l107 y107 z107
  obtain ⟨h107, e107⟩ : ∃ z, T107.heap = z := ⟨_, rfl⟩
  rw [e107] at hQ107
  obtain ⟨b1_107, b2_107, k1_107, k2_107, rfl, N107q, Kp107, p107_E_a1, p107_F_brackets_a1, p107_F_contentStarts_a1, p107_F_closes_a1, p107_F_size_a1, p107_V_b1, p107_V_b2, p107_gh_b1, p107_gh_b2, p107_ne_b1_b2⟩ := hQ107
  have Sz3 : h104.size ≤ h107.size := Kp107.1
  have N107 := Fr.app N104 N107q
  have lt_b1_107 : @LT.lt Nat _ b1_107 h107.size := p107_V_b1.lt
  have ne_b103_b1_107_113 : b103 ≠ b1_107 := (by omega : @Ne Nat b103 b1_107)
  have lt_b2_107 : @LT.lt Nat _ b2_107 h107.size := p107_V_b2.lt
  have ne_b103_b2_107_114 : b103 ≠ b2_107 := (by omega : @Ne Nat b103 b2_107)
  have ge115_b1_107 : @LE.le Nat _ n0 b1_107 := by omega
  have ge116_b2_107 : @LE.le Nat _ n0 b2_107 := by omega
  obtain ⟨cq112, kq112, q112a, q112b, q112c⟩ := isOf hZ e107 p107_E_a1
  obtain ⟨_, _, ⟨T112, L112, k112, n112⟩, -, X112, ⟨Lc112, hQ112, l112, y112, z112⟩, st112⟩ := X107.virtualBack hx (y := (⟨"com/example/macroweave/macroweave/BracketPairs", "opened", "(Lcom/example/macroweave/macroweave/Brackets;I)I"⟩ : MethodName)) (z := (⟨"com/example/macroweave/macroweave/BracketPairs", "opened", "(Lcom/example/macroweave/macroweave/Brackets;I)I"⟩ : MethodName)) hown (mvT hZ (wi hw 18 rfl)) (mvT hZ (wi hw 19 rfl)) (notFace_of_selects (args := #[]) (mvT hZ (wi hw 21 rfl))) (mvT hZ (wi hw 21 rfl)) (mvT hZ (wi hw 20 rfl)) (by decide) (backOf (W := 0) (rm_open2 l Z a0 hw [] b103 d p1 p0 b1_107 b2_107 k1_107 k2_107 h107 n0 (by omega) p107_E_a1 p107_F_brackets_a1 p107_F_contentStarts_a1 p107_F_closes_a1 p107_F_size_a1 p107_V_b1 p107_V_b2 ne_b103_b1_107_113 ne_b103_b2_107_114 p107_ne_b1_b2 ge106_b103 ge115_b1_107 ge116_b2_107 hc37_112) hZ (wi hw 22 rfl) (wi hw 5 rfl) (by decide) (by decide)) q112a q112c (g := (mkF mM 29 (Lc_law_gt_1_1_3 p0 p1 p2 p3 p4 d b103) [(.int p1), (.ref d), (.ref b103)])) rfl (by rw [hml]; rfl) (Steps.refl _) (argsL := [(.ref d), (.int p1)]) (rest := []) (lenOf pd_1 rfl) rfl (by show 2 * 0 + _ ≤ _; exact Nat.le_of_eq rfl) (hb hby at_29) (fun _ _ => ⟨rfl, e107, Nat.le_of_ble_eq_true rfl, Nat.le_of_ble_eq_true rfl⟩)
  dsimp only [Pt.U, Pt.locs, Pt.cells, Pt.slots] at X112 l112 y112 z112 st112 hQ112
  subst l112 y112 z112
  obtain ⟨h112, e112⟩ : ∃ z, T112.heap = z := ⟨_, rfl⟩
  rw [e112] at hQ112
  obtain ⟨rfl, N112q, Kp112, p112_E_a1, p112_F_brackets_a1, p112_F_contentStarts_a1, p112_F_closes_a1, p112_F_size_a1, p112_V_b1, p112_V_b2⟩ := hQ112
  have Sz4 : h107.size ≤ h112.size := Kp112.1
  have N112 := Fr.app N107 N112q
  obtain ⟨cq117, kq117, q117a, q117b, q117c⟩ := isOf hZ e112 p112_E_a1
  obtain ⟨_, _, ⟨T117, L117, k117, n117⟩, -, X117, ⟨Lc117, hQ117, l117, y117, z117⟩, st117⟩ := X112.virtualBack hx (y := (⟨"com/example/macroweave/macroweave/BracketPairs", "closed", "(II)V"⟩ : MethodName)) (z := (⟨"com/example/macroweave/macroweave/BracketPairs", "closed", "(II)V"⟩ : MethodName)) hown (mvT hZ (wi hw 43 rfl)) (mvT hZ (wi hw 44 rfl)) (notFace_of_selects (args := #[]) (mvT hZ (wi hw 46 rfl))) (mvT hZ (wi hw 46 rfl)) (mvT hZ (wi hw 45 rfl)) (by decide) (backOf (W := 0) (rm_closed1 l Z a0 hw [] b103 p2 b2_107 k2_107 (-1 : Int32) (-1 : Int32) h112 n0 (by omega) p112_E_a1 p112_F_closes_a1 p112_V_b2 ne_b103_b2_107_114 ge116_b2_107) hZ (wi hw 47 rfl) (wi hw 5 rfl) (by decide) (by decide)) q117a q117c (g := (mkF mM 109 (Lc_law_gt_1_1_7 p0 p1 p2 p3 p4 d b103) [(.int p2), (.int (1 : Int32)), (.ref b103)])) rfl (by rw [hml]; rfl) (Steps.refl _) (argsL := [(.int (1 : Int32)), (.int p2)]) (rest := []) (lenOf pd_5 rfl) rfl (by show 2 * 0 + _ ≤ _; exact Nat.le_of_eq rfl) (hb hby at_109) (fun _ _ => ⟨rfl, e112, Nat.le_of_ble_eq_true rfl, Nat.le_of_ble_eq_true rfl⟩)
  dsimp only [Pt.U, Pt.locs, Pt.cells, Pt.slots] at X117 l117 y117 z117 st117 hQ117
  subst l117 y117 z117
  obtain ⟨h117, e117⟩ : ∃ z, T117.heap = z := ⟨_, rfl⟩
  rw [e117] at hQ117
  obtain ⟨rfl, N117q, Kp117, p117_V_b2⟩ := hQ117
  have Sz5 : h112.size ≤ h117.size := Kp117.1
  have N117 := Fr.app N112 N117q
  have c119_E_b103 : Exa Z h117 b103 "com/example/macroweave/macroweave/BracketPairs" := p112_E_a1.keep Kp117
  have c120_F_closes_b103 : Fld Z h117 b103 "com/example/macroweave/macroweave/BracketPairs" "closes" "[I" (.ref b2_107) := p112_F_closes_a1.keep Kp117 (ninS ne_b103_b2_107_114 nin0)
  obtain ⟨cq118, kq118, q118a, q118b, q118c⟩ := isOf hZ e117 c119_E_b103
  obtain ⟨_, _, ⟨T118, L118, k118, n118⟩, -, X118, ⟨Lc118, hQ118, l118, y118, z118⟩, st118⟩ := X117.virtualBack hx (y := (⟨"com/example/macroweave/macroweave/BracketPairs", "closed", "(II)V"⟩ : MethodName)) (z := (⟨"com/example/macroweave/macroweave/BracketPairs", "closed", "(II)V"⟩ : MethodName)) hown (mvT hZ (wi hw 43 rfl)) (mvT hZ (wi hw 44 rfl)) (notFace_of_selects (args := #[]) (mvT hZ (wi hw 46 rfl))) (mvT hZ (wi hw 46 rfl)) (mvT hZ (wi hw 45 rfl)) (by decide) (backOf (W := 0) (rm_closed0 l Z a0 hw [] b103 p3 b2_107 k2_107 (-1 : Int32) p2 h117 n0 (by omega) c119_E_b103 c120_F_closes_b103 p117_V_b2 ne_b103_b2_107_114 ge116_b2_107) hZ (wi hw 47 rfl) (wi hw 5 rfl) (by decide) (by decide)) q118a q118c (g := (mkF mM 122 (Lc_law_gt_1_1_7 p0 p1 p2 p3 p4 d b103) [(.int p3), (.int (0 : Int32)), (.ref b103)])) rfl (by rw [hml]; rfl) (Steps.refl _) (argsL := [(.int (0 : Int32)), (.int p3)]) (rest := []) (lenOf pd_5 rfl) rfl (by show 2 * 0 + _ ≤ _; exact Nat.le_of_eq rfl) (hb hby at_122) (fun _ _ => ⟨rfl, e117, Nat.le_of_ble_eq_true rfl, Nat.le_of_ble_eq_true rfl⟩)
  dsimp only [Pt.U, Pt.locs, Pt.cells, Pt.slots] at X118 l118 y118 z118 st118 hQ118
  subst l118 y118 z118
  obtain ⟨h118, e118⟩ : ∃ z, T118.heap = z := ⟨_, rfl⟩
  rw [e118] at hQ118
  obtain ⟨rfl, N118q, Kp118, p118_V_b2⟩ := hQ118
  have Sz6 : h117.size ≤ h118.size := Kp118.1
  have N118 := Fr.app N117 N118q
  have c122_F_brackets_b103 : Fld Z h117 b103 "com/example/macroweave/macroweave/BracketPairs" "brackets" "Lcom/example/macroweave/macroweave/Brackets;" (.ref d) := p112_F_brackets_a1.keep Kp117 (ninS ne_b103_b2_107_114 nin0)
  have c123_F_brackets_b103 : Fld Z h118 b103 "com/example/macroweave/macroweave/BracketPairs" "brackets" "Lcom/example/macroweave/macroweave/Brackets;" (.ref d) := c122_F_brackets_b103.keep Kp118 (ninS ne_b103_b2_107_114 nin0)
  have c124_F_contentStarts_b103 : Fld Z h117 b103 "com/example/macroweave/macroweave/BracketPairs" "contentStarts" "[I" (.ref b1_107) := p112_F_contentStarts_a1.keep Kp117 (ninS ne_b103_b2_107_114 nin0)
  have c125_F_contentStarts_b103 : Fld Z h118 b103 "com/example/macroweave/macroweave/BracketPairs" "contentStarts" "[I" (.ref b1_107) := c124_F_contentStarts_b103.keep Kp118 (ninS ne_b103_b2_107_114 nin0)
  have c126_F_closes_b103 : Fld Z h118 b103 "com/example/macroweave/macroweave/BracketPairs" "closes" "[I" (.ref b2_107) := c120_F_closes_b103.keep Kp118 (ninS ne_b103_b2_107_114 nin0)
  have c127_F_size_b103 : Fld Z h117 b103 "com/example/macroweave/macroweave/BracketPairs" "size" "I" (.int (2 : Int32)) := p112_F_size_a1.keep Kp117 (ninS ne_b103_b2_107_114 nin0)
  have c128_F_size_b103 : Fld Z h118 b103 "com/example/macroweave/macroweave/BracketPairs" "size" "I" (.int (2 : Int32)) := c127_F_size_b103.keep Kp118 (ninS ne_b103_b2_107_114 nin0)
  have c129_V_b1_107 : Arv Z h117 b1_107 k1_107 .int (4 : Int32) [(.int p0), (.int p1), (.int (0 : Int32)), (.int (0 : Int32))] (.int (0 : Int32)) := p112_V_b1.keep Kp117 (ninS p107_ne_b1_b2 nin0)
  have c130_V_b1_107 : Arv Z h118 b1_107 k1_107 .int (4 : Int32) [(.int p0), (.int p1), (.int (0 : Int32)), (.int (0 : Int32))] (.int (0 : Int32)) := c129_V_b1_107.keep Kp118 (ninS p107_ne_b1_b2 nin0)
  have c131_E_b103 : Exa Z h118 b103 "com/example/macroweave/macroweave/BracketPairs" := c119_E_b103.keep Kp118
  obtain ⟨cq121, kq121, q121a, q121b, q121c⟩ := isOf hZ e118 c131_E_b103
  obtain ⟨_, _, ⟨T121, L121, k121, n121⟩, -, X121, ⟨Lc121, hQ121, l121, y121, z121⟩, st121⟩ := X118.virtualBack hx (y := (⟨"com/example/macroweave/macroweave/BracketPairs", "close", "(Lcom/example/macroweave/macroweave/Brackets;I)I"⟩ : MethodName)) (z := (⟨"com/example/macroweave/macroweave/BracketPairs", "close", "(Lcom/example/macroweave/macroweave/Brackets;I)I"⟩ : MethodName)) hown (mvT hZ (wi hw 48 rfl)) (mvT hZ (wi hw 49 rfl)) (notFace_of_selects (args := #[]) (mvT hZ (wi hw 51 rfl))) (mvT hZ (wi hw 51 rfl)) (mvT hZ (wi hw 50 rfl)) (by decide) (backOf (W := 0) (rm_close_2x l Z a0 hw [] b103 d b1_107 k1_107 p0 p1 b2_107 k2_107 p3 p2 h118 n0 (by omega) c123_F_brackets_b103 c125_F_contentStarts_b103 c126_F_closes_b103 c128_F_size_b103 c130_V_b1_107 p118_V_b2) hZ (wi hw 52 rfl) (wi hw 5 rfl) (by decide) (by decide)) q121a q121c (g := (mkF mM 187 (Lc_law_gt_1_1_9 p0 p1 p2 p3 p4 d b103) [(.int p0), (.ref d), (.ref b103)])) rfl (by rw [hml]; rfl) (Steps.refl _) (argsL := [(.ref d), (.int p0)]) (rest := []) (lenOf pd_1 rfl) rfl (by show 2 * 0 + _ ≤ _; exact Nat.le_of_eq rfl) (hb hby at_187) (fun _ _ => ⟨rfl, e118, Nat.le_of_ble_eq_true rfl, Nat.le_of_ble_eq_true rfl⟩)
  dsimp only [Pt.U, Pt.locs, Pt.cells, Pt.slots] at X121 l121 y121 z121 st121 hQ121
  subst l121 y121 z121
  obtain ⟨h121, e121⟩ : ∃ z, T121.heap = z := ⟨_, rfl⟩
  rw [e121] at hQ121
  obtain ⟨rfl, N121q, eq121⟩ := hQ121
  rw [eq121] at e121
  have N121 := Fr.app N118 N121q
  obtain ⟨cq132, kq132, q132a, q132b, q132c⟩ := isOf hZ e121 c131_E_b103
  obtain ⟨_, _, ⟨T132, L132, k132, n132⟩, -, X132, ⟨Lc132, hQ132, l132, y132, z132⟩, st132⟩ := X121.virtualBack hx (y := (⟨"com/example/macroweave/macroweave/BracketPairs", "close", "(Lcom/example/macroweave/macroweave/Brackets;I)I"⟩ : MethodName)) (z := (⟨"com/example/macroweave/macroweave/BracketPairs", "close", "(Lcom/example/macroweave/macroweave/Brackets;I)I"⟩ : MethodName)) hown (mvT hZ (wi hw 48 rfl)) (mvT hZ (wi hw 49 rfl)) (notFace_of_selects (args := #[]) (mvT hZ (wi hw 51 rfl))) (mvT hZ (wi hw 51 rfl)) (mvT hZ (wi hw 50 rfl)) (by decide) (backOf (W := 0) (rm_close_2y l Z a0 hw [] b103 d b1_107 k1_107 p0 p1 b2_107 k2_107 p3 p2 h118 n0 (by omega) c123_F_brackets_b103 c125_F_contentStarts_b103 c126_F_closes_b103 c128_F_size_b103 c130_V_b1_107 p118_V_b2 hc37_112) hZ (wi hw 52 rfl) (wi hw 5 rfl) (by decide) (by decide)) q132a q132c (g := (mkF mM 200 (Lc_law_gt_1_1_9 p0 p1 p2 p3 p4 d b103) [(.int p1), (.ref d), (.ref b103)])) rfl (by rw [hml]; rfl) (Steps.refl _) (argsL := [(.ref d), (.int p1)]) (rest := []) (lenOf pd_1 rfl) rfl (by show 2 * 0 + _ ≤ _; exact Nat.le_of_eq rfl) (hb hby at_200) (fun _ _ => ⟨rfl, e121, Nat.le_of_ble_eq_true rfl, Nat.le_of_ble_eq_true rfl⟩)
  dsimp only [Pt.U, Pt.locs, Pt.cells, Pt.slots] at X132 l132 y132 z132 st132 hQ132
  subst l132 y132 z132
  obtain ⟨h132, e132⟩ : ∃ z, T132.heap = z := ⟨_, rfl⟩
  rw [e132] at hQ132
  obtain ⟨rfl, N132q, eq132⟩ := hQ132
  rw [eq132] at e132
  have N132 := Fr.app N121 N132q
  obtain ⟨fs, hr, hrun, hended, hW, hsame⟩ := X132.leave (v := some (.int (1 : Int32))) (fun h => by rw [Bd.returns] at h; cases h)
  refine ⟨_, _, pre0 _ ?_, hrun, hended, _, _, rfl, ?_, ⟨_, rfl⟩, hW, hsame.mono (by decide) (by decide)⟩
  · show SS pP eE belowS s₁ (mkF mM 0 (Lc_law_gt_1_1_0 p0 p1 p2 p3 p4) []) _
    refine st102 _ ?_
    show SS pP eE belowS T102 (mkF mM 3 (Lc_law_gt_1_1_0 p0 p1 p2 p3 p4) [(.ref d)]) _
    refine XS.astore X102.here hx rfl (hb hby at_3) rfl rfl (l' := (Lc_law_gt_1_1_1 p0 p1 p2 p3 p4 d)) rfl ?_
    show SS pP eE belowS T102 (mkF mM 5 (Lc_law_gt_1_1_1 p0 p1 p2 p3 p4 d) []) _
    refine st103 _ ?_
    show SS pP eE belowS T103 (mkF mM 8 (Lc_law_gt_1_1_1 p0 p1 p2 p3 p4 d) [(.ref b103)]) _
    refine XS.dup X103.here hx rfl (hb hby at_8) rfl rfl ?_
    show SS pP eE belowS T103 (mkF mM 9 (Lc_law_gt_1_1_1 p0 p1 p2 p3 p4 d) [(.ref b103), (.ref b103)]) _
    refine st104.trans ?_
    show SS pP eE belowS T104 (mkF mM 12 (Lc_law_gt_1_1_1 p0 p1 p2 p3 p4 d) [(.ref b103)]) _
    refine XS.astore X104.here hx rfl (hb hby at_12) rfl rfl (l' := (Lc_law_gt_1_1_2 p0 p1 p2 p3 p4 d b103)) rfl ?_
    show SS pP eE belowS T104 (mkF mM 14 (Lc_law_gt_1_1_2 p0 p1 p2 p3 p4 d b103) []) _
    refine XS.aload X104.here hx rfl (hb hby at_14) rfl rfl ?_
    show SS pP eE belowS T104 (mkF mM 16 (Lc_law_gt_1_1_2 p0 p1 p2 p3 p4 d b103) [(.ref b103)]) _
    refine XS.aload X104.here hx rfl (hb hby at_16) rfl rfl ?_
    show SS pP eE belowS T104 (mkF mM 18 (Lc_law_gt_1_1_2 p0 p1 p2 p3 p4 d b103) [(.ref d), (.ref b103)]) _
    refine XS.iloadN X104.here hx rfl (hb hby at_18) rfl ?_
    show SS pP eE belowS T104 (mkF mM 19 (Lc_law_gt_1_1_2 p0 p1 p2 p3 p4 d b103) [(.int p0), (.ref d), (.ref b103)]) _
    refine st107.trans ?_
    show SS pP eE belowS T107 (mkF mM 22 (Lc_law_gt_1_1_2 p0 p1 p2 p3 p4 d b103) [(.int (0 : Int32))]) _
    refine XS.istore X107.here hx rfl (hb hby at_22) rfl (l' := (Lc_law_gt_1_1_3 p0 p1 p2 p3 p4 d b103)) rfl ?_
    show SS pP eE belowS T107 (mkF mM 24 (Lc_law_gt_1_1_3 p0 p1 p2 p3 p4 d b103) []) _
    refine XS.aload X107.here hx rfl (hb hby at_24) rfl rfl ?_
    show SS pP eE belowS T107 (mkF mM 26 (Lc_law_gt_1_1_3 p0 p1 p2 p3 p4 d b103) [(.ref b103)]) _
    refine XS.aload X107.here hx rfl (hb hby at_26) rfl rfl ?_
    show SS pP eE belowS T107 (mkF mM 28 (Lc_law_gt_1_1_3 p0 p1 p2 p3 p4 d b103) [(.ref d), (.ref b103)]) _
    refine XS.iloadN X107.here hx rfl (hb hby at_28) rfl ?_
    show SS pP eE belowS T107 (mkF mM 29 (Lc_law_gt_1_1_3 p0 p1 p2 p3 p4 d b103) [(.int p1), (.ref d), (.ref b103)]) _
    refine st112.trans ?_
    show SS pP eE belowS T112 (mkF mM 32 (Lc_law_gt_1_1_3 p0 p1 p2 p3 p4 d b103) [(.int (1 : Int32))]) _
    refine XS.istore X112.here hx rfl (hb hby at_32) rfl (l' := (Lc_law_gt_1_1_4 p0 p1 p2 p3 p4 d b103)) rfl ?_
    show SS pP eE belowS T112 (mkF mM 34 (Lc_law_gt_1_1_4 p0 p1 p2 p3 p4 d b103) []) _
    refine XS.iload X112.here hx rfl (hb hby at_34) rfl ?_
    show SS pP eE belowS T112 (mkF mM 36 (Lc_law_gt_1_1_4 p0 p1 p2 p3 p4 d b103) [(.int (0 : Int32))]) _
    refine XS.ifYes X112.here hx rfl (pc0 := 36) (pc' := 41) rfl (hb hby at_36) rfl ((if0 _ _).trans (teq (by decide : (0 : Int32) = (0 : Int32))).1) (by decide) (by decide) ?_
    show SS pP eE belowS T112 (mkF mM 41 (Lc_law_gt_1_1_4 p0 p1 p2 p3 p4 d b103) []) _
    refine XS.iload X112.here hx rfl (hb hby at_41) rfl ?_
    show SS pP eE belowS T112 (mkF mM 43 (Lc_law_gt_1_1_4 p0 p1 p2 p3 p4 d b103) [(.int (1 : Int32))]) _
    refine XS.iloadN X112.here hx rfl (hb hby at_43) rfl ?_
    show SS pP eE belowS T112 (mkF mM 44 (Lc_law_gt_1_1_4 p0 p1 p2 p3 p4 d b103) [(.int p1), (.int (1 : Int32))]) _
    refine XS.iloadN X112.here hx rfl (hb hby at_44) rfl ?_
    show SS pP eE belowS T112 (mkF mM 45 (Lc_law_gt_1_1_4 p0 p1 p2 p3 p4 d b103) [(.int p0), (.int p1), (.int (1 : Int32))]) _
    refine XS.icmpNo X112.here hx rfl (hb hby at_45) rfl (tlt hc37_112).2.2.2 ?_
    show SS pP eE belowS T112 (mkF mM 48 (Lc_law_gt_1_1_4 p0 p1 p2 p3 p4 d b103) [(.int (1 : Int32))]) _
    refine XS.iconst X112.here hx rfl (hb hby at_48) ?_
    show SS pP eE belowS T112 (mkF mM 49 (Lc_law_gt_1_1_4 p0 p1 p2 p3 p4 d b103) [(.int (1 : Int32)), (.int (1 : Int32))]) _
    refine XS.goto X112.here hx rfl (pc0 := 49) (pc' := 53) rfl (hb hby at_49) (by decide) (by decide) ?_
    show SS pP eE belowS T112 (mkF mM 53 (Lc_law_gt_1_1_4 p0 p1 p2 p3 p4 d b103) [(.int (1 : Int32)), (.int (1 : Int32))]) _
    refine XS.icmpYes X112.here hx rfl (pc0 := 53) (pc' := 58) rfl (hb hby at_53) rfl (teq (by decide : (1 : Int32) = (1 : Int32))).1 (by decide) (by decide) ?_
    show SS pP eE belowS T112 (mkF mM 58 (Lc_law_gt_1_1_4 p0 p1 p2 p3 p4 d b103) []) _
    refine XS.iload X112.here hx rfl (hb hby at_58) rfl ?_
    show SS pP eE belowS T112 (mkF mM 60 (Lc_law_gt_1_1_4 p0 p1 p2 p3 p4 d b103) [(.int p4)]) _
    refine XS.iconst X112.here hx rfl (hb hby at_60) ?_
    show SS pP eE belowS T112 (mkF mM 61 (Lc_law_gt_1_1_4 p0 p1 p2 p3 p4 d b103) [(.int (3 : Int32)), (.int p4)]) _
    refine XS.iand X112.here hx rfl (hb hby at_61) rfl ?_
    show SS pP eE belowS T112 (mkF mM 62 (Lc_law_gt_1_1_4 p0 p1 p2 p3 p4 d b103) [(.int (p4 &&& (3 : Int32)))]) _
    refine XS.istore X112.here hx rfl (hb hby at_62) rfl (l' := (Lc_law_gt_1_1_5 p0 p1 p2 p3 p4 d b103)) rfl ?_
    show SS pP eE belowS T112 (mkF mM 64 (Lc_law_gt_1_1_5 p0 p1 p2 p3 p4 d b103) []) _
    refine XS.iload X112.here hx rfl (hb hby at_64) rfl ?_
    show SS pP eE belowS T112 (mkF mM 66 (Lc_law_gt_1_1_5 p0 p1 p2 p3 p4 d b103) [(.int (p4 &&& (3 : Int32)))]) _
    refine XS.ifYes X112.here hx rfl (pc0 := 66) (pc' := 74) rfl (hb hby at_66) rfl ((if0 _ _).trans (feq hc66).2) (by decide) (by decide) ?_
    show SS pP eE belowS T112 (mkF mM 74 (Lc_law_gt_1_1_5 p0 p1 p2 p3 p4 d b103) []) _
    refine XS.iload X112.here hx rfl (hb hby at_74) rfl ?_
    show SS pP eE belowS T112 (mkF mM 76 (Lc_law_gt_1_1_5 p0 p1 p2 p3 p4 d b103) [(.int (p4 &&& (3 : Int32)))]) _
    refine XS.iconst X112.here hx rfl (hb hby at_76) ?_
    show SS pP eE belowS T112 (mkF mM 77 (Lc_law_gt_1_1_5 p0 p1 p2 p3 p4 d b103) [(.int (1 : Int32)), (.int (p4 &&& (3 : Int32)))]) _
    refine XS.icmpNo X112.here hx rfl (hb hby at_77) rfl (teq hc77).2 ?_
    show SS pP eE belowS T112 (mkF mM 80 (Lc_law_gt_1_1_5 p0 p1 p2 p3 p4 d b103) []) _
    refine XS.iload X112.here hx rfl (hb hby at_80) rfl ?_
    show SS pP eE belowS T112 (mkF mM 82 (Lc_law_gt_1_1_5 p0 p1 p2 p3 p4 d b103) [(.int (1 : Int32))]) _
    refine XS.goto X112.here hx rfl (pc0 := 82) (pc' := 86) rfl (hb hby at_82) (by decide) (by decide) ?_
    show SS pP eE belowS T112 (mkF mM 86 (Lc_law_gt_1_1_5 p0 p1 p2 p3 p4 d b103) [(.int (1 : Int32))]) _
    refine XS.istore X112.here hx rfl (hb hby at_86) rfl (l' := (Lc_law_gt_1_1_6 p0 p1 p2 p3 p4 d b103)) rfl ?_
    show SS pP eE belowS T112 (mkF mM 88 (Lc_law_gt_1_1_6 p0 p1 p2 p3 p4 d b103) []) _
    refine XS.iload X112.here hx rfl (hb hby at_88) rfl ?_
    show SS pP eE belowS T112 (mkF mM 90 (Lc_law_gt_1_1_6 p0 p1 p2 p3 p4 d b103) [(.int p4)]) _
    refine XS.iconst X112.here hx rfl (hb hby at_90) ?_
    show SS pP eE belowS T112 (mkF mM 91 (Lc_law_gt_1_1_6 p0 p1 p2 p3 p4 d b103) [(.int (2 : Int32)), (.int p4)]) _
    refine XS.ishr X112.here hx rfl (hb hby at_91) rfl ?_
    show SS pP eE belowS T112 (mkF mM 92 (Lc_law_gt_1_1_6 p0 p1 p2 p3 p4 d b103) [(.int (p4 >>> ((2 : Int32) &&& 31)))]) _
    refine XS.iconst X112.here hx rfl (hb hby at_92) ?_
    show SS pP eE belowS T112 (mkF mM 93 (Lc_law_gt_1_1_6 p0 p1 p2 p3 p4 d b103) [(.int (1 : Int32)), (.int (p4 >>> ((2 : Int32) &&& 31)))]) _
    refine XS.iand X112.here hx rfl (hb hby at_93) rfl ?_
    show SS pP eE belowS T112 (mkF mM 94 (Lc_law_gt_1_1_6 p0 p1 p2 p3 p4 d b103) [(.int ((p4 >>> ((2 : Int32) &&& 31)) &&& (1 : Int32)))]) _
    refine XS.ifNo X112.here hx rfl (hb hby at_94) rfl ((if0 _ _).trans (feq hc94).1) ?_
    show SS pP eE belowS T112 (mkF mM 97 (Lc_law_gt_1_1_6 p0 p1 p2 p3 p4 d b103) []) _
    refine XS.iconst X112.here hx rfl (hb hby at_97) ?_
    show SS pP eE belowS T112 (mkF mM 98 (Lc_law_gt_1_1_6 p0 p1 p2 p3 p4 d b103) [(.int (1 : Int32))]) _
    refine XS.goto X112.here hx rfl (pc0 := 98) (pc' := 102) rfl (hb hby at_98) (by decide) (by decide) ?_
    show SS pP eE belowS T112 (mkF mM 102 (Lc_law_gt_1_1_6 p0 p1 p2 p3 p4 d b103) [(.int (1 : Int32))]) _
    refine XS.istore X112.here hx rfl (hb hby at_102) rfl (l' := (Lc_law_gt_1_1_7 p0 p1 p2 p3 p4 d b103)) rfl ?_
    show SS pP eE belowS T112 (mkF mM 104 (Lc_law_gt_1_1_7 p0 p1 p2 p3 p4 d b103) []) _
    refine XS.aload X112.here hx rfl (hb hby at_104) rfl rfl ?_
    show SS pP eE belowS T112 (mkF mM 106 (Lc_law_gt_1_1_7 p0 p1 p2 p3 p4 d b103) [(.ref b103)]) _
    refine XS.iload X112.here hx rfl (hb hby at_106) rfl ?_
    show SS pP eE belowS T112 (mkF mM 108 (Lc_law_gt_1_1_7 p0 p1 p2 p3 p4 d b103) [(.int (1 : Int32)), (.ref b103)]) _
    refine XS.iloadN X112.here hx rfl (hb hby at_108) rfl ?_
    show SS pP eE belowS T112 (mkF mM 109 (Lc_law_gt_1_1_7 p0 p1 p2 p3 p4 d b103) [(.int p2), (.int (1 : Int32)), (.ref b103)]) _
    refine st117.trans ?_
    show SS pP eE belowS T117 (mkF mM 112 (Lc_law_gt_1_1_7 p0 p1 p2 p3 p4 d b103) []) _
    refine XS.iload X117.here hx rfl (hb hby at_112) rfl ?_
    show SS pP eE belowS T117 (mkF mM 114 (Lc_law_gt_1_1_7 p0 p1 p2 p3 p4 d b103) [(.int (1 : Int32))]) _
    refine XS.ifNo X117.here hx rfl (hb hby at_114) rfl ((if0 _ _).trans (feq (by decide : ¬ ((1 : Int32) = (0 : Int32)))).1) ?_
    show SS pP eE belowS T117 (mkF mM 117 (Lc_law_gt_1_1_7 p0 p1 p2 p3 p4 d b103) []) _
    refine XS.aload X117.here hx rfl (hb hby at_117) rfl rfl ?_
    show SS pP eE belowS T117 (mkF mM 119 (Lc_law_gt_1_1_7 p0 p1 p2 p3 p4 d b103) [(.ref b103)]) _
    refine XS.iload X117.here hx rfl (hb hby at_119) rfl ?_
    show SS pP eE belowS T117 (mkF mM 121 (Lc_law_gt_1_1_7 p0 p1 p2 p3 p4 d b103) [(.int (0 : Int32)), (.ref b103)]) _
    refine XS.iloadN X117.here hx rfl (hb hby at_121) rfl ?_
    show SS pP eE belowS T117 (mkF mM 122 (Lc_law_gt_1_1_7 p0 p1 p2 p3 p4 d b103) [(.int p3), (.int (0 : Int32)), (.ref b103)]) _
    refine st118.trans ?_
    show SS pP eE belowS T118 (mkF mM 125 (Lc_law_gt_1_1_7 p0 p1 p2 p3 p4 d b103) []) _
    refine XS.iload X118.here hx rfl (hb hby at_125) rfl ?_
    show SS pP eE belowS T118 (mkF mM 127 (Lc_law_gt_1_1_7 p0 p1 p2 p3 p4 d b103) [(.int (1 : Int32))]) _
    refine XS.ifNo X118.here hx rfl (hb hby at_127) rfl ((if0 _ _).trans (feq (by decide : ¬ ((1 : Int32) = (0 : Int32)))).1) ?_
    show SS pP eE belowS T118 (mkF mM 130 (Lc_law_gt_1_1_7 p0 p1 p2 p3 p4 d b103) []) _
    refine XS.iloadN X118.here hx rfl (hb hby at_130) rfl ?_
    show SS pP eE belowS T118 (mkF mM 131 (Lc_law_gt_1_1_7 p0 p1 p2 p3 p4 d b103) [(.int p3)]) _
    refine XS.goto X118.here hx rfl (pc0 := 131) (pc' := 144) rfl (hb hby at_131) (by decide) (by decide) ?_
    show SS pP eE belowS T118 (mkF mM 144 (Lc_law_gt_1_1_7 p0 p1 p2 p3 p4 d b103) [(.int p3)]) _
    refine XS.istore X118.here hx rfl (hb hby at_144) rfl (l' := (Lc_law_gt_1_1_8 p0 p1 p2 p3 p4 d b103)) rfl ?_
    show SS pP eE belowS T118 (mkF mM 146 (Lc_law_gt_1_1_8 p0 p1 p2 p3 p4 d b103) []) _
    refine XS.iloadN X118.here hx rfl (hb hby at_146) rfl ?_
    show SS pP eE belowS T118 (mkF mM 147 (Lc_law_gt_1_1_8 p0 p1 p2 p3 p4 d b103) [(.int p1)]) _
    refine XS.iloadN X118.here hx rfl (hb hby at_147) rfl ?_
    show SS pP eE belowS T118 (mkF mM 148 (Lc_law_gt_1_1_8 p0 p1 p2 p3 p4 d b103) [(.int p0), (.int p1)]) _
    refine XS.icmpNo X118.here hx rfl (hb hby at_148) rfl (tlt hc37_112).2.2.2 ?_
    show SS pP eE belowS T118 (mkF mM 151 (Lc_law_gt_1_1_8 p0 p1 p2 p3 p4 d b103) []) _
    refine XS.iload X118.here hx rfl (hb hby at_151) rfl ?_
    show SS pP eE belowS T118 (mkF mM 153 (Lc_law_gt_1_1_8 p0 p1 p2 p3 p4 d b103) [(.int (1 : Int32))]) _
    refine XS.iconst X118.here hx rfl (hb hby at_153) ?_
    show SS pP eE belowS T118 (mkF mM 154 (Lc_law_gt_1_1_8 p0 p1 p2 p3 p4 d b103) [(.int (1 : Int32)), (.int (1 : Int32))]) _
    refine XS.icmpNo X118.here hx rfl (hb hby at_154) rfl (teq (by decide : (1 : Int32) = (1 : Int32))).2 ?_
    show SS pP eE belowS T118 (mkF mM 157 (Lc_law_gt_1_1_8 p0 p1 p2 p3 p4 d b103) []) _
    refine XS.iloadN X118.here hx rfl (hb hby at_157) rfl ?_
    show SS pP eE belowS T118 (mkF mM 158 (Lc_law_gt_1_1_8 p0 p1 p2 p3 p4 d b103) [(.int p2)]) _
    refine XS.goto X118.here hx rfl (pc0 := 158) (pc' := 162) rfl (hb hby at_158) (by decide) (by decide) ?_
    show SS pP eE belowS T118 (mkF mM 162 (Lc_law_gt_1_1_8 p0 p1 p2 p3 p4 d b103) [(.int p2)]) _
    refine XS.istore X118.here hx rfl (hb hby at_162) rfl (l' := (Lc_law_gt_1_1_9 p0 p1 p2 p3 p4 d b103)) rfl ?_
    show SS pP eE belowS T118 (mkF mM 164 (Lc_law_gt_1_1_9 p0 p1 p2 p3 p4 d b103) []) _
    refine XS.goto X118.here hx rfl (pc0 := 164) (pc' := 182) rfl (hb hby at_164) (by decide) (by decide) ?_
    show SS pP eE belowS T118 (mkF mM 182 (Lc_law_gt_1_1_9 p0 p1 p2 p3 p4 d b103) []) _
    refine XS.aload X118.here hx rfl (hb hby at_182) rfl rfl ?_
    show SS pP eE belowS T118 (mkF mM 184 (Lc_law_gt_1_1_9 p0 p1 p2 p3 p4 d b103) [(.ref b103)]) _
    refine XS.aload X118.here hx rfl (hb hby at_184) rfl rfl ?_
    show SS pP eE belowS T118 (mkF mM 186 (Lc_law_gt_1_1_9 p0 p1 p2 p3 p4 d b103) [(.ref d), (.ref b103)]) _
    refine XS.iloadN X118.here hx rfl (hb hby at_186) rfl ?_
    show SS pP eE belowS T118 (mkF mM 187 (Lc_law_gt_1_1_9 p0 p1 p2 p3 p4 d b103) [(.int p0), (.ref d), (.ref b103)]) _
    refine st121.trans ?_
    show SS pP eE belowS T121 (mkF mM 190 (Lc_law_gt_1_1_9 p0 p1 p2 p3 p4 d b103) [(.int p3)]) _
    refine XS.iload X121.here hx rfl (hb hby at_190) rfl ?_
    show SS pP eE belowS T121 (mkF mM 192 (Lc_law_gt_1_1_9 p0 p1 p2 p3 p4 d b103) [(.int p3), (.int p3)]) _
    refine XS.icmpNo X121.here hx rfl (hb hby at_192) rfl (teq (rfl : p3 = p3)).2 ?_
    show SS pP eE belowS T121 (mkF mM 195 (Lc_law_gt_1_1_9 p0 p1 p2 p3 p4 d b103) []) _
    refine XS.aload X121.here hx rfl (hb hby at_195) rfl rfl ?_
    show SS pP eE belowS T121 (mkF mM 197 (Lc_law_gt_1_1_9 p0 p1 p2 p3 p4 d b103) [(.ref b103)]) _
    refine XS.aload X121.here hx rfl (hb hby at_197) rfl rfl ?_
    show SS pP eE belowS T121 (mkF mM 199 (Lc_law_gt_1_1_9 p0 p1 p2 p3 p4 d b103) [(.ref d), (.ref b103)]) _
    refine XS.iloadN X121.here hx rfl (hb hby at_199) rfl ?_
    show SS pP eE belowS T121 (mkF mM 200 (Lc_law_gt_1_1_9 p0 p1 p2 p3 p4 d b103) [(.int p1), (.ref d), (.ref b103)]) _
    refine st132.trans ?_
    show SS pP eE belowS T132 (mkF mM 203 (Lc_law_gt_1_1_9 p0 p1 p2 p3 p4 d b103) [(.int p2)]) _
    refine XS.iload X132.here hx rfl (hb hby at_203) rfl ?_
    show SS pP eE belowS T132 (mkF mM 205 (Lc_law_gt_1_1_9 p0 p1 p2 p3 p4 d b103) [(.int p2), (.int p2)]) _
    refine XS.icmpNo X132.here hx rfl (hb hby at_205) rfl (teq (rfl : p2 = p2)).2 ?_
    show SS pP eE belowS T132 (mkF mM 208 (Lc_law_gt_1_1_9 p0 p1 p2 p3 p4 d b103) []) _
    refine XS.iconst X132.here hx rfl (hb hby at_208) ?_
    show SS pP eE belowS T132 (mkF mM 209 (Lc_law_gt_1_1_9 p0 p1 p2 p3 p4 d b103) [(.int (1 : Int32))]) _
    refine XS.goto X132.here hx rfl (pc0 := 209) (pc' := 213) rfl (hb hby at_209) (by decide) (by decide) ?_
    show SS pP eE belowS T132 (mkF mM 213 (Lc_law_gt_1_1_9 p0 p1 p2 p3 p4 d b103) [(.int (1 : Int32))]) _
    exact retN X132 hx (t := .boolean) Bd.returns (by simp) (hb hby at_213) hr
  · exact ⟨rfl, N132⟩

abbrev Lc_law_gt_2_0_0 (p0 : Int32) (p1 : Int32) (p2 : Int32) (p3 : Int32) (p4 : Int32) : Array Slot := #[.val (.int p0), .val (.int p1), .val (.int p2), .val (.int p3), .val (.int p4), .unset, .unset, .unset, .unset, .unset, .unset, .unset, .unset, .unset]
abbrev Lc_law_gt_2_0_1 (p0 : Int32) (p1 : Int32) (p2 : Int32) (p3 : Int32) (p4 : Int32) (d : Addr) : Array Slot := #[.val (.int p0), .val (.int p1), .val (.int p2), .val (.int p3), .val (.int p4), .val (.ref d), .unset, .unset, .unset, .unset, .unset, .unset, .unset, .unset]
abbrev Lc_law_gt_2_0_2 (p0 : Int32) (p1 : Int32) (p2 : Int32) (p3 : Int32) (p4 : Int32) (d : Addr) (b103 : Addr) : Array Slot := #[.val (.int p0), .val (.int p1), .val (.int p2), .val (.int p3), .val (.int p4), .val (.ref d), .val (.ref b103), .unset, .unset, .unset, .unset, .unset, .unset, .unset]
abbrev Lc_law_gt_2_0_3 (p0 : Int32) (p1 : Int32) (p2 : Int32) (p3 : Int32) (p4 : Int32) (d : Addr) (b103 : Addr) : Array Slot := #[.val (.int p0), .val (.int p1), .val (.int p2), .val (.int p3), .val (.int p4), .val (.ref d), .val (.ref b103), .val (.int (0 : Int32)), .unset, .unset, .unset, .unset, .unset, .unset]
abbrev Lc_law_gt_2_0_4 (p0 : Int32) (p1 : Int32) (p2 : Int32) (p3 : Int32) (p4 : Int32) (d : Addr) (b103 : Addr) : Array Slot := #[.val (.int p0), .val (.int p1), .val (.int p2), .val (.int p3), .val (.int p4), .val (.ref d), .val (.ref b103), .val (.int (0 : Int32)), .val (.int (1 : Int32)), .unset, .unset, .unset, .unset, .unset]
abbrev Lc_law_gt_2_0_5 (p0 : Int32) (p1 : Int32) (p2 : Int32) (p3 : Int32) (p4 : Int32) (d : Addr) (b103 : Addr) : Array Slot := #[.val (.int p0), .val (.int p1), .val (.int p2), .val (.int p3), .val (.int p4), .val (.ref d), .val (.ref b103), .val (.int (0 : Int32)), .val (.int (1 : Int32)), .val (.int (p4 &&& (3 : Int32))), .unset, .unset, .unset, .unset]
abbrev Lc_law_gt_2_0_6 (p0 : Int32) (p1 : Int32) (p2 : Int32) (p3 : Int32) (p4 : Int32) (d : Addr) (b103 : Addr) : Array Slot := #[.val (.int p0), .val (.int p1), .val (.int p2), .val (.int p3), .val (.int p4), .val (.ref d), .val (.ref b103), .val (.int (0 : Int32)), .val (.int (1 : Int32)), .val (.int (p4 &&& (3 : Int32))), .val (.int (-1 : Int32)), .unset, .unset, .unset]
abbrev Lc_law_gt_2_0_7 (p0 : Int32) (p1 : Int32) (p2 : Int32) (p3 : Int32) (p4 : Int32) (d : Addr) (b103 : Addr) : Array Slot := #[.val (.int p0), .val (.int p1), .val (.int p2), .val (.int p3), .val (.int p4), .val (.ref d), .val (.ref b103), .val (.int (0 : Int32)), .val (.int (1 : Int32)), .val (.int (p4 &&& (3 : Int32))), .val (.int (-1 : Int32)), .val (.int (0 : Int32)), .unset, .unset]
abbrev Lc_law_gt_2_0_8 (p0 : Int32) (p1 : Int32) (p2 : Int32) (p3 : Int32) (p4 : Int32) (d : Addr) (b103 : Addr) : Array Slot := #[.val (.int p0), .val (.int p1), .val (.int p2), .val (.int p3), .val (.int p4), .val (.ref d), .val (.ref b103), .val (.int (0 : Int32)), .val (.int (1 : Int32)), .val (.int (p4 &&& (3 : Int32))), .val (.int (-1 : Int32)), .val (.int (0 : Int32)), .val (.int (-1 : Int32)), .unset]
abbrev Lc_law_gt_2_0_9 (p0 : Int32) (p1 : Int32) (p2 : Int32) (p3 : Int32) (p4 : Int32) (d : Addr) (b103 : Addr) : Array Slot := #[.val (.int p0), .val (.int p1), .val (.int p2), .val (.int p3), .val (.int p4), .val (.ref d), .val (.ref b103), .val (.int (0 : Int32)), .val (.int (1 : Int32)), .val (.int (p4 &&& (3 : Int32))), .val (.int (-1 : Int32)), .val (.int (0 : Int32)), .val (.int (-1 : Int32)), .val (.int (-1 : Int32))]
theorem ef_law_gt_2_0 (mM : MethodId) (p0 : Int32) (p1 : Int32) (p2 : Int32) (p3 : Int32) (p4 : Int32) (aN : Addr) (kN : ClassId) (d : Addr) : entryFrame mM #[(.int p0), (.int p1), (.int p2), (.int p3), (.int p4)] maxLocals = mkF mM 0 #[.val (.int p0), .val (.int p1), .val (.int p2), .val (.int p3), .val (.int p4), .unset, .unset, .unset, .unset, .unset, .unset, .unset, .unset, .unset] [] := by first | (simp [entryFrame, mkF, argsToLocals, Value.category, maxLocals]; done) | rfl
set_option maxRecDepth 65536 in
set_option maxHeartbeats 40000000 in
theorem rm_law_gt_2_0 (l : Launch) (Z : State) (a0 : Array Value) (hw : ∀ d ∈ tables_1, d.before a0 Z = true) (ws : List Jvm.Cond) (p0 : Int32) (p1 : Int32) (p2 : Int32) (p3 : Int32) (p4 : Int32) (aN : Addr) (kN : ClassId) (d : Addr) (h0 : Heap) (n0 : Nat) (Z0 : n0 ≤ h0.size) (OL : Old Z n0 h0) (S_DEFAULT : Sta Z Z.heap "com/example/macroweave/macroweave/Brackets" "DEFAULT" "Lcom/example/macroweave/macroweave/Brackets;" (.ref d)) (S_NONE : Sta Z Z.heap "com/example/macroweave/macroweave/BracketPairs" "NONE" "[I" (.ref aN)) (V_aN : Arv Z h0 aN kN .int (0 : Int32) [] (.int (0 : Int32))) (hc37_112 : p0 < p1) (hc66 : ¬ ((p4 &&& (3 : Int32)) = (0 : Int32))) (hc77 : ¬ ((p4 &&& (3 : Int32)) = (1 : Int32))) (hc94 : ((p4 >>> ((2 : Int32) &&& 31)) &&& (1 : Int32)) = (0 : Int32)) :
    MetFree l x (head1 (Jvm.Cond.code x code maxLocals ret :: ws) room_1) (fun xa xU => xa = #[(.int p0), (.int p1), (.int p2), (.int p3), (.int p4)] ∧ Z.Warmed39 xU.vm ∧ xU.heap = h0) (fun _ _ _ _ _ => True) (fun _ xU xo xU' => ∃ xv xL, xo = .returned xv ∧ Q_law n0 xv xL ∧ FrameEnd xU xo xU' xL room_1.cells room_1.slots) := by
  refine MetFree.of_bodySF (plainFor_of_name pn_com_example_macroweave_macroweave_BracketPairsClosedPinLaw) hisR ?_
  intro pP eE sS mM argS belowS methS cC s₁ Bd hml0 hP hK
  obtain ⟨rfl, hZ, hh⟩ := hP
  have hx := Bd.exec
  have hby := Bd.bytes
  have hml : cC.maxLocals = 14 := hml0
  have hown : sS.vm.findClass "com/example/macroweave/macroweave/BracketPairsClosedPinLaw" = some mM.cls := findClass_of_methodNamed Bd.named
  have hnm := (name_of_methodNamed Bd.named Bd.method).1
  have X0 : Stand pP l eE room_1 sS mM #[(.int p0), (.int p1), (.int p2), (.int p3), (.int p4)] belowS methS cC s₁ [] 0 0 := Stand.of_body Bd
  have e0 : s₁.heap = h0 := by rw [← hh, Bd.state]; rfl
  have N0 := Fr.nil n0
  have pre0 : ∀ t', Steps pP.tables eE belowS (s₁.setTop (mkF mM 0 #[.val (.int p0), .val (.int p1), .val (.int p2), .val (.int p3), .val (.int p4), .unset, .unset, .unset, .unset, .unset, .unset, .unset, .unset, .unset] [])) t' → Steps pP.tables eE belowS (s₁.setTop (entryFrame mM #[(.int p0), (.int p1), (.int p2), (.int p3), (.int p4)] maxLocals)) t' := fun t' kk' => castTop (ef_law_gt_2_0 mM p0 p1 p2 p3 p4 aN kN d) kk'
  have c101_S_DEFAULT : Sta Z h0 "com/example/macroweave/macroweave/Brackets" "DEFAULT" "Lcom/example/macroweave/macroweave/Brackets;" (.ref d) := Sta.ext OL.2 S_DEFAULT
  obtain ⟨T102, X102, e102, st102⟩ := getS2 X0 hx hZ hown (host := "") (Or.inl (wi hw 0 rfl)) Via.refl e0 c101_S_DEFAULT (g := (mkF mM 0 (Lc_law_gt_2_0_0 p0 p1 p2 p3 p4) [])) rfl (hb hby at_0)
  obtain ⟨T103, h103, X103, e103, E103, A103, D103, B103, st103⟩ := newO X102 hx hZ hown (wi hw 3 rfl) (wi hw 4 rfl) (wi hw 5 rfl) e102 (g := (mkF mM 5 (Lc_law_gt_2_0_1 p0 p1 p2 p3 p4 d) [])) rfl (hb hby at_5) (by decide) (by decide)
  obtain ⟨b103, g103⟩ : ∃ z : Nat, z = h0.size := ⟨_, rfl⟩
  rw [← g103] at A103 D103 B103 st103
  have Sz1 : h0.size ≤ h103.size := E103.1
  have F103_contentStarts : Fld Z h103 b103 "com/example/macroweave/macroweave/BracketPairs" "contentStarts" "[I" .null := D103 (Or.inl (wi hw 15 rfl)) (ty := (.array .int)) (by decide)
  have F103_closes : Fld Z h103 b103 "com/example/macroweave/macroweave/BracketPairs" "closes" "[I" .null := D103 (Or.inl (wi hw 17 rfl)) (ty := (.array .int)) (by decide)
  have F103_brackets : Fld Z h103 b103 "com/example/macroweave/macroweave/BracketPairs" "brackets" "Lcom/example/macroweave/macroweave/Brackets;" .null := D103 (Or.inl (wi hw 24 rfl)) (ty := (.object "com/example/macroweave/macroweave/Brackets")) (by decide)
  have F103_size : Fld Z h103 b103 "com/example/macroweave/macroweave/BracketPairs" "size" "I" (.int (0 : Int32)) := D103 (Or.inl (wi hw 26 rfl)) (ty := .int) (by decide)
  have c105_OL : Old Z n0 h103 := OL.ext E103
  have ge106_b103 : @LE.le Nat _ n0 b103 := by omega
  obtain ⟨_, _, ⟨T104, L104, k104, n104⟩, -, X104, ⟨Lc104, hQ104, l104, y104, z104⟩, st104⟩ := X103.specialBack hx (y := (⟨"com/example/macroweave/macroweave/BracketPairs", "<init>", "()V"⟩ : MethodName)) rfl hown (mvT hZ (wi hw 6 rfl)) (mvT hZ (wi hw 7 rfl)) (mvT hZ (wi hw 8 rfl)) (by decide) (backOf (W := 1) (rm_init l Z a0 hw [] b103 aN .null .null .null (.int (0 : Int32)) h103 n0 (by omega) A103 F103_contentStarts F103_closes F103_brackets F103_size ge106_b103 c105_OL S_NONE) hZ (wi hw 8 rfl) (wi hw 5 rfl) (by decide) (by decide)) (g := (mkF mM 9 (Lc_law_gt_2_0_1 p0 p1 p2 p3 p4 d) [(.ref b103), (.ref b103)])) rfl (by rw [hml]; rfl) (Steps.refl _) (a := b103) (argsL := []) (rest := [(.ref b103)]) (lenOf pd_0 rfl) rfl (by show 2 * 0 + _ ≤ _; exact Nat.le_of_eq rfl) (hb hby at_9) (fun _ _ => ⟨rfl, e103, Nat.le_of_ble_eq_true rfl, Nat.le_of_ble_eq_true rfl⟩)
  dsimp only [Pt.U, Pt.locs, Pt.cells, Pt.slots] at X104 l104 y104 z104 st104 hQ104
  subst l104 y104 z104
  obtain ⟨h104, e104⟩ : ∃ z, T104.heap = z := ⟨_, rfl⟩
  rw [e104] at hQ104
  obtain ⟨rfl, N104q, Kp104, p104_E_a1, p104_F_contentStarts_a1, p104_F_closes_a1, p104_F_brackets_a1, p104_F_size_a1⟩ := hQ104
  have Sz2 : h103.size ≤ h104.size := Kp104.1
  have N104 := Fr.app N0 N104q
  have c108_V_aN : Arv Z h103 aN kN .int (0 : Int32) [] (.int (0 : Int32)) := V_aN.ext E103
  have lt_aN : @LT.lt Nat _ aN h0.size := V_aN.lt
  have lt_b103 : @LT.lt Nat _ b103 h104.size := p104_E_a1.lt
  have ne_aN_b103_109 : aN ≠ b103 := (by omega : @Ne Nat aN b103)
  have c110_V_aN : Arv Z h104 aN kN .int (0 : Int32) [] (.int (0 : Int32)) := c108_V_aN.keep Kp104 (ninS ne_aN_b103_109 nin0)
  have ne_b103_aN_111 : b103 ≠ aN := (by omega : @Ne Nat b103 aN)
  obtain ⟨cq107, kq107, q107a, q107b, q107c⟩ := isOf hZ e104 p104_E_a1
  obtain ⟨_, _, ⟨T107, L107, k107, n107⟩, -, X107, ⟨Lc107, hQ107, l107, y107, z107⟩, st107⟩ := X104.virtualBack hx (y := (⟨"com/example/macroweave/macroweave/BracketPairs", "opened", "(Lcom/example/macroweave/macroweave/Brackets;I)I"⟩ : MethodName)) (z := (⟨"com/example/macroweave/macroweave/BracketPairs", "opened", "(Lcom/example/macroweave/macroweave/Brackets;I)I"⟩ : MethodName)) hown (mvT hZ (wi hw 18 rfl)) (mvT hZ (wi hw 19 rfl)) (notFace_of_selects (args := #[]) (mvT hZ (wi hw 21 rfl))) (mvT hZ (wi hw 21 rfl)) (mvT hZ (wi hw 20 rfl)) (by decide) (backOf (W := 0) (rm_open1 l Z a0 hw [] b103 d p0 aN kN h104 n0 (by omega) p104_E_a1 p104_F_brackets_a1 p104_F_contentStarts_a1 p104_F_closes_a1 p104_F_size_a1 c110_V_aN ne_b103_aN_111 ge106_b103) hZ (wi hw 22 rfl) (wi hw 5 rfl) (by decide) (by decide)) q107a q107c (g := (mkF mM 19 (Lc_law_gt_2_0_2 p0 p1 p2 p3 p4 d b103) [(.int p0), (.ref d), (.ref b103)])) rfl (by rw [hml]; rfl) (Steps.refl _) (argsL := [(.ref d), (.int p0)]) (rest := []) (lenOf pd_1 rfl) rfl (by show 2 * 0 + _ ≤ _; exact Nat.le_of_eq rfl) (hb hby at_19) (fun _ _ => ⟨rfl, e104, Nat.le_of_ble_eq_true rfl, Nat.le_of_ble_eq_true rfl⟩)
  dsimp only [Pt.U, Pt.locs, Pt.cells, Pt.slots] at X107 l107 y107 z107 st107 hQ107
  subst l107 y107 z107
  obtain ⟨h107, e107⟩ : ∃ z, T107.heap = z := ⟨_, rfl⟩
  rw [e107] at hQ107
  obtain ⟨b1_107, b2_107, k1_107, k2_107, rfl, N107q, Kp107, p107_E_a1, p107_F_brackets_a1, p107_F_contentStarts_a1, p107_F_closes_a1, p107_F_size_a1, p107_V_b1, p107_V_b2, p107_gh_b1, p107_gh_b2, p107_ne_b1_b2⟩ := hQ107
  have Sz3 : h104.size ≤ h107.size := Kp107.1
  have N107 := Fr.app N104 N107q
  have lt_b1_107 : @LT.lt Nat _ b1_107 h107.size := p107_V_b1.lt
  have ne_b103_b1_107_113 : b103 ≠ b1_107 := (by omega : @Ne Nat b103 b1_107)
  have lt_b2_107 : @LT.lt Nat _ b2_107 h107.size := p107_V_b2.lt
  have ne_b103_b2_107_114 : b103 ≠ b2_107 := (by omega : @Ne Nat b103 b2_107)
  have ge115_b1_107 : @LE.le Nat _ n0 b1_107 := by omega
  have ge116_b2_107 : @LE.le Nat _ n0 b2_107 := by omega
  obtain ⟨cq112, kq112, q112a, q112b, q112c⟩ := isOf hZ e107 p107_E_a1
  obtain ⟨_, _, ⟨T112, L112, k112, n112⟩, -, X112, ⟨Lc112, hQ112, l112, y112, z112⟩, st112⟩ := X107.virtualBack hx (y := (⟨"com/example/macroweave/macroweave/BracketPairs", "opened", "(Lcom/example/macroweave/macroweave/Brackets;I)I"⟩ : MethodName)) (z := (⟨"com/example/macroweave/macroweave/BracketPairs", "opened", "(Lcom/example/macroweave/macroweave/Brackets;I)I"⟩ : MethodName)) hown (mvT hZ (wi hw 18 rfl)) (mvT hZ (wi hw 19 rfl)) (notFace_of_selects (args := #[]) (mvT hZ (wi hw 21 rfl))) (mvT hZ (wi hw 21 rfl)) (mvT hZ (wi hw 20 rfl)) (by decide) (backOf (W := 0) (rm_open2 l Z a0 hw [] b103 d p1 p0 b1_107 b2_107 k1_107 k2_107 h107 n0 (by omega) p107_E_a1 p107_F_brackets_a1 p107_F_contentStarts_a1 p107_F_closes_a1 p107_F_size_a1 p107_V_b1 p107_V_b2 ne_b103_b1_107_113 ne_b103_b2_107_114 p107_ne_b1_b2 ge106_b103 ge115_b1_107 ge116_b2_107 hc37_112) hZ (wi hw 22 rfl) (wi hw 5 rfl) (by decide) (by decide)) q112a q112c (g := (mkF mM 29 (Lc_law_gt_2_0_3 p0 p1 p2 p3 p4 d b103) [(.int p1), (.ref d), (.ref b103)])) rfl (by rw [hml]; rfl) (Steps.refl _) (argsL := [(.ref d), (.int p1)]) (rest := []) (lenOf pd_1 rfl) rfl (by show 2 * 0 + _ ≤ _; exact Nat.le_of_eq rfl) (hb hby at_29) (fun _ _ => ⟨rfl, e107, Nat.le_of_ble_eq_true rfl, Nat.le_of_ble_eq_true rfl⟩)
  dsimp only [Pt.U, Pt.locs, Pt.cells, Pt.slots] at X112 l112 y112 z112 st112 hQ112
  subst l112 y112 z112
  obtain ⟨h112, e112⟩ : ∃ z, T112.heap = z := ⟨_, rfl⟩
  rw [e112] at hQ112
  obtain ⟨rfl, N112q, Kp112, p112_E_a1, p112_F_brackets_a1, p112_F_contentStarts_a1, p112_F_closes_a1, p112_F_size_a1, p112_V_b1, p112_V_b2⟩ := hQ112
  have Sz4 : h107.size ≤ h112.size := Kp112.1
  have N112 := Fr.app N107 N112q
  obtain ⟨cq117, kq117, q117a, q117b, q117c⟩ := isOf hZ e112 p112_E_a1
  obtain ⟨_, _, ⟨T117, L117, k117, n117⟩, -, X117, ⟨Lc117, hQ117, l117, y117, z117⟩, st117⟩ := X112.virtualBack hx (y := (⟨"com/example/macroweave/macroweave/BracketPairs", "closed", "(II)V"⟩ : MethodName)) (z := (⟨"com/example/macroweave/macroweave/BracketPairs", "closed", "(II)V"⟩ : MethodName)) hown (mvT hZ (wi hw 43 rfl)) (mvT hZ (wi hw 44 rfl)) (notFace_of_selects (args := #[]) (mvT hZ (wi hw 46 rfl))) (mvT hZ (wi hw 46 rfl)) (mvT hZ (wi hw 45 rfl)) (by decide) (backOf (W := 0) (rm_closedn l Z a0 hw [] b103 p2 h112 n0 (by omega) ) hZ (wi hw 47 rfl) (wi hw 5 rfl) (by decide) (by decide)) q117a q117c (g := (mkF mM 109 (Lc_law_gt_2_0_7 p0 p1 p2 p3 p4 d b103) [(.int p2), (.int (-1 : Int32)), (.ref b103)])) rfl (by rw [hml]; rfl) (Steps.refl _) (argsL := [(.int (-1 : Int32)), (.int p2)]) (rest := []) (lenOf pd_5 rfl) rfl (by show 2 * 0 + _ ≤ _; exact Nat.le_of_eq rfl) (hb hby at_109) (fun _ _ => ⟨rfl, e112, Nat.le_of_ble_eq_true rfl, Nat.le_of_ble_eq_true rfl⟩)
  dsimp only [Pt.U, Pt.locs, Pt.cells, Pt.slots] at X117 l117 y117 z117 st117 hQ117
  subst l117 y117 z117
  obtain ⟨h117, e117⟩ : ∃ z, T117.heap = z := ⟨_, rfl⟩
  rw [e117] at hQ117
  obtain ⟨rfl, N117q, eq117⟩ := hQ117
  rw [eq117] at e117
  have N117 := Fr.app N112 N117q
  obtain ⟨cq118, kq118, q118a, q118b, q118c⟩ := isOf hZ e117 p112_E_a1
  obtain ⟨_, _, ⟨T118, L118, k118, n118⟩, -, X118, ⟨Lc118, hQ118, l118, y118, z118⟩, st118⟩ := X117.virtualBack hx (y := (⟨"com/example/macroweave/macroweave/BracketPairs", "close", "(Lcom/example/macroweave/macroweave/Brackets;I)I"⟩ : MethodName)) (z := (⟨"com/example/macroweave/macroweave/BracketPairs", "close", "(Lcom/example/macroweave/macroweave/Brackets;I)I"⟩ : MethodName)) hown (mvT hZ (wi hw 48 rfl)) (mvT hZ (wi hw 49 rfl)) (notFace_of_selects (args := #[]) (mvT hZ (wi hw 51 rfl))) (mvT hZ (wi hw 51 rfl)) (mvT hZ (wi hw 50 rfl)) (by decide) (backOf (W := 0) (rm_close_2x l Z a0 hw [] b103 d b1_107 k1_107 p0 p1 b2_107 k2_107 (-1 : Int32) (-1 : Int32) h112 n0 (by omega) p112_F_brackets_a1 p112_F_contentStarts_a1 p112_F_closes_a1 p112_F_size_a1 p112_V_b1 p112_V_b2) hZ (wi hw 52 rfl) (wi hw 5 rfl) (by decide) (by decide)) q118a q118c (g := (mkF mM 187 (Lc_law_gt_2_0_9 p0 p1 p2 p3 p4 d b103) [(.int p0), (.ref d), (.ref b103)])) rfl (by rw [hml]; rfl) (Steps.refl _) (argsL := [(.ref d), (.int p0)]) (rest := []) (lenOf pd_1 rfl) rfl (by show 2 * 0 + _ ≤ _; exact Nat.le_of_eq rfl) (hb hby at_187) (fun _ _ => ⟨rfl, e117, Nat.le_of_ble_eq_true rfl, Nat.le_of_ble_eq_true rfl⟩)
  dsimp only [Pt.U, Pt.locs, Pt.cells, Pt.slots] at X118 l118 y118 z118 st118 hQ118
  subst l118 y118 z118
  obtain ⟨h118, e118⟩ : ∃ z, T118.heap = z := ⟨_, rfl⟩
  rw [e118] at hQ118
  obtain ⟨rfl, N118q, eq118⟩ := hQ118
  rw [eq118] at e118
  have N118 := Fr.app N117 N118q
  obtain ⟨cq119, kq119, q119a, q119b, q119c⟩ := isOf hZ e118 p112_E_a1
  obtain ⟨_, _, ⟨T119, L119, k119, n119⟩, -, X119, ⟨Lc119, hQ119, l119, y119, z119⟩, st119⟩ := X118.virtualBack hx (y := (⟨"com/example/macroweave/macroweave/BracketPairs", "close", "(Lcom/example/macroweave/macroweave/Brackets;I)I"⟩ : MethodName)) (z := (⟨"com/example/macroweave/macroweave/BracketPairs", "close", "(Lcom/example/macroweave/macroweave/Brackets;I)I"⟩ : MethodName)) hown (mvT hZ (wi hw 48 rfl)) (mvT hZ (wi hw 49 rfl)) (notFace_of_selects (args := #[]) (mvT hZ (wi hw 51 rfl))) (mvT hZ (wi hw 51 rfl)) (mvT hZ (wi hw 50 rfl)) (by decide) (backOf (W := 0) (rm_close_2y l Z a0 hw [] b103 d b1_107 k1_107 p0 p1 b2_107 k2_107 (-1 : Int32) (-1 : Int32) h112 n0 (by omega) p112_F_brackets_a1 p112_F_contentStarts_a1 p112_F_closes_a1 p112_F_size_a1 p112_V_b1 p112_V_b2 hc37_112) hZ (wi hw 52 rfl) (wi hw 5 rfl) (by decide) (by decide)) q119a q119c (g := (mkF mM 200 (Lc_law_gt_2_0_9 p0 p1 p2 p3 p4 d b103) [(.int p1), (.ref d), (.ref b103)])) rfl (by rw [hml]; rfl) (Steps.refl _) (argsL := [(.ref d), (.int p1)]) (rest := []) (lenOf pd_1 rfl) rfl (by show 2 * 0 + _ ≤ _; exact Nat.le_of_eq rfl) (hb hby at_200) (fun _ _ => ⟨rfl, e118, Nat.le_of_ble_eq_true rfl, Nat.le_of_ble_eq_true rfl⟩)
  dsimp only [Pt.U, Pt.locs, Pt.cells, Pt.slots] at X119 l119 y119 z119 st119 hQ119
  subst l119 y119 z119
  obtain ⟨h119, e119⟩ : ∃ z, T119.heap = z := ⟨_, rfl⟩
  rw [e119] at hQ119
  obtain ⟨rfl, N119q, eq119⟩ := hQ119
  rw [eq119] at e119
  have N119 := Fr.app N118 N119q
  obtain ⟨fs, hr, hrun, hended, hW, hsame⟩ := X119.leave (v := some (.int (1 : Int32))) (fun h => by rw [Bd.returns] at h; cases h)
  refine ⟨_, _, pre0 _ ?_, hrun, hended, _, _, rfl, ?_, ⟨_, rfl⟩, hW, hsame.mono (by decide) (by decide)⟩
  · show SS pP eE belowS s₁ (mkF mM 0 (Lc_law_gt_2_0_0 p0 p1 p2 p3 p4) []) _
    refine st102 _ ?_
    show SS pP eE belowS T102 (mkF mM 3 (Lc_law_gt_2_0_0 p0 p1 p2 p3 p4) [(.ref d)]) _
    refine XS.astore X102.here hx rfl (hb hby at_3) rfl rfl (l' := (Lc_law_gt_2_0_1 p0 p1 p2 p3 p4 d)) rfl ?_
    show SS pP eE belowS T102 (mkF mM 5 (Lc_law_gt_2_0_1 p0 p1 p2 p3 p4 d) []) _
    refine st103 _ ?_
    show SS pP eE belowS T103 (mkF mM 8 (Lc_law_gt_2_0_1 p0 p1 p2 p3 p4 d) [(.ref b103)]) _
    refine XS.dup X103.here hx rfl (hb hby at_8) rfl rfl ?_
    show SS pP eE belowS T103 (mkF mM 9 (Lc_law_gt_2_0_1 p0 p1 p2 p3 p4 d) [(.ref b103), (.ref b103)]) _
    refine st104.trans ?_
    show SS pP eE belowS T104 (mkF mM 12 (Lc_law_gt_2_0_1 p0 p1 p2 p3 p4 d) [(.ref b103)]) _
    refine XS.astore X104.here hx rfl (hb hby at_12) rfl rfl (l' := (Lc_law_gt_2_0_2 p0 p1 p2 p3 p4 d b103)) rfl ?_
    show SS pP eE belowS T104 (mkF mM 14 (Lc_law_gt_2_0_2 p0 p1 p2 p3 p4 d b103) []) _
    refine XS.aload X104.here hx rfl (hb hby at_14) rfl rfl ?_
    show SS pP eE belowS T104 (mkF mM 16 (Lc_law_gt_2_0_2 p0 p1 p2 p3 p4 d b103) [(.ref b103)]) _
    refine XS.aload X104.here hx rfl (hb hby at_16) rfl rfl ?_
    show SS pP eE belowS T104 (mkF mM 18 (Lc_law_gt_2_0_2 p0 p1 p2 p3 p4 d b103) [(.ref d), (.ref b103)]) _
    refine XS.iloadN X104.here hx rfl (hb hby at_18) rfl ?_
    show SS pP eE belowS T104 (mkF mM 19 (Lc_law_gt_2_0_2 p0 p1 p2 p3 p4 d b103) [(.int p0), (.ref d), (.ref b103)]) _
    refine st107.trans ?_
    show SS pP eE belowS T107 (mkF mM 22 (Lc_law_gt_2_0_2 p0 p1 p2 p3 p4 d b103) [(.int (0 : Int32))]) _
    refine XS.istore X107.here hx rfl (hb hby at_22) rfl (l' := (Lc_law_gt_2_0_3 p0 p1 p2 p3 p4 d b103)) rfl ?_
    show SS pP eE belowS T107 (mkF mM 24 (Lc_law_gt_2_0_3 p0 p1 p2 p3 p4 d b103) []) _
    refine XS.aload X107.here hx rfl (hb hby at_24) rfl rfl ?_
    show SS pP eE belowS T107 (mkF mM 26 (Lc_law_gt_2_0_3 p0 p1 p2 p3 p4 d b103) [(.ref b103)]) _
    refine XS.aload X107.here hx rfl (hb hby at_26) rfl rfl ?_
    show SS pP eE belowS T107 (mkF mM 28 (Lc_law_gt_2_0_3 p0 p1 p2 p3 p4 d b103) [(.ref d), (.ref b103)]) _
    refine XS.iloadN X107.here hx rfl (hb hby at_28) rfl ?_
    show SS pP eE belowS T107 (mkF mM 29 (Lc_law_gt_2_0_3 p0 p1 p2 p3 p4 d b103) [(.int p1), (.ref d), (.ref b103)]) _
    refine st112.trans ?_
    show SS pP eE belowS T112 (mkF mM 32 (Lc_law_gt_2_0_3 p0 p1 p2 p3 p4 d b103) [(.int (1 : Int32))]) _
    refine XS.istore X112.here hx rfl (hb hby at_32) rfl (l' := (Lc_law_gt_2_0_4 p0 p1 p2 p3 p4 d b103)) rfl ?_
    show SS pP eE belowS T112 (mkF mM 34 (Lc_law_gt_2_0_4 p0 p1 p2 p3 p4 d b103) []) _
    refine XS.iload X112.here hx rfl (hb hby at_34) rfl ?_
    show SS pP eE belowS T112 (mkF mM 36 (Lc_law_gt_2_0_4 p0 p1 p2 p3 p4 d b103) [(.int (0 : Int32))]) _
    refine XS.ifYes X112.here hx rfl (pc0 := 36) (pc' := 41) rfl (hb hby at_36) rfl ((if0 _ _).trans (teq (by decide : (0 : Int32) = (0 : Int32))).1) (by decide) (by decide) ?_
    show SS pP eE belowS T112 (mkF mM 41 (Lc_law_gt_2_0_4 p0 p1 p2 p3 p4 d b103) []) _
    refine XS.iload X112.here hx rfl (hb hby at_41) rfl ?_
    show SS pP eE belowS T112 (mkF mM 43 (Lc_law_gt_2_0_4 p0 p1 p2 p3 p4 d b103) [(.int (1 : Int32))]) _
    refine XS.iloadN X112.here hx rfl (hb hby at_43) rfl ?_
    show SS pP eE belowS T112 (mkF mM 44 (Lc_law_gt_2_0_4 p0 p1 p2 p3 p4 d b103) [(.int p1), (.int (1 : Int32))]) _
    refine XS.iloadN X112.here hx rfl (hb hby at_44) rfl ?_
    show SS pP eE belowS T112 (mkF mM 45 (Lc_law_gt_2_0_4 p0 p1 p2 p3 p4 d b103) [(.int p0), (.int p1), (.int (1 : Int32))]) _
    refine XS.icmpNo X112.here hx rfl (hb hby at_45) rfl (tlt hc37_112).2.2.2 ?_
    show SS pP eE belowS T112 (mkF mM 48 (Lc_law_gt_2_0_4 p0 p1 p2 p3 p4 d b103) [(.int (1 : Int32))]) _
    refine XS.iconst X112.here hx rfl (hb hby at_48) ?_
    show SS pP eE belowS T112 (mkF mM 49 (Lc_law_gt_2_0_4 p0 p1 p2 p3 p4 d b103) [(.int (1 : Int32)), (.int (1 : Int32))]) _
    refine XS.goto X112.here hx rfl (pc0 := 49) (pc' := 53) rfl (hb hby at_49) (by decide) (by decide) ?_
    show SS pP eE belowS T112 (mkF mM 53 (Lc_law_gt_2_0_4 p0 p1 p2 p3 p4 d b103) [(.int (1 : Int32)), (.int (1 : Int32))]) _
    refine XS.icmpYes X112.here hx rfl (pc0 := 53) (pc' := 58) rfl (hb hby at_53) rfl (teq (by decide : (1 : Int32) = (1 : Int32))).1 (by decide) (by decide) ?_
    show SS pP eE belowS T112 (mkF mM 58 (Lc_law_gt_2_0_4 p0 p1 p2 p3 p4 d b103) []) _
    refine XS.iload X112.here hx rfl (hb hby at_58) rfl ?_
    show SS pP eE belowS T112 (mkF mM 60 (Lc_law_gt_2_0_4 p0 p1 p2 p3 p4 d b103) [(.int p4)]) _
    refine XS.iconst X112.here hx rfl (hb hby at_60) ?_
    show SS pP eE belowS T112 (mkF mM 61 (Lc_law_gt_2_0_4 p0 p1 p2 p3 p4 d b103) [(.int (3 : Int32)), (.int p4)]) _
    refine XS.iand X112.here hx rfl (hb hby at_61) rfl ?_
    show SS pP eE belowS T112 (mkF mM 62 (Lc_law_gt_2_0_4 p0 p1 p2 p3 p4 d b103) [(.int (p4 &&& (3 : Int32)))]) _
    refine XS.istore X112.here hx rfl (hb hby at_62) rfl (l' := (Lc_law_gt_2_0_5 p0 p1 p2 p3 p4 d b103)) rfl ?_
    show SS pP eE belowS T112 (mkF mM 64 (Lc_law_gt_2_0_5 p0 p1 p2 p3 p4 d b103) []) _
    refine XS.iload X112.here hx rfl (hb hby at_64) rfl ?_
    show SS pP eE belowS T112 (mkF mM 66 (Lc_law_gt_2_0_5 p0 p1 p2 p3 p4 d b103) [(.int (p4 &&& (3 : Int32)))]) _
    refine XS.ifYes X112.here hx rfl (pc0 := 66) (pc' := 74) rfl (hb hby at_66) rfl ((if0 _ _).trans (feq hc66).2) (by decide) (by decide) ?_
    show SS pP eE belowS T112 (mkF mM 74 (Lc_law_gt_2_0_5 p0 p1 p2 p3 p4 d b103) []) _
    refine XS.iload X112.here hx rfl (hb hby at_74) rfl ?_
    show SS pP eE belowS T112 (mkF mM 76 (Lc_law_gt_2_0_5 p0 p1 p2 p3 p4 d b103) [(.int (p4 &&& (3 : Int32)))]) _
    refine XS.iconst X112.here hx rfl (hb hby at_76) ?_
    show SS pP eE belowS T112 (mkF mM 77 (Lc_law_gt_2_0_5 p0 p1 p2 p3 p4 d b103) [(.int (1 : Int32)), (.int (p4 &&& (3 : Int32)))]) _
    refine XS.icmpYes X112.here hx rfl (pc0 := 77) (pc' := 85) rfl (hb hby at_77) rfl (feq hc77).2 (by decide) (by decide) ?_
    show SS pP eE belowS T112 (mkF mM 85 (Lc_law_gt_2_0_5 p0 p1 p2 p3 p4 d b103) []) _
    refine XS.iconst X112.here hx rfl (hb hby at_85) ?_
    show SS pP eE belowS T112 (mkF mM 86 (Lc_law_gt_2_0_5 p0 p1 p2 p3 p4 d b103) [(.int (-1 : Int32))]) _
    refine XS.istore X112.here hx rfl (hb hby at_86) rfl (l' := (Lc_law_gt_2_0_6 p0 p1 p2 p3 p4 d b103)) rfl ?_
    show SS pP eE belowS T112 (mkF mM 88 (Lc_law_gt_2_0_6 p0 p1 p2 p3 p4 d b103) []) _
    refine XS.iload X112.here hx rfl (hb hby at_88) rfl ?_
    show SS pP eE belowS T112 (mkF mM 90 (Lc_law_gt_2_0_6 p0 p1 p2 p3 p4 d b103) [(.int p4)]) _
    refine XS.iconst X112.here hx rfl (hb hby at_90) ?_
    show SS pP eE belowS T112 (mkF mM 91 (Lc_law_gt_2_0_6 p0 p1 p2 p3 p4 d b103) [(.int (2 : Int32)), (.int p4)]) _
    refine XS.ishr X112.here hx rfl (hb hby at_91) rfl ?_
    show SS pP eE belowS T112 (mkF mM 92 (Lc_law_gt_2_0_6 p0 p1 p2 p3 p4 d b103) [(.int (p4 >>> ((2 : Int32) &&& 31)))]) _
    refine XS.iconst X112.here hx rfl (hb hby at_92) ?_
    show SS pP eE belowS T112 (mkF mM 93 (Lc_law_gt_2_0_6 p0 p1 p2 p3 p4 d b103) [(.int (1 : Int32)), (.int (p4 >>> ((2 : Int32) &&& 31)))]) _
    refine XS.iand X112.here hx rfl (hb hby at_93) rfl ?_
    show SS pP eE belowS T112 (mkF mM 94 (Lc_law_gt_2_0_6 p0 p1 p2 p3 p4 d b103) [(.int ((p4 >>> ((2 : Int32) &&& 31)) &&& (1 : Int32)))]) _
    refine XS.ifYes X112.here hx rfl (pc0 := 94) (pc' := 101) rfl (hb hby at_94) rfl ((if0 _ _).trans (teq hc94).1) (by decide) (by decide) ?_
    show SS pP eE belowS T112 (mkF mM 101 (Lc_law_gt_2_0_6 p0 p1 p2 p3 p4 d b103) []) _
    refine XS.iconst X112.here hx rfl (hb hby at_101) ?_
    show SS pP eE belowS T112 (mkF mM 102 (Lc_law_gt_2_0_6 p0 p1 p2 p3 p4 d b103) [(.int (0 : Int32))]) _
    refine XS.istore X112.here hx rfl (hb hby at_102) rfl (l' := (Lc_law_gt_2_0_7 p0 p1 p2 p3 p4 d b103)) rfl ?_
    show SS pP eE belowS T112 (mkF mM 104 (Lc_law_gt_2_0_7 p0 p1 p2 p3 p4 d b103) []) _
    refine XS.aload X112.here hx rfl (hb hby at_104) rfl rfl ?_
    show SS pP eE belowS T112 (mkF mM 106 (Lc_law_gt_2_0_7 p0 p1 p2 p3 p4 d b103) [(.ref b103)]) _
    refine XS.iload X112.here hx rfl (hb hby at_106) rfl ?_
    show SS pP eE belowS T112 (mkF mM 108 (Lc_law_gt_2_0_7 p0 p1 p2 p3 p4 d b103) [(.int (-1 : Int32)), (.ref b103)]) _
    refine XS.iloadN X112.here hx rfl (hb hby at_108) rfl ?_
    show SS pP eE belowS T112 (mkF mM 109 (Lc_law_gt_2_0_7 p0 p1 p2 p3 p4 d b103) [(.int p2), (.int (-1 : Int32)), (.ref b103)]) _
    refine st117.trans ?_
    show SS pP eE belowS T117 (mkF mM 112 (Lc_law_gt_2_0_7 p0 p1 p2 p3 p4 d b103) []) _
    refine XS.iload X117.here hx rfl (hb hby at_112) rfl ?_
    show SS pP eE belowS T117 (mkF mM 114 (Lc_law_gt_2_0_7 p0 p1 p2 p3 p4 d b103) [(.int (0 : Int32))]) _
    refine XS.ifYes X117.here hx rfl (pc0 := 114) (pc' := 125) rfl (hb hby at_114) rfl ((if0 _ _).trans (teq (by decide : (0 : Int32) = (0 : Int32))).1) (by decide) (by decide) ?_
    show SS pP eE belowS T117 (mkF mM 125 (Lc_law_gt_2_0_7 p0 p1 p2 p3 p4 d b103) []) _
    refine XS.iload X117.here hx rfl (hb hby at_125) rfl ?_
    show SS pP eE belowS T117 (mkF mM 127 (Lc_law_gt_2_0_7 p0 p1 p2 p3 p4 d b103) [(.int (0 : Int32))]) _
    refine XS.ifYes X117.here hx rfl (pc0 := 127) (pc' := 134) rfl (hb hby at_127) rfl ((if0 _ _).trans (teq (by decide : (0 : Int32) = (0 : Int32))).1) (by decide) (by decide) ?_
    show SS pP eE belowS T117 (mkF mM 134 (Lc_law_gt_2_0_7 p0 p1 p2 p3 p4 d b103) []) _
    refine XS.iload X117.here hx rfl (hb hby at_134) rfl ?_
    show SS pP eE belowS T117 (mkF mM 136 (Lc_law_gt_2_0_7 p0 p1 p2 p3 p4 d b103) [(.int (-1 : Int32))]) _
    refine XS.ifYes X117.here hx rfl (pc0 := 136) (pc' := 143) rfl (hb hby at_136) rfl ((if0 _ _).trans (feq (by decide : ¬ ((-1 : Int32) = (0 : Int32)))).2) (by decide) (by decide) ?_
    show SS pP eE belowS T117 (mkF mM 143 (Lc_law_gt_2_0_7 p0 p1 p2 p3 p4 d b103) []) _
    refine XS.iconst X117.here hx rfl (hb hby at_143) ?_
    show SS pP eE belowS T117 (mkF mM 144 (Lc_law_gt_2_0_7 p0 p1 p2 p3 p4 d b103) [(.int (-1 : Int32))]) _
    refine XS.istore X117.here hx rfl (hb hby at_144) rfl (l' := (Lc_law_gt_2_0_8 p0 p1 p2 p3 p4 d b103)) rfl ?_
    show SS pP eE belowS T117 (mkF mM 146 (Lc_law_gt_2_0_8 p0 p1 p2 p3 p4 d b103) []) _
    refine XS.iloadN X117.here hx rfl (hb hby at_146) rfl ?_
    show SS pP eE belowS T117 (mkF mM 147 (Lc_law_gt_2_0_8 p0 p1 p2 p3 p4 d b103) [(.int p1)]) _
    refine XS.iloadN X117.here hx rfl (hb hby at_147) rfl ?_
    show SS pP eE belowS T117 (mkF mM 148 (Lc_law_gt_2_0_8 p0 p1 p2 p3 p4 d b103) [(.int p0), (.int p1)]) _
    refine XS.icmpNo X117.here hx rfl (hb hby at_148) rfl (tlt hc37_112).2.2.2 ?_
    show SS pP eE belowS T117 (mkF mM 151 (Lc_law_gt_2_0_8 p0 p1 p2 p3 p4 d b103) []) _
    refine XS.iload X117.here hx rfl (hb hby at_151) rfl ?_
    show SS pP eE belowS T117 (mkF mM 153 (Lc_law_gt_2_0_8 p0 p1 p2 p3 p4 d b103) [(.int (-1 : Int32))]) _
    refine XS.iconst X117.here hx rfl (hb hby at_153) ?_
    show SS pP eE belowS T117 (mkF mM 154 (Lc_law_gt_2_0_8 p0 p1 p2 p3 p4 d b103) [(.int (1 : Int32)), (.int (-1 : Int32))]) _
    refine XS.icmpYes X117.here hx rfl (pc0 := 154) (pc' := 161) rfl (hb hby at_154) rfl (feq (by decide : ¬ ((-1 : Int32) = (1 : Int32)))).2 (by decide) (by decide) ?_
    show SS pP eE belowS T117 (mkF mM 161 (Lc_law_gt_2_0_8 p0 p1 p2 p3 p4 d b103) []) _
    refine XS.iconst X117.here hx rfl (hb hby at_161) ?_
    show SS pP eE belowS T117 (mkF mM 162 (Lc_law_gt_2_0_8 p0 p1 p2 p3 p4 d b103) [(.int (-1 : Int32))]) _
    refine XS.istore X117.here hx rfl (hb hby at_162) rfl (l' := (Lc_law_gt_2_0_9 p0 p1 p2 p3 p4 d b103)) rfl ?_
    show SS pP eE belowS T117 (mkF mM 164 (Lc_law_gt_2_0_9 p0 p1 p2 p3 p4 d b103) []) _
    refine XS.goto X117.here hx rfl (pc0 := 164) (pc' := 182) rfl (hb hby at_164) (by decide) (by decide) ?_
    show SS pP eE belowS T117 (mkF mM 182 (Lc_law_gt_2_0_9 p0 p1 p2 p3 p4 d b103) []) _
    refine XS.aload X117.here hx rfl (hb hby at_182) rfl rfl ?_
    show SS pP eE belowS T117 (mkF mM 184 (Lc_law_gt_2_0_9 p0 p1 p2 p3 p4 d b103) [(.ref b103)]) _
    refine XS.aload X117.here hx rfl (hb hby at_184) rfl rfl ?_
    show SS pP eE belowS T117 (mkF mM 186 (Lc_law_gt_2_0_9 p0 p1 p2 p3 p4 d b103) [(.ref d), (.ref b103)]) _
    refine XS.iloadN X117.here hx rfl (hb hby at_186) rfl ?_
    show SS pP eE belowS T117 (mkF mM 187 (Lc_law_gt_2_0_9 p0 p1 p2 p3 p4 d b103) [(.int p0), (.ref d), (.ref b103)]) _
    refine st118.trans ?_
    show SS pP eE belowS T118 (mkF mM 190 (Lc_law_gt_2_0_9 p0 p1 p2 p3 p4 d b103) [(.int (-1 : Int32))]) _
    refine XS.iload X118.here hx rfl (hb hby at_190) rfl ?_
    show SS pP eE belowS T118 (mkF mM 192 (Lc_law_gt_2_0_9 p0 p1 p2 p3 p4 d b103) [(.int (-1 : Int32)), (.int (-1 : Int32))]) _
    refine XS.icmpNo X118.here hx rfl (hb hby at_192) rfl (teq (by decide : (-1 : Int32) = (-1 : Int32))).2 ?_
    show SS pP eE belowS T118 (mkF mM 195 (Lc_law_gt_2_0_9 p0 p1 p2 p3 p4 d b103) []) _
    refine XS.aload X118.here hx rfl (hb hby at_195) rfl rfl ?_
    show SS pP eE belowS T118 (mkF mM 197 (Lc_law_gt_2_0_9 p0 p1 p2 p3 p4 d b103) [(.ref b103)]) _
    refine XS.aload X118.here hx rfl (hb hby at_197) rfl rfl ?_
    show SS pP eE belowS T118 (mkF mM 199 (Lc_law_gt_2_0_9 p0 p1 p2 p3 p4 d b103) [(.ref d), (.ref b103)]) _
    refine XS.iloadN X118.here hx rfl (hb hby at_199) rfl ?_
    show SS pP eE belowS T118 (mkF mM 200 (Lc_law_gt_2_0_9 p0 p1 p2 p3 p4 d b103) [(.int p1), (.ref d), (.ref b103)]) _
    refine st119.trans ?_
    show SS pP eE belowS T119 (mkF mM 203 (Lc_law_gt_2_0_9 p0 p1 p2 p3 p4 d b103) [(.int (-1 : Int32))]) _
    refine XS.iload X119.here hx rfl (hb hby at_203) rfl ?_
    show SS pP eE belowS T119 (mkF mM 205 (Lc_law_gt_2_0_9 p0 p1 p2 p3 p4 d b103) [(.int (-1 : Int32)), (.int (-1 : Int32))]) _
    refine XS.icmpNo X119.here hx rfl (hb hby at_205) rfl (teq (by decide : (-1 : Int32) = (-1 : Int32))).2 ?_
    show SS pP eE belowS T119 (mkF mM 208 (Lc_law_gt_2_0_9 p0 p1 p2 p3 p4 d b103) []) _
    refine XS.iconst X119.here hx rfl (hb hby at_208) ?_
    show SS pP eE belowS T119 (mkF mM 209 (Lc_law_gt_2_0_9 p0 p1 p2 p3 p4 d b103) [(.int (1 : Int32))]) _
    refine XS.goto X119.here hx rfl (pc0 := 209) (pc' := 213) rfl (hb hby at_209) (by decide) (by decide) ?_
    show SS pP eE belowS T119 (mkF mM 213 (Lc_law_gt_2_0_9 p0 p1 p2 p3 p4 d b103) [(.int (1 : Int32))]) _
    exact retN X119 hx (t := .boolean) Bd.returns (by simp) (hb hby at_213) hr
  · exact ⟨rfl, N119⟩

abbrev Lc_law_gt_2_1_0 (p0 : Int32) (p1 : Int32) (p2 : Int32) (p3 : Int32) (p4 : Int32) : Array Slot := #[.val (.int p0), .val (.int p1), .val (.int p2), .val (.int p3), .val (.int p4), .unset, .unset, .unset, .unset, .unset, .unset, .unset, .unset, .unset]
abbrev Lc_law_gt_2_1_1 (p0 : Int32) (p1 : Int32) (p2 : Int32) (p3 : Int32) (p4 : Int32) (d : Addr) : Array Slot := #[.val (.int p0), .val (.int p1), .val (.int p2), .val (.int p3), .val (.int p4), .val (.ref d), .unset, .unset, .unset, .unset, .unset, .unset, .unset, .unset]
abbrev Lc_law_gt_2_1_2 (p0 : Int32) (p1 : Int32) (p2 : Int32) (p3 : Int32) (p4 : Int32) (d : Addr) (b103 : Addr) : Array Slot := #[.val (.int p0), .val (.int p1), .val (.int p2), .val (.int p3), .val (.int p4), .val (.ref d), .val (.ref b103), .unset, .unset, .unset, .unset, .unset, .unset, .unset]
abbrev Lc_law_gt_2_1_3 (p0 : Int32) (p1 : Int32) (p2 : Int32) (p3 : Int32) (p4 : Int32) (d : Addr) (b103 : Addr) : Array Slot := #[.val (.int p0), .val (.int p1), .val (.int p2), .val (.int p3), .val (.int p4), .val (.ref d), .val (.ref b103), .val (.int (0 : Int32)), .unset, .unset, .unset, .unset, .unset, .unset]
abbrev Lc_law_gt_2_1_4 (p0 : Int32) (p1 : Int32) (p2 : Int32) (p3 : Int32) (p4 : Int32) (d : Addr) (b103 : Addr) : Array Slot := #[.val (.int p0), .val (.int p1), .val (.int p2), .val (.int p3), .val (.int p4), .val (.ref d), .val (.ref b103), .val (.int (0 : Int32)), .val (.int (1 : Int32)), .unset, .unset, .unset, .unset, .unset]
abbrev Lc_law_gt_2_1_5 (p0 : Int32) (p1 : Int32) (p2 : Int32) (p3 : Int32) (p4 : Int32) (d : Addr) (b103 : Addr) : Array Slot := #[.val (.int p0), .val (.int p1), .val (.int p2), .val (.int p3), .val (.int p4), .val (.ref d), .val (.ref b103), .val (.int (0 : Int32)), .val (.int (1 : Int32)), .val (.int (p4 &&& (3 : Int32))), .unset, .unset, .unset, .unset]
abbrev Lc_law_gt_2_1_6 (p0 : Int32) (p1 : Int32) (p2 : Int32) (p3 : Int32) (p4 : Int32) (d : Addr) (b103 : Addr) : Array Slot := #[.val (.int p0), .val (.int p1), .val (.int p2), .val (.int p3), .val (.int p4), .val (.ref d), .val (.ref b103), .val (.int (0 : Int32)), .val (.int (1 : Int32)), .val (.int (p4 &&& (3 : Int32))), .val (.int (-1 : Int32)), .unset, .unset, .unset]
abbrev Lc_law_gt_2_1_7 (p0 : Int32) (p1 : Int32) (p2 : Int32) (p3 : Int32) (p4 : Int32) (d : Addr) (b103 : Addr) : Array Slot := #[.val (.int p0), .val (.int p1), .val (.int p2), .val (.int p3), .val (.int p4), .val (.ref d), .val (.ref b103), .val (.int (0 : Int32)), .val (.int (1 : Int32)), .val (.int (p4 &&& (3 : Int32))), .val (.int (-1 : Int32)), .val (.int (1 : Int32)), .unset, .unset]
abbrev Lc_law_gt_2_1_8 (p0 : Int32) (p1 : Int32) (p2 : Int32) (p3 : Int32) (p4 : Int32) (d : Addr) (b103 : Addr) : Array Slot := #[.val (.int p0), .val (.int p1), .val (.int p2), .val (.int p3), .val (.int p4), .val (.ref d), .val (.ref b103), .val (.int (0 : Int32)), .val (.int (1 : Int32)), .val (.int (p4 &&& (3 : Int32))), .val (.int (-1 : Int32)), .val (.int (1 : Int32)), .val (.int p3), .unset]
abbrev Lc_law_gt_2_1_9 (p0 : Int32) (p1 : Int32) (p2 : Int32) (p3 : Int32) (p4 : Int32) (d : Addr) (b103 : Addr) : Array Slot := #[.val (.int p0), .val (.int p1), .val (.int p2), .val (.int p3), .val (.int p4), .val (.ref d), .val (.ref b103), .val (.int (0 : Int32)), .val (.int (1 : Int32)), .val (.int (p4 &&& (3 : Int32))), .val (.int (-1 : Int32)), .val (.int (1 : Int32)), .val (.int p3), .val (.int (-1 : Int32))]
theorem ef_law_gt_2_1 (mM : MethodId) (p0 : Int32) (p1 : Int32) (p2 : Int32) (p3 : Int32) (p4 : Int32) (aN : Addr) (kN : ClassId) (d : Addr) : entryFrame mM #[(.int p0), (.int p1), (.int p2), (.int p3), (.int p4)] maxLocals = mkF mM 0 #[.val (.int p0), .val (.int p1), .val (.int p2), .val (.int p3), .val (.int p4), .unset, .unset, .unset, .unset, .unset, .unset, .unset, .unset, .unset] [] := by first | (simp [entryFrame, mkF, argsToLocals, Value.category, maxLocals]; done) | rfl
set_option maxRecDepth 65536 in
set_option maxHeartbeats 40000000 in
theorem rm_law_gt_2_1 (l : Launch) (Z : State) (a0 : Array Value) (hw : ∀ d ∈ tables_1, d.before a0 Z = true) (ws : List Jvm.Cond) (p0 : Int32) (p1 : Int32) (p2 : Int32) (p3 : Int32) (p4 : Int32) (aN : Addr) (kN : ClassId) (d : Addr) (h0 : Heap) (n0 : Nat) (Z0 : n0 ≤ h0.size) (OL : Old Z n0 h0) (S_DEFAULT : Sta Z Z.heap "com/example/macroweave/macroweave/Brackets" "DEFAULT" "Lcom/example/macroweave/macroweave/Brackets;" (.ref d)) (S_NONE : Sta Z Z.heap "com/example/macroweave/macroweave/BracketPairs" "NONE" "[I" (.ref aN)) (V_aN : Arv Z h0 aN kN .int (0 : Int32) [] (.int (0 : Int32))) (hc37_112 : p0 < p1) (hc66 : ¬ ((p4 &&& (3 : Int32)) = (0 : Int32))) (hc77 : ¬ ((p4 &&& (3 : Int32)) = (1 : Int32))) (hc94 : ¬ (((p4 >>> ((2 : Int32) &&& 31)) &&& (1 : Int32)) = (0 : Int32))) :
    MetFree l x (head1 (Jvm.Cond.code x code maxLocals ret :: ws) room_1) (fun xa xU => xa = #[(.int p0), (.int p1), (.int p2), (.int p3), (.int p4)] ∧ Z.Warmed39 xU.vm ∧ xU.heap = h0) (fun _ _ _ _ _ => True) (fun _ xU xo xU' => ∃ xv xL, xo = .returned xv ∧ Q_law n0 xv xL ∧ FrameEnd xU xo xU' xL room_1.cells room_1.slots) := by
  refine MetFree.of_bodySF (plainFor_of_name pn_com_example_macroweave_macroweave_BracketPairsClosedPinLaw) hisR ?_
  intro pP eE sS mM argS belowS methS cC s₁ Bd hml0 hP hK
  obtain ⟨rfl, hZ, hh⟩ := hP
  have hx := Bd.exec
  have hby := Bd.bytes
  have hml : cC.maxLocals = 14 := hml0
  have hown : sS.vm.findClass "com/example/macroweave/macroweave/BracketPairsClosedPinLaw" = some mM.cls := findClass_of_methodNamed Bd.named
  have hnm := (name_of_methodNamed Bd.named Bd.method).1
  have X0 : Stand pP l eE room_1 sS mM #[(.int p0), (.int p1), (.int p2), (.int p3), (.int p4)] belowS methS cC s₁ [] 0 0 := Stand.of_body Bd
  have e0 : s₁.heap = h0 := by rw [← hh, Bd.state]; rfl
  have N0 := Fr.nil n0
  have pre0 : ∀ t', Steps pP.tables eE belowS (s₁.setTop (mkF mM 0 #[.val (.int p0), .val (.int p1), .val (.int p2), .val (.int p3), .val (.int p4), .unset, .unset, .unset, .unset, .unset, .unset, .unset, .unset, .unset] [])) t' → Steps pP.tables eE belowS (s₁.setTop (entryFrame mM #[(.int p0), (.int p1), (.int p2), (.int p3), (.int p4)] maxLocals)) t' := fun t' kk' => castTop (ef_law_gt_2_1 mM p0 p1 p2 p3 p4 aN kN d) kk'
  have c101_S_DEFAULT : Sta Z h0 "com/example/macroweave/macroweave/Brackets" "DEFAULT" "Lcom/example/macroweave/macroweave/Brackets;" (.ref d) := Sta.ext OL.2 S_DEFAULT
  obtain ⟨T102, X102, e102, st102⟩ := getS2 X0 hx hZ hown (host := "") (Or.inl (wi hw 0 rfl)) Via.refl e0 c101_S_DEFAULT (g := (mkF mM 0 (Lc_law_gt_2_1_0 p0 p1 p2 p3 p4) [])) rfl (hb hby at_0)
  obtain ⟨T103, h103, X103, e103, E103, A103, D103, B103, st103⟩ := newO X102 hx hZ hown (wi hw 3 rfl) (wi hw 4 rfl) (wi hw 5 rfl) e102 (g := (mkF mM 5 (Lc_law_gt_2_1_1 p0 p1 p2 p3 p4 d) [])) rfl (hb hby at_5) (by decide) (by decide)
  obtain ⟨b103, g103⟩ : ∃ z : Nat, z = h0.size := ⟨_, rfl⟩
  rw [← g103] at A103 D103 B103 st103
  have Sz1 : h0.size ≤ h103.size := E103.1
  have F103_contentStarts : Fld Z h103 b103 "com/example/macroweave/macroweave/BracketPairs" "contentStarts" "[I" .null := D103 (Or.inl (wi hw 15 rfl)) (ty := (.array .int)) (by decide)
  have F103_closes : Fld Z h103 b103 "com/example/macroweave/macroweave/BracketPairs" "closes" "[I" .null := D103 (Or.inl (wi hw 17 rfl)) (ty := (.array .int)) (by decide)
  have F103_brackets : Fld Z h103 b103 "com/example/macroweave/macroweave/BracketPairs" "brackets" "Lcom/example/macroweave/macroweave/Brackets;" .null := D103 (Or.inl (wi hw 24 rfl)) (ty := (.object "com/example/macroweave/macroweave/Brackets")) (by decide)
  have F103_size : Fld Z h103 b103 "com/example/macroweave/macroweave/BracketPairs" "size" "I" (.int (0 : Int32)) := D103 (Or.inl (wi hw 26 rfl)) (ty := .int) (by decide)
  have c105_OL : Old Z n0 h103 := OL.ext E103
  have ge106_b103 : @LE.le Nat _ n0 b103 := by omega
  obtain ⟨_, _, ⟨T104, L104, k104, n104⟩, -, X104, ⟨Lc104, hQ104, l104, y104, z104⟩, st104⟩ := X103.specialBack hx (y := (⟨"com/example/macroweave/macroweave/BracketPairs", "<init>", "()V"⟩ : MethodName)) rfl hown (mvT hZ (wi hw 6 rfl)) (mvT hZ (wi hw 7 rfl)) (mvT hZ (wi hw 8 rfl)) (by decide) (backOf (W := 1) (rm_init l Z a0 hw [] b103 aN .null .null .null (.int (0 : Int32)) h103 n0 (by omega) A103 F103_contentStarts F103_closes F103_brackets F103_size ge106_b103 c105_OL S_NONE) hZ (wi hw 8 rfl) (wi hw 5 rfl) (by decide) (by decide)) (g := (mkF mM 9 (Lc_law_gt_2_1_1 p0 p1 p2 p3 p4 d) [(.ref b103), (.ref b103)])) rfl (by rw [hml]; rfl) (Steps.refl _) (a := b103) (argsL := []) (rest := [(.ref b103)]) (lenOf pd_0 rfl) rfl (by show 2 * 0 + _ ≤ _; exact Nat.le_of_eq rfl) (hb hby at_9) (fun _ _ => ⟨rfl, e103, Nat.le_of_ble_eq_true rfl, Nat.le_of_ble_eq_true rfl⟩)
  dsimp only [Pt.U, Pt.locs, Pt.cells, Pt.slots] at X104 l104 y104 z104 st104 hQ104
  subst l104 y104 z104
  obtain ⟨h104, e104⟩ : ∃ z, T104.heap = z := ⟨_, rfl⟩
  rw [e104] at hQ104
  obtain ⟨rfl, N104q, Kp104, p104_E_a1, p104_F_contentStarts_a1, p104_F_closes_a1, p104_F_brackets_a1, p104_F_size_a1⟩ := hQ104
  have Sz2 : h103.size ≤ h104.size := Kp104.1
  have N104 := Fr.app N0 N104q
  have c108_V_aN : Arv Z h103 aN kN .int (0 : Int32) [] (.int (0 : Int32)) := V_aN.ext E103
  have lt_aN : @LT.lt Nat _ aN h0.size := V_aN.lt
  have lt_b103 : @LT.lt Nat _ b103 h104.size := p104_E_a1.lt
  have ne_aN_b103_109 : aN ≠ b103 := (by omega : @Ne Nat aN b103)
  have c110_V_aN : Arv Z h104 aN kN .int (0 : Int32) [] (.int (0 : Int32)) := c108_V_aN.keep Kp104 (ninS ne_aN_b103_109 nin0)
  have ne_b103_aN_111 : b103 ≠ aN := (by omega : @Ne Nat b103 aN)
  obtain ⟨cq107, kq107, q107a, q107b, q107c⟩ := isOf hZ e104 p104_E_a1
  obtain ⟨_, _, ⟨T107, L107, k107, n107⟩, -, X107, ⟨Lc107, hQ107, l107, y107, z107⟩, st107⟩ := X104.virtualBack hx (y := (⟨"com/example/macroweave/macroweave/BracketPairs", "opened", "(Lcom/example/macroweave/macroweave/Brackets;I)I"⟩ : MethodName)) (z := (⟨"com/example/macroweave/macroweave/BracketPairs", "opened", "(Lcom/example/macroweave/macroweave/Brackets;I)I"⟩ : MethodName)) hown (mvT hZ (wi hw 18 rfl)) (mvT hZ (wi hw 19 rfl)) (notFace_of_selects (args := #[]) (mvT hZ (wi hw 21 rfl))) (mvT hZ (wi hw 21 rfl)) (mvT hZ (wi hw 20 rfl)) (by decide) (backOf (W := 0) (rm_open1 l Z a0 hw [] b103 d p0 aN kN h104 n0 (by omega) p104_E_a1 p104_F_brackets_a1 p104_F_contentStarts_a1 p104_F_closes_a1 p104_F_size_a1 c110_V_aN ne_b103_aN_111 ge106_b103) hZ (wi hw 22 rfl) (wi hw 5 rfl) (by decide) (by decide)) q107a q107c (g := (mkF mM 19 (Lc_law_gt_2_1_2 p0 p1 p2 p3 p4 d b103) [(.int p0), (.ref d), (.ref b103)])) rfl (by rw [hml]; rfl) (Steps.refl _) (argsL := [(.ref d), (.int p0)]) (rest := []) (lenOf pd_1 rfl) rfl (by show 2 * 0 + _ ≤ _; exact Nat.le_of_eq rfl) (hb hby at_19) (fun _ _ => ⟨rfl, e104, Nat.le_of_ble_eq_true rfl, Nat.le_of_ble_eq_true rfl⟩)
  dsimp only [Pt.U, Pt.locs, Pt.cells, Pt.slots] at X107 l107 y107 z107 st107 hQ107
  subst l107 y107 z107
  obtain ⟨h107, e107⟩ : ∃ z, T107.heap = z := ⟨_, rfl⟩
  rw [e107] at hQ107
  obtain ⟨b1_107, b2_107, k1_107, k2_107, rfl, N107q, Kp107, p107_E_a1, p107_F_brackets_a1, p107_F_contentStarts_a1, p107_F_closes_a1, p107_F_size_a1, p107_V_b1, p107_V_b2, p107_gh_b1, p107_gh_b2, p107_ne_b1_b2⟩ := hQ107
  have Sz3 : h104.size ≤ h107.size := Kp107.1
  have N107 := Fr.app N104 N107q
  have lt_b1_107 : @LT.lt Nat _ b1_107 h107.size := p107_V_b1.lt
  have ne_b103_b1_107_113 : b103 ≠ b1_107 := (by omega : @Ne Nat b103 b1_107)
  have lt_b2_107 : @LT.lt Nat _ b2_107 h107.size := p107_V_b2.lt
  have ne_b103_b2_107_114 : b103 ≠ b2_107 := (by omega : @Ne Nat b103 b2_107)
  have ge115_b1_107 : @LE.le Nat _ n0 b1_107 := by omega
  have ge116_b2_107 : @LE.le Nat _ n0 b2_107 := by omega
  obtain ⟨cq112, kq112, q112a, q112b, q112c⟩ := isOf hZ e107 p107_E_a1
  obtain ⟨_, _, ⟨T112, L112, k112, n112⟩, -, X112, ⟨Lc112, hQ112, l112, y112, z112⟩, st112⟩ := X107.virtualBack hx (y := (⟨"com/example/macroweave/macroweave/BracketPairs", "opened", "(Lcom/example/macroweave/macroweave/Brackets;I)I"⟩ : MethodName)) (z := (⟨"com/example/macroweave/macroweave/BracketPairs", "opened", "(Lcom/example/macroweave/macroweave/Brackets;I)I"⟩ : MethodName)) hown (mvT hZ (wi hw 18 rfl)) (mvT hZ (wi hw 19 rfl)) (notFace_of_selects (args := #[]) (mvT hZ (wi hw 21 rfl))) (mvT hZ (wi hw 21 rfl)) (mvT hZ (wi hw 20 rfl)) (by decide) (backOf (W := 0) (rm_open2 l Z a0 hw [] b103 d p1 p0 b1_107 b2_107 k1_107 k2_107 h107 n0 (by omega) p107_E_a1 p107_F_brackets_a1 p107_F_contentStarts_a1 p107_F_closes_a1 p107_F_size_a1 p107_V_b1 p107_V_b2 ne_b103_b1_107_113 ne_b103_b2_107_114 p107_ne_b1_b2 ge106_b103 ge115_b1_107 ge116_b2_107 hc37_112) hZ (wi hw 22 rfl) (wi hw 5 rfl) (by decide) (by decide)) q112a q112c (g := (mkF mM 29 (Lc_law_gt_2_1_3 p0 p1 p2 p3 p4 d b103) [(.int p1), (.ref d), (.ref b103)])) rfl (by rw [hml]; rfl) (Steps.refl _) (argsL := [(.ref d), (.int p1)]) (rest := []) (lenOf pd_1 rfl) rfl (by show 2 * 0 + _ ≤ _; exact Nat.le_of_eq rfl) (hb hby at_29) (fun _ _ => ⟨rfl, e107, Nat.le_of_ble_eq_true rfl, Nat.le_of_ble_eq_true rfl⟩)
  dsimp only [Pt.U, Pt.locs, Pt.cells, Pt.slots] at X112 l112 y112 z112 st112 hQ112
  subst l112 y112 z112
  obtain ⟨h112, e112⟩ : ∃ z, T112.heap = z := ⟨_, rfl⟩
  rw [e112] at hQ112
  obtain ⟨rfl, N112q, Kp112, p112_E_a1, p112_F_brackets_a1, p112_F_contentStarts_a1, p112_F_closes_a1, p112_F_size_a1, p112_V_b1, p112_V_b2⟩ := hQ112
  have Sz4 : h107.size ≤ h112.size := Kp112.1
  have N112 := Fr.app N107 N112q
  obtain ⟨cq117, kq117, q117a, q117b, q117c⟩ := isOf hZ e112 p112_E_a1
  obtain ⟨_, _, ⟨T117, L117, k117, n117⟩, -, X117, ⟨Lc117, hQ117, l117, y117, z117⟩, st117⟩ := X112.virtualBack hx (y := (⟨"com/example/macroweave/macroweave/BracketPairs", "closed", "(II)V"⟩ : MethodName)) (z := (⟨"com/example/macroweave/macroweave/BracketPairs", "closed", "(II)V"⟩ : MethodName)) hown (mvT hZ (wi hw 43 rfl)) (mvT hZ (wi hw 44 rfl)) (notFace_of_selects (args := #[]) (mvT hZ (wi hw 46 rfl))) (mvT hZ (wi hw 46 rfl)) (mvT hZ (wi hw 45 rfl)) (by decide) (backOf (W := 0) (rm_closedn l Z a0 hw [] b103 p2 h112 n0 (by omega) ) hZ (wi hw 47 rfl) (wi hw 5 rfl) (by decide) (by decide)) q117a q117c (g := (mkF mM 109 (Lc_law_gt_2_1_7 p0 p1 p2 p3 p4 d b103) [(.int p2), (.int (-1 : Int32)), (.ref b103)])) rfl (by rw [hml]; rfl) (Steps.refl _) (argsL := [(.int (-1 : Int32)), (.int p2)]) (rest := []) (lenOf pd_5 rfl) rfl (by show 2 * 0 + _ ≤ _; exact Nat.le_of_eq rfl) (hb hby at_109) (fun _ _ => ⟨rfl, e112, Nat.le_of_ble_eq_true rfl, Nat.le_of_ble_eq_true rfl⟩)
  dsimp only [Pt.U, Pt.locs, Pt.cells, Pt.slots] at X117 l117 y117 z117 st117 hQ117
  subst l117 y117 z117
  obtain ⟨h117, e117⟩ : ∃ z, T117.heap = z := ⟨_, rfl⟩
  rw [e117] at hQ117
  obtain ⟨rfl, N117q, eq117⟩ := hQ117
  rw [eq117] at e117
  have N117 := Fr.app N112 N117q
  obtain ⟨cq118, kq118, q118a, q118b, q118c⟩ := isOf hZ e117 p112_E_a1
  obtain ⟨_, _, ⟨T118, L118, k118, n118⟩, -, X118, ⟨Lc118, hQ118, l118, y118, z118⟩, st118⟩ := X117.virtualBack hx (y := (⟨"com/example/macroweave/macroweave/BracketPairs", "closed", "(II)V"⟩ : MethodName)) (z := (⟨"com/example/macroweave/macroweave/BracketPairs", "closed", "(II)V"⟩ : MethodName)) hown (mvT hZ (wi hw 43 rfl)) (mvT hZ (wi hw 44 rfl)) (notFace_of_selects (args := #[]) (mvT hZ (wi hw 46 rfl))) (mvT hZ (wi hw 46 rfl)) (mvT hZ (wi hw 45 rfl)) (by decide) (backOf (W := 0) (rm_closed0 l Z a0 hw [] b103 p3 b2_107 k2_107 (-1 : Int32) (-1 : Int32) h112 n0 (by omega) p112_E_a1 p112_F_closes_a1 p112_V_b2 ne_b103_b2_107_114 ge116_b2_107) hZ (wi hw 47 rfl) (wi hw 5 rfl) (by decide) (by decide)) q118a q118c (g := (mkF mM 122 (Lc_law_gt_2_1_7 p0 p1 p2 p3 p4 d b103) [(.int p3), (.int (0 : Int32)), (.ref b103)])) rfl (by rw [hml]; rfl) (Steps.refl _) (argsL := [(.int (0 : Int32)), (.int p3)]) (rest := []) (lenOf pd_5 rfl) rfl (by show 2 * 0 + _ ≤ _; exact Nat.le_of_eq rfl) (hb hby at_122) (fun _ _ => ⟨rfl, e117, Nat.le_of_ble_eq_true rfl, Nat.le_of_ble_eq_true rfl⟩)
  dsimp only [Pt.U, Pt.locs, Pt.cells, Pt.slots] at X118 l118 y118 z118 st118 hQ118
  subst l118 y118 z118
  obtain ⟨h118, e118⟩ : ∃ z, T118.heap = z := ⟨_, rfl⟩
  rw [e118] at hQ118
  obtain ⟨rfl, N118q, Kp118, p118_V_b2⟩ := hQ118
  have Sz5 : h112.size ≤ h118.size := Kp118.1
  have N118 := Fr.app N117 N118q
  have c120_F_brackets_b103 : Fld Z h118 b103 "com/example/macroweave/macroweave/BracketPairs" "brackets" "Lcom/example/macroweave/macroweave/Brackets;" (.ref d) := p112_F_brackets_a1.keep Kp118 (ninS ne_b103_b2_107_114 nin0)
  have c121_F_contentStarts_b103 : Fld Z h118 b103 "com/example/macroweave/macroweave/BracketPairs" "contentStarts" "[I" (.ref b1_107) := p112_F_contentStarts_a1.keep Kp118 (ninS ne_b103_b2_107_114 nin0)
  have c122_F_closes_b103 : Fld Z h118 b103 "com/example/macroweave/macroweave/BracketPairs" "closes" "[I" (.ref b2_107) := p112_F_closes_a1.keep Kp118 (ninS ne_b103_b2_107_114 nin0)
  have c123_F_size_b103 : Fld Z h118 b103 "com/example/macroweave/macroweave/BracketPairs" "size" "I" (.int (2 : Int32)) := p112_F_size_a1.keep Kp118 (ninS ne_b103_b2_107_114 nin0)
  have c124_V_b1_107 : Arv Z h118 b1_107 k1_107 .int (4 : Int32) [(.int p0), (.int p1), (.int (0 : Int32)), (.int (0 : Int32))] (.int (0 : Int32)) := p112_V_b1.keep Kp118 (ninS p107_ne_b1_b2 nin0)
  have c125_E_b103 : Exa Z h118 b103 "com/example/macroweave/macroweave/BracketPairs" := p112_E_a1.keep Kp118
  obtain ⟨cq119, kq119, q119a, q119b, q119c⟩ := isOf hZ e118 c125_E_b103
  obtain ⟨_, _, ⟨T119, L119, k119, n119⟩, -, X119, ⟨Lc119, hQ119, l119, y119, z119⟩, st119⟩ := X118.virtualBack hx (y := (⟨"com/example/macroweave/macroweave/BracketPairs", "close", "(Lcom/example/macroweave/macroweave/Brackets;I)I"⟩ : MethodName)) (z := (⟨"com/example/macroweave/macroweave/BracketPairs", "close", "(Lcom/example/macroweave/macroweave/Brackets;I)I"⟩ : MethodName)) hown (mvT hZ (wi hw 48 rfl)) (mvT hZ (wi hw 49 rfl)) (notFace_of_selects (args := #[]) (mvT hZ (wi hw 51 rfl))) (mvT hZ (wi hw 51 rfl)) (mvT hZ (wi hw 50 rfl)) (by decide) (backOf (W := 0) (rm_close_2x l Z a0 hw [] b103 d b1_107 k1_107 p0 p1 b2_107 k2_107 p3 (-1 : Int32) h118 n0 (by omega) c120_F_brackets_b103 c121_F_contentStarts_b103 c122_F_closes_b103 c123_F_size_b103 c124_V_b1_107 p118_V_b2) hZ (wi hw 52 rfl) (wi hw 5 rfl) (by decide) (by decide)) q119a q119c (g := (mkF mM 187 (Lc_law_gt_2_1_9 p0 p1 p2 p3 p4 d b103) [(.int p0), (.ref d), (.ref b103)])) rfl (by rw [hml]; rfl) (Steps.refl _) (argsL := [(.ref d), (.int p0)]) (rest := []) (lenOf pd_1 rfl) rfl (by show 2 * 0 + _ ≤ _; exact Nat.le_of_eq rfl) (hb hby at_187) (fun _ _ => ⟨rfl, e118, Nat.le_of_ble_eq_true rfl, Nat.le_of_ble_eq_true rfl⟩)
  dsimp only [Pt.U, Pt.locs, Pt.cells, Pt.slots] at X119 l119 y119 z119 st119 hQ119
  subst l119 y119 z119
  obtain ⟨h119, e119⟩ : ∃ z, T119.heap = z := ⟨_, rfl⟩
  rw [e119] at hQ119
  obtain ⟨rfl, N119q, eq119⟩ := hQ119
  rw [eq119] at e119
  have N119 := Fr.app N118 N119q
  obtain ⟨cq126, kq126, q126a, q126b, q126c⟩ := isOf hZ e119 c125_E_b103
  obtain ⟨_, _, ⟨T126, L126, k126, n126⟩, -, X126, ⟨Lc126, hQ126, l126, y126, z126⟩, st126⟩ := X119.virtualBack hx (y := (⟨"com/example/macroweave/macroweave/BracketPairs", "close", "(Lcom/example/macroweave/macroweave/Brackets;I)I"⟩ : MethodName)) (z := (⟨"com/example/macroweave/macroweave/BracketPairs", "close", "(Lcom/example/macroweave/macroweave/Brackets;I)I"⟩ : MethodName)) hown (mvT hZ (wi hw 48 rfl)) (mvT hZ (wi hw 49 rfl)) (notFace_of_selects (args := #[]) (mvT hZ (wi hw 51 rfl))) (mvT hZ (wi hw 51 rfl)) (mvT hZ (wi hw 50 rfl)) (by decide) (backOf (W := 0) (rm_close_2y l Z a0 hw [] b103 d b1_107 k1_107 p0 p1 b2_107 k2_107 p3 (-1 : Int32) h118 n0 (by omega) c120_F_brackets_b103 c121_F_contentStarts_b103 c122_F_closes_b103 c123_F_size_b103 c124_V_b1_107 p118_V_b2 hc37_112) hZ (wi hw 52 rfl) (wi hw 5 rfl) (by decide) (by decide)) q126a q126c (g := (mkF mM 200 (Lc_law_gt_2_1_9 p0 p1 p2 p3 p4 d b103) [(.int p1), (.ref d), (.ref b103)])) rfl (by rw [hml]; rfl) (Steps.refl _) (argsL := [(.ref d), (.int p1)]) (rest := []) (lenOf pd_1 rfl) rfl (by show 2 * 0 + _ ≤ _; exact Nat.le_of_eq rfl) (hb hby at_200) (fun _ _ => ⟨rfl, e119, Nat.le_of_ble_eq_true rfl, Nat.le_of_ble_eq_true rfl⟩)
  dsimp only [Pt.U, Pt.locs, Pt.cells, Pt.slots] at X126 l126 y126 z126 st126 hQ126
  subst l126 y126 z126
  obtain ⟨h126, e126⟩ : ∃ z, T126.heap = z := ⟨_, rfl⟩
  rw [e126] at hQ126
  obtain ⟨rfl, N126q, eq126⟩ := hQ126
  rw [eq126] at e126
  have N126 := Fr.app N119 N126q
  obtain ⟨fs, hr, hrun, hended, hW, hsame⟩ := X126.leave (v := some (.int (1 : Int32))) (fun h => by rw [Bd.returns] at h; cases h)
  refine ⟨_, _, pre0 _ ?_, hrun, hended, _, _, rfl, ?_, ⟨_, rfl⟩, hW, hsame.mono (by decide) (by decide)⟩
  · show SS pP eE belowS s₁ (mkF mM 0 (Lc_law_gt_2_1_0 p0 p1 p2 p3 p4) []) _
    refine st102 _ ?_
    show SS pP eE belowS T102 (mkF mM 3 (Lc_law_gt_2_1_0 p0 p1 p2 p3 p4) [(.ref d)]) _
    refine XS.astore X102.here hx rfl (hb hby at_3) rfl rfl (l' := (Lc_law_gt_2_1_1 p0 p1 p2 p3 p4 d)) rfl ?_
    show SS pP eE belowS T102 (mkF mM 5 (Lc_law_gt_2_1_1 p0 p1 p2 p3 p4 d) []) _
    refine st103 _ ?_
    show SS pP eE belowS T103 (mkF mM 8 (Lc_law_gt_2_1_1 p0 p1 p2 p3 p4 d) [(.ref b103)]) _
    refine XS.dup X103.here hx rfl (hb hby at_8) rfl rfl ?_
    show SS pP eE belowS T103 (mkF mM 9 (Lc_law_gt_2_1_1 p0 p1 p2 p3 p4 d) [(.ref b103), (.ref b103)]) _
    refine st104.trans ?_
    show SS pP eE belowS T104 (mkF mM 12 (Lc_law_gt_2_1_1 p0 p1 p2 p3 p4 d) [(.ref b103)]) _
    refine XS.astore X104.here hx rfl (hb hby at_12) rfl rfl (l' := (Lc_law_gt_2_1_2 p0 p1 p2 p3 p4 d b103)) rfl ?_
    show SS pP eE belowS T104 (mkF mM 14 (Lc_law_gt_2_1_2 p0 p1 p2 p3 p4 d b103) []) _
    refine XS.aload X104.here hx rfl (hb hby at_14) rfl rfl ?_
    show SS pP eE belowS T104 (mkF mM 16 (Lc_law_gt_2_1_2 p0 p1 p2 p3 p4 d b103) [(.ref b103)]) _
    refine XS.aload X104.here hx rfl (hb hby at_16) rfl rfl ?_
    show SS pP eE belowS T104 (mkF mM 18 (Lc_law_gt_2_1_2 p0 p1 p2 p3 p4 d b103) [(.ref d), (.ref b103)]) _
    refine XS.iloadN X104.here hx rfl (hb hby at_18) rfl ?_
    show SS pP eE belowS T104 (mkF mM 19 (Lc_law_gt_2_1_2 p0 p1 p2 p3 p4 d b103) [(.int p0), (.ref d), (.ref b103)]) _
    refine st107.trans ?_
    show SS pP eE belowS T107 (mkF mM 22 (Lc_law_gt_2_1_2 p0 p1 p2 p3 p4 d b103) [(.int (0 : Int32))]) _
    refine XS.istore X107.here hx rfl (hb hby at_22) rfl (l' := (Lc_law_gt_2_1_3 p0 p1 p2 p3 p4 d b103)) rfl ?_
    show SS pP eE belowS T107 (mkF mM 24 (Lc_law_gt_2_1_3 p0 p1 p2 p3 p4 d b103) []) _
    refine XS.aload X107.here hx rfl (hb hby at_24) rfl rfl ?_
    show SS pP eE belowS T107 (mkF mM 26 (Lc_law_gt_2_1_3 p0 p1 p2 p3 p4 d b103) [(.ref b103)]) _
    refine XS.aload X107.here hx rfl (hb hby at_26) rfl rfl ?_
    show SS pP eE belowS T107 (mkF mM 28 (Lc_law_gt_2_1_3 p0 p1 p2 p3 p4 d b103) [(.ref d), (.ref b103)]) _
    refine XS.iloadN X107.here hx rfl (hb hby at_28) rfl ?_
    show SS pP eE belowS T107 (mkF mM 29 (Lc_law_gt_2_1_3 p0 p1 p2 p3 p4 d b103) [(.int p1), (.ref d), (.ref b103)]) _
    refine st112.trans ?_
    show SS pP eE belowS T112 (mkF mM 32 (Lc_law_gt_2_1_3 p0 p1 p2 p3 p4 d b103) [(.int (1 : Int32))]) _
    refine XS.istore X112.here hx rfl (hb hby at_32) rfl (l' := (Lc_law_gt_2_1_4 p0 p1 p2 p3 p4 d b103)) rfl ?_
    show SS pP eE belowS T112 (mkF mM 34 (Lc_law_gt_2_1_4 p0 p1 p2 p3 p4 d b103) []) _
    refine XS.iload X112.here hx rfl (hb hby at_34) rfl ?_
    show SS pP eE belowS T112 (mkF mM 36 (Lc_law_gt_2_1_4 p0 p1 p2 p3 p4 d b103) [(.int (0 : Int32))]) _
    refine XS.ifYes X112.here hx rfl (pc0 := 36) (pc' := 41) rfl (hb hby at_36) rfl ((if0 _ _).trans (teq (by decide : (0 : Int32) = (0 : Int32))).1) (by decide) (by decide) ?_
    show SS pP eE belowS T112 (mkF mM 41 (Lc_law_gt_2_1_4 p0 p1 p2 p3 p4 d b103) []) _
    refine XS.iload X112.here hx rfl (hb hby at_41) rfl ?_
    show SS pP eE belowS T112 (mkF mM 43 (Lc_law_gt_2_1_4 p0 p1 p2 p3 p4 d b103) [(.int (1 : Int32))]) _
    refine XS.iloadN X112.here hx rfl (hb hby at_43) rfl ?_
    show SS pP eE belowS T112 (mkF mM 44 (Lc_law_gt_2_1_4 p0 p1 p2 p3 p4 d b103) [(.int p1), (.int (1 : Int32))]) _
    refine XS.iloadN X112.here hx rfl (hb hby at_44) rfl ?_
    show SS pP eE belowS T112 (mkF mM 45 (Lc_law_gt_2_1_4 p0 p1 p2 p3 p4 d b103) [(.int p0), (.int p1), (.int (1 : Int32))]) _
    refine XS.icmpNo X112.here hx rfl (hb hby at_45) rfl (tlt hc37_112).2.2.2 ?_
    show SS pP eE belowS T112 (mkF mM 48 (Lc_law_gt_2_1_4 p0 p1 p2 p3 p4 d b103) [(.int (1 : Int32))]) _
    refine XS.iconst X112.here hx rfl (hb hby at_48) ?_
    show SS pP eE belowS T112 (mkF mM 49 (Lc_law_gt_2_1_4 p0 p1 p2 p3 p4 d b103) [(.int (1 : Int32)), (.int (1 : Int32))]) _
    refine XS.goto X112.here hx rfl (pc0 := 49) (pc' := 53) rfl (hb hby at_49) (by decide) (by decide) ?_
    show SS pP eE belowS T112 (mkF mM 53 (Lc_law_gt_2_1_4 p0 p1 p2 p3 p4 d b103) [(.int (1 : Int32)), (.int (1 : Int32))]) _
    refine XS.icmpYes X112.here hx rfl (pc0 := 53) (pc' := 58) rfl (hb hby at_53) rfl (teq (by decide : (1 : Int32) = (1 : Int32))).1 (by decide) (by decide) ?_
    show SS pP eE belowS T112 (mkF mM 58 (Lc_law_gt_2_1_4 p0 p1 p2 p3 p4 d b103) []) _
    refine XS.iload X112.here hx rfl (hb hby at_58) rfl ?_
    show SS pP eE belowS T112 (mkF mM 60 (Lc_law_gt_2_1_4 p0 p1 p2 p3 p4 d b103) [(.int p4)]) _
    refine XS.iconst X112.here hx rfl (hb hby at_60) ?_
    show SS pP eE belowS T112 (mkF mM 61 (Lc_law_gt_2_1_4 p0 p1 p2 p3 p4 d b103) [(.int (3 : Int32)), (.int p4)]) _
    refine XS.iand X112.here hx rfl (hb hby at_61) rfl ?_
    show SS pP eE belowS T112 (mkF mM 62 (Lc_law_gt_2_1_4 p0 p1 p2 p3 p4 d b103) [(.int (p4 &&& (3 : Int32)))]) _
    refine XS.istore X112.here hx rfl (hb hby at_62) rfl (l' := (Lc_law_gt_2_1_5 p0 p1 p2 p3 p4 d b103)) rfl ?_
    show SS pP eE belowS T112 (mkF mM 64 (Lc_law_gt_2_1_5 p0 p1 p2 p3 p4 d b103) []) _
    refine XS.iload X112.here hx rfl (hb hby at_64) rfl ?_
    show SS pP eE belowS T112 (mkF mM 66 (Lc_law_gt_2_1_5 p0 p1 p2 p3 p4 d b103) [(.int (p4 &&& (3 : Int32)))]) _
    refine XS.ifYes X112.here hx rfl (pc0 := 66) (pc' := 74) rfl (hb hby at_66) rfl ((if0 _ _).trans (feq hc66).2) (by decide) (by decide) ?_
    show SS pP eE belowS T112 (mkF mM 74 (Lc_law_gt_2_1_5 p0 p1 p2 p3 p4 d b103) []) _
    refine XS.iload X112.here hx rfl (hb hby at_74) rfl ?_
    show SS pP eE belowS T112 (mkF mM 76 (Lc_law_gt_2_1_5 p0 p1 p2 p3 p4 d b103) [(.int (p4 &&& (3 : Int32)))]) _
    refine XS.iconst X112.here hx rfl (hb hby at_76) ?_
    show SS pP eE belowS T112 (mkF mM 77 (Lc_law_gt_2_1_5 p0 p1 p2 p3 p4 d b103) [(.int (1 : Int32)), (.int (p4 &&& (3 : Int32)))]) _
    refine XS.icmpYes X112.here hx rfl (pc0 := 77) (pc' := 85) rfl (hb hby at_77) rfl (feq hc77).2 (by decide) (by decide) ?_
    show SS pP eE belowS T112 (mkF mM 85 (Lc_law_gt_2_1_5 p0 p1 p2 p3 p4 d b103) []) _
    refine XS.iconst X112.here hx rfl (hb hby at_85) ?_
    show SS pP eE belowS T112 (mkF mM 86 (Lc_law_gt_2_1_5 p0 p1 p2 p3 p4 d b103) [(.int (-1 : Int32))]) _
    refine XS.istore X112.here hx rfl (hb hby at_86) rfl (l' := (Lc_law_gt_2_1_6 p0 p1 p2 p3 p4 d b103)) rfl ?_
    show SS pP eE belowS T112 (mkF mM 88 (Lc_law_gt_2_1_6 p0 p1 p2 p3 p4 d b103) []) _
    refine XS.iload X112.here hx rfl (hb hby at_88) rfl ?_
    show SS pP eE belowS T112 (mkF mM 90 (Lc_law_gt_2_1_6 p0 p1 p2 p3 p4 d b103) [(.int p4)]) _
    refine XS.iconst X112.here hx rfl (hb hby at_90) ?_
    show SS pP eE belowS T112 (mkF mM 91 (Lc_law_gt_2_1_6 p0 p1 p2 p3 p4 d b103) [(.int (2 : Int32)), (.int p4)]) _
    refine XS.ishr X112.here hx rfl (hb hby at_91) rfl ?_
    show SS pP eE belowS T112 (mkF mM 92 (Lc_law_gt_2_1_6 p0 p1 p2 p3 p4 d b103) [(.int (p4 >>> ((2 : Int32) &&& 31)))]) _
    refine XS.iconst X112.here hx rfl (hb hby at_92) ?_
    show SS pP eE belowS T112 (mkF mM 93 (Lc_law_gt_2_1_6 p0 p1 p2 p3 p4 d b103) [(.int (1 : Int32)), (.int (p4 >>> ((2 : Int32) &&& 31)))]) _
    refine XS.iand X112.here hx rfl (hb hby at_93) rfl ?_
    show SS pP eE belowS T112 (mkF mM 94 (Lc_law_gt_2_1_6 p0 p1 p2 p3 p4 d b103) [(.int ((p4 >>> ((2 : Int32) &&& 31)) &&& (1 : Int32)))]) _
    refine XS.ifNo X112.here hx rfl (hb hby at_94) rfl ((if0 _ _).trans (feq hc94).1) ?_
    show SS pP eE belowS T112 (mkF mM 97 (Lc_law_gt_2_1_6 p0 p1 p2 p3 p4 d b103) []) _
    refine XS.iconst X112.here hx rfl (hb hby at_97) ?_
    show SS pP eE belowS T112 (mkF mM 98 (Lc_law_gt_2_1_6 p0 p1 p2 p3 p4 d b103) [(.int (1 : Int32))]) _
    refine XS.goto X112.here hx rfl (pc0 := 98) (pc' := 102) rfl (hb hby at_98) (by decide) (by decide) ?_
    show SS pP eE belowS T112 (mkF mM 102 (Lc_law_gt_2_1_6 p0 p1 p2 p3 p4 d b103) [(.int (1 : Int32))]) _
    refine XS.istore X112.here hx rfl (hb hby at_102) rfl (l' := (Lc_law_gt_2_1_7 p0 p1 p2 p3 p4 d b103)) rfl ?_
    show SS pP eE belowS T112 (mkF mM 104 (Lc_law_gt_2_1_7 p0 p1 p2 p3 p4 d b103) []) _
    refine XS.aload X112.here hx rfl (hb hby at_104) rfl rfl ?_
    show SS pP eE belowS T112 (mkF mM 106 (Lc_law_gt_2_1_7 p0 p1 p2 p3 p4 d b103) [(.ref b103)]) _
    refine XS.iload X112.here hx rfl (hb hby at_106) rfl ?_
    show SS pP eE belowS T112 (mkF mM 108 (Lc_law_gt_2_1_7 p0 p1 p2 p3 p4 d b103) [(.int (-1 : Int32)), (.ref b103)]) _
    refine XS.iloadN X112.here hx rfl (hb hby at_108) rfl ?_
    show SS pP eE belowS T112 (mkF mM 109 (Lc_law_gt_2_1_7 p0 p1 p2 p3 p4 d b103) [(.int p2), (.int (-1 : Int32)), (.ref b103)]) _
    refine st117.trans ?_
    show SS pP eE belowS T117 (mkF mM 112 (Lc_law_gt_2_1_7 p0 p1 p2 p3 p4 d b103) []) _
    refine XS.iload X117.here hx rfl (hb hby at_112) rfl ?_
    show SS pP eE belowS T117 (mkF mM 114 (Lc_law_gt_2_1_7 p0 p1 p2 p3 p4 d b103) [(.int (1 : Int32))]) _
    refine XS.ifNo X117.here hx rfl (hb hby at_114) rfl ((if0 _ _).trans (feq (by decide : ¬ ((1 : Int32) = (0 : Int32)))).1) ?_
    show SS pP eE belowS T117 (mkF mM 117 (Lc_law_gt_2_1_7 p0 p1 p2 p3 p4 d b103) []) _
    refine XS.aload X117.here hx rfl (hb hby at_117) rfl rfl ?_
    show SS pP eE belowS T117 (mkF mM 119 (Lc_law_gt_2_1_7 p0 p1 p2 p3 p4 d b103) [(.ref b103)]) _
    refine XS.iload X117.here hx rfl (hb hby at_119) rfl ?_
    show SS pP eE belowS T117 (mkF mM 121 (Lc_law_gt_2_1_7 p0 p1 p2 p3 p4 d b103) [(.int (0 : Int32)), (.ref b103)]) _
    refine XS.iloadN X117.here hx rfl (hb hby at_121) rfl ?_
    show SS pP eE belowS T117 (mkF mM 122 (Lc_law_gt_2_1_7 p0 p1 p2 p3 p4 d b103) [(.int p3), (.int (0 : Int32)), (.ref b103)]) _
    refine st118.trans ?_
    show SS pP eE belowS T118 (mkF mM 125 (Lc_law_gt_2_1_7 p0 p1 p2 p3 p4 d b103) []) _
    refine XS.iload X118.here hx rfl (hb hby at_125) rfl ?_
    show SS pP eE belowS T118 (mkF mM 127 (Lc_law_gt_2_1_7 p0 p1 p2 p3 p4 d b103) [(.int (1 : Int32))]) _
    refine XS.ifNo X118.here hx rfl (hb hby at_127) rfl ((if0 _ _).trans (feq (by decide : ¬ ((1 : Int32) = (0 : Int32)))).1) ?_
    show SS pP eE belowS T118 (mkF mM 130 (Lc_law_gt_2_1_7 p0 p1 p2 p3 p4 d b103) []) _
    refine XS.iloadN X118.here hx rfl (hb hby at_130) rfl ?_
    show SS pP eE belowS T118 (mkF mM 131 (Lc_law_gt_2_1_7 p0 p1 p2 p3 p4 d b103) [(.int p3)]) _
    refine XS.goto X118.here hx rfl (pc0 := 131) (pc' := 144) rfl (hb hby at_131) (by decide) (by decide) ?_
    show SS pP eE belowS T118 (mkF mM 144 (Lc_law_gt_2_1_7 p0 p1 p2 p3 p4 d b103) [(.int p3)]) _
    refine XS.istore X118.here hx rfl (hb hby at_144) rfl (l' := (Lc_law_gt_2_1_8 p0 p1 p2 p3 p4 d b103)) rfl ?_
    show SS pP eE belowS T118 (mkF mM 146 (Lc_law_gt_2_1_8 p0 p1 p2 p3 p4 d b103) []) _
    refine XS.iloadN X118.here hx rfl (hb hby at_146) rfl ?_
    show SS pP eE belowS T118 (mkF mM 147 (Lc_law_gt_2_1_8 p0 p1 p2 p3 p4 d b103) [(.int p1)]) _
    refine XS.iloadN X118.here hx rfl (hb hby at_147) rfl ?_
    show SS pP eE belowS T118 (mkF mM 148 (Lc_law_gt_2_1_8 p0 p1 p2 p3 p4 d b103) [(.int p0), (.int p1)]) _
    refine XS.icmpNo X118.here hx rfl (hb hby at_148) rfl (tlt hc37_112).2.2.2 ?_
    show SS pP eE belowS T118 (mkF mM 151 (Lc_law_gt_2_1_8 p0 p1 p2 p3 p4 d b103) []) _
    refine XS.iload X118.here hx rfl (hb hby at_151) rfl ?_
    show SS pP eE belowS T118 (mkF mM 153 (Lc_law_gt_2_1_8 p0 p1 p2 p3 p4 d b103) [(.int (-1 : Int32))]) _
    refine XS.iconst X118.here hx rfl (hb hby at_153) ?_
    show SS pP eE belowS T118 (mkF mM 154 (Lc_law_gt_2_1_8 p0 p1 p2 p3 p4 d b103) [(.int (1 : Int32)), (.int (-1 : Int32))]) _
    refine XS.icmpYes X118.here hx rfl (pc0 := 154) (pc' := 161) rfl (hb hby at_154) rfl (feq (by decide : ¬ ((-1 : Int32) = (1 : Int32)))).2 (by decide) (by decide) ?_
    show SS pP eE belowS T118 (mkF mM 161 (Lc_law_gt_2_1_8 p0 p1 p2 p3 p4 d b103) []) _
    refine XS.iconst X118.here hx rfl (hb hby at_161) ?_
    show SS pP eE belowS T118 (mkF mM 162 (Lc_law_gt_2_1_8 p0 p1 p2 p3 p4 d b103) [(.int (-1 : Int32))]) _
    refine XS.istore X118.here hx rfl (hb hby at_162) rfl (l' := (Lc_law_gt_2_1_9 p0 p1 p2 p3 p4 d b103)) rfl ?_
    show SS pP eE belowS T118 (mkF mM 164 (Lc_law_gt_2_1_9 p0 p1 p2 p3 p4 d b103) []) _
    refine XS.goto X118.here hx rfl (pc0 := 164) (pc' := 182) rfl (hb hby at_164) (by decide) (by decide) ?_
    show SS pP eE belowS T118 (mkF mM 182 (Lc_law_gt_2_1_9 p0 p1 p2 p3 p4 d b103) []) _
    refine XS.aload X118.here hx rfl (hb hby at_182) rfl rfl ?_
    show SS pP eE belowS T118 (mkF mM 184 (Lc_law_gt_2_1_9 p0 p1 p2 p3 p4 d b103) [(.ref b103)]) _
    refine XS.aload X118.here hx rfl (hb hby at_184) rfl rfl ?_
    show SS pP eE belowS T118 (mkF mM 186 (Lc_law_gt_2_1_9 p0 p1 p2 p3 p4 d b103) [(.ref d), (.ref b103)]) _
    refine XS.iloadN X118.here hx rfl (hb hby at_186) rfl ?_
    show SS pP eE belowS T118 (mkF mM 187 (Lc_law_gt_2_1_9 p0 p1 p2 p3 p4 d b103) [(.int p0), (.ref d), (.ref b103)]) _
    refine st119.trans ?_
    show SS pP eE belowS T119 (mkF mM 190 (Lc_law_gt_2_1_9 p0 p1 p2 p3 p4 d b103) [(.int p3)]) _
    refine XS.iload X119.here hx rfl (hb hby at_190) rfl ?_
    show SS pP eE belowS T119 (mkF mM 192 (Lc_law_gt_2_1_9 p0 p1 p2 p3 p4 d b103) [(.int p3), (.int p3)]) _
    refine XS.icmpNo X119.here hx rfl (hb hby at_192) rfl (teq (rfl : p3 = p3)).2 ?_
    show SS pP eE belowS T119 (mkF mM 195 (Lc_law_gt_2_1_9 p0 p1 p2 p3 p4 d b103) []) _
    refine XS.aload X119.here hx rfl (hb hby at_195) rfl rfl ?_
    show SS pP eE belowS T119 (mkF mM 197 (Lc_law_gt_2_1_9 p0 p1 p2 p3 p4 d b103) [(.ref b103)]) _
    refine XS.aload X119.here hx rfl (hb hby at_197) rfl rfl ?_
    show SS pP eE belowS T119 (mkF mM 199 (Lc_law_gt_2_1_9 p0 p1 p2 p3 p4 d b103) [(.ref d), (.ref b103)]) _
    refine XS.iloadN X119.here hx rfl (hb hby at_199) rfl ?_
    show SS pP eE belowS T119 (mkF mM 200 (Lc_law_gt_2_1_9 p0 p1 p2 p3 p4 d b103) [(.int p1), (.ref d), (.ref b103)]) _
    refine st126.trans ?_
    show SS pP eE belowS T126 (mkF mM 203 (Lc_law_gt_2_1_9 p0 p1 p2 p3 p4 d b103) [(.int (-1 : Int32))]) _
    refine XS.iload X126.here hx rfl (hb hby at_203) rfl ?_
    show SS pP eE belowS T126 (mkF mM 205 (Lc_law_gt_2_1_9 p0 p1 p2 p3 p4 d b103) [(.int (-1 : Int32)), (.int (-1 : Int32))]) _
    refine XS.icmpNo X126.here hx rfl (hb hby at_205) rfl (teq (by decide : (-1 : Int32) = (-1 : Int32))).2 ?_
    show SS pP eE belowS T126 (mkF mM 208 (Lc_law_gt_2_1_9 p0 p1 p2 p3 p4 d b103) []) _
    refine XS.iconst X126.here hx rfl (hb hby at_208) ?_
    show SS pP eE belowS T126 (mkF mM 209 (Lc_law_gt_2_1_9 p0 p1 p2 p3 p4 d b103) [(.int (1 : Int32))]) _
    refine XS.goto X126.here hx rfl (pc0 := 209) (pc' := 213) rfl (hb hby at_209) (by decide) (by decide) ?_
    show SS pP eE belowS T126 (mkF mM 213 (Lc_law_gt_2_1_9 p0 p1 p2 p3 p4 d b103) [(.int (1 : Int32))]) _
    exact retN X126 hx (t := .boolean) Bd.returns (by simp) (hb hby at_213) hr
  · exact ⟨rfl, N126⟩

abbrev Lc_law_eq_0_0_0 (p0 : Int32) (p2 : Int32) (p3 : Int32) (p4 : Int32) : Array Slot := #[.val (.int p0), .val (.int p0), .val (.int p2), .val (.int p3), .val (.int p4), .unset, .unset, .unset, .unset, .unset, .unset, .unset, .unset, .unset]
abbrev Lc_law_eq_0_0_1 (p0 : Int32) (p2 : Int32) (p3 : Int32) (p4 : Int32) (d : Addr) : Array Slot := #[.val (.int p0), .val (.int p0), .val (.int p2), .val (.int p3), .val (.int p4), .val (.ref d), .unset, .unset, .unset, .unset, .unset, .unset, .unset, .unset]
abbrev Lc_law_eq_0_0_2 (p0 : Int32) (p2 : Int32) (p3 : Int32) (p4 : Int32) (d : Addr) (b103 : Addr) : Array Slot := #[.val (.int p0), .val (.int p0), .val (.int p2), .val (.int p3), .val (.int p4), .val (.ref d), .val (.ref b103), .unset, .unset, .unset, .unset, .unset, .unset, .unset]
abbrev Lc_law_eq_0_0_3 (p0 : Int32) (p2 : Int32) (p3 : Int32) (p4 : Int32) (d : Addr) (b103 : Addr) : Array Slot := #[.val (.int p0), .val (.int p0), .val (.int p2), .val (.int p3), .val (.int p4), .val (.ref d), .val (.ref b103), .val (.int (0 : Int32)), .unset, .unset, .unset, .unset, .unset, .unset]
abbrev Lc_law_eq_0_0_4 (p0 : Int32) (p2 : Int32) (p3 : Int32) (p4 : Int32) (d : Addr) (b103 : Addr) : Array Slot := #[.val (.int p0), .val (.int p0), .val (.int p2), .val (.int p3), .val (.int p4), .val (.ref d), .val (.ref b103), .val (.int (0 : Int32)), .val (.int (-1 : Int32)), .unset, .unset, .unset, .unset, .unset]
abbrev Lc_law_eq_0_0_5 (p0 : Int32) (p2 : Int32) (p3 : Int32) (p4 : Int32) (d : Addr) (b103 : Addr) : Array Slot := #[.val (.int p0), .val (.int p0), .val (.int p2), .val (.int p3), .val (.int p4), .val (.ref d), .val (.ref b103), .val (.int (0 : Int32)), .val (.int (-1 : Int32)), .val (.int (p4 &&& (3 : Int32))), .unset, .unset, .unset, .unset]
abbrev Lc_law_eq_0_0_6 (p0 : Int32) (p2 : Int32) (p3 : Int32) (p4 : Int32) (d : Addr) (b103 : Addr) : Array Slot := #[.val (.int p0), .val (.int p0), .val (.int p2), .val (.int p3), .val (.int p4), .val (.ref d), .val (.ref b103), .val (.int (0 : Int32)), .val (.int (-1 : Int32)), .val (.int (p4 &&& (3 : Int32))), .val (.int (0 : Int32)), .unset, .unset, .unset]
abbrev Lc_law_eq_0_0_7 (p0 : Int32) (p2 : Int32) (p3 : Int32) (p4 : Int32) (d : Addr) (b103 : Addr) : Array Slot := #[.val (.int p0), .val (.int p0), .val (.int p2), .val (.int p3), .val (.int p4), .val (.ref d), .val (.ref b103), .val (.int (0 : Int32)), .val (.int (-1 : Int32)), .val (.int (p4 &&& (3 : Int32))), .val (.int (0 : Int32)), .val (.int (0 : Int32)), .unset, .unset]
abbrev Lc_law_eq_0_0_8 (p0 : Int32) (p2 : Int32) (p3 : Int32) (p4 : Int32) (d : Addr) (b103 : Addr) : Array Slot := #[.val (.int p0), .val (.int p0), .val (.int p2), .val (.int p3), .val (.int p4), .val (.ref d), .val (.ref b103), .val (.int (0 : Int32)), .val (.int (-1 : Int32)), .val (.int (p4 &&& (3 : Int32))), .val (.int (0 : Int32)), .val (.int (0 : Int32)), .val (.int p2), .unset]
abbrev Lc_law_eq_0_0_9 (p0 : Int32) (p2 : Int32) (p3 : Int32) (p4 : Int32) (d : Addr) (b103 : Addr) : Array Slot := #[.val (.int p0), .val (.int p0), .val (.int p2), .val (.int p3), .val (.int p4), .val (.ref d), .val (.ref b103), .val (.int (0 : Int32)), .val (.int (-1 : Int32)), .val (.int (p4 &&& (3 : Int32))), .val (.int (0 : Int32)), .val (.int (0 : Int32)), .val (.int p2), .val (.int p2)]
theorem ef_law_eq_0_0 (mM : MethodId) (p0 : Int32) (p2 : Int32) (p3 : Int32) (p4 : Int32) (aN : Addr) (kN : ClassId) (d : Addr) : entryFrame mM #[(.int p0), (.int p0), (.int p2), (.int p3), (.int p4)] maxLocals = mkF mM 0 #[.val (.int p0), .val (.int p0), .val (.int p2), .val (.int p3), .val (.int p4), .unset, .unset, .unset, .unset, .unset, .unset, .unset, .unset, .unset] [] := by first | (simp [entryFrame, mkF, argsToLocals, Value.category, maxLocals]; done) | rfl
set_option maxRecDepth 65536 in
set_option maxHeartbeats 40000000 in
theorem rm_law_eq_0_0 (l : Launch) (Z : State) (a0 : Array Value) (hw : ∀ d ∈ tables_1, d.before a0 Z = true) (ws : List Jvm.Cond) (p0 : Int32) (p2 : Int32) (p3 : Int32) (p4 : Int32) (aN : Addr) (kN : ClassId) (d : Addr) (h0 : Heap) (n0 : Nat) (Z0 : n0 ≤ h0.size) (OL : Old Z n0 h0) (S_DEFAULT : Sta Z Z.heap "com/example/macroweave/macroweave/Brackets" "DEFAULT" "Lcom/example/macroweave/macroweave/Brackets;" (.ref d)) (S_NONE : Sta Z Z.heap "com/example/macroweave/macroweave/BracketPairs" "NONE" "[I" (.ref aN)) (V_aN : Arv Z h0 aN kN .int (0 : Int32) [] (.int (0 : Int32))) (hc66 : (p4 &&& (3 : Int32)) = (0 : Int32)) (hc94 : ((p4 >>> ((2 : Int32) &&& 31)) &&& (1 : Int32)) = (0 : Int32)) :
    MetFree l x (head1 (Jvm.Cond.code x code maxLocals ret :: ws) room_1) (fun xa xU => xa = #[(.int p0), (.int p0), (.int p2), (.int p3), (.int p4)] ∧ Z.Warmed39 xU.vm ∧ xU.heap = h0) (fun _ _ _ _ _ => True) (fun _ xU xo xU' => ∃ xv xL, xo = .returned xv ∧ Q_law n0 xv xL ∧ FrameEnd xU xo xU' xL room_1.cells room_1.slots) := by
  refine MetFree.of_bodySF (plainFor_of_name pn_com_example_macroweave_macroweave_BracketPairsClosedPinLaw) hisR ?_
  intro pP eE sS mM argS belowS methS cC s₁ Bd hml0 hP hK
  obtain ⟨rfl, hZ, hh⟩ := hP
  have hx := Bd.exec
  have hby := Bd.bytes
  have hml : cC.maxLocals = 14 := hml0
  have hown : sS.vm.findClass "com/example/macroweave/macroweave/BracketPairsClosedPinLaw" = some mM.cls := findClass_of_methodNamed Bd.named
  have hnm := (name_of_methodNamed Bd.named Bd.method).1
  have X0 : Stand pP l eE room_1 sS mM #[(.int p0), (.int p0), (.int p2), (.int p3), (.int p4)] belowS methS cC s₁ [] 0 0 := Stand.of_body Bd
  have e0 : s₁.heap = h0 := by rw [← hh, Bd.state]; rfl
  have N0 := Fr.nil n0
  have pre0 : ∀ t', Steps pP.tables eE belowS (s₁.setTop (mkF mM 0 #[.val (.int p0), .val (.int p0), .val (.int p2), .val (.int p3), .val (.int p4), .unset, .unset, .unset, .unset, .unset, .unset, .unset, .unset, .unset] [])) t' → Steps pP.tables eE belowS (s₁.setTop (entryFrame mM #[(.int p0), (.int p0), (.int p2), (.int p3), (.int p4)] maxLocals)) t' := fun t' kk' => castTop (ef_law_eq_0_0 mM p0 p2 p3 p4 aN kN d) kk'
  have c101_S_DEFAULT : Sta Z h0 "com/example/macroweave/macroweave/Brackets" "DEFAULT" "Lcom/example/macroweave/macroweave/Brackets;" (.ref d) := Sta.ext OL.2 S_DEFAULT
  obtain ⟨T102, X102, e102, st102⟩ := getS2 X0 hx hZ hown (host := "") (Or.inl (wi hw 0 rfl)) Via.refl e0 c101_S_DEFAULT (g := (mkF mM 0 (Lc_law_eq_0_0_0 p0 p2 p3 p4) [])) rfl (hb hby at_0)
  obtain ⟨T103, h103, X103, e103, E103, A103, D103, B103, st103⟩ := newO X102 hx hZ hown (wi hw 3 rfl) (wi hw 4 rfl) (wi hw 5 rfl) e102 (g := (mkF mM 5 (Lc_law_eq_0_0_1 p0 p2 p3 p4 d) [])) rfl (hb hby at_5) (by decide) (by decide)
  obtain ⟨b103, g103⟩ : ∃ z : Nat, z = h0.size := ⟨_, rfl⟩
  rw [← g103] at A103 D103 B103 st103
  have Sz1 : h0.size ≤ h103.size := E103.1
  have F103_contentStarts : Fld Z h103 b103 "com/example/macroweave/macroweave/BracketPairs" "contentStarts" "[I" .null := D103 (Or.inl (wi hw 15 rfl)) (ty := (.array .int)) (by decide)
  have F103_closes : Fld Z h103 b103 "com/example/macroweave/macroweave/BracketPairs" "closes" "[I" .null := D103 (Or.inl (wi hw 17 rfl)) (ty := (.array .int)) (by decide)
  have F103_brackets : Fld Z h103 b103 "com/example/macroweave/macroweave/BracketPairs" "brackets" "Lcom/example/macroweave/macroweave/Brackets;" .null := D103 (Or.inl (wi hw 24 rfl)) (ty := (.object "com/example/macroweave/macroweave/Brackets")) (by decide)
  have F103_size : Fld Z h103 b103 "com/example/macroweave/macroweave/BracketPairs" "size" "I" (.int (0 : Int32)) := D103 (Or.inl (wi hw 26 rfl)) (ty := .int) (by decide)
  have c105_OL : Old Z n0 h103 := OL.ext E103
  have ge106_b103 : @LE.le Nat _ n0 b103 := by omega
  obtain ⟨_, _, ⟨T104, L104, k104, n104⟩, -, X104, ⟨Lc104, hQ104, l104, y104, z104⟩, st104⟩ := X103.specialBack hx (y := (⟨"com/example/macroweave/macroweave/BracketPairs", "<init>", "()V"⟩ : MethodName)) rfl hown (mvT hZ (wi hw 6 rfl)) (mvT hZ (wi hw 7 rfl)) (mvT hZ (wi hw 8 rfl)) (by decide) (backOf (W := 1) (rm_init l Z a0 hw [] b103 aN .null .null .null (.int (0 : Int32)) h103 n0 (by omega) A103 F103_contentStarts F103_closes F103_brackets F103_size ge106_b103 c105_OL S_NONE) hZ (wi hw 8 rfl) (wi hw 5 rfl) (by decide) (by decide)) (g := (mkF mM 9 (Lc_law_eq_0_0_1 p0 p2 p3 p4 d) [(.ref b103), (.ref b103)])) rfl (by rw [hml]; rfl) (Steps.refl _) (a := b103) (argsL := []) (rest := [(.ref b103)]) (lenOf pd_0 rfl) rfl (by show 2 * 0 + _ ≤ _; exact Nat.le_of_eq rfl) (hb hby at_9) (fun _ _ => ⟨rfl, e103, Nat.le_of_ble_eq_true rfl, Nat.le_of_ble_eq_true rfl⟩)
  dsimp only [Pt.U, Pt.locs, Pt.cells, Pt.slots] at X104 l104 y104 z104 st104 hQ104
  subst l104 y104 z104
  obtain ⟨h104, e104⟩ : ∃ z, T104.heap = z := ⟨_, rfl⟩
  rw [e104] at hQ104
  obtain ⟨rfl, N104q, Kp104, p104_E_a1, p104_F_contentStarts_a1, p104_F_closes_a1, p104_F_brackets_a1, p104_F_size_a1⟩ := hQ104
  have Sz2 : h103.size ≤ h104.size := Kp104.1
  have N104 := Fr.app N0 N104q
  have c108_V_aN : Arv Z h103 aN kN .int (0 : Int32) [] (.int (0 : Int32)) := V_aN.ext E103
  have lt_aN : @LT.lt Nat _ aN h0.size := V_aN.lt
  have lt_b103 : @LT.lt Nat _ b103 h104.size := p104_E_a1.lt
  have ne_aN_b103_109 : aN ≠ b103 := (by omega : @Ne Nat aN b103)
  have c110_V_aN : Arv Z h104 aN kN .int (0 : Int32) [] (.int (0 : Int32)) := c108_V_aN.keep Kp104 (ninS ne_aN_b103_109 nin0)
  have ne_b103_aN_111 : b103 ≠ aN := (by omega : @Ne Nat b103 aN)
  obtain ⟨cq107, kq107, q107a, q107b, q107c⟩ := isOf hZ e104 p104_E_a1
  obtain ⟨_, _, ⟨T107, L107, k107, n107⟩, -, X107, ⟨Lc107, hQ107, l107, y107, z107⟩, st107⟩ := X104.virtualBack hx (y := (⟨"com/example/macroweave/macroweave/BracketPairs", "opened", "(Lcom/example/macroweave/macroweave/Brackets;I)I"⟩ : MethodName)) (z := (⟨"com/example/macroweave/macroweave/BracketPairs", "opened", "(Lcom/example/macroweave/macroweave/Brackets;I)I"⟩ : MethodName)) hown (mvT hZ (wi hw 18 rfl)) (mvT hZ (wi hw 19 rfl)) (notFace_of_selects (args := #[]) (mvT hZ (wi hw 21 rfl))) (mvT hZ (wi hw 21 rfl)) (mvT hZ (wi hw 20 rfl)) (by decide) (backOf (W := 0) (rm_open1 l Z a0 hw [] b103 d p0 aN kN h104 n0 (by omega) p104_E_a1 p104_F_brackets_a1 p104_F_contentStarts_a1 p104_F_closes_a1 p104_F_size_a1 c110_V_aN ne_b103_aN_111 ge106_b103) hZ (wi hw 22 rfl) (wi hw 5 rfl) (by decide) (by decide)) q107a q107c (g := (mkF mM 19 (Lc_law_eq_0_0_2 p0 p2 p3 p4 d b103) [(.int p0), (.ref d), (.ref b103)])) rfl (by rw [hml]; rfl) (Steps.refl _) (argsL := [(.ref d), (.int p0)]) (rest := []) (lenOf pd_1 rfl) rfl (by show 2 * 0 + _ ≤ _; exact Nat.le_of_eq rfl) (hb hby at_19) (fun _ _ => ⟨rfl, e104, Nat.le_of_ble_eq_true rfl, Nat.le_of_ble_eq_true rfl⟩)
  dsimp only [Pt.U, Pt.locs, Pt.cells, Pt.slots] at X107 l107 y107 z107 st107 hQ107
  subst l107 y107 z107
  obtain ⟨h107, e107⟩ : ∃ z, T107.heap = z := ⟨_, rfl⟩
  rw [e107] at hQ107
  obtain ⟨b1_107, b2_107, k1_107, k2_107, rfl, N107q, Kp107, p107_E_a1, p107_F_brackets_a1, p107_F_contentStarts_a1, p107_F_closes_a1, p107_F_size_a1, p107_V_b1, p107_V_b2, p107_gh_b1, p107_gh_b2, p107_ne_b1_b2⟩ := hQ107
  have Sz3 : h104.size ≤ h107.size := Kp107.1
  have N107 := Fr.app N104 N107q
  have lt_b1_107 : @LT.lt Nat _ b1_107 h107.size := p107_V_b1.lt
  have ne_b103_b1_107_113 : b103 ≠ b1_107 := (by omega : @Ne Nat b103 b1_107)
  have lt_b2_107 : @LT.lt Nat _ b2_107 h107.size := p107_V_b2.lt
  have ne_b103_b2_107_114 : b103 ≠ b2_107 := (by omega : @Ne Nat b103 b2_107)
  have ge115_b1_107 : @LE.le Nat _ n0 b1_107 := by omega
  have ge116_b2_107 : @LE.le Nat _ n0 b2_107 := by omega
  obtain ⟨cq112, kq112, q112a, q112b, q112c⟩ := isOf hZ e107 p107_E_a1
  obtain ⟨_, _, ⟨T112, L112, k112, n112⟩, -, X112, ⟨Lc112, hQ112, l112, y112, z112⟩, st112⟩ := X107.virtualBack hx (y := (⟨"com/example/macroweave/macroweave/BracketPairs", "opened", "(Lcom/example/macroweave/macroweave/Brackets;I)I"⟩ : MethodName)) (z := (⟨"com/example/macroweave/macroweave/BracketPairs", "opened", "(Lcom/example/macroweave/macroweave/Brackets;I)I"⟩ : MethodName)) hown (mvT hZ (wi hw 18 rfl)) (mvT hZ (wi hw 19 rfl)) (notFace_of_selects (args := #[]) (mvT hZ (wi hw 21 rfl))) (mvT hZ (wi hw 21 rfl)) (mvT hZ (wi hw 20 rfl)) (by decide) (backOf (W := 0) (rm_open2n l Z a0 hw [] b103 d p0 p0 b1_107 b2_107 k1_107 k2_107 h107 n0 (by omega) p107_E_a1 p107_F_brackets_a1 p107_F_contentStarts_a1 p107_F_closes_a1 p107_F_size_a1 p107_V_b1 p107_V_b2 ne_b103_b1_107_113 ne_b103_b2_107_114 p107_ne_b1_b2 ge106_b103 ge115_b1_107 ge116_b2_107 (Int32.lt_irrefl)) hZ (wi hw 22 rfl) (wi hw 5 rfl) (by decide) (by decide)) q112a q112c (g := (mkF mM 29 (Lc_law_eq_0_0_3 p0 p2 p3 p4 d b103) [(.int p0), (.ref d), (.ref b103)])) rfl (by rw [hml]; rfl) (Steps.refl _) (argsL := [(.ref d), (.int p0)]) (rest := []) (lenOf pd_1 rfl) rfl (by show 2 * 0 + _ ≤ _; exact Nat.le_of_eq rfl) (hb hby at_29) (fun _ _ => ⟨rfl, e107, Nat.le_of_ble_eq_true rfl, Nat.le_of_ble_eq_true rfl⟩)
  dsimp only [Pt.U, Pt.locs, Pt.cells, Pt.slots] at X112 l112 y112 z112 st112 hQ112
  subst l112 y112 z112
  obtain ⟨h112, e112⟩ : ∃ z, T112.heap = z := ⟨_, rfl⟩
  rw [e112] at hQ112
  obtain ⟨rfl, N112q, eq112⟩ := hQ112
  rw [eq112] at e112
  have N112 := Fr.app N107 N112q
  obtain ⟨cq117, kq117, q117a, q117b, q117c⟩ := isOf hZ e112 p107_E_a1
  obtain ⟨_, _, ⟨T117, L117, k117, n117⟩, -, X117, ⟨Lc117, hQ117, l117, y117, z117⟩, st117⟩ := X112.virtualBack hx (y := (⟨"com/example/macroweave/macroweave/BracketPairs", "closed", "(II)V"⟩ : MethodName)) (z := (⟨"com/example/macroweave/macroweave/BracketPairs", "closed", "(II)V"⟩ : MethodName)) hown (mvT hZ (wi hw 43 rfl)) (mvT hZ (wi hw 44 rfl)) (notFace_of_selects (args := #[]) (mvT hZ (wi hw 46 rfl))) (mvT hZ (wi hw 46 rfl)) (mvT hZ (wi hw 45 rfl)) (by decide) (backOf (W := 0) (rm_closed0 l Z a0 hw [] b103 p2 b2_107 k2_107 (-1 : Int32) (0 : Int32) h107 n0 (by omega) p107_E_a1 p107_F_closes_a1 p107_V_b2 ne_b103_b2_107_114 ge116_b2_107) hZ (wi hw 47 rfl) (wi hw 5 rfl) (by decide) (by decide)) q117a q117c (g := (mkF mM 109 (Lc_law_eq_0_0_7 p0 p2 p3 p4 d b103) [(.int p2), (.int (0 : Int32)), (.ref b103)])) rfl (by rw [hml]; rfl) (Steps.refl _) (argsL := [(.int (0 : Int32)), (.int p2)]) (rest := []) (lenOf pd_5 rfl) rfl (by show 2 * 0 + _ ≤ _; exact Nat.le_of_eq rfl) (hb hby at_109) (fun _ _ => ⟨rfl, e112, Nat.le_of_ble_eq_true rfl, Nat.le_of_ble_eq_true rfl⟩)
  dsimp only [Pt.U, Pt.locs, Pt.cells, Pt.slots] at X117 l117 y117 z117 st117 hQ117
  subst l117 y117 z117
  obtain ⟨h117, e117⟩ : ∃ z, T117.heap = z := ⟨_, rfl⟩
  rw [e117] at hQ117
  obtain ⟨rfl, N117q, Kp117, p117_V_b2⟩ := hQ117
  have Sz4 : h107.size ≤ h117.size := Kp117.1
  have N117 := Fr.app N112 N117q
  have c119_F_brackets_b103 : Fld Z h117 b103 "com/example/macroweave/macroweave/BracketPairs" "brackets" "Lcom/example/macroweave/macroweave/Brackets;" (.ref d) := p107_F_brackets_a1.keep Kp117 (ninS ne_b103_b2_107_114 nin0)
  have c120_F_contentStarts_b103 : Fld Z h117 b103 "com/example/macroweave/macroweave/BracketPairs" "contentStarts" "[I" (.ref b1_107) := p107_F_contentStarts_a1.keep Kp117 (ninS ne_b103_b2_107_114 nin0)
  have c121_F_closes_b103 : Fld Z h117 b103 "com/example/macroweave/macroweave/BracketPairs" "closes" "[I" (.ref b2_107) := p107_F_closes_a1.keep Kp117 (ninS ne_b103_b2_107_114 nin0)
  have c122_F_size_b103 : Fld Z h117 b103 "com/example/macroweave/macroweave/BracketPairs" "size" "I" (.int (1 : Int32)) := p107_F_size_a1.keep Kp117 (ninS ne_b103_b2_107_114 nin0)
  have c123_V_b1_107 : Arv Z h117 b1_107 k1_107 .int (4 : Int32) [(.int p0), (.int (0 : Int32)), (.int (0 : Int32)), (.int (0 : Int32))] (.int (0 : Int32)) := p107_V_b1.keep Kp117 (ninS p107_ne_b1_b2 nin0)
  have c124_E_b103 : Exa Z h117 b103 "com/example/macroweave/macroweave/BracketPairs" := p107_E_a1.keep Kp117
  obtain ⟨cq118, kq118, q118a, q118b, q118c⟩ := isOf hZ e117 c124_E_b103
  obtain ⟨_, _, ⟨T118, L118, k118, n118⟩, -, X118, ⟨Lc118, hQ118, l118, y118, z118⟩, st118⟩ := X117.virtualBack hx (y := (⟨"com/example/macroweave/macroweave/BracketPairs", "close", "(Lcom/example/macroweave/macroweave/Brackets;I)I"⟩ : MethodName)) (z := (⟨"com/example/macroweave/macroweave/BracketPairs", "close", "(Lcom/example/macroweave/macroweave/Brackets;I)I"⟩ : MethodName)) hown (mvT hZ (wi hw 48 rfl)) (mvT hZ (wi hw 49 rfl)) (notFace_of_selects (args := #[]) (mvT hZ (wi hw 51 rfl))) (mvT hZ (wi hw 51 rfl)) (mvT hZ (wi hw 50 rfl)) (by decide) (backOf (W := 0) (rm_close_1x l Z a0 hw [] b103 d b1_107 k1_107 p0 b2_107 k2_107 p2 (0 : Int32) h117 n0 (by omega) c119_F_brackets_b103 c120_F_contentStarts_b103 c121_F_closes_b103 c122_F_size_b103 c123_V_b1_107 p117_V_b2) hZ (wi hw 52 rfl) (wi hw 5 rfl) (by decide) (by decide)) q118a q118c (g := (mkF mM 187 (Lc_law_eq_0_0_9 p0 p2 p3 p4 d b103) [(.int p0), (.ref d), (.ref b103)])) rfl (by rw [hml]; rfl) (Steps.refl _) (argsL := [(.ref d), (.int p0)]) (rest := []) (lenOf pd_1 rfl) rfl (by show 2 * 0 + _ ≤ _; exact Nat.le_of_eq rfl) (hb hby at_187) (fun _ _ => ⟨rfl, e117, Nat.le_of_ble_eq_true rfl, Nat.le_of_ble_eq_true rfl⟩)
  dsimp only [Pt.U, Pt.locs, Pt.cells, Pt.slots] at X118 l118 y118 z118 st118 hQ118
  subst l118 y118 z118
  obtain ⟨h118, e118⟩ : ∃ z, T118.heap = z := ⟨_, rfl⟩
  rw [e118] at hQ118
  obtain ⟨rfl, N118q, eq118⟩ := hQ118
  rw [eq118] at e118
  have N118 := Fr.app N117 N118q
  obtain ⟨cq125, kq125, q125a, q125b, q125c⟩ := isOf hZ e118 c124_E_b103
  obtain ⟨_, _, ⟨T125, L125, k125, n125⟩, -, X125, ⟨Lc125, hQ125, l125, y125, z125⟩, st125⟩ := X118.virtualBack hx (y := (⟨"com/example/macroweave/macroweave/BracketPairs", "close", "(Lcom/example/macroweave/macroweave/Brackets;I)I"⟩ : MethodName)) (z := (⟨"com/example/macroweave/macroweave/BracketPairs", "close", "(Lcom/example/macroweave/macroweave/Brackets;I)I"⟩ : MethodName)) hown (mvT hZ (wi hw 48 rfl)) (mvT hZ (wi hw 49 rfl)) (notFace_of_selects (args := #[]) (mvT hZ (wi hw 51 rfl))) (mvT hZ (wi hw 51 rfl)) (mvT hZ (wi hw 50 rfl)) (by decide) (backOf (W := 0) (rm_close_1x l Z a0 hw [] b103 d b1_107 k1_107 p0 b2_107 k2_107 p2 (0 : Int32) h117 n0 (by omega) c119_F_brackets_b103 c120_F_contentStarts_b103 c121_F_closes_b103 c122_F_size_b103 c123_V_b1_107 p117_V_b2) hZ (wi hw 52 rfl) (wi hw 5 rfl) (by decide) (by decide)) q125a q125c (g := (mkF mM 200 (Lc_law_eq_0_0_9 p0 p2 p3 p4 d b103) [(.int p0), (.ref d), (.ref b103)])) rfl (by rw [hml]; rfl) (Steps.refl _) (argsL := [(.ref d), (.int p0)]) (rest := []) (lenOf pd_1 rfl) rfl (by show 2 * 0 + _ ≤ _; exact Nat.le_of_eq rfl) (hb hby at_200) (fun _ _ => ⟨rfl, e118, Nat.le_of_ble_eq_true rfl, Nat.le_of_ble_eq_true rfl⟩)
  dsimp only [Pt.U, Pt.locs, Pt.cells, Pt.slots] at X125 l125 y125 z125 st125 hQ125
  subst l125 y125 z125
  obtain ⟨h125, e125⟩ : ∃ z, T125.heap = z := ⟨_, rfl⟩
  rw [e125] at hQ125
  obtain ⟨rfl, N125q, eq125⟩ := hQ125
  rw [eq125] at e125
  have N125 := Fr.app N118 N125q
  obtain ⟨fs, hr, hrun, hended, hW, hsame⟩ := X125.leave (v := some (.int (1 : Int32))) (fun h => by rw [Bd.returns] at h; cases h)
  refine ⟨_, _, pre0 _ ?_, hrun, hended, _, _, rfl, ?_, ⟨_, rfl⟩, hW, hsame.mono (by decide) (by decide)⟩
  · show SS pP eE belowS s₁ (mkF mM 0 (Lc_law_eq_0_0_0 p0 p2 p3 p4) []) _
    refine st102 _ ?_
    show SS pP eE belowS T102 (mkF mM 3 (Lc_law_eq_0_0_0 p0 p2 p3 p4) [(.ref d)]) _
    refine XS.astore X102.here hx rfl (hb hby at_3) rfl rfl (l' := (Lc_law_eq_0_0_1 p0 p2 p3 p4 d)) rfl ?_
    show SS pP eE belowS T102 (mkF mM 5 (Lc_law_eq_0_0_1 p0 p2 p3 p4 d) []) _
    refine st103 _ ?_
    show SS pP eE belowS T103 (mkF mM 8 (Lc_law_eq_0_0_1 p0 p2 p3 p4 d) [(.ref b103)]) _
    refine XS.dup X103.here hx rfl (hb hby at_8) rfl rfl ?_
    show SS pP eE belowS T103 (mkF mM 9 (Lc_law_eq_0_0_1 p0 p2 p3 p4 d) [(.ref b103), (.ref b103)]) _
    refine st104.trans ?_
    show SS pP eE belowS T104 (mkF mM 12 (Lc_law_eq_0_0_1 p0 p2 p3 p4 d) [(.ref b103)]) _
    refine XS.astore X104.here hx rfl (hb hby at_12) rfl rfl (l' := (Lc_law_eq_0_0_2 p0 p2 p3 p4 d b103)) rfl ?_
    show SS pP eE belowS T104 (mkF mM 14 (Lc_law_eq_0_0_2 p0 p2 p3 p4 d b103) []) _
    refine XS.aload X104.here hx rfl (hb hby at_14) rfl rfl ?_
    show SS pP eE belowS T104 (mkF mM 16 (Lc_law_eq_0_0_2 p0 p2 p3 p4 d b103) [(.ref b103)]) _
    refine XS.aload X104.here hx rfl (hb hby at_16) rfl rfl ?_
    show SS pP eE belowS T104 (mkF mM 18 (Lc_law_eq_0_0_2 p0 p2 p3 p4 d b103) [(.ref d), (.ref b103)]) _
    refine XS.iloadN X104.here hx rfl (hb hby at_18) rfl ?_
    show SS pP eE belowS T104 (mkF mM 19 (Lc_law_eq_0_0_2 p0 p2 p3 p4 d b103) [(.int p0), (.ref d), (.ref b103)]) _
    refine st107.trans ?_
    show SS pP eE belowS T107 (mkF mM 22 (Lc_law_eq_0_0_2 p0 p2 p3 p4 d b103) [(.int (0 : Int32))]) _
    refine XS.istore X107.here hx rfl (hb hby at_22) rfl (l' := (Lc_law_eq_0_0_3 p0 p2 p3 p4 d b103)) rfl ?_
    show SS pP eE belowS T107 (mkF mM 24 (Lc_law_eq_0_0_3 p0 p2 p3 p4 d b103) []) _
    refine XS.aload X107.here hx rfl (hb hby at_24) rfl rfl ?_
    show SS pP eE belowS T107 (mkF mM 26 (Lc_law_eq_0_0_3 p0 p2 p3 p4 d b103) [(.ref b103)]) _
    refine XS.aload X107.here hx rfl (hb hby at_26) rfl rfl ?_
    show SS pP eE belowS T107 (mkF mM 28 (Lc_law_eq_0_0_3 p0 p2 p3 p4 d b103) [(.ref d), (.ref b103)]) _
    refine XS.iloadN X107.here hx rfl (hb hby at_28) rfl ?_
    show SS pP eE belowS T107 (mkF mM 29 (Lc_law_eq_0_0_3 p0 p2 p3 p4 d b103) [(.int p0), (.ref d), (.ref b103)]) _
    refine st112.trans ?_
    show SS pP eE belowS T112 (mkF mM 32 (Lc_law_eq_0_0_3 p0 p2 p3 p4 d b103) [(.int (-1 : Int32))]) _
    refine XS.istore X112.here hx rfl (hb hby at_32) rfl (l' := (Lc_law_eq_0_0_4 p0 p2 p3 p4 d b103)) rfl ?_
    show SS pP eE belowS T112 (mkF mM 34 (Lc_law_eq_0_0_4 p0 p2 p3 p4 d b103) []) _
    refine XS.iload X112.here hx rfl (hb hby at_34) rfl ?_
    show SS pP eE belowS T112 (mkF mM 36 (Lc_law_eq_0_0_4 p0 p2 p3 p4 d b103) [(.int (0 : Int32))]) _
    refine XS.ifYes X112.here hx rfl (pc0 := 36) (pc' := 41) rfl (hb hby at_36) rfl ((if0 _ _).trans (teq (by decide : (0 : Int32) = (0 : Int32))).1) (by decide) (by decide) ?_
    show SS pP eE belowS T112 (mkF mM 41 (Lc_law_eq_0_0_4 p0 p2 p3 p4 d b103) []) _
    refine XS.iload X112.here hx rfl (hb hby at_41) rfl ?_
    show SS pP eE belowS T112 (mkF mM 43 (Lc_law_eq_0_0_4 p0 p2 p3 p4 d b103) [(.int (-1 : Int32))]) _
    refine XS.iloadN X112.here hx rfl (hb hby at_43) rfl ?_
    show SS pP eE belowS T112 (mkF mM 44 (Lc_law_eq_0_0_4 p0 p2 p3 p4 d b103) [(.int p0), (.int (-1 : Int32))]) _
    refine XS.iloadN X112.here hx rfl (hb hby at_44) rfl ?_
    show SS pP eE belowS T112 (mkF mM 45 (Lc_law_eq_0_0_4 p0 p2 p3 p4 d b103) [(.int p0), (.int p0), (.int (-1 : Int32))]) _
    refine XS.icmpYes X112.here hx rfl (pc0 := 45) (pc' := 52) rfl (hb hby at_45) rfl (flt (Int32.lt_irrefl : ¬ (p0 < p0))).2.2.2 (by decide) (by decide) ?_
    show SS pP eE belowS T112 (mkF mM 52 (Lc_law_eq_0_0_4 p0 p2 p3 p4 d b103) [(.int (-1 : Int32))]) _
    refine XS.iconst X112.here hx rfl (hb hby at_52) ?_
    show SS pP eE belowS T112 (mkF mM 53 (Lc_law_eq_0_0_4 p0 p2 p3 p4 d b103) [(.int (-1 : Int32)), (.int (-1 : Int32))]) _
    refine XS.icmpYes X112.here hx rfl (pc0 := 53) (pc' := 58) rfl (hb hby at_53) rfl (teq (by decide : (-1 : Int32) = (-1 : Int32))).1 (by decide) (by decide) ?_
    show SS pP eE belowS T112 (mkF mM 58 (Lc_law_eq_0_0_4 p0 p2 p3 p4 d b103) []) _
    refine XS.iload X112.here hx rfl (hb hby at_58) rfl ?_
    show SS pP eE belowS T112 (mkF mM 60 (Lc_law_eq_0_0_4 p0 p2 p3 p4 d b103) [(.int p4)]) _
    refine XS.iconst X112.here hx rfl (hb hby at_60) ?_
    show SS pP eE belowS T112 (mkF mM 61 (Lc_law_eq_0_0_4 p0 p2 p3 p4 d b103) [(.int (3 : Int32)), (.int p4)]) _
    refine XS.iand X112.here hx rfl (hb hby at_61) rfl ?_
    show SS pP eE belowS T112 (mkF mM 62 (Lc_law_eq_0_0_4 p0 p2 p3 p4 d b103) [(.int (p4 &&& (3 : Int32)))]) _
    refine XS.istore X112.here hx rfl (hb hby at_62) rfl (l' := (Lc_law_eq_0_0_5 p0 p2 p3 p4 d b103)) rfl ?_
    show SS pP eE belowS T112 (mkF mM 64 (Lc_law_eq_0_0_5 p0 p2 p3 p4 d b103) []) _
    refine XS.iload X112.here hx rfl (hb hby at_64) rfl ?_
    show SS pP eE belowS T112 (mkF mM 66 (Lc_law_eq_0_0_5 p0 p2 p3 p4 d b103) [(.int (p4 &&& (3 : Int32)))]) _
    refine XS.ifNo X112.here hx rfl (hb hby at_66) rfl ((if0 _ _).trans (teq hc66).2) ?_
    show SS pP eE belowS T112 (mkF mM 69 (Lc_law_eq_0_0_5 p0 p2 p3 p4 d b103) []) _
    refine XS.iload X112.here hx rfl (hb hby at_69) rfl ?_
    show SS pP eE belowS T112 (mkF mM 71 (Lc_law_eq_0_0_5 p0 p2 p3 p4 d b103) [(.int (0 : Int32))]) _
    refine XS.goto X112.here hx rfl (pc0 := 71) (pc' := 86) rfl (hb hby at_71) (by decide) (by decide) ?_
    show SS pP eE belowS T112 (mkF mM 86 (Lc_law_eq_0_0_5 p0 p2 p3 p4 d b103) [(.int (0 : Int32))]) _
    refine XS.istore X112.here hx rfl (hb hby at_86) rfl (l' := (Lc_law_eq_0_0_6 p0 p2 p3 p4 d b103)) rfl ?_
    show SS pP eE belowS T112 (mkF mM 88 (Lc_law_eq_0_0_6 p0 p2 p3 p4 d b103) []) _
    refine XS.iload X112.here hx rfl (hb hby at_88) rfl ?_
    show SS pP eE belowS T112 (mkF mM 90 (Lc_law_eq_0_0_6 p0 p2 p3 p4 d b103) [(.int p4)]) _
    refine XS.iconst X112.here hx rfl (hb hby at_90) ?_
    show SS pP eE belowS T112 (mkF mM 91 (Lc_law_eq_0_0_6 p0 p2 p3 p4 d b103) [(.int (2 : Int32)), (.int p4)]) _
    refine XS.ishr X112.here hx rfl (hb hby at_91) rfl ?_
    show SS pP eE belowS T112 (mkF mM 92 (Lc_law_eq_0_0_6 p0 p2 p3 p4 d b103) [(.int (p4 >>> ((2 : Int32) &&& 31)))]) _
    refine XS.iconst X112.here hx rfl (hb hby at_92) ?_
    show SS pP eE belowS T112 (mkF mM 93 (Lc_law_eq_0_0_6 p0 p2 p3 p4 d b103) [(.int (1 : Int32)), (.int (p4 >>> ((2 : Int32) &&& 31)))]) _
    refine XS.iand X112.here hx rfl (hb hby at_93) rfl ?_
    show SS pP eE belowS T112 (mkF mM 94 (Lc_law_eq_0_0_6 p0 p2 p3 p4 d b103) [(.int ((p4 >>> ((2 : Int32) &&& 31)) &&& (1 : Int32)))]) _
    refine XS.ifYes X112.here hx rfl (pc0 := 94) (pc' := 101) rfl (hb hby at_94) rfl ((if0 _ _).trans (teq hc94).1) (by decide) (by decide) ?_
    show SS pP eE belowS T112 (mkF mM 101 (Lc_law_eq_0_0_6 p0 p2 p3 p4 d b103) []) _
    refine XS.iconst X112.here hx rfl (hb hby at_101) ?_
    show SS pP eE belowS T112 (mkF mM 102 (Lc_law_eq_0_0_6 p0 p2 p3 p4 d b103) [(.int (0 : Int32))]) _
    refine XS.istore X112.here hx rfl (hb hby at_102) rfl (l' := (Lc_law_eq_0_0_7 p0 p2 p3 p4 d b103)) rfl ?_
    show SS pP eE belowS T112 (mkF mM 104 (Lc_law_eq_0_0_7 p0 p2 p3 p4 d b103) []) _
    refine XS.aload X112.here hx rfl (hb hby at_104) rfl rfl ?_
    show SS pP eE belowS T112 (mkF mM 106 (Lc_law_eq_0_0_7 p0 p2 p3 p4 d b103) [(.ref b103)]) _
    refine XS.iload X112.here hx rfl (hb hby at_106) rfl ?_
    show SS pP eE belowS T112 (mkF mM 108 (Lc_law_eq_0_0_7 p0 p2 p3 p4 d b103) [(.int (0 : Int32)), (.ref b103)]) _
    refine XS.iloadN X112.here hx rfl (hb hby at_108) rfl ?_
    show SS pP eE belowS T112 (mkF mM 109 (Lc_law_eq_0_0_7 p0 p2 p3 p4 d b103) [(.int p2), (.int (0 : Int32)), (.ref b103)]) _
    refine st117.trans ?_
    show SS pP eE belowS T117 (mkF mM 112 (Lc_law_eq_0_0_7 p0 p2 p3 p4 d b103) []) _
    refine XS.iload X117.here hx rfl (hb hby at_112) rfl ?_
    show SS pP eE belowS T117 (mkF mM 114 (Lc_law_eq_0_0_7 p0 p2 p3 p4 d b103) [(.int (0 : Int32))]) _
    refine XS.ifYes X117.here hx rfl (pc0 := 114) (pc' := 125) rfl (hb hby at_114) rfl ((if0 _ _).trans (teq (by decide : (0 : Int32) = (0 : Int32))).1) (by decide) (by decide) ?_
    show SS pP eE belowS T117 (mkF mM 125 (Lc_law_eq_0_0_7 p0 p2 p3 p4 d b103) []) _
    refine XS.iload X117.here hx rfl (hb hby at_125) rfl ?_
    show SS pP eE belowS T117 (mkF mM 127 (Lc_law_eq_0_0_7 p0 p2 p3 p4 d b103) [(.int (0 : Int32))]) _
    refine XS.ifYes X117.here hx rfl (pc0 := 127) (pc' := 134) rfl (hb hby at_127) rfl ((if0 _ _).trans (teq (by decide : (0 : Int32) = (0 : Int32))).1) (by decide) (by decide) ?_
    show SS pP eE belowS T117 (mkF mM 134 (Lc_law_eq_0_0_7 p0 p2 p3 p4 d b103) []) _
    refine XS.iload X117.here hx rfl (hb hby at_134) rfl ?_
    show SS pP eE belowS T117 (mkF mM 136 (Lc_law_eq_0_0_7 p0 p2 p3 p4 d b103) [(.int (0 : Int32))]) _
    refine XS.ifNo X117.here hx rfl (hb hby at_136) rfl ((if0 _ _).trans (teq (by decide : (0 : Int32) = (0 : Int32))).2) ?_
    show SS pP eE belowS T117 (mkF mM 139 (Lc_law_eq_0_0_7 p0 p2 p3 p4 d b103) []) _
    refine XS.iloadN X117.here hx rfl (hb hby at_139) rfl ?_
    show SS pP eE belowS T117 (mkF mM 140 (Lc_law_eq_0_0_7 p0 p2 p3 p4 d b103) [(.int p2)]) _
    refine XS.goto X117.here hx rfl (pc0 := 140) (pc' := 144) rfl (hb hby at_140) (by decide) (by decide) ?_
    show SS pP eE belowS T117 (mkF mM 144 (Lc_law_eq_0_0_7 p0 p2 p3 p4 d b103) [(.int p2)]) _
    refine XS.istore X117.here hx rfl (hb hby at_144) rfl (l' := (Lc_law_eq_0_0_8 p0 p2 p3 p4 d b103)) rfl ?_
    show SS pP eE belowS T117 (mkF mM 146 (Lc_law_eq_0_0_8 p0 p2 p3 p4 d b103) []) _
    refine XS.iloadN X117.here hx rfl (hb hby at_146) rfl ?_
    show SS pP eE belowS T117 (mkF mM 147 (Lc_law_eq_0_0_8 p0 p2 p3 p4 d b103) [(.int p0)]) _
    refine XS.iloadN X117.here hx rfl (hb hby at_147) rfl ?_
    show SS pP eE belowS T117 (mkF mM 148 (Lc_law_eq_0_0_8 p0 p2 p3 p4 d b103) [(.int p0), (.int p0)]) _
    refine XS.icmpYes X117.here hx rfl (pc0 := 148) (pc' := 167) rfl (hb hby at_148) rfl (flt (Int32.lt_irrefl : ¬ (p0 < p0))).2.2.2 (by decide) (by decide) ?_
    show SS pP eE belowS T117 (mkF mM 167 (Lc_law_eq_0_0_8 p0 p2 p3 p4 d b103) []) _
    refine XS.iloadN X117.here hx rfl (hb hby at_167) rfl ?_
    show SS pP eE belowS T117 (mkF mM 168 (Lc_law_eq_0_0_8 p0 p2 p3 p4 d b103) [(.int p0)]) _
    refine XS.iloadN X117.here hx rfl (hb hby at_168) rfl ?_
    show SS pP eE belowS T117 (mkF mM 169 (Lc_law_eq_0_0_8 p0 p2 p3 p4 d b103) [(.int p0), (.int p0)]) _
    refine XS.icmpNo X117.here hx rfl (hb hby at_169) rfl (teq (rfl : p0 = p0)).2 ?_
    show SS pP eE belowS T117 (mkF mM 172 (Lc_law_eq_0_0_8 p0 p2 p3 p4 d b103) []) _
    refine XS.iload X117.here hx rfl (hb hby at_172) rfl ?_
    show SS pP eE belowS T117 (mkF mM 174 (Lc_law_eq_0_0_8 p0 p2 p3 p4 d b103) [(.int p2)]) _
    refine XS.istore X117.here hx rfl (hb hby at_174) rfl (l' := (Lc_law_eq_0_0_9 p0 p2 p3 p4 d b103)) rfl ?_
    show SS pP eE belowS T117 (mkF mM 176 (Lc_law_eq_0_0_9 p0 p2 p3 p4 d b103) []) _
    refine XS.goto X117.here hx rfl (pc0 := 176) (pc' := 182) rfl (hb hby at_176) (by decide) (by decide) ?_
    show SS pP eE belowS T117 (mkF mM 182 (Lc_law_eq_0_0_9 p0 p2 p3 p4 d b103) []) _
    refine XS.aload X117.here hx rfl (hb hby at_182) rfl rfl ?_
    show SS pP eE belowS T117 (mkF mM 184 (Lc_law_eq_0_0_9 p0 p2 p3 p4 d b103) [(.ref b103)]) _
    refine XS.aload X117.here hx rfl (hb hby at_184) rfl rfl ?_
    show SS pP eE belowS T117 (mkF mM 186 (Lc_law_eq_0_0_9 p0 p2 p3 p4 d b103) [(.ref d), (.ref b103)]) _
    refine XS.iloadN X117.here hx rfl (hb hby at_186) rfl ?_
    show SS pP eE belowS T117 (mkF mM 187 (Lc_law_eq_0_0_9 p0 p2 p3 p4 d b103) [(.int p0), (.ref d), (.ref b103)]) _
    refine st118.trans ?_
    show SS pP eE belowS T118 (mkF mM 190 (Lc_law_eq_0_0_9 p0 p2 p3 p4 d b103) [(.int p2)]) _
    refine XS.iload X118.here hx rfl (hb hby at_190) rfl ?_
    show SS pP eE belowS T118 (mkF mM 192 (Lc_law_eq_0_0_9 p0 p2 p3 p4 d b103) [(.int p2), (.int p2)]) _
    refine XS.icmpNo X118.here hx rfl (hb hby at_192) rfl (teq (rfl : p2 = p2)).2 ?_
    show SS pP eE belowS T118 (mkF mM 195 (Lc_law_eq_0_0_9 p0 p2 p3 p4 d b103) []) _
    refine XS.aload X118.here hx rfl (hb hby at_195) rfl rfl ?_
    show SS pP eE belowS T118 (mkF mM 197 (Lc_law_eq_0_0_9 p0 p2 p3 p4 d b103) [(.ref b103)]) _
    refine XS.aload X118.here hx rfl (hb hby at_197) rfl rfl ?_
    show SS pP eE belowS T118 (mkF mM 199 (Lc_law_eq_0_0_9 p0 p2 p3 p4 d b103) [(.ref d), (.ref b103)]) _
    refine XS.iloadN X118.here hx rfl (hb hby at_199) rfl ?_
    show SS pP eE belowS T118 (mkF mM 200 (Lc_law_eq_0_0_9 p0 p2 p3 p4 d b103) [(.int p0), (.ref d), (.ref b103)]) _
    refine st125.trans ?_
    show SS pP eE belowS T125 (mkF mM 203 (Lc_law_eq_0_0_9 p0 p2 p3 p4 d b103) [(.int p2)]) _
    refine XS.iload X125.here hx rfl (hb hby at_203) rfl ?_
    show SS pP eE belowS T125 (mkF mM 205 (Lc_law_eq_0_0_9 p0 p2 p3 p4 d b103) [(.int p2), (.int p2)]) _
    refine XS.icmpNo X125.here hx rfl (hb hby at_205) rfl (teq (rfl : p2 = p2)).2 ?_
    show SS pP eE belowS T125 (mkF mM 208 (Lc_law_eq_0_0_9 p0 p2 p3 p4 d b103) []) _
    refine XS.iconst X125.here hx rfl (hb hby at_208) ?_
    show SS pP eE belowS T125 (mkF mM 209 (Lc_law_eq_0_0_9 p0 p2 p3 p4 d b103) [(.int (1 : Int32))]) _
    refine XS.goto X125.here hx rfl (pc0 := 209) (pc' := 213) rfl (hb hby at_209) (by decide) (by decide) ?_
    show SS pP eE belowS T125 (mkF mM 213 (Lc_law_eq_0_0_9 p0 p2 p3 p4 d b103) [(.int (1 : Int32))]) _
    exact retN X125 hx (t := .boolean) Bd.returns (by simp) (hb hby at_213) hr
  · exact ⟨rfl, N125⟩

abbrev Lc_law_eq_0_1_0 (p0 : Int32) (p2 : Int32) (p3 : Int32) (p4 : Int32) : Array Slot := #[.val (.int p0), .val (.int p0), .val (.int p2), .val (.int p3), .val (.int p4), .unset, .unset, .unset, .unset, .unset, .unset, .unset, .unset, .unset]
abbrev Lc_law_eq_0_1_1 (p0 : Int32) (p2 : Int32) (p3 : Int32) (p4 : Int32) (d : Addr) : Array Slot := #[.val (.int p0), .val (.int p0), .val (.int p2), .val (.int p3), .val (.int p4), .val (.ref d), .unset, .unset, .unset, .unset, .unset, .unset, .unset, .unset]
abbrev Lc_law_eq_0_1_2 (p0 : Int32) (p2 : Int32) (p3 : Int32) (p4 : Int32) (d : Addr) (b103 : Addr) : Array Slot := #[.val (.int p0), .val (.int p0), .val (.int p2), .val (.int p3), .val (.int p4), .val (.ref d), .val (.ref b103), .unset, .unset, .unset, .unset, .unset, .unset, .unset]
abbrev Lc_law_eq_0_1_3 (p0 : Int32) (p2 : Int32) (p3 : Int32) (p4 : Int32) (d : Addr) (b103 : Addr) : Array Slot := #[.val (.int p0), .val (.int p0), .val (.int p2), .val (.int p3), .val (.int p4), .val (.ref d), .val (.ref b103), .val (.int (0 : Int32)), .unset, .unset, .unset, .unset, .unset, .unset]
abbrev Lc_law_eq_0_1_4 (p0 : Int32) (p2 : Int32) (p3 : Int32) (p4 : Int32) (d : Addr) (b103 : Addr) : Array Slot := #[.val (.int p0), .val (.int p0), .val (.int p2), .val (.int p3), .val (.int p4), .val (.ref d), .val (.ref b103), .val (.int (0 : Int32)), .val (.int (-1 : Int32)), .unset, .unset, .unset, .unset, .unset]
abbrev Lc_law_eq_0_1_5 (p0 : Int32) (p2 : Int32) (p3 : Int32) (p4 : Int32) (d : Addr) (b103 : Addr) : Array Slot := #[.val (.int p0), .val (.int p0), .val (.int p2), .val (.int p3), .val (.int p4), .val (.ref d), .val (.ref b103), .val (.int (0 : Int32)), .val (.int (-1 : Int32)), .val (.int (p4 &&& (3 : Int32))), .unset, .unset, .unset, .unset]
abbrev Lc_law_eq_0_1_6 (p0 : Int32) (p2 : Int32) (p3 : Int32) (p4 : Int32) (d : Addr) (b103 : Addr) : Array Slot := #[.val (.int p0), .val (.int p0), .val (.int p2), .val (.int p3), .val (.int p4), .val (.ref d), .val (.ref b103), .val (.int (0 : Int32)), .val (.int (-1 : Int32)), .val (.int (p4 &&& (3 : Int32))), .val (.int (0 : Int32)), .unset, .unset, .unset]
abbrev Lc_law_eq_0_1_7 (p0 : Int32) (p2 : Int32) (p3 : Int32) (p4 : Int32) (d : Addr) (b103 : Addr) : Array Slot := #[.val (.int p0), .val (.int p0), .val (.int p2), .val (.int p3), .val (.int p4), .val (.ref d), .val (.ref b103), .val (.int (0 : Int32)), .val (.int (-1 : Int32)), .val (.int (p4 &&& (3 : Int32))), .val (.int (0 : Int32)), .val (.int (1 : Int32)), .unset, .unset]
abbrev Lc_law_eq_0_1_8 (p0 : Int32) (p2 : Int32) (p3 : Int32) (p4 : Int32) (d : Addr) (b103 : Addr) : Array Slot := #[.val (.int p0), .val (.int p0), .val (.int p2), .val (.int p3), .val (.int p4), .val (.ref d), .val (.ref b103), .val (.int (0 : Int32)), .val (.int (-1 : Int32)), .val (.int (p4 &&& (3 : Int32))), .val (.int (0 : Int32)), .val (.int (1 : Int32)), .val (.int p3), .unset]
abbrev Lc_law_eq_0_1_9 (p0 : Int32) (p2 : Int32) (p3 : Int32) (p4 : Int32) (d : Addr) (b103 : Addr) : Array Slot := #[.val (.int p0), .val (.int p0), .val (.int p2), .val (.int p3), .val (.int p4), .val (.ref d), .val (.ref b103), .val (.int (0 : Int32)), .val (.int (-1 : Int32)), .val (.int (p4 &&& (3 : Int32))), .val (.int (0 : Int32)), .val (.int (1 : Int32)), .val (.int p3), .val (.int p3)]
theorem ef_law_eq_0_1 (mM : MethodId) (p0 : Int32) (p2 : Int32) (p3 : Int32) (p4 : Int32) (aN : Addr) (kN : ClassId) (d : Addr) : entryFrame mM #[(.int p0), (.int p0), (.int p2), (.int p3), (.int p4)] maxLocals = mkF mM 0 #[.val (.int p0), .val (.int p0), .val (.int p2), .val (.int p3), .val (.int p4), .unset, .unset, .unset, .unset, .unset, .unset, .unset, .unset, .unset] [] := by first | (simp [entryFrame, mkF, argsToLocals, Value.category, maxLocals]; done) | rfl
set_option maxRecDepth 65536 in
set_option maxHeartbeats 40000000 in
theorem rm_law_eq_0_1 (l : Launch) (Z : State) (a0 : Array Value) (hw : ∀ d ∈ tables_1, d.before a0 Z = true) (ws : List Jvm.Cond) (p0 : Int32) (p2 : Int32) (p3 : Int32) (p4 : Int32) (aN : Addr) (kN : ClassId) (d : Addr) (h0 : Heap) (n0 : Nat) (Z0 : n0 ≤ h0.size) (OL : Old Z n0 h0) (S_DEFAULT : Sta Z Z.heap "com/example/macroweave/macroweave/Brackets" "DEFAULT" "Lcom/example/macroweave/macroweave/Brackets;" (.ref d)) (S_NONE : Sta Z Z.heap "com/example/macroweave/macroweave/BracketPairs" "NONE" "[I" (.ref aN)) (V_aN : Arv Z h0 aN kN .int (0 : Int32) [] (.int (0 : Int32))) (hc66 : (p4 &&& (3 : Int32)) = (0 : Int32)) (hc94 : ¬ (((p4 >>> ((2 : Int32) &&& 31)) &&& (1 : Int32)) = (0 : Int32))) :
    MetFree l x (head1 (Jvm.Cond.code x code maxLocals ret :: ws) room_1) (fun xa xU => xa = #[(.int p0), (.int p0), (.int p2), (.int p3), (.int p4)] ∧ Z.Warmed39 xU.vm ∧ xU.heap = h0) (fun _ _ _ _ _ => True) (fun _ xU xo xU' => ∃ xv xL, xo = .returned xv ∧ Q_law n0 xv xL ∧ FrameEnd xU xo xU' xL room_1.cells room_1.slots) := by
  refine MetFree.of_bodySF (plainFor_of_name pn_com_example_macroweave_macroweave_BracketPairsClosedPinLaw) hisR ?_
  intro pP eE sS mM argS belowS methS cC s₁ Bd hml0 hP hK
  obtain ⟨rfl, hZ, hh⟩ := hP
  have hx := Bd.exec
  have hby := Bd.bytes
  have hml : cC.maxLocals = 14 := hml0
  have hown : sS.vm.findClass "com/example/macroweave/macroweave/BracketPairsClosedPinLaw" = some mM.cls := findClass_of_methodNamed Bd.named
  have hnm := (name_of_methodNamed Bd.named Bd.method).1
  have X0 : Stand pP l eE room_1 sS mM #[(.int p0), (.int p0), (.int p2), (.int p3), (.int p4)] belowS methS cC s₁ [] 0 0 := Stand.of_body Bd
  have e0 : s₁.heap = h0 := by rw [← hh, Bd.state]; rfl
  have N0 := Fr.nil n0
  have pre0 : ∀ t', Steps pP.tables eE belowS (s₁.setTop (mkF mM 0 #[.val (.int p0), .val (.int p0), .val (.int p2), .val (.int p3), .val (.int p4), .unset, .unset, .unset, .unset, .unset, .unset, .unset, .unset, .unset] [])) t' → Steps pP.tables eE belowS (s₁.setTop (entryFrame mM #[(.int p0), (.int p0), (.int p2), (.int p3), (.int p4)] maxLocals)) t' := fun t' kk' => castTop (ef_law_eq_0_1 mM p0 p2 p3 p4 aN kN d) kk'
  have c101_S_DEFAULT : Sta Z h0 "com/example/macroweave/macroweave/Brackets" "DEFAULT" "Lcom/example/macroweave/macroweave/Brackets;" (.ref d) := Sta.ext OL.2 S_DEFAULT
  obtain ⟨T102, X102, e102, st102⟩ := getS2 X0 hx hZ hown (host := "") (Or.inl (wi hw 0 rfl)) Via.refl e0 c101_S_DEFAULT (g := (mkF mM 0 (Lc_law_eq_0_1_0 p0 p2 p3 p4) [])) rfl (hb hby at_0)
  obtain ⟨T103, h103, X103, e103, E103, A103, D103, B103, st103⟩ := newO X102 hx hZ hown (wi hw 3 rfl) (wi hw 4 rfl) (wi hw 5 rfl) e102 (g := (mkF mM 5 (Lc_law_eq_0_1_1 p0 p2 p3 p4 d) [])) rfl (hb hby at_5) (by decide) (by decide)
  obtain ⟨b103, g103⟩ : ∃ z : Nat, z = h0.size := ⟨_, rfl⟩
  rw [← g103] at A103 D103 B103 st103
  have Sz1 : h0.size ≤ h103.size := E103.1
  have F103_contentStarts : Fld Z h103 b103 "com/example/macroweave/macroweave/BracketPairs" "contentStarts" "[I" .null := D103 (Or.inl (wi hw 15 rfl)) (ty := (.array .int)) (by decide)
  have F103_closes : Fld Z h103 b103 "com/example/macroweave/macroweave/BracketPairs" "closes" "[I" .null := D103 (Or.inl (wi hw 17 rfl)) (ty := (.array .int)) (by decide)
  have F103_brackets : Fld Z h103 b103 "com/example/macroweave/macroweave/BracketPairs" "brackets" "Lcom/example/macroweave/macroweave/Brackets;" .null := D103 (Or.inl (wi hw 24 rfl)) (ty := (.object "com/example/macroweave/macroweave/Brackets")) (by decide)
  have F103_size : Fld Z h103 b103 "com/example/macroweave/macroweave/BracketPairs" "size" "I" (.int (0 : Int32)) := D103 (Or.inl (wi hw 26 rfl)) (ty := .int) (by decide)
  have c105_OL : Old Z n0 h103 := OL.ext E103
  have ge106_b103 : @LE.le Nat _ n0 b103 := by omega
  obtain ⟨_, _, ⟨T104, L104, k104, n104⟩, -, X104, ⟨Lc104, hQ104, l104, y104, z104⟩, st104⟩ := X103.specialBack hx (y := (⟨"com/example/macroweave/macroweave/BracketPairs", "<init>", "()V"⟩ : MethodName)) rfl hown (mvT hZ (wi hw 6 rfl)) (mvT hZ (wi hw 7 rfl)) (mvT hZ (wi hw 8 rfl)) (by decide) (backOf (W := 1) (rm_init l Z a0 hw [] b103 aN .null .null .null (.int (0 : Int32)) h103 n0 (by omega) A103 F103_contentStarts F103_closes F103_brackets F103_size ge106_b103 c105_OL S_NONE) hZ (wi hw 8 rfl) (wi hw 5 rfl) (by decide) (by decide)) (g := (mkF mM 9 (Lc_law_eq_0_1_1 p0 p2 p3 p4 d) [(.ref b103), (.ref b103)])) rfl (by rw [hml]; rfl) (Steps.refl _) (a := b103) (argsL := []) (rest := [(.ref b103)]) (lenOf pd_0 rfl) rfl (by show 2 * 0 + _ ≤ _; exact Nat.le_of_eq rfl) (hb hby at_9) (fun _ _ => ⟨rfl, e103, Nat.le_of_ble_eq_true rfl, Nat.le_of_ble_eq_true rfl⟩)
  dsimp only [Pt.U, Pt.locs, Pt.cells, Pt.slots] at X104 l104 y104 z104 st104 hQ104
  subst l104 y104 z104
  obtain ⟨h104, e104⟩ : ∃ z, T104.heap = z := ⟨_, rfl⟩
  rw [e104] at hQ104
  obtain ⟨rfl, N104q, Kp104, p104_E_a1, p104_F_contentStarts_a1, p104_F_closes_a1, p104_F_brackets_a1, p104_F_size_a1⟩ := hQ104
  have Sz2 : h103.size ≤ h104.size := Kp104.1
  have N104 := Fr.app N0 N104q
  have c108_V_aN : Arv Z h103 aN kN .int (0 : Int32) [] (.int (0 : Int32)) := V_aN.ext E103
  have lt_aN : @LT.lt Nat _ aN h0.size := V_aN.lt
  have lt_b103 : @LT.lt Nat _ b103 h104.size := p104_E_a1.lt
  have ne_aN_b103_109 : aN ≠ b103 := (by omega : @Ne Nat aN b103)
  have c110_V_aN : Arv Z h104 aN kN .int (0 : Int32) [] (.int (0 : Int32)) := c108_V_aN.keep Kp104 (ninS ne_aN_b103_109 nin0)
  have ne_b103_aN_111 : b103 ≠ aN := (by omega : @Ne Nat b103 aN)
  obtain ⟨cq107, kq107, q107a, q107b, q107c⟩ := isOf hZ e104 p104_E_a1
  obtain ⟨_, _, ⟨T107, L107, k107, n107⟩, -, X107, ⟨Lc107, hQ107, l107, y107, z107⟩, st107⟩ := X104.virtualBack hx (y := (⟨"com/example/macroweave/macroweave/BracketPairs", "opened", "(Lcom/example/macroweave/macroweave/Brackets;I)I"⟩ : MethodName)) (z := (⟨"com/example/macroweave/macroweave/BracketPairs", "opened", "(Lcom/example/macroweave/macroweave/Brackets;I)I"⟩ : MethodName)) hown (mvT hZ (wi hw 18 rfl)) (mvT hZ (wi hw 19 rfl)) (notFace_of_selects (args := #[]) (mvT hZ (wi hw 21 rfl))) (mvT hZ (wi hw 21 rfl)) (mvT hZ (wi hw 20 rfl)) (by decide) (backOf (W := 0) (rm_open1 l Z a0 hw [] b103 d p0 aN kN h104 n0 (by omega) p104_E_a1 p104_F_brackets_a1 p104_F_contentStarts_a1 p104_F_closes_a1 p104_F_size_a1 c110_V_aN ne_b103_aN_111 ge106_b103) hZ (wi hw 22 rfl) (wi hw 5 rfl) (by decide) (by decide)) q107a q107c (g := (mkF mM 19 (Lc_law_eq_0_1_2 p0 p2 p3 p4 d b103) [(.int p0), (.ref d), (.ref b103)])) rfl (by rw [hml]; rfl) (Steps.refl _) (argsL := [(.ref d), (.int p0)]) (rest := []) (lenOf pd_1 rfl) rfl (by show 2 * 0 + _ ≤ _; exact Nat.le_of_eq rfl) (hb hby at_19) (fun _ _ => ⟨rfl, e104, Nat.le_of_ble_eq_true rfl, Nat.le_of_ble_eq_true rfl⟩)
  dsimp only [Pt.U, Pt.locs, Pt.cells, Pt.slots] at X107 l107 y107 z107 st107 hQ107
  subst l107 y107 z107
  obtain ⟨h107, e107⟩ : ∃ z, T107.heap = z := ⟨_, rfl⟩
  rw [e107] at hQ107
  obtain ⟨b1_107, b2_107, k1_107, k2_107, rfl, N107q, Kp107, p107_E_a1, p107_F_brackets_a1, p107_F_contentStarts_a1, p107_F_closes_a1, p107_F_size_a1, p107_V_b1, p107_V_b2, p107_gh_b1, p107_gh_b2, p107_ne_b1_b2⟩ := hQ107
  have Sz3 : h104.size ≤ h107.size := Kp107.1
  have N107 := Fr.app N104 N107q
  have lt_b1_107 : @LT.lt Nat _ b1_107 h107.size := p107_V_b1.lt
  have ne_b103_b1_107_113 : b103 ≠ b1_107 := (by omega : @Ne Nat b103 b1_107)
  have lt_b2_107 : @LT.lt Nat _ b2_107 h107.size := p107_V_b2.lt
  have ne_b103_b2_107_114 : b103 ≠ b2_107 := (by omega : @Ne Nat b103 b2_107)
  have ge115_b1_107 : @LE.le Nat _ n0 b1_107 := by omega
  have ge116_b2_107 : @LE.le Nat _ n0 b2_107 := by omega
  obtain ⟨cq112, kq112, q112a, q112b, q112c⟩ := isOf hZ e107 p107_E_a1
  obtain ⟨_, _, ⟨T112, L112, k112, n112⟩, -, X112, ⟨Lc112, hQ112, l112, y112, z112⟩, st112⟩ := X107.virtualBack hx (y := (⟨"com/example/macroweave/macroweave/BracketPairs", "opened", "(Lcom/example/macroweave/macroweave/Brackets;I)I"⟩ : MethodName)) (z := (⟨"com/example/macroweave/macroweave/BracketPairs", "opened", "(Lcom/example/macroweave/macroweave/Brackets;I)I"⟩ : MethodName)) hown (mvT hZ (wi hw 18 rfl)) (mvT hZ (wi hw 19 rfl)) (notFace_of_selects (args := #[]) (mvT hZ (wi hw 21 rfl))) (mvT hZ (wi hw 21 rfl)) (mvT hZ (wi hw 20 rfl)) (by decide) (backOf (W := 0) (rm_open2n l Z a0 hw [] b103 d p0 p0 b1_107 b2_107 k1_107 k2_107 h107 n0 (by omega) p107_E_a1 p107_F_brackets_a1 p107_F_contentStarts_a1 p107_F_closes_a1 p107_F_size_a1 p107_V_b1 p107_V_b2 ne_b103_b1_107_113 ne_b103_b2_107_114 p107_ne_b1_b2 ge106_b103 ge115_b1_107 ge116_b2_107 (Int32.lt_irrefl)) hZ (wi hw 22 rfl) (wi hw 5 rfl) (by decide) (by decide)) q112a q112c (g := (mkF mM 29 (Lc_law_eq_0_1_3 p0 p2 p3 p4 d b103) [(.int p0), (.ref d), (.ref b103)])) rfl (by rw [hml]; rfl) (Steps.refl _) (argsL := [(.ref d), (.int p0)]) (rest := []) (lenOf pd_1 rfl) rfl (by show 2 * 0 + _ ≤ _; exact Nat.le_of_eq rfl) (hb hby at_29) (fun _ _ => ⟨rfl, e107, Nat.le_of_ble_eq_true rfl, Nat.le_of_ble_eq_true rfl⟩)
  dsimp only [Pt.U, Pt.locs, Pt.cells, Pt.slots] at X112 l112 y112 z112 st112 hQ112
  subst l112 y112 z112
  obtain ⟨h112, e112⟩ : ∃ z, T112.heap = z := ⟨_, rfl⟩
  rw [e112] at hQ112
  obtain ⟨rfl, N112q, eq112⟩ := hQ112
  rw [eq112] at e112
  have N112 := Fr.app N107 N112q
  obtain ⟨cq117, kq117, q117a, q117b, q117c⟩ := isOf hZ e112 p107_E_a1
  obtain ⟨_, _, ⟨T117, L117, k117, n117⟩, -, X117, ⟨Lc117, hQ117, l117, y117, z117⟩, st117⟩ := X112.virtualBack hx (y := (⟨"com/example/macroweave/macroweave/BracketPairs", "closed", "(II)V"⟩ : MethodName)) (z := (⟨"com/example/macroweave/macroweave/BracketPairs", "closed", "(II)V"⟩ : MethodName)) hown (mvT hZ (wi hw 43 rfl)) (mvT hZ (wi hw 44 rfl)) (notFace_of_selects (args := #[]) (mvT hZ (wi hw 46 rfl))) (mvT hZ (wi hw 46 rfl)) (mvT hZ (wi hw 45 rfl)) (by decide) (backOf (W := 0) (rm_closed0 l Z a0 hw [] b103 p2 b2_107 k2_107 (-1 : Int32) (0 : Int32) h107 n0 (by omega) p107_E_a1 p107_F_closes_a1 p107_V_b2 ne_b103_b2_107_114 ge116_b2_107) hZ (wi hw 47 rfl) (wi hw 5 rfl) (by decide) (by decide)) q117a q117c (g := (mkF mM 109 (Lc_law_eq_0_1_7 p0 p2 p3 p4 d b103) [(.int p2), (.int (0 : Int32)), (.ref b103)])) rfl (by rw [hml]; rfl) (Steps.refl _) (argsL := [(.int (0 : Int32)), (.int p2)]) (rest := []) (lenOf pd_5 rfl) rfl (by show 2 * 0 + _ ≤ _; exact Nat.le_of_eq rfl) (hb hby at_109) (fun _ _ => ⟨rfl, e112, Nat.le_of_ble_eq_true rfl, Nat.le_of_ble_eq_true rfl⟩)
  dsimp only [Pt.U, Pt.locs, Pt.cells, Pt.slots] at X117 l117 y117 z117 st117 hQ117
  subst l117 y117 z117
  obtain ⟨h117, e117⟩ : ∃ z, T117.heap = z := ⟨_, rfl⟩
  rw [e117] at hQ117
  obtain ⟨rfl, N117q, Kp117, p117_V_b2⟩ := hQ117
  have Sz4 : h107.size ≤ h117.size := Kp117.1
  have N117 := Fr.app N112 N117q
  have c119_E_b103 : Exa Z h117 b103 "com/example/macroweave/macroweave/BracketPairs" := p107_E_a1.keep Kp117
  have c120_F_closes_b103 : Fld Z h117 b103 "com/example/macroweave/macroweave/BracketPairs" "closes" "[I" (.ref b2_107) := p107_F_closes_a1.keep Kp117 (ninS ne_b103_b2_107_114 nin0)
  obtain ⟨cq118, kq118, q118a, q118b, q118c⟩ := isOf hZ e117 c119_E_b103
  obtain ⟨_, _, ⟨T118, L118, k118, n118⟩, -, X118, ⟨Lc118, hQ118, l118, y118, z118⟩, st118⟩ := X117.virtualBack hx (y := (⟨"com/example/macroweave/macroweave/BracketPairs", "closed", "(II)V"⟩ : MethodName)) (z := (⟨"com/example/macroweave/macroweave/BracketPairs", "closed", "(II)V"⟩ : MethodName)) hown (mvT hZ (wi hw 43 rfl)) (mvT hZ (wi hw 44 rfl)) (notFace_of_selects (args := #[]) (mvT hZ (wi hw 46 rfl))) (mvT hZ (wi hw 46 rfl)) (mvT hZ (wi hw 45 rfl)) (by decide) (backOf (W := 0) (rm_closed0 l Z a0 hw [] b103 p3 b2_107 k2_107 p2 (0 : Int32) h117 n0 (by omega) c119_E_b103 c120_F_closes_b103 p117_V_b2 ne_b103_b2_107_114 ge116_b2_107) hZ (wi hw 47 rfl) (wi hw 5 rfl) (by decide) (by decide)) q118a q118c (g := (mkF mM 122 (Lc_law_eq_0_1_7 p0 p2 p3 p4 d b103) [(.int p3), (.int (0 : Int32)), (.ref b103)])) rfl (by rw [hml]; rfl) (Steps.refl _) (argsL := [(.int (0 : Int32)), (.int p3)]) (rest := []) (lenOf pd_5 rfl) rfl (by show 2 * 0 + _ ≤ _; exact Nat.le_of_eq rfl) (hb hby at_122) (fun _ _ => ⟨rfl, e117, Nat.le_of_ble_eq_true rfl, Nat.le_of_ble_eq_true rfl⟩)
  dsimp only [Pt.U, Pt.locs, Pt.cells, Pt.slots] at X118 l118 y118 z118 st118 hQ118
  subst l118 y118 z118
  obtain ⟨h118, e118⟩ : ∃ z, T118.heap = z := ⟨_, rfl⟩
  rw [e118] at hQ118
  obtain ⟨rfl, N118q, Kp118, p118_V_b2⟩ := hQ118
  have Sz5 : h117.size ≤ h118.size := Kp118.1
  have N118 := Fr.app N117 N118q
  have c122_F_brackets_b103 : Fld Z h117 b103 "com/example/macroweave/macroweave/BracketPairs" "brackets" "Lcom/example/macroweave/macroweave/Brackets;" (.ref d) := p107_F_brackets_a1.keep Kp117 (ninS ne_b103_b2_107_114 nin0)
  have c123_F_brackets_b103 : Fld Z h118 b103 "com/example/macroweave/macroweave/BracketPairs" "brackets" "Lcom/example/macroweave/macroweave/Brackets;" (.ref d) := c122_F_brackets_b103.keep Kp118 (ninS ne_b103_b2_107_114 nin0)
  have c124_F_contentStarts_b103 : Fld Z h117 b103 "com/example/macroweave/macroweave/BracketPairs" "contentStarts" "[I" (.ref b1_107) := p107_F_contentStarts_a1.keep Kp117 (ninS ne_b103_b2_107_114 nin0)
  have c125_F_contentStarts_b103 : Fld Z h118 b103 "com/example/macroweave/macroweave/BracketPairs" "contentStarts" "[I" (.ref b1_107) := c124_F_contentStarts_b103.keep Kp118 (ninS ne_b103_b2_107_114 nin0)
  have c126_F_closes_b103 : Fld Z h118 b103 "com/example/macroweave/macroweave/BracketPairs" "closes" "[I" (.ref b2_107) := c120_F_closes_b103.keep Kp118 (ninS ne_b103_b2_107_114 nin0)
  have c127_F_size_b103 : Fld Z h117 b103 "com/example/macroweave/macroweave/BracketPairs" "size" "I" (.int (1 : Int32)) := p107_F_size_a1.keep Kp117 (ninS ne_b103_b2_107_114 nin0)
  have c128_F_size_b103 : Fld Z h118 b103 "com/example/macroweave/macroweave/BracketPairs" "size" "I" (.int (1 : Int32)) := c127_F_size_b103.keep Kp118 (ninS ne_b103_b2_107_114 nin0)
  have c129_V_b1_107 : Arv Z h117 b1_107 k1_107 .int (4 : Int32) [(.int p0), (.int (0 : Int32)), (.int (0 : Int32)), (.int (0 : Int32))] (.int (0 : Int32)) := p107_V_b1.keep Kp117 (ninS p107_ne_b1_b2 nin0)
  have c130_V_b1_107 : Arv Z h118 b1_107 k1_107 .int (4 : Int32) [(.int p0), (.int (0 : Int32)), (.int (0 : Int32)), (.int (0 : Int32))] (.int (0 : Int32)) := c129_V_b1_107.keep Kp118 (ninS p107_ne_b1_b2 nin0)
  have c131_E_b103 : Exa Z h118 b103 "com/example/macroweave/macroweave/BracketPairs" := c119_E_b103.keep Kp118
  obtain ⟨cq121, kq121, q121a, q121b, q121c⟩ := isOf hZ e118 c131_E_b103
  obtain ⟨_, _, ⟨T121, L121, k121, n121⟩, -, X121, ⟨Lc121, hQ121, l121, y121, z121⟩, st121⟩ := X118.virtualBack hx (y := (⟨"com/example/macroweave/macroweave/BracketPairs", "close", "(Lcom/example/macroweave/macroweave/Brackets;I)I"⟩ : MethodName)) (z := (⟨"com/example/macroweave/macroweave/BracketPairs", "close", "(Lcom/example/macroweave/macroweave/Brackets;I)I"⟩ : MethodName)) hown (mvT hZ (wi hw 48 rfl)) (mvT hZ (wi hw 49 rfl)) (notFace_of_selects (args := #[]) (mvT hZ (wi hw 51 rfl))) (mvT hZ (wi hw 51 rfl)) (mvT hZ (wi hw 50 rfl)) (by decide) (backOf (W := 0) (rm_close_1x l Z a0 hw [] b103 d b1_107 k1_107 p0 b2_107 k2_107 p3 (0 : Int32) h118 n0 (by omega) c123_F_brackets_b103 c125_F_contentStarts_b103 c126_F_closes_b103 c128_F_size_b103 c130_V_b1_107 p118_V_b2) hZ (wi hw 52 rfl) (wi hw 5 rfl) (by decide) (by decide)) q121a q121c (g := (mkF mM 187 (Lc_law_eq_0_1_9 p0 p2 p3 p4 d b103) [(.int p0), (.ref d), (.ref b103)])) rfl (by rw [hml]; rfl) (Steps.refl _) (argsL := [(.ref d), (.int p0)]) (rest := []) (lenOf pd_1 rfl) rfl (by show 2 * 0 + _ ≤ _; exact Nat.le_of_eq rfl) (hb hby at_187) (fun _ _ => ⟨rfl, e118, Nat.le_of_ble_eq_true rfl, Nat.le_of_ble_eq_true rfl⟩)
  dsimp only [Pt.U, Pt.locs, Pt.cells, Pt.slots] at X121 l121 y121 z121 st121 hQ121
  subst l121 y121 z121
  obtain ⟨h121, e121⟩ : ∃ z, T121.heap = z := ⟨_, rfl⟩
  rw [e121] at hQ121
  obtain ⟨rfl, N121q, eq121⟩ := hQ121
  rw [eq121] at e121
  have N121 := Fr.app N118 N121q
  obtain ⟨cq132, kq132, q132a, q132b, q132c⟩ := isOf hZ e121 c131_E_b103
  obtain ⟨_, _, ⟨T132, L132, k132, n132⟩, -, X132, ⟨Lc132, hQ132, l132, y132, z132⟩, st132⟩ := X121.virtualBack hx (y := (⟨"com/example/macroweave/macroweave/BracketPairs", "close", "(Lcom/example/macroweave/macroweave/Brackets;I)I"⟩ : MethodName)) (z := (⟨"com/example/macroweave/macroweave/BracketPairs", "close", "(Lcom/example/macroweave/macroweave/Brackets;I)I"⟩ : MethodName)) hown (mvT hZ (wi hw 48 rfl)) (mvT hZ (wi hw 49 rfl)) (notFace_of_selects (args := #[]) (mvT hZ (wi hw 51 rfl))) (mvT hZ (wi hw 51 rfl)) (mvT hZ (wi hw 50 rfl)) (by decide) (backOf (W := 0) (rm_close_1x l Z a0 hw [] b103 d b1_107 k1_107 p0 b2_107 k2_107 p3 (0 : Int32) h118 n0 (by omega) c123_F_brackets_b103 c125_F_contentStarts_b103 c126_F_closes_b103 c128_F_size_b103 c130_V_b1_107 p118_V_b2) hZ (wi hw 52 rfl) (wi hw 5 rfl) (by decide) (by decide)) q132a q132c (g := (mkF mM 200 (Lc_law_eq_0_1_9 p0 p2 p3 p4 d b103) [(.int p0), (.ref d), (.ref b103)])) rfl (by rw [hml]; rfl) (Steps.refl _) (argsL := [(.ref d), (.int p0)]) (rest := []) (lenOf pd_1 rfl) rfl (by show 2 * 0 + _ ≤ _; exact Nat.le_of_eq rfl) (hb hby at_200) (fun _ _ => ⟨rfl, e121, Nat.le_of_ble_eq_true rfl, Nat.le_of_ble_eq_true rfl⟩)
  dsimp only [Pt.U, Pt.locs, Pt.cells, Pt.slots] at X132 l132 y132 z132 st132 hQ132
  subst l132 y132 z132
  obtain ⟨h132, e132⟩ : ∃ z, T132.heap = z := ⟨_, rfl⟩
  rw [e132] at hQ132
  obtain ⟨rfl, N132q, eq132⟩ := hQ132
  rw [eq132] at e132
  have N132 := Fr.app N121 N132q
  obtain ⟨fs, hr, hrun, hended, hW, hsame⟩ := X132.leave (v := some (.int (1 : Int32))) (fun h => by rw [Bd.returns] at h; cases h)
  refine ⟨_, _, pre0 _ ?_, hrun, hended, _, _, rfl, ?_, ⟨_, rfl⟩, hW, hsame.mono (by decide) (by decide)⟩
  · show SS pP eE belowS s₁ (mkF mM 0 (Lc_law_eq_0_1_0 p0 p2 p3 p4) []) _
    refine st102 _ ?_
    show SS pP eE belowS T102 (mkF mM 3 (Lc_law_eq_0_1_0 p0 p2 p3 p4) [(.ref d)]) _
    refine XS.astore X102.here hx rfl (hb hby at_3) rfl rfl (l' := (Lc_law_eq_0_1_1 p0 p2 p3 p4 d)) rfl ?_
    show SS pP eE belowS T102 (mkF mM 5 (Lc_law_eq_0_1_1 p0 p2 p3 p4 d) []) _
    refine st103 _ ?_
    show SS pP eE belowS T103 (mkF mM 8 (Lc_law_eq_0_1_1 p0 p2 p3 p4 d) [(.ref b103)]) _
    refine XS.dup X103.here hx rfl (hb hby at_8) rfl rfl ?_
    show SS pP eE belowS T103 (mkF mM 9 (Lc_law_eq_0_1_1 p0 p2 p3 p4 d) [(.ref b103), (.ref b103)]) _
    refine st104.trans ?_
    show SS pP eE belowS T104 (mkF mM 12 (Lc_law_eq_0_1_1 p0 p2 p3 p4 d) [(.ref b103)]) _
    refine XS.astore X104.here hx rfl (hb hby at_12) rfl rfl (l' := (Lc_law_eq_0_1_2 p0 p2 p3 p4 d b103)) rfl ?_
    show SS pP eE belowS T104 (mkF mM 14 (Lc_law_eq_0_1_2 p0 p2 p3 p4 d b103) []) _
    refine XS.aload X104.here hx rfl (hb hby at_14) rfl rfl ?_
    show SS pP eE belowS T104 (mkF mM 16 (Lc_law_eq_0_1_2 p0 p2 p3 p4 d b103) [(.ref b103)]) _
    refine XS.aload X104.here hx rfl (hb hby at_16) rfl rfl ?_
    show SS pP eE belowS T104 (mkF mM 18 (Lc_law_eq_0_1_2 p0 p2 p3 p4 d b103) [(.ref d), (.ref b103)]) _
    refine XS.iloadN X104.here hx rfl (hb hby at_18) rfl ?_
    show SS pP eE belowS T104 (mkF mM 19 (Lc_law_eq_0_1_2 p0 p2 p3 p4 d b103) [(.int p0), (.ref d), (.ref b103)]) _
    refine st107.trans ?_
    show SS pP eE belowS T107 (mkF mM 22 (Lc_law_eq_0_1_2 p0 p2 p3 p4 d b103) [(.int (0 : Int32))]) _
    refine XS.istore X107.here hx rfl (hb hby at_22) rfl (l' := (Lc_law_eq_0_1_3 p0 p2 p3 p4 d b103)) rfl ?_
    show SS pP eE belowS T107 (mkF mM 24 (Lc_law_eq_0_1_3 p0 p2 p3 p4 d b103) []) _
    refine XS.aload X107.here hx rfl (hb hby at_24) rfl rfl ?_
    show SS pP eE belowS T107 (mkF mM 26 (Lc_law_eq_0_1_3 p0 p2 p3 p4 d b103) [(.ref b103)]) _
    refine XS.aload X107.here hx rfl (hb hby at_26) rfl rfl ?_
    show SS pP eE belowS T107 (mkF mM 28 (Lc_law_eq_0_1_3 p0 p2 p3 p4 d b103) [(.ref d), (.ref b103)]) _
    refine XS.iloadN X107.here hx rfl (hb hby at_28) rfl ?_
    show SS pP eE belowS T107 (mkF mM 29 (Lc_law_eq_0_1_3 p0 p2 p3 p4 d b103) [(.int p0), (.ref d), (.ref b103)]) _
    refine st112.trans ?_
    show SS pP eE belowS T112 (mkF mM 32 (Lc_law_eq_0_1_3 p0 p2 p3 p4 d b103) [(.int (-1 : Int32))]) _
    refine XS.istore X112.here hx rfl (hb hby at_32) rfl (l' := (Lc_law_eq_0_1_4 p0 p2 p3 p4 d b103)) rfl ?_
    show SS pP eE belowS T112 (mkF mM 34 (Lc_law_eq_0_1_4 p0 p2 p3 p4 d b103) []) _
    refine XS.iload X112.here hx rfl (hb hby at_34) rfl ?_
    show SS pP eE belowS T112 (mkF mM 36 (Lc_law_eq_0_1_4 p0 p2 p3 p4 d b103) [(.int (0 : Int32))]) _
    refine XS.ifYes X112.here hx rfl (pc0 := 36) (pc' := 41) rfl (hb hby at_36) rfl ((if0 _ _).trans (teq (by decide : (0 : Int32) = (0 : Int32))).1) (by decide) (by decide) ?_
    show SS pP eE belowS T112 (mkF mM 41 (Lc_law_eq_0_1_4 p0 p2 p3 p4 d b103) []) _
    refine XS.iload X112.here hx rfl (hb hby at_41) rfl ?_
    show SS pP eE belowS T112 (mkF mM 43 (Lc_law_eq_0_1_4 p0 p2 p3 p4 d b103) [(.int (-1 : Int32))]) _
    refine XS.iloadN X112.here hx rfl (hb hby at_43) rfl ?_
    show SS pP eE belowS T112 (mkF mM 44 (Lc_law_eq_0_1_4 p0 p2 p3 p4 d b103) [(.int p0), (.int (-1 : Int32))]) _
    refine XS.iloadN X112.here hx rfl (hb hby at_44) rfl ?_
    show SS pP eE belowS T112 (mkF mM 45 (Lc_law_eq_0_1_4 p0 p2 p3 p4 d b103) [(.int p0), (.int p0), (.int (-1 : Int32))]) _
    refine XS.icmpYes X112.here hx rfl (pc0 := 45) (pc' := 52) rfl (hb hby at_45) rfl (flt (Int32.lt_irrefl : ¬ (p0 < p0))).2.2.2 (by decide) (by decide) ?_
    show SS pP eE belowS T112 (mkF mM 52 (Lc_law_eq_0_1_4 p0 p2 p3 p4 d b103) [(.int (-1 : Int32))]) _
    refine XS.iconst X112.here hx rfl (hb hby at_52) ?_
    show SS pP eE belowS T112 (mkF mM 53 (Lc_law_eq_0_1_4 p0 p2 p3 p4 d b103) [(.int (-1 : Int32)), (.int (-1 : Int32))]) _
    refine XS.icmpYes X112.here hx rfl (pc0 := 53) (pc' := 58) rfl (hb hby at_53) rfl (teq (by decide : (-1 : Int32) = (-1 : Int32))).1 (by decide) (by decide) ?_
    show SS pP eE belowS T112 (mkF mM 58 (Lc_law_eq_0_1_4 p0 p2 p3 p4 d b103) []) _
    refine XS.iload X112.here hx rfl (hb hby at_58) rfl ?_
    show SS pP eE belowS T112 (mkF mM 60 (Lc_law_eq_0_1_4 p0 p2 p3 p4 d b103) [(.int p4)]) _
    refine XS.iconst X112.here hx rfl (hb hby at_60) ?_
    show SS pP eE belowS T112 (mkF mM 61 (Lc_law_eq_0_1_4 p0 p2 p3 p4 d b103) [(.int (3 : Int32)), (.int p4)]) _
    refine XS.iand X112.here hx rfl (hb hby at_61) rfl ?_
    show SS pP eE belowS T112 (mkF mM 62 (Lc_law_eq_0_1_4 p0 p2 p3 p4 d b103) [(.int (p4 &&& (3 : Int32)))]) _
    refine XS.istore X112.here hx rfl (hb hby at_62) rfl (l' := (Lc_law_eq_0_1_5 p0 p2 p3 p4 d b103)) rfl ?_
    show SS pP eE belowS T112 (mkF mM 64 (Lc_law_eq_0_1_5 p0 p2 p3 p4 d b103) []) _
    refine XS.iload X112.here hx rfl (hb hby at_64) rfl ?_
    show SS pP eE belowS T112 (mkF mM 66 (Lc_law_eq_0_1_5 p0 p2 p3 p4 d b103) [(.int (p4 &&& (3 : Int32)))]) _
    refine XS.ifNo X112.here hx rfl (hb hby at_66) rfl ((if0 _ _).trans (teq hc66).2) ?_
    show SS pP eE belowS T112 (mkF mM 69 (Lc_law_eq_0_1_5 p0 p2 p3 p4 d b103) []) _
    refine XS.iload X112.here hx rfl (hb hby at_69) rfl ?_
    show SS pP eE belowS T112 (mkF mM 71 (Lc_law_eq_0_1_5 p0 p2 p3 p4 d b103) [(.int (0 : Int32))]) _
    refine XS.goto X112.here hx rfl (pc0 := 71) (pc' := 86) rfl (hb hby at_71) (by decide) (by decide) ?_
    show SS pP eE belowS T112 (mkF mM 86 (Lc_law_eq_0_1_5 p0 p2 p3 p4 d b103) [(.int (0 : Int32))]) _
    refine XS.istore X112.here hx rfl (hb hby at_86) rfl (l' := (Lc_law_eq_0_1_6 p0 p2 p3 p4 d b103)) rfl ?_
    show SS pP eE belowS T112 (mkF mM 88 (Lc_law_eq_0_1_6 p0 p2 p3 p4 d b103) []) _
    refine XS.iload X112.here hx rfl (hb hby at_88) rfl ?_
    show SS pP eE belowS T112 (mkF mM 90 (Lc_law_eq_0_1_6 p0 p2 p3 p4 d b103) [(.int p4)]) _
    refine XS.iconst X112.here hx rfl (hb hby at_90) ?_
    show SS pP eE belowS T112 (mkF mM 91 (Lc_law_eq_0_1_6 p0 p2 p3 p4 d b103) [(.int (2 : Int32)), (.int p4)]) _
    refine XS.ishr X112.here hx rfl (hb hby at_91) rfl ?_
    show SS pP eE belowS T112 (mkF mM 92 (Lc_law_eq_0_1_6 p0 p2 p3 p4 d b103) [(.int (p4 >>> ((2 : Int32) &&& 31)))]) _
    refine XS.iconst X112.here hx rfl (hb hby at_92) ?_
    show SS pP eE belowS T112 (mkF mM 93 (Lc_law_eq_0_1_6 p0 p2 p3 p4 d b103) [(.int (1 : Int32)), (.int (p4 >>> ((2 : Int32) &&& 31)))]) _
    refine XS.iand X112.here hx rfl (hb hby at_93) rfl ?_
    show SS pP eE belowS T112 (mkF mM 94 (Lc_law_eq_0_1_6 p0 p2 p3 p4 d b103) [(.int ((p4 >>> ((2 : Int32) &&& 31)) &&& (1 : Int32)))]) _
    refine XS.ifNo X112.here hx rfl (hb hby at_94) rfl ((if0 _ _).trans (feq hc94).1) ?_
    show SS pP eE belowS T112 (mkF mM 97 (Lc_law_eq_0_1_6 p0 p2 p3 p4 d b103) []) _
    refine XS.iconst X112.here hx rfl (hb hby at_97) ?_
    show SS pP eE belowS T112 (mkF mM 98 (Lc_law_eq_0_1_6 p0 p2 p3 p4 d b103) [(.int (1 : Int32))]) _
    refine XS.goto X112.here hx rfl (pc0 := 98) (pc' := 102) rfl (hb hby at_98) (by decide) (by decide) ?_
    show SS pP eE belowS T112 (mkF mM 102 (Lc_law_eq_0_1_6 p0 p2 p3 p4 d b103) [(.int (1 : Int32))]) _
    refine XS.istore X112.here hx rfl (hb hby at_102) rfl (l' := (Lc_law_eq_0_1_7 p0 p2 p3 p4 d b103)) rfl ?_
    show SS pP eE belowS T112 (mkF mM 104 (Lc_law_eq_0_1_7 p0 p2 p3 p4 d b103) []) _
    refine XS.aload X112.here hx rfl (hb hby at_104) rfl rfl ?_
    show SS pP eE belowS T112 (mkF mM 106 (Lc_law_eq_0_1_7 p0 p2 p3 p4 d b103) [(.ref b103)]) _
    refine XS.iload X112.here hx rfl (hb hby at_106) rfl ?_
    show SS pP eE belowS T112 (mkF mM 108 (Lc_law_eq_0_1_7 p0 p2 p3 p4 d b103) [(.int (0 : Int32)), (.ref b103)]) _
    refine XS.iloadN X112.here hx rfl (hb hby at_108) rfl ?_
    show SS pP eE belowS T112 (mkF mM 109 (Lc_law_eq_0_1_7 p0 p2 p3 p4 d b103) [(.int p2), (.int (0 : Int32)), (.ref b103)]) _
    refine st117.trans ?_
    show SS pP eE belowS T117 (mkF mM 112 (Lc_law_eq_0_1_7 p0 p2 p3 p4 d b103) []) _
    refine XS.iload X117.here hx rfl (hb hby at_112) rfl ?_
    show SS pP eE belowS T117 (mkF mM 114 (Lc_law_eq_0_1_7 p0 p2 p3 p4 d b103) [(.int (1 : Int32))]) _
    refine XS.ifNo X117.here hx rfl (hb hby at_114) rfl ((if0 _ _).trans (feq (by decide : ¬ ((1 : Int32) = (0 : Int32)))).1) ?_
    show SS pP eE belowS T117 (mkF mM 117 (Lc_law_eq_0_1_7 p0 p2 p3 p4 d b103) []) _
    refine XS.aload X117.here hx rfl (hb hby at_117) rfl rfl ?_
    show SS pP eE belowS T117 (mkF mM 119 (Lc_law_eq_0_1_7 p0 p2 p3 p4 d b103) [(.ref b103)]) _
    refine XS.iload X117.here hx rfl (hb hby at_119) rfl ?_
    show SS pP eE belowS T117 (mkF mM 121 (Lc_law_eq_0_1_7 p0 p2 p3 p4 d b103) [(.int (0 : Int32)), (.ref b103)]) _
    refine XS.iloadN X117.here hx rfl (hb hby at_121) rfl ?_
    show SS pP eE belowS T117 (mkF mM 122 (Lc_law_eq_0_1_7 p0 p2 p3 p4 d b103) [(.int p3), (.int (0 : Int32)), (.ref b103)]) _
    refine st118.trans ?_
    show SS pP eE belowS T118 (mkF mM 125 (Lc_law_eq_0_1_7 p0 p2 p3 p4 d b103) []) _
    refine XS.iload X118.here hx rfl (hb hby at_125) rfl ?_
    show SS pP eE belowS T118 (mkF mM 127 (Lc_law_eq_0_1_7 p0 p2 p3 p4 d b103) [(.int (1 : Int32))]) _
    refine XS.ifNo X118.here hx rfl (hb hby at_127) rfl ((if0 _ _).trans (feq (by decide : ¬ ((1 : Int32) = (0 : Int32)))).1) ?_
    show SS pP eE belowS T118 (mkF mM 130 (Lc_law_eq_0_1_7 p0 p2 p3 p4 d b103) []) _
    refine XS.iloadN X118.here hx rfl (hb hby at_130) rfl ?_
    show SS pP eE belowS T118 (mkF mM 131 (Lc_law_eq_0_1_7 p0 p2 p3 p4 d b103) [(.int p3)]) _
    refine XS.goto X118.here hx rfl (pc0 := 131) (pc' := 144) rfl (hb hby at_131) (by decide) (by decide) ?_
    show SS pP eE belowS T118 (mkF mM 144 (Lc_law_eq_0_1_7 p0 p2 p3 p4 d b103) [(.int p3)]) _
    refine XS.istore X118.here hx rfl (hb hby at_144) rfl (l' := (Lc_law_eq_0_1_8 p0 p2 p3 p4 d b103)) rfl ?_
    show SS pP eE belowS T118 (mkF mM 146 (Lc_law_eq_0_1_8 p0 p2 p3 p4 d b103) []) _
    refine XS.iloadN X118.here hx rfl (hb hby at_146) rfl ?_
    show SS pP eE belowS T118 (mkF mM 147 (Lc_law_eq_0_1_8 p0 p2 p3 p4 d b103) [(.int p0)]) _
    refine XS.iloadN X118.here hx rfl (hb hby at_147) rfl ?_
    show SS pP eE belowS T118 (mkF mM 148 (Lc_law_eq_0_1_8 p0 p2 p3 p4 d b103) [(.int p0), (.int p0)]) _
    refine XS.icmpYes X118.here hx rfl (pc0 := 148) (pc' := 167) rfl (hb hby at_148) rfl (flt (Int32.lt_irrefl : ¬ (p0 < p0))).2.2.2 (by decide) (by decide) ?_
    show SS pP eE belowS T118 (mkF mM 167 (Lc_law_eq_0_1_8 p0 p2 p3 p4 d b103) []) _
    refine XS.iloadN X118.here hx rfl (hb hby at_167) rfl ?_
    show SS pP eE belowS T118 (mkF mM 168 (Lc_law_eq_0_1_8 p0 p2 p3 p4 d b103) [(.int p0)]) _
    refine XS.iloadN X118.here hx rfl (hb hby at_168) rfl ?_
    show SS pP eE belowS T118 (mkF mM 169 (Lc_law_eq_0_1_8 p0 p2 p3 p4 d b103) [(.int p0), (.int p0)]) _
    refine XS.icmpNo X118.here hx rfl (hb hby at_169) rfl (teq (rfl : p0 = p0)).2 ?_
    show SS pP eE belowS T118 (mkF mM 172 (Lc_law_eq_0_1_8 p0 p2 p3 p4 d b103) []) _
    refine XS.iload X118.here hx rfl (hb hby at_172) rfl ?_
    show SS pP eE belowS T118 (mkF mM 174 (Lc_law_eq_0_1_8 p0 p2 p3 p4 d b103) [(.int p3)]) _
    refine XS.istore X118.here hx rfl (hb hby at_174) rfl (l' := (Lc_law_eq_0_1_9 p0 p2 p3 p4 d b103)) rfl ?_
    show SS pP eE belowS T118 (mkF mM 176 (Lc_law_eq_0_1_9 p0 p2 p3 p4 d b103) []) _
    refine XS.goto X118.here hx rfl (pc0 := 176) (pc' := 182) rfl (hb hby at_176) (by decide) (by decide) ?_
    show SS pP eE belowS T118 (mkF mM 182 (Lc_law_eq_0_1_9 p0 p2 p3 p4 d b103) []) _
    refine XS.aload X118.here hx rfl (hb hby at_182) rfl rfl ?_
    show SS pP eE belowS T118 (mkF mM 184 (Lc_law_eq_0_1_9 p0 p2 p3 p4 d b103) [(.ref b103)]) _
    refine XS.aload X118.here hx rfl (hb hby at_184) rfl rfl ?_
    show SS pP eE belowS T118 (mkF mM 186 (Lc_law_eq_0_1_9 p0 p2 p3 p4 d b103) [(.ref d), (.ref b103)]) _
    refine XS.iloadN X118.here hx rfl (hb hby at_186) rfl ?_
    show SS pP eE belowS T118 (mkF mM 187 (Lc_law_eq_0_1_9 p0 p2 p3 p4 d b103) [(.int p0), (.ref d), (.ref b103)]) _
    refine st121.trans ?_
    show SS pP eE belowS T121 (mkF mM 190 (Lc_law_eq_0_1_9 p0 p2 p3 p4 d b103) [(.int p3)]) _
    refine XS.iload X121.here hx rfl (hb hby at_190) rfl ?_
    show SS pP eE belowS T121 (mkF mM 192 (Lc_law_eq_0_1_9 p0 p2 p3 p4 d b103) [(.int p3), (.int p3)]) _
    refine XS.icmpNo X121.here hx rfl (hb hby at_192) rfl (teq (rfl : p3 = p3)).2 ?_
    show SS pP eE belowS T121 (mkF mM 195 (Lc_law_eq_0_1_9 p0 p2 p3 p4 d b103) []) _
    refine XS.aload X121.here hx rfl (hb hby at_195) rfl rfl ?_
    show SS pP eE belowS T121 (mkF mM 197 (Lc_law_eq_0_1_9 p0 p2 p3 p4 d b103) [(.ref b103)]) _
    refine XS.aload X121.here hx rfl (hb hby at_197) rfl rfl ?_
    show SS pP eE belowS T121 (mkF mM 199 (Lc_law_eq_0_1_9 p0 p2 p3 p4 d b103) [(.ref d), (.ref b103)]) _
    refine XS.iloadN X121.here hx rfl (hb hby at_199) rfl ?_
    show SS pP eE belowS T121 (mkF mM 200 (Lc_law_eq_0_1_9 p0 p2 p3 p4 d b103) [(.int p0), (.ref d), (.ref b103)]) _
    refine st132.trans ?_
    show SS pP eE belowS T132 (mkF mM 203 (Lc_law_eq_0_1_9 p0 p2 p3 p4 d b103) [(.int p3)]) _
    refine XS.iload X132.here hx rfl (hb hby at_203) rfl ?_
    show SS pP eE belowS T132 (mkF mM 205 (Lc_law_eq_0_1_9 p0 p2 p3 p4 d b103) [(.int p3), (.int p3)]) _
    refine XS.icmpNo X132.here hx rfl (hb hby at_205) rfl (teq (rfl : p3 = p3)).2 ?_
    show SS pP eE belowS T132 (mkF mM 208 (Lc_law_eq_0_1_9 p0 p2 p3 p4 d b103) []) _
    refine XS.iconst X132.here hx rfl (hb hby at_208) ?_
    show SS pP eE belowS T132 (mkF mM 209 (Lc_law_eq_0_1_9 p0 p2 p3 p4 d b103) [(.int (1 : Int32))]) _
    refine XS.goto X132.here hx rfl (pc0 := 209) (pc' := 213) rfl (hb hby at_209) (by decide) (by decide) ?_
    show SS pP eE belowS T132 (mkF mM 213 (Lc_law_eq_0_1_9 p0 p2 p3 p4 d b103) [(.int (1 : Int32))]) _
    exact retN X132 hx (t := .boolean) Bd.returns (by simp) (hb hby at_213) hr
  · exact ⟨rfl, N132⟩

abbrev Lc_law_eq_1_0_0 (p0 : Int32) (p2 : Int32) (p3 : Int32) (p4 : Int32) : Array Slot := #[.val (.int p0), .val (.int p0), .val (.int p2), .val (.int p3), .val (.int p4), .unset, .unset, .unset, .unset, .unset, .unset, .unset, .unset, .unset]
abbrev Lc_law_eq_1_0_1 (p0 : Int32) (p2 : Int32) (p3 : Int32) (p4 : Int32) (d : Addr) : Array Slot := #[.val (.int p0), .val (.int p0), .val (.int p2), .val (.int p3), .val (.int p4), .val (.ref d), .unset, .unset, .unset, .unset, .unset, .unset, .unset, .unset]
abbrev Lc_law_eq_1_0_2 (p0 : Int32) (p2 : Int32) (p3 : Int32) (p4 : Int32) (d : Addr) (b103 : Addr) : Array Slot := #[.val (.int p0), .val (.int p0), .val (.int p2), .val (.int p3), .val (.int p4), .val (.ref d), .val (.ref b103), .unset, .unset, .unset, .unset, .unset, .unset, .unset]
abbrev Lc_law_eq_1_0_3 (p0 : Int32) (p2 : Int32) (p3 : Int32) (p4 : Int32) (d : Addr) (b103 : Addr) : Array Slot := #[.val (.int p0), .val (.int p0), .val (.int p2), .val (.int p3), .val (.int p4), .val (.ref d), .val (.ref b103), .val (.int (0 : Int32)), .unset, .unset, .unset, .unset, .unset, .unset]
abbrev Lc_law_eq_1_0_4 (p0 : Int32) (p2 : Int32) (p3 : Int32) (p4 : Int32) (d : Addr) (b103 : Addr) : Array Slot := #[.val (.int p0), .val (.int p0), .val (.int p2), .val (.int p3), .val (.int p4), .val (.ref d), .val (.ref b103), .val (.int (0 : Int32)), .val (.int (-1 : Int32)), .unset, .unset, .unset, .unset, .unset]
abbrev Lc_law_eq_1_0_5 (p0 : Int32) (p2 : Int32) (p3 : Int32) (p4 : Int32) (d : Addr) (b103 : Addr) : Array Slot := #[.val (.int p0), .val (.int p0), .val (.int p2), .val (.int p3), .val (.int p4), .val (.ref d), .val (.ref b103), .val (.int (0 : Int32)), .val (.int (-1 : Int32)), .val (.int (p4 &&& (3 : Int32))), .unset, .unset, .unset, .unset]
abbrev Lc_law_eq_1_0_6 (p0 : Int32) (p2 : Int32) (p3 : Int32) (p4 : Int32) (d : Addr) (b103 : Addr) : Array Slot := #[.val (.int p0), .val (.int p0), .val (.int p2), .val (.int p3), .val (.int p4), .val (.ref d), .val (.ref b103), .val (.int (0 : Int32)), .val (.int (-1 : Int32)), .val (.int (p4 &&& (3 : Int32))), .val (.int (-1 : Int32)), .unset, .unset, .unset]
abbrev Lc_law_eq_1_0_7 (p0 : Int32) (p2 : Int32) (p3 : Int32) (p4 : Int32) (d : Addr) (b103 : Addr) : Array Slot := #[.val (.int p0), .val (.int p0), .val (.int p2), .val (.int p3), .val (.int p4), .val (.ref d), .val (.ref b103), .val (.int (0 : Int32)), .val (.int (-1 : Int32)), .val (.int (p4 &&& (3 : Int32))), .val (.int (-1 : Int32)), .val (.int (0 : Int32)), .unset, .unset]
abbrev Lc_law_eq_1_0_8 (p0 : Int32) (p2 : Int32) (p3 : Int32) (p4 : Int32) (d : Addr) (b103 : Addr) : Array Slot := #[.val (.int p0), .val (.int p0), .val (.int p2), .val (.int p3), .val (.int p4), .val (.ref d), .val (.ref b103), .val (.int (0 : Int32)), .val (.int (-1 : Int32)), .val (.int (p4 &&& (3 : Int32))), .val (.int (-1 : Int32)), .val (.int (0 : Int32)), .val (.int (-1 : Int32)), .unset]
abbrev Lc_law_eq_1_0_9 (p0 : Int32) (p2 : Int32) (p3 : Int32) (p4 : Int32) (d : Addr) (b103 : Addr) : Array Slot := #[.val (.int p0), .val (.int p0), .val (.int p2), .val (.int p3), .val (.int p4), .val (.ref d), .val (.ref b103), .val (.int (0 : Int32)), .val (.int (-1 : Int32)), .val (.int (p4 &&& (3 : Int32))), .val (.int (-1 : Int32)), .val (.int (0 : Int32)), .val (.int (-1 : Int32)), .val (.int (-1 : Int32))]
theorem ef_law_eq_1_0 (mM : MethodId) (p0 : Int32) (p2 : Int32) (p3 : Int32) (p4 : Int32) (aN : Addr) (kN : ClassId) (d : Addr) : entryFrame mM #[(.int p0), (.int p0), (.int p2), (.int p3), (.int p4)] maxLocals = mkF mM 0 #[.val (.int p0), .val (.int p0), .val (.int p2), .val (.int p3), .val (.int p4), .unset, .unset, .unset, .unset, .unset, .unset, .unset, .unset, .unset] [] := by first | (simp [entryFrame, mkF, argsToLocals, Value.category, maxLocals]; done) | rfl
set_option maxRecDepth 65536 in
set_option maxHeartbeats 40000000 in
theorem rm_law_eq_1_0 (l : Launch) (Z : State) (a0 : Array Value) (hw : ∀ d ∈ tables_1, d.before a0 Z = true) (ws : List Jvm.Cond) (p0 : Int32) (p2 : Int32) (p3 : Int32) (p4 : Int32) (aN : Addr) (kN : ClassId) (d : Addr) (h0 : Heap) (n0 : Nat) (Z0 : n0 ≤ h0.size) (OL : Old Z n0 h0) (S_DEFAULT : Sta Z Z.heap "com/example/macroweave/macroweave/Brackets" "DEFAULT" "Lcom/example/macroweave/macroweave/Brackets;" (.ref d)) (S_NONE : Sta Z Z.heap "com/example/macroweave/macroweave/BracketPairs" "NONE" "[I" (.ref aN)) (V_aN : Arv Z h0 aN kN .int (0 : Int32) [] (.int (0 : Int32))) (hc66 : ¬ ((p4 &&& (3 : Int32)) = (0 : Int32))) (hc77 : (p4 &&& (3 : Int32)) = (1 : Int32)) (hc94 : ((p4 >>> ((2 : Int32) &&& 31)) &&& (1 : Int32)) = (0 : Int32)) :
    MetFree l x (head1 (Jvm.Cond.code x code maxLocals ret :: ws) room_1) (fun xa xU => xa = #[(.int p0), (.int p0), (.int p2), (.int p3), (.int p4)] ∧ Z.Warmed39 xU.vm ∧ xU.heap = h0) (fun _ _ _ _ _ => True) (fun _ xU xo xU' => ∃ xv xL, xo = .returned xv ∧ Q_law n0 xv xL ∧ FrameEnd xU xo xU' xL room_1.cells room_1.slots) := by
  refine MetFree.of_bodySF (plainFor_of_name pn_com_example_macroweave_macroweave_BracketPairsClosedPinLaw) hisR ?_
  intro pP eE sS mM argS belowS methS cC s₁ Bd hml0 hP hK
  obtain ⟨rfl, hZ, hh⟩ := hP
  have hx := Bd.exec
  have hby := Bd.bytes
  have hml : cC.maxLocals = 14 := hml0
  have hown : sS.vm.findClass "com/example/macroweave/macroweave/BracketPairsClosedPinLaw" = some mM.cls := findClass_of_methodNamed Bd.named
  have hnm := (name_of_methodNamed Bd.named Bd.method).1
  have X0 : Stand pP l eE room_1 sS mM #[(.int p0), (.int p0), (.int p2), (.int p3), (.int p4)] belowS methS cC s₁ [] 0 0 := Stand.of_body Bd
  have e0 : s₁.heap = h0 := by rw [← hh, Bd.state]; rfl
  have N0 := Fr.nil n0
  have pre0 : ∀ t', Steps pP.tables eE belowS (s₁.setTop (mkF mM 0 #[.val (.int p0), .val (.int p0), .val (.int p2), .val (.int p3), .val (.int p4), .unset, .unset, .unset, .unset, .unset, .unset, .unset, .unset, .unset] [])) t' → Steps pP.tables eE belowS (s₁.setTop (entryFrame mM #[(.int p0), (.int p0), (.int p2), (.int p3), (.int p4)] maxLocals)) t' := fun t' kk' => castTop (ef_law_eq_1_0 mM p0 p2 p3 p4 aN kN d) kk'
  have c101_S_DEFAULT : Sta Z h0 "com/example/macroweave/macroweave/Brackets" "DEFAULT" "Lcom/example/macroweave/macroweave/Brackets;" (.ref d) := Sta.ext OL.2 S_DEFAULT
  obtain ⟨T102, X102, e102, st102⟩ := getS2 X0 hx hZ hown (host := "") (Or.inl (wi hw 0 rfl)) Via.refl e0 c101_S_DEFAULT (g := (mkF mM 0 (Lc_law_eq_1_0_0 p0 p2 p3 p4) [])) rfl (hb hby at_0)
  obtain ⟨T103, h103, X103, e103, E103, A103, D103, B103, st103⟩ := newO X102 hx hZ hown (wi hw 3 rfl) (wi hw 4 rfl) (wi hw 5 rfl) e102 (g := (mkF mM 5 (Lc_law_eq_1_0_1 p0 p2 p3 p4 d) [])) rfl (hb hby at_5) (by decide) (by decide)
  obtain ⟨b103, g103⟩ : ∃ z : Nat, z = h0.size := ⟨_, rfl⟩
  rw [← g103] at A103 D103 B103 st103
  have Sz1 : h0.size ≤ h103.size := E103.1
  have F103_contentStarts : Fld Z h103 b103 "com/example/macroweave/macroweave/BracketPairs" "contentStarts" "[I" .null := D103 (Or.inl (wi hw 15 rfl)) (ty := (.array .int)) (by decide)
  have F103_closes : Fld Z h103 b103 "com/example/macroweave/macroweave/BracketPairs" "closes" "[I" .null := D103 (Or.inl (wi hw 17 rfl)) (ty := (.array .int)) (by decide)
  have F103_brackets : Fld Z h103 b103 "com/example/macroweave/macroweave/BracketPairs" "brackets" "Lcom/example/macroweave/macroweave/Brackets;" .null := D103 (Or.inl (wi hw 24 rfl)) (ty := (.object "com/example/macroweave/macroweave/Brackets")) (by decide)
  have F103_size : Fld Z h103 b103 "com/example/macroweave/macroweave/BracketPairs" "size" "I" (.int (0 : Int32)) := D103 (Or.inl (wi hw 26 rfl)) (ty := .int) (by decide)
  have c105_OL : Old Z n0 h103 := OL.ext E103
  have ge106_b103 : @LE.le Nat _ n0 b103 := by omega
  obtain ⟨_, _, ⟨T104, L104, k104, n104⟩, -, X104, ⟨Lc104, hQ104, l104, y104, z104⟩, st104⟩ := X103.specialBack hx (y := (⟨"com/example/macroweave/macroweave/BracketPairs", "<init>", "()V"⟩ : MethodName)) rfl hown (mvT hZ (wi hw 6 rfl)) (mvT hZ (wi hw 7 rfl)) (mvT hZ (wi hw 8 rfl)) (by decide) (backOf (W := 1) (rm_init l Z a0 hw [] b103 aN .null .null .null (.int (0 : Int32)) h103 n0 (by omega) A103 F103_contentStarts F103_closes F103_brackets F103_size ge106_b103 c105_OL S_NONE) hZ (wi hw 8 rfl) (wi hw 5 rfl) (by decide) (by decide)) (g := (mkF mM 9 (Lc_law_eq_1_0_1 p0 p2 p3 p4 d) [(.ref b103), (.ref b103)])) rfl (by rw [hml]; rfl) (Steps.refl _) (a := b103) (argsL := []) (rest := [(.ref b103)]) (lenOf pd_0 rfl) rfl (by show 2 * 0 + _ ≤ _; exact Nat.le_of_eq rfl) (hb hby at_9) (fun _ _ => ⟨rfl, e103, Nat.le_of_ble_eq_true rfl, Nat.le_of_ble_eq_true rfl⟩)
  dsimp only [Pt.U, Pt.locs, Pt.cells, Pt.slots] at X104 l104 y104 z104 st104 hQ104
  subst l104 y104 z104
  obtain ⟨h104, e104⟩ : ∃ z, T104.heap = z := ⟨_, rfl⟩
  rw [e104] at hQ104
  obtain ⟨rfl, N104q, Kp104, p104_E_a1, p104_F_contentStarts_a1, p104_F_closes_a1, p104_F_brackets_a1, p104_F_size_a1⟩ := hQ104
  have Sz2 : h103.size ≤ h104.size := Kp104.1
  have N104 := Fr.app N0 N104q
  have c108_V_aN : Arv Z h103 aN kN .int (0 : Int32) [] (.int (0 : Int32)) := V_aN.ext E103
  have lt_aN : @LT.lt Nat _ aN h0.size := V_aN.lt
  have lt_b103 : @LT.lt Nat _ b103 h104.size := p104_E_a1.lt
  have ne_aN_b103_109 : aN ≠ b103 := (by omega : @Ne Nat aN b103)
  have c110_V_aN : Arv Z h104 aN kN .int (0 : Int32) [] (.int (0 : Int32)) := c108_V_aN.keep Kp104 (ninS ne_aN_b103_109 nin0)
  have ne_b103_aN_111 : b103 ≠ aN := (by omega : @Ne Nat b103 aN)
  obtain ⟨cq107, kq107, q107a, q107b, q107c⟩ := isOf hZ e104 p104_E_a1
  obtain ⟨_, _, ⟨T107, L107, k107, n107⟩, -, X107, ⟨Lc107, hQ107, l107, y107, z107⟩, st107⟩ := X104.virtualBack hx (y := (⟨"com/example/macroweave/macroweave/BracketPairs", "opened", "(Lcom/example/macroweave/macroweave/Brackets;I)I"⟩ : MethodName)) (z := (⟨"com/example/macroweave/macroweave/BracketPairs", "opened", "(Lcom/example/macroweave/macroweave/Brackets;I)I"⟩ : MethodName)) hown (mvT hZ (wi hw 18 rfl)) (mvT hZ (wi hw 19 rfl)) (notFace_of_selects (args := #[]) (mvT hZ (wi hw 21 rfl))) (mvT hZ (wi hw 21 rfl)) (mvT hZ (wi hw 20 rfl)) (by decide) (backOf (W := 0) (rm_open1 l Z a0 hw [] b103 d p0 aN kN h104 n0 (by omega) p104_E_a1 p104_F_brackets_a1 p104_F_contentStarts_a1 p104_F_closes_a1 p104_F_size_a1 c110_V_aN ne_b103_aN_111 ge106_b103) hZ (wi hw 22 rfl) (wi hw 5 rfl) (by decide) (by decide)) q107a q107c (g := (mkF mM 19 (Lc_law_eq_1_0_2 p0 p2 p3 p4 d b103) [(.int p0), (.ref d), (.ref b103)])) rfl (by rw [hml]; rfl) (Steps.refl _) (argsL := [(.ref d), (.int p0)]) (rest := []) (lenOf pd_1 rfl) rfl (by show 2 * 0 + _ ≤ _; exact Nat.le_of_eq rfl) (hb hby at_19) (fun _ _ => ⟨rfl, e104, Nat.le_of_ble_eq_true rfl, Nat.le_of_ble_eq_true rfl⟩)
  dsimp only [Pt.U, Pt.locs, Pt.cells, Pt.slots] at X107 l107 y107 z107 st107 hQ107
  subst l107 y107 z107
  obtain ⟨h107, e107⟩ : ∃ z, T107.heap = z := ⟨_, rfl⟩
  rw [e107] at hQ107
  obtain ⟨b1_107, b2_107, k1_107, k2_107, rfl, N107q, Kp107, p107_E_a1, p107_F_brackets_a1, p107_F_contentStarts_a1, p107_F_closes_a1, p107_F_size_a1, p107_V_b1, p107_V_b2, p107_gh_b1, p107_gh_b2, p107_ne_b1_b2⟩ := hQ107
  have Sz3 : h104.size ≤ h107.size := Kp107.1
  have N107 := Fr.app N104 N107q
  have lt_b1_107 : @LT.lt Nat _ b1_107 h107.size := p107_V_b1.lt
  have ne_b103_b1_107_113 : b103 ≠ b1_107 := (by omega : @Ne Nat b103 b1_107)
  have lt_b2_107 : @LT.lt Nat _ b2_107 h107.size := p107_V_b2.lt
  have ne_b103_b2_107_114 : b103 ≠ b2_107 := (by omega : @Ne Nat b103 b2_107)
  have ge115_b1_107 : @LE.le Nat _ n0 b1_107 := by omega
  have ge116_b2_107 : @LE.le Nat _ n0 b2_107 := by omega
  obtain ⟨cq112, kq112, q112a, q112b, q112c⟩ := isOf hZ e107 p107_E_a1
  obtain ⟨_, _, ⟨T112, L112, k112, n112⟩, -, X112, ⟨Lc112, hQ112, l112, y112, z112⟩, st112⟩ := X107.virtualBack hx (y := (⟨"com/example/macroweave/macroweave/BracketPairs", "opened", "(Lcom/example/macroweave/macroweave/Brackets;I)I"⟩ : MethodName)) (z := (⟨"com/example/macroweave/macroweave/BracketPairs", "opened", "(Lcom/example/macroweave/macroweave/Brackets;I)I"⟩ : MethodName)) hown (mvT hZ (wi hw 18 rfl)) (mvT hZ (wi hw 19 rfl)) (notFace_of_selects (args := #[]) (mvT hZ (wi hw 21 rfl))) (mvT hZ (wi hw 21 rfl)) (mvT hZ (wi hw 20 rfl)) (by decide) (backOf (W := 0) (rm_open2n l Z a0 hw [] b103 d p0 p0 b1_107 b2_107 k1_107 k2_107 h107 n0 (by omega) p107_E_a1 p107_F_brackets_a1 p107_F_contentStarts_a1 p107_F_closes_a1 p107_F_size_a1 p107_V_b1 p107_V_b2 ne_b103_b1_107_113 ne_b103_b2_107_114 p107_ne_b1_b2 ge106_b103 ge115_b1_107 ge116_b2_107 (Int32.lt_irrefl)) hZ (wi hw 22 rfl) (wi hw 5 rfl) (by decide) (by decide)) q112a q112c (g := (mkF mM 29 (Lc_law_eq_1_0_3 p0 p2 p3 p4 d b103) [(.int p0), (.ref d), (.ref b103)])) rfl (by rw [hml]; rfl) (Steps.refl _) (argsL := [(.ref d), (.int p0)]) (rest := []) (lenOf pd_1 rfl) rfl (by show 2 * 0 + _ ≤ _; exact Nat.le_of_eq rfl) (hb hby at_29) (fun _ _ => ⟨rfl, e107, Nat.le_of_ble_eq_true rfl, Nat.le_of_ble_eq_true rfl⟩)
  dsimp only [Pt.U, Pt.locs, Pt.cells, Pt.slots] at X112 l112 y112 z112 st112 hQ112
  subst l112 y112 z112
  obtain ⟨h112, e112⟩ : ∃ z, T112.heap = z := ⟨_, rfl⟩
  rw [e112] at hQ112
  obtain ⟨rfl, N112q, eq112⟩ := hQ112
  rw [eq112] at e112
  have N112 := Fr.app N107 N112q
  obtain ⟨cq117, kq117, q117a, q117b, q117c⟩ := isOf hZ e112 p107_E_a1
  obtain ⟨_, _, ⟨T117, L117, k117, n117⟩, -, X117, ⟨Lc117, hQ117, l117, y117, z117⟩, st117⟩ := X112.virtualBack hx (y := (⟨"com/example/macroweave/macroweave/BracketPairs", "closed", "(II)V"⟩ : MethodName)) (z := (⟨"com/example/macroweave/macroweave/BracketPairs", "closed", "(II)V"⟩ : MethodName)) hown (mvT hZ (wi hw 43 rfl)) (mvT hZ (wi hw 44 rfl)) (notFace_of_selects (args := #[]) (mvT hZ (wi hw 46 rfl))) (mvT hZ (wi hw 46 rfl)) (mvT hZ (wi hw 45 rfl)) (by decide) (backOf (W := 0) (rm_closedn l Z a0 hw [] b103 p2 h107 n0 (by omega) ) hZ (wi hw 47 rfl) (wi hw 5 rfl) (by decide) (by decide)) q117a q117c (g := (mkF mM 109 (Lc_law_eq_1_0_7 p0 p2 p3 p4 d b103) [(.int p2), (.int (-1 : Int32)), (.ref b103)])) rfl (by rw [hml]; rfl) (Steps.refl _) (argsL := [(.int (-1 : Int32)), (.int p2)]) (rest := []) (lenOf pd_5 rfl) rfl (by show 2 * 0 + _ ≤ _; exact Nat.le_of_eq rfl) (hb hby at_109) (fun _ _ => ⟨rfl, e112, Nat.le_of_ble_eq_true rfl, Nat.le_of_ble_eq_true rfl⟩)
  dsimp only [Pt.U, Pt.locs, Pt.cells, Pt.slots] at X117 l117 y117 z117 st117 hQ117
  subst l117 y117 z117
  obtain ⟨h117, e117⟩ : ∃ z, T117.heap = z := ⟨_, rfl⟩
  rw [e117] at hQ117
  obtain ⟨rfl, N117q, eq117⟩ := hQ117
  rw [eq117] at e117
  have N117 := Fr.app N112 N117q
  obtain ⟨cq118, kq118, q118a, q118b, q118c⟩ := isOf hZ e117 p107_E_a1
  obtain ⟨_, _, ⟨T118, L118, k118, n118⟩, -, X118, ⟨Lc118, hQ118, l118, y118, z118⟩, st118⟩ := X117.virtualBack hx (y := (⟨"com/example/macroweave/macroweave/BracketPairs", "close", "(Lcom/example/macroweave/macroweave/Brackets;I)I"⟩ : MethodName)) (z := (⟨"com/example/macroweave/macroweave/BracketPairs", "close", "(Lcom/example/macroweave/macroweave/Brackets;I)I"⟩ : MethodName)) hown (mvT hZ (wi hw 48 rfl)) (mvT hZ (wi hw 49 rfl)) (notFace_of_selects (args := #[]) (mvT hZ (wi hw 51 rfl))) (mvT hZ (wi hw 51 rfl)) (mvT hZ (wi hw 50 rfl)) (by decide) (backOf (W := 0) (rm_close_1x l Z a0 hw [] b103 d b1_107 k1_107 p0 b2_107 k2_107 (-1 : Int32) (0 : Int32) h107 n0 (by omega) p107_F_brackets_a1 p107_F_contentStarts_a1 p107_F_closes_a1 p107_F_size_a1 p107_V_b1 p107_V_b2) hZ (wi hw 52 rfl) (wi hw 5 rfl) (by decide) (by decide)) q118a q118c (g := (mkF mM 187 (Lc_law_eq_1_0_9 p0 p2 p3 p4 d b103) [(.int p0), (.ref d), (.ref b103)])) rfl (by rw [hml]; rfl) (Steps.refl _) (argsL := [(.ref d), (.int p0)]) (rest := []) (lenOf pd_1 rfl) rfl (by show 2 * 0 + _ ≤ _; exact Nat.le_of_eq rfl) (hb hby at_187) (fun _ _ => ⟨rfl, e117, Nat.le_of_ble_eq_true rfl, Nat.le_of_ble_eq_true rfl⟩)
  dsimp only [Pt.U, Pt.locs, Pt.cells, Pt.slots] at X118 l118 y118 z118 st118 hQ118
  subst l118 y118 z118
  obtain ⟨h118, e118⟩ : ∃ z, T118.heap = z := ⟨_, rfl⟩
  rw [e118] at hQ118
  obtain ⟨rfl, N118q, eq118⟩ := hQ118
  rw [eq118] at e118
  have N118 := Fr.app N117 N118q
  obtain ⟨cq119, kq119, q119a, q119b, q119c⟩ := isOf hZ e118 p107_E_a1
  obtain ⟨_, _, ⟨T119, L119, k119, n119⟩, -, X119, ⟨Lc119, hQ119, l119, y119, z119⟩, st119⟩ := X118.virtualBack hx (y := (⟨"com/example/macroweave/macroweave/BracketPairs", "close", "(Lcom/example/macroweave/macroweave/Brackets;I)I"⟩ : MethodName)) (z := (⟨"com/example/macroweave/macroweave/BracketPairs", "close", "(Lcom/example/macroweave/macroweave/Brackets;I)I"⟩ : MethodName)) hown (mvT hZ (wi hw 48 rfl)) (mvT hZ (wi hw 49 rfl)) (notFace_of_selects (args := #[]) (mvT hZ (wi hw 51 rfl))) (mvT hZ (wi hw 51 rfl)) (mvT hZ (wi hw 50 rfl)) (by decide) (backOf (W := 0) (rm_close_1x l Z a0 hw [] b103 d b1_107 k1_107 p0 b2_107 k2_107 (-1 : Int32) (0 : Int32) h107 n0 (by omega) p107_F_brackets_a1 p107_F_contentStarts_a1 p107_F_closes_a1 p107_F_size_a1 p107_V_b1 p107_V_b2) hZ (wi hw 52 rfl) (wi hw 5 rfl) (by decide) (by decide)) q119a q119c (g := (mkF mM 200 (Lc_law_eq_1_0_9 p0 p2 p3 p4 d b103) [(.int p0), (.ref d), (.ref b103)])) rfl (by rw [hml]; rfl) (Steps.refl _) (argsL := [(.ref d), (.int p0)]) (rest := []) (lenOf pd_1 rfl) rfl (by show 2 * 0 + _ ≤ _; exact Nat.le_of_eq rfl) (hb hby at_200) (fun _ _ => ⟨rfl, e118, Nat.le_of_ble_eq_true rfl, Nat.le_of_ble_eq_true rfl⟩)
  dsimp only [Pt.U, Pt.locs, Pt.cells, Pt.slots] at X119 l119 y119 z119 st119 hQ119
  subst l119 y119 z119
  obtain ⟨h119, e119⟩ : ∃ z, T119.heap = z := ⟨_, rfl⟩
  rw [e119] at hQ119
  obtain ⟨rfl, N119q, eq119⟩ := hQ119
  rw [eq119] at e119
  have N119 := Fr.app N118 N119q
  obtain ⟨fs, hr, hrun, hended, hW, hsame⟩ := X119.leave (v := some (.int (1 : Int32))) (fun h => by rw [Bd.returns] at h; cases h)
  refine ⟨_, _, pre0 _ ?_, hrun, hended, _, _, rfl, ?_, ⟨_, rfl⟩, hW, hsame.mono (by decide) (by decide)⟩
  · show SS pP eE belowS s₁ (mkF mM 0 (Lc_law_eq_1_0_0 p0 p2 p3 p4) []) _
    refine st102 _ ?_
    show SS pP eE belowS T102 (mkF mM 3 (Lc_law_eq_1_0_0 p0 p2 p3 p4) [(.ref d)]) _
    refine XS.astore X102.here hx rfl (hb hby at_3) rfl rfl (l' := (Lc_law_eq_1_0_1 p0 p2 p3 p4 d)) rfl ?_
    show SS pP eE belowS T102 (mkF mM 5 (Lc_law_eq_1_0_1 p0 p2 p3 p4 d) []) _
    refine st103 _ ?_
    show SS pP eE belowS T103 (mkF mM 8 (Lc_law_eq_1_0_1 p0 p2 p3 p4 d) [(.ref b103)]) _
    refine XS.dup X103.here hx rfl (hb hby at_8) rfl rfl ?_
    show SS pP eE belowS T103 (mkF mM 9 (Lc_law_eq_1_0_1 p0 p2 p3 p4 d) [(.ref b103), (.ref b103)]) _
    refine st104.trans ?_
    show SS pP eE belowS T104 (mkF mM 12 (Lc_law_eq_1_0_1 p0 p2 p3 p4 d) [(.ref b103)]) _
    refine XS.astore X104.here hx rfl (hb hby at_12) rfl rfl (l' := (Lc_law_eq_1_0_2 p0 p2 p3 p4 d b103)) rfl ?_
    show SS pP eE belowS T104 (mkF mM 14 (Lc_law_eq_1_0_2 p0 p2 p3 p4 d b103) []) _
    refine XS.aload X104.here hx rfl (hb hby at_14) rfl rfl ?_
    show SS pP eE belowS T104 (mkF mM 16 (Lc_law_eq_1_0_2 p0 p2 p3 p4 d b103) [(.ref b103)]) _
    refine XS.aload X104.here hx rfl (hb hby at_16) rfl rfl ?_
    show SS pP eE belowS T104 (mkF mM 18 (Lc_law_eq_1_0_2 p0 p2 p3 p4 d b103) [(.ref d), (.ref b103)]) _
    refine XS.iloadN X104.here hx rfl (hb hby at_18) rfl ?_
    show SS pP eE belowS T104 (mkF mM 19 (Lc_law_eq_1_0_2 p0 p2 p3 p4 d b103) [(.int p0), (.ref d), (.ref b103)]) _
    refine st107.trans ?_
    show SS pP eE belowS T107 (mkF mM 22 (Lc_law_eq_1_0_2 p0 p2 p3 p4 d b103) [(.int (0 : Int32))]) _
    refine XS.istore X107.here hx rfl (hb hby at_22) rfl (l' := (Lc_law_eq_1_0_3 p0 p2 p3 p4 d b103)) rfl ?_
    show SS pP eE belowS T107 (mkF mM 24 (Lc_law_eq_1_0_3 p0 p2 p3 p4 d b103) []) _
    refine XS.aload X107.here hx rfl (hb hby at_24) rfl rfl ?_
    show SS pP eE belowS T107 (mkF mM 26 (Lc_law_eq_1_0_3 p0 p2 p3 p4 d b103) [(.ref b103)]) _
    refine XS.aload X107.here hx rfl (hb hby at_26) rfl rfl ?_
    show SS pP eE belowS T107 (mkF mM 28 (Lc_law_eq_1_0_3 p0 p2 p3 p4 d b103) [(.ref d), (.ref b103)]) _
    refine XS.iloadN X107.here hx rfl (hb hby at_28) rfl ?_
    show SS pP eE belowS T107 (mkF mM 29 (Lc_law_eq_1_0_3 p0 p2 p3 p4 d b103) [(.int p0), (.ref d), (.ref b103)]) _
    refine st112.trans ?_
    show SS pP eE belowS T112 (mkF mM 32 (Lc_law_eq_1_0_3 p0 p2 p3 p4 d b103) [(.int (-1 : Int32))]) _
    refine XS.istore X112.here hx rfl (hb hby at_32) rfl (l' := (Lc_law_eq_1_0_4 p0 p2 p3 p4 d b103)) rfl ?_
    show SS pP eE belowS T112 (mkF mM 34 (Lc_law_eq_1_0_4 p0 p2 p3 p4 d b103) []) _
    refine XS.iload X112.here hx rfl (hb hby at_34) rfl ?_
    show SS pP eE belowS T112 (mkF mM 36 (Lc_law_eq_1_0_4 p0 p2 p3 p4 d b103) [(.int (0 : Int32))]) _
    refine XS.ifYes X112.here hx rfl (pc0 := 36) (pc' := 41) rfl (hb hby at_36) rfl ((if0 _ _).trans (teq (by decide : (0 : Int32) = (0 : Int32))).1) (by decide) (by decide) ?_
    show SS pP eE belowS T112 (mkF mM 41 (Lc_law_eq_1_0_4 p0 p2 p3 p4 d b103) []) _
    refine XS.iload X112.here hx rfl (hb hby at_41) rfl ?_
    show SS pP eE belowS T112 (mkF mM 43 (Lc_law_eq_1_0_4 p0 p2 p3 p4 d b103) [(.int (-1 : Int32))]) _
    refine XS.iloadN X112.here hx rfl (hb hby at_43) rfl ?_
    show SS pP eE belowS T112 (mkF mM 44 (Lc_law_eq_1_0_4 p0 p2 p3 p4 d b103) [(.int p0), (.int (-1 : Int32))]) _
    refine XS.iloadN X112.here hx rfl (hb hby at_44) rfl ?_
    show SS pP eE belowS T112 (mkF mM 45 (Lc_law_eq_1_0_4 p0 p2 p3 p4 d b103) [(.int p0), (.int p0), (.int (-1 : Int32))]) _
    refine XS.icmpYes X112.here hx rfl (pc0 := 45) (pc' := 52) rfl (hb hby at_45) rfl (flt (Int32.lt_irrefl : ¬ (p0 < p0))).2.2.2 (by decide) (by decide) ?_
    show SS pP eE belowS T112 (mkF mM 52 (Lc_law_eq_1_0_4 p0 p2 p3 p4 d b103) [(.int (-1 : Int32))]) _
    refine XS.iconst X112.here hx rfl (hb hby at_52) ?_
    show SS pP eE belowS T112 (mkF mM 53 (Lc_law_eq_1_0_4 p0 p2 p3 p4 d b103) [(.int (-1 : Int32)), (.int (-1 : Int32))]) _
    refine XS.icmpYes X112.here hx rfl (pc0 := 53) (pc' := 58) rfl (hb hby at_53) rfl (teq (by decide : (-1 : Int32) = (-1 : Int32))).1 (by decide) (by decide) ?_
    show SS pP eE belowS T112 (mkF mM 58 (Lc_law_eq_1_0_4 p0 p2 p3 p4 d b103) []) _
    refine XS.iload X112.here hx rfl (hb hby at_58) rfl ?_
    show SS pP eE belowS T112 (mkF mM 60 (Lc_law_eq_1_0_4 p0 p2 p3 p4 d b103) [(.int p4)]) _
    refine XS.iconst X112.here hx rfl (hb hby at_60) ?_
    show SS pP eE belowS T112 (mkF mM 61 (Lc_law_eq_1_0_4 p0 p2 p3 p4 d b103) [(.int (3 : Int32)), (.int p4)]) _
    refine XS.iand X112.here hx rfl (hb hby at_61) rfl ?_
    show SS pP eE belowS T112 (mkF mM 62 (Lc_law_eq_1_0_4 p0 p2 p3 p4 d b103) [(.int (p4 &&& (3 : Int32)))]) _
    refine XS.istore X112.here hx rfl (hb hby at_62) rfl (l' := (Lc_law_eq_1_0_5 p0 p2 p3 p4 d b103)) rfl ?_
    show SS pP eE belowS T112 (mkF mM 64 (Lc_law_eq_1_0_5 p0 p2 p3 p4 d b103) []) _
    refine XS.iload X112.here hx rfl (hb hby at_64) rfl ?_
    show SS pP eE belowS T112 (mkF mM 66 (Lc_law_eq_1_0_5 p0 p2 p3 p4 d b103) [(.int (p4 &&& (3 : Int32)))]) _
    refine XS.ifYes X112.here hx rfl (pc0 := 66) (pc' := 74) rfl (hb hby at_66) rfl ((if0 _ _).trans (feq hc66).2) (by decide) (by decide) ?_
    show SS pP eE belowS T112 (mkF mM 74 (Lc_law_eq_1_0_5 p0 p2 p3 p4 d b103) []) _
    refine XS.iload X112.here hx rfl (hb hby at_74) rfl ?_
    show SS pP eE belowS T112 (mkF mM 76 (Lc_law_eq_1_0_5 p0 p2 p3 p4 d b103) [(.int (p4 &&& (3 : Int32)))]) _
    refine XS.iconst X112.here hx rfl (hb hby at_76) ?_
    show SS pP eE belowS T112 (mkF mM 77 (Lc_law_eq_1_0_5 p0 p2 p3 p4 d b103) [(.int (1 : Int32)), (.int (p4 &&& (3 : Int32)))]) _
    refine XS.icmpNo X112.here hx rfl (hb hby at_77) rfl (teq hc77).2 ?_
    show SS pP eE belowS T112 (mkF mM 80 (Lc_law_eq_1_0_5 p0 p2 p3 p4 d b103) []) _
    refine XS.iload X112.here hx rfl (hb hby at_80) rfl ?_
    show SS pP eE belowS T112 (mkF mM 82 (Lc_law_eq_1_0_5 p0 p2 p3 p4 d b103) [(.int (-1 : Int32))]) _
    refine XS.goto X112.here hx rfl (pc0 := 82) (pc' := 86) rfl (hb hby at_82) (by decide) (by decide) ?_
    show SS pP eE belowS T112 (mkF mM 86 (Lc_law_eq_1_0_5 p0 p2 p3 p4 d b103) [(.int (-1 : Int32))]) _
    refine XS.istore X112.here hx rfl (hb hby at_86) rfl (l' := (Lc_law_eq_1_0_6 p0 p2 p3 p4 d b103)) rfl ?_
    show SS pP eE belowS T112 (mkF mM 88 (Lc_law_eq_1_0_6 p0 p2 p3 p4 d b103) []) _
    refine XS.iload X112.here hx rfl (hb hby at_88) rfl ?_
    show SS pP eE belowS T112 (mkF mM 90 (Lc_law_eq_1_0_6 p0 p2 p3 p4 d b103) [(.int p4)]) _
    refine XS.iconst X112.here hx rfl (hb hby at_90) ?_
    show SS pP eE belowS T112 (mkF mM 91 (Lc_law_eq_1_0_6 p0 p2 p3 p4 d b103) [(.int (2 : Int32)), (.int p4)]) _
    refine XS.ishr X112.here hx rfl (hb hby at_91) rfl ?_
    show SS pP eE belowS T112 (mkF mM 92 (Lc_law_eq_1_0_6 p0 p2 p3 p4 d b103) [(.int (p4 >>> ((2 : Int32) &&& 31)))]) _
    refine XS.iconst X112.here hx rfl (hb hby at_92) ?_
    show SS pP eE belowS T112 (mkF mM 93 (Lc_law_eq_1_0_6 p0 p2 p3 p4 d b103) [(.int (1 : Int32)), (.int (p4 >>> ((2 : Int32) &&& 31)))]) _
    refine XS.iand X112.here hx rfl (hb hby at_93) rfl ?_
    show SS pP eE belowS T112 (mkF mM 94 (Lc_law_eq_1_0_6 p0 p2 p3 p4 d b103) [(.int ((p4 >>> ((2 : Int32) &&& 31)) &&& (1 : Int32)))]) _
    refine XS.ifYes X112.here hx rfl (pc0 := 94) (pc' := 101) rfl (hb hby at_94) rfl ((if0 _ _).trans (teq hc94).1) (by decide) (by decide) ?_
    show SS pP eE belowS T112 (mkF mM 101 (Lc_law_eq_1_0_6 p0 p2 p3 p4 d b103) []) _
    refine XS.iconst X112.here hx rfl (hb hby at_101) ?_
    show SS pP eE belowS T112 (mkF mM 102 (Lc_law_eq_1_0_6 p0 p2 p3 p4 d b103) [(.int (0 : Int32))]) _
    refine XS.istore X112.here hx rfl (hb hby at_102) rfl (l' := (Lc_law_eq_1_0_7 p0 p2 p3 p4 d b103)) rfl ?_
    show SS pP eE belowS T112 (mkF mM 104 (Lc_law_eq_1_0_7 p0 p2 p3 p4 d b103) []) _
    refine XS.aload X112.here hx rfl (hb hby at_104) rfl rfl ?_
    show SS pP eE belowS T112 (mkF mM 106 (Lc_law_eq_1_0_7 p0 p2 p3 p4 d b103) [(.ref b103)]) _
    refine XS.iload X112.here hx rfl (hb hby at_106) rfl ?_
    show SS pP eE belowS T112 (mkF mM 108 (Lc_law_eq_1_0_7 p0 p2 p3 p4 d b103) [(.int (-1 : Int32)), (.ref b103)]) _
    refine XS.iloadN X112.here hx rfl (hb hby at_108) rfl ?_
    show SS pP eE belowS T112 (mkF mM 109 (Lc_law_eq_1_0_7 p0 p2 p3 p4 d b103) [(.int p2), (.int (-1 : Int32)), (.ref b103)]) _
    refine st117.trans ?_
    show SS pP eE belowS T117 (mkF mM 112 (Lc_law_eq_1_0_7 p0 p2 p3 p4 d b103) []) _
    refine XS.iload X117.here hx rfl (hb hby at_112) rfl ?_
    show SS pP eE belowS T117 (mkF mM 114 (Lc_law_eq_1_0_7 p0 p2 p3 p4 d b103) [(.int (0 : Int32))]) _
    refine XS.ifYes X117.here hx rfl (pc0 := 114) (pc' := 125) rfl (hb hby at_114) rfl ((if0 _ _).trans (teq (by decide : (0 : Int32) = (0 : Int32))).1) (by decide) (by decide) ?_
    show SS pP eE belowS T117 (mkF mM 125 (Lc_law_eq_1_0_7 p0 p2 p3 p4 d b103) []) _
    refine XS.iload X117.here hx rfl (hb hby at_125) rfl ?_
    show SS pP eE belowS T117 (mkF mM 127 (Lc_law_eq_1_0_7 p0 p2 p3 p4 d b103) [(.int (0 : Int32))]) _
    refine XS.ifYes X117.here hx rfl (pc0 := 127) (pc' := 134) rfl (hb hby at_127) rfl ((if0 _ _).trans (teq (by decide : (0 : Int32) = (0 : Int32))).1) (by decide) (by decide) ?_
    show SS pP eE belowS T117 (mkF mM 134 (Lc_law_eq_1_0_7 p0 p2 p3 p4 d b103) []) _
    refine XS.iload X117.here hx rfl (hb hby at_134) rfl ?_
    show SS pP eE belowS T117 (mkF mM 136 (Lc_law_eq_1_0_7 p0 p2 p3 p4 d b103) [(.int (-1 : Int32))]) _
    refine XS.ifYes X117.here hx rfl (pc0 := 136) (pc' := 143) rfl (hb hby at_136) rfl ((if0 _ _).trans (feq (by decide : ¬ ((-1 : Int32) = (0 : Int32)))).2) (by decide) (by decide) ?_
    show SS pP eE belowS T117 (mkF mM 143 (Lc_law_eq_1_0_7 p0 p2 p3 p4 d b103) []) _
    refine XS.iconst X117.here hx rfl (hb hby at_143) ?_
    show SS pP eE belowS T117 (mkF mM 144 (Lc_law_eq_1_0_7 p0 p2 p3 p4 d b103) [(.int (-1 : Int32))]) _
    refine XS.istore X117.here hx rfl (hb hby at_144) rfl (l' := (Lc_law_eq_1_0_8 p0 p2 p3 p4 d b103)) rfl ?_
    show SS pP eE belowS T117 (mkF mM 146 (Lc_law_eq_1_0_8 p0 p2 p3 p4 d b103) []) _
    refine XS.iloadN X117.here hx rfl (hb hby at_146) rfl ?_
    show SS pP eE belowS T117 (mkF mM 147 (Lc_law_eq_1_0_8 p0 p2 p3 p4 d b103) [(.int p0)]) _
    refine XS.iloadN X117.here hx rfl (hb hby at_147) rfl ?_
    show SS pP eE belowS T117 (mkF mM 148 (Lc_law_eq_1_0_8 p0 p2 p3 p4 d b103) [(.int p0), (.int p0)]) _
    refine XS.icmpYes X117.here hx rfl (pc0 := 148) (pc' := 167) rfl (hb hby at_148) rfl (flt (Int32.lt_irrefl : ¬ (p0 < p0))).2.2.2 (by decide) (by decide) ?_
    show SS pP eE belowS T117 (mkF mM 167 (Lc_law_eq_1_0_8 p0 p2 p3 p4 d b103) []) _
    refine XS.iloadN X117.here hx rfl (hb hby at_167) rfl ?_
    show SS pP eE belowS T117 (mkF mM 168 (Lc_law_eq_1_0_8 p0 p2 p3 p4 d b103) [(.int p0)]) _
    refine XS.iloadN X117.here hx rfl (hb hby at_168) rfl ?_
    show SS pP eE belowS T117 (mkF mM 169 (Lc_law_eq_1_0_8 p0 p2 p3 p4 d b103) [(.int p0), (.int p0)]) _
    refine XS.icmpNo X117.here hx rfl (hb hby at_169) rfl (teq (rfl : p0 = p0)).2 ?_
    show SS pP eE belowS T117 (mkF mM 172 (Lc_law_eq_1_0_8 p0 p2 p3 p4 d b103) []) _
    refine XS.iload X117.here hx rfl (hb hby at_172) rfl ?_
    show SS pP eE belowS T117 (mkF mM 174 (Lc_law_eq_1_0_8 p0 p2 p3 p4 d b103) [(.int (-1 : Int32))]) _
    refine XS.istore X117.here hx rfl (hb hby at_174) rfl (l' := (Lc_law_eq_1_0_9 p0 p2 p3 p4 d b103)) rfl ?_
    show SS pP eE belowS T117 (mkF mM 176 (Lc_law_eq_1_0_9 p0 p2 p3 p4 d b103) []) _
    refine XS.goto X117.here hx rfl (pc0 := 176) (pc' := 182) rfl (hb hby at_176) (by decide) (by decide) ?_
    show SS pP eE belowS T117 (mkF mM 182 (Lc_law_eq_1_0_9 p0 p2 p3 p4 d b103) []) _
    refine XS.aload X117.here hx rfl (hb hby at_182) rfl rfl ?_
    show SS pP eE belowS T117 (mkF mM 184 (Lc_law_eq_1_0_9 p0 p2 p3 p4 d b103) [(.ref b103)]) _
    refine XS.aload X117.here hx rfl (hb hby at_184) rfl rfl ?_
    show SS pP eE belowS T117 (mkF mM 186 (Lc_law_eq_1_0_9 p0 p2 p3 p4 d b103) [(.ref d), (.ref b103)]) _
    refine XS.iloadN X117.here hx rfl (hb hby at_186) rfl ?_
    show SS pP eE belowS T117 (mkF mM 187 (Lc_law_eq_1_0_9 p0 p2 p3 p4 d b103) [(.int p0), (.ref d), (.ref b103)]) _
    refine st118.trans ?_
    show SS pP eE belowS T118 (mkF mM 190 (Lc_law_eq_1_0_9 p0 p2 p3 p4 d b103) [(.int (-1 : Int32))]) _
    refine XS.iload X118.here hx rfl (hb hby at_190) rfl ?_
    show SS pP eE belowS T118 (mkF mM 192 (Lc_law_eq_1_0_9 p0 p2 p3 p4 d b103) [(.int (-1 : Int32)), (.int (-1 : Int32))]) _
    refine XS.icmpNo X118.here hx rfl (hb hby at_192) rfl (teq (by decide : (-1 : Int32) = (-1 : Int32))).2 ?_
    show SS pP eE belowS T118 (mkF mM 195 (Lc_law_eq_1_0_9 p0 p2 p3 p4 d b103) []) _
    refine XS.aload X118.here hx rfl (hb hby at_195) rfl rfl ?_
    show SS pP eE belowS T118 (mkF mM 197 (Lc_law_eq_1_0_9 p0 p2 p3 p4 d b103) [(.ref b103)]) _
    refine XS.aload X118.here hx rfl (hb hby at_197) rfl rfl ?_
    show SS pP eE belowS T118 (mkF mM 199 (Lc_law_eq_1_0_9 p0 p2 p3 p4 d b103) [(.ref d), (.ref b103)]) _
    refine XS.iloadN X118.here hx rfl (hb hby at_199) rfl ?_
    show SS pP eE belowS T118 (mkF mM 200 (Lc_law_eq_1_0_9 p0 p2 p3 p4 d b103) [(.int p0), (.ref d), (.ref b103)]) _
    refine st119.trans ?_
    show SS pP eE belowS T119 (mkF mM 203 (Lc_law_eq_1_0_9 p0 p2 p3 p4 d b103) [(.int (-1 : Int32))]) _
    refine XS.iload X119.here hx rfl (hb hby at_203) rfl ?_
    show SS pP eE belowS T119 (mkF mM 205 (Lc_law_eq_1_0_9 p0 p2 p3 p4 d b103) [(.int (-1 : Int32)), (.int (-1 : Int32))]) _
    refine XS.icmpNo X119.here hx rfl (hb hby at_205) rfl (teq (by decide : (-1 : Int32) = (-1 : Int32))).2 ?_
    show SS pP eE belowS T119 (mkF mM 208 (Lc_law_eq_1_0_9 p0 p2 p3 p4 d b103) []) _
    refine XS.iconst X119.here hx rfl (hb hby at_208) ?_
    show SS pP eE belowS T119 (mkF mM 209 (Lc_law_eq_1_0_9 p0 p2 p3 p4 d b103) [(.int (1 : Int32))]) _
    refine XS.goto X119.here hx rfl (pc0 := 209) (pc' := 213) rfl (hb hby at_209) (by decide) (by decide) ?_
    show SS pP eE belowS T119 (mkF mM 213 (Lc_law_eq_1_0_9 p0 p2 p3 p4 d b103) [(.int (1 : Int32))]) _
    exact retN X119 hx (t := .boolean) Bd.returns (by simp) (hb hby at_213) hr
  · exact ⟨rfl, N119⟩

abbrev Lc_law_eq_1_1_0 (p0 : Int32) (p2 : Int32) (p3 : Int32) (p4 : Int32) : Array Slot := #[.val (.int p0), .val (.int p0), .val (.int p2), .val (.int p3), .val (.int p4), .unset, .unset, .unset, .unset, .unset, .unset, .unset, .unset, .unset]
abbrev Lc_law_eq_1_1_1 (p0 : Int32) (p2 : Int32) (p3 : Int32) (p4 : Int32) (d : Addr) : Array Slot := #[.val (.int p0), .val (.int p0), .val (.int p2), .val (.int p3), .val (.int p4), .val (.ref d), .unset, .unset, .unset, .unset, .unset, .unset, .unset, .unset]
abbrev Lc_law_eq_1_1_2 (p0 : Int32) (p2 : Int32) (p3 : Int32) (p4 : Int32) (d : Addr) (b103 : Addr) : Array Slot := #[.val (.int p0), .val (.int p0), .val (.int p2), .val (.int p3), .val (.int p4), .val (.ref d), .val (.ref b103), .unset, .unset, .unset, .unset, .unset, .unset, .unset]
abbrev Lc_law_eq_1_1_3 (p0 : Int32) (p2 : Int32) (p3 : Int32) (p4 : Int32) (d : Addr) (b103 : Addr) : Array Slot := #[.val (.int p0), .val (.int p0), .val (.int p2), .val (.int p3), .val (.int p4), .val (.ref d), .val (.ref b103), .val (.int (0 : Int32)), .unset, .unset, .unset, .unset, .unset, .unset]
abbrev Lc_law_eq_1_1_4 (p0 : Int32) (p2 : Int32) (p3 : Int32) (p4 : Int32) (d : Addr) (b103 : Addr) : Array Slot := #[.val (.int p0), .val (.int p0), .val (.int p2), .val (.int p3), .val (.int p4), .val (.ref d), .val (.ref b103), .val (.int (0 : Int32)), .val (.int (-1 : Int32)), .unset, .unset, .unset, .unset, .unset]
abbrev Lc_law_eq_1_1_5 (p0 : Int32) (p2 : Int32) (p3 : Int32) (p4 : Int32) (d : Addr) (b103 : Addr) : Array Slot := #[.val (.int p0), .val (.int p0), .val (.int p2), .val (.int p3), .val (.int p4), .val (.ref d), .val (.ref b103), .val (.int (0 : Int32)), .val (.int (-1 : Int32)), .val (.int (p4 &&& (3 : Int32))), .unset, .unset, .unset, .unset]
abbrev Lc_law_eq_1_1_6 (p0 : Int32) (p2 : Int32) (p3 : Int32) (p4 : Int32) (d : Addr) (b103 : Addr) : Array Slot := #[.val (.int p0), .val (.int p0), .val (.int p2), .val (.int p3), .val (.int p4), .val (.ref d), .val (.ref b103), .val (.int (0 : Int32)), .val (.int (-1 : Int32)), .val (.int (p4 &&& (3 : Int32))), .val (.int (-1 : Int32)), .unset, .unset, .unset]
abbrev Lc_law_eq_1_1_7 (p0 : Int32) (p2 : Int32) (p3 : Int32) (p4 : Int32) (d : Addr) (b103 : Addr) : Array Slot := #[.val (.int p0), .val (.int p0), .val (.int p2), .val (.int p3), .val (.int p4), .val (.ref d), .val (.ref b103), .val (.int (0 : Int32)), .val (.int (-1 : Int32)), .val (.int (p4 &&& (3 : Int32))), .val (.int (-1 : Int32)), .val (.int (1 : Int32)), .unset, .unset]
abbrev Lc_law_eq_1_1_8 (p0 : Int32) (p2 : Int32) (p3 : Int32) (p4 : Int32) (d : Addr) (b103 : Addr) : Array Slot := #[.val (.int p0), .val (.int p0), .val (.int p2), .val (.int p3), .val (.int p4), .val (.ref d), .val (.ref b103), .val (.int (0 : Int32)), .val (.int (-1 : Int32)), .val (.int (p4 &&& (3 : Int32))), .val (.int (-1 : Int32)), .val (.int (1 : Int32)), .val (.int p3), .unset]
abbrev Lc_law_eq_1_1_9 (p0 : Int32) (p2 : Int32) (p3 : Int32) (p4 : Int32) (d : Addr) (b103 : Addr) : Array Slot := #[.val (.int p0), .val (.int p0), .val (.int p2), .val (.int p3), .val (.int p4), .val (.ref d), .val (.ref b103), .val (.int (0 : Int32)), .val (.int (-1 : Int32)), .val (.int (p4 &&& (3 : Int32))), .val (.int (-1 : Int32)), .val (.int (1 : Int32)), .val (.int p3), .val (.int p3)]
theorem ef_law_eq_1_1 (mM : MethodId) (p0 : Int32) (p2 : Int32) (p3 : Int32) (p4 : Int32) (aN : Addr) (kN : ClassId) (d : Addr) : entryFrame mM #[(.int p0), (.int p0), (.int p2), (.int p3), (.int p4)] maxLocals = mkF mM 0 #[.val (.int p0), .val (.int p0), .val (.int p2), .val (.int p3), .val (.int p4), .unset, .unset, .unset, .unset, .unset, .unset, .unset, .unset, .unset] [] := by first | (simp [entryFrame, mkF, argsToLocals, Value.category, maxLocals]; done) | rfl
set_option maxRecDepth 65536 in
set_option maxHeartbeats 40000000 in
theorem rm_law_eq_1_1 (l : Launch) (Z : State) (a0 : Array Value) (hw : ∀ d ∈ tables_1, d.before a0 Z = true) (ws : List Jvm.Cond) (p0 : Int32) (p2 : Int32) (p3 : Int32) (p4 : Int32) (aN : Addr) (kN : ClassId) (d : Addr) (h0 : Heap) (n0 : Nat) (Z0 : n0 ≤ h0.size) (OL : Old Z n0 h0) (S_DEFAULT : Sta Z Z.heap "com/example/macroweave/macroweave/Brackets" "DEFAULT" "Lcom/example/macroweave/macroweave/Brackets;" (.ref d)) (S_NONE : Sta Z Z.heap "com/example/macroweave/macroweave/BracketPairs" "NONE" "[I" (.ref aN)) (V_aN : Arv Z h0 aN kN .int (0 : Int32) [] (.int (0 : Int32))) (hc66 : ¬ ((p4 &&& (3 : Int32)) = (0 : Int32))) (hc77 : (p4 &&& (3 : Int32)) = (1 : Int32)) (hc94 : ¬ (((p4 >>> ((2 : Int32) &&& 31)) &&& (1 : Int32)) = (0 : Int32))) :
    MetFree l x (head1 (Jvm.Cond.code x code maxLocals ret :: ws) room_1) (fun xa xU => xa = #[(.int p0), (.int p0), (.int p2), (.int p3), (.int p4)] ∧ Z.Warmed39 xU.vm ∧ xU.heap = h0) (fun _ _ _ _ _ => True) (fun _ xU xo xU' => ∃ xv xL, xo = .returned xv ∧ Q_law n0 xv xL ∧ FrameEnd xU xo xU' xL room_1.cells room_1.slots) := by
  refine MetFree.of_bodySF (plainFor_of_name pn_com_example_macroweave_macroweave_BracketPairsClosedPinLaw) hisR ?_
  intro pP eE sS mM argS belowS methS cC s₁ Bd hml0 hP hK
  obtain ⟨rfl, hZ, hh⟩ := hP
  have hx := Bd.exec
  have hby := Bd.bytes
  have hml : cC.maxLocals = 14 := hml0
  have hown : sS.vm.findClass "com/example/macroweave/macroweave/BracketPairsClosedPinLaw" = some mM.cls := findClass_of_methodNamed Bd.named
  have hnm := (name_of_methodNamed Bd.named Bd.method).1
  have X0 : Stand pP l eE room_1 sS mM #[(.int p0), (.int p0), (.int p2), (.int p3), (.int p4)] belowS methS cC s₁ [] 0 0 := Stand.of_body Bd
  have e0 : s₁.heap = h0 := by rw [← hh, Bd.state]; rfl
  have N0 := Fr.nil n0
  have pre0 : ∀ t', Steps pP.tables eE belowS (s₁.setTop (mkF mM 0 #[.val (.int p0), .val (.int p0), .val (.int p2), .val (.int p3), .val (.int p4), .unset, .unset, .unset, .unset, .unset, .unset, .unset, .unset, .unset] [])) t' → Steps pP.tables eE belowS (s₁.setTop (entryFrame mM #[(.int p0), (.int p0), (.int p2), (.int p3), (.int p4)] maxLocals)) t' := fun t' kk' => castTop (ef_law_eq_1_1 mM p0 p2 p3 p4 aN kN d) kk'
  have c101_S_DEFAULT : Sta Z h0 "com/example/macroweave/macroweave/Brackets" "DEFAULT" "Lcom/example/macroweave/macroweave/Brackets;" (.ref d) := Sta.ext OL.2 S_DEFAULT
  obtain ⟨T102, X102, e102, st102⟩ := getS2 X0 hx hZ hown (host := "") (Or.inl (wi hw 0 rfl)) Via.refl e0 c101_S_DEFAULT (g := (mkF mM 0 (Lc_law_eq_1_1_0 p0 p2 p3 p4) [])) rfl (hb hby at_0)
  obtain ⟨T103, h103, X103, e103, E103, A103, D103, B103, st103⟩ := newO X102 hx hZ hown (wi hw 3 rfl) (wi hw 4 rfl) (wi hw 5 rfl) e102 (g := (mkF mM 5 (Lc_law_eq_1_1_1 p0 p2 p3 p4 d) [])) rfl (hb hby at_5) (by decide) (by decide)
  obtain ⟨b103, g103⟩ : ∃ z : Nat, z = h0.size := ⟨_, rfl⟩
  rw [← g103] at A103 D103 B103 st103
  have Sz1 : h0.size ≤ h103.size := E103.1
  have F103_contentStarts : Fld Z h103 b103 "com/example/macroweave/macroweave/BracketPairs" "contentStarts" "[I" .null := D103 (Or.inl (wi hw 15 rfl)) (ty := (.array .int)) (by decide)
  have F103_closes : Fld Z h103 b103 "com/example/macroweave/macroweave/BracketPairs" "closes" "[I" .null := D103 (Or.inl (wi hw 17 rfl)) (ty := (.array .int)) (by decide)
  have F103_brackets : Fld Z h103 b103 "com/example/macroweave/macroweave/BracketPairs" "brackets" "Lcom/example/macroweave/macroweave/Brackets;" .null := D103 (Or.inl (wi hw 24 rfl)) (ty := (.object "com/example/macroweave/macroweave/Brackets")) (by decide)
  have F103_size : Fld Z h103 b103 "com/example/macroweave/macroweave/BracketPairs" "size" "I" (.int (0 : Int32)) := D103 (Or.inl (wi hw 26 rfl)) (ty := .int) (by decide)
  have c105_OL : Old Z n0 h103 := OL.ext E103
  have ge106_b103 : @LE.le Nat _ n0 b103 := by omega
  obtain ⟨_, _, ⟨T104, L104, k104, n104⟩, -, X104, ⟨Lc104, hQ104, l104, y104, z104⟩, st104⟩ := X103.specialBack hx (y := (⟨"com/example/macroweave/macroweave/BracketPairs", "<init>", "()V"⟩ : MethodName)) rfl hown (mvT hZ (wi hw 6 rfl)) (mvT hZ (wi hw 7 rfl)) (mvT hZ (wi hw 8 rfl)) (by decide) (backOf (W := 1) (rm_init l Z a0 hw [] b103 aN .null .null .null (.int (0 : Int32)) h103 n0 (by omega) A103 F103_contentStarts F103_closes F103_brackets F103_size ge106_b103 c105_OL S_NONE) hZ (wi hw 8 rfl) (wi hw 5 rfl) (by decide) (by decide)) (g := (mkF mM 9 (Lc_law_eq_1_1_1 p0 p2 p3 p4 d) [(.ref b103), (.ref b103)])) rfl (by rw [hml]; rfl) (Steps.refl _) (a := b103) (argsL := []) (rest := [(.ref b103)]) (lenOf pd_0 rfl) rfl (by show 2 * 0 + _ ≤ _; exact Nat.le_of_eq rfl) (hb hby at_9) (fun _ _ => ⟨rfl, e103, Nat.le_of_ble_eq_true rfl, Nat.le_of_ble_eq_true rfl⟩)
  dsimp only [Pt.U, Pt.locs, Pt.cells, Pt.slots] at X104 l104 y104 z104 st104 hQ104
  subst l104 y104 z104
  obtain ⟨h104, e104⟩ : ∃ z, T104.heap = z := ⟨_, rfl⟩
  rw [e104] at hQ104
  obtain ⟨rfl, N104q, Kp104, p104_E_a1, p104_F_contentStarts_a1, p104_F_closes_a1, p104_F_brackets_a1, p104_F_size_a1⟩ := hQ104
  have Sz2 : h103.size ≤ h104.size := Kp104.1
  have N104 := Fr.app N0 N104q
  have c108_V_aN : Arv Z h103 aN kN .int (0 : Int32) [] (.int (0 : Int32)) := V_aN.ext E103
  have lt_aN : @LT.lt Nat _ aN h0.size := V_aN.lt
  have lt_b103 : @LT.lt Nat _ b103 h104.size := p104_E_a1.lt
  have ne_aN_b103_109 : aN ≠ b103 := (by omega : @Ne Nat aN b103)
  have c110_V_aN : Arv Z h104 aN kN .int (0 : Int32) [] (.int (0 : Int32)) := c108_V_aN.keep Kp104 (ninS ne_aN_b103_109 nin0)
  have ne_b103_aN_111 : b103 ≠ aN := (by omega : @Ne Nat b103 aN)
  obtain ⟨cq107, kq107, q107a, q107b, q107c⟩ := isOf hZ e104 p104_E_a1
  obtain ⟨_, _, ⟨T107, L107, k107, n107⟩, -, X107, ⟨Lc107, hQ107, l107, y107, z107⟩, st107⟩ := X104.virtualBack hx (y := (⟨"com/example/macroweave/macroweave/BracketPairs", "opened", "(Lcom/example/macroweave/macroweave/Brackets;I)I"⟩ : MethodName)) (z := (⟨"com/example/macroweave/macroweave/BracketPairs", "opened", "(Lcom/example/macroweave/macroweave/Brackets;I)I"⟩ : MethodName)) hown (mvT hZ (wi hw 18 rfl)) (mvT hZ (wi hw 19 rfl)) (notFace_of_selects (args := #[]) (mvT hZ (wi hw 21 rfl))) (mvT hZ (wi hw 21 rfl)) (mvT hZ (wi hw 20 rfl)) (by decide) (backOf (W := 0) (rm_open1 l Z a0 hw [] b103 d p0 aN kN h104 n0 (by omega) p104_E_a1 p104_F_brackets_a1 p104_F_contentStarts_a1 p104_F_closes_a1 p104_F_size_a1 c110_V_aN ne_b103_aN_111 ge106_b103) hZ (wi hw 22 rfl) (wi hw 5 rfl) (by decide) (by decide)) q107a q107c (g := (mkF mM 19 (Lc_law_eq_1_1_2 p0 p2 p3 p4 d b103) [(.int p0), (.ref d), (.ref b103)])) rfl (by rw [hml]; rfl) (Steps.refl _) (argsL := [(.ref d), (.int p0)]) (rest := []) (lenOf pd_1 rfl) rfl (by show 2 * 0 + _ ≤ _; exact Nat.le_of_eq rfl) (hb hby at_19) (fun _ _ => ⟨rfl, e104, Nat.le_of_ble_eq_true rfl, Nat.le_of_ble_eq_true rfl⟩)
  dsimp only [Pt.U, Pt.locs, Pt.cells, Pt.slots] at X107 l107 y107 z107 st107 hQ107
  subst l107 y107 z107
  obtain ⟨h107, e107⟩ : ∃ z, T107.heap = z := ⟨_, rfl⟩
  rw [e107] at hQ107
  obtain ⟨b1_107, b2_107, k1_107, k2_107, rfl, N107q, Kp107, p107_E_a1, p107_F_brackets_a1, p107_F_contentStarts_a1, p107_F_closes_a1, p107_F_size_a1, p107_V_b1, p107_V_b2, p107_gh_b1, p107_gh_b2, p107_ne_b1_b2⟩ := hQ107
  have Sz3 : h104.size ≤ h107.size := Kp107.1
  have N107 := Fr.app N104 N107q
  have lt_b1_107 : @LT.lt Nat _ b1_107 h107.size := p107_V_b1.lt
  have ne_b103_b1_107_113 : b103 ≠ b1_107 := (by omega : @Ne Nat b103 b1_107)
  have lt_b2_107 : @LT.lt Nat _ b2_107 h107.size := p107_V_b2.lt
  have ne_b103_b2_107_114 : b103 ≠ b2_107 := (by omega : @Ne Nat b103 b2_107)
  have ge115_b1_107 : @LE.le Nat _ n0 b1_107 := by omega
  have ge116_b2_107 : @LE.le Nat _ n0 b2_107 := by omega
  obtain ⟨cq112, kq112, q112a, q112b, q112c⟩ := isOf hZ e107 p107_E_a1
  obtain ⟨_, _, ⟨T112, L112, k112, n112⟩, -, X112, ⟨Lc112, hQ112, l112, y112, z112⟩, st112⟩ := X107.virtualBack hx (y := (⟨"com/example/macroweave/macroweave/BracketPairs", "opened", "(Lcom/example/macroweave/macroweave/Brackets;I)I"⟩ : MethodName)) (z := (⟨"com/example/macroweave/macroweave/BracketPairs", "opened", "(Lcom/example/macroweave/macroweave/Brackets;I)I"⟩ : MethodName)) hown (mvT hZ (wi hw 18 rfl)) (mvT hZ (wi hw 19 rfl)) (notFace_of_selects (args := #[]) (mvT hZ (wi hw 21 rfl))) (mvT hZ (wi hw 21 rfl)) (mvT hZ (wi hw 20 rfl)) (by decide) (backOf (W := 0) (rm_open2n l Z a0 hw [] b103 d p0 p0 b1_107 b2_107 k1_107 k2_107 h107 n0 (by omega) p107_E_a1 p107_F_brackets_a1 p107_F_contentStarts_a1 p107_F_closes_a1 p107_F_size_a1 p107_V_b1 p107_V_b2 ne_b103_b1_107_113 ne_b103_b2_107_114 p107_ne_b1_b2 ge106_b103 ge115_b1_107 ge116_b2_107 (Int32.lt_irrefl)) hZ (wi hw 22 rfl) (wi hw 5 rfl) (by decide) (by decide)) q112a q112c (g := (mkF mM 29 (Lc_law_eq_1_1_3 p0 p2 p3 p4 d b103) [(.int p0), (.ref d), (.ref b103)])) rfl (by rw [hml]; rfl) (Steps.refl _) (argsL := [(.ref d), (.int p0)]) (rest := []) (lenOf pd_1 rfl) rfl (by show 2 * 0 + _ ≤ _; exact Nat.le_of_eq rfl) (hb hby at_29) (fun _ _ => ⟨rfl, e107, Nat.le_of_ble_eq_true rfl, Nat.le_of_ble_eq_true rfl⟩)
  dsimp only [Pt.U, Pt.locs, Pt.cells, Pt.slots] at X112 l112 y112 z112 st112 hQ112
  subst l112 y112 z112
  obtain ⟨h112, e112⟩ : ∃ z, T112.heap = z := ⟨_, rfl⟩
  rw [e112] at hQ112
  obtain ⟨rfl, N112q, eq112⟩ := hQ112
  rw [eq112] at e112
  have N112 := Fr.app N107 N112q
  obtain ⟨cq117, kq117, q117a, q117b, q117c⟩ := isOf hZ e112 p107_E_a1
  obtain ⟨_, _, ⟨T117, L117, k117, n117⟩, -, X117, ⟨Lc117, hQ117, l117, y117, z117⟩, st117⟩ := X112.virtualBack hx (y := (⟨"com/example/macroweave/macroweave/BracketPairs", "closed", "(II)V"⟩ : MethodName)) (z := (⟨"com/example/macroweave/macroweave/BracketPairs", "closed", "(II)V"⟩ : MethodName)) hown (mvT hZ (wi hw 43 rfl)) (mvT hZ (wi hw 44 rfl)) (notFace_of_selects (args := #[]) (mvT hZ (wi hw 46 rfl))) (mvT hZ (wi hw 46 rfl)) (mvT hZ (wi hw 45 rfl)) (by decide) (backOf (W := 0) (rm_closedn l Z a0 hw [] b103 p2 h107 n0 (by omega) ) hZ (wi hw 47 rfl) (wi hw 5 rfl) (by decide) (by decide)) q117a q117c (g := (mkF mM 109 (Lc_law_eq_1_1_7 p0 p2 p3 p4 d b103) [(.int p2), (.int (-1 : Int32)), (.ref b103)])) rfl (by rw [hml]; rfl) (Steps.refl _) (argsL := [(.int (-1 : Int32)), (.int p2)]) (rest := []) (lenOf pd_5 rfl) rfl (by show 2 * 0 + _ ≤ _; exact Nat.le_of_eq rfl) (hb hby at_109) (fun _ _ => ⟨rfl, e112, Nat.le_of_ble_eq_true rfl, Nat.le_of_ble_eq_true rfl⟩)
  dsimp only [Pt.U, Pt.locs, Pt.cells, Pt.slots] at X117 l117 y117 z117 st117 hQ117
  subst l117 y117 z117
  obtain ⟨h117, e117⟩ : ∃ z, T117.heap = z := ⟨_, rfl⟩
  rw [e117] at hQ117
  obtain ⟨rfl, N117q, eq117⟩ := hQ117
  rw [eq117] at e117
  have N117 := Fr.app N112 N117q
  obtain ⟨cq118, kq118, q118a, q118b, q118c⟩ := isOf hZ e117 p107_E_a1
  obtain ⟨_, _, ⟨T118, L118, k118, n118⟩, -, X118, ⟨Lc118, hQ118, l118, y118, z118⟩, st118⟩ := X117.virtualBack hx (y := (⟨"com/example/macroweave/macroweave/BracketPairs", "closed", "(II)V"⟩ : MethodName)) (z := (⟨"com/example/macroweave/macroweave/BracketPairs", "closed", "(II)V"⟩ : MethodName)) hown (mvT hZ (wi hw 43 rfl)) (mvT hZ (wi hw 44 rfl)) (notFace_of_selects (args := #[]) (mvT hZ (wi hw 46 rfl))) (mvT hZ (wi hw 46 rfl)) (mvT hZ (wi hw 45 rfl)) (by decide) (backOf (W := 0) (rm_closed0 l Z a0 hw [] b103 p3 b2_107 k2_107 (-1 : Int32) (0 : Int32) h107 n0 (by omega) p107_E_a1 p107_F_closes_a1 p107_V_b2 ne_b103_b2_107_114 ge116_b2_107) hZ (wi hw 47 rfl) (wi hw 5 rfl) (by decide) (by decide)) q118a q118c (g := (mkF mM 122 (Lc_law_eq_1_1_7 p0 p2 p3 p4 d b103) [(.int p3), (.int (0 : Int32)), (.ref b103)])) rfl (by rw [hml]; rfl) (Steps.refl _) (argsL := [(.int (0 : Int32)), (.int p3)]) (rest := []) (lenOf pd_5 rfl) rfl (by show 2 * 0 + _ ≤ _; exact Nat.le_of_eq rfl) (hb hby at_122) (fun _ _ => ⟨rfl, e117, Nat.le_of_ble_eq_true rfl, Nat.le_of_ble_eq_true rfl⟩)
  dsimp only [Pt.U, Pt.locs, Pt.cells, Pt.slots] at X118 l118 y118 z118 st118 hQ118
  subst l118 y118 z118
  obtain ⟨h118, e118⟩ : ∃ z, T118.heap = z := ⟨_, rfl⟩
  rw [e118] at hQ118
  obtain ⟨rfl, N118q, Kp118, p118_V_b2⟩ := hQ118
  have Sz4 : h107.size ≤ h118.size := Kp118.1
  have N118 := Fr.app N117 N118q
  have c120_F_brackets_b103 : Fld Z h118 b103 "com/example/macroweave/macroweave/BracketPairs" "brackets" "Lcom/example/macroweave/macroweave/Brackets;" (.ref d) := p107_F_brackets_a1.keep Kp118 (ninS ne_b103_b2_107_114 nin0)
  have c121_F_contentStarts_b103 : Fld Z h118 b103 "com/example/macroweave/macroweave/BracketPairs" "contentStarts" "[I" (.ref b1_107) := p107_F_contentStarts_a1.keep Kp118 (ninS ne_b103_b2_107_114 nin0)
  have c122_F_closes_b103 : Fld Z h118 b103 "com/example/macroweave/macroweave/BracketPairs" "closes" "[I" (.ref b2_107) := p107_F_closes_a1.keep Kp118 (ninS ne_b103_b2_107_114 nin0)
  have c123_F_size_b103 : Fld Z h118 b103 "com/example/macroweave/macroweave/BracketPairs" "size" "I" (.int (1 : Int32)) := p107_F_size_a1.keep Kp118 (ninS ne_b103_b2_107_114 nin0)
  have c124_V_b1_107 : Arv Z h118 b1_107 k1_107 .int (4 : Int32) [(.int p0), (.int (0 : Int32)), (.int (0 : Int32)), (.int (0 : Int32))] (.int (0 : Int32)) := p107_V_b1.keep Kp118 (ninS p107_ne_b1_b2 nin0)
  have c125_E_b103 : Exa Z h118 b103 "com/example/macroweave/macroweave/BracketPairs" := p107_E_a1.keep Kp118
  obtain ⟨cq119, kq119, q119a, q119b, q119c⟩ := isOf hZ e118 c125_E_b103
  obtain ⟨_, _, ⟨T119, L119, k119, n119⟩, -, X119, ⟨Lc119, hQ119, l119, y119, z119⟩, st119⟩ := X118.virtualBack hx (y := (⟨"com/example/macroweave/macroweave/BracketPairs", "close", "(Lcom/example/macroweave/macroweave/Brackets;I)I"⟩ : MethodName)) (z := (⟨"com/example/macroweave/macroweave/BracketPairs", "close", "(Lcom/example/macroweave/macroweave/Brackets;I)I"⟩ : MethodName)) hown (mvT hZ (wi hw 48 rfl)) (mvT hZ (wi hw 49 rfl)) (notFace_of_selects (args := #[]) (mvT hZ (wi hw 51 rfl))) (mvT hZ (wi hw 51 rfl)) (mvT hZ (wi hw 50 rfl)) (by decide) (backOf (W := 0) (rm_close_1x l Z a0 hw [] b103 d b1_107 k1_107 p0 b2_107 k2_107 p3 (0 : Int32) h118 n0 (by omega) c120_F_brackets_b103 c121_F_contentStarts_b103 c122_F_closes_b103 c123_F_size_b103 c124_V_b1_107 p118_V_b2) hZ (wi hw 52 rfl) (wi hw 5 rfl) (by decide) (by decide)) q119a q119c (g := (mkF mM 187 (Lc_law_eq_1_1_9 p0 p2 p3 p4 d b103) [(.int p0), (.ref d), (.ref b103)])) rfl (by rw [hml]; rfl) (Steps.refl _) (argsL := [(.ref d), (.int p0)]) (rest := []) (lenOf pd_1 rfl) rfl (by show 2 * 0 + _ ≤ _; exact Nat.le_of_eq rfl) (hb hby at_187) (fun _ _ => ⟨rfl, e118, Nat.le_of_ble_eq_true rfl, Nat.le_of_ble_eq_true rfl⟩)
  dsimp only [Pt.U, Pt.locs, Pt.cells, Pt.slots] at X119 l119 y119 z119 st119 hQ119
  subst l119 y119 z119
  obtain ⟨h119, e119⟩ : ∃ z, T119.heap = z := ⟨_, rfl⟩
  rw [e119] at hQ119
  obtain ⟨rfl, N119q, eq119⟩ := hQ119
  rw [eq119] at e119
  have N119 := Fr.app N118 N119q
  obtain ⟨cq126, kq126, q126a, q126b, q126c⟩ := isOf hZ e119 c125_E_b103
  obtain ⟨_, _, ⟨T126, L126, k126, n126⟩, -, X126, ⟨Lc126, hQ126, l126, y126, z126⟩, st126⟩ := X119.virtualBack hx (y := (⟨"com/example/macroweave/macroweave/BracketPairs", "close", "(Lcom/example/macroweave/macroweave/Brackets;I)I"⟩ : MethodName)) (z := (⟨"com/example/macroweave/macroweave/BracketPairs", "close", "(Lcom/example/macroweave/macroweave/Brackets;I)I"⟩ : MethodName)) hown (mvT hZ (wi hw 48 rfl)) (mvT hZ (wi hw 49 rfl)) (notFace_of_selects (args := #[]) (mvT hZ (wi hw 51 rfl))) (mvT hZ (wi hw 51 rfl)) (mvT hZ (wi hw 50 rfl)) (by decide) (backOf (W := 0) (rm_close_1x l Z a0 hw [] b103 d b1_107 k1_107 p0 b2_107 k2_107 p3 (0 : Int32) h118 n0 (by omega) c120_F_brackets_b103 c121_F_contentStarts_b103 c122_F_closes_b103 c123_F_size_b103 c124_V_b1_107 p118_V_b2) hZ (wi hw 52 rfl) (wi hw 5 rfl) (by decide) (by decide)) q126a q126c (g := (mkF mM 200 (Lc_law_eq_1_1_9 p0 p2 p3 p4 d b103) [(.int p0), (.ref d), (.ref b103)])) rfl (by rw [hml]; rfl) (Steps.refl _) (argsL := [(.ref d), (.int p0)]) (rest := []) (lenOf pd_1 rfl) rfl (by show 2 * 0 + _ ≤ _; exact Nat.le_of_eq rfl) (hb hby at_200) (fun _ _ => ⟨rfl, e119, Nat.le_of_ble_eq_true rfl, Nat.le_of_ble_eq_true rfl⟩)
  dsimp only [Pt.U, Pt.locs, Pt.cells, Pt.slots] at X126 l126 y126 z126 st126 hQ126
  subst l126 y126 z126
  obtain ⟨h126, e126⟩ : ∃ z, T126.heap = z := ⟨_, rfl⟩
  rw [e126] at hQ126
  obtain ⟨rfl, N126q, eq126⟩ := hQ126
  rw [eq126] at e126
  have N126 := Fr.app N119 N126q
  obtain ⟨fs, hr, hrun, hended, hW, hsame⟩ := X126.leave (v := some (.int (1 : Int32))) (fun h => by rw [Bd.returns] at h; cases h)
  refine ⟨_, _, pre0 _ ?_, hrun, hended, _, _, rfl, ?_, ⟨_, rfl⟩, hW, hsame.mono (by decide) (by decide)⟩
  · show SS pP eE belowS s₁ (mkF mM 0 (Lc_law_eq_1_1_0 p0 p2 p3 p4) []) _
    refine st102 _ ?_
    show SS pP eE belowS T102 (mkF mM 3 (Lc_law_eq_1_1_0 p0 p2 p3 p4) [(.ref d)]) _
    refine XS.astore X102.here hx rfl (hb hby at_3) rfl rfl (l' := (Lc_law_eq_1_1_1 p0 p2 p3 p4 d)) rfl ?_
    show SS pP eE belowS T102 (mkF mM 5 (Lc_law_eq_1_1_1 p0 p2 p3 p4 d) []) _
    refine st103 _ ?_
    show SS pP eE belowS T103 (mkF mM 8 (Lc_law_eq_1_1_1 p0 p2 p3 p4 d) [(.ref b103)]) _
    refine XS.dup X103.here hx rfl (hb hby at_8) rfl rfl ?_
    show SS pP eE belowS T103 (mkF mM 9 (Lc_law_eq_1_1_1 p0 p2 p3 p4 d) [(.ref b103), (.ref b103)]) _
    refine st104.trans ?_
    show SS pP eE belowS T104 (mkF mM 12 (Lc_law_eq_1_1_1 p0 p2 p3 p4 d) [(.ref b103)]) _
    refine XS.astore X104.here hx rfl (hb hby at_12) rfl rfl (l' := (Lc_law_eq_1_1_2 p0 p2 p3 p4 d b103)) rfl ?_
    show SS pP eE belowS T104 (mkF mM 14 (Lc_law_eq_1_1_2 p0 p2 p3 p4 d b103) []) _
    refine XS.aload X104.here hx rfl (hb hby at_14) rfl rfl ?_
    show SS pP eE belowS T104 (mkF mM 16 (Lc_law_eq_1_1_2 p0 p2 p3 p4 d b103) [(.ref b103)]) _
    refine XS.aload X104.here hx rfl (hb hby at_16) rfl rfl ?_
    show SS pP eE belowS T104 (mkF mM 18 (Lc_law_eq_1_1_2 p0 p2 p3 p4 d b103) [(.ref d), (.ref b103)]) _
    refine XS.iloadN X104.here hx rfl (hb hby at_18) rfl ?_
    show SS pP eE belowS T104 (mkF mM 19 (Lc_law_eq_1_1_2 p0 p2 p3 p4 d b103) [(.int p0), (.ref d), (.ref b103)]) _
    refine st107.trans ?_
    show SS pP eE belowS T107 (mkF mM 22 (Lc_law_eq_1_1_2 p0 p2 p3 p4 d b103) [(.int (0 : Int32))]) _
    refine XS.istore X107.here hx rfl (hb hby at_22) rfl (l' := (Lc_law_eq_1_1_3 p0 p2 p3 p4 d b103)) rfl ?_
    show SS pP eE belowS T107 (mkF mM 24 (Lc_law_eq_1_1_3 p0 p2 p3 p4 d b103) []) _
    refine XS.aload X107.here hx rfl (hb hby at_24) rfl rfl ?_
    show SS pP eE belowS T107 (mkF mM 26 (Lc_law_eq_1_1_3 p0 p2 p3 p4 d b103) [(.ref b103)]) _
    refine XS.aload X107.here hx rfl (hb hby at_26) rfl rfl ?_
    show SS pP eE belowS T107 (mkF mM 28 (Lc_law_eq_1_1_3 p0 p2 p3 p4 d b103) [(.ref d), (.ref b103)]) _
    refine XS.iloadN X107.here hx rfl (hb hby at_28) rfl ?_
    show SS pP eE belowS T107 (mkF mM 29 (Lc_law_eq_1_1_3 p0 p2 p3 p4 d b103) [(.int p0), (.ref d), (.ref b103)]) _
    refine st112.trans ?_
    show SS pP eE belowS T112 (mkF mM 32 (Lc_law_eq_1_1_3 p0 p2 p3 p4 d b103) [(.int (-1 : Int32))]) _
    refine XS.istore X112.here hx rfl (hb hby at_32) rfl (l' := (Lc_law_eq_1_1_4 p0 p2 p3 p4 d b103)) rfl ?_
    show SS pP eE belowS T112 (mkF mM 34 (Lc_law_eq_1_1_4 p0 p2 p3 p4 d b103) []) _
    refine XS.iload X112.here hx rfl (hb hby at_34) rfl ?_
    show SS pP eE belowS T112 (mkF mM 36 (Lc_law_eq_1_1_4 p0 p2 p3 p4 d b103) [(.int (0 : Int32))]) _
    refine XS.ifYes X112.here hx rfl (pc0 := 36) (pc' := 41) rfl (hb hby at_36) rfl ((if0 _ _).trans (teq (by decide : (0 : Int32) = (0 : Int32))).1) (by decide) (by decide) ?_
    show SS pP eE belowS T112 (mkF mM 41 (Lc_law_eq_1_1_4 p0 p2 p3 p4 d b103) []) _
    refine XS.iload X112.here hx rfl (hb hby at_41) rfl ?_
    show SS pP eE belowS T112 (mkF mM 43 (Lc_law_eq_1_1_4 p0 p2 p3 p4 d b103) [(.int (-1 : Int32))]) _
    refine XS.iloadN X112.here hx rfl (hb hby at_43) rfl ?_
    show SS pP eE belowS T112 (mkF mM 44 (Lc_law_eq_1_1_4 p0 p2 p3 p4 d b103) [(.int p0), (.int (-1 : Int32))]) _
    refine XS.iloadN X112.here hx rfl (hb hby at_44) rfl ?_
    show SS pP eE belowS T112 (mkF mM 45 (Lc_law_eq_1_1_4 p0 p2 p3 p4 d b103) [(.int p0), (.int p0), (.int (-1 : Int32))]) _
    refine XS.icmpYes X112.here hx rfl (pc0 := 45) (pc' := 52) rfl (hb hby at_45) rfl (flt (Int32.lt_irrefl : ¬ (p0 < p0))).2.2.2 (by decide) (by decide) ?_
    show SS pP eE belowS T112 (mkF mM 52 (Lc_law_eq_1_1_4 p0 p2 p3 p4 d b103) [(.int (-1 : Int32))]) _
    refine XS.iconst X112.here hx rfl (hb hby at_52) ?_
    show SS pP eE belowS T112 (mkF mM 53 (Lc_law_eq_1_1_4 p0 p2 p3 p4 d b103) [(.int (-1 : Int32)), (.int (-1 : Int32))]) _
    refine XS.icmpYes X112.here hx rfl (pc0 := 53) (pc' := 58) rfl (hb hby at_53) rfl (teq (by decide : (-1 : Int32) = (-1 : Int32))).1 (by decide) (by decide) ?_
    show SS pP eE belowS T112 (mkF mM 58 (Lc_law_eq_1_1_4 p0 p2 p3 p4 d b103) []) _
    refine XS.iload X112.here hx rfl (hb hby at_58) rfl ?_
    show SS pP eE belowS T112 (mkF mM 60 (Lc_law_eq_1_1_4 p0 p2 p3 p4 d b103) [(.int p4)]) _
    refine XS.iconst X112.here hx rfl (hb hby at_60) ?_
    show SS pP eE belowS T112 (mkF mM 61 (Lc_law_eq_1_1_4 p0 p2 p3 p4 d b103) [(.int (3 : Int32)), (.int p4)]) _
    refine XS.iand X112.here hx rfl (hb hby at_61) rfl ?_
    show SS pP eE belowS T112 (mkF mM 62 (Lc_law_eq_1_1_4 p0 p2 p3 p4 d b103) [(.int (p4 &&& (3 : Int32)))]) _
    refine XS.istore X112.here hx rfl (hb hby at_62) rfl (l' := (Lc_law_eq_1_1_5 p0 p2 p3 p4 d b103)) rfl ?_
    show SS pP eE belowS T112 (mkF mM 64 (Lc_law_eq_1_1_5 p0 p2 p3 p4 d b103) []) _
    refine XS.iload X112.here hx rfl (hb hby at_64) rfl ?_
    show SS pP eE belowS T112 (mkF mM 66 (Lc_law_eq_1_1_5 p0 p2 p3 p4 d b103) [(.int (p4 &&& (3 : Int32)))]) _
    refine XS.ifYes X112.here hx rfl (pc0 := 66) (pc' := 74) rfl (hb hby at_66) rfl ((if0 _ _).trans (feq hc66).2) (by decide) (by decide) ?_
    show SS pP eE belowS T112 (mkF mM 74 (Lc_law_eq_1_1_5 p0 p2 p3 p4 d b103) []) _
    refine XS.iload X112.here hx rfl (hb hby at_74) rfl ?_
    show SS pP eE belowS T112 (mkF mM 76 (Lc_law_eq_1_1_5 p0 p2 p3 p4 d b103) [(.int (p4 &&& (3 : Int32)))]) _
    refine XS.iconst X112.here hx rfl (hb hby at_76) ?_
    show SS pP eE belowS T112 (mkF mM 77 (Lc_law_eq_1_1_5 p0 p2 p3 p4 d b103) [(.int (1 : Int32)), (.int (p4 &&& (3 : Int32)))]) _
    refine XS.icmpNo X112.here hx rfl (hb hby at_77) rfl (teq hc77).2 ?_
    show SS pP eE belowS T112 (mkF mM 80 (Lc_law_eq_1_1_5 p0 p2 p3 p4 d b103) []) _
    refine XS.iload X112.here hx rfl (hb hby at_80) rfl ?_
    show SS pP eE belowS T112 (mkF mM 82 (Lc_law_eq_1_1_5 p0 p2 p3 p4 d b103) [(.int (-1 : Int32))]) _
    refine XS.goto X112.here hx rfl (pc0 := 82) (pc' := 86) rfl (hb hby at_82) (by decide) (by decide) ?_
    show SS pP eE belowS T112 (mkF mM 86 (Lc_law_eq_1_1_5 p0 p2 p3 p4 d b103) [(.int (-1 : Int32))]) _
    refine XS.istore X112.here hx rfl (hb hby at_86) rfl (l' := (Lc_law_eq_1_1_6 p0 p2 p3 p4 d b103)) rfl ?_
    show SS pP eE belowS T112 (mkF mM 88 (Lc_law_eq_1_1_6 p0 p2 p3 p4 d b103) []) _
    refine XS.iload X112.here hx rfl (hb hby at_88) rfl ?_
    show SS pP eE belowS T112 (mkF mM 90 (Lc_law_eq_1_1_6 p0 p2 p3 p4 d b103) [(.int p4)]) _
    refine XS.iconst X112.here hx rfl (hb hby at_90) ?_
    show SS pP eE belowS T112 (mkF mM 91 (Lc_law_eq_1_1_6 p0 p2 p3 p4 d b103) [(.int (2 : Int32)), (.int p4)]) _
    refine XS.ishr X112.here hx rfl (hb hby at_91) rfl ?_
    show SS pP eE belowS T112 (mkF mM 92 (Lc_law_eq_1_1_6 p0 p2 p3 p4 d b103) [(.int (p4 >>> ((2 : Int32) &&& 31)))]) _
    refine XS.iconst X112.here hx rfl (hb hby at_92) ?_
    show SS pP eE belowS T112 (mkF mM 93 (Lc_law_eq_1_1_6 p0 p2 p3 p4 d b103) [(.int (1 : Int32)), (.int (p4 >>> ((2 : Int32) &&& 31)))]) _
    refine XS.iand X112.here hx rfl (hb hby at_93) rfl ?_
    show SS pP eE belowS T112 (mkF mM 94 (Lc_law_eq_1_1_6 p0 p2 p3 p4 d b103) [(.int ((p4 >>> ((2 : Int32) &&& 31)) &&& (1 : Int32)))]) _
    refine XS.ifNo X112.here hx rfl (hb hby at_94) rfl ((if0 _ _).trans (feq hc94).1) ?_
    show SS pP eE belowS T112 (mkF mM 97 (Lc_law_eq_1_1_6 p0 p2 p3 p4 d b103) []) _
    refine XS.iconst X112.here hx rfl (hb hby at_97) ?_
    show SS pP eE belowS T112 (mkF mM 98 (Lc_law_eq_1_1_6 p0 p2 p3 p4 d b103) [(.int (1 : Int32))]) _
    refine XS.goto X112.here hx rfl (pc0 := 98) (pc' := 102) rfl (hb hby at_98) (by decide) (by decide) ?_
    show SS pP eE belowS T112 (mkF mM 102 (Lc_law_eq_1_1_6 p0 p2 p3 p4 d b103) [(.int (1 : Int32))]) _
    refine XS.istore X112.here hx rfl (hb hby at_102) rfl (l' := (Lc_law_eq_1_1_7 p0 p2 p3 p4 d b103)) rfl ?_
    show SS pP eE belowS T112 (mkF mM 104 (Lc_law_eq_1_1_7 p0 p2 p3 p4 d b103) []) _
    refine XS.aload X112.here hx rfl (hb hby at_104) rfl rfl ?_
    show SS pP eE belowS T112 (mkF mM 106 (Lc_law_eq_1_1_7 p0 p2 p3 p4 d b103) [(.ref b103)]) _
    refine XS.iload X112.here hx rfl (hb hby at_106) rfl ?_
    show SS pP eE belowS T112 (mkF mM 108 (Lc_law_eq_1_1_7 p0 p2 p3 p4 d b103) [(.int (-1 : Int32)), (.ref b103)]) _
    refine XS.iloadN X112.here hx rfl (hb hby at_108) rfl ?_
    show SS pP eE belowS T112 (mkF mM 109 (Lc_law_eq_1_1_7 p0 p2 p3 p4 d b103) [(.int p2), (.int (-1 : Int32)), (.ref b103)]) _
    refine st117.trans ?_
    show SS pP eE belowS T117 (mkF mM 112 (Lc_law_eq_1_1_7 p0 p2 p3 p4 d b103) []) _
    refine XS.iload X117.here hx rfl (hb hby at_112) rfl ?_
    show SS pP eE belowS T117 (mkF mM 114 (Lc_law_eq_1_1_7 p0 p2 p3 p4 d b103) [(.int (1 : Int32))]) _
    refine XS.ifNo X117.here hx rfl (hb hby at_114) rfl ((if0 _ _).trans (feq (by decide : ¬ ((1 : Int32) = (0 : Int32)))).1) ?_
    show SS pP eE belowS T117 (mkF mM 117 (Lc_law_eq_1_1_7 p0 p2 p3 p4 d b103) []) _
    refine XS.aload X117.here hx rfl (hb hby at_117) rfl rfl ?_
    show SS pP eE belowS T117 (mkF mM 119 (Lc_law_eq_1_1_7 p0 p2 p3 p4 d b103) [(.ref b103)]) _
    refine XS.iload X117.here hx rfl (hb hby at_119) rfl ?_
    show SS pP eE belowS T117 (mkF mM 121 (Lc_law_eq_1_1_7 p0 p2 p3 p4 d b103) [(.int (0 : Int32)), (.ref b103)]) _
    refine XS.iloadN X117.here hx rfl (hb hby at_121) rfl ?_
    show SS pP eE belowS T117 (mkF mM 122 (Lc_law_eq_1_1_7 p0 p2 p3 p4 d b103) [(.int p3), (.int (0 : Int32)), (.ref b103)]) _
    refine st118.trans ?_
    show SS pP eE belowS T118 (mkF mM 125 (Lc_law_eq_1_1_7 p0 p2 p3 p4 d b103) []) _
    refine XS.iload X118.here hx rfl (hb hby at_125) rfl ?_
    show SS pP eE belowS T118 (mkF mM 127 (Lc_law_eq_1_1_7 p0 p2 p3 p4 d b103) [(.int (1 : Int32))]) _
    refine XS.ifNo X118.here hx rfl (hb hby at_127) rfl ((if0 _ _).trans (feq (by decide : ¬ ((1 : Int32) = (0 : Int32)))).1) ?_
    show SS pP eE belowS T118 (mkF mM 130 (Lc_law_eq_1_1_7 p0 p2 p3 p4 d b103) []) _
    refine XS.iloadN X118.here hx rfl (hb hby at_130) rfl ?_
    show SS pP eE belowS T118 (mkF mM 131 (Lc_law_eq_1_1_7 p0 p2 p3 p4 d b103) [(.int p3)]) _
    refine XS.goto X118.here hx rfl (pc0 := 131) (pc' := 144) rfl (hb hby at_131) (by decide) (by decide) ?_
    show SS pP eE belowS T118 (mkF mM 144 (Lc_law_eq_1_1_7 p0 p2 p3 p4 d b103) [(.int p3)]) _
    refine XS.istore X118.here hx rfl (hb hby at_144) rfl (l' := (Lc_law_eq_1_1_8 p0 p2 p3 p4 d b103)) rfl ?_
    show SS pP eE belowS T118 (mkF mM 146 (Lc_law_eq_1_1_8 p0 p2 p3 p4 d b103) []) _
    refine XS.iloadN X118.here hx rfl (hb hby at_146) rfl ?_
    show SS pP eE belowS T118 (mkF mM 147 (Lc_law_eq_1_1_8 p0 p2 p3 p4 d b103) [(.int p0)]) _
    refine XS.iloadN X118.here hx rfl (hb hby at_147) rfl ?_
    show SS pP eE belowS T118 (mkF mM 148 (Lc_law_eq_1_1_8 p0 p2 p3 p4 d b103) [(.int p0), (.int p0)]) _
    refine XS.icmpYes X118.here hx rfl (pc0 := 148) (pc' := 167) rfl (hb hby at_148) rfl (flt (Int32.lt_irrefl : ¬ (p0 < p0))).2.2.2 (by decide) (by decide) ?_
    show SS pP eE belowS T118 (mkF mM 167 (Lc_law_eq_1_1_8 p0 p2 p3 p4 d b103) []) _
    refine XS.iloadN X118.here hx rfl (hb hby at_167) rfl ?_
    show SS pP eE belowS T118 (mkF mM 168 (Lc_law_eq_1_1_8 p0 p2 p3 p4 d b103) [(.int p0)]) _
    refine XS.iloadN X118.here hx rfl (hb hby at_168) rfl ?_
    show SS pP eE belowS T118 (mkF mM 169 (Lc_law_eq_1_1_8 p0 p2 p3 p4 d b103) [(.int p0), (.int p0)]) _
    refine XS.icmpNo X118.here hx rfl (hb hby at_169) rfl (teq (rfl : p0 = p0)).2 ?_
    show SS pP eE belowS T118 (mkF mM 172 (Lc_law_eq_1_1_8 p0 p2 p3 p4 d b103) []) _
    refine XS.iload X118.here hx rfl (hb hby at_172) rfl ?_
    show SS pP eE belowS T118 (mkF mM 174 (Lc_law_eq_1_1_8 p0 p2 p3 p4 d b103) [(.int p3)]) _
    refine XS.istore X118.here hx rfl (hb hby at_174) rfl (l' := (Lc_law_eq_1_1_9 p0 p2 p3 p4 d b103)) rfl ?_
    show SS pP eE belowS T118 (mkF mM 176 (Lc_law_eq_1_1_9 p0 p2 p3 p4 d b103) []) _
    refine XS.goto X118.here hx rfl (pc0 := 176) (pc' := 182) rfl (hb hby at_176) (by decide) (by decide) ?_
    show SS pP eE belowS T118 (mkF mM 182 (Lc_law_eq_1_1_9 p0 p2 p3 p4 d b103) []) _
    refine XS.aload X118.here hx rfl (hb hby at_182) rfl rfl ?_
    show SS pP eE belowS T118 (mkF mM 184 (Lc_law_eq_1_1_9 p0 p2 p3 p4 d b103) [(.ref b103)]) _
    refine XS.aload X118.here hx rfl (hb hby at_184) rfl rfl ?_
    show SS pP eE belowS T118 (mkF mM 186 (Lc_law_eq_1_1_9 p0 p2 p3 p4 d b103) [(.ref d), (.ref b103)]) _
    refine XS.iloadN X118.here hx rfl (hb hby at_186) rfl ?_
    show SS pP eE belowS T118 (mkF mM 187 (Lc_law_eq_1_1_9 p0 p2 p3 p4 d b103) [(.int p0), (.ref d), (.ref b103)]) _
    refine st119.trans ?_
    show SS pP eE belowS T119 (mkF mM 190 (Lc_law_eq_1_1_9 p0 p2 p3 p4 d b103) [(.int p3)]) _
    refine XS.iload X119.here hx rfl (hb hby at_190) rfl ?_
    show SS pP eE belowS T119 (mkF mM 192 (Lc_law_eq_1_1_9 p0 p2 p3 p4 d b103) [(.int p3), (.int p3)]) _
    refine XS.icmpNo X119.here hx rfl (hb hby at_192) rfl (teq (rfl : p3 = p3)).2 ?_
    show SS pP eE belowS T119 (mkF mM 195 (Lc_law_eq_1_1_9 p0 p2 p3 p4 d b103) []) _
    refine XS.aload X119.here hx rfl (hb hby at_195) rfl rfl ?_
    show SS pP eE belowS T119 (mkF mM 197 (Lc_law_eq_1_1_9 p0 p2 p3 p4 d b103) [(.ref b103)]) _
    refine XS.aload X119.here hx rfl (hb hby at_197) rfl rfl ?_
    show SS pP eE belowS T119 (mkF mM 199 (Lc_law_eq_1_1_9 p0 p2 p3 p4 d b103) [(.ref d), (.ref b103)]) _
    refine XS.iloadN X119.here hx rfl (hb hby at_199) rfl ?_
    show SS pP eE belowS T119 (mkF mM 200 (Lc_law_eq_1_1_9 p0 p2 p3 p4 d b103) [(.int p0), (.ref d), (.ref b103)]) _
    refine st126.trans ?_
    show SS pP eE belowS T126 (mkF mM 203 (Lc_law_eq_1_1_9 p0 p2 p3 p4 d b103) [(.int p3)]) _
    refine XS.iload X126.here hx rfl (hb hby at_203) rfl ?_
    show SS pP eE belowS T126 (mkF mM 205 (Lc_law_eq_1_1_9 p0 p2 p3 p4 d b103) [(.int p3), (.int p3)]) _
    refine XS.icmpNo X126.here hx rfl (hb hby at_205) rfl (teq (rfl : p3 = p3)).2 ?_
    show SS pP eE belowS T126 (mkF mM 208 (Lc_law_eq_1_1_9 p0 p2 p3 p4 d b103) []) _
    refine XS.iconst X126.here hx rfl (hb hby at_208) ?_
    show SS pP eE belowS T126 (mkF mM 209 (Lc_law_eq_1_1_9 p0 p2 p3 p4 d b103) [(.int (1 : Int32))]) _
    refine XS.goto X126.here hx rfl (pc0 := 209) (pc' := 213) rfl (hb hby at_209) (by decide) (by decide) ?_
    show SS pP eE belowS T126 (mkF mM 213 (Lc_law_eq_1_1_9 p0 p2 p3 p4 d b103) [(.int (1 : Int32))]) _
    exact retN X126 hx (t := .boolean) Bd.returns (by simp) (hb hby at_213) hr
  · exact ⟨rfl, N126⟩

abbrev Lc_law_eq_2_0_0 (p0 : Int32) (p2 : Int32) (p3 : Int32) (p4 : Int32) : Array Slot := #[.val (.int p0), .val (.int p0), .val (.int p2), .val (.int p3), .val (.int p4), .unset, .unset, .unset, .unset, .unset, .unset, .unset, .unset, .unset]
abbrev Lc_law_eq_2_0_1 (p0 : Int32) (p2 : Int32) (p3 : Int32) (p4 : Int32) (d : Addr) : Array Slot := #[.val (.int p0), .val (.int p0), .val (.int p2), .val (.int p3), .val (.int p4), .val (.ref d), .unset, .unset, .unset, .unset, .unset, .unset, .unset, .unset]
abbrev Lc_law_eq_2_0_2 (p0 : Int32) (p2 : Int32) (p3 : Int32) (p4 : Int32) (d : Addr) (b103 : Addr) : Array Slot := #[.val (.int p0), .val (.int p0), .val (.int p2), .val (.int p3), .val (.int p4), .val (.ref d), .val (.ref b103), .unset, .unset, .unset, .unset, .unset, .unset, .unset]
abbrev Lc_law_eq_2_0_3 (p0 : Int32) (p2 : Int32) (p3 : Int32) (p4 : Int32) (d : Addr) (b103 : Addr) : Array Slot := #[.val (.int p0), .val (.int p0), .val (.int p2), .val (.int p3), .val (.int p4), .val (.ref d), .val (.ref b103), .val (.int (0 : Int32)), .unset, .unset, .unset, .unset, .unset, .unset]
abbrev Lc_law_eq_2_0_4 (p0 : Int32) (p2 : Int32) (p3 : Int32) (p4 : Int32) (d : Addr) (b103 : Addr) : Array Slot := #[.val (.int p0), .val (.int p0), .val (.int p2), .val (.int p3), .val (.int p4), .val (.ref d), .val (.ref b103), .val (.int (0 : Int32)), .val (.int (-1 : Int32)), .unset, .unset, .unset, .unset, .unset]
abbrev Lc_law_eq_2_0_5 (p0 : Int32) (p2 : Int32) (p3 : Int32) (p4 : Int32) (d : Addr) (b103 : Addr) : Array Slot := #[.val (.int p0), .val (.int p0), .val (.int p2), .val (.int p3), .val (.int p4), .val (.ref d), .val (.ref b103), .val (.int (0 : Int32)), .val (.int (-1 : Int32)), .val (.int (p4 &&& (3 : Int32))), .unset, .unset, .unset, .unset]
abbrev Lc_law_eq_2_0_6 (p0 : Int32) (p2 : Int32) (p3 : Int32) (p4 : Int32) (d : Addr) (b103 : Addr) : Array Slot := #[.val (.int p0), .val (.int p0), .val (.int p2), .val (.int p3), .val (.int p4), .val (.ref d), .val (.ref b103), .val (.int (0 : Int32)), .val (.int (-1 : Int32)), .val (.int (p4 &&& (3 : Int32))), .val (.int (-1 : Int32)), .unset, .unset, .unset]
abbrev Lc_law_eq_2_0_7 (p0 : Int32) (p2 : Int32) (p3 : Int32) (p4 : Int32) (d : Addr) (b103 : Addr) : Array Slot := #[.val (.int p0), .val (.int p0), .val (.int p2), .val (.int p3), .val (.int p4), .val (.ref d), .val (.ref b103), .val (.int (0 : Int32)), .val (.int (-1 : Int32)), .val (.int (p4 &&& (3 : Int32))), .val (.int (-1 : Int32)), .val (.int (0 : Int32)), .unset, .unset]
abbrev Lc_law_eq_2_0_8 (p0 : Int32) (p2 : Int32) (p3 : Int32) (p4 : Int32) (d : Addr) (b103 : Addr) : Array Slot := #[.val (.int p0), .val (.int p0), .val (.int p2), .val (.int p3), .val (.int p4), .val (.ref d), .val (.ref b103), .val (.int (0 : Int32)), .val (.int (-1 : Int32)), .val (.int (p4 &&& (3 : Int32))), .val (.int (-1 : Int32)), .val (.int (0 : Int32)), .val (.int (-1 : Int32)), .unset]
abbrev Lc_law_eq_2_0_9 (p0 : Int32) (p2 : Int32) (p3 : Int32) (p4 : Int32) (d : Addr) (b103 : Addr) : Array Slot := #[.val (.int p0), .val (.int p0), .val (.int p2), .val (.int p3), .val (.int p4), .val (.ref d), .val (.ref b103), .val (.int (0 : Int32)), .val (.int (-1 : Int32)), .val (.int (p4 &&& (3 : Int32))), .val (.int (-1 : Int32)), .val (.int (0 : Int32)), .val (.int (-1 : Int32)), .val (.int (-1 : Int32))]
theorem ef_law_eq_2_0 (mM : MethodId) (p0 : Int32) (p2 : Int32) (p3 : Int32) (p4 : Int32) (aN : Addr) (kN : ClassId) (d : Addr) : entryFrame mM #[(.int p0), (.int p0), (.int p2), (.int p3), (.int p4)] maxLocals = mkF mM 0 #[.val (.int p0), .val (.int p0), .val (.int p2), .val (.int p3), .val (.int p4), .unset, .unset, .unset, .unset, .unset, .unset, .unset, .unset, .unset] [] := by first | (simp [entryFrame, mkF, argsToLocals, Value.category, maxLocals]; done) | rfl
set_option maxRecDepth 65536 in
set_option maxHeartbeats 40000000 in
theorem rm_law_eq_2_0 (l : Launch) (Z : State) (a0 : Array Value) (hw : ∀ d ∈ tables_1, d.before a0 Z = true) (ws : List Jvm.Cond) (p0 : Int32) (p2 : Int32) (p3 : Int32) (p4 : Int32) (aN : Addr) (kN : ClassId) (d : Addr) (h0 : Heap) (n0 : Nat) (Z0 : n0 ≤ h0.size) (OL : Old Z n0 h0) (S_DEFAULT : Sta Z Z.heap "com/example/macroweave/macroweave/Brackets" "DEFAULT" "Lcom/example/macroweave/macroweave/Brackets;" (.ref d)) (S_NONE : Sta Z Z.heap "com/example/macroweave/macroweave/BracketPairs" "NONE" "[I" (.ref aN)) (V_aN : Arv Z h0 aN kN .int (0 : Int32) [] (.int (0 : Int32))) (hc66 : ¬ ((p4 &&& (3 : Int32)) = (0 : Int32))) (hc77 : ¬ ((p4 &&& (3 : Int32)) = (1 : Int32))) (hc94 : ((p4 >>> ((2 : Int32) &&& 31)) &&& (1 : Int32)) = (0 : Int32)) :
    MetFree l x (head1 (Jvm.Cond.code x code maxLocals ret :: ws) room_1) (fun xa xU => xa = #[(.int p0), (.int p0), (.int p2), (.int p3), (.int p4)] ∧ Z.Warmed39 xU.vm ∧ xU.heap = h0) (fun _ _ _ _ _ => True) (fun _ xU xo xU' => ∃ xv xL, xo = .returned xv ∧ Q_law n0 xv xL ∧ FrameEnd xU xo xU' xL room_1.cells room_1.slots) := by
  refine MetFree.of_bodySF (plainFor_of_name pn_com_example_macroweave_macroweave_BracketPairsClosedPinLaw) hisR ?_
  intro pP eE sS mM argS belowS methS cC s₁ Bd hml0 hP hK
  obtain ⟨rfl, hZ, hh⟩ := hP
  have hx := Bd.exec
  have hby := Bd.bytes
  have hml : cC.maxLocals = 14 := hml0
  have hown : sS.vm.findClass "com/example/macroweave/macroweave/BracketPairsClosedPinLaw" = some mM.cls := findClass_of_methodNamed Bd.named
  have hnm := (name_of_methodNamed Bd.named Bd.method).1
  have X0 : Stand pP l eE room_1 sS mM #[(.int p0), (.int p0), (.int p2), (.int p3), (.int p4)] belowS methS cC s₁ [] 0 0 := Stand.of_body Bd
  have e0 : s₁.heap = h0 := by rw [← hh, Bd.state]; rfl
  have N0 := Fr.nil n0
  have pre0 : ∀ t', Steps pP.tables eE belowS (s₁.setTop (mkF mM 0 #[.val (.int p0), .val (.int p0), .val (.int p2), .val (.int p3), .val (.int p4), .unset, .unset, .unset, .unset, .unset, .unset, .unset, .unset, .unset] [])) t' → Steps pP.tables eE belowS (s₁.setTop (entryFrame mM #[(.int p0), (.int p0), (.int p2), (.int p3), (.int p4)] maxLocals)) t' := fun t' kk' => castTop (ef_law_eq_2_0 mM p0 p2 p3 p4 aN kN d) kk'
  have c101_S_DEFAULT : Sta Z h0 "com/example/macroweave/macroweave/Brackets" "DEFAULT" "Lcom/example/macroweave/macroweave/Brackets;" (.ref d) := Sta.ext OL.2 S_DEFAULT
  obtain ⟨T102, X102, e102, st102⟩ := getS2 X0 hx hZ hown (host := "") (Or.inl (wi hw 0 rfl)) Via.refl e0 c101_S_DEFAULT (g := (mkF mM 0 (Lc_law_eq_2_0_0 p0 p2 p3 p4) [])) rfl (hb hby at_0)
  obtain ⟨T103, h103, X103, e103, E103, A103, D103, B103, st103⟩ := newO X102 hx hZ hown (wi hw 3 rfl) (wi hw 4 rfl) (wi hw 5 rfl) e102 (g := (mkF mM 5 (Lc_law_eq_2_0_1 p0 p2 p3 p4 d) [])) rfl (hb hby at_5) (by decide) (by decide)
  obtain ⟨b103, g103⟩ : ∃ z : Nat, z = h0.size := ⟨_, rfl⟩
  rw [← g103] at A103 D103 B103 st103
  have Sz1 : h0.size ≤ h103.size := E103.1
  have F103_contentStarts : Fld Z h103 b103 "com/example/macroweave/macroweave/BracketPairs" "contentStarts" "[I" .null := D103 (Or.inl (wi hw 15 rfl)) (ty := (.array .int)) (by decide)
  have F103_closes : Fld Z h103 b103 "com/example/macroweave/macroweave/BracketPairs" "closes" "[I" .null := D103 (Or.inl (wi hw 17 rfl)) (ty := (.array .int)) (by decide)
  have F103_brackets : Fld Z h103 b103 "com/example/macroweave/macroweave/BracketPairs" "brackets" "Lcom/example/macroweave/macroweave/Brackets;" .null := D103 (Or.inl (wi hw 24 rfl)) (ty := (.object "com/example/macroweave/macroweave/Brackets")) (by decide)
  have F103_size : Fld Z h103 b103 "com/example/macroweave/macroweave/BracketPairs" "size" "I" (.int (0 : Int32)) := D103 (Or.inl (wi hw 26 rfl)) (ty := .int) (by decide)
  have c105_OL : Old Z n0 h103 := OL.ext E103
  have ge106_b103 : @LE.le Nat _ n0 b103 := by omega
  obtain ⟨_, _, ⟨T104, L104, k104, n104⟩, -, X104, ⟨Lc104, hQ104, l104, y104, z104⟩, st104⟩ := X103.specialBack hx (y := (⟨"com/example/macroweave/macroweave/BracketPairs", "<init>", "()V"⟩ : MethodName)) rfl hown (mvT hZ (wi hw 6 rfl)) (mvT hZ (wi hw 7 rfl)) (mvT hZ (wi hw 8 rfl)) (by decide) (backOf (W := 1) (rm_init l Z a0 hw [] b103 aN .null .null .null (.int (0 : Int32)) h103 n0 (by omega) A103 F103_contentStarts F103_closes F103_brackets F103_size ge106_b103 c105_OL S_NONE) hZ (wi hw 8 rfl) (wi hw 5 rfl) (by decide) (by decide)) (g := (mkF mM 9 (Lc_law_eq_2_0_1 p0 p2 p3 p4 d) [(.ref b103), (.ref b103)])) rfl (by rw [hml]; rfl) (Steps.refl _) (a := b103) (argsL := []) (rest := [(.ref b103)]) (lenOf pd_0 rfl) rfl (by show 2 * 0 + _ ≤ _; exact Nat.le_of_eq rfl) (hb hby at_9) (fun _ _ => ⟨rfl, e103, Nat.le_of_ble_eq_true rfl, Nat.le_of_ble_eq_true rfl⟩)
  dsimp only [Pt.U, Pt.locs, Pt.cells, Pt.slots] at X104 l104 y104 z104 st104 hQ104
  subst l104 y104 z104
  obtain ⟨h104, e104⟩ : ∃ z, T104.heap = z := ⟨_, rfl⟩
  rw [e104] at hQ104
  obtain ⟨rfl, N104q, Kp104, p104_E_a1, p104_F_contentStarts_a1, p104_F_closes_a1, p104_F_brackets_a1, p104_F_size_a1⟩ := hQ104
  have Sz2 : h103.size ≤ h104.size := Kp104.1
  have N104 := Fr.app N0 N104q
  have c108_V_aN : Arv Z h103 aN kN .int (0 : Int32) [] (.int (0 : Int32)) := V_aN.ext E103
  have lt_aN : @LT.lt Nat _ aN h0.size := V_aN.lt
  have lt_b103 : @LT.lt Nat _ b103 h104.size := p104_E_a1.lt
  have ne_aN_b103_109 : aN ≠ b103 := (by omega : @Ne Nat aN b103)
  have c110_V_aN : Arv Z h104 aN kN .int (0 : Int32) [] (.int (0 : Int32)) := c108_V_aN.keep Kp104 (ninS ne_aN_b103_109 nin0)
  have ne_b103_aN_111 : b103 ≠ aN := (by omega : @Ne Nat b103 aN)
  obtain ⟨cq107, kq107, q107a, q107b, q107c⟩ := isOf hZ e104 p104_E_a1
  obtain ⟨_, _, ⟨T107, L107, k107, n107⟩, -, X107, ⟨Lc107, hQ107, l107, y107, z107⟩, st107⟩ := X104.virtualBack hx (y := (⟨"com/example/macroweave/macroweave/BracketPairs", "opened", "(Lcom/example/macroweave/macroweave/Brackets;I)I"⟩ : MethodName)) (z := (⟨"com/example/macroweave/macroweave/BracketPairs", "opened", "(Lcom/example/macroweave/macroweave/Brackets;I)I"⟩ : MethodName)) hown (mvT hZ (wi hw 18 rfl)) (mvT hZ (wi hw 19 rfl)) (notFace_of_selects (args := #[]) (mvT hZ (wi hw 21 rfl))) (mvT hZ (wi hw 21 rfl)) (mvT hZ (wi hw 20 rfl)) (by decide) (backOf (W := 0) (rm_open1 l Z a0 hw [] b103 d p0 aN kN h104 n0 (by omega) p104_E_a1 p104_F_brackets_a1 p104_F_contentStarts_a1 p104_F_closes_a1 p104_F_size_a1 c110_V_aN ne_b103_aN_111 ge106_b103) hZ (wi hw 22 rfl) (wi hw 5 rfl) (by decide) (by decide)) q107a q107c (g := (mkF mM 19 (Lc_law_eq_2_0_2 p0 p2 p3 p4 d b103) [(.int p0), (.ref d), (.ref b103)])) rfl (by rw [hml]; rfl) (Steps.refl _) (argsL := [(.ref d), (.int p0)]) (rest := []) (lenOf pd_1 rfl) rfl (by show 2 * 0 + _ ≤ _; exact Nat.le_of_eq rfl) (hb hby at_19) (fun _ _ => ⟨rfl, e104, Nat.le_of_ble_eq_true rfl, Nat.le_of_ble_eq_true rfl⟩)
  dsimp only [Pt.U, Pt.locs, Pt.cells, Pt.slots] at X107 l107 y107 z107 st107 hQ107
  subst l107 y107 z107
  obtain ⟨h107, e107⟩ : ∃ z, T107.heap = z := ⟨_, rfl⟩
  rw [e107] at hQ107
  obtain ⟨b1_107, b2_107, k1_107, k2_107, rfl, N107q, Kp107, p107_E_a1, p107_F_brackets_a1, p107_F_contentStarts_a1, p107_F_closes_a1, p107_F_size_a1, p107_V_b1, p107_V_b2, p107_gh_b1, p107_gh_b2, p107_ne_b1_b2⟩ := hQ107
  have Sz3 : h104.size ≤ h107.size := Kp107.1
  have N107 := Fr.app N104 N107q
  have lt_b1_107 : @LT.lt Nat _ b1_107 h107.size := p107_V_b1.lt
  have ne_b103_b1_107_113 : b103 ≠ b1_107 := (by omega : @Ne Nat b103 b1_107)
  have lt_b2_107 : @LT.lt Nat _ b2_107 h107.size := p107_V_b2.lt
  have ne_b103_b2_107_114 : b103 ≠ b2_107 := (by omega : @Ne Nat b103 b2_107)
  have ge115_b1_107 : @LE.le Nat _ n0 b1_107 := by omega
  have ge116_b2_107 : @LE.le Nat _ n0 b2_107 := by omega
  obtain ⟨cq112, kq112, q112a, q112b, q112c⟩ := isOf hZ e107 p107_E_a1
  obtain ⟨_, _, ⟨T112, L112, k112, n112⟩, -, X112, ⟨Lc112, hQ112, l112, y112, z112⟩, st112⟩ := X107.virtualBack hx (y := (⟨"com/example/macroweave/macroweave/BracketPairs", "opened", "(Lcom/example/macroweave/macroweave/Brackets;I)I"⟩ : MethodName)) (z := (⟨"com/example/macroweave/macroweave/BracketPairs", "opened", "(Lcom/example/macroweave/macroweave/Brackets;I)I"⟩ : MethodName)) hown (mvT hZ (wi hw 18 rfl)) (mvT hZ (wi hw 19 rfl)) (notFace_of_selects (args := #[]) (mvT hZ (wi hw 21 rfl))) (mvT hZ (wi hw 21 rfl)) (mvT hZ (wi hw 20 rfl)) (by decide) (backOf (W := 0) (rm_open2n l Z a0 hw [] b103 d p0 p0 b1_107 b2_107 k1_107 k2_107 h107 n0 (by omega) p107_E_a1 p107_F_brackets_a1 p107_F_contentStarts_a1 p107_F_closes_a1 p107_F_size_a1 p107_V_b1 p107_V_b2 ne_b103_b1_107_113 ne_b103_b2_107_114 p107_ne_b1_b2 ge106_b103 ge115_b1_107 ge116_b2_107 (Int32.lt_irrefl)) hZ (wi hw 22 rfl) (wi hw 5 rfl) (by decide) (by decide)) q112a q112c (g := (mkF mM 29 (Lc_law_eq_2_0_3 p0 p2 p3 p4 d b103) [(.int p0), (.ref d), (.ref b103)])) rfl (by rw [hml]; rfl) (Steps.refl _) (argsL := [(.ref d), (.int p0)]) (rest := []) (lenOf pd_1 rfl) rfl (by show 2 * 0 + _ ≤ _; exact Nat.le_of_eq rfl) (hb hby at_29) (fun _ _ => ⟨rfl, e107, Nat.le_of_ble_eq_true rfl, Nat.le_of_ble_eq_true rfl⟩)
  dsimp only [Pt.U, Pt.locs, Pt.cells, Pt.slots] at X112 l112 y112 z112 st112 hQ112
  subst l112 y112 z112
  obtain ⟨h112, e112⟩ : ∃ z, T112.heap = z := ⟨_, rfl⟩
  rw [e112] at hQ112
  obtain ⟨rfl, N112q, eq112⟩ := hQ112
  rw [eq112] at e112
  have N112 := Fr.app N107 N112q
  obtain ⟨cq117, kq117, q117a, q117b, q117c⟩ := isOf hZ e112 p107_E_a1
  obtain ⟨_, _, ⟨T117, L117, k117, n117⟩, -, X117, ⟨Lc117, hQ117, l117, y117, z117⟩, st117⟩ := X112.virtualBack hx (y := (⟨"com/example/macroweave/macroweave/BracketPairs", "closed", "(II)V"⟩ : MethodName)) (z := (⟨"com/example/macroweave/macroweave/BracketPairs", "closed", "(II)V"⟩ : MethodName)) hown (mvT hZ (wi hw 43 rfl)) (mvT hZ (wi hw 44 rfl)) (notFace_of_selects (args := #[]) (mvT hZ (wi hw 46 rfl))) (mvT hZ (wi hw 46 rfl)) (mvT hZ (wi hw 45 rfl)) (by decide) (backOf (W := 0) (rm_closedn l Z a0 hw [] b103 p2 h107 n0 (by omega) ) hZ (wi hw 47 rfl) (wi hw 5 rfl) (by decide) (by decide)) q117a q117c (g := (mkF mM 109 (Lc_law_eq_2_0_7 p0 p2 p3 p4 d b103) [(.int p2), (.int (-1 : Int32)), (.ref b103)])) rfl (by rw [hml]; rfl) (Steps.refl _) (argsL := [(.int (-1 : Int32)), (.int p2)]) (rest := []) (lenOf pd_5 rfl) rfl (by show 2 * 0 + _ ≤ _; exact Nat.le_of_eq rfl) (hb hby at_109) (fun _ _ => ⟨rfl, e112, Nat.le_of_ble_eq_true rfl, Nat.le_of_ble_eq_true rfl⟩)
  dsimp only [Pt.U, Pt.locs, Pt.cells, Pt.slots] at X117 l117 y117 z117 st117 hQ117
  subst l117 y117 z117
  obtain ⟨h117, e117⟩ : ∃ z, T117.heap = z := ⟨_, rfl⟩
  rw [e117] at hQ117
  obtain ⟨rfl, N117q, eq117⟩ := hQ117
  rw [eq117] at e117
  have N117 := Fr.app N112 N117q
  obtain ⟨cq118, kq118, q118a, q118b, q118c⟩ := isOf hZ e117 p107_E_a1
  obtain ⟨_, _, ⟨T118, L118, k118, n118⟩, -, X118, ⟨Lc118, hQ118, l118, y118, z118⟩, st118⟩ := X117.virtualBack hx (y := (⟨"com/example/macroweave/macroweave/BracketPairs", "close", "(Lcom/example/macroweave/macroweave/Brackets;I)I"⟩ : MethodName)) (z := (⟨"com/example/macroweave/macroweave/BracketPairs", "close", "(Lcom/example/macroweave/macroweave/Brackets;I)I"⟩ : MethodName)) hown (mvT hZ (wi hw 48 rfl)) (mvT hZ (wi hw 49 rfl)) (notFace_of_selects (args := #[]) (mvT hZ (wi hw 51 rfl))) (mvT hZ (wi hw 51 rfl)) (mvT hZ (wi hw 50 rfl)) (by decide) (backOf (W := 0) (rm_close_1x l Z a0 hw [] b103 d b1_107 k1_107 p0 b2_107 k2_107 (-1 : Int32) (0 : Int32) h107 n0 (by omega) p107_F_brackets_a1 p107_F_contentStarts_a1 p107_F_closes_a1 p107_F_size_a1 p107_V_b1 p107_V_b2) hZ (wi hw 52 rfl) (wi hw 5 rfl) (by decide) (by decide)) q118a q118c (g := (mkF mM 187 (Lc_law_eq_2_0_9 p0 p2 p3 p4 d b103) [(.int p0), (.ref d), (.ref b103)])) rfl (by rw [hml]; rfl) (Steps.refl _) (argsL := [(.ref d), (.int p0)]) (rest := []) (lenOf pd_1 rfl) rfl (by show 2 * 0 + _ ≤ _; exact Nat.le_of_eq rfl) (hb hby at_187) (fun _ _ => ⟨rfl, e117, Nat.le_of_ble_eq_true rfl, Nat.le_of_ble_eq_true rfl⟩)
  dsimp only [Pt.U, Pt.locs, Pt.cells, Pt.slots] at X118 l118 y118 z118 st118 hQ118
  subst l118 y118 z118
  obtain ⟨h118, e118⟩ : ∃ z, T118.heap = z := ⟨_, rfl⟩
  rw [e118] at hQ118
  obtain ⟨rfl, N118q, eq118⟩ := hQ118
  rw [eq118] at e118
  have N118 := Fr.app N117 N118q
  obtain ⟨cq119, kq119, q119a, q119b, q119c⟩ := isOf hZ e118 p107_E_a1
  obtain ⟨_, _, ⟨T119, L119, k119, n119⟩, -, X119, ⟨Lc119, hQ119, l119, y119, z119⟩, st119⟩ := X118.virtualBack hx (y := (⟨"com/example/macroweave/macroweave/BracketPairs", "close", "(Lcom/example/macroweave/macroweave/Brackets;I)I"⟩ : MethodName)) (z := (⟨"com/example/macroweave/macroweave/BracketPairs", "close", "(Lcom/example/macroweave/macroweave/Brackets;I)I"⟩ : MethodName)) hown (mvT hZ (wi hw 48 rfl)) (mvT hZ (wi hw 49 rfl)) (notFace_of_selects (args := #[]) (mvT hZ (wi hw 51 rfl))) (mvT hZ (wi hw 51 rfl)) (mvT hZ (wi hw 50 rfl)) (by decide) (backOf (W := 0) (rm_close_1x l Z a0 hw [] b103 d b1_107 k1_107 p0 b2_107 k2_107 (-1 : Int32) (0 : Int32) h107 n0 (by omega) p107_F_brackets_a1 p107_F_contentStarts_a1 p107_F_closes_a1 p107_F_size_a1 p107_V_b1 p107_V_b2) hZ (wi hw 52 rfl) (wi hw 5 rfl) (by decide) (by decide)) q119a q119c (g := (mkF mM 200 (Lc_law_eq_2_0_9 p0 p2 p3 p4 d b103) [(.int p0), (.ref d), (.ref b103)])) rfl (by rw [hml]; rfl) (Steps.refl _) (argsL := [(.ref d), (.int p0)]) (rest := []) (lenOf pd_1 rfl) rfl (by show 2 * 0 + _ ≤ _; exact Nat.le_of_eq rfl) (hb hby at_200) (fun _ _ => ⟨rfl, e118, Nat.le_of_ble_eq_true rfl, Nat.le_of_ble_eq_true rfl⟩)
  dsimp only [Pt.U, Pt.locs, Pt.cells, Pt.slots] at X119 l119 y119 z119 st119 hQ119
  subst l119 y119 z119
  obtain ⟨h119, e119⟩ : ∃ z, T119.heap = z := ⟨_, rfl⟩
  rw [e119] at hQ119
  obtain ⟨rfl, N119q, eq119⟩ := hQ119
  rw [eq119] at e119
  have N119 := Fr.app N118 N119q
  obtain ⟨fs, hr, hrun, hended, hW, hsame⟩ := X119.leave (v := some (.int (1 : Int32))) (fun h => by rw [Bd.returns] at h; cases h)
  refine ⟨_, _, pre0 _ ?_, hrun, hended, _, _, rfl, ?_, ⟨_, rfl⟩, hW, hsame.mono (by decide) (by decide)⟩
  · show SS pP eE belowS s₁ (mkF mM 0 (Lc_law_eq_2_0_0 p0 p2 p3 p4) []) _
    refine st102 _ ?_
    show SS pP eE belowS T102 (mkF mM 3 (Lc_law_eq_2_0_0 p0 p2 p3 p4) [(.ref d)]) _
    refine XS.astore X102.here hx rfl (hb hby at_3) rfl rfl (l' := (Lc_law_eq_2_0_1 p0 p2 p3 p4 d)) rfl ?_
    show SS pP eE belowS T102 (mkF mM 5 (Lc_law_eq_2_0_1 p0 p2 p3 p4 d) []) _
    refine st103 _ ?_
    show SS pP eE belowS T103 (mkF mM 8 (Lc_law_eq_2_0_1 p0 p2 p3 p4 d) [(.ref b103)]) _
    refine XS.dup X103.here hx rfl (hb hby at_8) rfl rfl ?_
    show SS pP eE belowS T103 (mkF mM 9 (Lc_law_eq_2_0_1 p0 p2 p3 p4 d) [(.ref b103), (.ref b103)]) _
    refine st104.trans ?_
    show SS pP eE belowS T104 (mkF mM 12 (Lc_law_eq_2_0_1 p0 p2 p3 p4 d) [(.ref b103)]) _
    refine XS.astore X104.here hx rfl (hb hby at_12) rfl rfl (l' := (Lc_law_eq_2_0_2 p0 p2 p3 p4 d b103)) rfl ?_
    show SS pP eE belowS T104 (mkF mM 14 (Lc_law_eq_2_0_2 p0 p2 p3 p4 d b103) []) _
    refine XS.aload X104.here hx rfl (hb hby at_14) rfl rfl ?_
    show SS pP eE belowS T104 (mkF mM 16 (Lc_law_eq_2_0_2 p0 p2 p3 p4 d b103) [(.ref b103)]) _
    refine XS.aload X104.here hx rfl (hb hby at_16) rfl rfl ?_
    show SS pP eE belowS T104 (mkF mM 18 (Lc_law_eq_2_0_2 p0 p2 p3 p4 d b103) [(.ref d), (.ref b103)]) _
    refine XS.iloadN X104.here hx rfl (hb hby at_18) rfl ?_
    show SS pP eE belowS T104 (mkF mM 19 (Lc_law_eq_2_0_2 p0 p2 p3 p4 d b103) [(.int p0), (.ref d), (.ref b103)]) _
    refine st107.trans ?_
    show SS pP eE belowS T107 (mkF mM 22 (Lc_law_eq_2_0_2 p0 p2 p3 p4 d b103) [(.int (0 : Int32))]) _
    refine XS.istore X107.here hx rfl (hb hby at_22) rfl (l' := (Lc_law_eq_2_0_3 p0 p2 p3 p4 d b103)) rfl ?_
    show SS pP eE belowS T107 (mkF mM 24 (Lc_law_eq_2_0_3 p0 p2 p3 p4 d b103) []) _
    refine XS.aload X107.here hx rfl (hb hby at_24) rfl rfl ?_
    show SS pP eE belowS T107 (mkF mM 26 (Lc_law_eq_2_0_3 p0 p2 p3 p4 d b103) [(.ref b103)]) _
    refine XS.aload X107.here hx rfl (hb hby at_26) rfl rfl ?_
    show SS pP eE belowS T107 (mkF mM 28 (Lc_law_eq_2_0_3 p0 p2 p3 p4 d b103) [(.ref d), (.ref b103)]) _
    refine XS.iloadN X107.here hx rfl (hb hby at_28) rfl ?_
    show SS pP eE belowS T107 (mkF mM 29 (Lc_law_eq_2_0_3 p0 p2 p3 p4 d b103) [(.int p0), (.ref d), (.ref b103)]) _
    refine st112.trans ?_
    show SS pP eE belowS T112 (mkF mM 32 (Lc_law_eq_2_0_3 p0 p2 p3 p4 d b103) [(.int (-1 : Int32))]) _
    refine XS.istore X112.here hx rfl (hb hby at_32) rfl (l' := (Lc_law_eq_2_0_4 p0 p2 p3 p4 d b103)) rfl ?_
    show SS pP eE belowS T112 (mkF mM 34 (Lc_law_eq_2_0_4 p0 p2 p3 p4 d b103) []) _
    refine XS.iload X112.here hx rfl (hb hby at_34) rfl ?_
    show SS pP eE belowS T112 (mkF mM 36 (Lc_law_eq_2_0_4 p0 p2 p3 p4 d b103) [(.int (0 : Int32))]) _
    refine XS.ifYes X112.here hx rfl (pc0 := 36) (pc' := 41) rfl (hb hby at_36) rfl ((if0 _ _).trans (teq (by decide : (0 : Int32) = (0 : Int32))).1) (by decide) (by decide) ?_
    show SS pP eE belowS T112 (mkF mM 41 (Lc_law_eq_2_0_4 p0 p2 p3 p4 d b103) []) _
    refine XS.iload X112.here hx rfl (hb hby at_41) rfl ?_
    show SS pP eE belowS T112 (mkF mM 43 (Lc_law_eq_2_0_4 p0 p2 p3 p4 d b103) [(.int (-1 : Int32))]) _
    refine XS.iloadN X112.here hx rfl (hb hby at_43) rfl ?_
    show SS pP eE belowS T112 (mkF mM 44 (Lc_law_eq_2_0_4 p0 p2 p3 p4 d b103) [(.int p0), (.int (-1 : Int32))]) _
    refine XS.iloadN X112.here hx rfl (hb hby at_44) rfl ?_
    show SS pP eE belowS T112 (mkF mM 45 (Lc_law_eq_2_0_4 p0 p2 p3 p4 d b103) [(.int p0), (.int p0), (.int (-1 : Int32))]) _
    refine XS.icmpYes X112.here hx rfl (pc0 := 45) (pc' := 52) rfl (hb hby at_45) rfl (flt (Int32.lt_irrefl : ¬ (p0 < p0))).2.2.2 (by decide) (by decide) ?_
    show SS pP eE belowS T112 (mkF mM 52 (Lc_law_eq_2_0_4 p0 p2 p3 p4 d b103) [(.int (-1 : Int32))]) _
    refine XS.iconst X112.here hx rfl (hb hby at_52) ?_
    show SS pP eE belowS T112 (mkF mM 53 (Lc_law_eq_2_0_4 p0 p2 p3 p4 d b103) [(.int (-1 : Int32)), (.int (-1 : Int32))]) _
    refine XS.icmpYes X112.here hx rfl (pc0 := 53) (pc' := 58) rfl (hb hby at_53) rfl (teq (by decide : (-1 : Int32) = (-1 : Int32))).1 (by decide) (by decide) ?_
    show SS pP eE belowS T112 (mkF mM 58 (Lc_law_eq_2_0_4 p0 p2 p3 p4 d b103) []) _
    refine XS.iload X112.here hx rfl (hb hby at_58) rfl ?_
    show SS pP eE belowS T112 (mkF mM 60 (Lc_law_eq_2_0_4 p0 p2 p3 p4 d b103) [(.int p4)]) _
    refine XS.iconst X112.here hx rfl (hb hby at_60) ?_
    show SS pP eE belowS T112 (mkF mM 61 (Lc_law_eq_2_0_4 p0 p2 p3 p4 d b103) [(.int (3 : Int32)), (.int p4)]) _
    refine XS.iand X112.here hx rfl (hb hby at_61) rfl ?_
    show SS pP eE belowS T112 (mkF mM 62 (Lc_law_eq_2_0_4 p0 p2 p3 p4 d b103) [(.int (p4 &&& (3 : Int32)))]) _
    refine XS.istore X112.here hx rfl (hb hby at_62) rfl (l' := (Lc_law_eq_2_0_5 p0 p2 p3 p4 d b103)) rfl ?_
    show SS pP eE belowS T112 (mkF mM 64 (Lc_law_eq_2_0_5 p0 p2 p3 p4 d b103) []) _
    refine XS.iload X112.here hx rfl (hb hby at_64) rfl ?_
    show SS pP eE belowS T112 (mkF mM 66 (Lc_law_eq_2_0_5 p0 p2 p3 p4 d b103) [(.int (p4 &&& (3 : Int32)))]) _
    refine XS.ifYes X112.here hx rfl (pc0 := 66) (pc' := 74) rfl (hb hby at_66) rfl ((if0 _ _).trans (feq hc66).2) (by decide) (by decide) ?_
    show SS pP eE belowS T112 (mkF mM 74 (Lc_law_eq_2_0_5 p0 p2 p3 p4 d b103) []) _
    refine XS.iload X112.here hx rfl (hb hby at_74) rfl ?_
    show SS pP eE belowS T112 (mkF mM 76 (Lc_law_eq_2_0_5 p0 p2 p3 p4 d b103) [(.int (p4 &&& (3 : Int32)))]) _
    refine XS.iconst X112.here hx rfl (hb hby at_76) ?_
    show SS pP eE belowS T112 (mkF mM 77 (Lc_law_eq_2_0_5 p0 p2 p3 p4 d b103) [(.int (1 : Int32)), (.int (p4 &&& (3 : Int32)))]) _
    refine XS.icmpYes X112.here hx rfl (pc0 := 77) (pc' := 85) rfl (hb hby at_77) rfl (feq hc77).2 (by decide) (by decide) ?_
    show SS pP eE belowS T112 (mkF mM 85 (Lc_law_eq_2_0_5 p0 p2 p3 p4 d b103) []) _
    refine XS.iconst X112.here hx rfl (hb hby at_85) ?_
    show SS pP eE belowS T112 (mkF mM 86 (Lc_law_eq_2_0_5 p0 p2 p3 p4 d b103) [(.int (-1 : Int32))]) _
    refine XS.istore X112.here hx rfl (hb hby at_86) rfl (l' := (Lc_law_eq_2_0_6 p0 p2 p3 p4 d b103)) rfl ?_
    show SS pP eE belowS T112 (mkF mM 88 (Lc_law_eq_2_0_6 p0 p2 p3 p4 d b103) []) _
    refine XS.iload X112.here hx rfl (hb hby at_88) rfl ?_
    show SS pP eE belowS T112 (mkF mM 90 (Lc_law_eq_2_0_6 p0 p2 p3 p4 d b103) [(.int p4)]) _
    refine XS.iconst X112.here hx rfl (hb hby at_90) ?_
    show SS pP eE belowS T112 (mkF mM 91 (Lc_law_eq_2_0_6 p0 p2 p3 p4 d b103) [(.int (2 : Int32)), (.int p4)]) _
    refine XS.ishr X112.here hx rfl (hb hby at_91) rfl ?_
    show SS pP eE belowS T112 (mkF mM 92 (Lc_law_eq_2_0_6 p0 p2 p3 p4 d b103) [(.int (p4 >>> ((2 : Int32) &&& 31)))]) _
    refine XS.iconst X112.here hx rfl (hb hby at_92) ?_
    show SS pP eE belowS T112 (mkF mM 93 (Lc_law_eq_2_0_6 p0 p2 p3 p4 d b103) [(.int (1 : Int32)), (.int (p4 >>> ((2 : Int32) &&& 31)))]) _
    refine XS.iand X112.here hx rfl (hb hby at_93) rfl ?_
    show SS pP eE belowS T112 (mkF mM 94 (Lc_law_eq_2_0_6 p0 p2 p3 p4 d b103) [(.int ((p4 >>> ((2 : Int32) &&& 31)) &&& (1 : Int32)))]) _
    refine XS.ifYes X112.here hx rfl (pc0 := 94) (pc' := 101) rfl (hb hby at_94) rfl ((if0 _ _).trans (teq hc94).1) (by decide) (by decide) ?_
    show SS pP eE belowS T112 (mkF mM 101 (Lc_law_eq_2_0_6 p0 p2 p3 p4 d b103) []) _
    refine XS.iconst X112.here hx rfl (hb hby at_101) ?_
    show SS pP eE belowS T112 (mkF mM 102 (Lc_law_eq_2_0_6 p0 p2 p3 p4 d b103) [(.int (0 : Int32))]) _
    refine XS.istore X112.here hx rfl (hb hby at_102) rfl (l' := (Lc_law_eq_2_0_7 p0 p2 p3 p4 d b103)) rfl ?_
    show SS pP eE belowS T112 (mkF mM 104 (Lc_law_eq_2_0_7 p0 p2 p3 p4 d b103) []) _
    refine XS.aload X112.here hx rfl (hb hby at_104) rfl rfl ?_
    show SS pP eE belowS T112 (mkF mM 106 (Lc_law_eq_2_0_7 p0 p2 p3 p4 d b103) [(.ref b103)]) _
    refine XS.iload X112.here hx rfl (hb hby at_106) rfl ?_
    show SS pP eE belowS T112 (mkF mM 108 (Lc_law_eq_2_0_7 p0 p2 p3 p4 d b103) [(.int (-1 : Int32)), (.ref b103)]) _
    refine XS.iloadN X112.here hx rfl (hb hby at_108) rfl ?_
    show SS pP eE belowS T112 (mkF mM 109 (Lc_law_eq_2_0_7 p0 p2 p3 p4 d b103) [(.int p2), (.int (-1 : Int32)), (.ref b103)]) _
    refine st117.trans ?_
    show SS pP eE belowS T117 (mkF mM 112 (Lc_law_eq_2_0_7 p0 p2 p3 p4 d b103) []) _
    refine XS.iload X117.here hx rfl (hb hby at_112) rfl ?_
    show SS pP eE belowS T117 (mkF mM 114 (Lc_law_eq_2_0_7 p0 p2 p3 p4 d b103) [(.int (0 : Int32))]) _
    refine XS.ifYes X117.here hx rfl (pc0 := 114) (pc' := 125) rfl (hb hby at_114) rfl ((if0 _ _).trans (teq (by decide : (0 : Int32) = (0 : Int32))).1) (by decide) (by decide) ?_
    show SS pP eE belowS T117 (mkF mM 125 (Lc_law_eq_2_0_7 p0 p2 p3 p4 d b103) []) _
    refine XS.iload X117.here hx rfl (hb hby at_125) rfl ?_
    show SS pP eE belowS T117 (mkF mM 127 (Lc_law_eq_2_0_7 p0 p2 p3 p4 d b103) [(.int (0 : Int32))]) _
    refine XS.ifYes X117.here hx rfl (pc0 := 127) (pc' := 134) rfl (hb hby at_127) rfl ((if0 _ _).trans (teq (by decide : (0 : Int32) = (0 : Int32))).1) (by decide) (by decide) ?_
    show SS pP eE belowS T117 (mkF mM 134 (Lc_law_eq_2_0_7 p0 p2 p3 p4 d b103) []) _
    refine XS.iload X117.here hx rfl (hb hby at_134) rfl ?_
    show SS pP eE belowS T117 (mkF mM 136 (Lc_law_eq_2_0_7 p0 p2 p3 p4 d b103) [(.int (-1 : Int32))]) _
    refine XS.ifYes X117.here hx rfl (pc0 := 136) (pc' := 143) rfl (hb hby at_136) rfl ((if0 _ _).trans (feq (by decide : ¬ ((-1 : Int32) = (0 : Int32)))).2) (by decide) (by decide) ?_
    show SS pP eE belowS T117 (mkF mM 143 (Lc_law_eq_2_0_7 p0 p2 p3 p4 d b103) []) _
    refine XS.iconst X117.here hx rfl (hb hby at_143) ?_
    show SS pP eE belowS T117 (mkF mM 144 (Lc_law_eq_2_0_7 p0 p2 p3 p4 d b103) [(.int (-1 : Int32))]) _
    refine XS.istore X117.here hx rfl (hb hby at_144) rfl (l' := (Lc_law_eq_2_0_8 p0 p2 p3 p4 d b103)) rfl ?_
    show SS pP eE belowS T117 (mkF mM 146 (Lc_law_eq_2_0_8 p0 p2 p3 p4 d b103) []) _
    refine XS.iloadN X117.here hx rfl (hb hby at_146) rfl ?_
    show SS pP eE belowS T117 (mkF mM 147 (Lc_law_eq_2_0_8 p0 p2 p3 p4 d b103) [(.int p0)]) _
    refine XS.iloadN X117.here hx rfl (hb hby at_147) rfl ?_
    show SS pP eE belowS T117 (mkF mM 148 (Lc_law_eq_2_0_8 p0 p2 p3 p4 d b103) [(.int p0), (.int p0)]) _
    refine XS.icmpYes X117.here hx rfl (pc0 := 148) (pc' := 167) rfl (hb hby at_148) rfl (flt (Int32.lt_irrefl : ¬ (p0 < p0))).2.2.2 (by decide) (by decide) ?_
    show SS pP eE belowS T117 (mkF mM 167 (Lc_law_eq_2_0_8 p0 p2 p3 p4 d b103) []) _
    refine XS.iloadN X117.here hx rfl (hb hby at_167) rfl ?_
    show SS pP eE belowS T117 (mkF mM 168 (Lc_law_eq_2_0_8 p0 p2 p3 p4 d b103) [(.int p0)]) _
    refine XS.iloadN X117.here hx rfl (hb hby at_168) rfl ?_
    show SS pP eE belowS T117 (mkF mM 169 (Lc_law_eq_2_0_8 p0 p2 p3 p4 d b103) [(.int p0), (.int p0)]) _
    refine XS.icmpNo X117.here hx rfl (hb hby at_169) rfl (teq (rfl : p0 = p0)).2 ?_
    show SS pP eE belowS T117 (mkF mM 172 (Lc_law_eq_2_0_8 p0 p2 p3 p4 d b103) []) _
    refine XS.iload X117.here hx rfl (hb hby at_172) rfl ?_
    show SS pP eE belowS T117 (mkF mM 174 (Lc_law_eq_2_0_8 p0 p2 p3 p4 d b103) [(.int (-1 : Int32))]) _
    refine XS.istore X117.here hx rfl (hb hby at_174) rfl (l' := (Lc_law_eq_2_0_9 p0 p2 p3 p4 d b103)) rfl ?_
    show SS pP eE belowS T117 (mkF mM 176 (Lc_law_eq_2_0_9 p0 p2 p3 p4 d b103) []) _
    refine XS.goto X117.here hx rfl (pc0 := 176) (pc' := 182) rfl (hb hby at_176) (by decide) (by decide) ?_
    show SS pP eE belowS T117 (mkF mM 182 (Lc_law_eq_2_0_9 p0 p2 p3 p4 d b103) []) _
    refine XS.aload X117.here hx rfl (hb hby at_182) rfl rfl ?_
    show SS pP eE belowS T117 (mkF mM 184 (Lc_law_eq_2_0_9 p0 p2 p3 p4 d b103) [(.ref b103)]) _
    refine XS.aload X117.here hx rfl (hb hby at_184) rfl rfl ?_
    show SS pP eE belowS T117 (mkF mM 186 (Lc_law_eq_2_0_9 p0 p2 p3 p4 d b103) [(.ref d), (.ref b103)]) _
    refine XS.iloadN X117.here hx rfl (hb hby at_186) rfl ?_
    show SS pP eE belowS T117 (mkF mM 187 (Lc_law_eq_2_0_9 p0 p2 p3 p4 d b103) [(.int p0), (.ref d), (.ref b103)]) _
    refine st118.trans ?_
    show SS pP eE belowS T118 (mkF mM 190 (Lc_law_eq_2_0_9 p0 p2 p3 p4 d b103) [(.int (-1 : Int32))]) _
    refine XS.iload X118.here hx rfl (hb hby at_190) rfl ?_
    show SS pP eE belowS T118 (mkF mM 192 (Lc_law_eq_2_0_9 p0 p2 p3 p4 d b103) [(.int (-1 : Int32)), (.int (-1 : Int32))]) _
    refine XS.icmpNo X118.here hx rfl (hb hby at_192) rfl (teq (by decide : (-1 : Int32) = (-1 : Int32))).2 ?_
    show SS pP eE belowS T118 (mkF mM 195 (Lc_law_eq_2_0_9 p0 p2 p3 p4 d b103) []) _
    refine XS.aload X118.here hx rfl (hb hby at_195) rfl rfl ?_
    show SS pP eE belowS T118 (mkF mM 197 (Lc_law_eq_2_0_9 p0 p2 p3 p4 d b103) [(.ref b103)]) _
    refine XS.aload X118.here hx rfl (hb hby at_197) rfl rfl ?_
    show SS pP eE belowS T118 (mkF mM 199 (Lc_law_eq_2_0_9 p0 p2 p3 p4 d b103) [(.ref d), (.ref b103)]) _
    refine XS.iloadN X118.here hx rfl (hb hby at_199) rfl ?_
    show SS pP eE belowS T118 (mkF mM 200 (Lc_law_eq_2_0_9 p0 p2 p3 p4 d b103) [(.int p0), (.ref d), (.ref b103)]) _
    refine st119.trans ?_
    show SS pP eE belowS T119 (mkF mM 203 (Lc_law_eq_2_0_9 p0 p2 p3 p4 d b103) [(.int (-1 : Int32))]) _
    refine XS.iload X119.here hx rfl (hb hby at_203) rfl ?_
    show SS pP eE belowS T119 (mkF mM 205 (Lc_law_eq_2_0_9 p0 p2 p3 p4 d b103) [(.int (-1 : Int32)), (.int (-1 : Int32))]) _
    refine XS.icmpNo X119.here hx rfl (hb hby at_205) rfl (teq (by decide : (-1 : Int32) = (-1 : Int32))).2 ?_
    show SS pP eE belowS T119 (mkF mM 208 (Lc_law_eq_2_0_9 p0 p2 p3 p4 d b103) []) _
    refine XS.iconst X119.here hx rfl (hb hby at_208) ?_
    show SS pP eE belowS T119 (mkF mM 209 (Lc_law_eq_2_0_9 p0 p2 p3 p4 d b103) [(.int (1 : Int32))]) _
    refine XS.goto X119.here hx rfl (pc0 := 209) (pc' := 213) rfl (hb hby at_209) (by decide) (by decide) ?_
    show SS pP eE belowS T119 (mkF mM 213 (Lc_law_eq_2_0_9 p0 p2 p3 p4 d b103) [(.int (1 : Int32))]) _
    exact retN X119 hx (t := .boolean) Bd.returns (by simp) (hb hby at_213) hr
  · exact ⟨rfl, N119⟩

abbrev Lc_law_eq_2_1_0 (p0 : Int32) (p2 : Int32) (p3 : Int32) (p4 : Int32) : Array Slot := #[.val (.int p0), .val (.int p0), .val (.int p2), .val (.int p3), .val (.int p4), .unset, .unset, .unset, .unset, .unset, .unset, .unset, .unset, .unset]
abbrev Lc_law_eq_2_1_1 (p0 : Int32) (p2 : Int32) (p3 : Int32) (p4 : Int32) (d : Addr) : Array Slot := #[.val (.int p0), .val (.int p0), .val (.int p2), .val (.int p3), .val (.int p4), .val (.ref d), .unset, .unset, .unset, .unset, .unset, .unset, .unset, .unset]
abbrev Lc_law_eq_2_1_2 (p0 : Int32) (p2 : Int32) (p3 : Int32) (p4 : Int32) (d : Addr) (b103 : Addr) : Array Slot := #[.val (.int p0), .val (.int p0), .val (.int p2), .val (.int p3), .val (.int p4), .val (.ref d), .val (.ref b103), .unset, .unset, .unset, .unset, .unset, .unset, .unset]
abbrev Lc_law_eq_2_1_3 (p0 : Int32) (p2 : Int32) (p3 : Int32) (p4 : Int32) (d : Addr) (b103 : Addr) : Array Slot := #[.val (.int p0), .val (.int p0), .val (.int p2), .val (.int p3), .val (.int p4), .val (.ref d), .val (.ref b103), .val (.int (0 : Int32)), .unset, .unset, .unset, .unset, .unset, .unset]
abbrev Lc_law_eq_2_1_4 (p0 : Int32) (p2 : Int32) (p3 : Int32) (p4 : Int32) (d : Addr) (b103 : Addr) : Array Slot := #[.val (.int p0), .val (.int p0), .val (.int p2), .val (.int p3), .val (.int p4), .val (.ref d), .val (.ref b103), .val (.int (0 : Int32)), .val (.int (-1 : Int32)), .unset, .unset, .unset, .unset, .unset]
abbrev Lc_law_eq_2_1_5 (p0 : Int32) (p2 : Int32) (p3 : Int32) (p4 : Int32) (d : Addr) (b103 : Addr) : Array Slot := #[.val (.int p0), .val (.int p0), .val (.int p2), .val (.int p3), .val (.int p4), .val (.ref d), .val (.ref b103), .val (.int (0 : Int32)), .val (.int (-1 : Int32)), .val (.int (p4 &&& (3 : Int32))), .unset, .unset, .unset, .unset]
abbrev Lc_law_eq_2_1_6 (p0 : Int32) (p2 : Int32) (p3 : Int32) (p4 : Int32) (d : Addr) (b103 : Addr) : Array Slot := #[.val (.int p0), .val (.int p0), .val (.int p2), .val (.int p3), .val (.int p4), .val (.ref d), .val (.ref b103), .val (.int (0 : Int32)), .val (.int (-1 : Int32)), .val (.int (p4 &&& (3 : Int32))), .val (.int (-1 : Int32)), .unset, .unset, .unset]
abbrev Lc_law_eq_2_1_7 (p0 : Int32) (p2 : Int32) (p3 : Int32) (p4 : Int32) (d : Addr) (b103 : Addr) : Array Slot := #[.val (.int p0), .val (.int p0), .val (.int p2), .val (.int p3), .val (.int p4), .val (.ref d), .val (.ref b103), .val (.int (0 : Int32)), .val (.int (-1 : Int32)), .val (.int (p4 &&& (3 : Int32))), .val (.int (-1 : Int32)), .val (.int (1 : Int32)), .unset, .unset]
abbrev Lc_law_eq_2_1_8 (p0 : Int32) (p2 : Int32) (p3 : Int32) (p4 : Int32) (d : Addr) (b103 : Addr) : Array Slot := #[.val (.int p0), .val (.int p0), .val (.int p2), .val (.int p3), .val (.int p4), .val (.ref d), .val (.ref b103), .val (.int (0 : Int32)), .val (.int (-1 : Int32)), .val (.int (p4 &&& (3 : Int32))), .val (.int (-1 : Int32)), .val (.int (1 : Int32)), .val (.int p3), .unset]
abbrev Lc_law_eq_2_1_9 (p0 : Int32) (p2 : Int32) (p3 : Int32) (p4 : Int32) (d : Addr) (b103 : Addr) : Array Slot := #[.val (.int p0), .val (.int p0), .val (.int p2), .val (.int p3), .val (.int p4), .val (.ref d), .val (.ref b103), .val (.int (0 : Int32)), .val (.int (-1 : Int32)), .val (.int (p4 &&& (3 : Int32))), .val (.int (-1 : Int32)), .val (.int (1 : Int32)), .val (.int p3), .val (.int p3)]
theorem ef_law_eq_2_1 (mM : MethodId) (p0 : Int32) (p2 : Int32) (p3 : Int32) (p4 : Int32) (aN : Addr) (kN : ClassId) (d : Addr) : entryFrame mM #[(.int p0), (.int p0), (.int p2), (.int p3), (.int p4)] maxLocals = mkF mM 0 #[.val (.int p0), .val (.int p0), .val (.int p2), .val (.int p3), .val (.int p4), .unset, .unset, .unset, .unset, .unset, .unset, .unset, .unset, .unset] [] := by first | (simp [entryFrame, mkF, argsToLocals, Value.category, maxLocals]; done) | rfl
set_option maxRecDepth 65536 in
set_option maxHeartbeats 40000000 in
theorem rm_law_eq_2_1 (l : Launch) (Z : State) (a0 : Array Value) (hw : ∀ d ∈ tables_1, d.before a0 Z = true) (ws : List Jvm.Cond) (p0 : Int32) (p2 : Int32) (p3 : Int32) (p4 : Int32) (aN : Addr) (kN : ClassId) (d : Addr) (h0 : Heap) (n0 : Nat) (Z0 : n0 ≤ h0.size) (OL : Old Z n0 h0) (S_DEFAULT : Sta Z Z.heap "com/example/macroweave/macroweave/Brackets" "DEFAULT" "Lcom/example/macroweave/macroweave/Brackets;" (.ref d)) (S_NONE : Sta Z Z.heap "com/example/macroweave/macroweave/BracketPairs" "NONE" "[I" (.ref aN)) (V_aN : Arv Z h0 aN kN .int (0 : Int32) [] (.int (0 : Int32))) (hc66 : ¬ ((p4 &&& (3 : Int32)) = (0 : Int32))) (hc77 : ¬ ((p4 &&& (3 : Int32)) = (1 : Int32))) (hc94 : ¬ (((p4 >>> ((2 : Int32) &&& 31)) &&& (1 : Int32)) = (0 : Int32))) :
    MetFree l x (head1 (Jvm.Cond.code x code maxLocals ret :: ws) room_1) (fun xa xU => xa = #[(.int p0), (.int p0), (.int p2), (.int p3), (.int p4)] ∧ Z.Warmed39 xU.vm ∧ xU.heap = h0) (fun _ _ _ _ _ => True) (fun _ xU xo xU' => ∃ xv xL, xo = .returned xv ∧ Q_law n0 xv xL ∧ FrameEnd xU xo xU' xL room_1.cells room_1.slots) := by
  refine MetFree.of_bodySF (plainFor_of_name pn_com_example_macroweave_macroweave_BracketPairsClosedPinLaw) hisR ?_
  intro pP eE sS mM argS belowS methS cC s₁ Bd hml0 hP hK
  obtain ⟨rfl, hZ, hh⟩ := hP
  have hx := Bd.exec
  have hby := Bd.bytes
  have hml : cC.maxLocals = 14 := hml0
  have hown : sS.vm.findClass "com/example/macroweave/macroweave/BracketPairsClosedPinLaw" = some mM.cls := findClass_of_methodNamed Bd.named
  have hnm := (name_of_methodNamed Bd.named Bd.method).1
  have X0 : Stand pP l eE room_1 sS mM #[(.int p0), (.int p0), (.int p2), (.int p3), (.int p4)] belowS methS cC s₁ [] 0 0 := Stand.of_body Bd
  have e0 : s₁.heap = h0 := by rw [← hh, Bd.state]; rfl
  have N0 := Fr.nil n0
  have pre0 : ∀ t', Steps pP.tables eE belowS (s₁.setTop (mkF mM 0 #[.val (.int p0), .val (.int p0), .val (.int p2), .val (.int p3), .val (.int p4), .unset, .unset, .unset, .unset, .unset, .unset, .unset, .unset, .unset] [])) t' → Steps pP.tables eE belowS (s₁.setTop (entryFrame mM #[(.int p0), (.int p0), (.int p2), (.int p3), (.int p4)] maxLocals)) t' := fun t' kk' => castTop (ef_law_eq_2_1 mM p0 p2 p3 p4 aN kN d) kk'
  have c101_S_DEFAULT : Sta Z h0 "com/example/macroweave/macroweave/Brackets" "DEFAULT" "Lcom/example/macroweave/macroweave/Brackets;" (.ref d) := Sta.ext OL.2 S_DEFAULT
  obtain ⟨T102, X102, e102, st102⟩ := getS2 X0 hx hZ hown (host := "") (Or.inl (wi hw 0 rfl)) Via.refl e0 c101_S_DEFAULT (g := (mkF mM 0 (Lc_law_eq_2_1_0 p0 p2 p3 p4) [])) rfl (hb hby at_0)
  obtain ⟨T103, h103, X103, e103, E103, A103, D103, B103, st103⟩ := newO X102 hx hZ hown (wi hw 3 rfl) (wi hw 4 rfl) (wi hw 5 rfl) e102 (g := (mkF mM 5 (Lc_law_eq_2_1_1 p0 p2 p3 p4 d) [])) rfl (hb hby at_5) (by decide) (by decide)
  obtain ⟨b103, g103⟩ : ∃ z : Nat, z = h0.size := ⟨_, rfl⟩
  rw [← g103] at A103 D103 B103 st103
  have Sz1 : h0.size ≤ h103.size := E103.1
  have F103_contentStarts : Fld Z h103 b103 "com/example/macroweave/macroweave/BracketPairs" "contentStarts" "[I" .null := D103 (Or.inl (wi hw 15 rfl)) (ty := (.array .int)) (by decide)
  have F103_closes : Fld Z h103 b103 "com/example/macroweave/macroweave/BracketPairs" "closes" "[I" .null := D103 (Or.inl (wi hw 17 rfl)) (ty := (.array .int)) (by decide)
  have F103_brackets : Fld Z h103 b103 "com/example/macroweave/macroweave/BracketPairs" "brackets" "Lcom/example/macroweave/macroweave/Brackets;" .null := D103 (Or.inl (wi hw 24 rfl)) (ty := (.object "com/example/macroweave/macroweave/Brackets")) (by decide)
  have F103_size : Fld Z h103 b103 "com/example/macroweave/macroweave/BracketPairs" "size" "I" (.int (0 : Int32)) := D103 (Or.inl (wi hw 26 rfl)) (ty := .int) (by decide)
  have c105_OL : Old Z n0 h103 := OL.ext E103
  have ge106_b103 : @LE.le Nat _ n0 b103 := by omega
  obtain ⟨_, _, ⟨T104, L104, k104, n104⟩, -, X104, ⟨Lc104, hQ104, l104, y104, z104⟩, st104⟩ := X103.specialBack hx (y := (⟨"com/example/macroweave/macroweave/BracketPairs", "<init>", "()V"⟩ : MethodName)) rfl hown (mvT hZ (wi hw 6 rfl)) (mvT hZ (wi hw 7 rfl)) (mvT hZ (wi hw 8 rfl)) (by decide) (backOf (W := 1) (rm_init l Z a0 hw [] b103 aN .null .null .null (.int (0 : Int32)) h103 n0 (by omega) A103 F103_contentStarts F103_closes F103_brackets F103_size ge106_b103 c105_OL S_NONE) hZ (wi hw 8 rfl) (wi hw 5 rfl) (by decide) (by decide)) (g := (mkF mM 9 (Lc_law_eq_2_1_1 p0 p2 p3 p4 d) [(.ref b103), (.ref b103)])) rfl (by rw [hml]; rfl) (Steps.refl _) (a := b103) (argsL := []) (rest := [(.ref b103)]) (lenOf pd_0 rfl) rfl (by show 2 * 0 + _ ≤ _; exact Nat.le_of_eq rfl) (hb hby at_9) (fun _ _ => ⟨rfl, e103, Nat.le_of_ble_eq_true rfl, Nat.le_of_ble_eq_true rfl⟩)
  dsimp only [Pt.U, Pt.locs, Pt.cells, Pt.slots] at X104 l104 y104 z104 st104 hQ104
  subst l104 y104 z104
  obtain ⟨h104, e104⟩ : ∃ z, T104.heap = z := ⟨_, rfl⟩
  rw [e104] at hQ104
  obtain ⟨rfl, N104q, Kp104, p104_E_a1, p104_F_contentStarts_a1, p104_F_closes_a1, p104_F_brackets_a1, p104_F_size_a1⟩ := hQ104
  have Sz2 : h103.size ≤ h104.size := Kp104.1
  have N104 := Fr.app N0 N104q
  have c108_V_aN : Arv Z h103 aN kN .int (0 : Int32) [] (.int (0 : Int32)) := V_aN.ext E103
  have lt_aN : @LT.lt Nat _ aN h0.size := V_aN.lt
  have lt_b103 : @LT.lt Nat _ b103 h104.size := p104_E_a1.lt
  have ne_aN_b103_109 : aN ≠ b103 := (by omega : @Ne Nat aN b103)
  have c110_V_aN : Arv Z h104 aN kN .int (0 : Int32) [] (.int (0 : Int32)) := c108_V_aN.keep Kp104 (ninS ne_aN_b103_109 nin0)
  have ne_b103_aN_111 : b103 ≠ aN := (by omega : @Ne Nat b103 aN)
  obtain ⟨cq107, kq107, q107a, q107b, q107c⟩ := isOf hZ e104 p104_E_a1
  obtain ⟨_, _, ⟨T107, L107, k107, n107⟩, -, X107, ⟨Lc107, hQ107, l107, y107, z107⟩, st107⟩ := X104.virtualBack hx (y := (⟨"com/example/macroweave/macroweave/BracketPairs", "opened", "(Lcom/example/macroweave/macroweave/Brackets;I)I"⟩ : MethodName)) (z := (⟨"com/example/macroweave/macroweave/BracketPairs", "opened", "(Lcom/example/macroweave/macroweave/Brackets;I)I"⟩ : MethodName)) hown (mvT hZ (wi hw 18 rfl)) (mvT hZ (wi hw 19 rfl)) (notFace_of_selects (args := #[]) (mvT hZ (wi hw 21 rfl))) (mvT hZ (wi hw 21 rfl)) (mvT hZ (wi hw 20 rfl)) (by decide) (backOf (W := 0) (rm_open1 l Z a0 hw [] b103 d p0 aN kN h104 n0 (by omega) p104_E_a1 p104_F_brackets_a1 p104_F_contentStarts_a1 p104_F_closes_a1 p104_F_size_a1 c110_V_aN ne_b103_aN_111 ge106_b103) hZ (wi hw 22 rfl) (wi hw 5 rfl) (by decide) (by decide)) q107a q107c (g := (mkF mM 19 (Lc_law_eq_2_1_2 p0 p2 p3 p4 d b103) [(.int p0), (.ref d), (.ref b103)])) rfl (by rw [hml]; rfl) (Steps.refl _) (argsL := [(.ref d), (.int p0)]) (rest := []) (lenOf pd_1 rfl) rfl (by show 2 * 0 + _ ≤ _; exact Nat.le_of_eq rfl) (hb hby at_19) (fun _ _ => ⟨rfl, e104, Nat.le_of_ble_eq_true rfl, Nat.le_of_ble_eq_true rfl⟩)
  dsimp only [Pt.U, Pt.locs, Pt.cells, Pt.slots] at X107 l107 y107 z107 st107 hQ107
  subst l107 y107 z107
  obtain ⟨h107, e107⟩ : ∃ z, T107.heap = z := ⟨_, rfl⟩
  rw [e107] at hQ107
  obtain ⟨b1_107, b2_107, k1_107, k2_107, rfl, N107q, Kp107, p107_E_a1, p107_F_brackets_a1, p107_F_contentStarts_a1, p107_F_closes_a1, p107_F_size_a1, p107_V_b1, p107_V_b2, p107_gh_b1, p107_gh_b2, p107_ne_b1_b2⟩ := hQ107
  have Sz3 : h104.size ≤ h107.size := Kp107.1
  have N107 := Fr.app N104 N107q
  have lt_b1_107 : @LT.lt Nat _ b1_107 h107.size := p107_V_b1.lt
  have ne_b103_b1_107_113 : b103 ≠ b1_107 := (by omega : @Ne Nat b103 b1_107)
  have lt_b2_107 : @LT.lt Nat _ b2_107 h107.size := p107_V_b2.lt
  have ne_b103_b2_107_114 : b103 ≠ b2_107 := (by omega : @Ne Nat b103 b2_107)
  have ge115_b1_107 : @LE.le Nat _ n0 b1_107 := by omega
  have ge116_b2_107 : @LE.le Nat _ n0 b2_107 := by omega
  obtain ⟨cq112, kq112, q112a, q112b, q112c⟩ := isOf hZ e107 p107_E_a1
  obtain ⟨_, _, ⟨T112, L112, k112, n112⟩, -, X112, ⟨Lc112, hQ112, l112, y112, z112⟩, st112⟩ := X107.virtualBack hx (y := (⟨"com/example/macroweave/macroweave/BracketPairs", "opened", "(Lcom/example/macroweave/macroweave/Brackets;I)I"⟩ : MethodName)) (z := (⟨"com/example/macroweave/macroweave/BracketPairs", "opened", "(Lcom/example/macroweave/macroweave/Brackets;I)I"⟩ : MethodName)) hown (mvT hZ (wi hw 18 rfl)) (mvT hZ (wi hw 19 rfl)) (notFace_of_selects (args := #[]) (mvT hZ (wi hw 21 rfl))) (mvT hZ (wi hw 21 rfl)) (mvT hZ (wi hw 20 rfl)) (by decide) (backOf (W := 0) (rm_open2n l Z a0 hw [] b103 d p0 p0 b1_107 b2_107 k1_107 k2_107 h107 n0 (by omega) p107_E_a1 p107_F_brackets_a1 p107_F_contentStarts_a1 p107_F_closes_a1 p107_F_size_a1 p107_V_b1 p107_V_b2 ne_b103_b1_107_113 ne_b103_b2_107_114 p107_ne_b1_b2 ge106_b103 ge115_b1_107 ge116_b2_107 (Int32.lt_irrefl)) hZ (wi hw 22 rfl) (wi hw 5 rfl) (by decide) (by decide)) q112a q112c (g := (mkF mM 29 (Lc_law_eq_2_1_3 p0 p2 p3 p4 d b103) [(.int p0), (.ref d), (.ref b103)])) rfl (by rw [hml]; rfl) (Steps.refl _) (argsL := [(.ref d), (.int p0)]) (rest := []) (lenOf pd_1 rfl) rfl (by show 2 * 0 + _ ≤ _; exact Nat.le_of_eq rfl) (hb hby at_29) (fun _ _ => ⟨rfl, e107, Nat.le_of_ble_eq_true rfl, Nat.le_of_ble_eq_true rfl⟩)
  dsimp only [Pt.U, Pt.locs, Pt.cells, Pt.slots] at X112 l112 y112 z112 st112 hQ112
  subst l112 y112 z112
  obtain ⟨h112, e112⟩ : ∃ z, T112.heap = z := ⟨_, rfl⟩
  rw [e112] at hQ112
  obtain ⟨rfl, N112q, eq112⟩ := hQ112
  rw [eq112] at e112
  have N112 := Fr.app N107 N112q
  obtain ⟨cq117, kq117, q117a, q117b, q117c⟩ := isOf hZ e112 p107_E_a1
  obtain ⟨_, _, ⟨T117, L117, k117, n117⟩, -, X117, ⟨Lc117, hQ117, l117, y117, z117⟩, st117⟩ := X112.virtualBack hx (y := (⟨"com/example/macroweave/macroweave/BracketPairs", "closed", "(II)V"⟩ : MethodName)) (z := (⟨"com/example/macroweave/macroweave/BracketPairs", "closed", "(II)V"⟩ : MethodName)) hown (mvT hZ (wi hw 43 rfl)) (mvT hZ (wi hw 44 rfl)) (notFace_of_selects (args := #[]) (mvT hZ (wi hw 46 rfl))) (mvT hZ (wi hw 46 rfl)) (mvT hZ (wi hw 45 rfl)) (by decide) (backOf (W := 0) (rm_closedn l Z a0 hw [] b103 p2 h107 n0 (by omega) ) hZ (wi hw 47 rfl) (wi hw 5 rfl) (by decide) (by decide)) q117a q117c (g := (mkF mM 109 (Lc_law_eq_2_1_7 p0 p2 p3 p4 d b103) [(.int p2), (.int (-1 : Int32)), (.ref b103)])) rfl (by rw [hml]; rfl) (Steps.refl _) (argsL := [(.int (-1 : Int32)), (.int p2)]) (rest := []) (lenOf pd_5 rfl) rfl (by show 2 * 0 + _ ≤ _; exact Nat.le_of_eq rfl) (hb hby at_109) (fun _ _ => ⟨rfl, e112, Nat.le_of_ble_eq_true rfl, Nat.le_of_ble_eq_true rfl⟩)
  dsimp only [Pt.U, Pt.locs, Pt.cells, Pt.slots] at X117 l117 y117 z117 st117 hQ117
  subst l117 y117 z117
  obtain ⟨h117, e117⟩ : ∃ z, T117.heap = z := ⟨_, rfl⟩
  rw [e117] at hQ117
  obtain ⟨rfl, N117q, eq117⟩ := hQ117
  rw [eq117] at e117
  have N117 := Fr.app N112 N117q
  obtain ⟨cq118, kq118, q118a, q118b, q118c⟩ := isOf hZ e117 p107_E_a1
  obtain ⟨_, _, ⟨T118, L118, k118, n118⟩, -, X118, ⟨Lc118, hQ118, l118, y118, z118⟩, st118⟩ := X117.virtualBack hx (y := (⟨"com/example/macroweave/macroweave/BracketPairs", "closed", "(II)V"⟩ : MethodName)) (z := (⟨"com/example/macroweave/macroweave/BracketPairs", "closed", "(II)V"⟩ : MethodName)) hown (mvT hZ (wi hw 43 rfl)) (mvT hZ (wi hw 44 rfl)) (notFace_of_selects (args := #[]) (mvT hZ (wi hw 46 rfl))) (mvT hZ (wi hw 46 rfl)) (mvT hZ (wi hw 45 rfl)) (by decide) (backOf (W := 0) (rm_closed0 l Z a0 hw [] b103 p3 b2_107 k2_107 (-1 : Int32) (0 : Int32) h107 n0 (by omega) p107_E_a1 p107_F_closes_a1 p107_V_b2 ne_b103_b2_107_114 ge116_b2_107) hZ (wi hw 47 rfl) (wi hw 5 rfl) (by decide) (by decide)) q118a q118c (g := (mkF mM 122 (Lc_law_eq_2_1_7 p0 p2 p3 p4 d b103) [(.int p3), (.int (0 : Int32)), (.ref b103)])) rfl (by rw [hml]; rfl) (Steps.refl _) (argsL := [(.int (0 : Int32)), (.int p3)]) (rest := []) (lenOf pd_5 rfl) rfl (by show 2 * 0 + _ ≤ _; exact Nat.le_of_eq rfl) (hb hby at_122) (fun _ _ => ⟨rfl, e117, Nat.le_of_ble_eq_true rfl, Nat.le_of_ble_eq_true rfl⟩)
  dsimp only [Pt.U, Pt.locs, Pt.cells, Pt.slots] at X118 l118 y118 z118 st118 hQ118
  subst l118 y118 z118
  obtain ⟨h118, e118⟩ : ∃ z, T118.heap = z := ⟨_, rfl⟩
  rw [e118] at hQ118
  obtain ⟨rfl, N118q, Kp118, p118_V_b2⟩ := hQ118
  have Sz4 : h107.size ≤ h118.size := Kp118.1
  have N118 := Fr.app N117 N118q
  have c120_F_brackets_b103 : Fld Z h118 b103 "com/example/macroweave/macroweave/BracketPairs" "brackets" "Lcom/example/macroweave/macroweave/Brackets;" (.ref d) := p107_F_brackets_a1.keep Kp118 (ninS ne_b103_b2_107_114 nin0)
  have c121_F_contentStarts_b103 : Fld Z h118 b103 "com/example/macroweave/macroweave/BracketPairs" "contentStarts" "[I" (.ref b1_107) := p107_F_contentStarts_a1.keep Kp118 (ninS ne_b103_b2_107_114 nin0)
  have c122_F_closes_b103 : Fld Z h118 b103 "com/example/macroweave/macroweave/BracketPairs" "closes" "[I" (.ref b2_107) := p107_F_closes_a1.keep Kp118 (ninS ne_b103_b2_107_114 nin0)
  have c123_F_size_b103 : Fld Z h118 b103 "com/example/macroweave/macroweave/BracketPairs" "size" "I" (.int (1 : Int32)) := p107_F_size_a1.keep Kp118 (ninS ne_b103_b2_107_114 nin0)
  have c124_V_b1_107 : Arv Z h118 b1_107 k1_107 .int (4 : Int32) [(.int p0), (.int (0 : Int32)), (.int (0 : Int32)), (.int (0 : Int32))] (.int (0 : Int32)) := p107_V_b1.keep Kp118 (ninS p107_ne_b1_b2 nin0)
  have c125_E_b103 : Exa Z h118 b103 "com/example/macroweave/macroweave/BracketPairs" := p107_E_a1.keep Kp118
  obtain ⟨cq119, kq119, q119a, q119b, q119c⟩ := isOf hZ e118 c125_E_b103
  obtain ⟨_, _, ⟨T119, L119, k119, n119⟩, -, X119, ⟨Lc119, hQ119, l119, y119, z119⟩, st119⟩ := X118.virtualBack hx (y := (⟨"com/example/macroweave/macroweave/BracketPairs", "close", "(Lcom/example/macroweave/macroweave/Brackets;I)I"⟩ : MethodName)) (z := (⟨"com/example/macroweave/macroweave/BracketPairs", "close", "(Lcom/example/macroweave/macroweave/Brackets;I)I"⟩ : MethodName)) hown (mvT hZ (wi hw 48 rfl)) (mvT hZ (wi hw 49 rfl)) (notFace_of_selects (args := #[]) (mvT hZ (wi hw 51 rfl))) (mvT hZ (wi hw 51 rfl)) (mvT hZ (wi hw 50 rfl)) (by decide) (backOf (W := 0) (rm_close_1x l Z a0 hw [] b103 d b1_107 k1_107 p0 b2_107 k2_107 p3 (0 : Int32) h118 n0 (by omega) c120_F_brackets_b103 c121_F_contentStarts_b103 c122_F_closes_b103 c123_F_size_b103 c124_V_b1_107 p118_V_b2) hZ (wi hw 52 rfl) (wi hw 5 rfl) (by decide) (by decide)) q119a q119c (g := (mkF mM 187 (Lc_law_eq_2_1_9 p0 p2 p3 p4 d b103) [(.int p0), (.ref d), (.ref b103)])) rfl (by rw [hml]; rfl) (Steps.refl _) (argsL := [(.ref d), (.int p0)]) (rest := []) (lenOf pd_1 rfl) rfl (by show 2 * 0 + _ ≤ _; exact Nat.le_of_eq rfl) (hb hby at_187) (fun _ _ => ⟨rfl, e118, Nat.le_of_ble_eq_true rfl, Nat.le_of_ble_eq_true rfl⟩)
  dsimp only [Pt.U, Pt.locs, Pt.cells, Pt.slots] at X119 l119 y119 z119 st119 hQ119
  subst l119 y119 z119
  obtain ⟨h119, e119⟩ : ∃ z, T119.heap = z := ⟨_, rfl⟩
  rw [e119] at hQ119
  obtain ⟨rfl, N119q, eq119⟩ := hQ119
  rw [eq119] at e119
  have N119 := Fr.app N118 N119q
  obtain ⟨cq126, kq126, q126a, q126b, q126c⟩ := isOf hZ e119 c125_E_b103
  obtain ⟨_, _, ⟨T126, L126, k126, n126⟩, -, X126, ⟨Lc126, hQ126, l126, y126, z126⟩, st126⟩ := X119.virtualBack hx (y := (⟨"com/example/macroweave/macroweave/BracketPairs", "close", "(Lcom/example/macroweave/macroweave/Brackets;I)I"⟩ : MethodName)) (z := (⟨"com/example/macroweave/macroweave/BracketPairs", "close", "(Lcom/example/macroweave/macroweave/Brackets;I)I"⟩ : MethodName)) hown (mvT hZ (wi hw 48 rfl)) (mvT hZ (wi hw 49 rfl)) (notFace_of_selects (args := #[]) (mvT hZ (wi hw 51 rfl))) (mvT hZ (wi hw 51 rfl)) (mvT hZ (wi hw 50 rfl)) (by decide) (backOf (W := 0) (rm_close_1x l Z a0 hw [] b103 d b1_107 k1_107 p0 b2_107 k2_107 p3 (0 : Int32) h118 n0 (by omega) c120_F_brackets_b103 c121_F_contentStarts_b103 c122_F_closes_b103 c123_F_size_b103 c124_V_b1_107 p118_V_b2) hZ (wi hw 52 rfl) (wi hw 5 rfl) (by decide) (by decide)) q126a q126c (g := (mkF mM 200 (Lc_law_eq_2_1_9 p0 p2 p3 p4 d b103) [(.int p0), (.ref d), (.ref b103)])) rfl (by rw [hml]; rfl) (Steps.refl _) (argsL := [(.ref d), (.int p0)]) (rest := []) (lenOf pd_1 rfl) rfl (by show 2 * 0 + _ ≤ _; exact Nat.le_of_eq rfl) (hb hby at_200) (fun _ _ => ⟨rfl, e119, Nat.le_of_ble_eq_true rfl, Nat.le_of_ble_eq_true rfl⟩)
  dsimp only [Pt.U, Pt.locs, Pt.cells, Pt.slots] at X126 l126 y126 z126 st126 hQ126
  subst l126 y126 z126
  obtain ⟨h126, e126⟩ : ∃ z, T126.heap = z := ⟨_, rfl⟩
  rw [e126] at hQ126
  obtain ⟨rfl, N126q, eq126⟩ := hQ126
  rw [eq126] at e126
  have N126 := Fr.app N119 N126q
  obtain ⟨fs, hr, hrun, hended, hW, hsame⟩ := X126.leave (v := some (.int (1 : Int32))) (fun h => by rw [Bd.returns] at h; cases h)
  refine ⟨_, _, pre0 _ ?_, hrun, hended, _, _, rfl, ?_, ⟨_, rfl⟩, hW, hsame.mono (by decide) (by decide)⟩
  · show SS pP eE belowS s₁ (mkF mM 0 (Lc_law_eq_2_1_0 p0 p2 p3 p4) []) _
    refine st102 _ ?_
    show SS pP eE belowS T102 (mkF mM 3 (Lc_law_eq_2_1_0 p0 p2 p3 p4) [(.ref d)]) _
    refine XS.astore X102.here hx rfl (hb hby at_3) rfl rfl (l' := (Lc_law_eq_2_1_1 p0 p2 p3 p4 d)) rfl ?_
    show SS pP eE belowS T102 (mkF mM 5 (Lc_law_eq_2_1_1 p0 p2 p3 p4 d) []) _
    refine st103 _ ?_
    show SS pP eE belowS T103 (mkF mM 8 (Lc_law_eq_2_1_1 p0 p2 p3 p4 d) [(.ref b103)]) _
    refine XS.dup X103.here hx rfl (hb hby at_8) rfl rfl ?_
    show SS pP eE belowS T103 (mkF mM 9 (Lc_law_eq_2_1_1 p0 p2 p3 p4 d) [(.ref b103), (.ref b103)]) _
    refine st104.trans ?_
    show SS pP eE belowS T104 (mkF mM 12 (Lc_law_eq_2_1_1 p0 p2 p3 p4 d) [(.ref b103)]) _
    refine XS.astore X104.here hx rfl (hb hby at_12) rfl rfl (l' := (Lc_law_eq_2_1_2 p0 p2 p3 p4 d b103)) rfl ?_
    show SS pP eE belowS T104 (mkF mM 14 (Lc_law_eq_2_1_2 p0 p2 p3 p4 d b103) []) _
    refine XS.aload X104.here hx rfl (hb hby at_14) rfl rfl ?_
    show SS pP eE belowS T104 (mkF mM 16 (Lc_law_eq_2_1_2 p0 p2 p3 p4 d b103) [(.ref b103)]) _
    refine XS.aload X104.here hx rfl (hb hby at_16) rfl rfl ?_
    show SS pP eE belowS T104 (mkF mM 18 (Lc_law_eq_2_1_2 p0 p2 p3 p4 d b103) [(.ref d), (.ref b103)]) _
    refine XS.iloadN X104.here hx rfl (hb hby at_18) rfl ?_
    show SS pP eE belowS T104 (mkF mM 19 (Lc_law_eq_2_1_2 p0 p2 p3 p4 d b103) [(.int p0), (.ref d), (.ref b103)]) _
    refine st107.trans ?_
    show SS pP eE belowS T107 (mkF mM 22 (Lc_law_eq_2_1_2 p0 p2 p3 p4 d b103) [(.int (0 : Int32))]) _
    refine XS.istore X107.here hx rfl (hb hby at_22) rfl (l' := (Lc_law_eq_2_1_3 p0 p2 p3 p4 d b103)) rfl ?_
    show SS pP eE belowS T107 (mkF mM 24 (Lc_law_eq_2_1_3 p0 p2 p3 p4 d b103) []) _
    refine XS.aload X107.here hx rfl (hb hby at_24) rfl rfl ?_
    show SS pP eE belowS T107 (mkF mM 26 (Lc_law_eq_2_1_3 p0 p2 p3 p4 d b103) [(.ref b103)]) _
    refine XS.aload X107.here hx rfl (hb hby at_26) rfl rfl ?_
    show SS pP eE belowS T107 (mkF mM 28 (Lc_law_eq_2_1_3 p0 p2 p3 p4 d b103) [(.ref d), (.ref b103)]) _
    refine XS.iloadN X107.here hx rfl (hb hby at_28) rfl ?_
    show SS pP eE belowS T107 (mkF mM 29 (Lc_law_eq_2_1_3 p0 p2 p3 p4 d b103) [(.int p0), (.ref d), (.ref b103)]) _
    refine st112.trans ?_
    show SS pP eE belowS T112 (mkF mM 32 (Lc_law_eq_2_1_3 p0 p2 p3 p4 d b103) [(.int (-1 : Int32))]) _
    refine XS.istore X112.here hx rfl (hb hby at_32) rfl (l' := (Lc_law_eq_2_1_4 p0 p2 p3 p4 d b103)) rfl ?_
    show SS pP eE belowS T112 (mkF mM 34 (Lc_law_eq_2_1_4 p0 p2 p3 p4 d b103) []) _
    refine XS.iload X112.here hx rfl (hb hby at_34) rfl ?_
    show SS pP eE belowS T112 (mkF mM 36 (Lc_law_eq_2_1_4 p0 p2 p3 p4 d b103) [(.int (0 : Int32))]) _
    refine XS.ifYes X112.here hx rfl (pc0 := 36) (pc' := 41) rfl (hb hby at_36) rfl ((if0 _ _).trans (teq (by decide : (0 : Int32) = (0 : Int32))).1) (by decide) (by decide) ?_
    show SS pP eE belowS T112 (mkF mM 41 (Lc_law_eq_2_1_4 p0 p2 p3 p4 d b103) []) _
    refine XS.iload X112.here hx rfl (hb hby at_41) rfl ?_
    show SS pP eE belowS T112 (mkF mM 43 (Lc_law_eq_2_1_4 p0 p2 p3 p4 d b103) [(.int (-1 : Int32))]) _
    refine XS.iloadN X112.here hx rfl (hb hby at_43) rfl ?_
    show SS pP eE belowS T112 (mkF mM 44 (Lc_law_eq_2_1_4 p0 p2 p3 p4 d b103) [(.int p0), (.int (-1 : Int32))]) _
    refine XS.iloadN X112.here hx rfl (hb hby at_44) rfl ?_
    show SS pP eE belowS T112 (mkF mM 45 (Lc_law_eq_2_1_4 p0 p2 p3 p4 d b103) [(.int p0), (.int p0), (.int (-1 : Int32))]) _
    refine XS.icmpYes X112.here hx rfl (pc0 := 45) (pc' := 52) rfl (hb hby at_45) rfl (flt (Int32.lt_irrefl : ¬ (p0 < p0))).2.2.2 (by decide) (by decide) ?_
    show SS pP eE belowS T112 (mkF mM 52 (Lc_law_eq_2_1_4 p0 p2 p3 p4 d b103) [(.int (-1 : Int32))]) _
    refine XS.iconst X112.here hx rfl (hb hby at_52) ?_
    show SS pP eE belowS T112 (mkF mM 53 (Lc_law_eq_2_1_4 p0 p2 p3 p4 d b103) [(.int (-1 : Int32)), (.int (-1 : Int32))]) _
    refine XS.icmpYes X112.here hx rfl (pc0 := 53) (pc' := 58) rfl (hb hby at_53) rfl (teq (by decide : (-1 : Int32) = (-1 : Int32))).1 (by decide) (by decide) ?_
    show SS pP eE belowS T112 (mkF mM 58 (Lc_law_eq_2_1_4 p0 p2 p3 p4 d b103) []) _
    refine XS.iload X112.here hx rfl (hb hby at_58) rfl ?_
    show SS pP eE belowS T112 (mkF mM 60 (Lc_law_eq_2_1_4 p0 p2 p3 p4 d b103) [(.int p4)]) _
    refine XS.iconst X112.here hx rfl (hb hby at_60) ?_
    show SS pP eE belowS T112 (mkF mM 61 (Lc_law_eq_2_1_4 p0 p2 p3 p4 d b103) [(.int (3 : Int32)), (.int p4)]) _
    refine XS.iand X112.here hx rfl (hb hby at_61) rfl ?_
    show SS pP eE belowS T112 (mkF mM 62 (Lc_law_eq_2_1_4 p0 p2 p3 p4 d b103) [(.int (p4 &&& (3 : Int32)))]) _
    refine XS.istore X112.here hx rfl (hb hby at_62) rfl (l' := (Lc_law_eq_2_1_5 p0 p2 p3 p4 d b103)) rfl ?_
    show SS pP eE belowS T112 (mkF mM 64 (Lc_law_eq_2_1_5 p0 p2 p3 p4 d b103) []) _
    refine XS.iload X112.here hx rfl (hb hby at_64) rfl ?_
    show SS pP eE belowS T112 (mkF mM 66 (Lc_law_eq_2_1_5 p0 p2 p3 p4 d b103) [(.int (p4 &&& (3 : Int32)))]) _
    refine XS.ifYes X112.here hx rfl (pc0 := 66) (pc' := 74) rfl (hb hby at_66) rfl ((if0 _ _).trans (feq hc66).2) (by decide) (by decide) ?_
    show SS pP eE belowS T112 (mkF mM 74 (Lc_law_eq_2_1_5 p0 p2 p3 p4 d b103) []) _
    refine XS.iload X112.here hx rfl (hb hby at_74) rfl ?_
    show SS pP eE belowS T112 (mkF mM 76 (Lc_law_eq_2_1_5 p0 p2 p3 p4 d b103) [(.int (p4 &&& (3 : Int32)))]) _
    refine XS.iconst X112.here hx rfl (hb hby at_76) ?_
    show SS pP eE belowS T112 (mkF mM 77 (Lc_law_eq_2_1_5 p0 p2 p3 p4 d b103) [(.int (1 : Int32)), (.int (p4 &&& (3 : Int32)))]) _
    refine XS.icmpYes X112.here hx rfl (pc0 := 77) (pc' := 85) rfl (hb hby at_77) rfl (feq hc77).2 (by decide) (by decide) ?_
    show SS pP eE belowS T112 (mkF mM 85 (Lc_law_eq_2_1_5 p0 p2 p3 p4 d b103) []) _
    refine XS.iconst X112.here hx rfl (hb hby at_85) ?_
    show SS pP eE belowS T112 (mkF mM 86 (Lc_law_eq_2_1_5 p0 p2 p3 p4 d b103) [(.int (-1 : Int32))]) _
    refine XS.istore X112.here hx rfl (hb hby at_86) rfl (l' := (Lc_law_eq_2_1_6 p0 p2 p3 p4 d b103)) rfl ?_
    show SS pP eE belowS T112 (mkF mM 88 (Lc_law_eq_2_1_6 p0 p2 p3 p4 d b103) []) _
    refine XS.iload X112.here hx rfl (hb hby at_88) rfl ?_
    show SS pP eE belowS T112 (mkF mM 90 (Lc_law_eq_2_1_6 p0 p2 p3 p4 d b103) [(.int p4)]) _
    refine XS.iconst X112.here hx rfl (hb hby at_90) ?_
    show SS pP eE belowS T112 (mkF mM 91 (Lc_law_eq_2_1_6 p0 p2 p3 p4 d b103) [(.int (2 : Int32)), (.int p4)]) _
    refine XS.ishr X112.here hx rfl (hb hby at_91) rfl ?_
    show SS pP eE belowS T112 (mkF mM 92 (Lc_law_eq_2_1_6 p0 p2 p3 p4 d b103) [(.int (p4 >>> ((2 : Int32) &&& 31)))]) _
    refine XS.iconst X112.here hx rfl (hb hby at_92) ?_
    show SS pP eE belowS T112 (mkF mM 93 (Lc_law_eq_2_1_6 p0 p2 p3 p4 d b103) [(.int (1 : Int32)), (.int (p4 >>> ((2 : Int32) &&& 31)))]) _
    refine XS.iand X112.here hx rfl (hb hby at_93) rfl ?_
    show SS pP eE belowS T112 (mkF mM 94 (Lc_law_eq_2_1_6 p0 p2 p3 p4 d b103) [(.int ((p4 >>> ((2 : Int32) &&& 31)) &&& (1 : Int32)))]) _
    refine XS.ifNo X112.here hx rfl (hb hby at_94) rfl ((if0 _ _).trans (feq hc94).1) ?_
    show SS pP eE belowS T112 (mkF mM 97 (Lc_law_eq_2_1_6 p0 p2 p3 p4 d b103) []) _
    refine XS.iconst X112.here hx rfl (hb hby at_97) ?_
    show SS pP eE belowS T112 (mkF mM 98 (Lc_law_eq_2_1_6 p0 p2 p3 p4 d b103) [(.int (1 : Int32))]) _
    refine XS.goto X112.here hx rfl (pc0 := 98) (pc' := 102) rfl (hb hby at_98) (by decide) (by decide) ?_
    show SS pP eE belowS T112 (mkF mM 102 (Lc_law_eq_2_1_6 p0 p2 p3 p4 d b103) [(.int (1 : Int32))]) _
    refine XS.istore X112.here hx rfl (hb hby at_102) rfl (l' := (Lc_law_eq_2_1_7 p0 p2 p3 p4 d b103)) rfl ?_
    show SS pP eE belowS T112 (mkF mM 104 (Lc_law_eq_2_1_7 p0 p2 p3 p4 d b103) []) _
    refine XS.aload X112.here hx rfl (hb hby at_104) rfl rfl ?_
    show SS pP eE belowS T112 (mkF mM 106 (Lc_law_eq_2_1_7 p0 p2 p3 p4 d b103) [(.ref b103)]) _
    refine XS.iload X112.here hx rfl (hb hby at_106) rfl ?_
    show SS pP eE belowS T112 (mkF mM 108 (Lc_law_eq_2_1_7 p0 p2 p3 p4 d b103) [(.int (-1 : Int32)), (.ref b103)]) _
    refine XS.iloadN X112.here hx rfl (hb hby at_108) rfl ?_
    show SS pP eE belowS T112 (mkF mM 109 (Lc_law_eq_2_1_7 p0 p2 p3 p4 d b103) [(.int p2), (.int (-1 : Int32)), (.ref b103)]) _
    refine st117.trans ?_
    show SS pP eE belowS T117 (mkF mM 112 (Lc_law_eq_2_1_7 p0 p2 p3 p4 d b103) []) _
    refine XS.iload X117.here hx rfl (hb hby at_112) rfl ?_
    show SS pP eE belowS T117 (mkF mM 114 (Lc_law_eq_2_1_7 p0 p2 p3 p4 d b103) [(.int (1 : Int32))]) _
    refine XS.ifNo X117.here hx rfl (hb hby at_114) rfl ((if0 _ _).trans (feq (by decide : ¬ ((1 : Int32) = (0 : Int32)))).1) ?_
    show SS pP eE belowS T117 (mkF mM 117 (Lc_law_eq_2_1_7 p0 p2 p3 p4 d b103) []) _
    refine XS.aload X117.here hx rfl (hb hby at_117) rfl rfl ?_
    show SS pP eE belowS T117 (mkF mM 119 (Lc_law_eq_2_1_7 p0 p2 p3 p4 d b103) [(.ref b103)]) _
    refine XS.iload X117.here hx rfl (hb hby at_119) rfl ?_
    show SS pP eE belowS T117 (mkF mM 121 (Lc_law_eq_2_1_7 p0 p2 p3 p4 d b103) [(.int (0 : Int32)), (.ref b103)]) _
    refine XS.iloadN X117.here hx rfl (hb hby at_121) rfl ?_
    show SS pP eE belowS T117 (mkF mM 122 (Lc_law_eq_2_1_7 p0 p2 p3 p4 d b103) [(.int p3), (.int (0 : Int32)), (.ref b103)]) _
    refine st118.trans ?_
    show SS pP eE belowS T118 (mkF mM 125 (Lc_law_eq_2_1_7 p0 p2 p3 p4 d b103) []) _
    refine XS.iload X118.here hx rfl (hb hby at_125) rfl ?_
    show SS pP eE belowS T118 (mkF mM 127 (Lc_law_eq_2_1_7 p0 p2 p3 p4 d b103) [(.int (1 : Int32))]) _
    refine XS.ifNo X118.here hx rfl (hb hby at_127) rfl ((if0 _ _).trans (feq (by decide : ¬ ((1 : Int32) = (0 : Int32)))).1) ?_
    show SS pP eE belowS T118 (mkF mM 130 (Lc_law_eq_2_1_7 p0 p2 p3 p4 d b103) []) _
    refine XS.iloadN X118.here hx rfl (hb hby at_130) rfl ?_
    show SS pP eE belowS T118 (mkF mM 131 (Lc_law_eq_2_1_7 p0 p2 p3 p4 d b103) [(.int p3)]) _
    refine XS.goto X118.here hx rfl (pc0 := 131) (pc' := 144) rfl (hb hby at_131) (by decide) (by decide) ?_
    show SS pP eE belowS T118 (mkF mM 144 (Lc_law_eq_2_1_7 p0 p2 p3 p4 d b103) [(.int p3)]) _
    refine XS.istore X118.here hx rfl (hb hby at_144) rfl (l' := (Lc_law_eq_2_1_8 p0 p2 p3 p4 d b103)) rfl ?_
    show SS pP eE belowS T118 (mkF mM 146 (Lc_law_eq_2_1_8 p0 p2 p3 p4 d b103) []) _
    refine XS.iloadN X118.here hx rfl (hb hby at_146) rfl ?_
    show SS pP eE belowS T118 (mkF mM 147 (Lc_law_eq_2_1_8 p0 p2 p3 p4 d b103) [(.int p0)]) _
    refine XS.iloadN X118.here hx rfl (hb hby at_147) rfl ?_
    show SS pP eE belowS T118 (mkF mM 148 (Lc_law_eq_2_1_8 p0 p2 p3 p4 d b103) [(.int p0), (.int p0)]) _
    refine XS.icmpYes X118.here hx rfl (pc0 := 148) (pc' := 167) rfl (hb hby at_148) rfl (flt (Int32.lt_irrefl : ¬ (p0 < p0))).2.2.2 (by decide) (by decide) ?_
    show SS pP eE belowS T118 (mkF mM 167 (Lc_law_eq_2_1_8 p0 p2 p3 p4 d b103) []) _
    refine XS.iloadN X118.here hx rfl (hb hby at_167) rfl ?_
    show SS pP eE belowS T118 (mkF mM 168 (Lc_law_eq_2_1_8 p0 p2 p3 p4 d b103) [(.int p0)]) _
    refine XS.iloadN X118.here hx rfl (hb hby at_168) rfl ?_
    show SS pP eE belowS T118 (mkF mM 169 (Lc_law_eq_2_1_8 p0 p2 p3 p4 d b103) [(.int p0), (.int p0)]) _
    refine XS.icmpNo X118.here hx rfl (hb hby at_169) rfl (teq (rfl : p0 = p0)).2 ?_
    show SS pP eE belowS T118 (mkF mM 172 (Lc_law_eq_2_1_8 p0 p2 p3 p4 d b103) []) _
    refine XS.iload X118.here hx rfl (hb hby at_172) rfl ?_
    show SS pP eE belowS T118 (mkF mM 174 (Lc_law_eq_2_1_8 p0 p2 p3 p4 d b103) [(.int p3)]) _
    refine XS.istore X118.here hx rfl (hb hby at_174) rfl (l' := (Lc_law_eq_2_1_9 p0 p2 p3 p4 d b103)) rfl ?_
    show SS pP eE belowS T118 (mkF mM 176 (Lc_law_eq_2_1_9 p0 p2 p3 p4 d b103) []) _
    refine XS.goto X118.here hx rfl (pc0 := 176) (pc' := 182) rfl (hb hby at_176) (by decide) (by decide) ?_
    show SS pP eE belowS T118 (mkF mM 182 (Lc_law_eq_2_1_9 p0 p2 p3 p4 d b103) []) _
    refine XS.aload X118.here hx rfl (hb hby at_182) rfl rfl ?_
    show SS pP eE belowS T118 (mkF mM 184 (Lc_law_eq_2_1_9 p0 p2 p3 p4 d b103) [(.ref b103)]) _
    refine XS.aload X118.here hx rfl (hb hby at_184) rfl rfl ?_
    show SS pP eE belowS T118 (mkF mM 186 (Lc_law_eq_2_1_9 p0 p2 p3 p4 d b103) [(.ref d), (.ref b103)]) _
    refine XS.iloadN X118.here hx rfl (hb hby at_186) rfl ?_
    show SS pP eE belowS T118 (mkF mM 187 (Lc_law_eq_2_1_9 p0 p2 p3 p4 d b103) [(.int p0), (.ref d), (.ref b103)]) _
    refine st119.trans ?_
    show SS pP eE belowS T119 (mkF mM 190 (Lc_law_eq_2_1_9 p0 p2 p3 p4 d b103) [(.int p3)]) _
    refine XS.iload X119.here hx rfl (hb hby at_190) rfl ?_
    show SS pP eE belowS T119 (mkF mM 192 (Lc_law_eq_2_1_9 p0 p2 p3 p4 d b103) [(.int p3), (.int p3)]) _
    refine XS.icmpNo X119.here hx rfl (hb hby at_192) rfl (teq (rfl : p3 = p3)).2 ?_
    show SS pP eE belowS T119 (mkF mM 195 (Lc_law_eq_2_1_9 p0 p2 p3 p4 d b103) []) _
    refine XS.aload X119.here hx rfl (hb hby at_195) rfl rfl ?_
    show SS pP eE belowS T119 (mkF mM 197 (Lc_law_eq_2_1_9 p0 p2 p3 p4 d b103) [(.ref b103)]) _
    refine XS.aload X119.here hx rfl (hb hby at_197) rfl rfl ?_
    show SS pP eE belowS T119 (mkF mM 199 (Lc_law_eq_2_1_9 p0 p2 p3 p4 d b103) [(.ref d), (.ref b103)]) _
    refine XS.iloadN X119.here hx rfl (hb hby at_199) rfl ?_
    show SS pP eE belowS T119 (mkF mM 200 (Lc_law_eq_2_1_9 p0 p2 p3 p4 d b103) [(.int p0), (.ref d), (.ref b103)]) _
    refine st126.trans ?_
    show SS pP eE belowS T126 (mkF mM 203 (Lc_law_eq_2_1_9 p0 p2 p3 p4 d b103) [(.int p3)]) _
    refine XS.iload X126.here hx rfl (hb hby at_203) rfl ?_
    show SS pP eE belowS T126 (mkF mM 205 (Lc_law_eq_2_1_9 p0 p2 p3 p4 d b103) [(.int p3), (.int p3)]) _
    refine XS.icmpNo X126.here hx rfl (hb hby at_205) rfl (teq (rfl : p3 = p3)).2 ?_
    show SS pP eE belowS T126 (mkF mM 208 (Lc_law_eq_2_1_9 p0 p2 p3 p4 d b103) []) _
    refine XS.iconst X126.here hx rfl (hb hby at_208) ?_
    show SS pP eE belowS T126 (mkF mM 209 (Lc_law_eq_2_1_9 p0 p2 p3 p4 d b103) [(.int (1 : Int32))]) _
    refine XS.goto X126.here hx rfl (pc0 := 209) (pc' := 213) rfl (hb hby at_209) (by decide) (by decide) ?_
    show SS pP eE belowS T126 (mkF mM 213 (Lc_law_eq_2_1_9 p0 p2 p3 p4 d b103) [(.int (1 : Int32))]) _
    exact retN X126 hx (t := .boolean) Bd.returns (by simp) (hb hby at_213) hr
  · exact ⟨rfl, N126⟩

abbrev Lc_law_lt_0_0_0 (p0 : Int32) (p1 : Int32) (p2 : Int32) (p3 : Int32) (p4 : Int32) : Array Slot := #[.val (.int p0), .val (.int p1), .val (.int p2), .val (.int p3), .val (.int p4), .unset, .unset, .unset, .unset, .unset, .unset, .unset, .unset, .unset]
abbrev Lc_law_lt_0_0_1 (p0 : Int32) (p1 : Int32) (p2 : Int32) (p3 : Int32) (p4 : Int32) (d : Addr) : Array Slot := #[.val (.int p0), .val (.int p1), .val (.int p2), .val (.int p3), .val (.int p4), .val (.ref d), .unset, .unset, .unset, .unset, .unset, .unset, .unset, .unset]
abbrev Lc_law_lt_0_0_2 (p0 : Int32) (p1 : Int32) (p2 : Int32) (p3 : Int32) (p4 : Int32) (d : Addr) (b103 : Addr) : Array Slot := #[.val (.int p0), .val (.int p1), .val (.int p2), .val (.int p3), .val (.int p4), .val (.ref d), .val (.ref b103), .unset, .unset, .unset, .unset, .unset, .unset, .unset]
abbrev Lc_law_lt_0_0_3 (p0 : Int32) (p1 : Int32) (p2 : Int32) (p3 : Int32) (p4 : Int32) (d : Addr) (b103 : Addr) : Array Slot := #[.val (.int p0), .val (.int p1), .val (.int p2), .val (.int p3), .val (.int p4), .val (.ref d), .val (.ref b103), .val (.int (0 : Int32)), .unset, .unset, .unset, .unset, .unset, .unset]
abbrev Lc_law_lt_0_0_4 (p0 : Int32) (p1 : Int32) (p2 : Int32) (p3 : Int32) (p4 : Int32) (d : Addr) (b103 : Addr) : Array Slot := #[.val (.int p0), .val (.int p1), .val (.int p2), .val (.int p3), .val (.int p4), .val (.ref d), .val (.ref b103), .val (.int (0 : Int32)), .val (.int (-1 : Int32)), .unset, .unset, .unset, .unset, .unset]
abbrev Lc_law_lt_0_0_5 (p0 : Int32) (p1 : Int32) (p2 : Int32) (p3 : Int32) (p4 : Int32) (d : Addr) (b103 : Addr) : Array Slot := #[.val (.int p0), .val (.int p1), .val (.int p2), .val (.int p3), .val (.int p4), .val (.ref d), .val (.ref b103), .val (.int (0 : Int32)), .val (.int (-1 : Int32)), .val (.int (p4 &&& (3 : Int32))), .unset, .unset, .unset, .unset]
abbrev Lc_law_lt_0_0_6 (p0 : Int32) (p1 : Int32) (p2 : Int32) (p3 : Int32) (p4 : Int32) (d : Addr) (b103 : Addr) : Array Slot := #[.val (.int p0), .val (.int p1), .val (.int p2), .val (.int p3), .val (.int p4), .val (.ref d), .val (.ref b103), .val (.int (0 : Int32)), .val (.int (-1 : Int32)), .val (.int (p4 &&& (3 : Int32))), .val (.int (0 : Int32)), .unset, .unset, .unset]
abbrev Lc_law_lt_0_0_7 (p0 : Int32) (p1 : Int32) (p2 : Int32) (p3 : Int32) (p4 : Int32) (d : Addr) (b103 : Addr) : Array Slot := #[.val (.int p0), .val (.int p1), .val (.int p2), .val (.int p3), .val (.int p4), .val (.ref d), .val (.ref b103), .val (.int (0 : Int32)), .val (.int (-1 : Int32)), .val (.int (p4 &&& (3 : Int32))), .val (.int (0 : Int32)), .val (.int (0 : Int32)), .unset, .unset]
abbrev Lc_law_lt_0_0_8 (p0 : Int32) (p1 : Int32) (p2 : Int32) (p3 : Int32) (p4 : Int32) (d : Addr) (b103 : Addr) : Array Slot := #[.val (.int p0), .val (.int p1), .val (.int p2), .val (.int p3), .val (.int p4), .val (.ref d), .val (.ref b103), .val (.int (0 : Int32)), .val (.int (-1 : Int32)), .val (.int (p4 &&& (3 : Int32))), .val (.int (0 : Int32)), .val (.int (0 : Int32)), .val (.int p2), .unset]
abbrev Lc_law_lt_0_0_9 (p0 : Int32) (p1 : Int32) (p2 : Int32) (p3 : Int32) (p4 : Int32) (d : Addr) (b103 : Addr) : Array Slot := #[.val (.int p0), .val (.int p1), .val (.int p2), .val (.int p3), .val (.int p4), .val (.ref d), .val (.ref b103), .val (.int (0 : Int32)), .val (.int (-1 : Int32)), .val (.int (p4 &&& (3 : Int32))), .val (.int (0 : Int32)), .val (.int (0 : Int32)), .val (.int p2), .val (.int (-1 : Int32))]
theorem ef_law_lt_0_0 (mM : MethodId) (p0 : Int32) (p1 : Int32) (p2 : Int32) (p3 : Int32) (p4 : Int32) (aN : Addr) (kN : ClassId) (d : Addr) : entryFrame mM #[(.int p0), (.int p1), (.int p2), (.int p3), (.int p4)] maxLocals = mkF mM 0 #[.val (.int p0), .val (.int p1), .val (.int p2), .val (.int p3), .val (.int p4), .unset, .unset, .unset, .unset, .unset, .unset, .unset, .unset, .unset] [] := by first | (simp [entryFrame, mkF, argsToLocals, Value.category, maxLocals]; done) | rfl
set_option maxRecDepth 65536 in
set_option maxHeartbeats 40000000 in
theorem rm_law_lt_0_0 (l : Launch) (Z : State) (a0 : Array Value) (hw : ∀ d ∈ tables_1, d.before a0 Z = true) (ws : List Jvm.Cond) (p0 : Int32) (p1 : Int32) (p2 : Int32) (p3 : Int32) (p4 : Int32) (aN : Addr) (kN : ClassId) (d : Addr) (h0 : Heap) (n0 : Nat) (Z0 : n0 ≤ h0.size) (OL : Old Z n0 h0) (S_DEFAULT : Sta Z Z.heap "com/example/macroweave/macroweave/Brackets" "DEFAULT" "Lcom/example/macroweave/macroweave/Brackets;" (.ref d)) (S_NONE : Sta Z Z.heap "com/example/macroweave/macroweave/BracketPairs" "NONE" "[I" (.ref aN)) (V_aN : Arv Z h0 aN kN .int (0 : Int32) [] (.int (0 : Int32))) (hc37_112 : ¬ (p0 < p1)) (hc66 : (p4 &&& (3 : Int32)) = (0 : Int32)) (hc94 : ((p4 >>> ((2 : Int32) &&& 31)) &&& (1 : Int32)) = (0 : Int32)) (hc169 : ¬ (p1 = p0)) (hc48_103_104_125 : p1 < p0) :
    MetFree l x (head1 (Jvm.Cond.code x code maxLocals ret :: ws) room_1) (fun xa xU => xa = #[(.int p0), (.int p1), (.int p2), (.int p3), (.int p4)] ∧ Z.Warmed39 xU.vm ∧ xU.heap = h0) (fun _ _ _ _ _ => True) (fun _ xU xo xU' => ∃ xv xL, xo = .returned xv ∧ Q_law n0 xv xL ∧ FrameEnd xU xo xU' xL room_1.cells room_1.slots) := by
  refine MetFree.of_bodySF (plainFor_of_name pn_com_example_macroweave_macroweave_BracketPairsClosedPinLaw) hisR ?_
  intro pP eE sS mM argS belowS methS cC s₁ Bd hml0 hP hK
  obtain ⟨rfl, hZ, hh⟩ := hP
  have hx := Bd.exec
  have hby := Bd.bytes
  have hml : cC.maxLocals = 14 := hml0
  have hown : sS.vm.findClass "com/example/macroweave/macroweave/BracketPairsClosedPinLaw" = some mM.cls := findClass_of_methodNamed Bd.named
  have hnm := (name_of_methodNamed Bd.named Bd.method).1
  have X0 : Stand pP l eE room_1 sS mM #[(.int p0), (.int p1), (.int p2), (.int p3), (.int p4)] belowS methS cC s₁ [] 0 0 := Stand.of_body Bd
  have e0 : s₁.heap = h0 := by rw [← hh, Bd.state]; rfl
  have N0 := Fr.nil n0
  have pre0 : ∀ t', Steps pP.tables eE belowS (s₁.setTop (mkF mM 0 #[.val (.int p0), .val (.int p1), .val (.int p2), .val (.int p3), .val (.int p4), .unset, .unset, .unset, .unset, .unset, .unset, .unset, .unset, .unset] [])) t' → Steps pP.tables eE belowS (s₁.setTop (entryFrame mM #[(.int p0), (.int p1), (.int p2), (.int p3), (.int p4)] maxLocals)) t' := fun t' kk' => castTop (ef_law_lt_0_0 mM p0 p1 p2 p3 p4 aN kN d) kk'
  have c101_S_DEFAULT : Sta Z h0 "com/example/macroweave/macroweave/Brackets" "DEFAULT" "Lcom/example/macroweave/macroweave/Brackets;" (.ref d) := Sta.ext OL.2 S_DEFAULT
  obtain ⟨T102, X102, e102, st102⟩ := getS2 X0 hx hZ hown (host := "") (Or.inl (wi hw 0 rfl)) Via.refl e0 c101_S_DEFAULT (g := (mkF mM 0 (Lc_law_lt_0_0_0 p0 p1 p2 p3 p4) [])) rfl (hb hby at_0)
  obtain ⟨T103, h103, X103, e103, E103, A103, D103, B103, st103⟩ := newO X102 hx hZ hown (wi hw 3 rfl) (wi hw 4 rfl) (wi hw 5 rfl) e102 (g := (mkF mM 5 (Lc_law_lt_0_0_1 p0 p1 p2 p3 p4 d) [])) rfl (hb hby at_5) (by decide) (by decide)
  obtain ⟨b103, g103⟩ : ∃ z : Nat, z = h0.size := ⟨_, rfl⟩
  rw [← g103] at A103 D103 B103 st103
  have Sz1 : h0.size ≤ h103.size := E103.1
  have F103_contentStarts : Fld Z h103 b103 "com/example/macroweave/macroweave/BracketPairs" "contentStarts" "[I" .null := D103 (Or.inl (wi hw 15 rfl)) (ty := (.array .int)) (by decide)
  have F103_closes : Fld Z h103 b103 "com/example/macroweave/macroweave/BracketPairs" "closes" "[I" .null := D103 (Or.inl (wi hw 17 rfl)) (ty := (.array .int)) (by decide)
  have F103_brackets : Fld Z h103 b103 "com/example/macroweave/macroweave/BracketPairs" "brackets" "Lcom/example/macroweave/macroweave/Brackets;" .null := D103 (Or.inl (wi hw 24 rfl)) (ty := (.object "com/example/macroweave/macroweave/Brackets")) (by decide)
  have F103_size : Fld Z h103 b103 "com/example/macroweave/macroweave/BracketPairs" "size" "I" (.int (0 : Int32)) := D103 (Or.inl (wi hw 26 rfl)) (ty := .int) (by decide)
  have c105_OL : Old Z n0 h103 := OL.ext E103
  have ge106_b103 : @LE.le Nat _ n0 b103 := by omega
  obtain ⟨_, _, ⟨T104, L104, k104, n104⟩, -, X104, ⟨Lc104, hQ104, l104, y104, z104⟩, st104⟩ := X103.specialBack hx (y := (⟨"com/example/macroweave/macroweave/BracketPairs", "<init>", "()V"⟩ : MethodName)) rfl hown (mvT hZ (wi hw 6 rfl)) (mvT hZ (wi hw 7 rfl)) (mvT hZ (wi hw 8 rfl)) (by decide) (backOf (W := 1) (rm_init l Z a0 hw [] b103 aN .null .null .null (.int (0 : Int32)) h103 n0 (by omega) A103 F103_contentStarts F103_closes F103_brackets F103_size ge106_b103 c105_OL S_NONE) hZ (wi hw 8 rfl) (wi hw 5 rfl) (by decide) (by decide)) (g := (mkF mM 9 (Lc_law_lt_0_0_1 p0 p1 p2 p3 p4 d) [(.ref b103), (.ref b103)])) rfl (by rw [hml]; rfl) (Steps.refl _) (a := b103) (argsL := []) (rest := [(.ref b103)]) (lenOf pd_0 rfl) rfl (by show 2 * 0 + _ ≤ _; exact Nat.le_of_eq rfl) (hb hby at_9) (fun _ _ => ⟨rfl, e103, Nat.le_of_ble_eq_true rfl, Nat.le_of_ble_eq_true rfl⟩)
  dsimp only [Pt.U, Pt.locs, Pt.cells, Pt.slots] at X104 l104 y104 z104 st104 hQ104
  subst l104 y104 z104
  obtain ⟨h104, e104⟩ : ∃ z, T104.heap = z := ⟨_, rfl⟩
  rw [e104] at hQ104
  obtain ⟨rfl, N104q, Kp104, p104_E_a1, p104_F_contentStarts_a1, p104_F_closes_a1, p104_F_brackets_a1, p104_F_size_a1⟩ := hQ104
  have Sz2 : h103.size ≤ h104.size := Kp104.1
  have N104 := Fr.app N0 N104q
  have c108_V_aN : Arv Z h103 aN kN .int (0 : Int32) [] (.int (0 : Int32)) := V_aN.ext E103
  have lt_aN : @LT.lt Nat _ aN h0.size := V_aN.lt
  have lt_b103 : @LT.lt Nat _ b103 h104.size := p104_E_a1.lt
  have ne_aN_b103_109 : aN ≠ b103 := (by omega : @Ne Nat aN b103)
  have c110_V_aN : Arv Z h104 aN kN .int (0 : Int32) [] (.int (0 : Int32)) := c108_V_aN.keep Kp104 (ninS ne_aN_b103_109 nin0)
  have ne_b103_aN_111 : b103 ≠ aN := (by omega : @Ne Nat b103 aN)
  obtain ⟨cq107, kq107, q107a, q107b, q107c⟩ := isOf hZ e104 p104_E_a1
  obtain ⟨_, _, ⟨T107, L107, k107, n107⟩, -, X107, ⟨Lc107, hQ107, l107, y107, z107⟩, st107⟩ := X104.virtualBack hx (y := (⟨"com/example/macroweave/macroweave/BracketPairs", "opened", "(Lcom/example/macroweave/macroweave/Brackets;I)I"⟩ : MethodName)) (z := (⟨"com/example/macroweave/macroweave/BracketPairs", "opened", "(Lcom/example/macroweave/macroweave/Brackets;I)I"⟩ : MethodName)) hown (mvT hZ (wi hw 18 rfl)) (mvT hZ (wi hw 19 rfl)) (notFace_of_selects (args := #[]) (mvT hZ (wi hw 21 rfl))) (mvT hZ (wi hw 21 rfl)) (mvT hZ (wi hw 20 rfl)) (by decide) (backOf (W := 0) (rm_open1 l Z a0 hw [] b103 d p0 aN kN h104 n0 (by omega) p104_E_a1 p104_F_brackets_a1 p104_F_contentStarts_a1 p104_F_closes_a1 p104_F_size_a1 c110_V_aN ne_b103_aN_111 ge106_b103) hZ (wi hw 22 rfl) (wi hw 5 rfl) (by decide) (by decide)) q107a q107c (g := (mkF mM 19 (Lc_law_lt_0_0_2 p0 p1 p2 p3 p4 d b103) [(.int p0), (.ref d), (.ref b103)])) rfl (by rw [hml]; rfl) (Steps.refl _) (argsL := [(.ref d), (.int p0)]) (rest := []) (lenOf pd_1 rfl) rfl (by show 2 * 0 + _ ≤ _; exact Nat.le_of_eq rfl) (hb hby at_19) (fun _ _ => ⟨rfl, e104, Nat.le_of_ble_eq_true rfl, Nat.le_of_ble_eq_true rfl⟩)
  dsimp only [Pt.U, Pt.locs, Pt.cells, Pt.slots] at X107 l107 y107 z107 st107 hQ107
  subst l107 y107 z107
  obtain ⟨h107, e107⟩ : ∃ z, T107.heap = z := ⟨_, rfl⟩
  rw [e107] at hQ107
  obtain ⟨b1_107, b2_107, k1_107, k2_107, rfl, N107q, Kp107, p107_E_a1, p107_F_brackets_a1, p107_F_contentStarts_a1, p107_F_closes_a1, p107_F_size_a1, p107_V_b1, p107_V_b2, p107_gh_b1, p107_gh_b2, p107_ne_b1_b2⟩ := hQ107
  have Sz3 : h104.size ≤ h107.size := Kp107.1
  have N107 := Fr.app N104 N107q
  have lt_b1_107 : @LT.lt Nat _ b1_107 h107.size := p107_V_b1.lt
  have ne_b103_b1_107_113 : b103 ≠ b1_107 := (by omega : @Ne Nat b103 b1_107)
  have lt_b2_107 : @LT.lt Nat _ b2_107 h107.size := p107_V_b2.lt
  have ne_b103_b2_107_114 : b103 ≠ b2_107 := (by omega : @Ne Nat b103 b2_107)
  have ge115_b1_107 : @LE.le Nat _ n0 b1_107 := by omega
  have ge116_b2_107 : @LE.le Nat _ n0 b2_107 := by omega
  obtain ⟨cq112, kq112, q112a, q112b, q112c⟩ := isOf hZ e107 p107_E_a1
  obtain ⟨_, _, ⟨T112, L112, k112, n112⟩, -, X112, ⟨Lc112, hQ112, l112, y112, z112⟩, st112⟩ := X107.virtualBack hx (y := (⟨"com/example/macroweave/macroweave/BracketPairs", "opened", "(Lcom/example/macroweave/macroweave/Brackets;I)I"⟩ : MethodName)) (z := (⟨"com/example/macroweave/macroweave/BracketPairs", "opened", "(Lcom/example/macroweave/macroweave/Brackets;I)I"⟩ : MethodName)) hown (mvT hZ (wi hw 18 rfl)) (mvT hZ (wi hw 19 rfl)) (notFace_of_selects (args := #[]) (mvT hZ (wi hw 21 rfl))) (mvT hZ (wi hw 21 rfl)) (mvT hZ (wi hw 20 rfl)) (by decide) (backOf (W := 0) (rm_open2n l Z a0 hw [] b103 d p1 p0 b1_107 b2_107 k1_107 k2_107 h107 n0 (by omega) p107_E_a1 p107_F_brackets_a1 p107_F_contentStarts_a1 p107_F_closes_a1 p107_F_size_a1 p107_V_b1 p107_V_b2 ne_b103_b1_107_113 ne_b103_b2_107_114 p107_ne_b1_b2 ge106_b103 ge115_b1_107 ge116_b2_107 hc37_112) hZ (wi hw 22 rfl) (wi hw 5 rfl) (by decide) (by decide)) q112a q112c (g := (mkF mM 29 (Lc_law_lt_0_0_3 p0 p1 p2 p3 p4 d b103) [(.int p1), (.ref d), (.ref b103)])) rfl (by rw [hml]; rfl) (Steps.refl _) (argsL := [(.ref d), (.int p1)]) (rest := []) (lenOf pd_1 rfl) rfl (by show 2 * 0 + _ ≤ _; exact Nat.le_of_eq rfl) (hb hby at_29) (fun _ _ => ⟨rfl, e107, Nat.le_of_ble_eq_true rfl, Nat.le_of_ble_eq_true rfl⟩)
  dsimp only [Pt.U, Pt.locs, Pt.cells, Pt.slots] at X112 l112 y112 z112 st112 hQ112
  subst l112 y112 z112
  obtain ⟨h112, e112⟩ : ∃ z, T112.heap = z := ⟨_, rfl⟩
  rw [e112] at hQ112
  obtain ⟨rfl, N112q, eq112⟩ := hQ112
  rw [eq112] at e112
  have N112 := Fr.app N107 N112q
  obtain ⟨cq117, kq117, q117a, q117b, q117c⟩ := isOf hZ e112 p107_E_a1
  obtain ⟨_, _, ⟨T117, L117, k117, n117⟩, -, X117, ⟨Lc117, hQ117, l117, y117, z117⟩, st117⟩ := X112.virtualBack hx (y := (⟨"com/example/macroweave/macroweave/BracketPairs", "closed", "(II)V"⟩ : MethodName)) (z := (⟨"com/example/macroweave/macroweave/BracketPairs", "closed", "(II)V"⟩ : MethodName)) hown (mvT hZ (wi hw 43 rfl)) (mvT hZ (wi hw 44 rfl)) (notFace_of_selects (args := #[]) (mvT hZ (wi hw 46 rfl))) (mvT hZ (wi hw 46 rfl)) (mvT hZ (wi hw 45 rfl)) (by decide) (backOf (W := 0) (rm_closed0 l Z a0 hw [] b103 p2 b2_107 k2_107 (-1 : Int32) (0 : Int32) h107 n0 (by omega) p107_E_a1 p107_F_closes_a1 p107_V_b2 ne_b103_b2_107_114 ge116_b2_107) hZ (wi hw 47 rfl) (wi hw 5 rfl) (by decide) (by decide)) q117a q117c (g := (mkF mM 109 (Lc_law_lt_0_0_7 p0 p1 p2 p3 p4 d b103) [(.int p2), (.int (0 : Int32)), (.ref b103)])) rfl (by rw [hml]; rfl) (Steps.refl _) (argsL := [(.int (0 : Int32)), (.int p2)]) (rest := []) (lenOf pd_5 rfl) rfl (by show 2 * 0 + _ ≤ _; exact Nat.le_of_eq rfl) (hb hby at_109) (fun _ _ => ⟨rfl, e112, Nat.le_of_ble_eq_true rfl, Nat.le_of_ble_eq_true rfl⟩)
  dsimp only [Pt.U, Pt.locs, Pt.cells, Pt.slots] at X117 l117 y117 z117 st117 hQ117
  subst l117 y117 z117
  obtain ⟨h117, e117⟩ : ∃ z, T117.heap = z := ⟨_, rfl⟩
  rw [e117] at hQ117
  obtain ⟨rfl, N117q, Kp117, p117_V_b2⟩ := hQ117
  have Sz4 : h107.size ≤ h117.size := Kp117.1
  have N117 := Fr.app N112 N117q
  have c119_F_brackets_b103 : Fld Z h117 b103 "com/example/macroweave/macroweave/BracketPairs" "brackets" "Lcom/example/macroweave/macroweave/Brackets;" (.ref d) := p107_F_brackets_a1.keep Kp117 (ninS ne_b103_b2_107_114 nin0)
  have c120_F_contentStarts_b103 : Fld Z h117 b103 "com/example/macroweave/macroweave/BracketPairs" "contentStarts" "[I" (.ref b1_107) := p107_F_contentStarts_a1.keep Kp117 (ninS ne_b103_b2_107_114 nin0)
  have c121_F_closes_b103 : Fld Z h117 b103 "com/example/macroweave/macroweave/BracketPairs" "closes" "[I" (.ref b2_107) := p107_F_closes_a1.keep Kp117 (ninS ne_b103_b2_107_114 nin0)
  have c122_F_size_b103 : Fld Z h117 b103 "com/example/macroweave/macroweave/BracketPairs" "size" "I" (.int (1 : Int32)) := p107_F_size_a1.keep Kp117 (ninS ne_b103_b2_107_114 nin0)
  have c123_V_b1_107 : Arv Z h117 b1_107 k1_107 .int (4 : Int32) [(.int p0), (.int (0 : Int32)), (.int (0 : Int32)), (.int (0 : Int32))] (.int (0 : Int32)) := p107_V_b1.keep Kp117 (ninS p107_ne_b1_b2 nin0)
  have c124_E_b103 : Exa Z h117 b103 "com/example/macroweave/macroweave/BracketPairs" := p107_E_a1.keep Kp117
  obtain ⟨cq118, kq118, q118a, q118b, q118c⟩ := isOf hZ e117 c124_E_b103
  obtain ⟨_, _, ⟨T118, L118, k118, n118⟩, -, X118, ⟨Lc118, hQ118, l118, y118, z118⟩, st118⟩ := X117.virtualBack hx (y := (⟨"com/example/macroweave/macroweave/BracketPairs", "close", "(Lcom/example/macroweave/macroweave/Brackets;I)I"⟩ : MethodName)) (z := (⟨"com/example/macroweave/macroweave/BracketPairs", "close", "(Lcom/example/macroweave/macroweave/Brackets;I)I"⟩ : MethodName)) hown (mvT hZ (wi hw 48 rfl)) (mvT hZ (wi hw 49 rfl)) (notFace_of_selects (args := #[]) (mvT hZ (wi hw 51 rfl))) (mvT hZ (wi hw 51 rfl)) (mvT hZ (wi hw 50 rfl)) (by decide) (backOf (W := 0) (rm_close_1x l Z a0 hw [] b103 d b1_107 k1_107 p0 b2_107 k2_107 p2 (0 : Int32) h117 n0 (by omega) c119_F_brackets_b103 c120_F_contentStarts_b103 c121_F_closes_b103 c122_F_size_b103 c123_V_b1_107 p117_V_b2) hZ (wi hw 52 rfl) (wi hw 5 rfl) (by decide) (by decide)) q118a q118c (g := (mkF mM 187 (Lc_law_lt_0_0_9 p0 p1 p2 p3 p4 d b103) [(.int p0), (.ref d), (.ref b103)])) rfl (by rw [hml]; rfl) (Steps.refl _) (argsL := [(.ref d), (.int p0)]) (rest := []) (lenOf pd_1 rfl) rfl (by show 2 * 0 + _ ≤ _; exact Nat.le_of_eq rfl) (hb hby at_187) (fun _ _ => ⟨rfl, e117, Nat.le_of_ble_eq_true rfl, Nat.le_of_ble_eq_true rfl⟩)
  dsimp only [Pt.U, Pt.locs, Pt.cells, Pt.slots] at X118 l118 y118 z118 st118 hQ118
  subst l118 y118 z118
  obtain ⟨h118, e118⟩ : ∃ z, T118.heap = z := ⟨_, rfl⟩
  rw [e118] at hQ118
  obtain ⟨rfl, N118q, eq118⟩ := hQ118
  rw [eq118] at e118
  have N118 := Fr.app N117 N118q
  obtain ⟨cq125, kq125, q125a, q125b, q125c⟩ := isOf hZ e118 c124_E_b103
  obtain ⟨_, _, ⟨T125, L125, k125, n125⟩, -, X125, ⟨Lc125, hQ125, l125, y125, z125⟩, st125⟩ := X118.virtualBack hx (y := (⟨"com/example/macroweave/macroweave/BracketPairs", "close", "(Lcom/example/macroweave/macroweave/Brackets;I)I"⟩ : MethodName)) (z := (⟨"com/example/macroweave/macroweave/BracketPairs", "close", "(Lcom/example/macroweave/macroweave/Brackets;I)I"⟩ : MethodName)) hown (mvT hZ (wi hw 48 rfl)) (mvT hZ (wi hw 49 rfl)) (notFace_of_selects (args := #[]) (mvT hZ (wi hw 51 rfl))) (mvT hZ (wi hw 51 rfl)) (mvT hZ (wi hw 50 rfl)) (by decide) (backOf (W := 0) (rm_close_1y l Z a0 hw [] b103 d b1_107 k1_107 p0 p1 b2_107 k2_107 p2 (0 : Int32) h117 n0 (by omega) c119_F_brackets_b103 c120_F_contentStarts_b103 c121_F_closes_b103 c122_F_size_b103 c123_V_b1_107 p117_V_b2 hc37_112 hc48_103_104_125) hZ (wi hw 52 rfl) (wi hw 5 rfl) (by decide) (by decide)) q125a q125c (g := (mkF mM 200 (Lc_law_lt_0_0_9 p0 p1 p2 p3 p4 d b103) [(.int p1), (.ref d), (.ref b103)])) rfl (by rw [hml]; rfl) (Steps.refl _) (argsL := [(.ref d), (.int p1)]) (rest := []) (lenOf pd_1 rfl) rfl (by show 2 * 0 + _ ≤ _; exact Nat.le_of_eq rfl) (hb hby at_200) (fun _ _ => ⟨rfl, e118, Nat.le_of_ble_eq_true rfl, Nat.le_of_ble_eq_true rfl⟩)
  dsimp only [Pt.U, Pt.locs, Pt.cells, Pt.slots] at X125 l125 y125 z125 st125 hQ125
  subst l125 y125 z125
  obtain ⟨h125, e125⟩ : ∃ z, T125.heap = z := ⟨_, rfl⟩
  rw [e125] at hQ125
  obtain ⟨rfl, N125q, eq125⟩ := hQ125
  rw [eq125] at e125
  have N125 := Fr.app N118 N125q
  obtain ⟨fs, hr, hrun, hended, hW, hsame⟩ := X125.leave (v := some (.int (1 : Int32))) (fun h => by rw [Bd.returns] at h; cases h)
  refine ⟨_, _, pre0 _ ?_, hrun, hended, _, _, rfl, ?_, ⟨_, rfl⟩, hW, hsame.mono (by decide) (by decide)⟩
  · show SS pP eE belowS s₁ (mkF mM 0 (Lc_law_lt_0_0_0 p0 p1 p2 p3 p4) []) _
    refine st102 _ ?_
    show SS pP eE belowS T102 (mkF mM 3 (Lc_law_lt_0_0_0 p0 p1 p2 p3 p4) [(.ref d)]) _
    refine XS.astore X102.here hx rfl (hb hby at_3) rfl rfl (l' := (Lc_law_lt_0_0_1 p0 p1 p2 p3 p4 d)) rfl ?_
    show SS pP eE belowS T102 (mkF mM 5 (Lc_law_lt_0_0_1 p0 p1 p2 p3 p4 d) []) _
    refine st103 _ ?_
    show SS pP eE belowS T103 (mkF mM 8 (Lc_law_lt_0_0_1 p0 p1 p2 p3 p4 d) [(.ref b103)]) _
    refine XS.dup X103.here hx rfl (hb hby at_8) rfl rfl ?_
    show SS pP eE belowS T103 (mkF mM 9 (Lc_law_lt_0_0_1 p0 p1 p2 p3 p4 d) [(.ref b103), (.ref b103)]) _
    refine st104.trans ?_
    show SS pP eE belowS T104 (mkF mM 12 (Lc_law_lt_0_0_1 p0 p1 p2 p3 p4 d) [(.ref b103)]) _
    refine XS.astore X104.here hx rfl (hb hby at_12) rfl rfl (l' := (Lc_law_lt_0_0_2 p0 p1 p2 p3 p4 d b103)) rfl ?_
    show SS pP eE belowS T104 (mkF mM 14 (Lc_law_lt_0_0_2 p0 p1 p2 p3 p4 d b103) []) _
    refine XS.aload X104.here hx rfl (hb hby at_14) rfl rfl ?_
    show SS pP eE belowS T104 (mkF mM 16 (Lc_law_lt_0_0_2 p0 p1 p2 p3 p4 d b103) [(.ref b103)]) _
    refine XS.aload X104.here hx rfl (hb hby at_16) rfl rfl ?_
    show SS pP eE belowS T104 (mkF mM 18 (Lc_law_lt_0_0_2 p0 p1 p2 p3 p4 d b103) [(.ref d), (.ref b103)]) _
    refine XS.iloadN X104.here hx rfl (hb hby at_18) rfl ?_
    show SS pP eE belowS T104 (mkF mM 19 (Lc_law_lt_0_0_2 p0 p1 p2 p3 p4 d b103) [(.int p0), (.ref d), (.ref b103)]) _
    refine st107.trans ?_
    show SS pP eE belowS T107 (mkF mM 22 (Lc_law_lt_0_0_2 p0 p1 p2 p3 p4 d b103) [(.int (0 : Int32))]) _
    refine XS.istore X107.here hx rfl (hb hby at_22) rfl (l' := (Lc_law_lt_0_0_3 p0 p1 p2 p3 p4 d b103)) rfl ?_
    show SS pP eE belowS T107 (mkF mM 24 (Lc_law_lt_0_0_3 p0 p1 p2 p3 p4 d b103) []) _
    refine XS.aload X107.here hx rfl (hb hby at_24) rfl rfl ?_
    show SS pP eE belowS T107 (mkF mM 26 (Lc_law_lt_0_0_3 p0 p1 p2 p3 p4 d b103) [(.ref b103)]) _
    refine XS.aload X107.here hx rfl (hb hby at_26) rfl rfl ?_
    show SS pP eE belowS T107 (mkF mM 28 (Lc_law_lt_0_0_3 p0 p1 p2 p3 p4 d b103) [(.ref d), (.ref b103)]) _
    refine XS.iloadN X107.here hx rfl (hb hby at_28) rfl ?_
    show SS pP eE belowS T107 (mkF mM 29 (Lc_law_lt_0_0_3 p0 p1 p2 p3 p4 d b103) [(.int p1), (.ref d), (.ref b103)]) _
    refine st112.trans ?_
    show SS pP eE belowS T112 (mkF mM 32 (Lc_law_lt_0_0_3 p0 p1 p2 p3 p4 d b103) [(.int (-1 : Int32))]) _
    refine XS.istore X112.here hx rfl (hb hby at_32) rfl (l' := (Lc_law_lt_0_0_4 p0 p1 p2 p3 p4 d b103)) rfl ?_
    show SS pP eE belowS T112 (mkF mM 34 (Lc_law_lt_0_0_4 p0 p1 p2 p3 p4 d b103) []) _
    refine XS.iload X112.here hx rfl (hb hby at_34) rfl ?_
    show SS pP eE belowS T112 (mkF mM 36 (Lc_law_lt_0_0_4 p0 p1 p2 p3 p4 d b103) [(.int (0 : Int32))]) _
    refine XS.ifYes X112.here hx rfl (pc0 := 36) (pc' := 41) rfl (hb hby at_36) rfl ((if0 _ _).trans (teq (by decide : (0 : Int32) = (0 : Int32))).1) (by decide) (by decide) ?_
    show SS pP eE belowS T112 (mkF mM 41 (Lc_law_lt_0_0_4 p0 p1 p2 p3 p4 d b103) []) _
    refine XS.iload X112.here hx rfl (hb hby at_41) rfl ?_
    show SS pP eE belowS T112 (mkF mM 43 (Lc_law_lt_0_0_4 p0 p1 p2 p3 p4 d b103) [(.int (-1 : Int32))]) _
    refine XS.iloadN X112.here hx rfl (hb hby at_43) rfl ?_
    show SS pP eE belowS T112 (mkF mM 44 (Lc_law_lt_0_0_4 p0 p1 p2 p3 p4 d b103) [(.int p1), (.int (-1 : Int32))]) _
    refine XS.iloadN X112.here hx rfl (hb hby at_44) rfl ?_
    show SS pP eE belowS T112 (mkF mM 45 (Lc_law_lt_0_0_4 p0 p1 p2 p3 p4 d b103) [(.int p0), (.int p1), (.int (-1 : Int32))]) _
    refine XS.icmpYes X112.here hx rfl (pc0 := 45) (pc' := 52) rfl (hb hby at_45) rfl (flt hc37_112).2.2.2 (by decide) (by decide) ?_
    show SS pP eE belowS T112 (mkF mM 52 (Lc_law_lt_0_0_4 p0 p1 p2 p3 p4 d b103) [(.int (-1 : Int32))]) _
    refine XS.iconst X112.here hx rfl (hb hby at_52) ?_
    show SS pP eE belowS T112 (mkF mM 53 (Lc_law_lt_0_0_4 p0 p1 p2 p3 p4 d b103) [(.int (-1 : Int32)), (.int (-1 : Int32))]) _
    refine XS.icmpYes X112.here hx rfl (pc0 := 53) (pc' := 58) rfl (hb hby at_53) rfl (teq (by decide : (-1 : Int32) = (-1 : Int32))).1 (by decide) (by decide) ?_
    show SS pP eE belowS T112 (mkF mM 58 (Lc_law_lt_0_0_4 p0 p1 p2 p3 p4 d b103) []) _
    refine XS.iload X112.here hx rfl (hb hby at_58) rfl ?_
    show SS pP eE belowS T112 (mkF mM 60 (Lc_law_lt_0_0_4 p0 p1 p2 p3 p4 d b103) [(.int p4)]) _
    refine XS.iconst X112.here hx rfl (hb hby at_60) ?_
    show SS pP eE belowS T112 (mkF mM 61 (Lc_law_lt_0_0_4 p0 p1 p2 p3 p4 d b103) [(.int (3 : Int32)), (.int p4)]) _
    refine XS.iand X112.here hx rfl (hb hby at_61) rfl ?_
    show SS pP eE belowS T112 (mkF mM 62 (Lc_law_lt_0_0_4 p0 p1 p2 p3 p4 d b103) [(.int (p4 &&& (3 : Int32)))]) _
    refine XS.istore X112.here hx rfl (hb hby at_62) rfl (l' := (Lc_law_lt_0_0_5 p0 p1 p2 p3 p4 d b103)) rfl ?_
    show SS pP eE belowS T112 (mkF mM 64 (Lc_law_lt_0_0_5 p0 p1 p2 p3 p4 d b103) []) _
    refine XS.iload X112.here hx rfl (hb hby at_64) rfl ?_
    show SS pP eE belowS T112 (mkF mM 66 (Lc_law_lt_0_0_5 p0 p1 p2 p3 p4 d b103) [(.int (p4 &&& (3 : Int32)))]) _
    refine XS.ifNo X112.here hx rfl (hb hby at_66) rfl ((if0 _ _).trans (teq hc66).2) ?_
    show SS pP eE belowS T112 (mkF mM 69 (Lc_law_lt_0_0_5 p0 p1 p2 p3 p4 d b103) []) _
    refine XS.iload X112.here hx rfl (hb hby at_69) rfl ?_
    show SS pP eE belowS T112 (mkF mM 71 (Lc_law_lt_0_0_5 p0 p1 p2 p3 p4 d b103) [(.int (0 : Int32))]) _
    refine XS.goto X112.here hx rfl (pc0 := 71) (pc' := 86) rfl (hb hby at_71) (by decide) (by decide) ?_
    show SS pP eE belowS T112 (mkF mM 86 (Lc_law_lt_0_0_5 p0 p1 p2 p3 p4 d b103) [(.int (0 : Int32))]) _
    refine XS.istore X112.here hx rfl (hb hby at_86) rfl (l' := (Lc_law_lt_0_0_6 p0 p1 p2 p3 p4 d b103)) rfl ?_
    show SS pP eE belowS T112 (mkF mM 88 (Lc_law_lt_0_0_6 p0 p1 p2 p3 p4 d b103) []) _
    refine XS.iload X112.here hx rfl (hb hby at_88) rfl ?_
    show SS pP eE belowS T112 (mkF mM 90 (Lc_law_lt_0_0_6 p0 p1 p2 p3 p4 d b103) [(.int p4)]) _
    refine XS.iconst X112.here hx rfl (hb hby at_90) ?_
    show SS pP eE belowS T112 (mkF mM 91 (Lc_law_lt_0_0_6 p0 p1 p2 p3 p4 d b103) [(.int (2 : Int32)), (.int p4)]) _
    refine XS.ishr X112.here hx rfl (hb hby at_91) rfl ?_
    show SS pP eE belowS T112 (mkF mM 92 (Lc_law_lt_0_0_6 p0 p1 p2 p3 p4 d b103) [(.int (p4 >>> ((2 : Int32) &&& 31)))]) _
    refine XS.iconst X112.here hx rfl (hb hby at_92) ?_
    show SS pP eE belowS T112 (mkF mM 93 (Lc_law_lt_0_0_6 p0 p1 p2 p3 p4 d b103) [(.int (1 : Int32)), (.int (p4 >>> ((2 : Int32) &&& 31)))]) _
    refine XS.iand X112.here hx rfl (hb hby at_93) rfl ?_
    show SS pP eE belowS T112 (mkF mM 94 (Lc_law_lt_0_0_6 p0 p1 p2 p3 p4 d b103) [(.int ((p4 >>> ((2 : Int32) &&& 31)) &&& (1 : Int32)))]) _
    refine XS.ifYes X112.here hx rfl (pc0 := 94) (pc' := 101) rfl (hb hby at_94) rfl ((if0 _ _).trans (teq hc94).1) (by decide) (by decide) ?_
    show SS pP eE belowS T112 (mkF mM 101 (Lc_law_lt_0_0_6 p0 p1 p2 p3 p4 d b103) []) _
    refine XS.iconst X112.here hx rfl (hb hby at_101) ?_
    show SS pP eE belowS T112 (mkF mM 102 (Lc_law_lt_0_0_6 p0 p1 p2 p3 p4 d b103) [(.int (0 : Int32))]) _
    refine XS.istore X112.here hx rfl (hb hby at_102) rfl (l' := (Lc_law_lt_0_0_7 p0 p1 p2 p3 p4 d b103)) rfl ?_
    show SS pP eE belowS T112 (mkF mM 104 (Lc_law_lt_0_0_7 p0 p1 p2 p3 p4 d b103) []) _
    refine XS.aload X112.here hx rfl (hb hby at_104) rfl rfl ?_
    show SS pP eE belowS T112 (mkF mM 106 (Lc_law_lt_0_0_7 p0 p1 p2 p3 p4 d b103) [(.ref b103)]) _
    refine XS.iload X112.here hx rfl (hb hby at_106) rfl ?_
    show SS pP eE belowS T112 (mkF mM 108 (Lc_law_lt_0_0_7 p0 p1 p2 p3 p4 d b103) [(.int (0 : Int32)), (.ref b103)]) _
    refine XS.iloadN X112.here hx rfl (hb hby at_108) rfl ?_
    show SS pP eE belowS T112 (mkF mM 109 (Lc_law_lt_0_0_7 p0 p1 p2 p3 p4 d b103) [(.int p2), (.int (0 : Int32)), (.ref b103)]) _
    refine st117.trans ?_
    show SS pP eE belowS T117 (mkF mM 112 (Lc_law_lt_0_0_7 p0 p1 p2 p3 p4 d b103) []) _
    refine XS.iload X117.here hx rfl (hb hby at_112) rfl ?_
    show SS pP eE belowS T117 (mkF mM 114 (Lc_law_lt_0_0_7 p0 p1 p2 p3 p4 d b103) [(.int (0 : Int32))]) _
    refine XS.ifYes X117.here hx rfl (pc0 := 114) (pc' := 125) rfl (hb hby at_114) rfl ((if0 _ _).trans (teq (by decide : (0 : Int32) = (0 : Int32))).1) (by decide) (by decide) ?_
    show SS pP eE belowS T117 (mkF mM 125 (Lc_law_lt_0_0_7 p0 p1 p2 p3 p4 d b103) []) _
    refine XS.iload X117.here hx rfl (hb hby at_125) rfl ?_
    show SS pP eE belowS T117 (mkF mM 127 (Lc_law_lt_0_0_7 p0 p1 p2 p3 p4 d b103) [(.int (0 : Int32))]) _
    refine XS.ifYes X117.here hx rfl (pc0 := 127) (pc' := 134) rfl (hb hby at_127) rfl ((if0 _ _).trans (teq (by decide : (0 : Int32) = (0 : Int32))).1) (by decide) (by decide) ?_
    show SS pP eE belowS T117 (mkF mM 134 (Lc_law_lt_0_0_7 p0 p1 p2 p3 p4 d b103) []) _
    refine XS.iload X117.here hx rfl (hb hby at_134) rfl ?_
    show SS pP eE belowS T117 (mkF mM 136 (Lc_law_lt_0_0_7 p0 p1 p2 p3 p4 d b103) [(.int (0 : Int32))]) _
    refine XS.ifNo X117.here hx rfl (hb hby at_136) rfl ((if0 _ _).trans (teq (by decide : (0 : Int32) = (0 : Int32))).2) ?_
    show SS pP eE belowS T117 (mkF mM 139 (Lc_law_lt_0_0_7 p0 p1 p2 p3 p4 d b103) []) _
    refine XS.iloadN X117.here hx rfl (hb hby at_139) rfl ?_
    show SS pP eE belowS T117 (mkF mM 140 (Lc_law_lt_0_0_7 p0 p1 p2 p3 p4 d b103) [(.int p2)]) _
    refine XS.goto X117.here hx rfl (pc0 := 140) (pc' := 144) rfl (hb hby at_140) (by decide) (by decide) ?_
    show SS pP eE belowS T117 (mkF mM 144 (Lc_law_lt_0_0_7 p0 p1 p2 p3 p4 d b103) [(.int p2)]) _
    refine XS.istore X117.here hx rfl (hb hby at_144) rfl (l' := (Lc_law_lt_0_0_8 p0 p1 p2 p3 p4 d b103)) rfl ?_
    show SS pP eE belowS T117 (mkF mM 146 (Lc_law_lt_0_0_8 p0 p1 p2 p3 p4 d b103) []) _
    refine XS.iloadN X117.here hx rfl (hb hby at_146) rfl ?_
    show SS pP eE belowS T117 (mkF mM 147 (Lc_law_lt_0_0_8 p0 p1 p2 p3 p4 d b103) [(.int p1)]) _
    refine XS.iloadN X117.here hx rfl (hb hby at_147) rfl ?_
    show SS pP eE belowS T117 (mkF mM 148 (Lc_law_lt_0_0_8 p0 p1 p2 p3 p4 d b103) [(.int p0), (.int p1)]) _
    refine XS.icmpYes X117.here hx rfl (pc0 := 148) (pc' := 167) rfl (hb hby at_148) rfl (flt hc37_112).2.2.2 (by decide) (by decide) ?_
    show SS pP eE belowS T117 (mkF mM 167 (Lc_law_lt_0_0_8 p0 p1 p2 p3 p4 d b103) []) _
    refine XS.iloadN X117.here hx rfl (hb hby at_167) rfl ?_
    show SS pP eE belowS T117 (mkF mM 168 (Lc_law_lt_0_0_8 p0 p1 p2 p3 p4 d b103) [(.int p1)]) _
    refine XS.iloadN X117.here hx rfl (hb hby at_168) rfl ?_
    show SS pP eE belowS T117 (mkF mM 169 (Lc_law_lt_0_0_8 p0 p1 p2 p3 p4 d b103) [(.int p0), (.int p1)]) _
    refine XS.icmpYes X117.here hx rfl (pc0 := 169) (pc' := 179) rfl (hb hby at_169) rfl (feq hc169).2 (by decide) (by decide) ?_
    show SS pP eE belowS T117 (mkF mM 179 (Lc_law_lt_0_0_8 p0 p1 p2 p3 p4 d b103) []) _
    refine XS.iconst X117.here hx rfl (hb hby at_179) ?_
    show SS pP eE belowS T117 (mkF mM 180 (Lc_law_lt_0_0_8 p0 p1 p2 p3 p4 d b103) [(.int (-1 : Int32))]) _
    refine XS.istore X117.here hx rfl (hb hby at_180) rfl (l' := (Lc_law_lt_0_0_9 p0 p1 p2 p3 p4 d b103)) rfl ?_
    show SS pP eE belowS T117 (mkF mM 182 (Lc_law_lt_0_0_9 p0 p1 p2 p3 p4 d b103) []) _
    refine XS.aload X117.here hx rfl (hb hby at_182) rfl rfl ?_
    show SS pP eE belowS T117 (mkF mM 184 (Lc_law_lt_0_0_9 p0 p1 p2 p3 p4 d b103) [(.ref b103)]) _
    refine XS.aload X117.here hx rfl (hb hby at_184) rfl rfl ?_
    show SS pP eE belowS T117 (mkF mM 186 (Lc_law_lt_0_0_9 p0 p1 p2 p3 p4 d b103) [(.ref d), (.ref b103)]) _
    refine XS.iloadN X117.here hx rfl (hb hby at_186) rfl ?_
    show SS pP eE belowS T117 (mkF mM 187 (Lc_law_lt_0_0_9 p0 p1 p2 p3 p4 d b103) [(.int p0), (.ref d), (.ref b103)]) _
    refine st118.trans ?_
    show SS pP eE belowS T118 (mkF mM 190 (Lc_law_lt_0_0_9 p0 p1 p2 p3 p4 d b103) [(.int p2)]) _
    refine XS.iload X118.here hx rfl (hb hby at_190) rfl ?_
    show SS pP eE belowS T118 (mkF mM 192 (Lc_law_lt_0_0_9 p0 p1 p2 p3 p4 d b103) [(.int p2), (.int p2)]) _
    refine XS.icmpNo X118.here hx rfl (hb hby at_192) rfl (teq (rfl : p2 = p2)).2 ?_
    show SS pP eE belowS T118 (mkF mM 195 (Lc_law_lt_0_0_9 p0 p1 p2 p3 p4 d b103) []) _
    refine XS.aload X118.here hx rfl (hb hby at_195) rfl rfl ?_
    show SS pP eE belowS T118 (mkF mM 197 (Lc_law_lt_0_0_9 p0 p1 p2 p3 p4 d b103) [(.ref b103)]) _
    refine XS.aload X118.here hx rfl (hb hby at_197) rfl rfl ?_
    show SS pP eE belowS T118 (mkF mM 199 (Lc_law_lt_0_0_9 p0 p1 p2 p3 p4 d b103) [(.ref d), (.ref b103)]) _
    refine XS.iloadN X118.here hx rfl (hb hby at_199) rfl ?_
    show SS pP eE belowS T118 (mkF mM 200 (Lc_law_lt_0_0_9 p0 p1 p2 p3 p4 d b103) [(.int p1), (.ref d), (.ref b103)]) _
    refine st125.trans ?_
    show SS pP eE belowS T125 (mkF mM 203 (Lc_law_lt_0_0_9 p0 p1 p2 p3 p4 d b103) [(.int (-1 : Int32))]) _
    refine XS.iload X125.here hx rfl (hb hby at_203) rfl ?_
    show SS pP eE belowS T125 (mkF mM 205 (Lc_law_lt_0_0_9 p0 p1 p2 p3 p4 d b103) [(.int (-1 : Int32)), (.int (-1 : Int32))]) _
    refine XS.icmpNo X125.here hx rfl (hb hby at_205) rfl (teq (by decide : (-1 : Int32) = (-1 : Int32))).2 ?_
    show SS pP eE belowS T125 (mkF mM 208 (Lc_law_lt_0_0_9 p0 p1 p2 p3 p4 d b103) []) _
    refine XS.iconst X125.here hx rfl (hb hby at_208) ?_
    show SS pP eE belowS T125 (mkF mM 209 (Lc_law_lt_0_0_9 p0 p1 p2 p3 p4 d b103) [(.int (1 : Int32))]) _
    refine XS.goto X125.here hx rfl (pc0 := 209) (pc' := 213) rfl (hb hby at_209) (by decide) (by decide) ?_
    show SS pP eE belowS T125 (mkF mM 213 (Lc_law_lt_0_0_9 p0 p1 p2 p3 p4 d b103) [(.int (1 : Int32))]) _
    exact retN X125 hx (t := .boolean) Bd.returns (by simp) (hb hby at_213) hr
  · exact ⟨rfl, N125⟩

abbrev Lc_law_lt_0_1_0 (p0 : Int32) (p1 : Int32) (p2 : Int32) (p3 : Int32) (p4 : Int32) : Array Slot := #[.val (.int p0), .val (.int p1), .val (.int p2), .val (.int p3), .val (.int p4), .unset, .unset, .unset, .unset, .unset, .unset, .unset, .unset, .unset]
abbrev Lc_law_lt_0_1_1 (p0 : Int32) (p1 : Int32) (p2 : Int32) (p3 : Int32) (p4 : Int32) (d : Addr) : Array Slot := #[.val (.int p0), .val (.int p1), .val (.int p2), .val (.int p3), .val (.int p4), .val (.ref d), .unset, .unset, .unset, .unset, .unset, .unset, .unset, .unset]
abbrev Lc_law_lt_0_1_2 (p0 : Int32) (p1 : Int32) (p2 : Int32) (p3 : Int32) (p4 : Int32) (d : Addr) (b103 : Addr) : Array Slot := #[.val (.int p0), .val (.int p1), .val (.int p2), .val (.int p3), .val (.int p4), .val (.ref d), .val (.ref b103), .unset, .unset, .unset, .unset, .unset, .unset, .unset]
abbrev Lc_law_lt_0_1_3 (p0 : Int32) (p1 : Int32) (p2 : Int32) (p3 : Int32) (p4 : Int32) (d : Addr) (b103 : Addr) : Array Slot := #[.val (.int p0), .val (.int p1), .val (.int p2), .val (.int p3), .val (.int p4), .val (.ref d), .val (.ref b103), .val (.int (0 : Int32)), .unset, .unset, .unset, .unset, .unset, .unset]
abbrev Lc_law_lt_0_1_4 (p0 : Int32) (p1 : Int32) (p2 : Int32) (p3 : Int32) (p4 : Int32) (d : Addr) (b103 : Addr) : Array Slot := #[.val (.int p0), .val (.int p1), .val (.int p2), .val (.int p3), .val (.int p4), .val (.ref d), .val (.ref b103), .val (.int (0 : Int32)), .val (.int (-1 : Int32)), .unset, .unset, .unset, .unset, .unset]
abbrev Lc_law_lt_0_1_5 (p0 : Int32) (p1 : Int32) (p2 : Int32) (p3 : Int32) (p4 : Int32) (d : Addr) (b103 : Addr) : Array Slot := #[.val (.int p0), .val (.int p1), .val (.int p2), .val (.int p3), .val (.int p4), .val (.ref d), .val (.ref b103), .val (.int (0 : Int32)), .val (.int (-1 : Int32)), .val (.int (p4 &&& (3 : Int32))), .unset, .unset, .unset, .unset]
abbrev Lc_law_lt_0_1_6 (p0 : Int32) (p1 : Int32) (p2 : Int32) (p3 : Int32) (p4 : Int32) (d : Addr) (b103 : Addr) : Array Slot := #[.val (.int p0), .val (.int p1), .val (.int p2), .val (.int p3), .val (.int p4), .val (.ref d), .val (.ref b103), .val (.int (0 : Int32)), .val (.int (-1 : Int32)), .val (.int (p4 &&& (3 : Int32))), .val (.int (0 : Int32)), .unset, .unset, .unset]
abbrev Lc_law_lt_0_1_7 (p0 : Int32) (p1 : Int32) (p2 : Int32) (p3 : Int32) (p4 : Int32) (d : Addr) (b103 : Addr) : Array Slot := #[.val (.int p0), .val (.int p1), .val (.int p2), .val (.int p3), .val (.int p4), .val (.ref d), .val (.ref b103), .val (.int (0 : Int32)), .val (.int (-1 : Int32)), .val (.int (p4 &&& (3 : Int32))), .val (.int (0 : Int32)), .val (.int (1 : Int32)), .unset, .unset]
abbrev Lc_law_lt_0_1_8 (p0 : Int32) (p1 : Int32) (p2 : Int32) (p3 : Int32) (p4 : Int32) (d : Addr) (b103 : Addr) : Array Slot := #[.val (.int p0), .val (.int p1), .val (.int p2), .val (.int p3), .val (.int p4), .val (.ref d), .val (.ref b103), .val (.int (0 : Int32)), .val (.int (-1 : Int32)), .val (.int (p4 &&& (3 : Int32))), .val (.int (0 : Int32)), .val (.int (1 : Int32)), .val (.int p3), .unset]
abbrev Lc_law_lt_0_1_9 (p0 : Int32) (p1 : Int32) (p2 : Int32) (p3 : Int32) (p4 : Int32) (d : Addr) (b103 : Addr) : Array Slot := #[.val (.int p0), .val (.int p1), .val (.int p2), .val (.int p3), .val (.int p4), .val (.ref d), .val (.ref b103), .val (.int (0 : Int32)), .val (.int (-1 : Int32)), .val (.int (p4 &&& (3 : Int32))), .val (.int (0 : Int32)), .val (.int (1 : Int32)), .val (.int p3), .val (.int (-1 : Int32))]
theorem ef_law_lt_0_1 (mM : MethodId) (p0 : Int32) (p1 : Int32) (p2 : Int32) (p3 : Int32) (p4 : Int32) (aN : Addr) (kN : ClassId) (d : Addr) : entryFrame mM #[(.int p0), (.int p1), (.int p2), (.int p3), (.int p4)] maxLocals = mkF mM 0 #[.val (.int p0), .val (.int p1), .val (.int p2), .val (.int p3), .val (.int p4), .unset, .unset, .unset, .unset, .unset, .unset, .unset, .unset, .unset] [] := by first | (simp [entryFrame, mkF, argsToLocals, Value.category, maxLocals]; done) | rfl
set_option maxRecDepth 65536 in
set_option maxHeartbeats 40000000 in
theorem rm_law_lt_0_1 (l : Launch) (Z : State) (a0 : Array Value) (hw : ∀ d ∈ tables_1, d.before a0 Z = true) (ws : List Jvm.Cond) (p0 : Int32) (p1 : Int32) (p2 : Int32) (p3 : Int32) (p4 : Int32) (aN : Addr) (kN : ClassId) (d : Addr) (h0 : Heap) (n0 : Nat) (Z0 : n0 ≤ h0.size) (OL : Old Z n0 h0) (S_DEFAULT : Sta Z Z.heap "com/example/macroweave/macroweave/Brackets" "DEFAULT" "Lcom/example/macroweave/macroweave/Brackets;" (.ref d)) (S_NONE : Sta Z Z.heap "com/example/macroweave/macroweave/BracketPairs" "NONE" "[I" (.ref aN)) (V_aN : Arv Z h0 aN kN .int (0 : Int32) [] (.int (0 : Int32))) (hc37_112 : ¬ (p0 < p1)) (hc66 : (p4 &&& (3 : Int32)) = (0 : Int32)) (hc94 : ¬ (((p4 >>> ((2 : Int32) &&& 31)) &&& (1 : Int32)) = (0 : Int32))) (hc169 : ¬ (p1 = p0)) (hc48_103_104_132 : p1 < p0) :
    MetFree l x (head1 (Jvm.Cond.code x code maxLocals ret :: ws) room_1) (fun xa xU => xa = #[(.int p0), (.int p1), (.int p2), (.int p3), (.int p4)] ∧ Z.Warmed39 xU.vm ∧ xU.heap = h0) (fun _ _ _ _ _ => True) (fun _ xU xo xU' => ∃ xv xL, xo = .returned xv ∧ Q_law n0 xv xL ∧ FrameEnd xU xo xU' xL room_1.cells room_1.slots) := by
  refine MetFree.of_bodySF (plainFor_of_name pn_com_example_macroweave_macroweave_BracketPairsClosedPinLaw) hisR ?_
  intro pP eE sS mM argS belowS methS cC s₁ Bd hml0 hP hK
  obtain ⟨rfl, hZ, hh⟩ := hP
  have hx := Bd.exec
  have hby := Bd.bytes
  have hml : cC.maxLocals = 14 := hml0
  have hown : sS.vm.findClass "com/example/macroweave/macroweave/BracketPairsClosedPinLaw" = some mM.cls := findClass_of_methodNamed Bd.named
  have hnm := (name_of_methodNamed Bd.named Bd.method).1
  have X0 : Stand pP l eE room_1 sS mM #[(.int p0), (.int p1), (.int p2), (.int p3), (.int p4)] belowS methS cC s₁ [] 0 0 := Stand.of_body Bd
  have e0 : s₁.heap = h0 := by rw [← hh, Bd.state]; rfl
  have N0 := Fr.nil n0
  have pre0 : ∀ t', Steps pP.tables eE belowS (s₁.setTop (mkF mM 0 #[.val (.int p0), .val (.int p1), .val (.int p2), .val (.int p3), .val (.int p4), .unset, .unset, .unset, .unset, .unset, .unset, .unset, .unset, .unset] [])) t' → Steps pP.tables eE belowS (s₁.setTop (entryFrame mM #[(.int p0), (.int p1), (.int p2), (.int p3), (.int p4)] maxLocals)) t' := fun t' kk' => castTop (ef_law_lt_0_1 mM p0 p1 p2 p3 p4 aN kN d) kk'
  have c101_S_DEFAULT : Sta Z h0 "com/example/macroweave/macroweave/Brackets" "DEFAULT" "Lcom/example/macroweave/macroweave/Brackets;" (.ref d) := Sta.ext OL.2 S_DEFAULT
  obtain ⟨T102, X102, e102, st102⟩ := getS2 X0 hx hZ hown (host := "") (Or.inl (wi hw 0 rfl)) Via.refl e0 c101_S_DEFAULT (g := (mkF mM 0 (Lc_law_lt_0_1_0 p0 p1 p2 p3 p4) [])) rfl (hb hby at_0)
  obtain ⟨T103, h103, X103, e103, E103, A103, D103, B103, st103⟩ := newO X102 hx hZ hown (wi hw 3 rfl) (wi hw 4 rfl) (wi hw 5 rfl) e102 (g := (mkF mM 5 (Lc_law_lt_0_1_1 p0 p1 p2 p3 p4 d) [])) rfl (hb hby at_5) (by decide) (by decide)
  obtain ⟨b103, g103⟩ : ∃ z : Nat, z = h0.size := ⟨_, rfl⟩
  rw [← g103] at A103 D103 B103 st103
  have Sz1 : h0.size ≤ h103.size := E103.1
  have F103_contentStarts : Fld Z h103 b103 "com/example/macroweave/macroweave/BracketPairs" "contentStarts" "[I" .null := D103 (Or.inl (wi hw 15 rfl)) (ty := (.array .int)) (by decide)
  have F103_closes : Fld Z h103 b103 "com/example/macroweave/macroweave/BracketPairs" "closes" "[I" .null := D103 (Or.inl (wi hw 17 rfl)) (ty := (.array .int)) (by decide)
  have F103_brackets : Fld Z h103 b103 "com/example/macroweave/macroweave/BracketPairs" "brackets" "Lcom/example/macroweave/macroweave/Brackets;" .null := D103 (Or.inl (wi hw 24 rfl)) (ty := (.object "com/example/macroweave/macroweave/Brackets")) (by decide)
  have F103_size : Fld Z h103 b103 "com/example/macroweave/macroweave/BracketPairs" "size" "I" (.int (0 : Int32)) := D103 (Or.inl (wi hw 26 rfl)) (ty := .int) (by decide)
  have c105_OL : Old Z n0 h103 := OL.ext E103
  have ge106_b103 : @LE.le Nat _ n0 b103 := by omega
  obtain ⟨_, _, ⟨T104, L104, k104, n104⟩, -, X104, ⟨Lc104, hQ104, l104, y104, z104⟩, st104⟩ := X103.specialBack hx (y := (⟨"com/example/macroweave/macroweave/BracketPairs", "<init>", "()V"⟩ : MethodName)) rfl hown (mvT hZ (wi hw 6 rfl)) (mvT hZ (wi hw 7 rfl)) (mvT hZ (wi hw 8 rfl)) (by decide) (backOf (W := 1) (rm_init l Z a0 hw [] b103 aN .null .null .null (.int (0 : Int32)) h103 n0 (by omega) A103 F103_contentStarts F103_closes F103_brackets F103_size ge106_b103 c105_OL S_NONE) hZ (wi hw 8 rfl) (wi hw 5 rfl) (by decide) (by decide)) (g := (mkF mM 9 (Lc_law_lt_0_1_1 p0 p1 p2 p3 p4 d) [(.ref b103), (.ref b103)])) rfl (by rw [hml]; rfl) (Steps.refl _) (a := b103) (argsL := []) (rest := [(.ref b103)]) (lenOf pd_0 rfl) rfl (by show 2 * 0 + _ ≤ _; exact Nat.le_of_eq rfl) (hb hby at_9) (fun _ _ => ⟨rfl, e103, Nat.le_of_ble_eq_true rfl, Nat.le_of_ble_eq_true rfl⟩)
  dsimp only [Pt.U, Pt.locs, Pt.cells, Pt.slots] at X104 l104 y104 z104 st104 hQ104
  subst l104 y104 z104
  obtain ⟨h104, e104⟩ : ∃ z, T104.heap = z := ⟨_, rfl⟩
  rw [e104] at hQ104
  obtain ⟨rfl, N104q, Kp104, p104_E_a1, p104_F_contentStarts_a1, p104_F_closes_a1, p104_F_brackets_a1, p104_F_size_a1⟩ := hQ104
  have Sz2 : h103.size ≤ h104.size := Kp104.1
  have N104 := Fr.app N0 N104q
  have c108_V_aN : Arv Z h103 aN kN .int (0 : Int32) [] (.int (0 : Int32)) := V_aN.ext E103
  have lt_aN : @LT.lt Nat _ aN h0.size := V_aN.lt
  have lt_b103 : @LT.lt Nat _ b103 h104.size := p104_E_a1.lt
  have ne_aN_b103_109 : aN ≠ b103 := (by omega : @Ne Nat aN b103)
  have c110_V_aN : Arv Z h104 aN kN .int (0 : Int32) [] (.int (0 : Int32)) := c108_V_aN.keep Kp104 (ninS ne_aN_b103_109 nin0)
  have ne_b103_aN_111 : b103 ≠ aN := (by omega : @Ne Nat b103 aN)
  obtain ⟨cq107, kq107, q107a, q107b, q107c⟩ := isOf hZ e104 p104_E_a1
  obtain ⟨_, _, ⟨T107, L107, k107, n107⟩, -, X107, ⟨Lc107, hQ107, l107, y107, z107⟩, st107⟩ := X104.virtualBack hx (y := (⟨"com/example/macroweave/macroweave/BracketPairs", "opened", "(Lcom/example/macroweave/macroweave/Brackets;I)I"⟩ : MethodName)) (z := (⟨"com/example/macroweave/macroweave/BracketPairs", "opened", "(Lcom/example/macroweave/macroweave/Brackets;I)I"⟩ : MethodName)) hown (mvT hZ (wi hw 18 rfl)) (mvT hZ (wi hw 19 rfl)) (notFace_of_selects (args := #[]) (mvT hZ (wi hw 21 rfl))) (mvT hZ (wi hw 21 rfl)) (mvT hZ (wi hw 20 rfl)) (by decide) (backOf (W := 0) (rm_open1 l Z a0 hw [] b103 d p0 aN kN h104 n0 (by omega) p104_E_a1 p104_F_brackets_a1 p104_F_contentStarts_a1 p104_F_closes_a1 p104_F_size_a1 c110_V_aN ne_b103_aN_111 ge106_b103) hZ (wi hw 22 rfl) (wi hw 5 rfl) (by decide) (by decide)) q107a q107c (g := (mkF mM 19 (Lc_law_lt_0_1_2 p0 p1 p2 p3 p4 d b103) [(.int p0), (.ref d), (.ref b103)])) rfl (by rw [hml]; rfl) (Steps.refl _) (argsL := [(.ref d), (.int p0)]) (rest := []) (lenOf pd_1 rfl) rfl (by show 2 * 0 + _ ≤ _; exact Nat.le_of_eq rfl) (hb hby at_19) (fun _ _ => ⟨rfl, e104, Nat.le_of_ble_eq_true rfl, Nat.le_of_ble_eq_true rfl⟩)
  dsimp only [Pt.U, Pt.locs, Pt.cells, Pt.slots] at X107 l107 y107 z107 st107 hQ107
  subst l107 y107 z107
  obtain ⟨h107, e107⟩ : ∃ z, T107.heap = z := ⟨_, rfl⟩
  rw [e107] at hQ107
  obtain ⟨b1_107, b2_107, k1_107, k2_107, rfl, N107q, Kp107, p107_E_a1, p107_F_brackets_a1, p107_F_contentStarts_a1, p107_F_closes_a1, p107_F_size_a1, p107_V_b1, p107_V_b2, p107_gh_b1, p107_gh_b2, p107_ne_b1_b2⟩ := hQ107
  have Sz3 : h104.size ≤ h107.size := Kp107.1
  have N107 := Fr.app N104 N107q
  have lt_b1_107 : @LT.lt Nat _ b1_107 h107.size := p107_V_b1.lt
  have ne_b103_b1_107_113 : b103 ≠ b1_107 := (by omega : @Ne Nat b103 b1_107)
  have lt_b2_107 : @LT.lt Nat _ b2_107 h107.size := p107_V_b2.lt
  have ne_b103_b2_107_114 : b103 ≠ b2_107 := (by omega : @Ne Nat b103 b2_107)
  have ge115_b1_107 : @LE.le Nat _ n0 b1_107 := by omega
  have ge116_b2_107 : @LE.le Nat _ n0 b2_107 := by omega
  obtain ⟨cq112, kq112, q112a, q112b, q112c⟩ := isOf hZ e107 p107_E_a1
  obtain ⟨_, _, ⟨T112, L112, k112, n112⟩, -, X112, ⟨Lc112, hQ112, l112, y112, z112⟩, st112⟩ := X107.virtualBack hx (y := (⟨"com/example/macroweave/macroweave/BracketPairs", "opened", "(Lcom/example/macroweave/macroweave/Brackets;I)I"⟩ : MethodName)) (z := (⟨"com/example/macroweave/macroweave/BracketPairs", "opened", "(Lcom/example/macroweave/macroweave/Brackets;I)I"⟩ : MethodName)) hown (mvT hZ (wi hw 18 rfl)) (mvT hZ (wi hw 19 rfl)) (notFace_of_selects (args := #[]) (mvT hZ (wi hw 21 rfl))) (mvT hZ (wi hw 21 rfl)) (mvT hZ (wi hw 20 rfl)) (by decide) (backOf (W := 0) (rm_open2n l Z a0 hw [] b103 d p1 p0 b1_107 b2_107 k1_107 k2_107 h107 n0 (by omega) p107_E_a1 p107_F_brackets_a1 p107_F_contentStarts_a1 p107_F_closes_a1 p107_F_size_a1 p107_V_b1 p107_V_b2 ne_b103_b1_107_113 ne_b103_b2_107_114 p107_ne_b1_b2 ge106_b103 ge115_b1_107 ge116_b2_107 hc37_112) hZ (wi hw 22 rfl) (wi hw 5 rfl) (by decide) (by decide)) q112a q112c (g := (mkF mM 29 (Lc_law_lt_0_1_3 p0 p1 p2 p3 p4 d b103) [(.int p1), (.ref d), (.ref b103)])) rfl (by rw [hml]; rfl) (Steps.refl _) (argsL := [(.ref d), (.int p1)]) (rest := []) (lenOf pd_1 rfl) rfl (by show 2 * 0 + _ ≤ _; exact Nat.le_of_eq rfl) (hb hby at_29) (fun _ _ => ⟨rfl, e107, Nat.le_of_ble_eq_true rfl, Nat.le_of_ble_eq_true rfl⟩)
  dsimp only [Pt.U, Pt.locs, Pt.cells, Pt.slots] at X112 l112 y112 z112 st112 hQ112
  subst l112 y112 z112
  obtain ⟨h112, e112⟩ : ∃ z, T112.heap = z := ⟨_, rfl⟩
  rw [e112] at hQ112
  obtain ⟨rfl, N112q, eq112⟩ := hQ112
  rw [eq112] at e112
  have N112 := Fr.app N107 N112q
  obtain ⟨cq117, kq117, q117a, q117b, q117c⟩ := isOf hZ e112 p107_E_a1
  obtain ⟨_, _, ⟨T117, L117, k117, n117⟩, -, X117, ⟨Lc117, hQ117, l117, y117, z117⟩, st117⟩ := X112.virtualBack hx (y := (⟨"com/example/macroweave/macroweave/BracketPairs", "closed", "(II)V"⟩ : MethodName)) (z := (⟨"com/example/macroweave/macroweave/BracketPairs", "closed", "(II)V"⟩ : MethodName)) hown (mvT hZ (wi hw 43 rfl)) (mvT hZ (wi hw 44 rfl)) (notFace_of_selects (args := #[]) (mvT hZ (wi hw 46 rfl))) (mvT hZ (wi hw 46 rfl)) (mvT hZ (wi hw 45 rfl)) (by decide) (backOf (W := 0) (rm_closed0 l Z a0 hw [] b103 p2 b2_107 k2_107 (-1 : Int32) (0 : Int32) h107 n0 (by omega) p107_E_a1 p107_F_closes_a1 p107_V_b2 ne_b103_b2_107_114 ge116_b2_107) hZ (wi hw 47 rfl) (wi hw 5 rfl) (by decide) (by decide)) q117a q117c (g := (mkF mM 109 (Lc_law_lt_0_1_7 p0 p1 p2 p3 p4 d b103) [(.int p2), (.int (0 : Int32)), (.ref b103)])) rfl (by rw [hml]; rfl) (Steps.refl _) (argsL := [(.int (0 : Int32)), (.int p2)]) (rest := []) (lenOf pd_5 rfl) rfl (by show 2 * 0 + _ ≤ _; exact Nat.le_of_eq rfl) (hb hby at_109) (fun _ _ => ⟨rfl, e112, Nat.le_of_ble_eq_true rfl, Nat.le_of_ble_eq_true rfl⟩)
  dsimp only [Pt.U, Pt.locs, Pt.cells, Pt.slots] at X117 l117 y117 z117 st117 hQ117
  subst l117 y117 z117
  obtain ⟨h117, e117⟩ : ∃ z, T117.heap = z := ⟨_, rfl⟩
  rw [e117] at hQ117
  obtain ⟨rfl, N117q, Kp117, p117_V_b2⟩ := hQ117
  have Sz4 : h107.size ≤ h117.size := Kp117.1
  have N117 := Fr.app N112 N117q
  have c119_E_b103 : Exa Z h117 b103 "com/example/macroweave/macroweave/BracketPairs" := p107_E_a1.keep Kp117
  have c120_F_closes_b103 : Fld Z h117 b103 "com/example/macroweave/macroweave/BracketPairs" "closes" "[I" (.ref b2_107) := p107_F_closes_a1.keep Kp117 (ninS ne_b103_b2_107_114 nin0)
  obtain ⟨cq118, kq118, q118a, q118b, q118c⟩ := isOf hZ e117 c119_E_b103
  obtain ⟨_, _, ⟨T118, L118, k118, n118⟩, -, X118, ⟨Lc118, hQ118, l118, y118, z118⟩, st118⟩ := X117.virtualBack hx (y := (⟨"com/example/macroweave/macroweave/BracketPairs", "closed", "(II)V"⟩ : MethodName)) (z := (⟨"com/example/macroweave/macroweave/BracketPairs", "closed", "(II)V"⟩ : MethodName)) hown (mvT hZ (wi hw 43 rfl)) (mvT hZ (wi hw 44 rfl)) (notFace_of_selects (args := #[]) (mvT hZ (wi hw 46 rfl))) (mvT hZ (wi hw 46 rfl)) (mvT hZ (wi hw 45 rfl)) (by decide) (backOf (W := 0) (rm_closed0 l Z a0 hw [] b103 p3 b2_107 k2_107 p2 (0 : Int32) h117 n0 (by omega) c119_E_b103 c120_F_closes_b103 p117_V_b2 ne_b103_b2_107_114 ge116_b2_107) hZ (wi hw 47 rfl) (wi hw 5 rfl) (by decide) (by decide)) q118a q118c (g := (mkF mM 122 (Lc_law_lt_0_1_7 p0 p1 p2 p3 p4 d b103) [(.int p3), (.int (0 : Int32)), (.ref b103)])) rfl (by rw [hml]; rfl) (Steps.refl _) (argsL := [(.int (0 : Int32)), (.int p3)]) (rest := []) (lenOf pd_5 rfl) rfl (by show 2 * 0 + _ ≤ _; exact Nat.le_of_eq rfl) (hb hby at_122) (fun _ _ => ⟨rfl, e117, Nat.le_of_ble_eq_true rfl, Nat.le_of_ble_eq_true rfl⟩)
  dsimp only [Pt.U, Pt.locs, Pt.cells, Pt.slots] at X118 l118 y118 z118 st118 hQ118
  subst l118 y118 z118
  obtain ⟨h118, e118⟩ : ∃ z, T118.heap = z := ⟨_, rfl⟩
  rw [e118] at hQ118
  obtain ⟨rfl, N118q, Kp118, p118_V_b2⟩ := hQ118
  have Sz5 : h117.size ≤ h118.size := Kp118.1
  have N118 := Fr.app N117 N118q
  have c122_F_brackets_b103 : Fld Z h117 b103 "com/example/macroweave/macroweave/BracketPairs" "brackets" "Lcom/example/macroweave/macroweave/Brackets;" (.ref d) := p107_F_brackets_a1.keep Kp117 (ninS ne_b103_b2_107_114 nin0)
  have c123_F_brackets_b103 : Fld Z h118 b103 "com/example/macroweave/macroweave/BracketPairs" "brackets" "Lcom/example/macroweave/macroweave/Brackets;" (.ref d) := c122_F_brackets_b103.keep Kp118 (ninS ne_b103_b2_107_114 nin0)
  have c124_F_contentStarts_b103 : Fld Z h117 b103 "com/example/macroweave/macroweave/BracketPairs" "contentStarts" "[I" (.ref b1_107) := p107_F_contentStarts_a1.keep Kp117 (ninS ne_b103_b2_107_114 nin0)
  have c125_F_contentStarts_b103 : Fld Z h118 b103 "com/example/macroweave/macroweave/BracketPairs" "contentStarts" "[I" (.ref b1_107) := c124_F_contentStarts_b103.keep Kp118 (ninS ne_b103_b2_107_114 nin0)
  have c126_F_closes_b103 : Fld Z h118 b103 "com/example/macroweave/macroweave/BracketPairs" "closes" "[I" (.ref b2_107) := c120_F_closes_b103.keep Kp118 (ninS ne_b103_b2_107_114 nin0)
  have c127_F_size_b103 : Fld Z h117 b103 "com/example/macroweave/macroweave/BracketPairs" "size" "I" (.int (1 : Int32)) := p107_F_size_a1.keep Kp117 (ninS ne_b103_b2_107_114 nin0)
  have c128_F_size_b103 : Fld Z h118 b103 "com/example/macroweave/macroweave/BracketPairs" "size" "I" (.int (1 : Int32)) := c127_F_size_b103.keep Kp118 (ninS ne_b103_b2_107_114 nin0)
  have c129_V_b1_107 : Arv Z h117 b1_107 k1_107 .int (4 : Int32) [(.int p0), (.int (0 : Int32)), (.int (0 : Int32)), (.int (0 : Int32))] (.int (0 : Int32)) := p107_V_b1.keep Kp117 (ninS p107_ne_b1_b2 nin0)
  have c130_V_b1_107 : Arv Z h118 b1_107 k1_107 .int (4 : Int32) [(.int p0), (.int (0 : Int32)), (.int (0 : Int32)), (.int (0 : Int32))] (.int (0 : Int32)) := c129_V_b1_107.keep Kp118 (ninS p107_ne_b1_b2 nin0)
  have c131_E_b103 : Exa Z h118 b103 "com/example/macroweave/macroweave/BracketPairs" := c119_E_b103.keep Kp118
  obtain ⟨cq121, kq121, q121a, q121b, q121c⟩ := isOf hZ e118 c131_E_b103
  obtain ⟨_, _, ⟨T121, L121, k121, n121⟩, -, X121, ⟨Lc121, hQ121, l121, y121, z121⟩, st121⟩ := X118.virtualBack hx (y := (⟨"com/example/macroweave/macroweave/BracketPairs", "close", "(Lcom/example/macroweave/macroweave/Brackets;I)I"⟩ : MethodName)) (z := (⟨"com/example/macroweave/macroweave/BracketPairs", "close", "(Lcom/example/macroweave/macroweave/Brackets;I)I"⟩ : MethodName)) hown (mvT hZ (wi hw 48 rfl)) (mvT hZ (wi hw 49 rfl)) (notFace_of_selects (args := #[]) (mvT hZ (wi hw 51 rfl))) (mvT hZ (wi hw 51 rfl)) (mvT hZ (wi hw 50 rfl)) (by decide) (backOf (W := 0) (rm_close_1x l Z a0 hw [] b103 d b1_107 k1_107 p0 b2_107 k2_107 p3 (0 : Int32) h118 n0 (by omega) c123_F_brackets_b103 c125_F_contentStarts_b103 c126_F_closes_b103 c128_F_size_b103 c130_V_b1_107 p118_V_b2) hZ (wi hw 52 rfl) (wi hw 5 rfl) (by decide) (by decide)) q121a q121c (g := (mkF mM 187 (Lc_law_lt_0_1_9 p0 p1 p2 p3 p4 d b103) [(.int p0), (.ref d), (.ref b103)])) rfl (by rw [hml]; rfl) (Steps.refl _) (argsL := [(.ref d), (.int p0)]) (rest := []) (lenOf pd_1 rfl) rfl (by show 2 * 0 + _ ≤ _; exact Nat.le_of_eq rfl) (hb hby at_187) (fun _ _ => ⟨rfl, e118, Nat.le_of_ble_eq_true rfl, Nat.le_of_ble_eq_true rfl⟩)
  dsimp only [Pt.U, Pt.locs, Pt.cells, Pt.slots] at X121 l121 y121 z121 st121 hQ121
  subst l121 y121 z121
  obtain ⟨h121, e121⟩ : ∃ z, T121.heap = z := ⟨_, rfl⟩
  rw [e121] at hQ121
  obtain ⟨rfl, N121q, eq121⟩ := hQ121
  rw [eq121] at e121
  have N121 := Fr.app N118 N121q
  obtain ⟨cq132, kq132, q132a, q132b, q132c⟩ := isOf hZ e121 c131_E_b103
  obtain ⟨_, _, ⟨T132, L132, k132, n132⟩, -, X132, ⟨Lc132, hQ132, l132, y132, z132⟩, st132⟩ := X121.virtualBack hx (y := (⟨"com/example/macroweave/macroweave/BracketPairs", "close", "(Lcom/example/macroweave/macroweave/Brackets;I)I"⟩ : MethodName)) (z := (⟨"com/example/macroweave/macroweave/BracketPairs", "close", "(Lcom/example/macroweave/macroweave/Brackets;I)I"⟩ : MethodName)) hown (mvT hZ (wi hw 48 rfl)) (mvT hZ (wi hw 49 rfl)) (notFace_of_selects (args := #[]) (mvT hZ (wi hw 51 rfl))) (mvT hZ (wi hw 51 rfl)) (mvT hZ (wi hw 50 rfl)) (by decide) (backOf (W := 0) (rm_close_1y l Z a0 hw [] b103 d b1_107 k1_107 p0 p1 b2_107 k2_107 p3 (0 : Int32) h118 n0 (by omega) c123_F_brackets_b103 c125_F_contentStarts_b103 c126_F_closes_b103 c128_F_size_b103 c130_V_b1_107 p118_V_b2 hc37_112 hc48_103_104_132) hZ (wi hw 52 rfl) (wi hw 5 rfl) (by decide) (by decide)) q132a q132c (g := (mkF mM 200 (Lc_law_lt_0_1_9 p0 p1 p2 p3 p4 d b103) [(.int p1), (.ref d), (.ref b103)])) rfl (by rw [hml]; rfl) (Steps.refl _) (argsL := [(.ref d), (.int p1)]) (rest := []) (lenOf pd_1 rfl) rfl (by show 2 * 0 + _ ≤ _; exact Nat.le_of_eq rfl) (hb hby at_200) (fun _ _ => ⟨rfl, e121, Nat.le_of_ble_eq_true rfl, Nat.le_of_ble_eq_true rfl⟩)
  dsimp only [Pt.U, Pt.locs, Pt.cells, Pt.slots] at X132 l132 y132 z132 st132 hQ132
  subst l132 y132 z132
  obtain ⟨h132, e132⟩ : ∃ z, T132.heap = z := ⟨_, rfl⟩
  rw [e132] at hQ132
  obtain ⟨rfl, N132q, eq132⟩ := hQ132
  rw [eq132] at e132
  have N132 := Fr.app N121 N132q
  obtain ⟨fs, hr, hrun, hended, hW, hsame⟩ := X132.leave (v := some (.int (1 : Int32))) (fun h => by rw [Bd.returns] at h; cases h)
  refine ⟨_, _, pre0 _ ?_, hrun, hended, _, _, rfl, ?_, ⟨_, rfl⟩, hW, hsame.mono (by decide) (by decide)⟩
  · show SS pP eE belowS s₁ (mkF mM 0 (Lc_law_lt_0_1_0 p0 p1 p2 p3 p4) []) _
    refine st102 _ ?_
    show SS pP eE belowS T102 (mkF mM 3 (Lc_law_lt_0_1_0 p0 p1 p2 p3 p4) [(.ref d)]) _
    refine XS.astore X102.here hx rfl (hb hby at_3) rfl rfl (l' := (Lc_law_lt_0_1_1 p0 p1 p2 p3 p4 d)) rfl ?_
    show SS pP eE belowS T102 (mkF mM 5 (Lc_law_lt_0_1_1 p0 p1 p2 p3 p4 d) []) _
    refine st103 _ ?_
    show SS pP eE belowS T103 (mkF mM 8 (Lc_law_lt_0_1_1 p0 p1 p2 p3 p4 d) [(.ref b103)]) _
    refine XS.dup X103.here hx rfl (hb hby at_8) rfl rfl ?_
    show SS pP eE belowS T103 (mkF mM 9 (Lc_law_lt_0_1_1 p0 p1 p2 p3 p4 d) [(.ref b103), (.ref b103)]) _
    refine st104.trans ?_
    show SS pP eE belowS T104 (mkF mM 12 (Lc_law_lt_0_1_1 p0 p1 p2 p3 p4 d) [(.ref b103)]) _
    refine XS.astore X104.here hx rfl (hb hby at_12) rfl rfl (l' := (Lc_law_lt_0_1_2 p0 p1 p2 p3 p4 d b103)) rfl ?_
    show SS pP eE belowS T104 (mkF mM 14 (Lc_law_lt_0_1_2 p0 p1 p2 p3 p4 d b103) []) _
    refine XS.aload X104.here hx rfl (hb hby at_14) rfl rfl ?_
    show SS pP eE belowS T104 (mkF mM 16 (Lc_law_lt_0_1_2 p0 p1 p2 p3 p4 d b103) [(.ref b103)]) _
    refine XS.aload X104.here hx rfl (hb hby at_16) rfl rfl ?_
    show SS pP eE belowS T104 (mkF mM 18 (Lc_law_lt_0_1_2 p0 p1 p2 p3 p4 d b103) [(.ref d), (.ref b103)]) _
    refine XS.iloadN X104.here hx rfl (hb hby at_18) rfl ?_
    show SS pP eE belowS T104 (mkF mM 19 (Lc_law_lt_0_1_2 p0 p1 p2 p3 p4 d b103) [(.int p0), (.ref d), (.ref b103)]) _
    refine st107.trans ?_
    show SS pP eE belowS T107 (mkF mM 22 (Lc_law_lt_0_1_2 p0 p1 p2 p3 p4 d b103) [(.int (0 : Int32))]) _
    refine XS.istore X107.here hx rfl (hb hby at_22) rfl (l' := (Lc_law_lt_0_1_3 p0 p1 p2 p3 p4 d b103)) rfl ?_
    show SS pP eE belowS T107 (mkF mM 24 (Lc_law_lt_0_1_3 p0 p1 p2 p3 p4 d b103) []) _
    refine XS.aload X107.here hx rfl (hb hby at_24) rfl rfl ?_
    show SS pP eE belowS T107 (mkF mM 26 (Lc_law_lt_0_1_3 p0 p1 p2 p3 p4 d b103) [(.ref b103)]) _
    refine XS.aload X107.here hx rfl (hb hby at_26) rfl rfl ?_
    show SS pP eE belowS T107 (mkF mM 28 (Lc_law_lt_0_1_3 p0 p1 p2 p3 p4 d b103) [(.ref d), (.ref b103)]) _
    refine XS.iloadN X107.here hx rfl (hb hby at_28) rfl ?_
    show SS pP eE belowS T107 (mkF mM 29 (Lc_law_lt_0_1_3 p0 p1 p2 p3 p4 d b103) [(.int p1), (.ref d), (.ref b103)]) _
    refine st112.trans ?_
    show SS pP eE belowS T112 (mkF mM 32 (Lc_law_lt_0_1_3 p0 p1 p2 p3 p4 d b103) [(.int (-1 : Int32))]) _
    refine XS.istore X112.here hx rfl (hb hby at_32) rfl (l' := (Lc_law_lt_0_1_4 p0 p1 p2 p3 p4 d b103)) rfl ?_
    show SS pP eE belowS T112 (mkF mM 34 (Lc_law_lt_0_1_4 p0 p1 p2 p3 p4 d b103) []) _
    refine XS.iload X112.here hx rfl (hb hby at_34) rfl ?_
    show SS pP eE belowS T112 (mkF mM 36 (Lc_law_lt_0_1_4 p0 p1 p2 p3 p4 d b103) [(.int (0 : Int32))]) _
    refine XS.ifYes X112.here hx rfl (pc0 := 36) (pc' := 41) rfl (hb hby at_36) rfl ((if0 _ _).trans (teq (by decide : (0 : Int32) = (0 : Int32))).1) (by decide) (by decide) ?_
    show SS pP eE belowS T112 (mkF mM 41 (Lc_law_lt_0_1_4 p0 p1 p2 p3 p4 d b103) []) _
    refine XS.iload X112.here hx rfl (hb hby at_41) rfl ?_
    show SS pP eE belowS T112 (mkF mM 43 (Lc_law_lt_0_1_4 p0 p1 p2 p3 p4 d b103) [(.int (-1 : Int32))]) _
    refine XS.iloadN X112.here hx rfl (hb hby at_43) rfl ?_
    show SS pP eE belowS T112 (mkF mM 44 (Lc_law_lt_0_1_4 p0 p1 p2 p3 p4 d b103) [(.int p1), (.int (-1 : Int32))]) _
    refine XS.iloadN X112.here hx rfl (hb hby at_44) rfl ?_
    show SS pP eE belowS T112 (mkF mM 45 (Lc_law_lt_0_1_4 p0 p1 p2 p3 p4 d b103) [(.int p0), (.int p1), (.int (-1 : Int32))]) _
    refine XS.icmpYes X112.here hx rfl (pc0 := 45) (pc' := 52) rfl (hb hby at_45) rfl (flt hc37_112).2.2.2 (by decide) (by decide) ?_
    show SS pP eE belowS T112 (mkF mM 52 (Lc_law_lt_0_1_4 p0 p1 p2 p3 p4 d b103) [(.int (-1 : Int32))]) _
    refine XS.iconst X112.here hx rfl (hb hby at_52) ?_
    show SS pP eE belowS T112 (mkF mM 53 (Lc_law_lt_0_1_4 p0 p1 p2 p3 p4 d b103) [(.int (-1 : Int32)), (.int (-1 : Int32))]) _
    refine XS.icmpYes X112.here hx rfl (pc0 := 53) (pc' := 58) rfl (hb hby at_53) rfl (teq (by decide : (-1 : Int32) = (-1 : Int32))).1 (by decide) (by decide) ?_
    show SS pP eE belowS T112 (mkF mM 58 (Lc_law_lt_0_1_4 p0 p1 p2 p3 p4 d b103) []) _
    refine XS.iload X112.here hx rfl (hb hby at_58) rfl ?_
    show SS pP eE belowS T112 (mkF mM 60 (Lc_law_lt_0_1_4 p0 p1 p2 p3 p4 d b103) [(.int p4)]) _
    refine XS.iconst X112.here hx rfl (hb hby at_60) ?_
    show SS pP eE belowS T112 (mkF mM 61 (Lc_law_lt_0_1_4 p0 p1 p2 p3 p4 d b103) [(.int (3 : Int32)), (.int p4)]) _
    refine XS.iand X112.here hx rfl (hb hby at_61) rfl ?_
    show SS pP eE belowS T112 (mkF mM 62 (Lc_law_lt_0_1_4 p0 p1 p2 p3 p4 d b103) [(.int (p4 &&& (3 : Int32)))]) _
    refine XS.istore X112.here hx rfl (hb hby at_62) rfl (l' := (Lc_law_lt_0_1_5 p0 p1 p2 p3 p4 d b103)) rfl ?_
    show SS pP eE belowS T112 (mkF mM 64 (Lc_law_lt_0_1_5 p0 p1 p2 p3 p4 d b103) []) _
    refine XS.iload X112.here hx rfl (hb hby at_64) rfl ?_
    show SS pP eE belowS T112 (mkF mM 66 (Lc_law_lt_0_1_5 p0 p1 p2 p3 p4 d b103) [(.int (p4 &&& (3 : Int32)))]) _
    refine XS.ifNo X112.here hx rfl (hb hby at_66) rfl ((if0 _ _).trans (teq hc66).2) ?_
    show SS pP eE belowS T112 (mkF mM 69 (Lc_law_lt_0_1_5 p0 p1 p2 p3 p4 d b103) []) _
    refine XS.iload X112.here hx rfl (hb hby at_69) rfl ?_
    show SS pP eE belowS T112 (mkF mM 71 (Lc_law_lt_0_1_5 p0 p1 p2 p3 p4 d b103) [(.int (0 : Int32))]) _
    refine XS.goto X112.here hx rfl (pc0 := 71) (pc' := 86) rfl (hb hby at_71) (by decide) (by decide) ?_
    show SS pP eE belowS T112 (mkF mM 86 (Lc_law_lt_0_1_5 p0 p1 p2 p3 p4 d b103) [(.int (0 : Int32))]) _
    refine XS.istore X112.here hx rfl (hb hby at_86) rfl (l' := (Lc_law_lt_0_1_6 p0 p1 p2 p3 p4 d b103)) rfl ?_
    show SS pP eE belowS T112 (mkF mM 88 (Lc_law_lt_0_1_6 p0 p1 p2 p3 p4 d b103) []) _
    refine XS.iload X112.here hx rfl (hb hby at_88) rfl ?_
    show SS pP eE belowS T112 (mkF mM 90 (Lc_law_lt_0_1_6 p0 p1 p2 p3 p4 d b103) [(.int p4)]) _
    refine XS.iconst X112.here hx rfl (hb hby at_90) ?_
    show SS pP eE belowS T112 (mkF mM 91 (Lc_law_lt_0_1_6 p0 p1 p2 p3 p4 d b103) [(.int (2 : Int32)), (.int p4)]) _
    refine XS.ishr X112.here hx rfl (hb hby at_91) rfl ?_
    show SS pP eE belowS T112 (mkF mM 92 (Lc_law_lt_0_1_6 p0 p1 p2 p3 p4 d b103) [(.int (p4 >>> ((2 : Int32) &&& 31)))]) _
    refine XS.iconst X112.here hx rfl (hb hby at_92) ?_
    show SS pP eE belowS T112 (mkF mM 93 (Lc_law_lt_0_1_6 p0 p1 p2 p3 p4 d b103) [(.int (1 : Int32)), (.int (p4 >>> ((2 : Int32) &&& 31)))]) _
    refine XS.iand X112.here hx rfl (hb hby at_93) rfl ?_
    show SS pP eE belowS T112 (mkF mM 94 (Lc_law_lt_0_1_6 p0 p1 p2 p3 p4 d b103) [(.int ((p4 >>> ((2 : Int32) &&& 31)) &&& (1 : Int32)))]) _
    refine XS.ifNo X112.here hx rfl (hb hby at_94) rfl ((if0 _ _).trans (feq hc94).1) ?_
    show SS pP eE belowS T112 (mkF mM 97 (Lc_law_lt_0_1_6 p0 p1 p2 p3 p4 d b103) []) _
    refine XS.iconst X112.here hx rfl (hb hby at_97) ?_
    show SS pP eE belowS T112 (mkF mM 98 (Lc_law_lt_0_1_6 p0 p1 p2 p3 p4 d b103) [(.int (1 : Int32))]) _
    refine XS.goto X112.here hx rfl (pc0 := 98) (pc' := 102) rfl (hb hby at_98) (by decide) (by decide) ?_
    show SS pP eE belowS T112 (mkF mM 102 (Lc_law_lt_0_1_6 p0 p1 p2 p3 p4 d b103) [(.int (1 : Int32))]) _
    refine XS.istore X112.here hx rfl (hb hby at_102) rfl (l' := (Lc_law_lt_0_1_7 p0 p1 p2 p3 p4 d b103)) rfl ?_
    show SS pP eE belowS T112 (mkF mM 104 (Lc_law_lt_0_1_7 p0 p1 p2 p3 p4 d b103) []) _
    refine XS.aload X112.here hx rfl (hb hby at_104) rfl rfl ?_
    show SS pP eE belowS T112 (mkF mM 106 (Lc_law_lt_0_1_7 p0 p1 p2 p3 p4 d b103) [(.ref b103)]) _
    refine XS.iload X112.here hx rfl (hb hby at_106) rfl ?_
    show SS pP eE belowS T112 (mkF mM 108 (Lc_law_lt_0_1_7 p0 p1 p2 p3 p4 d b103) [(.int (0 : Int32)), (.ref b103)]) _
    refine XS.iloadN X112.here hx rfl (hb hby at_108) rfl ?_
    show SS pP eE belowS T112 (mkF mM 109 (Lc_law_lt_0_1_7 p0 p1 p2 p3 p4 d b103) [(.int p2), (.int (0 : Int32)), (.ref b103)]) _
    refine st117.trans ?_
    show SS pP eE belowS T117 (mkF mM 112 (Lc_law_lt_0_1_7 p0 p1 p2 p3 p4 d b103) []) _
    refine XS.iload X117.here hx rfl (hb hby at_112) rfl ?_
    show SS pP eE belowS T117 (mkF mM 114 (Lc_law_lt_0_1_7 p0 p1 p2 p3 p4 d b103) [(.int (1 : Int32))]) _
    refine XS.ifNo X117.here hx rfl (hb hby at_114) rfl ((if0 _ _).trans (feq (by decide : ¬ ((1 : Int32) = (0 : Int32)))).1) ?_
    show SS pP eE belowS T117 (mkF mM 117 (Lc_law_lt_0_1_7 p0 p1 p2 p3 p4 d b103) []) _
    refine XS.aload X117.here hx rfl (hb hby at_117) rfl rfl ?_
    show SS pP eE belowS T117 (mkF mM 119 (Lc_law_lt_0_1_7 p0 p1 p2 p3 p4 d b103) [(.ref b103)]) _
    refine XS.iload X117.here hx rfl (hb hby at_119) rfl ?_
    show SS pP eE belowS T117 (mkF mM 121 (Lc_law_lt_0_1_7 p0 p1 p2 p3 p4 d b103) [(.int (0 : Int32)), (.ref b103)]) _
    refine XS.iloadN X117.here hx rfl (hb hby at_121) rfl ?_
    show SS pP eE belowS T117 (mkF mM 122 (Lc_law_lt_0_1_7 p0 p1 p2 p3 p4 d b103) [(.int p3), (.int (0 : Int32)), (.ref b103)]) _
    refine st118.trans ?_
    show SS pP eE belowS T118 (mkF mM 125 (Lc_law_lt_0_1_7 p0 p1 p2 p3 p4 d b103) []) _
    refine XS.iload X118.here hx rfl (hb hby at_125) rfl ?_
    show SS pP eE belowS T118 (mkF mM 127 (Lc_law_lt_0_1_7 p0 p1 p2 p3 p4 d b103) [(.int (1 : Int32))]) _
    refine XS.ifNo X118.here hx rfl (hb hby at_127) rfl ((if0 _ _).trans (feq (by decide : ¬ ((1 : Int32) = (0 : Int32)))).1) ?_
    show SS pP eE belowS T118 (mkF mM 130 (Lc_law_lt_0_1_7 p0 p1 p2 p3 p4 d b103) []) _
    refine XS.iloadN X118.here hx rfl (hb hby at_130) rfl ?_
    show SS pP eE belowS T118 (mkF mM 131 (Lc_law_lt_0_1_7 p0 p1 p2 p3 p4 d b103) [(.int p3)]) _
    refine XS.goto X118.here hx rfl (pc0 := 131) (pc' := 144) rfl (hb hby at_131) (by decide) (by decide) ?_
    show SS pP eE belowS T118 (mkF mM 144 (Lc_law_lt_0_1_7 p0 p1 p2 p3 p4 d b103) [(.int p3)]) _
    refine XS.istore X118.here hx rfl (hb hby at_144) rfl (l' := (Lc_law_lt_0_1_8 p0 p1 p2 p3 p4 d b103)) rfl ?_
    show SS pP eE belowS T118 (mkF mM 146 (Lc_law_lt_0_1_8 p0 p1 p2 p3 p4 d b103) []) _
    refine XS.iloadN X118.here hx rfl (hb hby at_146) rfl ?_
    show SS pP eE belowS T118 (mkF mM 147 (Lc_law_lt_0_1_8 p0 p1 p2 p3 p4 d b103) [(.int p1)]) _
    refine XS.iloadN X118.here hx rfl (hb hby at_147) rfl ?_
    show SS pP eE belowS T118 (mkF mM 148 (Lc_law_lt_0_1_8 p0 p1 p2 p3 p4 d b103) [(.int p0), (.int p1)]) _
    refine XS.icmpYes X118.here hx rfl (pc0 := 148) (pc' := 167) rfl (hb hby at_148) rfl (flt hc37_112).2.2.2 (by decide) (by decide) ?_
    show SS pP eE belowS T118 (mkF mM 167 (Lc_law_lt_0_1_8 p0 p1 p2 p3 p4 d b103) []) _
    refine XS.iloadN X118.here hx rfl (hb hby at_167) rfl ?_
    show SS pP eE belowS T118 (mkF mM 168 (Lc_law_lt_0_1_8 p0 p1 p2 p3 p4 d b103) [(.int p1)]) _
    refine XS.iloadN X118.here hx rfl (hb hby at_168) rfl ?_
    show SS pP eE belowS T118 (mkF mM 169 (Lc_law_lt_0_1_8 p0 p1 p2 p3 p4 d b103) [(.int p0), (.int p1)]) _
    refine XS.icmpYes X118.here hx rfl (pc0 := 169) (pc' := 179) rfl (hb hby at_169) rfl (feq hc169).2 (by decide) (by decide) ?_
    show SS pP eE belowS T118 (mkF mM 179 (Lc_law_lt_0_1_8 p0 p1 p2 p3 p4 d b103) []) _
    refine XS.iconst X118.here hx rfl (hb hby at_179) ?_
    show SS pP eE belowS T118 (mkF mM 180 (Lc_law_lt_0_1_8 p0 p1 p2 p3 p4 d b103) [(.int (-1 : Int32))]) _
    refine XS.istore X118.here hx rfl (hb hby at_180) rfl (l' := (Lc_law_lt_0_1_9 p0 p1 p2 p3 p4 d b103)) rfl ?_
    show SS pP eE belowS T118 (mkF mM 182 (Lc_law_lt_0_1_9 p0 p1 p2 p3 p4 d b103) []) _
    refine XS.aload X118.here hx rfl (hb hby at_182) rfl rfl ?_
    show SS pP eE belowS T118 (mkF mM 184 (Lc_law_lt_0_1_9 p0 p1 p2 p3 p4 d b103) [(.ref b103)]) _
    refine XS.aload X118.here hx rfl (hb hby at_184) rfl rfl ?_
    show SS pP eE belowS T118 (mkF mM 186 (Lc_law_lt_0_1_9 p0 p1 p2 p3 p4 d b103) [(.ref d), (.ref b103)]) _
    refine XS.iloadN X118.here hx rfl (hb hby at_186) rfl ?_
    show SS pP eE belowS T118 (mkF mM 187 (Lc_law_lt_0_1_9 p0 p1 p2 p3 p4 d b103) [(.int p0), (.ref d), (.ref b103)]) _
    refine st121.trans ?_
    show SS pP eE belowS T121 (mkF mM 190 (Lc_law_lt_0_1_9 p0 p1 p2 p3 p4 d b103) [(.int p3)]) _
    refine XS.iload X121.here hx rfl (hb hby at_190) rfl ?_
    show SS pP eE belowS T121 (mkF mM 192 (Lc_law_lt_0_1_9 p0 p1 p2 p3 p4 d b103) [(.int p3), (.int p3)]) _
    refine XS.icmpNo X121.here hx rfl (hb hby at_192) rfl (teq (rfl : p3 = p3)).2 ?_
    show SS pP eE belowS T121 (mkF mM 195 (Lc_law_lt_0_1_9 p0 p1 p2 p3 p4 d b103) []) _
    refine XS.aload X121.here hx rfl (hb hby at_195) rfl rfl ?_
    show SS pP eE belowS T121 (mkF mM 197 (Lc_law_lt_0_1_9 p0 p1 p2 p3 p4 d b103) [(.ref b103)]) _
    refine XS.aload X121.here hx rfl (hb hby at_197) rfl rfl ?_
    show SS pP eE belowS T121 (mkF mM 199 (Lc_law_lt_0_1_9 p0 p1 p2 p3 p4 d b103) [(.ref d), (.ref b103)]) _
    refine XS.iloadN X121.here hx rfl (hb hby at_199) rfl ?_
    show SS pP eE belowS T121 (mkF mM 200 (Lc_law_lt_0_1_9 p0 p1 p2 p3 p4 d b103) [(.int p1), (.ref d), (.ref b103)]) _
    refine st132.trans ?_
    show SS pP eE belowS T132 (mkF mM 203 (Lc_law_lt_0_1_9 p0 p1 p2 p3 p4 d b103) [(.int (-1 : Int32))]) _
    refine XS.iload X132.here hx rfl (hb hby at_203) rfl ?_
    show SS pP eE belowS T132 (mkF mM 205 (Lc_law_lt_0_1_9 p0 p1 p2 p3 p4 d b103) [(.int (-1 : Int32)), (.int (-1 : Int32))]) _
    refine XS.icmpNo X132.here hx rfl (hb hby at_205) rfl (teq (by decide : (-1 : Int32) = (-1 : Int32))).2 ?_
    show SS pP eE belowS T132 (mkF mM 208 (Lc_law_lt_0_1_9 p0 p1 p2 p3 p4 d b103) []) _
    refine XS.iconst X132.here hx rfl (hb hby at_208) ?_
    show SS pP eE belowS T132 (mkF mM 209 (Lc_law_lt_0_1_9 p0 p1 p2 p3 p4 d b103) [(.int (1 : Int32))]) _
    refine XS.goto X132.here hx rfl (pc0 := 209) (pc' := 213) rfl (hb hby at_209) (by decide) (by decide) ?_
    show SS pP eE belowS T132 (mkF mM 213 (Lc_law_lt_0_1_9 p0 p1 p2 p3 p4 d b103) [(.int (1 : Int32))]) _
    exact retN X132 hx (t := .boolean) Bd.returns (by simp) (hb hby at_213) hr
  · exact ⟨rfl, N132⟩

abbrev Lc_law_lt_1_0_0 (p0 : Int32) (p1 : Int32) (p2 : Int32) (p3 : Int32) (p4 : Int32) : Array Slot := #[.val (.int p0), .val (.int p1), .val (.int p2), .val (.int p3), .val (.int p4), .unset, .unset, .unset, .unset, .unset, .unset, .unset, .unset, .unset]
abbrev Lc_law_lt_1_0_1 (p0 : Int32) (p1 : Int32) (p2 : Int32) (p3 : Int32) (p4 : Int32) (d : Addr) : Array Slot := #[.val (.int p0), .val (.int p1), .val (.int p2), .val (.int p3), .val (.int p4), .val (.ref d), .unset, .unset, .unset, .unset, .unset, .unset, .unset, .unset]
abbrev Lc_law_lt_1_0_2 (p0 : Int32) (p1 : Int32) (p2 : Int32) (p3 : Int32) (p4 : Int32) (d : Addr) (b103 : Addr) : Array Slot := #[.val (.int p0), .val (.int p1), .val (.int p2), .val (.int p3), .val (.int p4), .val (.ref d), .val (.ref b103), .unset, .unset, .unset, .unset, .unset, .unset, .unset]
abbrev Lc_law_lt_1_0_3 (p0 : Int32) (p1 : Int32) (p2 : Int32) (p3 : Int32) (p4 : Int32) (d : Addr) (b103 : Addr) : Array Slot := #[.val (.int p0), .val (.int p1), .val (.int p2), .val (.int p3), .val (.int p4), .val (.ref d), .val (.ref b103), .val (.int (0 : Int32)), .unset, .unset, .unset, .unset, .unset, .unset]
abbrev Lc_law_lt_1_0_4 (p0 : Int32) (p1 : Int32) (p2 : Int32) (p3 : Int32) (p4 : Int32) (d : Addr) (b103 : Addr) : Array Slot := #[.val (.int p0), .val (.int p1), .val (.int p2), .val (.int p3), .val (.int p4), .val (.ref d), .val (.ref b103), .val (.int (0 : Int32)), .val (.int (-1 : Int32)), .unset, .unset, .unset, .unset, .unset]
abbrev Lc_law_lt_1_0_5 (p0 : Int32) (p1 : Int32) (p2 : Int32) (p3 : Int32) (p4 : Int32) (d : Addr) (b103 : Addr) : Array Slot := #[.val (.int p0), .val (.int p1), .val (.int p2), .val (.int p3), .val (.int p4), .val (.ref d), .val (.ref b103), .val (.int (0 : Int32)), .val (.int (-1 : Int32)), .val (.int (p4 &&& (3 : Int32))), .unset, .unset, .unset, .unset]
abbrev Lc_law_lt_1_0_6 (p0 : Int32) (p1 : Int32) (p2 : Int32) (p3 : Int32) (p4 : Int32) (d : Addr) (b103 : Addr) : Array Slot := #[.val (.int p0), .val (.int p1), .val (.int p2), .val (.int p3), .val (.int p4), .val (.ref d), .val (.ref b103), .val (.int (0 : Int32)), .val (.int (-1 : Int32)), .val (.int (p4 &&& (3 : Int32))), .val (.int (-1 : Int32)), .unset, .unset, .unset]
abbrev Lc_law_lt_1_0_7 (p0 : Int32) (p1 : Int32) (p2 : Int32) (p3 : Int32) (p4 : Int32) (d : Addr) (b103 : Addr) : Array Slot := #[.val (.int p0), .val (.int p1), .val (.int p2), .val (.int p3), .val (.int p4), .val (.ref d), .val (.ref b103), .val (.int (0 : Int32)), .val (.int (-1 : Int32)), .val (.int (p4 &&& (3 : Int32))), .val (.int (-1 : Int32)), .val (.int (0 : Int32)), .unset, .unset]
abbrev Lc_law_lt_1_0_8 (p0 : Int32) (p1 : Int32) (p2 : Int32) (p3 : Int32) (p4 : Int32) (d : Addr) (b103 : Addr) : Array Slot := #[.val (.int p0), .val (.int p1), .val (.int p2), .val (.int p3), .val (.int p4), .val (.ref d), .val (.ref b103), .val (.int (0 : Int32)), .val (.int (-1 : Int32)), .val (.int (p4 &&& (3 : Int32))), .val (.int (-1 : Int32)), .val (.int (0 : Int32)), .val (.int (-1 : Int32)), .unset]
abbrev Lc_law_lt_1_0_9 (p0 : Int32) (p1 : Int32) (p2 : Int32) (p3 : Int32) (p4 : Int32) (d : Addr) (b103 : Addr) : Array Slot := #[.val (.int p0), .val (.int p1), .val (.int p2), .val (.int p3), .val (.int p4), .val (.ref d), .val (.ref b103), .val (.int (0 : Int32)), .val (.int (-1 : Int32)), .val (.int (p4 &&& (3 : Int32))), .val (.int (-1 : Int32)), .val (.int (0 : Int32)), .val (.int (-1 : Int32)), .val (.int (-1 : Int32))]
theorem ef_law_lt_1_0 (mM : MethodId) (p0 : Int32) (p1 : Int32) (p2 : Int32) (p3 : Int32) (p4 : Int32) (aN : Addr) (kN : ClassId) (d : Addr) : entryFrame mM #[(.int p0), (.int p1), (.int p2), (.int p3), (.int p4)] maxLocals = mkF mM 0 #[.val (.int p0), .val (.int p1), .val (.int p2), .val (.int p3), .val (.int p4), .unset, .unset, .unset, .unset, .unset, .unset, .unset, .unset, .unset] [] := by first | (simp [entryFrame, mkF, argsToLocals, Value.category, maxLocals]; done) | rfl
set_option maxRecDepth 65536 in
set_option maxHeartbeats 40000000 in
theorem rm_law_lt_1_0 (l : Launch) (Z : State) (a0 : Array Value) (hw : ∀ d ∈ tables_1, d.before a0 Z = true) (ws : List Jvm.Cond) (p0 : Int32) (p1 : Int32) (p2 : Int32) (p3 : Int32) (p4 : Int32) (aN : Addr) (kN : ClassId) (d : Addr) (h0 : Heap) (n0 : Nat) (Z0 : n0 ≤ h0.size) (OL : Old Z n0 h0) (S_DEFAULT : Sta Z Z.heap "com/example/macroweave/macroweave/Brackets" "DEFAULT" "Lcom/example/macroweave/macroweave/Brackets;" (.ref d)) (S_NONE : Sta Z Z.heap "com/example/macroweave/macroweave/BracketPairs" "NONE" "[I" (.ref aN)) (V_aN : Arv Z h0 aN kN .int (0 : Int32) [] (.int (0 : Int32))) (hc37_112 : ¬ (p0 < p1)) (hc66 : ¬ ((p4 &&& (3 : Int32)) = (0 : Int32))) (hc77 : (p4 &&& (3 : Int32)) = (1 : Int32)) (hc94 : ((p4 >>> ((2 : Int32) &&& 31)) &&& (1 : Int32)) = (0 : Int32)) (hc169 : ¬ (p1 = p0)) (hc48_103_104_119 : p1 < p0) :
    MetFree l x (head1 (Jvm.Cond.code x code maxLocals ret :: ws) room_1) (fun xa xU => xa = #[(.int p0), (.int p1), (.int p2), (.int p3), (.int p4)] ∧ Z.Warmed39 xU.vm ∧ xU.heap = h0) (fun _ _ _ _ _ => True) (fun _ xU xo xU' => ∃ xv xL, xo = .returned xv ∧ Q_law n0 xv xL ∧ FrameEnd xU xo xU' xL room_1.cells room_1.slots) := by
  refine MetFree.of_bodySF (plainFor_of_name pn_com_example_macroweave_macroweave_BracketPairsClosedPinLaw) hisR ?_
  intro pP eE sS mM argS belowS methS cC s₁ Bd hml0 hP hK
  obtain ⟨rfl, hZ, hh⟩ := hP
  have hx := Bd.exec
  have hby := Bd.bytes
  have hml : cC.maxLocals = 14 := hml0
  have hown : sS.vm.findClass "com/example/macroweave/macroweave/BracketPairsClosedPinLaw" = some mM.cls := findClass_of_methodNamed Bd.named
  have hnm := (name_of_methodNamed Bd.named Bd.method).1
  have X0 : Stand pP l eE room_1 sS mM #[(.int p0), (.int p1), (.int p2), (.int p3), (.int p4)] belowS methS cC s₁ [] 0 0 := Stand.of_body Bd
  have e0 : s₁.heap = h0 := by rw [← hh, Bd.state]; rfl
  have N0 := Fr.nil n0
  have pre0 : ∀ t', Steps pP.tables eE belowS (s₁.setTop (mkF mM 0 #[.val (.int p0), .val (.int p1), .val (.int p2), .val (.int p3), .val (.int p4), .unset, .unset, .unset, .unset, .unset, .unset, .unset, .unset, .unset] [])) t' → Steps pP.tables eE belowS (s₁.setTop (entryFrame mM #[(.int p0), (.int p1), (.int p2), (.int p3), (.int p4)] maxLocals)) t' := fun t' kk' => castTop (ef_law_lt_1_0 mM p0 p1 p2 p3 p4 aN kN d) kk'
  have c101_S_DEFAULT : Sta Z h0 "com/example/macroweave/macroweave/Brackets" "DEFAULT" "Lcom/example/macroweave/macroweave/Brackets;" (.ref d) := Sta.ext OL.2 S_DEFAULT
  obtain ⟨T102, X102, e102, st102⟩ := getS2 X0 hx hZ hown (host := "") (Or.inl (wi hw 0 rfl)) Via.refl e0 c101_S_DEFAULT (g := (mkF mM 0 (Lc_law_lt_1_0_0 p0 p1 p2 p3 p4) [])) rfl (hb hby at_0)
  obtain ⟨T103, h103, X103, e103, E103, A103, D103, B103, st103⟩ := newO X102 hx hZ hown (wi hw 3 rfl) (wi hw 4 rfl) (wi hw 5 rfl) e102 (g := (mkF mM 5 (Lc_law_lt_1_0_1 p0 p1 p2 p3 p4 d) [])) rfl (hb hby at_5) (by decide) (by decide)
  obtain ⟨b103, g103⟩ : ∃ z : Nat, z = h0.size := ⟨_, rfl⟩
  rw [← g103] at A103 D103 B103 st103
  have Sz1 : h0.size ≤ h103.size := E103.1
  have F103_contentStarts : Fld Z h103 b103 "com/example/macroweave/macroweave/BracketPairs" "contentStarts" "[I" .null := D103 (Or.inl (wi hw 15 rfl)) (ty := (.array .int)) (by decide)
  have F103_closes : Fld Z h103 b103 "com/example/macroweave/macroweave/BracketPairs" "closes" "[I" .null := D103 (Or.inl (wi hw 17 rfl)) (ty := (.array .int)) (by decide)
  have F103_brackets : Fld Z h103 b103 "com/example/macroweave/macroweave/BracketPairs" "brackets" "Lcom/example/macroweave/macroweave/Brackets;" .null := D103 (Or.inl (wi hw 24 rfl)) (ty := (.object "com/example/macroweave/macroweave/Brackets")) (by decide)
  have F103_size : Fld Z h103 b103 "com/example/macroweave/macroweave/BracketPairs" "size" "I" (.int (0 : Int32)) := D103 (Or.inl (wi hw 26 rfl)) (ty := .int) (by decide)
  have c105_OL : Old Z n0 h103 := OL.ext E103
  have ge106_b103 : @LE.le Nat _ n0 b103 := by omega
  obtain ⟨_, _, ⟨T104, L104, k104, n104⟩, -, X104, ⟨Lc104, hQ104, l104, y104, z104⟩, st104⟩ := X103.specialBack hx (y := (⟨"com/example/macroweave/macroweave/BracketPairs", "<init>", "()V"⟩ : MethodName)) rfl hown (mvT hZ (wi hw 6 rfl)) (mvT hZ (wi hw 7 rfl)) (mvT hZ (wi hw 8 rfl)) (by decide) (backOf (W := 1) (rm_init l Z a0 hw [] b103 aN .null .null .null (.int (0 : Int32)) h103 n0 (by omega) A103 F103_contentStarts F103_closes F103_brackets F103_size ge106_b103 c105_OL S_NONE) hZ (wi hw 8 rfl) (wi hw 5 rfl) (by decide) (by decide)) (g := (mkF mM 9 (Lc_law_lt_1_0_1 p0 p1 p2 p3 p4 d) [(.ref b103), (.ref b103)])) rfl (by rw [hml]; rfl) (Steps.refl _) (a := b103) (argsL := []) (rest := [(.ref b103)]) (lenOf pd_0 rfl) rfl (by show 2 * 0 + _ ≤ _; exact Nat.le_of_eq rfl) (hb hby at_9) (fun _ _ => ⟨rfl, e103, Nat.le_of_ble_eq_true rfl, Nat.le_of_ble_eq_true rfl⟩)
  dsimp only [Pt.U, Pt.locs, Pt.cells, Pt.slots] at X104 l104 y104 z104 st104 hQ104
  subst l104 y104 z104
  obtain ⟨h104, e104⟩ : ∃ z, T104.heap = z := ⟨_, rfl⟩
  rw [e104] at hQ104
  obtain ⟨rfl, N104q, Kp104, p104_E_a1, p104_F_contentStarts_a1, p104_F_closes_a1, p104_F_brackets_a1, p104_F_size_a1⟩ := hQ104
  have Sz2 : h103.size ≤ h104.size := Kp104.1
  have N104 := Fr.app N0 N104q
  have c108_V_aN : Arv Z h103 aN kN .int (0 : Int32) [] (.int (0 : Int32)) := V_aN.ext E103
  have lt_aN : @LT.lt Nat _ aN h0.size := V_aN.lt
  have lt_b103 : @LT.lt Nat _ b103 h104.size := p104_E_a1.lt
  have ne_aN_b103_109 : aN ≠ b103 := (by omega : @Ne Nat aN b103)
  have c110_V_aN : Arv Z h104 aN kN .int (0 : Int32) [] (.int (0 : Int32)) := c108_V_aN.keep Kp104 (ninS ne_aN_b103_109 nin0)
  have ne_b103_aN_111 : b103 ≠ aN := (by omega : @Ne Nat b103 aN)
  obtain ⟨cq107, kq107, q107a, q107b, q107c⟩ := isOf hZ e104 p104_E_a1
  obtain ⟨_, _, ⟨T107, L107, k107, n107⟩, -, X107, ⟨Lc107, hQ107, l107, y107, z107⟩, st107⟩ := X104.virtualBack hx (y := (⟨"com/example/macroweave/macroweave/BracketPairs", "opened", "(Lcom/example/macroweave/macroweave/Brackets;I)I"⟩ : MethodName)) (z := (⟨"com/example/macroweave/macroweave/BracketPairs", "opened", "(Lcom/example/macroweave/macroweave/Brackets;I)I"⟩ : MethodName)) hown (mvT hZ (wi hw 18 rfl)) (mvT hZ (wi hw 19 rfl)) (notFace_of_selects (args := #[]) (mvT hZ (wi hw 21 rfl))) (mvT hZ (wi hw 21 rfl)) (mvT hZ (wi hw 20 rfl)) (by decide) (backOf (W := 0) (rm_open1 l Z a0 hw [] b103 d p0 aN kN h104 n0 (by omega) p104_E_a1 p104_F_brackets_a1 p104_F_contentStarts_a1 p104_F_closes_a1 p104_F_size_a1 c110_V_aN ne_b103_aN_111 ge106_b103) hZ (wi hw 22 rfl) (wi hw 5 rfl) (by decide) (by decide)) q107a q107c (g := (mkF mM 19 (Lc_law_lt_1_0_2 p0 p1 p2 p3 p4 d b103) [(.int p0), (.ref d), (.ref b103)])) rfl (by rw [hml]; rfl) (Steps.refl _) (argsL := [(.ref d), (.int p0)]) (rest := []) (lenOf pd_1 rfl) rfl (by show 2 * 0 + _ ≤ _; exact Nat.le_of_eq rfl) (hb hby at_19) (fun _ _ => ⟨rfl, e104, Nat.le_of_ble_eq_true rfl, Nat.le_of_ble_eq_true rfl⟩)
  dsimp only [Pt.U, Pt.locs, Pt.cells, Pt.slots] at X107 l107 y107 z107 st107 hQ107
  subst l107 y107 z107
  obtain ⟨h107, e107⟩ : ∃ z, T107.heap = z := ⟨_, rfl⟩
  rw [e107] at hQ107
  obtain ⟨b1_107, b2_107, k1_107, k2_107, rfl, N107q, Kp107, p107_E_a1, p107_F_brackets_a1, p107_F_contentStarts_a1, p107_F_closes_a1, p107_F_size_a1, p107_V_b1, p107_V_b2, p107_gh_b1, p107_gh_b2, p107_ne_b1_b2⟩ := hQ107
  have Sz3 : h104.size ≤ h107.size := Kp107.1
  have N107 := Fr.app N104 N107q
  have lt_b1_107 : @LT.lt Nat _ b1_107 h107.size := p107_V_b1.lt
  have ne_b103_b1_107_113 : b103 ≠ b1_107 := (by omega : @Ne Nat b103 b1_107)
  have lt_b2_107 : @LT.lt Nat _ b2_107 h107.size := p107_V_b2.lt
  have ne_b103_b2_107_114 : b103 ≠ b2_107 := (by omega : @Ne Nat b103 b2_107)
  have ge115_b1_107 : @LE.le Nat _ n0 b1_107 := by omega
  have ge116_b2_107 : @LE.le Nat _ n0 b2_107 := by omega
  obtain ⟨cq112, kq112, q112a, q112b, q112c⟩ := isOf hZ e107 p107_E_a1
  obtain ⟨_, _, ⟨T112, L112, k112, n112⟩, -, X112, ⟨Lc112, hQ112, l112, y112, z112⟩, st112⟩ := X107.virtualBack hx (y := (⟨"com/example/macroweave/macroweave/BracketPairs", "opened", "(Lcom/example/macroweave/macroweave/Brackets;I)I"⟩ : MethodName)) (z := (⟨"com/example/macroweave/macroweave/BracketPairs", "opened", "(Lcom/example/macroweave/macroweave/Brackets;I)I"⟩ : MethodName)) hown (mvT hZ (wi hw 18 rfl)) (mvT hZ (wi hw 19 rfl)) (notFace_of_selects (args := #[]) (mvT hZ (wi hw 21 rfl))) (mvT hZ (wi hw 21 rfl)) (mvT hZ (wi hw 20 rfl)) (by decide) (backOf (W := 0) (rm_open2n l Z a0 hw [] b103 d p1 p0 b1_107 b2_107 k1_107 k2_107 h107 n0 (by omega) p107_E_a1 p107_F_brackets_a1 p107_F_contentStarts_a1 p107_F_closes_a1 p107_F_size_a1 p107_V_b1 p107_V_b2 ne_b103_b1_107_113 ne_b103_b2_107_114 p107_ne_b1_b2 ge106_b103 ge115_b1_107 ge116_b2_107 hc37_112) hZ (wi hw 22 rfl) (wi hw 5 rfl) (by decide) (by decide)) q112a q112c (g := (mkF mM 29 (Lc_law_lt_1_0_3 p0 p1 p2 p3 p4 d b103) [(.int p1), (.ref d), (.ref b103)])) rfl (by rw [hml]; rfl) (Steps.refl _) (argsL := [(.ref d), (.int p1)]) (rest := []) (lenOf pd_1 rfl) rfl (by show 2 * 0 + _ ≤ _; exact Nat.le_of_eq rfl) (hb hby at_29) (fun _ _ => ⟨rfl, e107, Nat.le_of_ble_eq_true rfl, Nat.le_of_ble_eq_true rfl⟩)
  dsimp only [Pt.U, Pt.locs, Pt.cells, Pt.slots] at X112 l112 y112 z112 st112 hQ112
  subst l112 y112 z112
  obtain ⟨h112, e112⟩ : ∃ z, T112.heap = z := ⟨_, rfl⟩
  rw [e112] at hQ112
  obtain ⟨rfl, N112q, eq112⟩ := hQ112
  rw [eq112] at e112
  have N112 := Fr.app N107 N112q
  obtain ⟨cq117, kq117, q117a, q117b, q117c⟩ := isOf hZ e112 p107_E_a1
  obtain ⟨_, _, ⟨T117, L117, k117, n117⟩, -, X117, ⟨Lc117, hQ117, l117, y117, z117⟩, st117⟩ := X112.virtualBack hx (y := (⟨"com/example/macroweave/macroweave/BracketPairs", "closed", "(II)V"⟩ : MethodName)) (z := (⟨"com/example/macroweave/macroweave/BracketPairs", "closed", "(II)V"⟩ : MethodName)) hown (mvT hZ (wi hw 43 rfl)) (mvT hZ (wi hw 44 rfl)) (notFace_of_selects (args := #[]) (mvT hZ (wi hw 46 rfl))) (mvT hZ (wi hw 46 rfl)) (mvT hZ (wi hw 45 rfl)) (by decide) (backOf (W := 0) (rm_closedn l Z a0 hw [] b103 p2 h107 n0 (by omega) ) hZ (wi hw 47 rfl) (wi hw 5 rfl) (by decide) (by decide)) q117a q117c (g := (mkF mM 109 (Lc_law_lt_1_0_7 p0 p1 p2 p3 p4 d b103) [(.int p2), (.int (-1 : Int32)), (.ref b103)])) rfl (by rw [hml]; rfl) (Steps.refl _) (argsL := [(.int (-1 : Int32)), (.int p2)]) (rest := []) (lenOf pd_5 rfl) rfl (by show 2 * 0 + _ ≤ _; exact Nat.le_of_eq rfl) (hb hby at_109) (fun _ _ => ⟨rfl, e112, Nat.le_of_ble_eq_true rfl, Nat.le_of_ble_eq_true rfl⟩)
  dsimp only [Pt.U, Pt.locs, Pt.cells, Pt.slots] at X117 l117 y117 z117 st117 hQ117
  subst l117 y117 z117
  obtain ⟨h117, e117⟩ : ∃ z, T117.heap = z := ⟨_, rfl⟩
  rw [e117] at hQ117
  obtain ⟨rfl, N117q, eq117⟩ := hQ117
  rw [eq117] at e117
  have N117 := Fr.app N112 N117q
  obtain ⟨cq118, kq118, q118a, q118b, q118c⟩ := isOf hZ e117 p107_E_a1
  obtain ⟨_, _, ⟨T118, L118, k118, n118⟩, -, X118, ⟨Lc118, hQ118, l118, y118, z118⟩, st118⟩ := X117.virtualBack hx (y := (⟨"com/example/macroweave/macroweave/BracketPairs", "close", "(Lcom/example/macroweave/macroweave/Brackets;I)I"⟩ : MethodName)) (z := (⟨"com/example/macroweave/macroweave/BracketPairs", "close", "(Lcom/example/macroweave/macroweave/Brackets;I)I"⟩ : MethodName)) hown (mvT hZ (wi hw 48 rfl)) (mvT hZ (wi hw 49 rfl)) (notFace_of_selects (args := #[]) (mvT hZ (wi hw 51 rfl))) (mvT hZ (wi hw 51 rfl)) (mvT hZ (wi hw 50 rfl)) (by decide) (backOf (W := 0) (rm_close_1x l Z a0 hw [] b103 d b1_107 k1_107 p0 b2_107 k2_107 (-1 : Int32) (0 : Int32) h107 n0 (by omega) p107_F_brackets_a1 p107_F_contentStarts_a1 p107_F_closes_a1 p107_F_size_a1 p107_V_b1 p107_V_b2) hZ (wi hw 52 rfl) (wi hw 5 rfl) (by decide) (by decide)) q118a q118c (g := (mkF mM 187 (Lc_law_lt_1_0_9 p0 p1 p2 p3 p4 d b103) [(.int p0), (.ref d), (.ref b103)])) rfl (by rw [hml]; rfl) (Steps.refl _) (argsL := [(.ref d), (.int p0)]) (rest := []) (lenOf pd_1 rfl) rfl (by show 2 * 0 + _ ≤ _; exact Nat.le_of_eq rfl) (hb hby at_187) (fun _ _ => ⟨rfl, e117, Nat.le_of_ble_eq_true rfl, Nat.le_of_ble_eq_true rfl⟩)
  dsimp only [Pt.U, Pt.locs, Pt.cells, Pt.slots] at X118 l118 y118 z118 st118 hQ118
  subst l118 y118 z118
  obtain ⟨h118, e118⟩ : ∃ z, T118.heap = z := ⟨_, rfl⟩
  rw [e118] at hQ118
  obtain ⟨rfl, N118q, eq118⟩ := hQ118
  rw [eq118] at e118
  have N118 := Fr.app N117 N118q
  obtain ⟨cq119, kq119, q119a, q119b, q119c⟩ := isOf hZ e118 p107_E_a1
  obtain ⟨_, _, ⟨T119, L119, k119, n119⟩, -, X119, ⟨Lc119, hQ119, l119, y119, z119⟩, st119⟩ := X118.virtualBack hx (y := (⟨"com/example/macroweave/macroweave/BracketPairs", "close", "(Lcom/example/macroweave/macroweave/Brackets;I)I"⟩ : MethodName)) (z := (⟨"com/example/macroweave/macroweave/BracketPairs", "close", "(Lcom/example/macroweave/macroweave/Brackets;I)I"⟩ : MethodName)) hown (mvT hZ (wi hw 48 rfl)) (mvT hZ (wi hw 49 rfl)) (notFace_of_selects (args := #[]) (mvT hZ (wi hw 51 rfl))) (mvT hZ (wi hw 51 rfl)) (mvT hZ (wi hw 50 rfl)) (by decide) (backOf (W := 0) (rm_close_1y l Z a0 hw [] b103 d b1_107 k1_107 p0 p1 b2_107 k2_107 (-1 : Int32) (0 : Int32) h107 n0 (by omega) p107_F_brackets_a1 p107_F_contentStarts_a1 p107_F_closes_a1 p107_F_size_a1 p107_V_b1 p107_V_b2 hc37_112 hc48_103_104_119) hZ (wi hw 52 rfl) (wi hw 5 rfl) (by decide) (by decide)) q119a q119c (g := (mkF mM 200 (Lc_law_lt_1_0_9 p0 p1 p2 p3 p4 d b103) [(.int p1), (.ref d), (.ref b103)])) rfl (by rw [hml]; rfl) (Steps.refl _) (argsL := [(.ref d), (.int p1)]) (rest := []) (lenOf pd_1 rfl) rfl (by show 2 * 0 + _ ≤ _; exact Nat.le_of_eq rfl) (hb hby at_200) (fun _ _ => ⟨rfl, e118, Nat.le_of_ble_eq_true rfl, Nat.le_of_ble_eq_true rfl⟩)
  dsimp only [Pt.U, Pt.locs, Pt.cells, Pt.slots] at X119 l119 y119 z119 st119 hQ119
  subst l119 y119 z119
  obtain ⟨h119, e119⟩ : ∃ z, T119.heap = z := ⟨_, rfl⟩
  rw [e119] at hQ119
  obtain ⟨rfl, N119q, eq119⟩ := hQ119
  rw [eq119] at e119
  have N119 := Fr.app N118 N119q
  obtain ⟨fs, hr, hrun, hended, hW, hsame⟩ := X119.leave (v := some (.int (1 : Int32))) (fun h => by rw [Bd.returns] at h; cases h)
  refine ⟨_, _, pre0 _ ?_, hrun, hended, _, _, rfl, ?_, ⟨_, rfl⟩, hW, hsame.mono (by decide) (by decide)⟩
  · show SS pP eE belowS s₁ (mkF mM 0 (Lc_law_lt_1_0_0 p0 p1 p2 p3 p4) []) _
    refine st102 _ ?_
    show SS pP eE belowS T102 (mkF mM 3 (Lc_law_lt_1_0_0 p0 p1 p2 p3 p4) [(.ref d)]) _
    refine XS.astore X102.here hx rfl (hb hby at_3) rfl rfl (l' := (Lc_law_lt_1_0_1 p0 p1 p2 p3 p4 d)) rfl ?_
    show SS pP eE belowS T102 (mkF mM 5 (Lc_law_lt_1_0_1 p0 p1 p2 p3 p4 d) []) _
    refine st103 _ ?_
    show SS pP eE belowS T103 (mkF mM 8 (Lc_law_lt_1_0_1 p0 p1 p2 p3 p4 d) [(.ref b103)]) _
    refine XS.dup X103.here hx rfl (hb hby at_8) rfl rfl ?_
    show SS pP eE belowS T103 (mkF mM 9 (Lc_law_lt_1_0_1 p0 p1 p2 p3 p4 d) [(.ref b103), (.ref b103)]) _
    refine st104.trans ?_
    show SS pP eE belowS T104 (mkF mM 12 (Lc_law_lt_1_0_1 p0 p1 p2 p3 p4 d) [(.ref b103)]) _
    refine XS.astore X104.here hx rfl (hb hby at_12) rfl rfl (l' := (Lc_law_lt_1_0_2 p0 p1 p2 p3 p4 d b103)) rfl ?_
    show SS pP eE belowS T104 (mkF mM 14 (Lc_law_lt_1_0_2 p0 p1 p2 p3 p4 d b103) []) _
    refine XS.aload X104.here hx rfl (hb hby at_14) rfl rfl ?_
    show SS pP eE belowS T104 (mkF mM 16 (Lc_law_lt_1_0_2 p0 p1 p2 p3 p4 d b103) [(.ref b103)]) _
    refine XS.aload X104.here hx rfl (hb hby at_16) rfl rfl ?_
    show SS pP eE belowS T104 (mkF mM 18 (Lc_law_lt_1_0_2 p0 p1 p2 p3 p4 d b103) [(.ref d), (.ref b103)]) _
    refine XS.iloadN X104.here hx rfl (hb hby at_18) rfl ?_
    show SS pP eE belowS T104 (mkF mM 19 (Lc_law_lt_1_0_2 p0 p1 p2 p3 p4 d b103) [(.int p0), (.ref d), (.ref b103)]) _
    refine st107.trans ?_
    show SS pP eE belowS T107 (mkF mM 22 (Lc_law_lt_1_0_2 p0 p1 p2 p3 p4 d b103) [(.int (0 : Int32))]) _
    refine XS.istore X107.here hx rfl (hb hby at_22) rfl (l' := (Lc_law_lt_1_0_3 p0 p1 p2 p3 p4 d b103)) rfl ?_
    show SS pP eE belowS T107 (mkF mM 24 (Lc_law_lt_1_0_3 p0 p1 p2 p3 p4 d b103) []) _
    refine XS.aload X107.here hx rfl (hb hby at_24) rfl rfl ?_
    show SS pP eE belowS T107 (mkF mM 26 (Lc_law_lt_1_0_3 p0 p1 p2 p3 p4 d b103) [(.ref b103)]) _
    refine XS.aload X107.here hx rfl (hb hby at_26) rfl rfl ?_
    show SS pP eE belowS T107 (mkF mM 28 (Lc_law_lt_1_0_3 p0 p1 p2 p3 p4 d b103) [(.ref d), (.ref b103)]) _
    refine XS.iloadN X107.here hx rfl (hb hby at_28) rfl ?_
    show SS pP eE belowS T107 (mkF mM 29 (Lc_law_lt_1_0_3 p0 p1 p2 p3 p4 d b103) [(.int p1), (.ref d), (.ref b103)]) _
    refine st112.trans ?_
    show SS pP eE belowS T112 (mkF mM 32 (Lc_law_lt_1_0_3 p0 p1 p2 p3 p4 d b103) [(.int (-1 : Int32))]) _
    refine XS.istore X112.here hx rfl (hb hby at_32) rfl (l' := (Lc_law_lt_1_0_4 p0 p1 p2 p3 p4 d b103)) rfl ?_
    show SS pP eE belowS T112 (mkF mM 34 (Lc_law_lt_1_0_4 p0 p1 p2 p3 p4 d b103) []) _
    refine XS.iload X112.here hx rfl (hb hby at_34) rfl ?_
    show SS pP eE belowS T112 (mkF mM 36 (Lc_law_lt_1_0_4 p0 p1 p2 p3 p4 d b103) [(.int (0 : Int32))]) _
    refine XS.ifYes X112.here hx rfl (pc0 := 36) (pc' := 41) rfl (hb hby at_36) rfl ((if0 _ _).trans (teq (by decide : (0 : Int32) = (0 : Int32))).1) (by decide) (by decide) ?_
    show SS pP eE belowS T112 (mkF mM 41 (Lc_law_lt_1_0_4 p0 p1 p2 p3 p4 d b103) []) _
    refine XS.iload X112.here hx rfl (hb hby at_41) rfl ?_
    show SS pP eE belowS T112 (mkF mM 43 (Lc_law_lt_1_0_4 p0 p1 p2 p3 p4 d b103) [(.int (-1 : Int32))]) _
    refine XS.iloadN X112.here hx rfl (hb hby at_43) rfl ?_
    show SS pP eE belowS T112 (mkF mM 44 (Lc_law_lt_1_0_4 p0 p1 p2 p3 p4 d b103) [(.int p1), (.int (-1 : Int32))]) _
    refine XS.iloadN X112.here hx rfl (hb hby at_44) rfl ?_
    show SS pP eE belowS T112 (mkF mM 45 (Lc_law_lt_1_0_4 p0 p1 p2 p3 p4 d b103) [(.int p0), (.int p1), (.int (-1 : Int32))]) _
    refine XS.icmpYes X112.here hx rfl (pc0 := 45) (pc' := 52) rfl (hb hby at_45) rfl (flt hc37_112).2.2.2 (by decide) (by decide) ?_
    show SS pP eE belowS T112 (mkF mM 52 (Lc_law_lt_1_0_4 p0 p1 p2 p3 p4 d b103) [(.int (-1 : Int32))]) _
    refine XS.iconst X112.here hx rfl (hb hby at_52) ?_
    show SS pP eE belowS T112 (mkF mM 53 (Lc_law_lt_1_0_4 p0 p1 p2 p3 p4 d b103) [(.int (-1 : Int32)), (.int (-1 : Int32))]) _
    refine XS.icmpYes X112.here hx rfl (pc0 := 53) (pc' := 58) rfl (hb hby at_53) rfl (teq (by decide : (-1 : Int32) = (-1 : Int32))).1 (by decide) (by decide) ?_
    show SS pP eE belowS T112 (mkF mM 58 (Lc_law_lt_1_0_4 p0 p1 p2 p3 p4 d b103) []) _
    refine XS.iload X112.here hx rfl (hb hby at_58) rfl ?_
    show SS pP eE belowS T112 (mkF mM 60 (Lc_law_lt_1_0_4 p0 p1 p2 p3 p4 d b103) [(.int p4)]) _
    refine XS.iconst X112.here hx rfl (hb hby at_60) ?_
    show SS pP eE belowS T112 (mkF mM 61 (Lc_law_lt_1_0_4 p0 p1 p2 p3 p4 d b103) [(.int (3 : Int32)), (.int p4)]) _
    refine XS.iand X112.here hx rfl (hb hby at_61) rfl ?_
    show SS pP eE belowS T112 (mkF mM 62 (Lc_law_lt_1_0_4 p0 p1 p2 p3 p4 d b103) [(.int (p4 &&& (3 : Int32)))]) _
    refine XS.istore X112.here hx rfl (hb hby at_62) rfl (l' := (Lc_law_lt_1_0_5 p0 p1 p2 p3 p4 d b103)) rfl ?_
    show SS pP eE belowS T112 (mkF mM 64 (Lc_law_lt_1_0_5 p0 p1 p2 p3 p4 d b103) []) _
    refine XS.iload X112.here hx rfl (hb hby at_64) rfl ?_
    show SS pP eE belowS T112 (mkF mM 66 (Lc_law_lt_1_0_5 p0 p1 p2 p3 p4 d b103) [(.int (p4 &&& (3 : Int32)))]) _
    refine XS.ifYes X112.here hx rfl (pc0 := 66) (pc' := 74) rfl (hb hby at_66) rfl ((if0 _ _).trans (feq hc66).2) (by decide) (by decide) ?_
    show SS pP eE belowS T112 (mkF mM 74 (Lc_law_lt_1_0_5 p0 p1 p2 p3 p4 d b103) []) _
    refine XS.iload X112.here hx rfl (hb hby at_74) rfl ?_
    show SS pP eE belowS T112 (mkF mM 76 (Lc_law_lt_1_0_5 p0 p1 p2 p3 p4 d b103) [(.int (p4 &&& (3 : Int32)))]) _
    refine XS.iconst X112.here hx rfl (hb hby at_76) ?_
    show SS pP eE belowS T112 (mkF mM 77 (Lc_law_lt_1_0_5 p0 p1 p2 p3 p4 d b103) [(.int (1 : Int32)), (.int (p4 &&& (3 : Int32)))]) _
    refine XS.icmpNo X112.here hx rfl (hb hby at_77) rfl (teq hc77).2 ?_
    show SS pP eE belowS T112 (mkF mM 80 (Lc_law_lt_1_0_5 p0 p1 p2 p3 p4 d b103) []) _
    refine XS.iload X112.here hx rfl (hb hby at_80) rfl ?_
    show SS pP eE belowS T112 (mkF mM 82 (Lc_law_lt_1_0_5 p0 p1 p2 p3 p4 d b103) [(.int (-1 : Int32))]) _
    refine XS.goto X112.here hx rfl (pc0 := 82) (pc' := 86) rfl (hb hby at_82) (by decide) (by decide) ?_
    show SS pP eE belowS T112 (mkF mM 86 (Lc_law_lt_1_0_5 p0 p1 p2 p3 p4 d b103) [(.int (-1 : Int32))]) _
    refine XS.istore X112.here hx rfl (hb hby at_86) rfl (l' := (Lc_law_lt_1_0_6 p0 p1 p2 p3 p4 d b103)) rfl ?_
    show SS pP eE belowS T112 (mkF mM 88 (Lc_law_lt_1_0_6 p0 p1 p2 p3 p4 d b103) []) _
    refine XS.iload X112.here hx rfl (hb hby at_88) rfl ?_
    show SS pP eE belowS T112 (mkF mM 90 (Lc_law_lt_1_0_6 p0 p1 p2 p3 p4 d b103) [(.int p4)]) _
    refine XS.iconst X112.here hx rfl (hb hby at_90) ?_
    show SS pP eE belowS T112 (mkF mM 91 (Lc_law_lt_1_0_6 p0 p1 p2 p3 p4 d b103) [(.int (2 : Int32)), (.int p4)]) _
    refine XS.ishr X112.here hx rfl (hb hby at_91) rfl ?_
    show SS pP eE belowS T112 (mkF mM 92 (Lc_law_lt_1_0_6 p0 p1 p2 p3 p4 d b103) [(.int (p4 >>> ((2 : Int32) &&& 31)))]) _
    refine XS.iconst X112.here hx rfl (hb hby at_92) ?_
    show SS pP eE belowS T112 (mkF mM 93 (Lc_law_lt_1_0_6 p0 p1 p2 p3 p4 d b103) [(.int (1 : Int32)), (.int (p4 >>> ((2 : Int32) &&& 31)))]) _
    refine XS.iand X112.here hx rfl (hb hby at_93) rfl ?_
    show SS pP eE belowS T112 (mkF mM 94 (Lc_law_lt_1_0_6 p0 p1 p2 p3 p4 d b103) [(.int ((p4 >>> ((2 : Int32) &&& 31)) &&& (1 : Int32)))]) _
    refine XS.ifYes X112.here hx rfl (pc0 := 94) (pc' := 101) rfl (hb hby at_94) rfl ((if0 _ _).trans (teq hc94).1) (by decide) (by decide) ?_
    show SS pP eE belowS T112 (mkF mM 101 (Lc_law_lt_1_0_6 p0 p1 p2 p3 p4 d b103) []) _
    refine XS.iconst X112.here hx rfl (hb hby at_101) ?_
    show SS pP eE belowS T112 (mkF mM 102 (Lc_law_lt_1_0_6 p0 p1 p2 p3 p4 d b103) [(.int (0 : Int32))]) _
    refine XS.istore X112.here hx rfl (hb hby at_102) rfl (l' := (Lc_law_lt_1_0_7 p0 p1 p2 p3 p4 d b103)) rfl ?_
    show SS pP eE belowS T112 (mkF mM 104 (Lc_law_lt_1_0_7 p0 p1 p2 p3 p4 d b103) []) _
    refine XS.aload X112.here hx rfl (hb hby at_104) rfl rfl ?_
    show SS pP eE belowS T112 (mkF mM 106 (Lc_law_lt_1_0_7 p0 p1 p2 p3 p4 d b103) [(.ref b103)]) _
    refine XS.iload X112.here hx rfl (hb hby at_106) rfl ?_
    show SS pP eE belowS T112 (mkF mM 108 (Lc_law_lt_1_0_7 p0 p1 p2 p3 p4 d b103) [(.int (-1 : Int32)), (.ref b103)]) _
    refine XS.iloadN X112.here hx rfl (hb hby at_108) rfl ?_
    show SS pP eE belowS T112 (mkF mM 109 (Lc_law_lt_1_0_7 p0 p1 p2 p3 p4 d b103) [(.int p2), (.int (-1 : Int32)), (.ref b103)]) _
    refine st117.trans ?_
    show SS pP eE belowS T117 (mkF mM 112 (Lc_law_lt_1_0_7 p0 p1 p2 p3 p4 d b103) []) _
    refine XS.iload X117.here hx rfl (hb hby at_112) rfl ?_
    show SS pP eE belowS T117 (mkF mM 114 (Lc_law_lt_1_0_7 p0 p1 p2 p3 p4 d b103) [(.int (0 : Int32))]) _
    refine XS.ifYes X117.here hx rfl (pc0 := 114) (pc' := 125) rfl (hb hby at_114) rfl ((if0 _ _).trans (teq (by decide : (0 : Int32) = (0 : Int32))).1) (by decide) (by decide) ?_
    show SS pP eE belowS T117 (mkF mM 125 (Lc_law_lt_1_0_7 p0 p1 p2 p3 p4 d b103) []) _
    refine XS.iload X117.here hx rfl (hb hby at_125) rfl ?_
    show SS pP eE belowS T117 (mkF mM 127 (Lc_law_lt_1_0_7 p0 p1 p2 p3 p4 d b103) [(.int (0 : Int32))]) _
    refine XS.ifYes X117.here hx rfl (pc0 := 127) (pc' := 134) rfl (hb hby at_127) rfl ((if0 _ _).trans (teq (by decide : (0 : Int32) = (0 : Int32))).1) (by decide) (by decide) ?_
    show SS pP eE belowS T117 (mkF mM 134 (Lc_law_lt_1_0_7 p0 p1 p2 p3 p4 d b103) []) _
    refine XS.iload X117.here hx rfl (hb hby at_134) rfl ?_
    show SS pP eE belowS T117 (mkF mM 136 (Lc_law_lt_1_0_7 p0 p1 p2 p3 p4 d b103) [(.int (-1 : Int32))]) _
    refine XS.ifYes X117.here hx rfl (pc0 := 136) (pc' := 143) rfl (hb hby at_136) rfl ((if0 _ _).trans (feq (by decide : ¬ ((-1 : Int32) = (0 : Int32)))).2) (by decide) (by decide) ?_
    show SS pP eE belowS T117 (mkF mM 143 (Lc_law_lt_1_0_7 p0 p1 p2 p3 p4 d b103) []) _
    refine XS.iconst X117.here hx rfl (hb hby at_143) ?_
    show SS pP eE belowS T117 (mkF mM 144 (Lc_law_lt_1_0_7 p0 p1 p2 p3 p4 d b103) [(.int (-1 : Int32))]) _
    refine XS.istore X117.here hx rfl (hb hby at_144) rfl (l' := (Lc_law_lt_1_0_8 p0 p1 p2 p3 p4 d b103)) rfl ?_
    show SS pP eE belowS T117 (mkF mM 146 (Lc_law_lt_1_0_8 p0 p1 p2 p3 p4 d b103) []) _
    refine XS.iloadN X117.here hx rfl (hb hby at_146) rfl ?_
    show SS pP eE belowS T117 (mkF mM 147 (Lc_law_lt_1_0_8 p0 p1 p2 p3 p4 d b103) [(.int p1)]) _
    refine XS.iloadN X117.here hx rfl (hb hby at_147) rfl ?_
    show SS pP eE belowS T117 (mkF mM 148 (Lc_law_lt_1_0_8 p0 p1 p2 p3 p4 d b103) [(.int p0), (.int p1)]) _
    refine XS.icmpYes X117.here hx rfl (pc0 := 148) (pc' := 167) rfl (hb hby at_148) rfl (flt hc37_112).2.2.2 (by decide) (by decide) ?_
    show SS pP eE belowS T117 (mkF mM 167 (Lc_law_lt_1_0_8 p0 p1 p2 p3 p4 d b103) []) _
    refine XS.iloadN X117.here hx rfl (hb hby at_167) rfl ?_
    show SS pP eE belowS T117 (mkF mM 168 (Lc_law_lt_1_0_8 p0 p1 p2 p3 p4 d b103) [(.int p1)]) _
    refine XS.iloadN X117.here hx rfl (hb hby at_168) rfl ?_
    show SS pP eE belowS T117 (mkF mM 169 (Lc_law_lt_1_0_8 p0 p1 p2 p3 p4 d b103) [(.int p0), (.int p1)]) _
    refine XS.icmpYes X117.here hx rfl (pc0 := 169) (pc' := 179) rfl (hb hby at_169) rfl (feq hc169).2 (by decide) (by decide) ?_
    show SS pP eE belowS T117 (mkF mM 179 (Lc_law_lt_1_0_8 p0 p1 p2 p3 p4 d b103) []) _
    refine XS.iconst X117.here hx rfl (hb hby at_179) ?_
    show SS pP eE belowS T117 (mkF mM 180 (Lc_law_lt_1_0_8 p0 p1 p2 p3 p4 d b103) [(.int (-1 : Int32))]) _
    refine XS.istore X117.here hx rfl (hb hby at_180) rfl (l' := (Lc_law_lt_1_0_9 p0 p1 p2 p3 p4 d b103)) rfl ?_
    show SS pP eE belowS T117 (mkF mM 182 (Lc_law_lt_1_0_9 p0 p1 p2 p3 p4 d b103) []) _
    refine XS.aload X117.here hx rfl (hb hby at_182) rfl rfl ?_
    show SS pP eE belowS T117 (mkF mM 184 (Lc_law_lt_1_0_9 p0 p1 p2 p3 p4 d b103) [(.ref b103)]) _
    refine XS.aload X117.here hx rfl (hb hby at_184) rfl rfl ?_
    show SS pP eE belowS T117 (mkF mM 186 (Lc_law_lt_1_0_9 p0 p1 p2 p3 p4 d b103) [(.ref d), (.ref b103)]) _
    refine XS.iloadN X117.here hx rfl (hb hby at_186) rfl ?_
    show SS pP eE belowS T117 (mkF mM 187 (Lc_law_lt_1_0_9 p0 p1 p2 p3 p4 d b103) [(.int p0), (.ref d), (.ref b103)]) _
    refine st118.trans ?_
    show SS pP eE belowS T118 (mkF mM 190 (Lc_law_lt_1_0_9 p0 p1 p2 p3 p4 d b103) [(.int (-1 : Int32))]) _
    refine XS.iload X118.here hx rfl (hb hby at_190) rfl ?_
    show SS pP eE belowS T118 (mkF mM 192 (Lc_law_lt_1_0_9 p0 p1 p2 p3 p4 d b103) [(.int (-1 : Int32)), (.int (-1 : Int32))]) _
    refine XS.icmpNo X118.here hx rfl (hb hby at_192) rfl (teq (by decide : (-1 : Int32) = (-1 : Int32))).2 ?_
    show SS pP eE belowS T118 (mkF mM 195 (Lc_law_lt_1_0_9 p0 p1 p2 p3 p4 d b103) []) _
    refine XS.aload X118.here hx rfl (hb hby at_195) rfl rfl ?_
    show SS pP eE belowS T118 (mkF mM 197 (Lc_law_lt_1_0_9 p0 p1 p2 p3 p4 d b103) [(.ref b103)]) _
    refine XS.aload X118.here hx rfl (hb hby at_197) rfl rfl ?_
    show SS pP eE belowS T118 (mkF mM 199 (Lc_law_lt_1_0_9 p0 p1 p2 p3 p4 d b103) [(.ref d), (.ref b103)]) _
    refine XS.iloadN X118.here hx rfl (hb hby at_199) rfl ?_
    show SS pP eE belowS T118 (mkF mM 200 (Lc_law_lt_1_0_9 p0 p1 p2 p3 p4 d b103) [(.int p1), (.ref d), (.ref b103)]) _
    refine st119.trans ?_
    show SS pP eE belowS T119 (mkF mM 203 (Lc_law_lt_1_0_9 p0 p1 p2 p3 p4 d b103) [(.int (-1 : Int32))]) _
    refine XS.iload X119.here hx rfl (hb hby at_203) rfl ?_
    show SS pP eE belowS T119 (mkF mM 205 (Lc_law_lt_1_0_9 p0 p1 p2 p3 p4 d b103) [(.int (-1 : Int32)), (.int (-1 : Int32))]) _
    refine XS.icmpNo X119.here hx rfl (hb hby at_205) rfl (teq (by decide : (-1 : Int32) = (-1 : Int32))).2 ?_
    show SS pP eE belowS T119 (mkF mM 208 (Lc_law_lt_1_0_9 p0 p1 p2 p3 p4 d b103) []) _
    refine XS.iconst X119.here hx rfl (hb hby at_208) ?_
    show SS pP eE belowS T119 (mkF mM 209 (Lc_law_lt_1_0_9 p0 p1 p2 p3 p4 d b103) [(.int (1 : Int32))]) _
    refine XS.goto X119.here hx rfl (pc0 := 209) (pc' := 213) rfl (hb hby at_209) (by decide) (by decide) ?_
    show SS pP eE belowS T119 (mkF mM 213 (Lc_law_lt_1_0_9 p0 p1 p2 p3 p4 d b103) [(.int (1 : Int32))]) _
    exact retN X119 hx (t := .boolean) Bd.returns (by simp) (hb hby at_213) hr
  · exact ⟨rfl, N119⟩

abbrev Lc_law_lt_1_1_0 (p0 : Int32) (p1 : Int32) (p2 : Int32) (p3 : Int32) (p4 : Int32) : Array Slot := #[.val (.int p0), .val (.int p1), .val (.int p2), .val (.int p3), .val (.int p4), .unset, .unset, .unset, .unset, .unset, .unset, .unset, .unset, .unset]
abbrev Lc_law_lt_1_1_1 (p0 : Int32) (p1 : Int32) (p2 : Int32) (p3 : Int32) (p4 : Int32) (d : Addr) : Array Slot := #[.val (.int p0), .val (.int p1), .val (.int p2), .val (.int p3), .val (.int p4), .val (.ref d), .unset, .unset, .unset, .unset, .unset, .unset, .unset, .unset]
abbrev Lc_law_lt_1_1_2 (p0 : Int32) (p1 : Int32) (p2 : Int32) (p3 : Int32) (p4 : Int32) (d : Addr) (b103 : Addr) : Array Slot := #[.val (.int p0), .val (.int p1), .val (.int p2), .val (.int p3), .val (.int p4), .val (.ref d), .val (.ref b103), .unset, .unset, .unset, .unset, .unset, .unset, .unset]
abbrev Lc_law_lt_1_1_3 (p0 : Int32) (p1 : Int32) (p2 : Int32) (p3 : Int32) (p4 : Int32) (d : Addr) (b103 : Addr) : Array Slot := #[.val (.int p0), .val (.int p1), .val (.int p2), .val (.int p3), .val (.int p4), .val (.ref d), .val (.ref b103), .val (.int (0 : Int32)), .unset, .unset, .unset, .unset, .unset, .unset]
abbrev Lc_law_lt_1_1_4 (p0 : Int32) (p1 : Int32) (p2 : Int32) (p3 : Int32) (p4 : Int32) (d : Addr) (b103 : Addr) : Array Slot := #[.val (.int p0), .val (.int p1), .val (.int p2), .val (.int p3), .val (.int p4), .val (.ref d), .val (.ref b103), .val (.int (0 : Int32)), .val (.int (-1 : Int32)), .unset, .unset, .unset, .unset, .unset]
abbrev Lc_law_lt_1_1_5 (p0 : Int32) (p1 : Int32) (p2 : Int32) (p3 : Int32) (p4 : Int32) (d : Addr) (b103 : Addr) : Array Slot := #[.val (.int p0), .val (.int p1), .val (.int p2), .val (.int p3), .val (.int p4), .val (.ref d), .val (.ref b103), .val (.int (0 : Int32)), .val (.int (-1 : Int32)), .val (.int (p4 &&& (3 : Int32))), .unset, .unset, .unset, .unset]
abbrev Lc_law_lt_1_1_6 (p0 : Int32) (p1 : Int32) (p2 : Int32) (p3 : Int32) (p4 : Int32) (d : Addr) (b103 : Addr) : Array Slot := #[.val (.int p0), .val (.int p1), .val (.int p2), .val (.int p3), .val (.int p4), .val (.ref d), .val (.ref b103), .val (.int (0 : Int32)), .val (.int (-1 : Int32)), .val (.int (p4 &&& (3 : Int32))), .val (.int (-1 : Int32)), .unset, .unset, .unset]
abbrev Lc_law_lt_1_1_7 (p0 : Int32) (p1 : Int32) (p2 : Int32) (p3 : Int32) (p4 : Int32) (d : Addr) (b103 : Addr) : Array Slot := #[.val (.int p0), .val (.int p1), .val (.int p2), .val (.int p3), .val (.int p4), .val (.ref d), .val (.ref b103), .val (.int (0 : Int32)), .val (.int (-1 : Int32)), .val (.int (p4 &&& (3 : Int32))), .val (.int (-1 : Int32)), .val (.int (1 : Int32)), .unset, .unset]
abbrev Lc_law_lt_1_1_8 (p0 : Int32) (p1 : Int32) (p2 : Int32) (p3 : Int32) (p4 : Int32) (d : Addr) (b103 : Addr) : Array Slot := #[.val (.int p0), .val (.int p1), .val (.int p2), .val (.int p3), .val (.int p4), .val (.ref d), .val (.ref b103), .val (.int (0 : Int32)), .val (.int (-1 : Int32)), .val (.int (p4 &&& (3 : Int32))), .val (.int (-1 : Int32)), .val (.int (1 : Int32)), .val (.int p3), .unset]
abbrev Lc_law_lt_1_1_9 (p0 : Int32) (p1 : Int32) (p2 : Int32) (p3 : Int32) (p4 : Int32) (d : Addr) (b103 : Addr) : Array Slot := #[.val (.int p0), .val (.int p1), .val (.int p2), .val (.int p3), .val (.int p4), .val (.ref d), .val (.ref b103), .val (.int (0 : Int32)), .val (.int (-1 : Int32)), .val (.int (p4 &&& (3 : Int32))), .val (.int (-1 : Int32)), .val (.int (1 : Int32)), .val (.int p3), .val (.int (-1 : Int32))]
theorem ef_law_lt_1_1 (mM : MethodId) (p0 : Int32) (p1 : Int32) (p2 : Int32) (p3 : Int32) (p4 : Int32) (aN : Addr) (kN : ClassId) (d : Addr) : entryFrame mM #[(.int p0), (.int p1), (.int p2), (.int p3), (.int p4)] maxLocals = mkF mM 0 #[.val (.int p0), .val (.int p1), .val (.int p2), .val (.int p3), .val (.int p4), .unset, .unset, .unset, .unset, .unset, .unset, .unset, .unset, .unset] [] := by first | (simp [entryFrame, mkF, argsToLocals, Value.category, maxLocals]; done) | rfl
set_option maxRecDepth 65536 in
set_option maxHeartbeats 40000000 in
theorem rm_law_lt_1_1 (l : Launch) (Z : State) (a0 : Array Value) (hw : ∀ d ∈ tables_1, d.before a0 Z = true) (ws : List Jvm.Cond) (p0 : Int32) (p1 : Int32) (p2 : Int32) (p3 : Int32) (p4 : Int32) (aN : Addr) (kN : ClassId) (d : Addr) (h0 : Heap) (n0 : Nat) (Z0 : n0 ≤ h0.size) (OL : Old Z n0 h0) (S_DEFAULT : Sta Z Z.heap "com/example/macroweave/macroweave/Brackets" "DEFAULT" "Lcom/example/macroweave/macroweave/Brackets;" (.ref d)) (S_NONE : Sta Z Z.heap "com/example/macroweave/macroweave/BracketPairs" "NONE" "[I" (.ref aN)) (V_aN : Arv Z h0 aN kN .int (0 : Int32) [] (.int (0 : Int32))) (hc37_112 : ¬ (p0 < p1)) (hc66 : ¬ ((p4 &&& (3 : Int32)) = (0 : Int32))) (hc77 : (p4 &&& (3 : Int32)) = (1 : Int32)) (hc94 : ¬ (((p4 >>> ((2 : Int32) &&& 31)) &&& (1 : Int32)) = (0 : Int32))) (hc169 : ¬ (p1 = p0)) (hc48_103_104_126 : p1 < p0) :
    MetFree l x (head1 (Jvm.Cond.code x code maxLocals ret :: ws) room_1) (fun xa xU => xa = #[(.int p0), (.int p1), (.int p2), (.int p3), (.int p4)] ∧ Z.Warmed39 xU.vm ∧ xU.heap = h0) (fun _ _ _ _ _ => True) (fun _ xU xo xU' => ∃ xv xL, xo = .returned xv ∧ Q_law n0 xv xL ∧ FrameEnd xU xo xU' xL room_1.cells room_1.slots) := by
  refine MetFree.of_bodySF (plainFor_of_name pn_com_example_macroweave_macroweave_BracketPairsClosedPinLaw) hisR ?_
  intro pP eE sS mM argS belowS methS cC s₁ Bd hml0 hP hK
  obtain ⟨rfl, hZ, hh⟩ := hP
  have hx := Bd.exec
  have hby := Bd.bytes
  have hml : cC.maxLocals = 14 := hml0
  have hown : sS.vm.findClass "com/example/macroweave/macroweave/BracketPairsClosedPinLaw" = some mM.cls := findClass_of_methodNamed Bd.named
  have hnm := (name_of_methodNamed Bd.named Bd.method).1
  have X0 : Stand pP l eE room_1 sS mM #[(.int p0), (.int p1), (.int p2), (.int p3), (.int p4)] belowS methS cC s₁ [] 0 0 := Stand.of_body Bd
  have e0 : s₁.heap = h0 := by rw [← hh, Bd.state]; rfl
  have N0 := Fr.nil n0
  have pre0 : ∀ t', Steps pP.tables eE belowS (s₁.setTop (mkF mM 0 #[.val (.int p0), .val (.int p1), .val (.int p2), .val (.int p3), .val (.int p4), .unset, .unset, .unset, .unset, .unset, .unset, .unset, .unset, .unset] [])) t' → Steps pP.tables eE belowS (s₁.setTop (entryFrame mM #[(.int p0), (.int p1), (.int p2), (.int p3), (.int p4)] maxLocals)) t' := fun t' kk' => castTop (ef_law_lt_1_1 mM p0 p1 p2 p3 p4 aN kN d) kk'
  have c101_S_DEFAULT : Sta Z h0 "com/example/macroweave/macroweave/Brackets" "DEFAULT" "Lcom/example/macroweave/macroweave/Brackets;" (.ref d) := Sta.ext OL.2 S_DEFAULT
  obtain ⟨T102, X102, e102, st102⟩ := getS2 X0 hx hZ hown (host := "") (Or.inl (wi hw 0 rfl)) Via.refl e0 c101_S_DEFAULT (g := (mkF mM 0 (Lc_law_lt_1_1_0 p0 p1 p2 p3 p4) [])) rfl (hb hby at_0)
  obtain ⟨T103, h103, X103, e103, E103, A103, D103, B103, st103⟩ := newO X102 hx hZ hown (wi hw 3 rfl) (wi hw 4 rfl) (wi hw 5 rfl) e102 (g := (mkF mM 5 (Lc_law_lt_1_1_1 p0 p1 p2 p3 p4 d) [])) rfl (hb hby at_5) (by decide) (by decide)
  obtain ⟨b103, g103⟩ : ∃ z : Nat, z = h0.size := ⟨_, rfl⟩
  rw [← g103] at A103 D103 B103 st103
  have Sz1 : h0.size ≤ h103.size := E103.1
  have F103_contentStarts : Fld Z h103 b103 "com/example/macroweave/macroweave/BracketPairs" "contentStarts" "[I" .null := D103 (Or.inl (wi hw 15 rfl)) (ty := (.array .int)) (by decide)
  have F103_closes : Fld Z h103 b103 "com/example/macroweave/macroweave/BracketPairs" "closes" "[I" .null := D103 (Or.inl (wi hw 17 rfl)) (ty := (.array .int)) (by decide)
  have F103_brackets : Fld Z h103 b103 "com/example/macroweave/macroweave/BracketPairs" "brackets" "Lcom/example/macroweave/macroweave/Brackets;" .null := D103 (Or.inl (wi hw 24 rfl)) (ty := (.object "com/example/macroweave/macroweave/Brackets")) (by decide)
  have F103_size : Fld Z h103 b103 "com/example/macroweave/macroweave/BracketPairs" "size" "I" (.int (0 : Int32)) := D103 (Or.inl (wi hw 26 rfl)) (ty := .int) (by decide)
  have c105_OL : Old Z n0 h103 := OL.ext E103
  have ge106_b103 : @LE.le Nat _ n0 b103 := by omega
  obtain ⟨_, _, ⟨T104, L104, k104, n104⟩, -, X104, ⟨Lc104, hQ104, l104, y104, z104⟩, st104⟩ := X103.specialBack hx (y := (⟨"com/example/macroweave/macroweave/BracketPairs", "<init>", "()V"⟩ : MethodName)) rfl hown (mvT hZ (wi hw 6 rfl)) (mvT hZ (wi hw 7 rfl)) (mvT hZ (wi hw 8 rfl)) (by decide) (backOf (W := 1) (rm_init l Z a0 hw [] b103 aN .null .null .null (.int (0 : Int32)) h103 n0 (by omega) A103 F103_contentStarts F103_closes F103_brackets F103_size ge106_b103 c105_OL S_NONE) hZ (wi hw 8 rfl) (wi hw 5 rfl) (by decide) (by decide)) (g := (mkF mM 9 (Lc_law_lt_1_1_1 p0 p1 p2 p3 p4 d) [(.ref b103), (.ref b103)])) rfl (by rw [hml]; rfl) (Steps.refl _) (a := b103) (argsL := []) (rest := [(.ref b103)]) (lenOf pd_0 rfl) rfl (by show 2 * 0 + _ ≤ _; exact Nat.le_of_eq rfl) (hb hby at_9) (fun _ _ => ⟨rfl, e103, Nat.le_of_ble_eq_true rfl, Nat.le_of_ble_eq_true rfl⟩)
  dsimp only [Pt.U, Pt.locs, Pt.cells, Pt.slots] at X104 l104 y104 z104 st104 hQ104
  subst l104 y104 z104
  obtain ⟨h104, e104⟩ : ∃ z, T104.heap = z := ⟨_, rfl⟩
  rw [e104] at hQ104
  obtain ⟨rfl, N104q, Kp104, p104_E_a1, p104_F_contentStarts_a1, p104_F_closes_a1, p104_F_brackets_a1, p104_F_size_a1⟩ := hQ104
  have Sz2 : h103.size ≤ h104.size := Kp104.1
  have N104 := Fr.app N0 N104q
  have c108_V_aN : Arv Z h103 aN kN .int (0 : Int32) [] (.int (0 : Int32)) := V_aN.ext E103
  have lt_aN : @LT.lt Nat _ aN h0.size := V_aN.lt
  have lt_b103 : @LT.lt Nat _ b103 h104.size := p104_E_a1.lt
  have ne_aN_b103_109 : aN ≠ b103 := (by omega : @Ne Nat aN b103)
  have c110_V_aN : Arv Z h104 aN kN .int (0 : Int32) [] (.int (0 : Int32)) := c108_V_aN.keep Kp104 (ninS ne_aN_b103_109 nin0)
  have ne_b103_aN_111 : b103 ≠ aN := (by omega : @Ne Nat b103 aN)
  obtain ⟨cq107, kq107, q107a, q107b, q107c⟩ := isOf hZ e104 p104_E_a1
  obtain ⟨_, _, ⟨T107, L107, k107, n107⟩, -, X107, ⟨Lc107, hQ107, l107, y107, z107⟩, st107⟩ := X104.virtualBack hx (y := (⟨"com/example/macroweave/macroweave/BracketPairs", "opened", "(Lcom/example/macroweave/macroweave/Brackets;I)I"⟩ : MethodName)) (z := (⟨"com/example/macroweave/macroweave/BracketPairs", "opened", "(Lcom/example/macroweave/macroweave/Brackets;I)I"⟩ : MethodName)) hown (mvT hZ (wi hw 18 rfl)) (mvT hZ (wi hw 19 rfl)) (notFace_of_selects (args := #[]) (mvT hZ (wi hw 21 rfl))) (mvT hZ (wi hw 21 rfl)) (mvT hZ (wi hw 20 rfl)) (by decide) (backOf (W := 0) (rm_open1 l Z a0 hw [] b103 d p0 aN kN h104 n0 (by omega) p104_E_a1 p104_F_brackets_a1 p104_F_contentStarts_a1 p104_F_closes_a1 p104_F_size_a1 c110_V_aN ne_b103_aN_111 ge106_b103) hZ (wi hw 22 rfl) (wi hw 5 rfl) (by decide) (by decide)) q107a q107c (g := (mkF mM 19 (Lc_law_lt_1_1_2 p0 p1 p2 p3 p4 d b103) [(.int p0), (.ref d), (.ref b103)])) rfl (by rw [hml]; rfl) (Steps.refl _) (argsL := [(.ref d), (.int p0)]) (rest := []) (lenOf pd_1 rfl) rfl (by show 2 * 0 + _ ≤ _; exact Nat.le_of_eq rfl) (hb hby at_19) (fun _ _ => ⟨rfl, e104, Nat.le_of_ble_eq_true rfl, Nat.le_of_ble_eq_true rfl⟩)
  dsimp only [Pt.U, Pt.locs, Pt.cells, Pt.slots] at X107 l107 y107 z107 st107 hQ107
  subst l107 y107 z107
  obtain ⟨h107, e107⟩ : ∃ z, T107.heap = z := ⟨_, rfl⟩
  rw [e107] at hQ107
  obtain ⟨b1_107, b2_107, k1_107, k2_107, rfl, N107q, Kp107, p107_E_a1, p107_F_brackets_a1, p107_F_contentStarts_a1, p107_F_closes_a1, p107_F_size_a1, p107_V_b1, p107_V_b2, p107_gh_b1, p107_gh_b2, p107_ne_b1_b2⟩ := hQ107
  have Sz3 : h104.size ≤ h107.size := Kp107.1
  have N107 := Fr.app N104 N107q
  have lt_b1_107 : @LT.lt Nat _ b1_107 h107.size := p107_V_b1.lt
  have ne_b103_b1_107_113 : b103 ≠ b1_107 := (by omega : @Ne Nat b103 b1_107)
  have lt_b2_107 : @LT.lt Nat _ b2_107 h107.size := p107_V_b2.lt
  have ne_b103_b2_107_114 : b103 ≠ b2_107 := (by omega : @Ne Nat b103 b2_107)
  have ge115_b1_107 : @LE.le Nat _ n0 b1_107 := by omega
  have ge116_b2_107 : @LE.le Nat _ n0 b2_107 := by omega
  obtain ⟨cq112, kq112, q112a, q112b, q112c⟩ := isOf hZ e107 p107_E_a1
  obtain ⟨_, _, ⟨T112, L112, k112, n112⟩, -, X112, ⟨Lc112, hQ112, l112, y112, z112⟩, st112⟩ := X107.virtualBack hx (y := (⟨"com/example/macroweave/macroweave/BracketPairs", "opened", "(Lcom/example/macroweave/macroweave/Brackets;I)I"⟩ : MethodName)) (z := (⟨"com/example/macroweave/macroweave/BracketPairs", "opened", "(Lcom/example/macroweave/macroweave/Brackets;I)I"⟩ : MethodName)) hown (mvT hZ (wi hw 18 rfl)) (mvT hZ (wi hw 19 rfl)) (notFace_of_selects (args := #[]) (mvT hZ (wi hw 21 rfl))) (mvT hZ (wi hw 21 rfl)) (mvT hZ (wi hw 20 rfl)) (by decide) (backOf (W := 0) (rm_open2n l Z a0 hw [] b103 d p1 p0 b1_107 b2_107 k1_107 k2_107 h107 n0 (by omega) p107_E_a1 p107_F_brackets_a1 p107_F_contentStarts_a1 p107_F_closes_a1 p107_F_size_a1 p107_V_b1 p107_V_b2 ne_b103_b1_107_113 ne_b103_b2_107_114 p107_ne_b1_b2 ge106_b103 ge115_b1_107 ge116_b2_107 hc37_112) hZ (wi hw 22 rfl) (wi hw 5 rfl) (by decide) (by decide)) q112a q112c (g := (mkF mM 29 (Lc_law_lt_1_1_3 p0 p1 p2 p3 p4 d b103) [(.int p1), (.ref d), (.ref b103)])) rfl (by rw [hml]; rfl) (Steps.refl _) (argsL := [(.ref d), (.int p1)]) (rest := []) (lenOf pd_1 rfl) rfl (by show 2 * 0 + _ ≤ _; exact Nat.le_of_eq rfl) (hb hby at_29) (fun _ _ => ⟨rfl, e107, Nat.le_of_ble_eq_true rfl, Nat.le_of_ble_eq_true rfl⟩)
  dsimp only [Pt.U, Pt.locs, Pt.cells, Pt.slots] at X112 l112 y112 z112 st112 hQ112
  subst l112 y112 z112
  obtain ⟨h112, e112⟩ : ∃ z, T112.heap = z := ⟨_, rfl⟩
  rw [e112] at hQ112
  obtain ⟨rfl, N112q, eq112⟩ := hQ112
  rw [eq112] at e112
  have N112 := Fr.app N107 N112q
  obtain ⟨cq117, kq117, q117a, q117b, q117c⟩ := isOf hZ e112 p107_E_a1
  obtain ⟨_, _, ⟨T117, L117, k117, n117⟩, -, X117, ⟨Lc117, hQ117, l117, y117, z117⟩, st117⟩ := X112.virtualBack hx (y := (⟨"com/example/macroweave/macroweave/BracketPairs", "closed", "(II)V"⟩ : MethodName)) (z := (⟨"com/example/macroweave/macroweave/BracketPairs", "closed", "(II)V"⟩ : MethodName)) hown (mvT hZ (wi hw 43 rfl)) (mvT hZ (wi hw 44 rfl)) (notFace_of_selects (args := #[]) (mvT hZ (wi hw 46 rfl))) (mvT hZ (wi hw 46 rfl)) (mvT hZ (wi hw 45 rfl)) (by decide) (backOf (W := 0) (rm_closedn l Z a0 hw [] b103 p2 h107 n0 (by omega) ) hZ (wi hw 47 rfl) (wi hw 5 rfl) (by decide) (by decide)) q117a q117c (g := (mkF mM 109 (Lc_law_lt_1_1_7 p0 p1 p2 p3 p4 d b103) [(.int p2), (.int (-1 : Int32)), (.ref b103)])) rfl (by rw [hml]; rfl) (Steps.refl _) (argsL := [(.int (-1 : Int32)), (.int p2)]) (rest := []) (lenOf pd_5 rfl) rfl (by show 2 * 0 + _ ≤ _; exact Nat.le_of_eq rfl) (hb hby at_109) (fun _ _ => ⟨rfl, e112, Nat.le_of_ble_eq_true rfl, Nat.le_of_ble_eq_true rfl⟩)
  dsimp only [Pt.U, Pt.locs, Pt.cells, Pt.slots] at X117 l117 y117 z117 st117 hQ117
  subst l117 y117 z117
  obtain ⟨h117, e117⟩ : ∃ z, T117.heap = z := ⟨_, rfl⟩
  rw [e117] at hQ117
  obtain ⟨rfl, N117q, eq117⟩ := hQ117
  rw [eq117] at e117
  have N117 := Fr.app N112 N117q
  obtain ⟨cq118, kq118, q118a, q118b, q118c⟩ := isOf hZ e117 p107_E_a1
  obtain ⟨_, _, ⟨T118, L118, k118, n118⟩, -, X118, ⟨Lc118, hQ118, l118, y118, z118⟩, st118⟩ := X117.virtualBack hx (y := (⟨"com/example/macroweave/macroweave/BracketPairs", "closed", "(II)V"⟩ : MethodName)) (z := (⟨"com/example/macroweave/macroweave/BracketPairs", "closed", "(II)V"⟩ : MethodName)) hown (mvT hZ (wi hw 43 rfl)) (mvT hZ (wi hw 44 rfl)) (notFace_of_selects (args := #[]) (mvT hZ (wi hw 46 rfl))) (mvT hZ (wi hw 46 rfl)) (mvT hZ (wi hw 45 rfl)) (by decide) (backOf (W := 0) (rm_closed0 l Z a0 hw [] b103 p3 b2_107 k2_107 (-1 : Int32) (0 : Int32) h107 n0 (by omega) p107_E_a1 p107_F_closes_a1 p107_V_b2 ne_b103_b2_107_114 ge116_b2_107) hZ (wi hw 47 rfl) (wi hw 5 rfl) (by decide) (by decide)) q118a q118c (g := (mkF mM 122 (Lc_law_lt_1_1_7 p0 p1 p2 p3 p4 d b103) [(.int p3), (.int (0 : Int32)), (.ref b103)])) rfl (by rw [hml]; rfl) (Steps.refl _) (argsL := [(.int (0 : Int32)), (.int p3)]) (rest := []) (lenOf pd_5 rfl) rfl (by show 2 * 0 + _ ≤ _; exact Nat.le_of_eq rfl) (hb hby at_122) (fun _ _ => ⟨rfl, e117, Nat.le_of_ble_eq_true rfl, Nat.le_of_ble_eq_true rfl⟩)
  dsimp only [Pt.U, Pt.locs, Pt.cells, Pt.slots] at X118 l118 y118 z118 st118 hQ118
  subst l118 y118 z118
  obtain ⟨h118, e118⟩ : ∃ z, T118.heap = z := ⟨_, rfl⟩
  rw [e118] at hQ118
  obtain ⟨rfl, N118q, Kp118, p118_V_b2⟩ := hQ118
  have Sz4 : h107.size ≤ h118.size := Kp118.1
  have N118 := Fr.app N117 N118q
  have c120_F_brackets_b103 : Fld Z h118 b103 "com/example/macroweave/macroweave/BracketPairs" "brackets" "Lcom/example/macroweave/macroweave/Brackets;" (.ref d) := p107_F_brackets_a1.keep Kp118 (ninS ne_b103_b2_107_114 nin0)
  have c121_F_contentStarts_b103 : Fld Z h118 b103 "com/example/macroweave/macroweave/BracketPairs" "contentStarts" "[I" (.ref b1_107) := p107_F_contentStarts_a1.keep Kp118 (ninS ne_b103_b2_107_114 nin0)
  have c122_F_closes_b103 : Fld Z h118 b103 "com/example/macroweave/macroweave/BracketPairs" "closes" "[I" (.ref b2_107) := p107_F_closes_a1.keep Kp118 (ninS ne_b103_b2_107_114 nin0)
  have c123_F_size_b103 : Fld Z h118 b103 "com/example/macroweave/macroweave/BracketPairs" "size" "I" (.int (1 : Int32)) := p107_F_size_a1.keep Kp118 (ninS ne_b103_b2_107_114 nin0)
  have c124_V_b1_107 : Arv Z h118 b1_107 k1_107 .int (4 : Int32) [(.int p0), (.int (0 : Int32)), (.int (0 : Int32)), (.int (0 : Int32))] (.int (0 : Int32)) := p107_V_b1.keep Kp118 (ninS p107_ne_b1_b2 nin0)
  have c125_E_b103 : Exa Z h118 b103 "com/example/macroweave/macroweave/BracketPairs" := p107_E_a1.keep Kp118
  obtain ⟨cq119, kq119, q119a, q119b, q119c⟩ := isOf hZ e118 c125_E_b103
  obtain ⟨_, _, ⟨T119, L119, k119, n119⟩, -, X119, ⟨Lc119, hQ119, l119, y119, z119⟩, st119⟩ := X118.virtualBack hx (y := (⟨"com/example/macroweave/macroweave/BracketPairs", "close", "(Lcom/example/macroweave/macroweave/Brackets;I)I"⟩ : MethodName)) (z := (⟨"com/example/macroweave/macroweave/BracketPairs", "close", "(Lcom/example/macroweave/macroweave/Brackets;I)I"⟩ : MethodName)) hown (mvT hZ (wi hw 48 rfl)) (mvT hZ (wi hw 49 rfl)) (notFace_of_selects (args := #[]) (mvT hZ (wi hw 51 rfl))) (mvT hZ (wi hw 51 rfl)) (mvT hZ (wi hw 50 rfl)) (by decide) (backOf (W := 0) (rm_close_1x l Z a0 hw [] b103 d b1_107 k1_107 p0 b2_107 k2_107 p3 (0 : Int32) h118 n0 (by omega) c120_F_brackets_b103 c121_F_contentStarts_b103 c122_F_closes_b103 c123_F_size_b103 c124_V_b1_107 p118_V_b2) hZ (wi hw 52 rfl) (wi hw 5 rfl) (by decide) (by decide)) q119a q119c (g := (mkF mM 187 (Lc_law_lt_1_1_9 p0 p1 p2 p3 p4 d b103) [(.int p0), (.ref d), (.ref b103)])) rfl (by rw [hml]; rfl) (Steps.refl _) (argsL := [(.ref d), (.int p0)]) (rest := []) (lenOf pd_1 rfl) rfl (by show 2 * 0 + _ ≤ _; exact Nat.le_of_eq rfl) (hb hby at_187) (fun _ _ => ⟨rfl, e118, Nat.le_of_ble_eq_true rfl, Nat.le_of_ble_eq_true rfl⟩)
  dsimp only [Pt.U, Pt.locs, Pt.cells, Pt.slots] at X119 l119 y119 z119 st119 hQ119
  subst l119 y119 z119
  obtain ⟨h119, e119⟩ : ∃ z, T119.heap = z := ⟨_, rfl⟩
  rw [e119] at hQ119
  obtain ⟨rfl, N119q, eq119⟩ := hQ119
  rw [eq119] at e119
  have N119 := Fr.app N118 N119q
  obtain ⟨cq126, kq126, q126a, q126b, q126c⟩ := isOf hZ e119 c125_E_b103
  obtain ⟨_, _, ⟨T126, L126, k126, n126⟩, -, X126, ⟨Lc126, hQ126, l126, y126, z126⟩, st126⟩ := X119.virtualBack hx (y := (⟨"com/example/macroweave/macroweave/BracketPairs", "close", "(Lcom/example/macroweave/macroweave/Brackets;I)I"⟩ : MethodName)) (z := (⟨"com/example/macroweave/macroweave/BracketPairs", "close", "(Lcom/example/macroweave/macroweave/Brackets;I)I"⟩ : MethodName)) hown (mvT hZ (wi hw 48 rfl)) (mvT hZ (wi hw 49 rfl)) (notFace_of_selects (args := #[]) (mvT hZ (wi hw 51 rfl))) (mvT hZ (wi hw 51 rfl)) (mvT hZ (wi hw 50 rfl)) (by decide) (backOf (W := 0) (rm_close_1y l Z a0 hw [] b103 d b1_107 k1_107 p0 p1 b2_107 k2_107 p3 (0 : Int32) h118 n0 (by omega) c120_F_brackets_b103 c121_F_contentStarts_b103 c122_F_closes_b103 c123_F_size_b103 c124_V_b1_107 p118_V_b2 hc37_112 hc48_103_104_126) hZ (wi hw 52 rfl) (wi hw 5 rfl) (by decide) (by decide)) q126a q126c (g := (mkF mM 200 (Lc_law_lt_1_1_9 p0 p1 p2 p3 p4 d b103) [(.int p1), (.ref d), (.ref b103)])) rfl (by rw [hml]; rfl) (Steps.refl _) (argsL := [(.ref d), (.int p1)]) (rest := []) (lenOf pd_1 rfl) rfl (by show 2 * 0 + _ ≤ _; exact Nat.le_of_eq rfl) (hb hby at_200) (fun _ _ => ⟨rfl, e119, Nat.le_of_ble_eq_true rfl, Nat.le_of_ble_eq_true rfl⟩)
  dsimp only [Pt.U, Pt.locs, Pt.cells, Pt.slots] at X126 l126 y126 z126 st126 hQ126
  subst l126 y126 z126
  obtain ⟨h126, e126⟩ : ∃ z, T126.heap = z := ⟨_, rfl⟩
  rw [e126] at hQ126
  obtain ⟨rfl, N126q, eq126⟩ := hQ126
  rw [eq126] at e126
  have N126 := Fr.app N119 N126q
  obtain ⟨fs, hr, hrun, hended, hW, hsame⟩ := X126.leave (v := some (.int (1 : Int32))) (fun h => by rw [Bd.returns] at h; cases h)
  refine ⟨_, _, pre0 _ ?_, hrun, hended, _, _, rfl, ?_, ⟨_, rfl⟩, hW, hsame.mono (by decide) (by decide)⟩
  · show SS pP eE belowS s₁ (mkF mM 0 (Lc_law_lt_1_1_0 p0 p1 p2 p3 p4) []) _
    refine st102 _ ?_
    show SS pP eE belowS T102 (mkF mM 3 (Lc_law_lt_1_1_0 p0 p1 p2 p3 p4) [(.ref d)]) _
    refine XS.astore X102.here hx rfl (hb hby at_3) rfl rfl (l' := (Lc_law_lt_1_1_1 p0 p1 p2 p3 p4 d)) rfl ?_
    show SS pP eE belowS T102 (mkF mM 5 (Lc_law_lt_1_1_1 p0 p1 p2 p3 p4 d) []) _
    refine st103 _ ?_
    show SS pP eE belowS T103 (mkF mM 8 (Lc_law_lt_1_1_1 p0 p1 p2 p3 p4 d) [(.ref b103)]) _
    refine XS.dup X103.here hx rfl (hb hby at_8) rfl rfl ?_
    show SS pP eE belowS T103 (mkF mM 9 (Lc_law_lt_1_1_1 p0 p1 p2 p3 p4 d) [(.ref b103), (.ref b103)]) _
    refine st104.trans ?_
    show SS pP eE belowS T104 (mkF mM 12 (Lc_law_lt_1_1_1 p0 p1 p2 p3 p4 d) [(.ref b103)]) _
    refine XS.astore X104.here hx rfl (hb hby at_12) rfl rfl (l' := (Lc_law_lt_1_1_2 p0 p1 p2 p3 p4 d b103)) rfl ?_
    show SS pP eE belowS T104 (mkF mM 14 (Lc_law_lt_1_1_2 p0 p1 p2 p3 p4 d b103) []) _
    refine XS.aload X104.here hx rfl (hb hby at_14) rfl rfl ?_
    show SS pP eE belowS T104 (mkF mM 16 (Lc_law_lt_1_1_2 p0 p1 p2 p3 p4 d b103) [(.ref b103)]) _
    refine XS.aload X104.here hx rfl (hb hby at_16) rfl rfl ?_
    show SS pP eE belowS T104 (mkF mM 18 (Lc_law_lt_1_1_2 p0 p1 p2 p3 p4 d b103) [(.ref d), (.ref b103)]) _
    refine XS.iloadN X104.here hx rfl (hb hby at_18) rfl ?_
    show SS pP eE belowS T104 (mkF mM 19 (Lc_law_lt_1_1_2 p0 p1 p2 p3 p4 d b103) [(.int p0), (.ref d), (.ref b103)]) _
    refine st107.trans ?_
    show SS pP eE belowS T107 (mkF mM 22 (Lc_law_lt_1_1_2 p0 p1 p2 p3 p4 d b103) [(.int (0 : Int32))]) _
    refine XS.istore X107.here hx rfl (hb hby at_22) rfl (l' := (Lc_law_lt_1_1_3 p0 p1 p2 p3 p4 d b103)) rfl ?_
    show SS pP eE belowS T107 (mkF mM 24 (Lc_law_lt_1_1_3 p0 p1 p2 p3 p4 d b103) []) _
    refine XS.aload X107.here hx rfl (hb hby at_24) rfl rfl ?_
    show SS pP eE belowS T107 (mkF mM 26 (Lc_law_lt_1_1_3 p0 p1 p2 p3 p4 d b103) [(.ref b103)]) _
    refine XS.aload X107.here hx rfl (hb hby at_26) rfl rfl ?_
    show SS pP eE belowS T107 (mkF mM 28 (Lc_law_lt_1_1_3 p0 p1 p2 p3 p4 d b103) [(.ref d), (.ref b103)]) _
    refine XS.iloadN X107.here hx rfl (hb hby at_28) rfl ?_
    show SS pP eE belowS T107 (mkF mM 29 (Lc_law_lt_1_1_3 p0 p1 p2 p3 p4 d b103) [(.int p1), (.ref d), (.ref b103)]) _
    refine st112.trans ?_
    show SS pP eE belowS T112 (mkF mM 32 (Lc_law_lt_1_1_3 p0 p1 p2 p3 p4 d b103) [(.int (-1 : Int32))]) _
    refine XS.istore X112.here hx rfl (hb hby at_32) rfl (l' := (Lc_law_lt_1_1_4 p0 p1 p2 p3 p4 d b103)) rfl ?_
    show SS pP eE belowS T112 (mkF mM 34 (Lc_law_lt_1_1_4 p0 p1 p2 p3 p4 d b103) []) _
    refine XS.iload X112.here hx rfl (hb hby at_34) rfl ?_
    show SS pP eE belowS T112 (mkF mM 36 (Lc_law_lt_1_1_4 p0 p1 p2 p3 p4 d b103) [(.int (0 : Int32))]) _
    refine XS.ifYes X112.here hx rfl (pc0 := 36) (pc' := 41) rfl (hb hby at_36) rfl ((if0 _ _).trans (teq (by decide : (0 : Int32) = (0 : Int32))).1) (by decide) (by decide) ?_
    show SS pP eE belowS T112 (mkF mM 41 (Lc_law_lt_1_1_4 p0 p1 p2 p3 p4 d b103) []) _
    refine XS.iload X112.here hx rfl (hb hby at_41) rfl ?_
    show SS pP eE belowS T112 (mkF mM 43 (Lc_law_lt_1_1_4 p0 p1 p2 p3 p4 d b103) [(.int (-1 : Int32))]) _
    refine XS.iloadN X112.here hx rfl (hb hby at_43) rfl ?_
    show SS pP eE belowS T112 (mkF mM 44 (Lc_law_lt_1_1_4 p0 p1 p2 p3 p4 d b103) [(.int p1), (.int (-1 : Int32))]) _
    refine XS.iloadN X112.here hx rfl (hb hby at_44) rfl ?_
    show SS pP eE belowS T112 (mkF mM 45 (Lc_law_lt_1_1_4 p0 p1 p2 p3 p4 d b103) [(.int p0), (.int p1), (.int (-1 : Int32))]) _
    refine XS.icmpYes X112.here hx rfl (pc0 := 45) (pc' := 52) rfl (hb hby at_45) rfl (flt hc37_112).2.2.2 (by decide) (by decide) ?_
    show SS pP eE belowS T112 (mkF mM 52 (Lc_law_lt_1_1_4 p0 p1 p2 p3 p4 d b103) [(.int (-1 : Int32))]) _
    refine XS.iconst X112.here hx rfl (hb hby at_52) ?_
    show SS pP eE belowS T112 (mkF mM 53 (Lc_law_lt_1_1_4 p0 p1 p2 p3 p4 d b103) [(.int (-1 : Int32)), (.int (-1 : Int32))]) _
    refine XS.icmpYes X112.here hx rfl (pc0 := 53) (pc' := 58) rfl (hb hby at_53) rfl (teq (by decide : (-1 : Int32) = (-1 : Int32))).1 (by decide) (by decide) ?_
    show SS pP eE belowS T112 (mkF mM 58 (Lc_law_lt_1_1_4 p0 p1 p2 p3 p4 d b103) []) _
    refine XS.iload X112.here hx rfl (hb hby at_58) rfl ?_
    show SS pP eE belowS T112 (mkF mM 60 (Lc_law_lt_1_1_4 p0 p1 p2 p3 p4 d b103) [(.int p4)]) _
    refine XS.iconst X112.here hx rfl (hb hby at_60) ?_
    show SS pP eE belowS T112 (mkF mM 61 (Lc_law_lt_1_1_4 p0 p1 p2 p3 p4 d b103) [(.int (3 : Int32)), (.int p4)]) _
    refine XS.iand X112.here hx rfl (hb hby at_61) rfl ?_
    show SS pP eE belowS T112 (mkF mM 62 (Lc_law_lt_1_1_4 p0 p1 p2 p3 p4 d b103) [(.int (p4 &&& (3 : Int32)))]) _
    refine XS.istore X112.here hx rfl (hb hby at_62) rfl (l' := (Lc_law_lt_1_1_5 p0 p1 p2 p3 p4 d b103)) rfl ?_
    show SS pP eE belowS T112 (mkF mM 64 (Lc_law_lt_1_1_5 p0 p1 p2 p3 p4 d b103) []) _
    refine XS.iload X112.here hx rfl (hb hby at_64) rfl ?_
    show SS pP eE belowS T112 (mkF mM 66 (Lc_law_lt_1_1_5 p0 p1 p2 p3 p4 d b103) [(.int (p4 &&& (3 : Int32)))]) _
    refine XS.ifYes X112.here hx rfl (pc0 := 66) (pc' := 74) rfl (hb hby at_66) rfl ((if0 _ _).trans (feq hc66).2) (by decide) (by decide) ?_
    show SS pP eE belowS T112 (mkF mM 74 (Lc_law_lt_1_1_5 p0 p1 p2 p3 p4 d b103) []) _
    refine XS.iload X112.here hx rfl (hb hby at_74) rfl ?_
    show SS pP eE belowS T112 (mkF mM 76 (Lc_law_lt_1_1_5 p0 p1 p2 p3 p4 d b103) [(.int (p4 &&& (3 : Int32)))]) _
    refine XS.iconst X112.here hx rfl (hb hby at_76) ?_
    show SS pP eE belowS T112 (mkF mM 77 (Lc_law_lt_1_1_5 p0 p1 p2 p3 p4 d b103) [(.int (1 : Int32)), (.int (p4 &&& (3 : Int32)))]) _
    refine XS.icmpNo X112.here hx rfl (hb hby at_77) rfl (teq hc77).2 ?_
    show SS pP eE belowS T112 (mkF mM 80 (Lc_law_lt_1_1_5 p0 p1 p2 p3 p4 d b103) []) _
    refine XS.iload X112.here hx rfl (hb hby at_80) rfl ?_
    show SS pP eE belowS T112 (mkF mM 82 (Lc_law_lt_1_1_5 p0 p1 p2 p3 p4 d b103) [(.int (-1 : Int32))]) _
    refine XS.goto X112.here hx rfl (pc0 := 82) (pc' := 86) rfl (hb hby at_82) (by decide) (by decide) ?_
    show SS pP eE belowS T112 (mkF mM 86 (Lc_law_lt_1_1_5 p0 p1 p2 p3 p4 d b103) [(.int (-1 : Int32))]) _
    refine XS.istore X112.here hx rfl (hb hby at_86) rfl (l' := (Lc_law_lt_1_1_6 p0 p1 p2 p3 p4 d b103)) rfl ?_
    show SS pP eE belowS T112 (mkF mM 88 (Lc_law_lt_1_1_6 p0 p1 p2 p3 p4 d b103) []) _
    refine XS.iload X112.here hx rfl (hb hby at_88) rfl ?_
    show SS pP eE belowS T112 (mkF mM 90 (Lc_law_lt_1_1_6 p0 p1 p2 p3 p4 d b103) [(.int p4)]) _
    refine XS.iconst X112.here hx rfl (hb hby at_90) ?_
    show SS pP eE belowS T112 (mkF mM 91 (Lc_law_lt_1_1_6 p0 p1 p2 p3 p4 d b103) [(.int (2 : Int32)), (.int p4)]) _
    refine XS.ishr X112.here hx rfl (hb hby at_91) rfl ?_
    show SS pP eE belowS T112 (mkF mM 92 (Lc_law_lt_1_1_6 p0 p1 p2 p3 p4 d b103) [(.int (p4 >>> ((2 : Int32) &&& 31)))]) _
    refine XS.iconst X112.here hx rfl (hb hby at_92) ?_
    show SS pP eE belowS T112 (mkF mM 93 (Lc_law_lt_1_1_6 p0 p1 p2 p3 p4 d b103) [(.int (1 : Int32)), (.int (p4 >>> ((2 : Int32) &&& 31)))]) _
    refine XS.iand X112.here hx rfl (hb hby at_93) rfl ?_
    show SS pP eE belowS T112 (mkF mM 94 (Lc_law_lt_1_1_6 p0 p1 p2 p3 p4 d b103) [(.int ((p4 >>> ((2 : Int32) &&& 31)) &&& (1 : Int32)))]) _
    refine XS.ifNo X112.here hx rfl (hb hby at_94) rfl ((if0 _ _).trans (feq hc94).1) ?_
    show SS pP eE belowS T112 (mkF mM 97 (Lc_law_lt_1_1_6 p0 p1 p2 p3 p4 d b103) []) _
    refine XS.iconst X112.here hx rfl (hb hby at_97) ?_
    show SS pP eE belowS T112 (mkF mM 98 (Lc_law_lt_1_1_6 p0 p1 p2 p3 p4 d b103) [(.int (1 : Int32))]) _
    refine XS.goto X112.here hx rfl (pc0 := 98) (pc' := 102) rfl (hb hby at_98) (by decide) (by decide) ?_
    show SS pP eE belowS T112 (mkF mM 102 (Lc_law_lt_1_1_6 p0 p1 p2 p3 p4 d b103) [(.int (1 : Int32))]) _
    refine XS.istore X112.here hx rfl (hb hby at_102) rfl (l' := (Lc_law_lt_1_1_7 p0 p1 p2 p3 p4 d b103)) rfl ?_
    show SS pP eE belowS T112 (mkF mM 104 (Lc_law_lt_1_1_7 p0 p1 p2 p3 p4 d b103) []) _
    refine XS.aload X112.here hx rfl (hb hby at_104) rfl rfl ?_
    show SS pP eE belowS T112 (mkF mM 106 (Lc_law_lt_1_1_7 p0 p1 p2 p3 p4 d b103) [(.ref b103)]) _
    refine XS.iload X112.here hx rfl (hb hby at_106) rfl ?_
    show SS pP eE belowS T112 (mkF mM 108 (Lc_law_lt_1_1_7 p0 p1 p2 p3 p4 d b103) [(.int (-1 : Int32)), (.ref b103)]) _
    refine XS.iloadN X112.here hx rfl (hb hby at_108) rfl ?_
    show SS pP eE belowS T112 (mkF mM 109 (Lc_law_lt_1_1_7 p0 p1 p2 p3 p4 d b103) [(.int p2), (.int (-1 : Int32)), (.ref b103)]) _
    refine st117.trans ?_
    show SS pP eE belowS T117 (mkF mM 112 (Lc_law_lt_1_1_7 p0 p1 p2 p3 p4 d b103) []) _
    refine XS.iload X117.here hx rfl (hb hby at_112) rfl ?_
    show SS pP eE belowS T117 (mkF mM 114 (Lc_law_lt_1_1_7 p0 p1 p2 p3 p4 d b103) [(.int (1 : Int32))]) _
    refine XS.ifNo X117.here hx rfl (hb hby at_114) rfl ((if0 _ _).trans (feq (by decide : ¬ ((1 : Int32) = (0 : Int32)))).1) ?_
    show SS pP eE belowS T117 (mkF mM 117 (Lc_law_lt_1_1_7 p0 p1 p2 p3 p4 d b103) []) _
    refine XS.aload X117.here hx rfl (hb hby at_117) rfl rfl ?_
    show SS pP eE belowS T117 (mkF mM 119 (Lc_law_lt_1_1_7 p0 p1 p2 p3 p4 d b103) [(.ref b103)]) _
    refine XS.iload X117.here hx rfl (hb hby at_119) rfl ?_
    show SS pP eE belowS T117 (mkF mM 121 (Lc_law_lt_1_1_7 p0 p1 p2 p3 p4 d b103) [(.int (0 : Int32)), (.ref b103)]) _
    refine XS.iloadN X117.here hx rfl (hb hby at_121) rfl ?_
    show SS pP eE belowS T117 (mkF mM 122 (Lc_law_lt_1_1_7 p0 p1 p2 p3 p4 d b103) [(.int p3), (.int (0 : Int32)), (.ref b103)]) _
    refine st118.trans ?_
    show SS pP eE belowS T118 (mkF mM 125 (Lc_law_lt_1_1_7 p0 p1 p2 p3 p4 d b103) []) _
    refine XS.iload X118.here hx rfl (hb hby at_125) rfl ?_
    show SS pP eE belowS T118 (mkF mM 127 (Lc_law_lt_1_1_7 p0 p1 p2 p3 p4 d b103) [(.int (1 : Int32))]) _
    refine XS.ifNo X118.here hx rfl (hb hby at_127) rfl ((if0 _ _).trans (feq (by decide : ¬ ((1 : Int32) = (0 : Int32)))).1) ?_
    show SS pP eE belowS T118 (mkF mM 130 (Lc_law_lt_1_1_7 p0 p1 p2 p3 p4 d b103) []) _
    refine XS.iloadN X118.here hx rfl (hb hby at_130) rfl ?_
    show SS pP eE belowS T118 (mkF mM 131 (Lc_law_lt_1_1_7 p0 p1 p2 p3 p4 d b103) [(.int p3)]) _
    refine XS.goto X118.here hx rfl (pc0 := 131) (pc' := 144) rfl (hb hby at_131) (by decide) (by decide) ?_
    show SS pP eE belowS T118 (mkF mM 144 (Lc_law_lt_1_1_7 p0 p1 p2 p3 p4 d b103) [(.int p3)]) _
    refine XS.istore X118.here hx rfl (hb hby at_144) rfl (l' := (Lc_law_lt_1_1_8 p0 p1 p2 p3 p4 d b103)) rfl ?_
    show SS pP eE belowS T118 (mkF mM 146 (Lc_law_lt_1_1_8 p0 p1 p2 p3 p4 d b103) []) _
    refine XS.iloadN X118.here hx rfl (hb hby at_146) rfl ?_
    show SS pP eE belowS T118 (mkF mM 147 (Lc_law_lt_1_1_8 p0 p1 p2 p3 p4 d b103) [(.int p1)]) _
    refine XS.iloadN X118.here hx rfl (hb hby at_147) rfl ?_
    show SS pP eE belowS T118 (mkF mM 148 (Lc_law_lt_1_1_8 p0 p1 p2 p3 p4 d b103) [(.int p0), (.int p1)]) _
    refine XS.icmpYes X118.here hx rfl (pc0 := 148) (pc' := 167) rfl (hb hby at_148) rfl (flt hc37_112).2.2.2 (by decide) (by decide) ?_
    show SS pP eE belowS T118 (mkF mM 167 (Lc_law_lt_1_1_8 p0 p1 p2 p3 p4 d b103) []) _
    refine XS.iloadN X118.here hx rfl (hb hby at_167) rfl ?_
    show SS pP eE belowS T118 (mkF mM 168 (Lc_law_lt_1_1_8 p0 p1 p2 p3 p4 d b103) [(.int p1)]) _
    refine XS.iloadN X118.here hx rfl (hb hby at_168) rfl ?_
    show SS pP eE belowS T118 (mkF mM 169 (Lc_law_lt_1_1_8 p0 p1 p2 p3 p4 d b103) [(.int p0), (.int p1)]) _
    refine XS.icmpYes X118.here hx rfl (pc0 := 169) (pc' := 179) rfl (hb hby at_169) rfl (feq hc169).2 (by decide) (by decide) ?_
    show SS pP eE belowS T118 (mkF mM 179 (Lc_law_lt_1_1_8 p0 p1 p2 p3 p4 d b103) []) _
    refine XS.iconst X118.here hx rfl (hb hby at_179) ?_
    show SS pP eE belowS T118 (mkF mM 180 (Lc_law_lt_1_1_8 p0 p1 p2 p3 p4 d b103) [(.int (-1 : Int32))]) _
    refine XS.istore X118.here hx rfl (hb hby at_180) rfl (l' := (Lc_law_lt_1_1_9 p0 p1 p2 p3 p4 d b103)) rfl ?_
    show SS pP eE belowS T118 (mkF mM 182 (Lc_law_lt_1_1_9 p0 p1 p2 p3 p4 d b103) []) _
    refine XS.aload X118.here hx rfl (hb hby at_182) rfl rfl ?_
    show SS pP eE belowS T118 (mkF mM 184 (Lc_law_lt_1_1_9 p0 p1 p2 p3 p4 d b103) [(.ref b103)]) _
    refine XS.aload X118.here hx rfl (hb hby at_184) rfl rfl ?_
    show SS pP eE belowS T118 (mkF mM 186 (Lc_law_lt_1_1_9 p0 p1 p2 p3 p4 d b103) [(.ref d), (.ref b103)]) _
    refine XS.iloadN X118.here hx rfl (hb hby at_186) rfl ?_
    show SS pP eE belowS T118 (mkF mM 187 (Lc_law_lt_1_1_9 p0 p1 p2 p3 p4 d b103) [(.int p0), (.ref d), (.ref b103)]) _
    refine st119.trans ?_
    show SS pP eE belowS T119 (mkF mM 190 (Lc_law_lt_1_1_9 p0 p1 p2 p3 p4 d b103) [(.int p3)]) _
    refine XS.iload X119.here hx rfl (hb hby at_190) rfl ?_
    show SS pP eE belowS T119 (mkF mM 192 (Lc_law_lt_1_1_9 p0 p1 p2 p3 p4 d b103) [(.int p3), (.int p3)]) _
    refine XS.icmpNo X119.here hx rfl (hb hby at_192) rfl (teq (rfl : p3 = p3)).2 ?_
    show SS pP eE belowS T119 (mkF mM 195 (Lc_law_lt_1_1_9 p0 p1 p2 p3 p4 d b103) []) _
    refine XS.aload X119.here hx rfl (hb hby at_195) rfl rfl ?_
    show SS pP eE belowS T119 (mkF mM 197 (Lc_law_lt_1_1_9 p0 p1 p2 p3 p4 d b103) [(.ref b103)]) _
    refine XS.aload X119.here hx rfl (hb hby at_197) rfl rfl ?_
    show SS pP eE belowS T119 (mkF mM 199 (Lc_law_lt_1_1_9 p0 p1 p2 p3 p4 d b103) [(.ref d), (.ref b103)]) _
    refine XS.iloadN X119.here hx rfl (hb hby at_199) rfl ?_
    show SS pP eE belowS T119 (mkF mM 200 (Lc_law_lt_1_1_9 p0 p1 p2 p3 p4 d b103) [(.int p1), (.ref d), (.ref b103)]) _
    refine st126.trans ?_
    show SS pP eE belowS T126 (mkF mM 203 (Lc_law_lt_1_1_9 p0 p1 p2 p3 p4 d b103) [(.int (-1 : Int32))]) _
    refine XS.iload X126.here hx rfl (hb hby at_203) rfl ?_
    show SS pP eE belowS T126 (mkF mM 205 (Lc_law_lt_1_1_9 p0 p1 p2 p3 p4 d b103) [(.int (-1 : Int32)), (.int (-1 : Int32))]) _
    refine XS.icmpNo X126.here hx rfl (hb hby at_205) rfl (teq (by decide : (-1 : Int32) = (-1 : Int32))).2 ?_
    show SS pP eE belowS T126 (mkF mM 208 (Lc_law_lt_1_1_9 p0 p1 p2 p3 p4 d b103) []) _
    refine XS.iconst X126.here hx rfl (hb hby at_208) ?_
    show SS pP eE belowS T126 (mkF mM 209 (Lc_law_lt_1_1_9 p0 p1 p2 p3 p4 d b103) [(.int (1 : Int32))]) _
    refine XS.goto X126.here hx rfl (pc0 := 209) (pc' := 213) rfl (hb hby at_209) (by decide) (by decide) ?_
    show SS pP eE belowS T126 (mkF mM 213 (Lc_law_lt_1_1_9 p0 p1 p2 p3 p4 d b103) [(.int (1 : Int32))]) _
    exact retN X126 hx (t := .boolean) Bd.returns (by simp) (hb hby at_213) hr
  · exact ⟨rfl, N126⟩

abbrev Lc_law_lt_2_0_0 (p0 : Int32) (p1 : Int32) (p2 : Int32) (p3 : Int32) (p4 : Int32) : Array Slot := #[.val (.int p0), .val (.int p1), .val (.int p2), .val (.int p3), .val (.int p4), .unset, .unset, .unset, .unset, .unset, .unset, .unset, .unset, .unset]
abbrev Lc_law_lt_2_0_1 (p0 : Int32) (p1 : Int32) (p2 : Int32) (p3 : Int32) (p4 : Int32) (d : Addr) : Array Slot := #[.val (.int p0), .val (.int p1), .val (.int p2), .val (.int p3), .val (.int p4), .val (.ref d), .unset, .unset, .unset, .unset, .unset, .unset, .unset, .unset]
abbrev Lc_law_lt_2_0_2 (p0 : Int32) (p1 : Int32) (p2 : Int32) (p3 : Int32) (p4 : Int32) (d : Addr) (b103 : Addr) : Array Slot := #[.val (.int p0), .val (.int p1), .val (.int p2), .val (.int p3), .val (.int p4), .val (.ref d), .val (.ref b103), .unset, .unset, .unset, .unset, .unset, .unset, .unset]
abbrev Lc_law_lt_2_0_3 (p0 : Int32) (p1 : Int32) (p2 : Int32) (p3 : Int32) (p4 : Int32) (d : Addr) (b103 : Addr) : Array Slot := #[.val (.int p0), .val (.int p1), .val (.int p2), .val (.int p3), .val (.int p4), .val (.ref d), .val (.ref b103), .val (.int (0 : Int32)), .unset, .unset, .unset, .unset, .unset, .unset]
abbrev Lc_law_lt_2_0_4 (p0 : Int32) (p1 : Int32) (p2 : Int32) (p3 : Int32) (p4 : Int32) (d : Addr) (b103 : Addr) : Array Slot := #[.val (.int p0), .val (.int p1), .val (.int p2), .val (.int p3), .val (.int p4), .val (.ref d), .val (.ref b103), .val (.int (0 : Int32)), .val (.int (-1 : Int32)), .unset, .unset, .unset, .unset, .unset]
abbrev Lc_law_lt_2_0_5 (p0 : Int32) (p1 : Int32) (p2 : Int32) (p3 : Int32) (p4 : Int32) (d : Addr) (b103 : Addr) : Array Slot := #[.val (.int p0), .val (.int p1), .val (.int p2), .val (.int p3), .val (.int p4), .val (.ref d), .val (.ref b103), .val (.int (0 : Int32)), .val (.int (-1 : Int32)), .val (.int (p4 &&& (3 : Int32))), .unset, .unset, .unset, .unset]
abbrev Lc_law_lt_2_0_6 (p0 : Int32) (p1 : Int32) (p2 : Int32) (p3 : Int32) (p4 : Int32) (d : Addr) (b103 : Addr) : Array Slot := #[.val (.int p0), .val (.int p1), .val (.int p2), .val (.int p3), .val (.int p4), .val (.ref d), .val (.ref b103), .val (.int (0 : Int32)), .val (.int (-1 : Int32)), .val (.int (p4 &&& (3 : Int32))), .val (.int (-1 : Int32)), .unset, .unset, .unset]
abbrev Lc_law_lt_2_0_7 (p0 : Int32) (p1 : Int32) (p2 : Int32) (p3 : Int32) (p4 : Int32) (d : Addr) (b103 : Addr) : Array Slot := #[.val (.int p0), .val (.int p1), .val (.int p2), .val (.int p3), .val (.int p4), .val (.ref d), .val (.ref b103), .val (.int (0 : Int32)), .val (.int (-1 : Int32)), .val (.int (p4 &&& (3 : Int32))), .val (.int (-1 : Int32)), .val (.int (0 : Int32)), .unset, .unset]
abbrev Lc_law_lt_2_0_8 (p0 : Int32) (p1 : Int32) (p2 : Int32) (p3 : Int32) (p4 : Int32) (d : Addr) (b103 : Addr) : Array Slot := #[.val (.int p0), .val (.int p1), .val (.int p2), .val (.int p3), .val (.int p4), .val (.ref d), .val (.ref b103), .val (.int (0 : Int32)), .val (.int (-1 : Int32)), .val (.int (p4 &&& (3 : Int32))), .val (.int (-1 : Int32)), .val (.int (0 : Int32)), .val (.int (-1 : Int32)), .unset]
abbrev Lc_law_lt_2_0_9 (p0 : Int32) (p1 : Int32) (p2 : Int32) (p3 : Int32) (p4 : Int32) (d : Addr) (b103 : Addr) : Array Slot := #[.val (.int p0), .val (.int p1), .val (.int p2), .val (.int p3), .val (.int p4), .val (.ref d), .val (.ref b103), .val (.int (0 : Int32)), .val (.int (-1 : Int32)), .val (.int (p4 &&& (3 : Int32))), .val (.int (-1 : Int32)), .val (.int (0 : Int32)), .val (.int (-1 : Int32)), .val (.int (-1 : Int32))]
theorem ef_law_lt_2_0 (mM : MethodId) (p0 : Int32) (p1 : Int32) (p2 : Int32) (p3 : Int32) (p4 : Int32) (aN : Addr) (kN : ClassId) (d : Addr) : entryFrame mM #[(.int p0), (.int p1), (.int p2), (.int p3), (.int p4)] maxLocals = mkF mM 0 #[.val (.int p0), .val (.int p1), .val (.int p2), .val (.int p3), .val (.int p4), .unset, .unset, .unset, .unset, .unset, .unset, .unset, .unset, .unset] [] := by first | (simp [entryFrame, mkF, argsToLocals, Value.category, maxLocals]; done) | rfl
set_option maxRecDepth 65536 in
set_option maxHeartbeats 40000000 in
theorem rm_law_lt_2_0 (l : Launch) (Z : State) (a0 : Array Value) (hw : ∀ d ∈ tables_1, d.before a0 Z = true) (ws : List Jvm.Cond) (p0 : Int32) (p1 : Int32) (p2 : Int32) (p3 : Int32) (p4 : Int32) (aN : Addr) (kN : ClassId) (d : Addr) (h0 : Heap) (n0 : Nat) (Z0 : n0 ≤ h0.size) (OL : Old Z n0 h0) (S_DEFAULT : Sta Z Z.heap "com/example/macroweave/macroweave/Brackets" "DEFAULT" "Lcom/example/macroweave/macroweave/Brackets;" (.ref d)) (S_NONE : Sta Z Z.heap "com/example/macroweave/macroweave/BracketPairs" "NONE" "[I" (.ref aN)) (V_aN : Arv Z h0 aN kN .int (0 : Int32) [] (.int (0 : Int32))) (hc37_112 : ¬ (p0 < p1)) (hc66 : ¬ ((p4 &&& (3 : Int32)) = (0 : Int32))) (hc77 : ¬ ((p4 &&& (3 : Int32)) = (1 : Int32))) (hc94 : ((p4 >>> ((2 : Int32) &&& 31)) &&& (1 : Int32)) = (0 : Int32)) (hc169 : ¬ (p1 = p0)) (hc48_103_104_119 : p1 < p0) :
    MetFree l x (head1 (Jvm.Cond.code x code maxLocals ret :: ws) room_1) (fun xa xU => xa = #[(.int p0), (.int p1), (.int p2), (.int p3), (.int p4)] ∧ Z.Warmed39 xU.vm ∧ xU.heap = h0) (fun _ _ _ _ _ => True) (fun _ xU xo xU' => ∃ xv xL, xo = .returned xv ∧ Q_law n0 xv xL ∧ FrameEnd xU xo xU' xL room_1.cells room_1.slots) := by
  refine MetFree.of_bodySF (plainFor_of_name pn_com_example_macroweave_macroweave_BracketPairsClosedPinLaw) hisR ?_
  intro pP eE sS mM argS belowS methS cC s₁ Bd hml0 hP hK
  obtain ⟨rfl, hZ, hh⟩ := hP
  have hx := Bd.exec
  have hby := Bd.bytes
  have hml : cC.maxLocals = 14 := hml0
  have hown : sS.vm.findClass "com/example/macroweave/macroweave/BracketPairsClosedPinLaw" = some mM.cls := findClass_of_methodNamed Bd.named
  have hnm := (name_of_methodNamed Bd.named Bd.method).1
  have X0 : Stand pP l eE room_1 sS mM #[(.int p0), (.int p1), (.int p2), (.int p3), (.int p4)] belowS methS cC s₁ [] 0 0 := Stand.of_body Bd
  have e0 : s₁.heap = h0 := by rw [← hh, Bd.state]; rfl
  have N0 := Fr.nil n0
  have pre0 : ∀ t', Steps pP.tables eE belowS (s₁.setTop (mkF mM 0 #[.val (.int p0), .val (.int p1), .val (.int p2), .val (.int p3), .val (.int p4), .unset, .unset, .unset, .unset, .unset, .unset, .unset, .unset, .unset] [])) t' → Steps pP.tables eE belowS (s₁.setTop (entryFrame mM #[(.int p0), (.int p1), (.int p2), (.int p3), (.int p4)] maxLocals)) t' := fun t' kk' => castTop (ef_law_lt_2_0 mM p0 p1 p2 p3 p4 aN kN d) kk'
  have c101_S_DEFAULT : Sta Z h0 "com/example/macroweave/macroweave/Brackets" "DEFAULT" "Lcom/example/macroweave/macroweave/Brackets;" (.ref d) := Sta.ext OL.2 S_DEFAULT
  obtain ⟨T102, X102, e102, st102⟩ := getS2 X0 hx hZ hown (host := "") (Or.inl (wi hw 0 rfl)) Via.refl e0 c101_S_DEFAULT (g := (mkF mM 0 (Lc_law_lt_2_0_0 p0 p1 p2 p3 p4) [])) rfl (hb hby at_0)
  obtain ⟨T103, h103, X103, e103, E103, A103, D103, B103, st103⟩ := newO X102 hx hZ hown (wi hw 3 rfl) (wi hw 4 rfl) (wi hw 5 rfl) e102 (g := (mkF mM 5 (Lc_law_lt_2_0_1 p0 p1 p2 p3 p4 d) [])) rfl (hb hby at_5) (by decide) (by decide)
  obtain ⟨b103, g103⟩ : ∃ z : Nat, z = h0.size := ⟨_, rfl⟩
  rw [← g103] at A103 D103 B103 st103
  have Sz1 : h0.size ≤ h103.size := E103.1
  have F103_contentStarts : Fld Z h103 b103 "com/example/macroweave/macroweave/BracketPairs" "contentStarts" "[I" .null := D103 (Or.inl (wi hw 15 rfl)) (ty := (.array .int)) (by decide)
  have F103_closes : Fld Z h103 b103 "com/example/macroweave/macroweave/BracketPairs" "closes" "[I" .null := D103 (Or.inl (wi hw 17 rfl)) (ty := (.array .int)) (by decide)
  have F103_brackets : Fld Z h103 b103 "com/example/macroweave/macroweave/BracketPairs" "brackets" "Lcom/example/macroweave/macroweave/Brackets;" .null := D103 (Or.inl (wi hw 24 rfl)) (ty := (.object "com/example/macroweave/macroweave/Brackets")) (by decide)
  have F103_size : Fld Z h103 b103 "com/example/macroweave/macroweave/BracketPairs" "size" "I" (.int (0 : Int32)) := D103 (Or.inl (wi hw 26 rfl)) (ty := .int) (by decide)
  have c105_OL : Old Z n0 h103 := OL.ext E103
  have ge106_b103 : @LE.le Nat _ n0 b103 := by omega
  obtain ⟨_, _, ⟨T104, L104, k104, n104⟩, -, X104, ⟨Lc104, hQ104, l104, y104, z104⟩, st104⟩ := X103.specialBack hx (y := (⟨"com/example/macroweave/macroweave/BracketPairs", "<init>", "()V"⟩ : MethodName)) rfl hown (mvT hZ (wi hw 6 rfl)) (mvT hZ (wi hw 7 rfl)) (mvT hZ (wi hw 8 rfl)) (by decide) (backOf (W := 1) (rm_init l Z a0 hw [] b103 aN .null .null .null (.int (0 : Int32)) h103 n0 (by omega) A103 F103_contentStarts F103_closes F103_brackets F103_size ge106_b103 c105_OL S_NONE) hZ (wi hw 8 rfl) (wi hw 5 rfl) (by decide) (by decide)) (g := (mkF mM 9 (Lc_law_lt_2_0_1 p0 p1 p2 p3 p4 d) [(.ref b103), (.ref b103)])) rfl (by rw [hml]; rfl) (Steps.refl _) (a := b103) (argsL := []) (rest := [(.ref b103)]) (lenOf pd_0 rfl) rfl (by show 2 * 0 + _ ≤ _; exact Nat.le_of_eq rfl) (hb hby at_9) (fun _ _ => ⟨rfl, e103, Nat.le_of_ble_eq_true rfl, Nat.le_of_ble_eq_true rfl⟩)
  dsimp only [Pt.U, Pt.locs, Pt.cells, Pt.slots] at X104 l104 y104 z104 st104 hQ104
  subst l104 y104 z104
  obtain ⟨h104, e104⟩ : ∃ z, T104.heap = z := ⟨_, rfl⟩
  rw [e104] at hQ104
  obtain ⟨rfl, N104q, Kp104, p104_E_a1, p104_F_contentStarts_a1, p104_F_closes_a1, p104_F_brackets_a1, p104_F_size_a1⟩ := hQ104
  have Sz2 : h103.size ≤ h104.size := Kp104.1
  have N104 := Fr.app N0 N104q
  have c108_V_aN : Arv Z h103 aN kN .int (0 : Int32) [] (.int (0 : Int32)) := V_aN.ext E103
  have lt_aN : @LT.lt Nat _ aN h0.size := V_aN.lt
  have lt_b103 : @LT.lt Nat _ b103 h104.size := p104_E_a1.lt
  have ne_aN_b103_109 : aN ≠ b103 := (by omega : @Ne Nat aN b103)
  have c110_V_aN : Arv Z h104 aN kN .int (0 : Int32) [] (.int (0 : Int32)) := c108_V_aN.keep Kp104 (ninS ne_aN_b103_109 nin0)
  have ne_b103_aN_111 : b103 ≠ aN := (by omega : @Ne Nat b103 aN)
  obtain ⟨cq107, kq107, q107a, q107b, q107c⟩ := isOf hZ e104 p104_E_a1
  obtain ⟨_, _, ⟨T107, L107, k107, n107⟩, -, X107, ⟨Lc107, hQ107, l107, y107, z107⟩, st107⟩ := X104.virtualBack hx (y := (⟨"com/example/macroweave/macroweave/BracketPairs", "opened", "(Lcom/example/macroweave/macroweave/Brackets;I)I"⟩ : MethodName)) (z := (⟨"com/example/macroweave/macroweave/BracketPairs", "opened", "(Lcom/example/macroweave/macroweave/Brackets;I)I"⟩ : MethodName)) hown (mvT hZ (wi hw 18 rfl)) (mvT hZ (wi hw 19 rfl)) (notFace_of_selects (args := #[]) (mvT hZ (wi hw 21 rfl))) (mvT hZ (wi hw 21 rfl)) (mvT hZ (wi hw 20 rfl)) (by decide) (backOf (W := 0) (rm_open1 l Z a0 hw [] b103 d p0 aN kN h104 n0 (by omega) p104_E_a1 p104_F_brackets_a1 p104_F_contentStarts_a1 p104_F_closes_a1 p104_F_size_a1 c110_V_aN ne_b103_aN_111 ge106_b103) hZ (wi hw 22 rfl) (wi hw 5 rfl) (by decide) (by decide)) q107a q107c (g := (mkF mM 19 (Lc_law_lt_2_0_2 p0 p1 p2 p3 p4 d b103) [(.int p0), (.ref d), (.ref b103)])) rfl (by rw [hml]; rfl) (Steps.refl _) (argsL := [(.ref d), (.int p0)]) (rest := []) (lenOf pd_1 rfl) rfl (by show 2 * 0 + _ ≤ _; exact Nat.le_of_eq rfl) (hb hby at_19) (fun _ _ => ⟨rfl, e104, Nat.le_of_ble_eq_true rfl, Nat.le_of_ble_eq_true rfl⟩)
  dsimp only [Pt.U, Pt.locs, Pt.cells, Pt.slots] at X107 l107 y107 z107 st107 hQ107
  subst l107 y107 z107
  obtain ⟨h107, e107⟩ : ∃ z, T107.heap = z := ⟨_, rfl⟩
  rw [e107] at hQ107
  obtain ⟨b1_107, b2_107, k1_107, k2_107, rfl, N107q, Kp107, p107_E_a1, p107_F_brackets_a1, p107_F_contentStarts_a1, p107_F_closes_a1, p107_F_size_a1, p107_V_b1, p107_V_b2, p107_gh_b1, p107_gh_b2, p107_ne_b1_b2⟩ := hQ107
  have Sz3 : h104.size ≤ h107.size := Kp107.1
  have N107 := Fr.app N104 N107q
  have lt_b1_107 : @LT.lt Nat _ b1_107 h107.size := p107_V_b1.lt
  have ne_b103_b1_107_113 : b103 ≠ b1_107 := (by omega : @Ne Nat b103 b1_107)
  have lt_b2_107 : @LT.lt Nat _ b2_107 h107.size := p107_V_b2.lt
  have ne_b103_b2_107_114 : b103 ≠ b2_107 := (by omega : @Ne Nat b103 b2_107)
  have ge115_b1_107 : @LE.le Nat _ n0 b1_107 := by omega
  have ge116_b2_107 : @LE.le Nat _ n0 b2_107 := by omega
  obtain ⟨cq112, kq112, q112a, q112b, q112c⟩ := isOf hZ e107 p107_E_a1
  obtain ⟨_, _, ⟨T112, L112, k112, n112⟩, -, X112, ⟨Lc112, hQ112, l112, y112, z112⟩, st112⟩ := X107.virtualBack hx (y := (⟨"com/example/macroweave/macroweave/BracketPairs", "opened", "(Lcom/example/macroweave/macroweave/Brackets;I)I"⟩ : MethodName)) (z := (⟨"com/example/macroweave/macroweave/BracketPairs", "opened", "(Lcom/example/macroweave/macroweave/Brackets;I)I"⟩ : MethodName)) hown (mvT hZ (wi hw 18 rfl)) (mvT hZ (wi hw 19 rfl)) (notFace_of_selects (args := #[]) (mvT hZ (wi hw 21 rfl))) (mvT hZ (wi hw 21 rfl)) (mvT hZ (wi hw 20 rfl)) (by decide) (backOf (W := 0) (rm_open2n l Z a0 hw [] b103 d p1 p0 b1_107 b2_107 k1_107 k2_107 h107 n0 (by omega) p107_E_a1 p107_F_brackets_a1 p107_F_contentStarts_a1 p107_F_closes_a1 p107_F_size_a1 p107_V_b1 p107_V_b2 ne_b103_b1_107_113 ne_b103_b2_107_114 p107_ne_b1_b2 ge106_b103 ge115_b1_107 ge116_b2_107 hc37_112) hZ (wi hw 22 rfl) (wi hw 5 rfl) (by decide) (by decide)) q112a q112c (g := (mkF mM 29 (Lc_law_lt_2_0_3 p0 p1 p2 p3 p4 d b103) [(.int p1), (.ref d), (.ref b103)])) rfl (by rw [hml]; rfl) (Steps.refl _) (argsL := [(.ref d), (.int p1)]) (rest := []) (lenOf pd_1 rfl) rfl (by show 2 * 0 + _ ≤ _; exact Nat.le_of_eq rfl) (hb hby at_29) (fun _ _ => ⟨rfl, e107, Nat.le_of_ble_eq_true rfl, Nat.le_of_ble_eq_true rfl⟩)
  dsimp only [Pt.U, Pt.locs, Pt.cells, Pt.slots] at X112 l112 y112 z112 st112 hQ112
  subst l112 y112 z112
  obtain ⟨h112, e112⟩ : ∃ z, T112.heap = z := ⟨_, rfl⟩
  rw [e112] at hQ112
  obtain ⟨rfl, N112q, eq112⟩ := hQ112
  rw [eq112] at e112
  have N112 := Fr.app N107 N112q
  obtain ⟨cq117, kq117, q117a, q117b, q117c⟩ := isOf hZ e112 p107_E_a1
  obtain ⟨_, _, ⟨T117, L117, k117, n117⟩, -, X117, ⟨Lc117, hQ117, l117, y117, z117⟩, st117⟩ := X112.virtualBack hx (y := (⟨"com/example/macroweave/macroweave/BracketPairs", "closed", "(II)V"⟩ : MethodName)) (z := (⟨"com/example/macroweave/macroweave/BracketPairs", "closed", "(II)V"⟩ : MethodName)) hown (mvT hZ (wi hw 43 rfl)) (mvT hZ (wi hw 44 rfl)) (notFace_of_selects (args := #[]) (mvT hZ (wi hw 46 rfl))) (mvT hZ (wi hw 46 rfl)) (mvT hZ (wi hw 45 rfl)) (by decide) (backOf (W := 0) (rm_closedn l Z a0 hw [] b103 p2 h107 n0 (by omega) ) hZ (wi hw 47 rfl) (wi hw 5 rfl) (by decide) (by decide)) q117a q117c (g := (mkF mM 109 (Lc_law_lt_2_0_7 p0 p1 p2 p3 p4 d b103) [(.int p2), (.int (-1 : Int32)), (.ref b103)])) rfl (by rw [hml]; rfl) (Steps.refl _) (argsL := [(.int (-1 : Int32)), (.int p2)]) (rest := []) (lenOf pd_5 rfl) rfl (by show 2 * 0 + _ ≤ _; exact Nat.le_of_eq rfl) (hb hby at_109) (fun _ _ => ⟨rfl, e112, Nat.le_of_ble_eq_true rfl, Nat.le_of_ble_eq_true rfl⟩)
  dsimp only [Pt.U, Pt.locs, Pt.cells, Pt.slots] at X117 l117 y117 z117 st117 hQ117
  subst l117 y117 z117
  obtain ⟨h117, e117⟩ : ∃ z, T117.heap = z := ⟨_, rfl⟩
  rw [e117] at hQ117
  obtain ⟨rfl, N117q, eq117⟩ := hQ117
  rw [eq117] at e117
  have N117 := Fr.app N112 N117q
  obtain ⟨cq118, kq118, q118a, q118b, q118c⟩ := isOf hZ e117 p107_E_a1
  obtain ⟨_, _, ⟨T118, L118, k118, n118⟩, -, X118, ⟨Lc118, hQ118, l118, y118, z118⟩, st118⟩ := X117.virtualBack hx (y := (⟨"com/example/macroweave/macroweave/BracketPairs", "close", "(Lcom/example/macroweave/macroweave/Brackets;I)I"⟩ : MethodName)) (z := (⟨"com/example/macroweave/macroweave/BracketPairs", "close", "(Lcom/example/macroweave/macroweave/Brackets;I)I"⟩ : MethodName)) hown (mvT hZ (wi hw 48 rfl)) (mvT hZ (wi hw 49 rfl)) (notFace_of_selects (args := #[]) (mvT hZ (wi hw 51 rfl))) (mvT hZ (wi hw 51 rfl)) (mvT hZ (wi hw 50 rfl)) (by decide) (backOf (W := 0) (rm_close_1x l Z a0 hw [] b103 d b1_107 k1_107 p0 b2_107 k2_107 (-1 : Int32) (0 : Int32) h107 n0 (by omega) p107_F_brackets_a1 p107_F_contentStarts_a1 p107_F_closes_a1 p107_F_size_a1 p107_V_b1 p107_V_b2) hZ (wi hw 52 rfl) (wi hw 5 rfl) (by decide) (by decide)) q118a q118c (g := (mkF mM 187 (Lc_law_lt_2_0_9 p0 p1 p2 p3 p4 d b103) [(.int p0), (.ref d), (.ref b103)])) rfl (by rw [hml]; rfl) (Steps.refl _) (argsL := [(.ref d), (.int p0)]) (rest := []) (lenOf pd_1 rfl) rfl (by show 2 * 0 + _ ≤ _; exact Nat.le_of_eq rfl) (hb hby at_187) (fun _ _ => ⟨rfl, e117, Nat.le_of_ble_eq_true rfl, Nat.le_of_ble_eq_true rfl⟩)
  dsimp only [Pt.U, Pt.locs, Pt.cells, Pt.slots] at X118 l118 y118 z118 st118 hQ118
  subst l118 y118 z118
  obtain ⟨h118, e118⟩ : ∃ z, T118.heap = z := ⟨_, rfl⟩
  rw [e118] at hQ118
  obtain ⟨rfl, N118q, eq118⟩ := hQ118
  rw [eq118] at e118
  have N118 := Fr.app N117 N118q
  obtain ⟨cq119, kq119, q119a, q119b, q119c⟩ := isOf hZ e118 p107_E_a1
  obtain ⟨_, _, ⟨T119, L119, k119, n119⟩, -, X119, ⟨Lc119, hQ119, l119, y119, z119⟩, st119⟩ := X118.virtualBack hx (y := (⟨"com/example/macroweave/macroweave/BracketPairs", "close", "(Lcom/example/macroweave/macroweave/Brackets;I)I"⟩ : MethodName)) (z := (⟨"com/example/macroweave/macroweave/BracketPairs", "close", "(Lcom/example/macroweave/macroweave/Brackets;I)I"⟩ : MethodName)) hown (mvT hZ (wi hw 48 rfl)) (mvT hZ (wi hw 49 rfl)) (notFace_of_selects (args := #[]) (mvT hZ (wi hw 51 rfl))) (mvT hZ (wi hw 51 rfl)) (mvT hZ (wi hw 50 rfl)) (by decide) (backOf (W := 0) (rm_close_1y l Z a0 hw [] b103 d b1_107 k1_107 p0 p1 b2_107 k2_107 (-1 : Int32) (0 : Int32) h107 n0 (by omega) p107_F_brackets_a1 p107_F_contentStarts_a1 p107_F_closes_a1 p107_F_size_a1 p107_V_b1 p107_V_b2 hc37_112 hc48_103_104_119) hZ (wi hw 52 rfl) (wi hw 5 rfl) (by decide) (by decide)) q119a q119c (g := (mkF mM 200 (Lc_law_lt_2_0_9 p0 p1 p2 p3 p4 d b103) [(.int p1), (.ref d), (.ref b103)])) rfl (by rw [hml]; rfl) (Steps.refl _) (argsL := [(.ref d), (.int p1)]) (rest := []) (lenOf pd_1 rfl) rfl (by show 2 * 0 + _ ≤ _; exact Nat.le_of_eq rfl) (hb hby at_200) (fun _ _ => ⟨rfl, e118, Nat.le_of_ble_eq_true rfl, Nat.le_of_ble_eq_true rfl⟩)
  dsimp only [Pt.U, Pt.locs, Pt.cells, Pt.slots] at X119 l119 y119 z119 st119 hQ119
  subst l119 y119 z119
  obtain ⟨h119, e119⟩ : ∃ z, T119.heap = z := ⟨_, rfl⟩
  rw [e119] at hQ119
  obtain ⟨rfl, N119q, eq119⟩ := hQ119
  rw [eq119] at e119
  have N119 := Fr.app N118 N119q
  obtain ⟨fs, hr, hrun, hended, hW, hsame⟩ := X119.leave (v := some (.int (1 : Int32))) (fun h => by rw [Bd.returns] at h; cases h)
  refine ⟨_, _, pre0 _ ?_, hrun, hended, _, _, rfl, ?_, ⟨_, rfl⟩, hW, hsame.mono (by decide) (by decide)⟩
  · show SS pP eE belowS s₁ (mkF mM 0 (Lc_law_lt_2_0_0 p0 p1 p2 p3 p4) []) _
    refine st102 _ ?_
    show SS pP eE belowS T102 (mkF mM 3 (Lc_law_lt_2_0_0 p0 p1 p2 p3 p4) [(.ref d)]) _
    refine XS.astore X102.here hx rfl (hb hby at_3) rfl rfl (l' := (Lc_law_lt_2_0_1 p0 p1 p2 p3 p4 d)) rfl ?_
    show SS pP eE belowS T102 (mkF mM 5 (Lc_law_lt_2_0_1 p0 p1 p2 p3 p4 d) []) _
    refine st103 _ ?_
    show SS pP eE belowS T103 (mkF mM 8 (Lc_law_lt_2_0_1 p0 p1 p2 p3 p4 d) [(.ref b103)]) _
    refine XS.dup X103.here hx rfl (hb hby at_8) rfl rfl ?_
    show SS pP eE belowS T103 (mkF mM 9 (Lc_law_lt_2_0_1 p0 p1 p2 p3 p4 d) [(.ref b103), (.ref b103)]) _
    refine st104.trans ?_
    show SS pP eE belowS T104 (mkF mM 12 (Lc_law_lt_2_0_1 p0 p1 p2 p3 p4 d) [(.ref b103)]) _
    refine XS.astore X104.here hx rfl (hb hby at_12) rfl rfl (l' := (Lc_law_lt_2_0_2 p0 p1 p2 p3 p4 d b103)) rfl ?_
    show SS pP eE belowS T104 (mkF mM 14 (Lc_law_lt_2_0_2 p0 p1 p2 p3 p4 d b103) []) _
    refine XS.aload X104.here hx rfl (hb hby at_14) rfl rfl ?_
    show SS pP eE belowS T104 (mkF mM 16 (Lc_law_lt_2_0_2 p0 p1 p2 p3 p4 d b103) [(.ref b103)]) _
    refine XS.aload X104.here hx rfl (hb hby at_16) rfl rfl ?_
    show SS pP eE belowS T104 (mkF mM 18 (Lc_law_lt_2_0_2 p0 p1 p2 p3 p4 d b103) [(.ref d), (.ref b103)]) _
    refine XS.iloadN X104.here hx rfl (hb hby at_18) rfl ?_
    show SS pP eE belowS T104 (mkF mM 19 (Lc_law_lt_2_0_2 p0 p1 p2 p3 p4 d b103) [(.int p0), (.ref d), (.ref b103)]) _
    refine st107.trans ?_
    show SS pP eE belowS T107 (mkF mM 22 (Lc_law_lt_2_0_2 p0 p1 p2 p3 p4 d b103) [(.int (0 : Int32))]) _
    refine XS.istore X107.here hx rfl (hb hby at_22) rfl (l' := (Lc_law_lt_2_0_3 p0 p1 p2 p3 p4 d b103)) rfl ?_
    show SS pP eE belowS T107 (mkF mM 24 (Lc_law_lt_2_0_3 p0 p1 p2 p3 p4 d b103) []) _
    refine XS.aload X107.here hx rfl (hb hby at_24) rfl rfl ?_
    show SS pP eE belowS T107 (mkF mM 26 (Lc_law_lt_2_0_3 p0 p1 p2 p3 p4 d b103) [(.ref b103)]) _
    refine XS.aload X107.here hx rfl (hb hby at_26) rfl rfl ?_
    show SS pP eE belowS T107 (mkF mM 28 (Lc_law_lt_2_0_3 p0 p1 p2 p3 p4 d b103) [(.ref d), (.ref b103)]) _
    refine XS.iloadN X107.here hx rfl (hb hby at_28) rfl ?_
    show SS pP eE belowS T107 (mkF mM 29 (Lc_law_lt_2_0_3 p0 p1 p2 p3 p4 d b103) [(.int p1), (.ref d), (.ref b103)]) _
    refine st112.trans ?_
    show SS pP eE belowS T112 (mkF mM 32 (Lc_law_lt_2_0_3 p0 p1 p2 p3 p4 d b103) [(.int (-1 : Int32))]) _
    refine XS.istore X112.here hx rfl (hb hby at_32) rfl (l' := (Lc_law_lt_2_0_4 p0 p1 p2 p3 p4 d b103)) rfl ?_
    show SS pP eE belowS T112 (mkF mM 34 (Lc_law_lt_2_0_4 p0 p1 p2 p3 p4 d b103) []) _
    refine XS.iload X112.here hx rfl (hb hby at_34) rfl ?_
    show SS pP eE belowS T112 (mkF mM 36 (Lc_law_lt_2_0_4 p0 p1 p2 p3 p4 d b103) [(.int (0 : Int32))]) _
    refine XS.ifYes X112.here hx rfl (pc0 := 36) (pc' := 41) rfl (hb hby at_36) rfl ((if0 _ _).trans (teq (by decide : (0 : Int32) = (0 : Int32))).1) (by decide) (by decide) ?_
    show SS pP eE belowS T112 (mkF mM 41 (Lc_law_lt_2_0_4 p0 p1 p2 p3 p4 d b103) []) _
    refine XS.iload X112.here hx rfl (hb hby at_41) rfl ?_
    show SS pP eE belowS T112 (mkF mM 43 (Lc_law_lt_2_0_4 p0 p1 p2 p3 p4 d b103) [(.int (-1 : Int32))]) _
    refine XS.iloadN X112.here hx rfl (hb hby at_43) rfl ?_
    show SS pP eE belowS T112 (mkF mM 44 (Lc_law_lt_2_0_4 p0 p1 p2 p3 p4 d b103) [(.int p1), (.int (-1 : Int32))]) _
    refine XS.iloadN X112.here hx rfl (hb hby at_44) rfl ?_
    show SS pP eE belowS T112 (mkF mM 45 (Lc_law_lt_2_0_4 p0 p1 p2 p3 p4 d b103) [(.int p0), (.int p1), (.int (-1 : Int32))]) _
    refine XS.icmpYes X112.here hx rfl (pc0 := 45) (pc' := 52) rfl (hb hby at_45) rfl (flt hc37_112).2.2.2 (by decide) (by decide) ?_
    show SS pP eE belowS T112 (mkF mM 52 (Lc_law_lt_2_0_4 p0 p1 p2 p3 p4 d b103) [(.int (-1 : Int32))]) _
    refine XS.iconst X112.here hx rfl (hb hby at_52) ?_
    show SS pP eE belowS T112 (mkF mM 53 (Lc_law_lt_2_0_4 p0 p1 p2 p3 p4 d b103) [(.int (-1 : Int32)), (.int (-1 : Int32))]) _
    refine XS.icmpYes X112.here hx rfl (pc0 := 53) (pc' := 58) rfl (hb hby at_53) rfl (teq (by decide : (-1 : Int32) = (-1 : Int32))).1 (by decide) (by decide) ?_
    show SS pP eE belowS T112 (mkF mM 58 (Lc_law_lt_2_0_4 p0 p1 p2 p3 p4 d b103) []) _
    refine XS.iload X112.here hx rfl (hb hby at_58) rfl ?_
    show SS pP eE belowS T112 (mkF mM 60 (Lc_law_lt_2_0_4 p0 p1 p2 p3 p4 d b103) [(.int p4)]) _
    refine XS.iconst X112.here hx rfl (hb hby at_60) ?_
    show SS pP eE belowS T112 (mkF mM 61 (Lc_law_lt_2_0_4 p0 p1 p2 p3 p4 d b103) [(.int (3 : Int32)), (.int p4)]) _
    refine XS.iand X112.here hx rfl (hb hby at_61) rfl ?_
    show SS pP eE belowS T112 (mkF mM 62 (Lc_law_lt_2_0_4 p0 p1 p2 p3 p4 d b103) [(.int (p4 &&& (3 : Int32)))]) _
    refine XS.istore X112.here hx rfl (hb hby at_62) rfl (l' := (Lc_law_lt_2_0_5 p0 p1 p2 p3 p4 d b103)) rfl ?_
    show SS pP eE belowS T112 (mkF mM 64 (Lc_law_lt_2_0_5 p0 p1 p2 p3 p4 d b103) []) _
    refine XS.iload X112.here hx rfl (hb hby at_64) rfl ?_
    show SS pP eE belowS T112 (mkF mM 66 (Lc_law_lt_2_0_5 p0 p1 p2 p3 p4 d b103) [(.int (p4 &&& (3 : Int32)))]) _
    refine XS.ifYes X112.here hx rfl (pc0 := 66) (pc' := 74) rfl (hb hby at_66) rfl ((if0 _ _).trans (feq hc66).2) (by decide) (by decide) ?_
    show SS pP eE belowS T112 (mkF mM 74 (Lc_law_lt_2_0_5 p0 p1 p2 p3 p4 d b103) []) _
    refine XS.iload X112.here hx rfl (hb hby at_74) rfl ?_
    show SS pP eE belowS T112 (mkF mM 76 (Lc_law_lt_2_0_5 p0 p1 p2 p3 p4 d b103) [(.int (p4 &&& (3 : Int32)))]) _
    refine XS.iconst X112.here hx rfl (hb hby at_76) ?_
    show SS pP eE belowS T112 (mkF mM 77 (Lc_law_lt_2_0_5 p0 p1 p2 p3 p4 d b103) [(.int (1 : Int32)), (.int (p4 &&& (3 : Int32)))]) _
    refine XS.icmpYes X112.here hx rfl (pc0 := 77) (pc' := 85) rfl (hb hby at_77) rfl (feq hc77).2 (by decide) (by decide) ?_
    show SS pP eE belowS T112 (mkF mM 85 (Lc_law_lt_2_0_5 p0 p1 p2 p3 p4 d b103) []) _
    refine XS.iconst X112.here hx rfl (hb hby at_85) ?_
    show SS pP eE belowS T112 (mkF mM 86 (Lc_law_lt_2_0_5 p0 p1 p2 p3 p4 d b103) [(.int (-1 : Int32))]) _
    refine XS.istore X112.here hx rfl (hb hby at_86) rfl (l' := (Lc_law_lt_2_0_6 p0 p1 p2 p3 p4 d b103)) rfl ?_
    show SS pP eE belowS T112 (mkF mM 88 (Lc_law_lt_2_0_6 p0 p1 p2 p3 p4 d b103) []) _
    refine XS.iload X112.here hx rfl (hb hby at_88) rfl ?_
    show SS pP eE belowS T112 (mkF mM 90 (Lc_law_lt_2_0_6 p0 p1 p2 p3 p4 d b103) [(.int p4)]) _
    refine XS.iconst X112.here hx rfl (hb hby at_90) ?_
    show SS pP eE belowS T112 (mkF mM 91 (Lc_law_lt_2_0_6 p0 p1 p2 p3 p4 d b103) [(.int (2 : Int32)), (.int p4)]) _
    refine XS.ishr X112.here hx rfl (hb hby at_91) rfl ?_
    show SS pP eE belowS T112 (mkF mM 92 (Lc_law_lt_2_0_6 p0 p1 p2 p3 p4 d b103) [(.int (p4 >>> ((2 : Int32) &&& 31)))]) _
    refine XS.iconst X112.here hx rfl (hb hby at_92) ?_
    show SS pP eE belowS T112 (mkF mM 93 (Lc_law_lt_2_0_6 p0 p1 p2 p3 p4 d b103) [(.int (1 : Int32)), (.int (p4 >>> ((2 : Int32) &&& 31)))]) _
    refine XS.iand X112.here hx rfl (hb hby at_93) rfl ?_
    show SS pP eE belowS T112 (mkF mM 94 (Lc_law_lt_2_0_6 p0 p1 p2 p3 p4 d b103) [(.int ((p4 >>> ((2 : Int32) &&& 31)) &&& (1 : Int32)))]) _
    refine XS.ifYes X112.here hx rfl (pc0 := 94) (pc' := 101) rfl (hb hby at_94) rfl ((if0 _ _).trans (teq hc94).1) (by decide) (by decide) ?_
    show SS pP eE belowS T112 (mkF mM 101 (Lc_law_lt_2_0_6 p0 p1 p2 p3 p4 d b103) []) _
    refine XS.iconst X112.here hx rfl (hb hby at_101) ?_
    show SS pP eE belowS T112 (mkF mM 102 (Lc_law_lt_2_0_6 p0 p1 p2 p3 p4 d b103) [(.int (0 : Int32))]) _
    refine XS.istore X112.here hx rfl (hb hby at_102) rfl (l' := (Lc_law_lt_2_0_7 p0 p1 p2 p3 p4 d b103)) rfl ?_
    show SS pP eE belowS T112 (mkF mM 104 (Lc_law_lt_2_0_7 p0 p1 p2 p3 p4 d b103) []) _
    refine XS.aload X112.here hx rfl (hb hby at_104) rfl rfl ?_
    show SS pP eE belowS T112 (mkF mM 106 (Lc_law_lt_2_0_7 p0 p1 p2 p3 p4 d b103) [(.ref b103)]) _
    refine XS.iload X112.here hx rfl (hb hby at_106) rfl ?_
    show SS pP eE belowS T112 (mkF mM 108 (Lc_law_lt_2_0_7 p0 p1 p2 p3 p4 d b103) [(.int (-1 : Int32)), (.ref b103)]) _
    refine XS.iloadN X112.here hx rfl (hb hby at_108) rfl ?_
    show SS pP eE belowS T112 (mkF mM 109 (Lc_law_lt_2_0_7 p0 p1 p2 p3 p4 d b103) [(.int p2), (.int (-1 : Int32)), (.ref b103)]) _
    refine st117.trans ?_
    show SS pP eE belowS T117 (mkF mM 112 (Lc_law_lt_2_0_7 p0 p1 p2 p3 p4 d b103) []) _
    refine XS.iload X117.here hx rfl (hb hby at_112) rfl ?_
    show SS pP eE belowS T117 (mkF mM 114 (Lc_law_lt_2_0_7 p0 p1 p2 p3 p4 d b103) [(.int (0 : Int32))]) _
    refine XS.ifYes X117.here hx rfl (pc0 := 114) (pc' := 125) rfl (hb hby at_114) rfl ((if0 _ _).trans (teq (by decide : (0 : Int32) = (0 : Int32))).1) (by decide) (by decide) ?_
    show SS pP eE belowS T117 (mkF mM 125 (Lc_law_lt_2_0_7 p0 p1 p2 p3 p4 d b103) []) _
    refine XS.iload X117.here hx rfl (hb hby at_125) rfl ?_
    show SS pP eE belowS T117 (mkF mM 127 (Lc_law_lt_2_0_7 p0 p1 p2 p3 p4 d b103) [(.int (0 : Int32))]) _
    refine XS.ifYes X117.here hx rfl (pc0 := 127) (pc' := 134) rfl (hb hby at_127) rfl ((if0 _ _).trans (teq (by decide : (0 : Int32) = (0 : Int32))).1) (by decide) (by decide) ?_
    show SS pP eE belowS T117 (mkF mM 134 (Lc_law_lt_2_0_7 p0 p1 p2 p3 p4 d b103) []) _
    refine XS.iload X117.here hx rfl (hb hby at_134) rfl ?_
    show SS pP eE belowS T117 (mkF mM 136 (Lc_law_lt_2_0_7 p0 p1 p2 p3 p4 d b103) [(.int (-1 : Int32))]) _
    refine XS.ifYes X117.here hx rfl (pc0 := 136) (pc' := 143) rfl (hb hby at_136) rfl ((if0 _ _).trans (feq (by decide : ¬ ((-1 : Int32) = (0 : Int32)))).2) (by decide) (by decide) ?_
    show SS pP eE belowS T117 (mkF mM 143 (Lc_law_lt_2_0_7 p0 p1 p2 p3 p4 d b103) []) _
    refine XS.iconst X117.here hx rfl (hb hby at_143) ?_
    show SS pP eE belowS T117 (mkF mM 144 (Lc_law_lt_2_0_7 p0 p1 p2 p3 p4 d b103) [(.int (-1 : Int32))]) _
    refine XS.istore X117.here hx rfl (hb hby at_144) rfl (l' := (Lc_law_lt_2_0_8 p0 p1 p2 p3 p4 d b103)) rfl ?_
    show SS pP eE belowS T117 (mkF mM 146 (Lc_law_lt_2_0_8 p0 p1 p2 p3 p4 d b103) []) _
    refine XS.iloadN X117.here hx rfl (hb hby at_146) rfl ?_
    show SS pP eE belowS T117 (mkF mM 147 (Lc_law_lt_2_0_8 p0 p1 p2 p3 p4 d b103) [(.int p1)]) _
    refine XS.iloadN X117.here hx rfl (hb hby at_147) rfl ?_
    show SS pP eE belowS T117 (mkF mM 148 (Lc_law_lt_2_0_8 p0 p1 p2 p3 p4 d b103) [(.int p0), (.int p1)]) _
    refine XS.icmpYes X117.here hx rfl (pc0 := 148) (pc' := 167) rfl (hb hby at_148) rfl (flt hc37_112).2.2.2 (by decide) (by decide) ?_
    show SS pP eE belowS T117 (mkF mM 167 (Lc_law_lt_2_0_8 p0 p1 p2 p3 p4 d b103) []) _
    refine XS.iloadN X117.here hx rfl (hb hby at_167) rfl ?_
    show SS pP eE belowS T117 (mkF mM 168 (Lc_law_lt_2_0_8 p0 p1 p2 p3 p4 d b103) [(.int p1)]) _
    refine XS.iloadN X117.here hx rfl (hb hby at_168) rfl ?_
    show SS pP eE belowS T117 (mkF mM 169 (Lc_law_lt_2_0_8 p0 p1 p2 p3 p4 d b103) [(.int p0), (.int p1)]) _
    refine XS.icmpYes X117.here hx rfl (pc0 := 169) (pc' := 179) rfl (hb hby at_169) rfl (feq hc169).2 (by decide) (by decide) ?_
    show SS pP eE belowS T117 (mkF mM 179 (Lc_law_lt_2_0_8 p0 p1 p2 p3 p4 d b103) []) _
    refine XS.iconst X117.here hx rfl (hb hby at_179) ?_
    show SS pP eE belowS T117 (mkF mM 180 (Lc_law_lt_2_0_8 p0 p1 p2 p3 p4 d b103) [(.int (-1 : Int32))]) _
    refine XS.istore X117.here hx rfl (hb hby at_180) rfl (l' := (Lc_law_lt_2_0_9 p0 p1 p2 p3 p4 d b103)) rfl ?_
    show SS pP eE belowS T117 (mkF mM 182 (Lc_law_lt_2_0_9 p0 p1 p2 p3 p4 d b103) []) _
    refine XS.aload X117.here hx rfl (hb hby at_182) rfl rfl ?_
    show SS pP eE belowS T117 (mkF mM 184 (Lc_law_lt_2_0_9 p0 p1 p2 p3 p4 d b103) [(.ref b103)]) _
    refine XS.aload X117.here hx rfl (hb hby at_184) rfl rfl ?_
    show SS pP eE belowS T117 (mkF mM 186 (Lc_law_lt_2_0_9 p0 p1 p2 p3 p4 d b103) [(.ref d), (.ref b103)]) _
    refine XS.iloadN X117.here hx rfl (hb hby at_186) rfl ?_
    show SS pP eE belowS T117 (mkF mM 187 (Lc_law_lt_2_0_9 p0 p1 p2 p3 p4 d b103) [(.int p0), (.ref d), (.ref b103)]) _
    refine st118.trans ?_
    show SS pP eE belowS T118 (mkF mM 190 (Lc_law_lt_2_0_9 p0 p1 p2 p3 p4 d b103) [(.int (-1 : Int32))]) _
    refine XS.iload X118.here hx rfl (hb hby at_190) rfl ?_
    show SS pP eE belowS T118 (mkF mM 192 (Lc_law_lt_2_0_9 p0 p1 p2 p3 p4 d b103) [(.int (-1 : Int32)), (.int (-1 : Int32))]) _
    refine XS.icmpNo X118.here hx rfl (hb hby at_192) rfl (teq (by decide : (-1 : Int32) = (-1 : Int32))).2 ?_
    show SS pP eE belowS T118 (mkF mM 195 (Lc_law_lt_2_0_9 p0 p1 p2 p3 p4 d b103) []) _
    refine XS.aload X118.here hx rfl (hb hby at_195) rfl rfl ?_
    show SS pP eE belowS T118 (mkF mM 197 (Lc_law_lt_2_0_9 p0 p1 p2 p3 p4 d b103) [(.ref b103)]) _
    refine XS.aload X118.here hx rfl (hb hby at_197) rfl rfl ?_
    show SS pP eE belowS T118 (mkF mM 199 (Lc_law_lt_2_0_9 p0 p1 p2 p3 p4 d b103) [(.ref d), (.ref b103)]) _
    refine XS.iloadN X118.here hx rfl (hb hby at_199) rfl ?_
    show SS pP eE belowS T118 (mkF mM 200 (Lc_law_lt_2_0_9 p0 p1 p2 p3 p4 d b103) [(.int p1), (.ref d), (.ref b103)]) _
    refine st119.trans ?_
    show SS pP eE belowS T119 (mkF mM 203 (Lc_law_lt_2_0_9 p0 p1 p2 p3 p4 d b103) [(.int (-1 : Int32))]) _
    refine XS.iload X119.here hx rfl (hb hby at_203) rfl ?_
    show SS pP eE belowS T119 (mkF mM 205 (Lc_law_lt_2_0_9 p0 p1 p2 p3 p4 d b103) [(.int (-1 : Int32)), (.int (-1 : Int32))]) _
    refine XS.icmpNo X119.here hx rfl (hb hby at_205) rfl (teq (by decide : (-1 : Int32) = (-1 : Int32))).2 ?_
    show SS pP eE belowS T119 (mkF mM 208 (Lc_law_lt_2_0_9 p0 p1 p2 p3 p4 d b103) []) _
    refine XS.iconst X119.here hx rfl (hb hby at_208) ?_
    show SS pP eE belowS T119 (mkF mM 209 (Lc_law_lt_2_0_9 p0 p1 p2 p3 p4 d b103) [(.int (1 : Int32))]) _
    refine XS.goto X119.here hx rfl (pc0 := 209) (pc' := 213) rfl (hb hby at_209) (by decide) (by decide) ?_
    show SS pP eE belowS T119 (mkF mM 213 (Lc_law_lt_2_0_9 p0 p1 p2 p3 p4 d b103) [(.int (1 : Int32))]) _
    exact retN X119 hx (t := .boolean) Bd.returns (by simp) (hb hby at_213) hr
  · exact ⟨rfl, N119⟩

abbrev Lc_law_lt_2_1_0 (p0 : Int32) (p1 : Int32) (p2 : Int32) (p3 : Int32) (p4 : Int32) : Array Slot := #[.val (.int p0), .val (.int p1), .val (.int p2), .val (.int p3), .val (.int p4), .unset, .unset, .unset, .unset, .unset, .unset, .unset, .unset, .unset]
abbrev Lc_law_lt_2_1_1 (p0 : Int32) (p1 : Int32) (p2 : Int32) (p3 : Int32) (p4 : Int32) (d : Addr) : Array Slot := #[.val (.int p0), .val (.int p1), .val (.int p2), .val (.int p3), .val (.int p4), .val (.ref d), .unset, .unset, .unset, .unset, .unset, .unset, .unset, .unset]
abbrev Lc_law_lt_2_1_2 (p0 : Int32) (p1 : Int32) (p2 : Int32) (p3 : Int32) (p4 : Int32) (d : Addr) (b103 : Addr) : Array Slot := #[.val (.int p0), .val (.int p1), .val (.int p2), .val (.int p3), .val (.int p4), .val (.ref d), .val (.ref b103), .unset, .unset, .unset, .unset, .unset, .unset, .unset]
abbrev Lc_law_lt_2_1_3 (p0 : Int32) (p1 : Int32) (p2 : Int32) (p3 : Int32) (p4 : Int32) (d : Addr) (b103 : Addr) : Array Slot := #[.val (.int p0), .val (.int p1), .val (.int p2), .val (.int p3), .val (.int p4), .val (.ref d), .val (.ref b103), .val (.int (0 : Int32)), .unset, .unset, .unset, .unset, .unset, .unset]
abbrev Lc_law_lt_2_1_4 (p0 : Int32) (p1 : Int32) (p2 : Int32) (p3 : Int32) (p4 : Int32) (d : Addr) (b103 : Addr) : Array Slot := #[.val (.int p0), .val (.int p1), .val (.int p2), .val (.int p3), .val (.int p4), .val (.ref d), .val (.ref b103), .val (.int (0 : Int32)), .val (.int (-1 : Int32)), .unset, .unset, .unset, .unset, .unset]
abbrev Lc_law_lt_2_1_5 (p0 : Int32) (p1 : Int32) (p2 : Int32) (p3 : Int32) (p4 : Int32) (d : Addr) (b103 : Addr) : Array Slot := #[.val (.int p0), .val (.int p1), .val (.int p2), .val (.int p3), .val (.int p4), .val (.ref d), .val (.ref b103), .val (.int (0 : Int32)), .val (.int (-1 : Int32)), .val (.int (p4 &&& (3 : Int32))), .unset, .unset, .unset, .unset]
abbrev Lc_law_lt_2_1_6 (p0 : Int32) (p1 : Int32) (p2 : Int32) (p3 : Int32) (p4 : Int32) (d : Addr) (b103 : Addr) : Array Slot := #[.val (.int p0), .val (.int p1), .val (.int p2), .val (.int p3), .val (.int p4), .val (.ref d), .val (.ref b103), .val (.int (0 : Int32)), .val (.int (-1 : Int32)), .val (.int (p4 &&& (3 : Int32))), .val (.int (-1 : Int32)), .unset, .unset, .unset]
abbrev Lc_law_lt_2_1_7 (p0 : Int32) (p1 : Int32) (p2 : Int32) (p3 : Int32) (p4 : Int32) (d : Addr) (b103 : Addr) : Array Slot := #[.val (.int p0), .val (.int p1), .val (.int p2), .val (.int p3), .val (.int p4), .val (.ref d), .val (.ref b103), .val (.int (0 : Int32)), .val (.int (-1 : Int32)), .val (.int (p4 &&& (3 : Int32))), .val (.int (-1 : Int32)), .val (.int (1 : Int32)), .unset, .unset]
abbrev Lc_law_lt_2_1_8 (p0 : Int32) (p1 : Int32) (p2 : Int32) (p3 : Int32) (p4 : Int32) (d : Addr) (b103 : Addr) : Array Slot := #[.val (.int p0), .val (.int p1), .val (.int p2), .val (.int p3), .val (.int p4), .val (.ref d), .val (.ref b103), .val (.int (0 : Int32)), .val (.int (-1 : Int32)), .val (.int (p4 &&& (3 : Int32))), .val (.int (-1 : Int32)), .val (.int (1 : Int32)), .val (.int p3), .unset]
abbrev Lc_law_lt_2_1_9 (p0 : Int32) (p1 : Int32) (p2 : Int32) (p3 : Int32) (p4 : Int32) (d : Addr) (b103 : Addr) : Array Slot := #[.val (.int p0), .val (.int p1), .val (.int p2), .val (.int p3), .val (.int p4), .val (.ref d), .val (.ref b103), .val (.int (0 : Int32)), .val (.int (-1 : Int32)), .val (.int (p4 &&& (3 : Int32))), .val (.int (-1 : Int32)), .val (.int (1 : Int32)), .val (.int p3), .val (.int (-1 : Int32))]
theorem ef_law_lt_2_1 (mM : MethodId) (p0 : Int32) (p1 : Int32) (p2 : Int32) (p3 : Int32) (p4 : Int32) (aN : Addr) (kN : ClassId) (d : Addr) : entryFrame mM #[(.int p0), (.int p1), (.int p2), (.int p3), (.int p4)] maxLocals = mkF mM 0 #[.val (.int p0), .val (.int p1), .val (.int p2), .val (.int p3), .val (.int p4), .unset, .unset, .unset, .unset, .unset, .unset, .unset, .unset, .unset] [] := by first | (simp [entryFrame, mkF, argsToLocals, Value.category, maxLocals]; done) | rfl
set_option maxRecDepth 65536 in
set_option maxHeartbeats 40000000 in
theorem rm_law_lt_2_1 (l : Launch) (Z : State) (a0 : Array Value) (hw : ∀ d ∈ tables_1, d.before a0 Z = true) (ws : List Jvm.Cond) (p0 : Int32) (p1 : Int32) (p2 : Int32) (p3 : Int32) (p4 : Int32) (aN : Addr) (kN : ClassId) (d : Addr) (h0 : Heap) (n0 : Nat) (Z0 : n0 ≤ h0.size) (OL : Old Z n0 h0) (S_DEFAULT : Sta Z Z.heap "com/example/macroweave/macroweave/Brackets" "DEFAULT" "Lcom/example/macroweave/macroweave/Brackets;" (.ref d)) (S_NONE : Sta Z Z.heap "com/example/macroweave/macroweave/BracketPairs" "NONE" "[I" (.ref aN)) (V_aN : Arv Z h0 aN kN .int (0 : Int32) [] (.int (0 : Int32))) (hc37_112 : ¬ (p0 < p1)) (hc66 : ¬ ((p4 &&& (3 : Int32)) = (0 : Int32))) (hc77 : ¬ ((p4 &&& (3 : Int32)) = (1 : Int32))) (hc94 : ¬ (((p4 >>> ((2 : Int32) &&& 31)) &&& (1 : Int32)) = (0 : Int32))) (hc169 : ¬ (p1 = p0)) (hc48_103_104_126 : p1 < p0) :
    MetFree l x (head1 (Jvm.Cond.code x code maxLocals ret :: ws) room_1) (fun xa xU => xa = #[(.int p0), (.int p1), (.int p2), (.int p3), (.int p4)] ∧ Z.Warmed39 xU.vm ∧ xU.heap = h0) (fun _ _ _ _ _ => True) (fun _ xU xo xU' => ∃ xv xL, xo = .returned xv ∧ Q_law n0 xv xL ∧ FrameEnd xU xo xU' xL room_1.cells room_1.slots) := by
  refine MetFree.of_bodySF (plainFor_of_name pn_com_example_macroweave_macroweave_BracketPairsClosedPinLaw) hisR ?_
  intro pP eE sS mM argS belowS methS cC s₁ Bd hml0 hP hK
  obtain ⟨rfl, hZ, hh⟩ := hP
  have hx := Bd.exec
  have hby := Bd.bytes
  have hml : cC.maxLocals = 14 := hml0
  have hown : sS.vm.findClass "com/example/macroweave/macroweave/BracketPairsClosedPinLaw" = some mM.cls := findClass_of_methodNamed Bd.named
  have hnm := (name_of_methodNamed Bd.named Bd.method).1
  have X0 : Stand pP l eE room_1 sS mM #[(.int p0), (.int p1), (.int p2), (.int p3), (.int p4)] belowS methS cC s₁ [] 0 0 := Stand.of_body Bd
  have e0 : s₁.heap = h0 := by rw [← hh, Bd.state]; rfl
  have N0 := Fr.nil n0
  have pre0 : ∀ t', Steps pP.tables eE belowS (s₁.setTop (mkF mM 0 #[.val (.int p0), .val (.int p1), .val (.int p2), .val (.int p3), .val (.int p4), .unset, .unset, .unset, .unset, .unset, .unset, .unset, .unset, .unset] [])) t' → Steps pP.tables eE belowS (s₁.setTop (entryFrame mM #[(.int p0), (.int p1), (.int p2), (.int p3), (.int p4)] maxLocals)) t' := fun t' kk' => castTop (ef_law_lt_2_1 mM p0 p1 p2 p3 p4 aN kN d) kk'
  have c101_S_DEFAULT : Sta Z h0 "com/example/macroweave/macroweave/Brackets" "DEFAULT" "Lcom/example/macroweave/macroweave/Brackets;" (.ref d) := Sta.ext OL.2 S_DEFAULT
  obtain ⟨T102, X102, e102, st102⟩ := getS2 X0 hx hZ hown (host := "") (Or.inl (wi hw 0 rfl)) Via.refl e0 c101_S_DEFAULT (g := (mkF mM 0 (Lc_law_lt_2_1_0 p0 p1 p2 p3 p4) [])) rfl (hb hby at_0)
  obtain ⟨T103, h103, X103, e103, E103, A103, D103, B103, st103⟩ := newO X102 hx hZ hown (wi hw 3 rfl) (wi hw 4 rfl) (wi hw 5 rfl) e102 (g := (mkF mM 5 (Lc_law_lt_2_1_1 p0 p1 p2 p3 p4 d) [])) rfl (hb hby at_5) (by decide) (by decide)
  obtain ⟨b103, g103⟩ : ∃ z : Nat, z = h0.size := ⟨_, rfl⟩
  rw [← g103] at A103 D103 B103 st103
  have Sz1 : h0.size ≤ h103.size := E103.1
  have F103_contentStarts : Fld Z h103 b103 "com/example/macroweave/macroweave/BracketPairs" "contentStarts" "[I" .null := D103 (Or.inl (wi hw 15 rfl)) (ty := (.array .int)) (by decide)
  have F103_closes : Fld Z h103 b103 "com/example/macroweave/macroweave/BracketPairs" "closes" "[I" .null := D103 (Or.inl (wi hw 17 rfl)) (ty := (.array .int)) (by decide)
  have F103_brackets : Fld Z h103 b103 "com/example/macroweave/macroweave/BracketPairs" "brackets" "Lcom/example/macroweave/macroweave/Brackets;" .null := D103 (Or.inl (wi hw 24 rfl)) (ty := (.object "com/example/macroweave/macroweave/Brackets")) (by decide)
  have F103_size : Fld Z h103 b103 "com/example/macroweave/macroweave/BracketPairs" "size" "I" (.int (0 : Int32)) := D103 (Or.inl (wi hw 26 rfl)) (ty := .int) (by decide)
  have c105_OL : Old Z n0 h103 := OL.ext E103
  have ge106_b103 : @LE.le Nat _ n0 b103 := by omega
  obtain ⟨_, _, ⟨T104, L104, k104, n104⟩, -, X104, ⟨Lc104, hQ104, l104, y104, z104⟩, st104⟩ := X103.specialBack hx (y := (⟨"com/example/macroweave/macroweave/BracketPairs", "<init>", "()V"⟩ : MethodName)) rfl hown (mvT hZ (wi hw 6 rfl)) (mvT hZ (wi hw 7 rfl)) (mvT hZ (wi hw 8 rfl)) (by decide) (backOf (W := 1) (rm_init l Z a0 hw [] b103 aN .null .null .null (.int (0 : Int32)) h103 n0 (by omega) A103 F103_contentStarts F103_closes F103_brackets F103_size ge106_b103 c105_OL S_NONE) hZ (wi hw 8 rfl) (wi hw 5 rfl) (by decide) (by decide)) (g := (mkF mM 9 (Lc_law_lt_2_1_1 p0 p1 p2 p3 p4 d) [(.ref b103), (.ref b103)])) rfl (by rw [hml]; rfl) (Steps.refl _) (a := b103) (argsL := []) (rest := [(.ref b103)]) (lenOf pd_0 rfl) rfl (by show 2 * 0 + _ ≤ _; exact Nat.le_of_eq rfl) (hb hby at_9) (fun _ _ => ⟨rfl, e103, Nat.le_of_ble_eq_true rfl, Nat.le_of_ble_eq_true rfl⟩)
  dsimp only [Pt.U, Pt.locs, Pt.cells, Pt.slots] at X104 l104 y104 z104 st104 hQ104
  subst l104 y104 z104
  obtain ⟨h104, e104⟩ : ∃ z, T104.heap = z := ⟨_, rfl⟩
  rw [e104] at hQ104
  obtain ⟨rfl, N104q, Kp104, p104_E_a1, p104_F_contentStarts_a1, p104_F_closes_a1, p104_F_brackets_a1, p104_F_size_a1⟩ := hQ104
  have Sz2 : h103.size ≤ h104.size := Kp104.1
  have N104 := Fr.app N0 N104q
  have c108_V_aN : Arv Z h103 aN kN .int (0 : Int32) [] (.int (0 : Int32)) := V_aN.ext E103
  have lt_aN : @LT.lt Nat _ aN h0.size := V_aN.lt
  have lt_b103 : @LT.lt Nat _ b103 h104.size := p104_E_a1.lt
  have ne_aN_b103_109 : aN ≠ b103 := (by omega : @Ne Nat aN b103)
  have c110_V_aN : Arv Z h104 aN kN .int (0 : Int32) [] (.int (0 : Int32)) := c108_V_aN.keep Kp104 (ninS ne_aN_b103_109 nin0)
  have ne_b103_aN_111 : b103 ≠ aN := (by omega : @Ne Nat b103 aN)
  obtain ⟨cq107, kq107, q107a, q107b, q107c⟩ := isOf hZ e104 p104_E_a1
  obtain ⟨_, _, ⟨T107, L107, k107, n107⟩, -, X107, ⟨Lc107, hQ107, l107, y107, z107⟩, st107⟩ := X104.virtualBack hx (y := (⟨"com/example/macroweave/macroweave/BracketPairs", "opened", "(Lcom/example/macroweave/macroweave/Brackets;I)I"⟩ : MethodName)) (z := (⟨"com/example/macroweave/macroweave/BracketPairs", "opened", "(Lcom/example/macroweave/macroweave/Brackets;I)I"⟩ : MethodName)) hown (mvT hZ (wi hw 18 rfl)) (mvT hZ (wi hw 19 rfl)) (notFace_of_selects (args := #[]) (mvT hZ (wi hw 21 rfl))) (mvT hZ (wi hw 21 rfl)) (mvT hZ (wi hw 20 rfl)) (by decide) (backOf (W := 0) (rm_open1 l Z a0 hw [] b103 d p0 aN kN h104 n0 (by omega) p104_E_a1 p104_F_brackets_a1 p104_F_contentStarts_a1 p104_F_closes_a1 p104_F_size_a1 c110_V_aN ne_b103_aN_111 ge106_b103) hZ (wi hw 22 rfl) (wi hw 5 rfl) (by decide) (by decide)) q107a q107c (g := (mkF mM 19 (Lc_law_lt_2_1_2 p0 p1 p2 p3 p4 d b103) [(.int p0), (.ref d), (.ref b103)])) rfl (by rw [hml]; rfl) (Steps.refl _) (argsL := [(.ref d), (.int p0)]) (rest := []) (lenOf pd_1 rfl) rfl (by show 2 * 0 + _ ≤ _; exact Nat.le_of_eq rfl) (hb hby at_19) (fun _ _ => ⟨rfl, e104, Nat.le_of_ble_eq_true rfl, Nat.le_of_ble_eq_true rfl⟩)
  dsimp only [Pt.U, Pt.locs, Pt.cells, Pt.slots] at X107 l107 y107 z107 st107 hQ107
  subst l107 y107 z107
  obtain ⟨h107, e107⟩ : ∃ z, T107.heap = z := ⟨_, rfl⟩
  rw [e107] at hQ107
  obtain ⟨b1_107, b2_107, k1_107, k2_107, rfl, N107q, Kp107, p107_E_a1, p107_F_brackets_a1, p107_F_contentStarts_a1, p107_F_closes_a1, p107_F_size_a1, p107_V_b1, p107_V_b2, p107_gh_b1, p107_gh_b2, p107_ne_b1_b2⟩ := hQ107
  have Sz3 : h104.size ≤ h107.size := Kp107.1
  have N107 := Fr.app N104 N107q
  have lt_b1_107 : @LT.lt Nat _ b1_107 h107.size := p107_V_b1.lt
  have ne_b103_b1_107_113 : b103 ≠ b1_107 := (by omega : @Ne Nat b103 b1_107)
  have lt_b2_107 : @LT.lt Nat _ b2_107 h107.size := p107_V_b2.lt
  have ne_b103_b2_107_114 : b103 ≠ b2_107 := (by omega : @Ne Nat b103 b2_107)
  have ge115_b1_107 : @LE.le Nat _ n0 b1_107 := by omega
  have ge116_b2_107 : @LE.le Nat _ n0 b2_107 := by omega
  obtain ⟨cq112, kq112, q112a, q112b, q112c⟩ := isOf hZ e107 p107_E_a1
  obtain ⟨_, _, ⟨T112, L112, k112, n112⟩, -, X112, ⟨Lc112, hQ112, l112, y112, z112⟩, st112⟩ := X107.virtualBack hx (y := (⟨"com/example/macroweave/macroweave/BracketPairs", "opened", "(Lcom/example/macroweave/macroweave/Brackets;I)I"⟩ : MethodName)) (z := (⟨"com/example/macroweave/macroweave/BracketPairs", "opened", "(Lcom/example/macroweave/macroweave/Brackets;I)I"⟩ : MethodName)) hown (mvT hZ (wi hw 18 rfl)) (mvT hZ (wi hw 19 rfl)) (notFace_of_selects (args := #[]) (mvT hZ (wi hw 21 rfl))) (mvT hZ (wi hw 21 rfl)) (mvT hZ (wi hw 20 rfl)) (by decide) (backOf (W := 0) (rm_open2n l Z a0 hw [] b103 d p1 p0 b1_107 b2_107 k1_107 k2_107 h107 n0 (by omega) p107_E_a1 p107_F_brackets_a1 p107_F_contentStarts_a1 p107_F_closes_a1 p107_F_size_a1 p107_V_b1 p107_V_b2 ne_b103_b1_107_113 ne_b103_b2_107_114 p107_ne_b1_b2 ge106_b103 ge115_b1_107 ge116_b2_107 hc37_112) hZ (wi hw 22 rfl) (wi hw 5 rfl) (by decide) (by decide)) q112a q112c (g := (mkF mM 29 (Lc_law_lt_2_1_3 p0 p1 p2 p3 p4 d b103) [(.int p1), (.ref d), (.ref b103)])) rfl (by rw [hml]; rfl) (Steps.refl _) (argsL := [(.ref d), (.int p1)]) (rest := []) (lenOf pd_1 rfl) rfl (by show 2 * 0 + _ ≤ _; exact Nat.le_of_eq rfl) (hb hby at_29) (fun _ _ => ⟨rfl, e107, Nat.le_of_ble_eq_true rfl, Nat.le_of_ble_eq_true rfl⟩)
  dsimp only [Pt.U, Pt.locs, Pt.cells, Pt.slots] at X112 l112 y112 z112 st112 hQ112
  subst l112 y112 z112
  obtain ⟨h112, e112⟩ : ∃ z, T112.heap = z := ⟨_, rfl⟩
  rw [e112] at hQ112
  obtain ⟨rfl, N112q, eq112⟩ := hQ112
  rw [eq112] at e112
  have N112 := Fr.app N107 N112q
  obtain ⟨cq117, kq117, q117a, q117b, q117c⟩ := isOf hZ e112 p107_E_a1
  obtain ⟨_, _, ⟨T117, L117, k117, n117⟩, -, X117, ⟨Lc117, hQ117, l117, y117, z117⟩, st117⟩ := X112.virtualBack hx (y := (⟨"com/example/macroweave/macroweave/BracketPairs", "closed", "(II)V"⟩ : MethodName)) (z := (⟨"com/example/macroweave/macroweave/BracketPairs", "closed", "(II)V"⟩ : MethodName)) hown (mvT hZ (wi hw 43 rfl)) (mvT hZ (wi hw 44 rfl)) (notFace_of_selects (args := #[]) (mvT hZ (wi hw 46 rfl))) (mvT hZ (wi hw 46 rfl)) (mvT hZ (wi hw 45 rfl)) (by decide) (backOf (W := 0) (rm_closedn l Z a0 hw [] b103 p2 h107 n0 (by omega) ) hZ (wi hw 47 rfl) (wi hw 5 rfl) (by decide) (by decide)) q117a q117c (g := (mkF mM 109 (Lc_law_lt_2_1_7 p0 p1 p2 p3 p4 d b103) [(.int p2), (.int (-1 : Int32)), (.ref b103)])) rfl (by rw [hml]; rfl) (Steps.refl _) (argsL := [(.int (-1 : Int32)), (.int p2)]) (rest := []) (lenOf pd_5 rfl) rfl (by show 2 * 0 + _ ≤ _; exact Nat.le_of_eq rfl) (hb hby at_109) (fun _ _ => ⟨rfl, e112, Nat.le_of_ble_eq_true rfl, Nat.le_of_ble_eq_true rfl⟩)
  dsimp only [Pt.U, Pt.locs, Pt.cells, Pt.slots] at X117 l117 y117 z117 st117 hQ117
  subst l117 y117 z117
  obtain ⟨h117, e117⟩ : ∃ z, T117.heap = z := ⟨_, rfl⟩
  rw [e117] at hQ117
  obtain ⟨rfl, N117q, eq117⟩ := hQ117
  rw [eq117] at e117
  have N117 := Fr.app N112 N117q
  obtain ⟨cq118, kq118, q118a, q118b, q118c⟩ := isOf hZ e117 p107_E_a1
  obtain ⟨_, _, ⟨T118, L118, k118, n118⟩, -, X118, ⟨Lc118, hQ118, l118, y118, z118⟩, st118⟩ := X117.virtualBack hx (y := (⟨"com/example/macroweave/macroweave/BracketPairs", "closed", "(II)V"⟩ : MethodName)) (z := (⟨"com/example/macroweave/macroweave/BracketPairs", "closed", "(II)V"⟩ : MethodName)) hown (mvT hZ (wi hw 43 rfl)) (mvT hZ (wi hw 44 rfl)) (notFace_of_selects (args := #[]) (mvT hZ (wi hw 46 rfl))) (mvT hZ (wi hw 46 rfl)) (mvT hZ (wi hw 45 rfl)) (by decide) (backOf (W := 0) (rm_closed0 l Z a0 hw [] b103 p3 b2_107 k2_107 (-1 : Int32) (0 : Int32) h107 n0 (by omega) p107_E_a1 p107_F_closes_a1 p107_V_b2 ne_b103_b2_107_114 ge116_b2_107) hZ (wi hw 47 rfl) (wi hw 5 rfl) (by decide) (by decide)) q118a q118c (g := (mkF mM 122 (Lc_law_lt_2_1_7 p0 p1 p2 p3 p4 d b103) [(.int p3), (.int (0 : Int32)), (.ref b103)])) rfl (by rw [hml]; rfl) (Steps.refl _) (argsL := [(.int (0 : Int32)), (.int p3)]) (rest := []) (lenOf pd_5 rfl) rfl (by show 2 * 0 + _ ≤ _; exact Nat.le_of_eq rfl) (hb hby at_122) (fun _ _ => ⟨rfl, e117, Nat.le_of_ble_eq_true rfl, Nat.le_of_ble_eq_true rfl⟩)
  dsimp only [Pt.U, Pt.locs, Pt.cells, Pt.slots] at X118 l118 y118 z118 st118 hQ118
  subst l118 y118 z118
  obtain ⟨h118, e118⟩ : ∃ z, T118.heap = z := ⟨_, rfl⟩
  rw [e118] at hQ118
  obtain ⟨rfl, N118q, Kp118, p118_V_b2⟩ := hQ118
  have Sz4 : h107.size ≤ h118.size := Kp118.1
  have N118 := Fr.app N117 N118q
  have c120_F_brackets_b103 : Fld Z h118 b103 "com/example/macroweave/macroweave/BracketPairs" "brackets" "Lcom/example/macroweave/macroweave/Brackets;" (.ref d) := p107_F_brackets_a1.keep Kp118 (ninS ne_b103_b2_107_114 nin0)
  have c121_F_contentStarts_b103 : Fld Z h118 b103 "com/example/macroweave/macroweave/BracketPairs" "contentStarts" "[I" (.ref b1_107) := p107_F_contentStarts_a1.keep Kp118 (ninS ne_b103_b2_107_114 nin0)
  have c122_F_closes_b103 : Fld Z h118 b103 "com/example/macroweave/macroweave/BracketPairs" "closes" "[I" (.ref b2_107) := p107_F_closes_a1.keep Kp118 (ninS ne_b103_b2_107_114 nin0)
  have c123_F_size_b103 : Fld Z h118 b103 "com/example/macroweave/macroweave/BracketPairs" "size" "I" (.int (1 : Int32)) := p107_F_size_a1.keep Kp118 (ninS ne_b103_b2_107_114 nin0)
  have c124_V_b1_107 : Arv Z h118 b1_107 k1_107 .int (4 : Int32) [(.int p0), (.int (0 : Int32)), (.int (0 : Int32)), (.int (0 : Int32))] (.int (0 : Int32)) := p107_V_b1.keep Kp118 (ninS p107_ne_b1_b2 nin0)
  have c125_E_b103 : Exa Z h118 b103 "com/example/macroweave/macroweave/BracketPairs" := p107_E_a1.keep Kp118
  obtain ⟨cq119, kq119, q119a, q119b, q119c⟩ := isOf hZ e118 c125_E_b103
  obtain ⟨_, _, ⟨T119, L119, k119, n119⟩, -, X119, ⟨Lc119, hQ119, l119, y119, z119⟩, st119⟩ := X118.virtualBack hx (y := (⟨"com/example/macroweave/macroweave/BracketPairs", "close", "(Lcom/example/macroweave/macroweave/Brackets;I)I"⟩ : MethodName)) (z := (⟨"com/example/macroweave/macroweave/BracketPairs", "close", "(Lcom/example/macroweave/macroweave/Brackets;I)I"⟩ : MethodName)) hown (mvT hZ (wi hw 48 rfl)) (mvT hZ (wi hw 49 rfl)) (notFace_of_selects (args := #[]) (mvT hZ (wi hw 51 rfl))) (mvT hZ (wi hw 51 rfl)) (mvT hZ (wi hw 50 rfl)) (by decide) (backOf (W := 0) (rm_close_1x l Z a0 hw [] b103 d b1_107 k1_107 p0 b2_107 k2_107 p3 (0 : Int32) h118 n0 (by omega) c120_F_brackets_b103 c121_F_contentStarts_b103 c122_F_closes_b103 c123_F_size_b103 c124_V_b1_107 p118_V_b2) hZ (wi hw 52 rfl) (wi hw 5 rfl) (by decide) (by decide)) q119a q119c (g := (mkF mM 187 (Lc_law_lt_2_1_9 p0 p1 p2 p3 p4 d b103) [(.int p0), (.ref d), (.ref b103)])) rfl (by rw [hml]; rfl) (Steps.refl _) (argsL := [(.ref d), (.int p0)]) (rest := []) (lenOf pd_1 rfl) rfl (by show 2 * 0 + _ ≤ _; exact Nat.le_of_eq rfl) (hb hby at_187) (fun _ _ => ⟨rfl, e118, Nat.le_of_ble_eq_true rfl, Nat.le_of_ble_eq_true rfl⟩)
  dsimp only [Pt.U, Pt.locs, Pt.cells, Pt.slots] at X119 l119 y119 z119 st119 hQ119
  subst l119 y119 z119
  obtain ⟨h119, e119⟩ : ∃ z, T119.heap = z := ⟨_, rfl⟩
  rw [e119] at hQ119
  obtain ⟨rfl, N119q, eq119⟩ := hQ119
  rw [eq119] at e119
  have N119 := Fr.app N118 N119q
  obtain ⟨cq126, kq126, q126a, q126b, q126c⟩ := isOf hZ e119 c125_E_b103
  obtain ⟨_, _, ⟨T126, L126, k126, n126⟩, -, X126, ⟨Lc126, hQ126, l126, y126, z126⟩, st126⟩ := X119.virtualBack hx (y := (⟨"com/example/macroweave/macroweave/BracketPairs", "close", "(Lcom/example/macroweave/macroweave/Brackets;I)I"⟩ : MethodName)) (z := (⟨"com/example/macroweave/macroweave/BracketPairs", "close", "(Lcom/example/macroweave/macroweave/Brackets;I)I"⟩ : MethodName)) hown (mvT hZ (wi hw 48 rfl)) (mvT hZ (wi hw 49 rfl)) (notFace_of_selects (args := #[]) (mvT hZ (wi hw 51 rfl))) (mvT hZ (wi hw 51 rfl)) (mvT hZ (wi hw 50 rfl)) (by decide) (backOf (W := 0) (rm_close_1y l Z a0 hw [] b103 d b1_107 k1_107 p0 p1 b2_107 k2_107 p3 (0 : Int32) h118 n0 (by omega) c120_F_brackets_b103 c121_F_contentStarts_b103 c122_F_closes_b103 c123_F_size_b103 c124_V_b1_107 p118_V_b2 hc37_112 hc48_103_104_126) hZ (wi hw 52 rfl) (wi hw 5 rfl) (by decide) (by decide)) q126a q126c (g := (mkF mM 200 (Lc_law_lt_2_1_9 p0 p1 p2 p3 p4 d b103) [(.int p1), (.ref d), (.ref b103)])) rfl (by rw [hml]; rfl) (Steps.refl _) (argsL := [(.ref d), (.int p1)]) (rest := []) (lenOf pd_1 rfl) rfl (by show 2 * 0 + _ ≤ _; exact Nat.le_of_eq rfl) (hb hby at_200) (fun _ _ => ⟨rfl, e119, Nat.le_of_ble_eq_true rfl, Nat.le_of_ble_eq_true rfl⟩)
  dsimp only [Pt.U, Pt.locs, Pt.cells, Pt.slots] at X126 l126 y126 z126 st126 hQ126
  subst l126 y126 z126
  obtain ⟨h126, e126⟩ : ∃ z, T126.heap = z := ⟨_, rfl⟩
  rw [e126] at hQ126
  obtain ⟨rfl, N126q, eq126⟩ := hQ126
  rw [eq126] at e126
  have N126 := Fr.app N119 N126q
  obtain ⟨fs, hr, hrun, hended, hW, hsame⟩ := X126.leave (v := some (.int (1 : Int32))) (fun h => by rw [Bd.returns] at h; cases h)
  refine ⟨_, _, pre0 _ ?_, hrun, hended, _, _, rfl, ?_, ⟨_, rfl⟩, hW, hsame.mono (by decide) (by decide)⟩
  · show SS pP eE belowS s₁ (mkF mM 0 (Lc_law_lt_2_1_0 p0 p1 p2 p3 p4) []) _
    refine st102 _ ?_
    show SS pP eE belowS T102 (mkF mM 3 (Lc_law_lt_2_1_0 p0 p1 p2 p3 p4) [(.ref d)]) _
    refine XS.astore X102.here hx rfl (hb hby at_3) rfl rfl (l' := (Lc_law_lt_2_1_1 p0 p1 p2 p3 p4 d)) rfl ?_
    show SS pP eE belowS T102 (mkF mM 5 (Lc_law_lt_2_1_1 p0 p1 p2 p3 p4 d) []) _
    refine st103 _ ?_
    show SS pP eE belowS T103 (mkF mM 8 (Lc_law_lt_2_1_1 p0 p1 p2 p3 p4 d) [(.ref b103)]) _
    refine XS.dup X103.here hx rfl (hb hby at_8) rfl rfl ?_
    show SS pP eE belowS T103 (mkF mM 9 (Lc_law_lt_2_1_1 p0 p1 p2 p3 p4 d) [(.ref b103), (.ref b103)]) _
    refine st104.trans ?_
    show SS pP eE belowS T104 (mkF mM 12 (Lc_law_lt_2_1_1 p0 p1 p2 p3 p4 d) [(.ref b103)]) _
    refine XS.astore X104.here hx rfl (hb hby at_12) rfl rfl (l' := (Lc_law_lt_2_1_2 p0 p1 p2 p3 p4 d b103)) rfl ?_
    show SS pP eE belowS T104 (mkF mM 14 (Lc_law_lt_2_1_2 p0 p1 p2 p3 p4 d b103) []) _
    refine XS.aload X104.here hx rfl (hb hby at_14) rfl rfl ?_
    show SS pP eE belowS T104 (mkF mM 16 (Lc_law_lt_2_1_2 p0 p1 p2 p3 p4 d b103) [(.ref b103)]) _
    refine XS.aload X104.here hx rfl (hb hby at_16) rfl rfl ?_
    show SS pP eE belowS T104 (mkF mM 18 (Lc_law_lt_2_1_2 p0 p1 p2 p3 p4 d b103) [(.ref d), (.ref b103)]) _
    refine XS.iloadN X104.here hx rfl (hb hby at_18) rfl ?_
    show SS pP eE belowS T104 (mkF mM 19 (Lc_law_lt_2_1_2 p0 p1 p2 p3 p4 d b103) [(.int p0), (.ref d), (.ref b103)]) _
    refine st107.trans ?_
    show SS pP eE belowS T107 (mkF mM 22 (Lc_law_lt_2_1_2 p0 p1 p2 p3 p4 d b103) [(.int (0 : Int32))]) _
    refine XS.istore X107.here hx rfl (hb hby at_22) rfl (l' := (Lc_law_lt_2_1_3 p0 p1 p2 p3 p4 d b103)) rfl ?_
    show SS pP eE belowS T107 (mkF mM 24 (Lc_law_lt_2_1_3 p0 p1 p2 p3 p4 d b103) []) _
    refine XS.aload X107.here hx rfl (hb hby at_24) rfl rfl ?_
    show SS pP eE belowS T107 (mkF mM 26 (Lc_law_lt_2_1_3 p0 p1 p2 p3 p4 d b103) [(.ref b103)]) _
    refine XS.aload X107.here hx rfl (hb hby at_26) rfl rfl ?_
    show SS pP eE belowS T107 (mkF mM 28 (Lc_law_lt_2_1_3 p0 p1 p2 p3 p4 d b103) [(.ref d), (.ref b103)]) _
    refine XS.iloadN X107.here hx rfl (hb hby at_28) rfl ?_
    show SS pP eE belowS T107 (mkF mM 29 (Lc_law_lt_2_1_3 p0 p1 p2 p3 p4 d b103) [(.int p1), (.ref d), (.ref b103)]) _
    refine st112.trans ?_
    show SS pP eE belowS T112 (mkF mM 32 (Lc_law_lt_2_1_3 p0 p1 p2 p3 p4 d b103) [(.int (-1 : Int32))]) _
    refine XS.istore X112.here hx rfl (hb hby at_32) rfl (l' := (Lc_law_lt_2_1_4 p0 p1 p2 p3 p4 d b103)) rfl ?_
    show SS pP eE belowS T112 (mkF mM 34 (Lc_law_lt_2_1_4 p0 p1 p2 p3 p4 d b103) []) _
    refine XS.iload X112.here hx rfl (hb hby at_34) rfl ?_
    show SS pP eE belowS T112 (mkF mM 36 (Lc_law_lt_2_1_4 p0 p1 p2 p3 p4 d b103) [(.int (0 : Int32))]) _
    refine XS.ifYes X112.here hx rfl (pc0 := 36) (pc' := 41) rfl (hb hby at_36) rfl ((if0 _ _).trans (teq (by decide : (0 : Int32) = (0 : Int32))).1) (by decide) (by decide) ?_
    show SS pP eE belowS T112 (mkF mM 41 (Lc_law_lt_2_1_4 p0 p1 p2 p3 p4 d b103) []) _
    refine XS.iload X112.here hx rfl (hb hby at_41) rfl ?_
    show SS pP eE belowS T112 (mkF mM 43 (Lc_law_lt_2_1_4 p0 p1 p2 p3 p4 d b103) [(.int (-1 : Int32))]) _
    refine XS.iloadN X112.here hx rfl (hb hby at_43) rfl ?_
    show SS pP eE belowS T112 (mkF mM 44 (Lc_law_lt_2_1_4 p0 p1 p2 p3 p4 d b103) [(.int p1), (.int (-1 : Int32))]) _
    refine XS.iloadN X112.here hx rfl (hb hby at_44) rfl ?_
    show SS pP eE belowS T112 (mkF mM 45 (Lc_law_lt_2_1_4 p0 p1 p2 p3 p4 d b103) [(.int p0), (.int p1), (.int (-1 : Int32))]) _
    refine XS.icmpYes X112.here hx rfl (pc0 := 45) (pc' := 52) rfl (hb hby at_45) rfl (flt hc37_112).2.2.2 (by decide) (by decide) ?_
    show SS pP eE belowS T112 (mkF mM 52 (Lc_law_lt_2_1_4 p0 p1 p2 p3 p4 d b103) [(.int (-1 : Int32))]) _
    refine XS.iconst X112.here hx rfl (hb hby at_52) ?_
    show SS pP eE belowS T112 (mkF mM 53 (Lc_law_lt_2_1_4 p0 p1 p2 p3 p4 d b103) [(.int (-1 : Int32)), (.int (-1 : Int32))]) _
    refine XS.icmpYes X112.here hx rfl (pc0 := 53) (pc' := 58) rfl (hb hby at_53) rfl (teq (by decide : (-1 : Int32) = (-1 : Int32))).1 (by decide) (by decide) ?_
    show SS pP eE belowS T112 (mkF mM 58 (Lc_law_lt_2_1_4 p0 p1 p2 p3 p4 d b103) []) _
    refine XS.iload X112.here hx rfl (hb hby at_58) rfl ?_
    show SS pP eE belowS T112 (mkF mM 60 (Lc_law_lt_2_1_4 p0 p1 p2 p3 p4 d b103) [(.int p4)]) _
    refine XS.iconst X112.here hx rfl (hb hby at_60) ?_
    show SS pP eE belowS T112 (mkF mM 61 (Lc_law_lt_2_1_4 p0 p1 p2 p3 p4 d b103) [(.int (3 : Int32)), (.int p4)]) _
    refine XS.iand X112.here hx rfl (hb hby at_61) rfl ?_
    show SS pP eE belowS T112 (mkF mM 62 (Lc_law_lt_2_1_4 p0 p1 p2 p3 p4 d b103) [(.int (p4 &&& (3 : Int32)))]) _
    refine XS.istore X112.here hx rfl (hb hby at_62) rfl (l' := (Lc_law_lt_2_1_5 p0 p1 p2 p3 p4 d b103)) rfl ?_
    show SS pP eE belowS T112 (mkF mM 64 (Lc_law_lt_2_1_5 p0 p1 p2 p3 p4 d b103) []) _
    refine XS.iload X112.here hx rfl (hb hby at_64) rfl ?_
    show SS pP eE belowS T112 (mkF mM 66 (Lc_law_lt_2_1_5 p0 p1 p2 p3 p4 d b103) [(.int (p4 &&& (3 : Int32)))]) _
    refine XS.ifYes X112.here hx rfl (pc0 := 66) (pc' := 74) rfl (hb hby at_66) rfl ((if0 _ _).trans (feq hc66).2) (by decide) (by decide) ?_
    show SS pP eE belowS T112 (mkF mM 74 (Lc_law_lt_2_1_5 p0 p1 p2 p3 p4 d b103) []) _
    refine XS.iload X112.here hx rfl (hb hby at_74) rfl ?_
    show SS pP eE belowS T112 (mkF mM 76 (Lc_law_lt_2_1_5 p0 p1 p2 p3 p4 d b103) [(.int (p4 &&& (3 : Int32)))]) _
    refine XS.iconst X112.here hx rfl (hb hby at_76) ?_
    show SS pP eE belowS T112 (mkF mM 77 (Lc_law_lt_2_1_5 p0 p1 p2 p3 p4 d b103) [(.int (1 : Int32)), (.int (p4 &&& (3 : Int32)))]) _
    refine XS.icmpYes X112.here hx rfl (pc0 := 77) (pc' := 85) rfl (hb hby at_77) rfl (feq hc77).2 (by decide) (by decide) ?_
    show SS pP eE belowS T112 (mkF mM 85 (Lc_law_lt_2_1_5 p0 p1 p2 p3 p4 d b103) []) _
    refine XS.iconst X112.here hx rfl (hb hby at_85) ?_
    show SS pP eE belowS T112 (mkF mM 86 (Lc_law_lt_2_1_5 p0 p1 p2 p3 p4 d b103) [(.int (-1 : Int32))]) _
    refine XS.istore X112.here hx rfl (hb hby at_86) rfl (l' := (Lc_law_lt_2_1_6 p0 p1 p2 p3 p4 d b103)) rfl ?_
    show SS pP eE belowS T112 (mkF mM 88 (Lc_law_lt_2_1_6 p0 p1 p2 p3 p4 d b103) []) _
    refine XS.iload X112.here hx rfl (hb hby at_88) rfl ?_
    show SS pP eE belowS T112 (mkF mM 90 (Lc_law_lt_2_1_6 p0 p1 p2 p3 p4 d b103) [(.int p4)]) _
    refine XS.iconst X112.here hx rfl (hb hby at_90) ?_
    show SS pP eE belowS T112 (mkF mM 91 (Lc_law_lt_2_1_6 p0 p1 p2 p3 p4 d b103) [(.int (2 : Int32)), (.int p4)]) _
    refine XS.ishr X112.here hx rfl (hb hby at_91) rfl ?_
    show SS pP eE belowS T112 (mkF mM 92 (Lc_law_lt_2_1_6 p0 p1 p2 p3 p4 d b103) [(.int (p4 >>> ((2 : Int32) &&& 31)))]) _
    refine XS.iconst X112.here hx rfl (hb hby at_92) ?_
    show SS pP eE belowS T112 (mkF mM 93 (Lc_law_lt_2_1_6 p0 p1 p2 p3 p4 d b103) [(.int (1 : Int32)), (.int (p4 >>> ((2 : Int32) &&& 31)))]) _
    refine XS.iand X112.here hx rfl (hb hby at_93) rfl ?_
    show SS pP eE belowS T112 (mkF mM 94 (Lc_law_lt_2_1_6 p0 p1 p2 p3 p4 d b103) [(.int ((p4 >>> ((2 : Int32) &&& 31)) &&& (1 : Int32)))]) _
    refine XS.ifNo X112.here hx rfl (hb hby at_94) rfl ((if0 _ _).trans (feq hc94).1) ?_
    show SS pP eE belowS T112 (mkF mM 97 (Lc_law_lt_2_1_6 p0 p1 p2 p3 p4 d b103) []) _
    refine XS.iconst X112.here hx rfl (hb hby at_97) ?_
    show SS pP eE belowS T112 (mkF mM 98 (Lc_law_lt_2_1_6 p0 p1 p2 p3 p4 d b103) [(.int (1 : Int32))]) _
    refine XS.goto X112.here hx rfl (pc0 := 98) (pc' := 102) rfl (hb hby at_98) (by decide) (by decide) ?_
    show SS pP eE belowS T112 (mkF mM 102 (Lc_law_lt_2_1_6 p0 p1 p2 p3 p4 d b103) [(.int (1 : Int32))]) _
    refine XS.istore X112.here hx rfl (hb hby at_102) rfl (l' := (Lc_law_lt_2_1_7 p0 p1 p2 p3 p4 d b103)) rfl ?_
    show SS pP eE belowS T112 (mkF mM 104 (Lc_law_lt_2_1_7 p0 p1 p2 p3 p4 d b103) []) _
    refine XS.aload X112.here hx rfl (hb hby at_104) rfl rfl ?_
    show SS pP eE belowS T112 (mkF mM 106 (Lc_law_lt_2_1_7 p0 p1 p2 p3 p4 d b103) [(.ref b103)]) _
    refine XS.iload X112.here hx rfl (hb hby at_106) rfl ?_
    show SS pP eE belowS T112 (mkF mM 108 (Lc_law_lt_2_1_7 p0 p1 p2 p3 p4 d b103) [(.int (-1 : Int32)), (.ref b103)]) _
    refine XS.iloadN X112.here hx rfl (hb hby at_108) rfl ?_
    show SS pP eE belowS T112 (mkF mM 109 (Lc_law_lt_2_1_7 p0 p1 p2 p3 p4 d b103) [(.int p2), (.int (-1 : Int32)), (.ref b103)]) _
    refine st117.trans ?_
    show SS pP eE belowS T117 (mkF mM 112 (Lc_law_lt_2_1_7 p0 p1 p2 p3 p4 d b103) []) _
    refine XS.iload X117.here hx rfl (hb hby at_112) rfl ?_
    show SS pP eE belowS T117 (mkF mM 114 (Lc_law_lt_2_1_7 p0 p1 p2 p3 p4 d b103) [(.int (1 : Int32))]) _
    refine XS.ifNo X117.here hx rfl (hb hby at_114) rfl ((if0 _ _).trans (feq (by decide : ¬ ((1 : Int32) = (0 : Int32)))).1) ?_
    show SS pP eE belowS T117 (mkF mM 117 (Lc_law_lt_2_1_7 p0 p1 p2 p3 p4 d b103) []) _
    refine XS.aload X117.here hx rfl (hb hby at_117) rfl rfl ?_
    show SS pP eE belowS T117 (mkF mM 119 (Lc_law_lt_2_1_7 p0 p1 p2 p3 p4 d b103) [(.ref b103)]) _
    refine XS.iload X117.here hx rfl (hb hby at_119) rfl ?_
    show SS pP eE belowS T117 (mkF mM 121 (Lc_law_lt_2_1_7 p0 p1 p2 p3 p4 d b103) [(.int (0 : Int32)), (.ref b103)]) _
    refine XS.iloadN X117.here hx rfl (hb hby at_121) rfl ?_
    show SS pP eE belowS T117 (mkF mM 122 (Lc_law_lt_2_1_7 p0 p1 p2 p3 p4 d b103) [(.int p3), (.int (0 : Int32)), (.ref b103)]) _
    refine st118.trans ?_
    show SS pP eE belowS T118 (mkF mM 125 (Lc_law_lt_2_1_7 p0 p1 p2 p3 p4 d b103) []) _
    refine XS.iload X118.here hx rfl (hb hby at_125) rfl ?_
    show SS pP eE belowS T118 (mkF mM 127 (Lc_law_lt_2_1_7 p0 p1 p2 p3 p4 d b103) [(.int (1 : Int32))]) _
    refine XS.ifNo X118.here hx rfl (hb hby at_127) rfl ((if0 _ _).trans (feq (by decide : ¬ ((1 : Int32) = (0 : Int32)))).1) ?_
    show SS pP eE belowS T118 (mkF mM 130 (Lc_law_lt_2_1_7 p0 p1 p2 p3 p4 d b103) []) _
    refine XS.iloadN X118.here hx rfl (hb hby at_130) rfl ?_
    show SS pP eE belowS T118 (mkF mM 131 (Lc_law_lt_2_1_7 p0 p1 p2 p3 p4 d b103) [(.int p3)]) _
    refine XS.goto X118.here hx rfl (pc0 := 131) (pc' := 144) rfl (hb hby at_131) (by decide) (by decide) ?_
    show SS pP eE belowS T118 (mkF mM 144 (Lc_law_lt_2_1_7 p0 p1 p2 p3 p4 d b103) [(.int p3)]) _
    refine XS.istore X118.here hx rfl (hb hby at_144) rfl (l' := (Lc_law_lt_2_1_8 p0 p1 p2 p3 p4 d b103)) rfl ?_
    show SS pP eE belowS T118 (mkF mM 146 (Lc_law_lt_2_1_8 p0 p1 p2 p3 p4 d b103) []) _
    refine XS.iloadN X118.here hx rfl (hb hby at_146) rfl ?_
    show SS pP eE belowS T118 (mkF mM 147 (Lc_law_lt_2_1_8 p0 p1 p2 p3 p4 d b103) [(.int p1)]) _
    refine XS.iloadN X118.here hx rfl (hb hby at_147) rfl ?_
    show SS pP eE belowS T118 (mkF mM 148 (Lc_law_lt_2_1_8 p0 p1 p2 p3 p4 d b103) [(.int p0), (.int p1)]) _
    refine XS.icmpYes X118.here hx rfl (pc0 := 148) (pc' := 167) rfl (hb hby at_148) rfl (flt hc37_112).2.2.2 (by decide) (by decide) ?_
    show SS pP eE belowS T118 (mkF mM 167 (Lc_law_lt_2_1_8 p0 p1 p2 p3 p4 d b103) []) _
    refine XS.iloadN X118.here hx rfl (hb hby at_167) rfl ?_
    show SS pP eE belowS T118 (mkF mM 168 (Lc_law_lt_2_1_8 p0 p1 p2 p3 p4 d b103) [(.int p1)]) _
    refine XS.iloadN X118.here hx rfl (hb hby at_168) rfl ?_
    show SS pP eE belowS T118 (mkF mM 169 (Lc_law_lt_2_1_8 p0 p1 p2 p3 p4 d b103) [(.int p0), (.int p1)]) _
    refine XS.icmpYes X118.here hx rfl (pc0 := 169) (pc' := 179) rfl (hb hby at_169) rfl (feq hc169).2 (by decide) (by decide) ?_
    show SS pP eE belowS T118 (mkF mM 179 (Lc_law_lt_2_1_8 p0 p1 p2 p3 p4 d b103) []) _
    refine XS.iconst X118.here hx rfl (hb hby at_179) ?_
    show SS pP eE belowS T118 (mkF mM 180 (Lc_law_lt_2_1_8 p0 p1 p2 p3 p4 d b103) [(.int (-1 : Int32))]) _
    refine XS.istore X118.here hx rfl (hb hby at_180) rfl (l' := (Lc_law_lt_2_1_9 p0 p1 p2 p3 p4 d b103)) rfl ?_
    show SS pP eE belowS T118 (mkF mM 182 (Lc_law_lt_2_1_9 p0 p1 p2 p3 p4 d b103) []) _
    refine XS.aload X118.here hx rfl (hb hby at_182) rfl rfl ?_
    show SS pP eE belowS T118 (mkF mM 184 (Lc_law_lt_2_1_9 p0 p1 p2 p3 p4 d b103) [(.ref b103)]) _
    refine XS.aload X118.here hx rfl (hb hby at_184) rfl rfl ?_
    show SS pP eE belowS T118 (mkF mM 186 (Lc_law_lt_2_1_9 p0 p1 p2 p3 p4 d b103) [(.ref d), (.ref b103)]) _
    refine XS.iloadN X118.here hx rfl (hb hby at_186) rfl ?_
    show SS pP eE belowS T118 (mkF mM 187 (Lc_law_lt_2_1_9 p0 p1 p2 p3 p4 d b103) [(.int p0), (.ref d), (.ref b103)]) _
    refine st119.trans ?_
    show SS pP eE belowS T119 (mkF mM 190 (Lc_law_lt_2_1_9 p0 p1 p2 p3 p4 d b103) [(.int p3)]) _
    refine XS.iload X119.here hx rfl (hb hby at_190) rfl ?_
    show SS pP eE belowS T119 (mkF mM 192 (Lc_law_lt_2_1_9 p0 p1 p2 p3 p4 d b103) [(.int p3), (.int p3)]) _
    refine XS.icmpNo X119.here hx rfl (hb hby at_192) rfl (teq (rfl : p3 = p3)).2 ?_
    show SS pP eE belowS T119 (mkF mM 195 (Lc_law_lt_2_1_9 p0 p1 p2 p3 p4 d b103) []) _
    refine XS.aload X119.here hx rfl (hb hby at_195) rfl rfl ?_
    show SS pP eE belowS T119 (mkF mM 197 (Lc_law_lt_2_1_9 p0 p1 p2 p3 p4 d b103) [(.ref b103)]) _
    refine XS.aload X119.here hx rfl (hb hby at_197) rfl rfl ?_
    show SS pP eE belowS T119 (mkF mM 199 (Lc_law_lt_2_1_9 p0 p1 p2 p3 p4 d b103) [(.ref d), (.ref b103)]) _
    refine XS.iloadN X119.here hx rfl (hb hby at_199) rfl ?_
    show SS pP eE belowS T119 (mkF mM 200 (Lc_law_lt_2_1_9 p0 p1 p2 p3 p4 d b103) [(.int p1), (.ref d), (.ref b103)]) _
    refine st126.trans ?_
    show SS pP eE belowS T126 (mkF mM 203 (Lc_law_lt_2_1_9 p0 p1 p2 p3 p4 d b103) [(.int (-1 : Int32))]) _
    refine XS.iload X126.here hx rfl (hb hby at_203) rfl ?_
    show SS pP eE belowS T126 (mkF mM 205 (Lc_law_lt_2_1_9 p0 p1 p2 p3 p4 d b103) [(.int (-1 : Int32)), (.int (-1 : Int32))]) _
    refine XS.icmpNo X126.here hx rfl (hb hby at_205) rfl (teq (by decide : (-1 : Int32) = (-1 : Int32))).2 ?_
    show SS pP eE belowS T126 (mkF mM 208 (Lc_law_lt_2_1_9 p0 p1 p2 p3 p4 d b103) []) _
    refine XS.iconst X126.here hx rfl (hb hby at_208) ?_
    show SS pP eE belowS T126 (mkF mM 209 (Lc_law_lt_2_1_9 p0 p1 p2 p3 p4 d b103) [(.int (1 : Int32))]) _
    refine XS.goto X126.here hx rfl (pc0 := 209) (pc' := 213) rfl (hb hby at_209) (by decide) (by decide) ?_
    show SS pP eE belowS T126 (mkF mM 213 (Lc_law_lt_2_1_9 p0 p1 p2 p3 p4 d b103) [(.int (1 : Int32))]) _
    exact retN X126 hx (t := .boolean) Bd.returns (by simp) (hb hby at_213) hr
  · exact ⟨rfl, N126⟩
theorem own_none {s : State} {args : Array Value} {t : Term} {a : Addr} (hf : Fit s) (ev : t.eval args s none [] s = some (.ref a)) (h : (Jvm.Cond.arrayOf t .int).value args s none s [] = some true) (hl : (Jvm.Cond.eq (Term.length t) (.int (0 : Int32))).value args s none s [] = some true) : ∃ k, Arv s s.heap a k .int (0 : Int32) [] (.int (0 : Int32)) := by
  obtain ⟨cl, A⟩ := Arr.start ev h
  obtain ⟨x, y, ex, ey, -, -⟩ := cmp_v (Or.inl hl)
  obtain ⟨b, cell, h1, h2, h3, rfl⟩ := Jvm.Lib.length_spec ex
  obtain rfl : a = b := Value.ref.inj (Option.some.inj (ev.symm.trans h1))
  obtain rfl : cl = cell := Option.some.inj ((A.fin (Vm.Alike.refl _)).symm.trans h2)
  have e0 : cl.slots.size.toInt32 = (0 : Int32) := by
    have ey' : (Term.int (0 : Int32)).eval args s none [] s = some (.int 0) := rfl
    simpa [Cond.value, ex, ey'] using hl
  exact ⟨_, Arv.start hf A h3 e0 (by decide) rfl trivial⟩
set_option maxRecDepth 65536 in
set_option maxHeartbeats 40000000 in
theorem comes_1 {Post : Tables → Env → Array Value → State → Outcome → State → Prop} (hpost : ∀ tb e args s v u, (limb_1_1.after args s (.returned v) u = true ∧ limb_1_2.after args s (.returned v) u = true ∧ True) → FrameEnd s (.returned v) u (Jvm.fieldLocs frame_1_writes args s ++ Jvm.arrayLocs frame_1_arrays args s ++ Jvm.staticLocs frame_1_statics s) 16 128 → Post tb e args s (.returned v) u) :
    ArmFor flags0 classFile x code maxLocals ret World_1 tables_1 room_1 Calls_1 rest_1 Pre_1 Post := by
  intro l hfl _ _ p e ha hc hk s m args below hf hA hF happ hP
  obtain ⟨hcalls, hrest, hpre⟩ := hP
  obtain ⟨-, -, -, hnamed, -, -, -, hat⟩ := (Spec.applies_iff hf).mp happ
  obtain ⟨hg, hn⟩ := and_e (Cond.before_iff.mp (show (Jvm.Cond.and given_1 narrow_1).before args s = true from hpre))
  obtain ⟨g1, g2⟩ := and_e hg
  obtain ⟨g3, g4⟩ := and_e g2
  obtain ⟨g5, g6⟩ := and_e g4
  obtain ⟨g7, g8⟩ := and_e g6
  obtain ⟨g9, g10⟩ := and_e g8
  obtain ⟨w0, w1, w2, w3, w4, rfl⟩ : ∃ w0 w1 w2 w3 w4 : Value, args = #[w0, w1, w2, w3, w4] := by
    have hs : args.size = 5 := by simpa [Cond.value, given_1] using g1
    obtain ⟨L⟩ := args
    match L, hs with
    | [w0, w1, w2, w3, w4], _ => exact ⟨w0, w1, w2, w3, w4, rfl⟩
  have hw := fun d (hd : d ∈ tables_1) => atoms_spec (ws := Jvm.Cond.code x code maxLocals ret :: tables_1) hat d (List.mem_cons_of_mem _ hd)
  have hfit : Fit s := fun {y c} hc i hi => by
    obtain ⟨ha, rfl⟩ := Array.getElem?_eq_some_iff.mp hc
    have q := List.all_eq_true.mp ((Array.all_eq_true_iff_forall_mem.mp hF) _ (Array.getElem_mem ha)) i (List.mem_range.mpr hi)
    simpa [Array.getElem?_eq_getElem hi] using q
  obtain ⟨i0, ei0⟩ := is_v g3
  obtain rfl : w0 = (.int i0) := Option.some.inj ei0
  obtain ⟨i1, ei1⟩ := is_v g5
  obtain rfl : w1 = (.int i1) := Option.some.inj ei1
  obtain ⟨i2, ei2⟩ := is_v g7
  obtain rfl : w2 = (.int i2) := Option.some.inj ei2
  obtain ⟨i3, ei3⟩ := is_v g9
  obtain rfl : w3 = (.int i3) := Option.some.inj ei3
  obtain ⟨i4, ei4⟩ := is_v g10
  obtain rfl : w4 = (.int i4) := Option.some.inj ei4
  have hM : MetFree l x (head1 (Jvm.Cond.code x code maxLocals ret :: tables_1) room_1) (fun a U => a = #[(.int i0), (.int i1), (.int i2), (.int i3), (.int i4)] ∧ s.Warmed39 U.vm ∧ U.heap = s.heap) (fun _ _ _ _ _ => True) (fun _ U o U' => ∃ v L, o = .returned v ∧ Q_law s.heap.size v L ∧ FrameEnd U o U' L room_1.cells room_1.slots) := by
    obtain ⟨n1, n2⟩ := and_e hn
    obtain ⟨n3, n4⟩ := and_e n2
    obtain ⟨n5, n6⟩ := and_e n4
    obtain ⟨d, ed⟩ := exa_v n1
    obtain ⟨aN, eN⟩ := exa_v n5
    obtain ⟨kN, VN⟩ := own_none hfit eN n3 n6
    have SD := Sta.start ed (Or.inr ⟨wi hw 1 rfl, wi hw 2 rfl⟩)
    have SN := Sta.start eN (Or.inr ⟨wi hw 5 rfl, wi hw 13 rfl⟩)
    by_cases q1 : i0 < i1
    · skip
      by_cases k0 : (i4 &&& (3 : Int32)) = (0 : Int32)
      · by_cases k2 : ((i4 >>> ((2 : Int32) &&& 31)) &&& (1 : Int32)) = (0 : Int32)
        · exact rm_law_gt_0_0 l s _ hw tables_1 i0 i1 i2 i3 i4 aN kN d s.heap s.heap.size (Nat.le_refl _) (Old.start s) SD SN VN q1 k0 k2
        · exact rm_law_gt_0_1 l s _ hw tables_1 i0 i1 i2 i3 i4 aN kN d s.heap s.heap.size (Nat.le_refl _) (Old.start s) SD SN VN q1 k0 k2
      · by_cases k1 : (i4 &&& (3 : Int32)) = (1 : Int32)
        · by_cases k2 : ((i4 >>> ((2 : Int32) &&& 31)) &&& (1 : Int32)) = (0 : Int32)
          · exact rm_law_gt_1_0 l s _ hw tables_1 i0 i1 i2 i3 i4 aN kN d s.heap s.heap.size (Nat.le_refl _) (Old.start s) SD SN VN q1 k0 k1 k2
          · exact rm_law_gt_1_1 l s _ hw tables_1 i0 i1 i2 i3 i4 aN kN d s.heap s.heap.size (Nat.le_refl _) (Old.start s) SD SN VN q1 k0 k1 k2
        · by_cases k2 : ((i4 >>> ((2 : Int32) &&& 31)) &&& (1 : Int32)) = (0 : Int32)
          · exact rm_law_gt_2_0 l s _ hw tables_1 i0 i1 i2 i3 i4 aN kN d s.heap s.heap.size (Nat.le_refl _) (Old.start s) SD SN VN q1 k0 k1 k2
          · exact rm_law_gt_2_1 l s _ hw tables_1 i0 i1 i2 i3 i4 aN kN d s.heap s.heap.size (Nat.le_refl _) (Old.start s) SD SN VN q1 k0 k1 k2
    · by_cases q2 : i1 = i0
      · subst q2
        by_cases k0 : (i4 &&& (3 : Int32)) = (0 : Int32)
        · by_cases k2 : ((i4 >>> ((2 : Int32) &&& 31)) &&& (1 : Int32)) = (0 : Int32)
          · exact rm_law_eq_0_0 l s _ hw tables_1 i1 i2 i3 i4 aN kN d s.heap s.heap.size (Nat.le_refl _) (Old.start s) SD SN VN k0 k2
          · exact rm_law_eq_0_1 l s _ hw tables_1 i1 i2 i3 i4 aN kN d s.heap s.heap.size (Nat.le_refl _) (Old.start s) SD SN VN k0 k2
        · by_cases k1 : (i4 &&& (3 : Int32)) = (1 : Int32)
          · by_cases k2 : ((i4 >>> ((2 : Int32) &&& 31)) &&& (1 : Int32)) = (0 : Int32)
            · exact rm_law_eq_1_0 l s _ hw tables_1 i1 i2 i3 i4 aN kN d s.heap s.heap.size (Nat.le_refl _) (Old.start s) SD SN VN k0 k1 k2
            · exact rm_law_eq_1_1 l s _ hw tables_1 i1 i2 i3 i4 aN kN d s.heap s.heap.size (Nat.le_refl _) (Old.start s) SD SN VN k0 k1 k2
          · by_cases k2 : ((i4 >>> ((2 : Int32) &&& 31)) &&& (1 : Int32)) = (0 : Int32)
            · exact rm_law_eq_2_0 l s _ hw tables_1 i1 i2 i3 i4 aN kN d s.heap s.heap.size (Nat.le_refl _) (Old.start s) SD SN VN k0 k1 k2
            · exact rm_law_eq_2_1 l s _ hw tables_1 i1 i2 i3 i4 aN kN d s.heap s.heap.size (Nat.le_refl _) (Old.start s) SD SN VN k0 k1 k2
      · skip
        by_cases k0 : (i4 &&& (3 : Int32)) = (0 : Int32)
        · by_cases k2 : ((i4 >>> ((2 : Int32) &&& 31)) &&& (1 : Int32)) = (0 : Int32)
          · exact rm_law_lt_0_0 l s _ hw tables_1 i0 i1 i2 i3 i4 aN kN d s.heap s.heap.size (Nat.le_refl _) (Old.start s) SD SN VN q1 k0 k2 q2 (Int32.lt_of_le_of_ne (Int32.not_lt.mp q1) q2)
          · exact rm_law_lt_0_1 l s _ hw tables_1 i0 i1 i2 i3 i4 aN kN d s.heap s.heap.size (Nat.le_refl _) (Old.start s) SD SN VN q1 k0 k2 q2 (Int32.lt_of_le_of_ne (Int32.not_lt.mp q1) q2)
        · by_cases k1 : (i4 &&& (3 : Int32)) = (1 : Int32)
          · by_cases k2 : ((i4 >>> ((2 : Int32) &&& 31)) &&& (1 : Int32)) = (0 : Int32)
            · exact rm_law_lt_1_0 l s _ hw tables_1 i0 i1 i2 i3 i4 aN kN d s.heap s.heap.size (Nat.le_refl _) (Old.start s) SD SN VN q1 k0 k1 k2 q2 (Int32.lt_of_le_of_ne (Int32.not_lt.mp q1) q2)
            · exact rm_law_lt_1_1 l s _ hw tables_1 i0 i1 i2 i3 i4 aN kN d s.heap s.heap.size (Nat.le_refl _) (Old.start s) SD SN VN q1 k0 k1 k2 q2 (Int32.lt_of_le_of_ne (Int32.not_lt.mp q1) q2)
          · by_cases k2 : ((i4 >>> ((2 : Int32) &&& 31)) &&& (1 : Int32)) = (0 : Int32)
            · exact rm_law_lt_2_0 l s _ hw tables_1 i0 i1 i2 i3 i4 aN kN d s.heap s.heap.size (Nat.le_refl _) (Old.start s) SD SN VN q1 k0 k1 k2 q2 (Int32.lt_of_le_of_ne (Int32.not_lt.mp q1) q2)
            · exact rm_law_lt_2_1 l s _ hw tables_1 i0 i1 i2 i3 i4 aN kN d s.heap s.heap.size (Nat.le_refl _) (Old.start s) SD SN VN q1 k0 k1 k2 q2 (Int32.lt_of_le_of_ne (Int32.not_lt.mp q1) q2)
  obtain ⟨n, o, h1, h2, h3, _, L, rfl, ⟨rfl, N⟩, hq⟩ := hM p e ha hc hk s m _ below hf ((Spec.applies_iff_loose hf).mp happ).1 ⟨rfl, State.Warmed39.refl s, rfl⟩ trivial
  refine ⟨n, _, h1, h2, h3, hpost _ _ _ _ _ _ ⟨Cond.after_iff.mpr rfl, Cond.after_iff.mpr (eq_i res_at (Term.int_eval (1)) rfl), trivial⟩ ⟨hq.1, hq.2.1, (hq.2.2.sift fun y hy => Or.inr (N y hy)).mono (by decide) (by decide)⟩⟩
theorem main_1_1 : Claimed_1_1 := comes_1 fun _ _ _ _ _ _ h hF => ⟨h.1, hF⟩
theorem main_1_2 : Claimed_1_2 := comes_1 fun _ _ _ _ _ _ h hF => ⟨h.2.1, hF⟩
end Jvm.Pilot.@@N@@
namespace Jvm.Pilot.@@N@@
open Jvm Jvm.ClassFile Sem Op Lib Jvm.Free Jvm.Stand Jvm.Pilot.@@N@@.Jvm.D
/-! MADE BY PROGRAM (witnessworld.py) out of the Statement's table words and the real class files: 13 classes; the members and pool entries that the words name. The judged class is class 1, her method 1. -/
namespace start1
open Jvm.ClassFile
def u (s : String) : CpInfo := .utf8 (stringToUtf16 s)
/-- a pool by its gaps: so many unusable entries, then the entry; so many at the end -/
def gap : Nat → List CpInfo → List CpInfo
  | 0, r => r
  | n + 1, r => .unusable :: gap n r
def poolList (es : List (Nat × CpInfo)) (last : Nat) : List CpInfo := es.foldr (fun e r => gap e.1 (e.2 :: r)) (gap last [])
def pool (es : List (Nat × CpInfo)) (last : Nat) : Array CpInfo := ⟨poolList es last⟩
def fileOf (pool : Array CpInfo) (this : Nat) (attrs : Array Attribute := #[]) (ms : Array MethodInfo := #[]) (fl : Nat := 33) (sup : Nat := 0) (ifs : Array Nat := #[]) (fds : Array FieldInfo := #[]) : ClassFile where
  minorVersion := 0
  majorVersion := 65
  constantPool := pool
  accessFlags := fl
  thisClass := this
  superClass := sup
  interfaces := ifs
  fields := fds
  methods := ms
  attributes := attrs
def plain (name : String) (sup : Option ClassId) : Class where
  name := name
  kind := .ordinary
  loader := none
  accessFlags := 33
  super := sup
  interfaces := #[]
  cf := none
  fields := #[]
  methods := #[]
  instanceTypes := #[]
  staticTypes := #[]
  resolved := #[]
  callSites := []
  init := .initialized
  statics := none
  mirror := none

def pool0 : Array CpInfo := pool [(5, u "<init>"), (0, u "()V"), (1, .class_ 10), (1, u "java/lang/Object")] 113

def k0c0 : Code := { maxStack := 0, maxLocals := 1, code := object_method_1_code, exceptionTable := #[], attributes := #[] }
def k0m0 : Method := { name := "<init>", desc := "()V", sig := { parameters := [], returnType := none }, accessFlags := 1, code := some k0c0 }
/-- java/lang/Object -/
def k0 : Class := { plain "java/lang/Object" none with
  accessFlags := 33
  interfaces := #[]
  cf := some (fileOf pool0 8 #[] #[{ accessFlags := 1, nameIndex := 5, descriptorIndex := 6, attributes := #[] }] 33 0 #[] #[])
  fields := #[]
  methods := #[k0m0]
  instanceTypes := #[]
  staticTypes := #[]
  resolved := Array.replicate 124 none
  statics := none }

def pool1 : Array CpInfo := pool [(2, .class_ 4), (0, .nameAndType 5 6), (0, u "java/lang/Object"), (0, u "<init>"), (0, u "()V"), (0, .fieldref 8 9), (0, .class_ 10), (0, .nameAndType 11 12), (0, u "com/example/macroweave/macroweave/Brackets"), (0, u "DEFAULT"), (0, u "Lcom/example/macroweave/macroweave/Brackets;"), (0, .class_ 14), (0, u "com/example/macroweave/macroweave/BracketPairs"), (0, .methodref 13 3), (0, .methodref 13 17), (0, .nameAndType 18 19), (0, u "opened"), (0, u "(Lcom/example/macroweave/macroweave/Brackets;I)I"), (0, .methodref 13 21), (0, .nameAndType 22 23), (0, u "closed"), (0, u "(II)V"), (0, .methodref 13 25), (0, .nameAndType 26 19), (0, u "close"), (0, .class_ 28), (0, u "com/example/macroweave/macroweave/BracketPairsClosedPinLaw"), (2, u "law"), (0, u "(IIIII)Z")] 3

def k1m0 : Method := { name := "<init>", desc := "()V", sig := { parameters := [], returnType := none }, accessFlags := 1, code := none }
def k1c1 : Code := { maxStack := 3, maxLocals := 14, code := code, exceptionTable := #[], attributes := #[] }
def k1m1 : Method := { name := "law", desc := "(IIIII)Z", sig := { parameters := [.int, .int, .int, .int, .int], returnType := some .boolean }, accessFlags := 9, code := some k1c1 }
/-- com/example/macroweave/macroweave/BracketPairsClosedPinLaw -/
def k1 : Class := { plain "com/example/macroweave/macroweave/BracketPairsClosedPinLaw" (some 0) with
  accessFlags := 49
  interfaces := #[]
  cf := some (fileOf pool1 27 #[] #[{ accessFlags := 1, nameIndex := 5, descriptorIndex := 6, attributes := #[] }, { accessFlags := 9, nameIndex := 31, descriptorIndex := 32, attributes := #[] }] 49 2 #[] #[])
  fields := #[]
  methods := #[k1m0, k1m1]
  instanceTypes := #[]
  staticTypes := #[]
  resolved := Array.replicate 36 none
  statics := none }

def pool2 : Array CpInfo := pool [(2, .class_ 4), (1, u "java/lang/Object"), (27, .class_ 34), (1, u "com/example/macroweave/macroweave/Brackets"), (0, u "open"), (0, u "Lcom/example/macroweave/macroweave/Needle;"), (2, u "close"), (9, u "DEFAULT"), (0, u "Lcom/example/macroweave/macroweave/Brackets;")] 22

/-- com/example/macroweave/macroweave/Brackets -/
def k2 : Class := { plain "com/example/macroweave/macroweave/Brackets" (some 0) with
  accessFlags := 32
  interfaces := #[]
  cf := some (fileOf pool2 32 #[] #[] 32 2 #[] #[{ accessFlags := 24, nameIndex := 49, descriptorIndex := 50, attributes := #[] }, { accessFlags := 18, nameIndex := 35, descriptorIndex := 36, attributes := #[] }, { accessFlags := 18, nameIndex := 39, descriptorIndex := 36, attributes := #[] }])
  fields := #[{ name := "DEFAULT", type := (.object "com/example/macroweave/macroweave/Brackets"), accessFlags := 24, slot := 0, constantValue := 0 }, { name := "open", type := (.object "com/example/macroweave/macroweave/Needle"), accessFlags := 18, slot := 0, constantValue := 0 }, { name := "close", type := (.object "com/example/macroweave/macroweave/Needle"), accessFlags := 18, slot := 1, constantValue := 0 }]
  methods := #[]
  instanceTypes := #[(.object "com/example/macroweave/macroweave/Needle"), (.object "com/example/macroweave/macroweave/Needle")]
  staticTypes := #[(.object "com/example/macroweave/macroweave/Brackets")]
  resolved := Array.replicate 73 none
  statics := some 0 }

def pool3 : Array CpInfo := pool [(1, .methodref 2 3), (0, .class_ 4), (0, .nameAndType 5 6), (0, u "java/lang/Object"), (0, u "<init>"), (0, u "()V"), (0, .fieldref 8 9), (0, .class_ 10), (0, .nameAndType 11 12), (0, u "com/example/macroweave/macroweave/BracketPairs"), (0, u "NONE"), (0, u "[I"), (0, .fieldref 8 14), (0, .nameAndType 15 12), (0, u "contentStarts"), (0, .fieldref 8 17), (0, .nameAndType 18 12), (0, u "closes"), (0, .fieldref 8 20), (0, .nameAndType 21 22), (0, u "brackets"), (0, u "Lcom/example/macroweave/macroweave/Brackets;"), (0, .fieldref 8 24), (0, .nameAndType 25 26), (0, u "size"), (0, u "I"), (0, .methodref 28 29), (0, .class_ 30), (0, .nameAndType 31 32), (0, u "java/util/Arrays"), (0, u "binarySearch"), (0, u "([IIII)I"), (0, .methodref 34 35), (0, .class_ 36), (0, .nameAndType 37 38), (0, u "java/lang/Math"), (0, u "max"), (0, u "(II)I"), (0, .methodref 28 40), (0, .nameAndType 41 42), (0, u "copyOf"), (0, u "([II)[I"), (2, u "close"), (0, u "(Lcom/example/macroweave/macroweave/Brackets;I)I"), (1, u "opened"), (0, u "closed"), (0, u "(II)V")] 3

def k3c0 : Code := { maxStack := 2, maxLocals := 1, code := prog_4_method_1_code, exceptionTable := #[], attributes := #[] }
def k3m0 : Method := { name := "<init>", desc := "()V", sig := { parameters := [], returnType := none }, accessFlags := 0, code := some k3c0 }
def k3c1 : Code := { maxStack := 4, maxLocals := 4, code := prog_4_method_2_code, exceptionTable := #[], attributes := #[] }
def k3m1 : Method := { name := "close", desc := "(Lcom/example/macroweave/macroweave/Brackets;I)I", sig := { parameters := [(.object "com/example/macroweave/macroweave/Brackets"), .int], returnType := some .int }, accessFlags := 0, code := some k3c1 }
def k3c2 : Code := { maxStack := 4, maxLocals := 4, code := prog_4_method_3_code, exceptionTable := #[], attributes := #[] }
def k3m2 : Method := { name := "opened", desc := "(Lcom/example/macroweave/macroweave/Brackets;I)I", sig := { parameters := [(.object "com/example/macroweave/macroweave/Brackets"), .int], returnType := some .int }, accessFlags := 0, code := some k3c2 }
def k3c3 : Code := { maxStack := 3, maxLocals := 3, code := prog_4_method_4_code, exceptionTable := #[], attributes := #[] }
def k3m3 : Method := { name := "closed", desc := "(II)V", sig := { parameters := [.int, .int], returnType := none }, accessFlags := 0, code := some k3c3 }
/-- com/example/macroweave/macroweave/BracketPairs -/
def k3 : Class := { plain "com/example/macroweave/macroweave/BracketPairs" (some 0) with
  accessFlags := 32
  interfaces := #[]
  cf := some (fileOf pool3 8 #[] #[{ accessFlags := 0, nameIndex := 5, descriptorIndex := 6, attributes := #[] }, { accessFlags := 0, nameIndex := 45, descriptorIndex := 46, attributes := #[] }, { accessFlags := 0, nameIndex := 48, descriptorIndex := 46, attributes := #[] }, { accessFlags := 0, nameIndex := 49, descriptorIndex := 50, attributes := #[] }] 32 2 #[] #[{ accessFlags := 26, nameIndex := 11, descriptorIndex := 12, attributes := #[] }, { accessFlags := 2, nameIndex := 21, descriptorIndex := 22, attributes := #[] }, { accessFlags := 2, nameIndex := 15, descriptorIndex := 12, attributes := #[] }, { accessFlags := 2, nameIndex := 18, descriptorIndex := 12, attributes := #[] }, { accessFlags := 2, nameIndex := 25, descriptorIndex := 26, attributes := #[] }])
  fields := #[{ name := "NONE", type := (.array .int), accessFlags := 26, slot := 0, constantValue := 0 }, { name := "brackets", type := (.object "com/example/macroweave/macroweave/Brackets"), accessFlags := 2, slot := 0, constantValue := 0 }, { name := "contentStarts", type := (.array .int), accessFlags := 2, slot := 1, constantValue := 0 }, { name := "closes", type := (.array .int), accessFlags := 2, slot := 2, constantValue := 0 }, { name := "size", type := .int, accessFlags := 2, slot := 3, constantValue := 0 }]
  methods := #[k3m0, k3m1, k3m2, k3m3]
  instanceTypes := #[(.object "com/example/macroweave/macroweave/Brackets"), (.array .int), (.array .int), .int]
  staticTypes := #[(.array .int)]
  resolved := Array.replicate 54 none
  statics := some 1 }

def pool4 : Array CpInfo := pool [(1, .class_ 2), (0, u "java/lang/Math"), (1, .class_ 6), (1, u "java/lang/Object"), (0, u "<init>"), (0, u "()V"), (89, .class_ 100), (1, u "java/lang/Math$RandomNumberGeneratorHolder"), (71, u "negativeZeroFloatBits"), (0, u "J"), (2, u "negativeZeroDoubleBits"), (21, u "max"), (2, u "min"), (43, u "$assertionsDisabled"), (0, u "Z"), (88, u "(II)I"), (2, u "twoToTheDoubleScaleDown"), (0, u "D"), (4, u "twoToTheDoubleScaleUp"), (9, u "E"), (3, u "PI"), (2, u "TAU"), (2, u "DEGREES_TO_RADIANS"), (0, u "RADIANS_TO_DEGREES")] 94

def k4m0 : Method := { name := "<init>", desc := "()V", sig := { parameters := [], returnType := none }, accessFlags := 2, code := none }
def k4c1 : Code := { maxStack := 2, maxLocals := 2, code := jdk_29_method_65_code, exceptionTable := #[], attributes := #[] }
def k4m1 : Method := { name := "max", desc := "(II)I", sig := { parameters := [.int, .int], returnType := some .int }, accessFlags := 9, code := some k4c1 }
def k4c2 : Code := { maxStack := 2, maxLocals := 2, code := jdk_29_method_69_code, exceptionTable := #[], attributes := #[] }
def k4m2 : Method := { name := "min", desc := "(II)I", sig := { parameters := [.int, .int], returnType := some .int }, accessFlags := 9, code := some k4c2 }
/-- java/lang/Math -/
def k4 : Class := { plain "java/lang/Math" (some 0) with
  accessFlags := 49
  interfaces := #[]
  cf := some (fileOf pool4 1 #[.nestMembers #[98]] #[{ accessFlags := 2, nameIndex := 7, descriptorIndex := 8, attributes := #[] }, { accessFlags := 9, nameIndex := 198, descriptorIndex := 335, attributes := #[] }, { accessFlags := 9, nameIndex := 201, descriptorIndex := 335, attributes := #[] }] 49 4 #[] #[{ accessFlags := 25, nameIndex := 354, descriptorIndex := 339, attributes := #[] }, { accessFlags := 25, nameIndex := 358, descriptorIndex := 339, attributes := #[] }, { accessFlags := 25, nameIndex := 361, descriptorIndex := 339, attributes := #[] }, { accessFlags := 26, nameIndex := 364, descriptorIndex := 339, attributes := #[] }, { accessFlags := 26, nameIndex := 365, descriptorIndex := 339, attributes := #[] }, { accessFlags := 26, nameIndex := 172, descriptorIndex := 173, attributes := #[] }, { accessFlags := 26, nameIndex := 176, descriptorIndex := 173, attributes := #[] }, { accessFlags := 8, nameIndex := 344, descriptorIndex := 339, attributes := #[] }, { accessFlags := 8, nameIndex := 338, descriptorIndex := 339, attributes := #[] }, { accessFlags := 4120, nameIndex := 245, descriptorIndex := 246, attributes := #[] }])
  fields := #[{ name := "E", type := .double, accessFlags := 25, slot := 0, constantValue := 0 }, { name := "PI", type := .double, accessFlags := 25, slot := 1, constantValue := 0 }, { name := "TAU", type := .double, accessFlags := 25, slot := 2, constantValue := 0 }, { name := "DEGREES_TO_RADIANS", type := .double, accessFlags := 26, slot := 3, constantValue := 0 }, { name := "RADIANS_TO_DEGREES", type := .double, accessFlags := 26, slot := 4, constantValue := 0 }, { name := "negativeZeroFloatBits", type := .long, accessFlags := 26, slot := 5, constantValue := 0 }, { name := "negativeZeroDoubleBits", type := .long, accessFlags := 26, slot := 6, constantValue := 0 }, { name := "twoToTheDoubleScaleUp", type := .double, accessFlags := 8, slot := 7, constantValue := 0 }, { name := "twoToTheDoubleScaleDown", type := .double, accessFlags := 8, slot := 8, constantValue := 0 }, { name := "$assertionsDisabled", type := .boolean, accessFlags := 4120, slot := 9, constantValue := 0 }]
  methods := #[k4m0, k4m1, k4m2]
  instanceTypes := #[]
  staticTypes := #[.double, .double, .double, .double, .double, .long, .long, .double, .double, .boolean]
  resolved := Array.replicate 460 none
  statics := none }

def pool5 : Array CpInfo := pool [(2, .class_ 4), (1, u "java/lang/Object"), (0, u "<init>"), (0, u "()V"), (6, .methodref 14 15), (0, .class_ 16), (0, .nameAndType 17 18), (0, u "java/util/Arrays"), (0, u "rangeCheck"), (0, u "(III)V"), (55, .class_ 76), (1, u "java/util/Arrays$NaturalOrder"), (36, .class_ 115), (1, u "java/util/Arrays$LegacyMergeSort"), (1, u "Z"), (32, .methodref 151 152), (0, .class_ 153), (0, .nameAndType 154 155), (0, u "java/lang/System"), (0, u "arraycopy"), (0, u "(Ljava/lang/Object;ILjava/lang/Object;II)V"), (51, u "binarySearch0"), (1, .methodref 14 210), (0, .nameAndType 207 211), (0, u "([IIII)I"), (90, u "copyOf"), (1, .methodref 305 306), (0, .class_ 307), (0, .nameAndType 308 309), (0, u "java/lang/Math"), (0, u "min"), (0, u "(II)I"), (65, .class_ 376), (0, u "java/util/Arrays$ArrayList"), (68, u "$assertionsDisabled"), (269, u "MIN_ARRAY_SORT_GRAN"), (0, u "I"), (2, u "INSERTIONSORT_THRESHOLD"), (74, u "binarySearch"), (76, u "([II)[I"), (103, .class_ 976), (0, u "java/util/Arrays$ArrayItr")] 52

def k5m0 : Method := { name := "<init>", desc := "()V", sig := { parameters := [], returnType := none }, accessFlags := 2, code := none }
def k5c1 : Code := { maxStack := 4, maxLocals := 3, code := jdk_65_method_30_code, exceptionTable := #[], attributes := #[] }
def k5m1 : Method := { name := "rangeCheck", desc := "(III)V", sig := { parameters := [.int, .int, .int], returnType := none }, accessFlags := 8, code := some k5c1 }
def k5c2 : Code := { maxStack := 4, maxLocals := 4, code := jdk_65_method_58_code, exceptionTable := #[], attributes := #[] }
def k5m2 : Method := { name := "binarySearch", desc := "([IIII)I", sig := { parameters := [(.array .int), .int, .int, .int], returnType := some .int }, accessFlags := 9, code := some k5c2 }
def k5c3 : Code := { maxStack := 2, maxLocals := 8, code := jdk_65_method_59_code, exceptionTable := #[], attributes := #[] }
def k5m3 : Method := { name := "binarySearch0", desc := "([IIII)I", sig := { parameters := [(.array .int), .int, .int, .int], returnType := some .int }, accessFlags := 10, code := some k5c3 }
def k5c4 : Code := { maxStack := 6, maxLocals := 3, code := jdk_65_method_123_code, exceptionTable := #[], attributes := #[] }
def k5m4 : Method := { name := "copyOf", desc := "([II)[I", sig := { parameters := [(.array .int), .int], returnType := some (.array .int) }, accessFlags := 9, code := some k5c4 }
/-- java/util/Arrays -/
def k5 : Class := { plain "java/util/Arrays" (some 0) with
  accessFlags := 49
  interfaces := #[]
  cf := some (fileOf pool5 14 #[.nestMembers #[975, 375, 113, 74]] #[{ accessFlags := 2, nameIndex := 5, descriptorIndex := 6, attributes := #[] }, { accessFlags := 8, nameIndex := 17, descriptorIndex := 18, attributes := #[] }, { accessFlags := 9, nameIndex := 794, descriptorIndex := 211, attributes := #[] }, { accessFlags := 10, nameIndex := 207, descriptorIndex := 211, attributes := #[] }, { accessFlags := 9, nameIndex := 302, descriptorIndex := 871, attributes := #[] }] 49 2 #[] #[{ accessFlags := 26, nameIndex := 715, descriptorIndex := 716, attributes := #[] }, { accessFlags := 26, nameIndex := 719, descriptorIndex := 716, attributes := #[] }, { accessFlags := 4120, nameIndex := 445, descriptorIndex := 117, attributes := #[] }])
  fields := #[{ name := "MIN_ARRAY_SORT_GRAN", type := .int, accessFlags := 26, slot := 0, constantValue := 0 }, { name := "INSERTIONSORT_THRESHOLD", type := .int, accessFlags := 26, slot := 1, constantValue := 0 }, { name := "$assertionsDisabled", type := .boolean, accessFlags := 4120, slot := 2, constantValue := 0 }]
  methods := #[k5m0, k5m1, k5m2, k5m3, k5m4]
  instanceTypes := #[]
  staticTypes := #[.int, .int, .boolean]
  resolved := Array.replicate 1029 none
  statics := none }

def pool6 : Array CpInfo := pool [(2, .class_ 4), (1, u "java/lang/Object"), (0, u "<init>"), (0, u "()V"), (1, .class_ 10), (1, u "java/lang/System"), (0, u "allowSecurityManager"), (0, u "I"), (16, u "cons"), (0, u "Ljava/io/Console;"), (77, .class_ 110), (1, u "java/lang/System$CallersHolder"), (43, u "initialErrStream"), (0, u "Ljava/io/PrintStream;"), (19, u "security"), (0, u "Ljava/lang/SecurityManager;"), (31, .class_ 209), (0, u "java/lang/System$1"), (7, u "props"), (0, u "Ljava/util/Properties;"), (2, u "lineSeparator"), (0, u "Ljava/lang/String;"), (96, .class_ 321), (1, u "java/lang/System$LoggerFinder"), (5, .class_ 328), (0, u "java/lang/System$Logger"), (67, u "err"), (2, u "out"), (91, u "notSupportedJnuEncoding"), (15, u "in"), (17, u "initialIn"), (0, u "Ljava/io/InputStream;"), (35, u "bootLayer"), (0, u "Ljava/lang/ModuleLayer;"), (99, .class_ 664), (0, u "java/lang/System$2"), (9, u "NEVER"), (2, u "MAYBE"), (49, u "arraycopy"), (0, u "(Ljava/lang/Object;ILjava/lang/Object;II)V"), (72, .class_ 802), (0, u "java/lang/System$Logger$Level")] 31

def k6m0 : Method := { name := "<init>", desc := "()V", sig := { parameters := [], returnType := none }, accessFlags := 2, code := none }
def k6m1 : Method := { name := "arraycopy", desc := "(Ljava/lang/Object;ILjava/lang/Object;II)V", sig := { parameters := [(.object "java/lang/Object"), .int, (.object "java/lang/Object"), .int, .int], returnType := none }, accessFlags := 265, code := none }
/-- java/lang/System -/
def k6 : Class := { plain "java/lang/System" (some 0) with
  accessFlags := 49
  interfaces := #[]
  cf := some (fileOf pool6 8 #[.nestMembers #[319, 327, 801, 108, 663, 208]] #[{ accessFlags := 2, nameIndex := 5, descriptorIndex := 6, attributes := #[] }, { accessFlags := 265, nameIndex := 727, descriptorIndex := 728, attributes := #[] }] 49 2 #[] #[{ accessFlags := 25, nameIndex := 507, descriptorIndex := 526, attributes := #[] }, { accessFlags := 25, nameIndex := 399, descriptorIndex := 155, attributes := #[] }, { accessFlags := 25, nameIndex := 396, descriptorIndex := 155, attributes := #[] }, { accessFlags := 10, nameIndex := 525, descriptorIndex := 526, attributes := #[] }, { accessFlags := 26, nameIndex := 674, descriptorIndex := 12, attributes := #[] }, { accessFlags := 26, nameIndex := 677, descriptorIndex := 12, attributes := #[] }, { accessFlags := 10, nameIndex := 11, descriptorIndex := 12, attributes := #[] }, { accessFlags := 74, nameIndex := 175, descriptorIndex := 176, attributes := #[] }, { accessFlags := 10, nameIndex := 491, descriptorIndex := 222, attributes := #[] }, { accessFlags := 74, nameIndex := 29, descriptorIndex := 30, attributes := #[] }, { accessFlags := 74, nameIndex := 154, descriptorIndex := 155, attributes := #[] }, { accessFlags := 10, nameIndex := 217, descriptorIndex := 218, attributes := #[] }, { accessFlags := 10, nameIndex := 221, descriptorIndex := 222, attributes := #[] }, { accessFlags := 8, nameIndex := 562, descriptorIndex := 563, attributes := #[] }])
  fields := #[{ name := "in", type := (.object "java/io/InputStream"), accessFlags := 25, slot := 0, constantValue := 0 }, { name := "out", type := (.object "java/io/PrintStream"), accessFlags := 25, slot := 1, constantValue := 0 }, { name := "err", type := (.object "java/io/PrintStream"), accessFlags := 25, slot := 2, constantValue := 0 }, { name := "initialIn", type := (.object "java/io/InputStream"), accessFlags := 10, slot := 3, constantValue := 0 }, { name := "NEVER", type := .int, accessFlags := 26, slot := 4, constantValue := 0 }, { name := "MAYBE", type := .int, accessFlags := 26, slot := 5, constantValue := 0 }, { name := "allowSecurityManager", type := .int, accessFlags := 10, slot := 6, constantValue := 0 }, { name := "security", type := (.object "java/lang/SecurityManager"), accessFlags := 74, slot := 7, constantValue := 0 }, { name := "notSupportedJnuEncoding", type := (.object "java/lang/String"), accessFlags := 10, slot := 8, constantValue := 0 }, { name := "cons", type := (.object "java/io/Console"), accessFlags := 74, slot := 9, constantValue := 0 }, { name := "initialErrStream", type := (.object "java/io/PrintStream"), accessFlags := 74, slot := 10, constantValue := 0 }, { name := "props", type := (.object "java/util/Properties"), accessFlags := 10, slot := 11, constantValue := 0 }, { name := "lineSeparator", type := (.object "java/lang/String"), accessFlags := 10, slot := 12, constantValue := 0 }, { name := "bootLayer", type := (.object "java/lang/ModuleLayer"), accessFlags := 8, slot := 13, constantValue := 0 }]
  methods := #[k6m0, k6m1]
  instanceTypes := #[]
  staticTypes := #[(.object "java/io/InputStream"), (.object "java/io/PrintStream"), (.object "java/io/PrintStream"), (.object "java/io/InputStream"), .int, .int, .int, (.object "java/lang/SecurityManager"), (.object "java/lang/String"), (.object "java/io/Console"), (.object "java/io/PrintStream"), (.object "java/util/Properties"), (.object "java/lang/String"), (.object "java/lang/ModuleLayer")]
  resolved := Array.replicate 834 none
  statics := none }

def pool7 : Array CpInfo := pool [(1, u "java/lang/Cloneable"), (0, .class_ 1), (0, u "java/lang/Object"), (0, .class_ 3)] 3

/-- java/lang/Cloneable -/
def k7 : Class := { plain "java/lang/Cloneable" (some 0) with
  accessFlags := 1537
  interfaces := #[]
  cf := some (fileOf pool7 2 #[] #[] 1537 4 #[] #[])
  fields := #[]
  methods := #[]
  instanceTypes := #[]
  staticTypes := #[]
  resolved := Array.replicate 8 none
  statics := none }

def pool8 : Array CpInfo := pool [(1, u "java/io/Serializable"), (0, .class_ 1), (0, u "java/lang/Object"), (0, .class_ 3)] 3

/-- java/io/Serializable -/
def k8 : Class := { plain "java/io/Serializable" (some 0) with
  accessFlags := 1537
  interfaces := #[]
  cf := some (fileOf pool8 2 #[] #[] 1537 4 #[] #[])
  fields := #[]
  methods := #[]
  instanceTypes := #[]
  staticTypes := #[]
  resolved := Array.replicate 8 none
  statics := none }

/-- the primitive byte -/
def k9 : Class := { plain "byte" none with kind := .primitive 'B', accessFlags := 0x411 }
/-- [B -/
def k10 : Class := { plain "[B" (some 0) with kind := .array 9 .byte, interfaces := #[7, 8], accessFlags := 1041 }

/-- the primitive int -/
def k11 : Class := { plain "int" none with kind := .primitive 'I', accessFlags := 0x411 }
/-- [I -/
def k12 : Class := { plain "[I" (some 0) with kind := .array 11 .int, interfaces := #[7, 8], accessFlags := 1041 }

def heap : Heap := #[{ cls := 2, slots := #[.ref 2], vm := .statics 2 },
  { cls := 3, slots := #[.ref 3], vm := .statics 3 },
  { cls := 2, slots := #[.null, .null], vm := .none },
  { cls := 12, slots := #[], vm := .none }]
def classes : Array Class := #[k0, k1, k2, k3, k4, k5, k6, k7, k8, k9, k10, k11, k12]
def interned : List (Array UInt16 × Addr) := []
def slotsUsed : Nat := 4
def theMethod : MethodId := ⟨1, 1⟩
def args0 : Array Value := #[.int 5, .int 7, .int 65, .int 66, .int 67]
def aboutOver (below : List Frame) : State where
  vm := { classes := classes, interned := interned.toArray }
  heap := heap
  slotsUsed := slotsUsed
  threads := #[{ frames := .invoking theMethod args0 :: below }]
def below0 : List Frame := [.native { method := ⟨0, 0⟩, args := #[] }]
def about1 : State := aboutOver below0
def p0 : Program := .bare "" "" ""
def e0 : Env := launch0.env 0 0 0
theorem w_frames : about1.frames = Frame.invoking theMethod args0 :: below0 := rfl
set_option maxRecDepth 65536 in
theorem w_args : argsFit about1.vm theMethod args0 = true := by decide +kernel
set_option maxRecDepth 65536 in
theorem w_heap : heapFits about1 = true := by decide +kernel
set_option maxRecDepth 65536 in
theorem w_runnable : about1.curStatus? = some .runnable := by decide +kernel
set_option maxRecDepth 65536 in
theorem w_alone : about1.alone = true := by decide +kernel
set_option maxRecDepth 65536 in
theorem w_named : about1.methodNamed? x = some theMethod := by decide +kernel
set_option maxRecDepth 65536 in
theorem w_hears : about1.hears theMethod below0 = true := by decide +kernel
set_option maxRecDepth 65536 in
theorem w_ripe : about1.ripe theMethod args0 below0 = true := by decide +kernel
theorem w_running : about1.status = .running := rfl
set_option maxRecDepth 65536 in
theorem w_room : about1.hasRoom e0.platform room_1 = true :=
  launch0.hasRoom_least _ room_1 (by decide +kernel) (by decide +kernel) (by decide +kernel) (by decide +kernel) (by decide +kernel) (by decide +kernel)
theorem allAtoms_all (ts : List Jvm.Cond) (a : Array Jvm.Value) (st : Jvm.State) : (allAtoms ts).before a st = ts.all (fun c => c.before a st) := by
  induction ts with
  | nil => rfl
  | cons c t ih =>
    show (Jvm.Cond.and c (allAtoms t)).before a st = _
    rw [Jvm.Cond.before_and, ih, List.all_cons]
def words1 : List Jvm.Cond := Jvm.Cond.code x code maxLocals ret :: tables_1
/-- a 'code' word, met by the world's own term for the bytes: nothing is compared byte by byte -/
theorem code_word {y : MethodName} {bytes : ByteArray} {mx : Nat} {rt : Option FieldType} {a : Array Value} {s : State} {m : MethodId} {meth : Method} {c : Code} (h1 : s.methodNamed? y = some m) (h2 : s.vm.method? m = some meth) (h3 : meth.code = some c) (h4 : c.code = bytes)
    (h5 : (c.maxLocals == mx && c.exceptionTable.isEmpty && decide (c.maxStack ≤ mostOperands) && decide (meth.sig.returnType = rt) && !meth.locks && decide (parseMethodDescriptor y.desc = some meth.sig)) = true) : (Jvm.Cond.code y bytes mx rt).before a s = true := by
  simp only [Bool.and_eq_true, beq_iff_eq, Bool.not_eq_true', decide_eq_true_eq] at h5
  obtain ⟨⟨⟨⟨⟨g1, g2⟩, g3⟩, g4⟩, g5⟩, g6⟩ := h5
  simp [Cond.before, Cond.holds, Cond.value, h1, h2, h3, h4, g1, g2, g3, g4, g5, g6]
def isCode : Jvm.Cond → Bool
  | .code _ _ _ _ => true
  | _ => false
theorem all_split {L : List Jvm.Cond} {P : Jvm.Cond → Bool} (h1 : L.all (fun c => isCode c || P c) = true) (h2 : ∀ c ∈ L.filter isCode, P c = true) : L.all P = true := by
  refine List.all_eq_true.mpr fun c hc => ?_
  have h := List.all_eq_true.mp h1 c hc
  rcases Bool.eq_false_or_eq_true (isCode c) with hi | hi
  · exact h2 c (List.mem_filter.mpr ⟨hc, hi⟩)
  · simpa [hi] using h
set_option maxRecDepth 65536 in
theorem w_c0 : (Jvm.Cond.code x code maxLocals ret).before args0 about1 = true := code_word (m := ⟨1, 1⟩) (meth := k1m1) (c := k1c1) (by decide +kernel) rfl rfl rfl (by decide +kernel)
set_option maxRecDepth 65536 in
theorem w_c1 : (Jvm.Cond.code ({ cls := "com/example/macroweave/macroweave/BracketPairs", name := "<init>", desc := "()V" } : Jvm.MethodName) prog_4_method_1_code (1 : Nat) (Option.none : Option Jvm.ClassFile.FieldType)).before args0 about1 = true := code_word (m := ⟨3, 0⟩) (meth := k3m0) (c := k3c0) (by decide +kernel) rfl rfl rfl (by decide +kernel)
set_option maxRecDepth 65536 in
theorem w_c2 : (Jvm.Cond.code ({ cls := "java/lang/Object", name := "<init>", desc := "()V" } : Jvm.MethodName) object_method_1_code (1 : Nat) (Option.none : Option Jvm.ClassFile.FieldType)).before args0 about1 = true := code_word (m := ⟨0, 0⟩) (meth := k0m0) (c := k0c0) (by decide +kernel) rfl rfl rfl (by decide +kernel)
set_option maxRecDepth 65536 in
theorem w_c3 : (Jvm.Cond.code ({ cls := "com/example/macroweave/macroweave/BracketPairs", name := "opened", desc := "(Lcom/example/macroweave/macroweave/Brackets;I)I" } : Jvm.MethodName) prog_4_method_3_code (4 : Nat) (Option.some Jvm.ClassFile.FieldType.int)).before args0 about1 = true := code_word (m := ⟨3, 2⟩) (meth := k3m2) (c := k3c2) (by decide +kernel) rfl rfl rfl (by decide +kernel)
set_option maxRecDepth 65536 in
theorem w_c4 : (Jvm.Cond.code ({ cls := "java/lang/Math", name := "max", desc := "(II)I" } : Jvm.MethodName) jdk_29_method_65_code (2 : Nat) (Option.some Jvm.ClassFile.FieldType.int)).before args0 about1 = true := code_word (m := ⟨4, 1⟩) (meth := k4m1) (c := k4c1) (by decide +kernel) rfl rfl rfl (by decide +kernel)
set_option maxRecDepth 65536 in
theorem w_c5 : (Jvm.Cond.code ({ cls := "java/util/Arrays", name := "copyOf", desc := "([II)[I" } : Jvm.MethodName) jdk_65_method_123_code (3 : Nat) (Option.some (Jvm.ClassFile.FieldType.array Jvm.ClassFile.FieldType.int))).before args0 about1 = true := code_word (m := ⟨5, 4⟩) (meth := k5m4) (c := k5c4) (by decide +kernel) rfl rfl rfl (by decide +kernel)
set_option maxRecDepth 65536 in
theorem w_c6 : (Jvm.Cond.code ({ cls := "java/lang/Math", name := "min", desc := "(II)I" } : Jvm.MethodName) jdk_29_method_69_code (2 : Nat) (Option.some Jvm.ClassFile.FieldType.int)).before args0 about1 = true := code_word (m := ⟨4, 2⟩) (meth := k4m2) (c := k4c2) (by decide +kernel) rfl rfl rfl (by decide +kernel)
set_option maxRecDepth 65536 in
theorem w_c7 : (Jvm.Cond.code ({ cls := "com/example/macroweave/macroweave/BracketPairs", name := "closed", desc := "(II)V" } : Jvm.MethodName) prog_4_method_4_code (3 : Nat) (Option.none : Option Jvm.ClassFile.FieldType)).before args0 about1 = true := code_word (m := ⟨3, 3⟩) (meth := k3m3) (c := k3c3) (by decide +kernel) rfl rfl rfl (by decide +kernel)
set_option maxRecDepth 65536 in
theorem w_c8 : (Jvm.Cond.code ({ cls := "com/example/macroweave/macroweave/BracketPairs", name := "close", desc := "(Lcom/example/macroweave/macroweave/Brackets;I)I" } : Jvm.MethodName) prog_4_method_2_code (4 : Nat) (Option.some Jvm.ClassFile.FieldType.int)).before args0 about1 = true := code_word (m := ⟨3, 1⟩) (meth := k3m1) (c := k3c1) (by decide +kernel) rfl rfl rfl (by decide +kernel)
set_option maxRecDepth 65536 in
theorem w_c9 : (Jvm.Cond.code ({ cls := "java/util/Arrays", name := "binarySearch", desc := "([IIII)I" } : Jvm.MethodName) jdk_65_method_58_code (4 : Nat) (Option.some Jvm.ClassFile.FieldType.int)).before args0 about1 = true := code_word (m := ⟨5, 2⟩) (meth := k5m2) (c := k5c2) (by decide +kernel) rfl rfl rfl (by decide +kernel)
set_option maxRecDepth 65536 in
theorem w_c10 : (Jvm.Cond.code ({ cls := "java/util/Arrays", name := "rangeCheck", desc := "(III)V" } : Jvm.MethodName) jdk_65_method_30_code (3 : Nat) (Option.none : Option Jvm.ClassFile.FieldType)).before args0 about1 = true := code_word (m := ⟨5, 1⟩) (meth := k5m1) (c := k5c1) (by decide +kernel) rfl rfl rfl (by decide +kernel)
set_option maxRecDepth 65536 in
theorem w_c11 : (Jvm.Cond.code ({ cls := "java/util/Arrays", name := "binarySearch0", desc := "([IIII)I" } : Jvm.MethodName) jdk_65_method_59_code (8 : Nat) (Option.some Jvm.ClassFile.FieldType.int)).before args0 about1 = true := code_word (m := ⟨5, 3⟩) (meth := k5m3) (c := k5c3) (by decide +kernel) rfl rfl rfl (by decide +kernel)
def codes1 : List Jvm.Cond := [Jvm.Cond.code x code maxLocals ret, Jvm.Cond.code ({ cls := "com/example/macroweave/macroweave/BracketPairs", name := "<init>", desc := "()V" } : Jvm.MethodName) prog_4_method_1_code (1 : Nat) (Option.none : Option Jvm.ClassFile.FieldType), Jvm.Cond.code ({ cls := "java/lang/Object", name := "<init>", desc := "()V" } : Jvm.MethodName) object_method_1_code (1 : Nat) (Option.none : Option Jvm.ClassFile.FieldType), Jvm.Cond.code ({ cls := "com/example/macroweave/macroweave/BracketPairs", name := "opened", desc := "(Lcom/example/macroweave/macroweave/Brackets;I)I" } : Jvm.MethodName) prog_4_method_3_code (4 : Nat) (Option.some Jvm.ClassFile.FieldType.int), Jvm.Cond.code ({ cls := "java/lang/Math", name := "max", desc := "(II)I" } : Jvm.MethodName) jdk_29_method_65_code (2 : Nat) (Option.some Jvm.ClassFile.FieldType.int), Jvm.Cond.code ({ cls := "java/util/Arrays", name := "copyOf", desc := "([II)[I" } : Jvm.MethodName) jdk_65_method_123_code (3 : Nat) (Option.some (Jvm.ClassFile.FieldType.array Jvm.ClassFile.FieldType.int)), Jvm.Cond.code ({ cls := "java/lang/Math", name := "min", desc := "(II)I" } : Jvm.MethodName) jdk_29_method_69_code (2 : Nat) (Option.some Jvm.ClassFile.FieldType.int), Jvm.Cond.code ({ cls := "com/example/macroweave/macroweave/BracketPairs", name := "closed", desc := "(II)V" } : Jvm.MethodName) prog_4_method_4_code (3 : Nat) (Option.none : Option Jvm.ClassFile.FieldType), Jvm.Cond.code ({ cls := "com/example/macroweave/macroweave/BracketPairs", name := "close", desc := "(Lcom/example/macroweave/macroweave/Brackets;I)I" } : Jvm.MethodName) prog_4_method_2_code (4 : Nat) (Option.some Jvm.ClassFile.FieldType.int), Jvm.Cond.code ({ cls := "java/util/Arrays", name := "binarySearch", desc := "([IIII)I" } : Jvm.MethodName) jdk_65_method_58_code (4 : Nat) (Option.some Jvm.ClassFile.FieldType.int), Jvm.Cond.code ({ cls := "java/util/Arrays", name := "rangeCheck", desc := "(III)V" } : Jvm.MethodName) jdk_65_method_30_code (3 : Nat) (Option.none : Option Jvm.ClassFile.FieldType), Jvm.Cond.code ({ cls := "java/util/Arrays", name := "binarySearch0", desc := "([IIII)I" } : Jvm.MethodName) jdk_65_method_59_code (8 : Nat) (Option.some Jvm.ClassFile.FieldType.int)]
set_option maxRecDepth 65536 in
theorem codes_eq : words1.filter isCode = codes1 := rfl
theorem w_codes : ∀ c ∈ words1.filter isCode, c.before args0 about1 = true := by
  rw [codes_eq]
  intro c hc
  simp only [codes1, List.mem_cons, List.not_mem_nil, or_false] at hc
  rcases hc with rfl | rfl | rfl | rfl | rfl | rfl | rfl | rfl | rfl | rfl | rfl | rfl
  · exact w_c0
  · exact w_c1
  · exact w_c2
  · exact w_c3
  · exact w_c4
  · exact w_c5
  · exact w_c6
  · exact w_c7
  · exact w_c8
  · exact w_c9
  · exact w_c10
  · exact w_c11
set_option maxRecDepth 65536 in
theorem w_t1 : (words1.take 24).all (fun c => isCode c || c.before args0 about1) = true := by decide +kernel
set_option maxRecDepth 65536 in
theorem w_t2 : ((words1.drop 24).take 24).all (fun c => isCode c || c.before args0 about1) = true := by decide +kernel
set_option maxRecDepth 65536 in
theorem w_t3 : ((words1.drop 24).drop 24).all (fun c => isCode c || c.before args0 about1) = true := by decide +kernel
theorem w_tables : (allAtoms (Jvm.Cond.code x code maxLocals ret :: tables_1)).before args0 about1 = true := by
  rw [allAtoms_all]
  show words1.all (fun c => c.before args0 about1) = true
  refine all_split ?_ w_codes
  rw [← List.take_append_drop 24 words1, List.all_append, w_t1, ← List.take_append_drop 24 (words1.drop 24), List.all_append, w_t2, w_t3]
  rfl
set_option maxRecDepth 65536 in
theorem w_case : (Jvm.Cond.and given_1 narrow_1).before args0 about1 = true := by decide +kernel
theorem w_applies : (headSpec (Jvm.Cond.code x code maxLocals ret :: tables_1) room_1).applies x e0.platform about1 = true :=
  (Spec.applies_iff w_frames).mpr ⟨w_running, w_runnable, w_alone, w_named, w_hears, w_ripe, w_room, w_tables⟩
theorem atStart : AtStart classFile x code maxLocals ret World_1 tables_1 room_1 Calls_1 rest_1 Pre_1 launch0 p0 e0 about1 theMethod args0 below0 :=
  ⟨lists_1, trivial, launch0.admits_env _ _ _, launch0.least_env, fairChoices_fair.cas, fairChoices_fair.clock, w_frames, w_args, w_heap, w_applies, trivial, trivial, w_case⟩
end start1
theorem witness_1 : WitnessClaimed_1 := ⟨start1.p0, start1.e0, start1.about1, start1.theMethod, start1.args0, start1.below0, start1.atStart⟩
end Jvm.Pilot.@@N@@

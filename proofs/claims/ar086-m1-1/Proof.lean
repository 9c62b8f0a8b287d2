import JvmDerived
import JvmDerived.Pilot.@@N@@Statement
import JvmDerived.Pilot.@@N@@Code
set_option linter.unusedVariables false
set_option linter.unusedSimpArgs false
namespace Jvm.RoadKit
open Sem ClassFile Op Lib Jvm.Stand Jvm.Free Jvm.LawKit
section New
variable {p : Program} {l : Launch} {e : Env} {R : Room} {s : State} {m : MethodId} {args : Array Value} {below : List Frame} {meth : Method} {c : Code} {T : State} {locs : List Loc} {cells slots : Nat}
theorem retI (X : Stand p l e R s m args below meth c T locs cells slots) (hx : p.tables.exec = Jvm.exec) {pc : Nat} {Ls : Array Slot} {z : Int32} {rest : List Value} (hret : meth.sig.returnType = some .int) (hd : decode c.code pc = .ok (.ireturn, 1)) {fs : List Frame}
    (hl : ∀ (f : JFrame) (acts : List Action), f.method = m → f.locked = none → f.entered = [] → (doReturn e (T.setTop f) acts (some (.int z))).1 = T.setFrames fs) : Steps p.tables e below (T.setTop (mkF m pc Ls (.int z :: rest))) (T.setFrames fs) := by
  have hm' : T.vm.method? m = some meth := X.method'
  have hn : narrow .int (.int z) = .int z := rfl
  show Steps p.tables e below (T.setTop { method := m, pc := pc, locals := Ls, stack := _ :: rest, locked := none }) _
  jvm_step X.here [X.here.top, hx, hd, hm', hret, hn]
  first | (intro acts; rw [hl _ acts rfl rfl rfl]) | rw [hl _ _ rfl rfl rfl]
  exact Steps.refl _
end New
end Jvm.RoadKit
namespace Jvm.Pilot.@@N@@
open Jvm Jvm.ClassFile Sem Op Lib Jvm.Free Jvm.Stand Jvm.LawKit Jvm.RoadKit Bundle Jvm.Pilot.@@N@@.Jvm.D
abbrev SS (p : Program) (e : Env) (below : List Frame) (T : State) (f : JFrame) (t : State) : Prop := Steps p.tables e below (T.setTop f) t
theorem wi {Z : State} {a0 : Array Value} (hw : ∀ d ∈ tables_1, d.before a0 Z = true) (i : Nat) {d : Jvm.Cond} (h : tables_1[i]? = some d) : d.before a0 Z = true := hw _ (List.mem_of_getElem? h)
theorem own_b8 (x : Int32) : (x.toInt8.toInt32).toInt8.toInt32 = x.toInt8.toInt32 := by simp
theorem d_jdk_52_method_21_0 : decode jdk_52_method_21_code 0 = .ok (.iconst 0, 1) := by decide +kernel
theorem d_jdk_52_method_21_1 : decode jdk_52_method_21_code 1 = .ok (.istore 5, 2) := by decide +kernel
theorem d_jdk_52_method_21_3 : decode jdk_52_method_21_code 3 = .ok (.iload 5, 2) := by decide +kernel
theorem d_jdk_52_method_21_5 : decode jdk_52_method_21_code 5 = .ok (.iload 4, 2) := by decide +kernel
theorem d_jdk_52_method_21_7 : decode jdk_52_method_21_code 7 = .ok (.if_icmp .ge 37, 3) := by decide +kernel
theorem d_jdk_52_method_21_10 : decode jdk_52_method_21_code 10 = .ok (.aload_n 0, 1) := by decide +kernel
theorem d_jdk_52_method_21_11 : decode jdk_52_method_21_code 11 = .ok (.iload_n 1, 1) := by decide +kernel
theorem d_jdk_52_method_21_12 : decode jdk_52_method_21_code 12 = .ok (.caload, 1) := by decide +kernel
theorem d_jdk_52_method_21_13 : decode jdk_52_method_21_code 13 = .ok (.istore 6, 2) := by decide +kernel
theorem d_jdk_52_method_21_15 : decode jdk_52_method_21_code 15 = .ok (.iload 6, 2) := by decide +kernel
theorem d_jdk_52_method_21_17 : decode jdk_52_method_21_code 17 = .ok (.sipush 255, 3) := by decide +kernel
theorem d_jdk_52_method_21_20 : decode jdk_52_method_21_code 20 = .ok (.if_icmp .le 6, 3) := by decide +kernel
theorem d_jdk_52_method_21_26 : decode jdk_52_method_21_code 26 = .ok (.aload_n 2, 1) := by decide +kernel
theorem d_jdk_52_method_21_27 : decode jdk_52_method_21_code 27 = .ok (.iload_n 3, 1) := by decide +kernel
theorem d_jdk_52_method_21_28 : decode jdk_52_method_21_code 28 = .ok (.iload 6, 2) := by decide +kernel
theorem d_jdk_52_method_21_30 : decode jdk_52_method_21_code 30 = .ok (.i2b, 1) := by decide +kernel
theorem d_jdk_52_method_21_31 : decode jdk_52_method_21_code 31 = .ok (.bastore, 1) := by decide +kernel
theorem d_jdk_52_method_21_32 : decode jdk_52_method_21_code 32 = .ok (.iinc 1 1, 3) := by decide +kernel
theorem d_jdk_52_method_21_35 : decode jdk_52_method_21_code 35 = .ok (.iinc 3 1, 3) := by decide +kernel
theorem d_jdk_52_method_21_38 : decode jdk_52_method_21_code 38 = .ok (.iinc 5 1, 3) := by decide +kernel
theorem d_jdk_52_method_21_41 : decode jdk_52_method_21_code 41 = .ok (.goto (-38), 3) := by decide +kernel
theorem d_jdk_52_method_21_44 : decode jdk_52_method_21_code 44 = .ok (.iload 4, 2) := by decide +kernel
theorem d_jdk_52_method_21_46 : decode jdk_52_method_21_code 46 = .ok (.ireturn, 1) := by decide +kernel
theorem pn_java_lang_StringUTF16 : plainName "java/lang/StringUTF16" = true := by first | (simp [plainName, overriddenIn]; done) | decide +kernel
def Q_comp0_s2 (Z : State) (a1 : Addr) (a2 : Addr) (k1 : ClassId) (k2 : ClassId) (c0 : Int32) (c1 : Int32) (h0 : Heap) (n0 : Nat) (xv : Option Value) (xh : Heap) (xL : List Loc) : Prop := xv = some (.int (2 : Int32)) ∧ Fr n0 xL ∧ Keep h0 xh [a2] ∧ Arv Z xh a2 k2 .byte (2 : Int32) [(.int c0.toInt8.toInt32), (.int c1.toInt8.toInt32)] (.int (0 : Int32))
abbrev Lc_comp0_s2_0 (a1 : Addr) (a2 : Addr) : Array Slot := #[.val (.ref a1), .val (.int (0 : Int32)), .val (.ref a2), .val (.int (0 : Int32)), .val (.int (2 : Int32)), .unset, .unset]
abbrev Lc_comp0_s2_1 (a1 : Addr) (a2 : Addr) : Array Slot := #[.val (.ref a1), .val (.int (0 : Int32)), .val (.ref a2), .val (.int (0 : Int32)), .val (.int (2 : Int32)), .val (.int (0 : Int32)), .unset]
abbrev Lc_comp0_s2_2 (a1 : Addr) (a2 : Addr) (c0 : Int32) : Array Slot := #[.val (.ref a1), .val (.int (0 : Int32)), .val (.ref a2), .val (.int (0 : Int32)), .val (.int (2 : Int32)), .val (.int (0 : Int32)), .val (.int c0)]
abbrev Lc_comp0_s2_3 (a1 : Addr) (a2 : Addr) (c0 : Int32) : Array Slot := #[.val (.ref a1), .val (.int (1 : Int32)), .val (.ref a2), .val (.int (0 : Int32)), .val (.int (2 : Int32)), .val (.int (0 : Int32)), .val (.int c0)]
abbrev Lc_comp0_s2_4 (a1 : Addr) (a2 : Addr) (c0 : Int32) : Array Slot := #[.val (.ref a1), .val (.int (1 : Int32)), .val (.ref a2), .val (.int (1 : Int32)), .val (.int (2 : Int32)), .val (.int (0 : Int32)), .val (.int c0)]
abbrev Lc_comp0_s2_5 (a1 : Addr) (a2 : Addr) (c0 : Int32) : Array Slot := #[.val (.ref a1), .val (.int (1 : Int32)), .val (.ref a2), .val (.int (1 : Int32)), .val (.int (2 : Int32)), .val (.int (1 : Int32)), .val (.int c0)]
abbrev Lc_comp0_s2_6 (a1 : Addr) (a2 : Addr) (c1 : Int32) : Array Slot := #[.val (.ref a1), .val (.int (1 : Int32)), .val (.ref a2), .val (.int (1 : Int32)), .val (.int (2 : Int32)), .val (.int (1 : Int32)), .val (.int c1)]
abbrev Lc_comp0_s2_7 (a1 : Addr) (a2 : Addr) (c1 : Int32) : Array Slot := #[.val (.ref a1), .val (.int (2 : Int32)), .val (.ref a2), .val (.int (1 : Int32)), .val (.int (2 : Int32)), .val (.int (1 : Int32)), .val (.int c1)]
abbrev Lc_comp0_s2_8 (a1 : Addr) (a2 : Addr) (c1 : Int32) : Array Slot := #[.val (.ref a1), .val (.int (2 : Int32)), .val (.ref a2), .val (.int (2 : Int32)), .val (.int (2 : Int32)), .val (.int (1 : Int32)), .val (.int c1)]
abbrev Lc_comp0_s2_9 (a1 : Addr) (a2 : Addr) (c1 : Int32) : Array Slot := #[.val (.ref a1), .val (.int (2 : Int32)), .val (.ref a2), .val (.int (2 : Int32)), .val (.int (2 : Int32)), .val (.int (2 : Int32)), .val (.int c1)]
theorem ef_comp0_s2 (mM : MethodId) (a1 : Addr) (a2 : Addr) (k1 : ClassId) (k2 : ClassId) (c0 : Int32) (c1 : Int32) : entryFrame mM #[(.ref a1), (.int (0 : Int32)), (.ref a2), (.int (0 : Int32)), (.int (2 : Int32))] 7 = mkF mM 0 #[.val (.ref a1), .val (.int (0 : Int32)), .val (.ref a2), .val (.int (0 : Int32)), .val (.int (2 : Int32)), .unset, .unset] [] := by first | (simp [entryFrame, mkF, argsToLocals, Value.category]; done) | rfl
set_option maxRecDepth 65536 in
set_option maxHeartbeats 40000000 in
theorem rm_comp0_s2 (l : Launch) (Z : State) (a0 : Array Value) (hw : ∀ d ∈ tables_1, d.before a0 Z = true) (ws : List Jvm.Cond) (a1 : Addr) (a2 : Addr) (k1 : ClassId) (k2 : ClassId) (c0 : Int32) (c1 : Int32) (h0 : Heap) (n0 : Nat) (Z0 : n0 ≤ h0.size) (V_a1 : Arv Z h0 a1 k1 .char (2 : Int32) [(.int c0), (.int c1)] (.int (0 : Int32))) (V_a2 : Arv Z h0 a2 k2 .byte (2 : Int32) [(.int (0 : Int32)), (.int (0 : Int32))] (.int (0 : Int32))) (ne_a1_a2 : a1 ≠ a2) (g_a2 : @LE.le Nat _ n0 a2) (q0 : ¬ ((255 : Int32) < c0)) (q1 : ¬ ((255 : Int32) < c1)) :
    MetFree l (⟨"java/lang/StringUTF16", "compress", "([CI[BII)I"⟩ : MethodName) (head1 (Jvm.Cond.code (⟨"java/lang/StringUTF16", "compress", "([CI[BII)I"⟩ : MethodName) jdk_52_method_21_code 7 (some .int) :: ws) ({ frames := 0, cells := 0, slots := 0, locals := 0 } : Room)) (fun xa xU => xa = #[(.ref a1), (.int (0 : Int32)), (.ref a2), (.int (0 : Int32)), (.int (2 : Int32))] ∧ Z.Warmed39 xU.vm ∧ xU.heap = h0) (fun _ _ _ _ _ => True) (fun _ xU xo xU' => ∃ xv xL, xo = .returned xv ∧ Q_comp0_s2 Z a1 a2 k1 k2 c0 c1 h0 n0 xv xU'.heap xL ∧ FrameEnd xU xo xU' xL ({ frames := 0, cells := 0, slots := 0, locals := 0 } : Room).cells ({ frames := 0, cells := 0, slots := 0, locals := 0 } : Room).slots) := by
  refine MetFree.of_bodySF (plainFor_of_name pn_java_lang_StringUTF16) hisR ?_
  intro pP eE sS mM argS belowS methS cC s₁ Bd hml0 hP hK
  obtain ⟨rfl, hZ, hh⟩ := hP
  have hx := Bd.exec
  have hby := Bd.bytes
  have hml : cC.maxLocals = 7 := hml0
  have hown : sS.vm.findClass "java/lang/StringUTF16" = some mM.cls := findClass_of_methodNamed Bd.named
  have hnm := (name_of_methodNamed Bd.named Bd.method).1
  have X0 : Stand pP l eE ({ frames := 0, cells := 0, slots := 0, locals := 0 } : Room) sS mM #[(.ref a1), (.int (0 : Int32)), (.ref a2), (.int (0 : Int32)), (.int (2 : Int32))] belowS methS cC s₁ [] 0 0 := Stand.of_body Bd
  have e0 : s₁.heap = h0 := by rw [← hh, Bd.state]; rfl
  have N0 := Fr.nil n0
  have pre0 : ∀ t', Steps pP.tables eE belowS (s₁.setTop (mkF mM 0 #[.val (.ref a1), .val (.int (0 : Int32)), .val (.ref a2), .val (.int (0 : Int32)), .val (.int (2 : Int32)), .unset, .unset] [])) t' → Steps pP.tables eE belowS (s₁.setTop (entryFrame mM #[(.ref a1), (.int (0 : Int32)), (.ref a2), (.int (0 : Int32)), (.int (2 : Int32))] 7)) t' := fun t' kk' => castTop (ef_comp0_s2 mM a1 a2 k1 k2 c0 c1) kk'
  obtain ⟨cl101, Ar101, q101, S101, Ng101, Ha101, Ga101⟩ := id V_a1
  have hin101 : ¬ ((0 : Int32) < 0 ∨ cl101.slots.size ≤ ((0 : Int32)).toNatClampNeg) := inb_of S101 ⟨by decide, by decide⟩
  have hat101 : cl101.slots[((0 : Int32)).toNatClampNeg]? = some (.int c0) := Ha101.at hin101 (rfl)
  obtain ⟨cl102, Ar102, q102, S102, Ng102, Ha102, Ga102⟩ := id V_a2
  have hin102 : ¬ ((0 : Int32) < 0 ∨ cl102.slots.size ≤ ((0 : Int32)).toNatClampNeg) := inb_of S102 ⟨by decide, by decide⟩
  obtain ⟨T103, h103, X103, e103, W103, st103⟩ := stB X0 hx hZ e0 Ar102 (j := (0 : Int32)) hin102 (g := (mkF mM 31 (Lc_comp0_s2_2 a1 a2 c0) [(.int (c0.toInt8.toInt32)), (.int (0 : Int32)), (.ref a2)])) rfl rfl (hb hby d_jdk_52_method_21_31)
  have Sz1 : h0.size ≤ h103.size := Nat.le_of_eq (Wr.size W103).symm
  have Vs103 := Arv.set Ar102 q102 S102 Ng102 Ha102 Ga102 (fits_nar_byte _) W103 0 rfl (Nat.le_of_ble_eq_true rfl)
  have Vt103 : Arv Z h103 a2 k2 .byte (2 : Int32) [(.int c0.toInt8.toInt32), (.int (0 : Int32))] (.int (0 : Int32)) := by
    have q : Arv Z h103 a2 k2 .byte (2 : Int32) [(.int (c0.toInt8.toInt32).toInt8.toInt32), (.int (0 : Int32))] (.int (0 : Int32)) := Vs103
    rw [show ((.int (c0.toInt8.toInt32).toInt8.toInt32) : Value) = (.int c0.toInt8.toInt32) from congrArg Value.int (own_b8 c0)] at q
    exact q
  have N103 := Fr.snoc X103 N0 g_a2
  have c104_V_a1 : Arv Z h103 a1 k1 .char (2 : Int32) [(.int c0), (.int c1)] (.int (0 : Int32)) := V_a1.other W103 ne_a1_a2
  obtain ⟨cl105, Ar105, q105, S105, Ng105, Ha105, Ga105⟩ := id c104_V_a1
  have hin105 : ¬ ((1 : Int32) < 0 ∨ cl105.slots.size ≤ ((1 : Int32)).toNatClampNeg) := inb_of S105 ⟨by decide, by decide⟩
  have hat105 : cl105.slots[((1 : Int32)).toNatClampNeg]? = some (.int c1) := Ha105.at hin105 (rfl)
  obtain ⟨cl106, Ar106, q106, S106, Ng106, Ha106, Ga106⟩ := id Vt103
  have hin106 : ¬ ((1 : Int32) < 0 ∨ cl106.slots.size ≤ ((1 : Int32)).toNatClampNeg) := inb_of S106 ⟨by decide, by decide⟩
  obtain ⟨T107, h107, X107, e107, W107, st107⟩ := stB X103 hx hZ e103 Ar106 (j := (1 : Int32)) hin106 (g := (mkF mM 31 (Lc_comp0_s2_6 a1 a2 c1) [(.int (c1.toInt8.toInt32)), (.int (1 : Int32)), (.ref a2)])) rfl rfl (hb hby d_jdk_52_method_21_31)
  have Sz2 : h103.size ≤ h107.size := Nat.le_of_eq (Wr.size W107).symm
  have Vs107 := Arv.set Ar106 q106 S106 Ng106 Ha106 Ga106 (fits_nar_byte _) W107 1 rfl (Nat.le_of_ble_eq_true rfl)
  have Vt107 : Arv Z h107 a2 k2 .byte (2 : Int32) [(.int c0.toInt8.toInt32), (.int c1.toInt8.toInt32)] (.int (0 : Int32)) := by
    have q : Arv Z h107 a2 k2 .byte (2 : Int32) [(.int c0.toInt8.toInt32), (.int (c1.toInt8.toInt32).toInt8.toInt32)] (.int (0 : Int32)) := Vs107
    rw [show ((.int (c1.toInt8.toInt32).toInt8.toInt32) : Value) = (.int c1.toInt8.toInt32) from congrArg Value.int (own_b8 c1)] at q
    exact q
  have N107 := Fr.snoc X107 N103 g_a2
  have K108 : Keep h0 h103 [a2] := (Keep.refl h0 [a2]).wr W103 (Or.inl (List.mem_of_getElem? (i := 0) rfl))
  have K109 : Keep h0 h107 [a2] := K108.wr W107 (Or.inl (List.mem_of_getElem? (i := 0) rfl))
  obtain ⟨fs, hr, hrun, hended, hW, hsame⟩ := X107.leave (v := some (.int (2 : Int32))) (fun h => by rw [Bd.returns] at h; cases h)
  refine ⟨_, _, pre0 _ ?_, hrun, hended, _, _, rfl, ?_, ⟨_, rfl⟩, hW, hsame.mono (by decide) (by decide)⟩
  · show SS pP eE belowS s₁ (mkF mM 0 (Lc_comp0_s2_0 a1 a2) []) _
    refine XS.iconst X0.here hx rfl (hb hby d_jdk_52_method_21_0) ?_
    show SS pP eE belowS s₁ (mkF mM 1 (Lc_comp0_s2_0 a1 a2) [(.int (0 : Int32))]) _
    refine XS.istore X0.here hx rfl (hb hby d_jdk_52_method_21_1) rfl (l' := (Lc_comp0_s2_1 a1 a2)) rfl ?_
    show SS pP eE belowS s₁ (mkF mM 3 (Lc_comp0_s2_1 a1 a2) []) _
    refine XS.iload X0.here hx rfl (hb hby d_jdk_52_method_21_3) rfl ?_
    show SS pP eE belowS s₁ (mkF mM 5 (Lc_comp0_s2_1 a1 a2) [(.int (0 : Int32))]) _
    refine XS.iload X0.here hx rfl (hb hby d_jdk_52_method_21_5) rfl ?_
    show SS pP eE belowS s₁ (mkF mM 7 (Lc_comp0_s2_1 a1 a2) [(.int (2 : Int32)), (.int (0 : Int32))]) _
    refine XS.icmpNo X0.here hx rfl (hb hby d_jdk_52_method_21_7) rfl (tlt (by decide : (0 : Int32) < (2 : Int32))).2.1 ?_
    show SS pP eE belowS s₁ (mkF mM 10 (Lc_comp0_s2_1 a1 a2) []) _
    refine XS.aloadN X0.here hx rfl (hb hby d_jdk_52_method_21_10) rfl rfl ?_
    show SS pP eE belowS s₁ (mkF mM 11 (Lc_comp0_s2_1 a1 a2) [(.ref a1)]) _
    refine XS.iloadN X0.here hx rfl (hb hby d_jdk_52_method_21_11) rfl ?_
    show SS pP eE belowS s₁ (mkF mM 12 (Lc_comp0_s2_1 a1 a2) [(.int (0 : Int32)), (.ref a1)]) _
    refine X0.caload hx (j := (0 : Int32)) (v := (.int c0)) (by rw [e0]; exact Ar101.1) (State.isArrayOf_alike hZ.alike Ar101.2.1) Ar101.2.2 hin101 hat101 (g := (mkF mM 12 (Lc_comp0_s2_1 a1 a2) [(.int (0 : Int32)), (.ref a1)])) rfl rfl (hb hby d_jdk_52_method_21_12) _ ?_
    show SS pP eE belowS s₁ (mkF mM 13 (Lc_comp0_s2_1 a1 a2) [(.int c0)]) _
    refine XS.istore X0.here hx rfl (hb hby d_jdk_52_method_21_13) rfl (l' := (Lc_comp0_s2_2 a1 a2 c0)) rfl ?_
    show SS pP eE belowS s₁ (mkF mM 15 (Lc_comp0_s2_2 a1 a2 c0) []) _
    refine XS.iload X0.here hx rfl (hb hby d_jdk_52_method_21_15) rfl ?_
    show SS pP eE belowS s₁ (mkF mM 17 (Lc_comp0_s2_2 a1 a2 c0) [(.int c0)]) _
    refine XS.sipush X0.here hx rfl (hb hby d_jdk_52_method_21_17) ?_
    show SS pP eE belowS s₁ (mkF mM 20 (Lc_comp0_s2_2 a1 a2 c0) [(.int (255 : Int32)), (.int c0)]) _
    refine XS.icmpYes X0.here hx rfl (pc0 := 20) (pc' := 26) rfl (hb hby d_jdk_52_method_21_20) rfl (flt q0).2.2.2 (by decide) (by decide) ?_
    show SS pP eE belowS s₁ (mkF mM 26 (Lc_comp0_s2_2 a1 a2 c0) []) _
    refine XS.aloadN X0.here hx rfl (hb hby d_jdk_52_method_21_26) rfl rfl ?_
    show SS pP eE belowS s₁ (mkF mM 27 (Lc_comp0_s2_2 a1 a2 c0) [(.ref a2)]) _
    refine XS.iloadN X0.here hx rfl (hb hby d_jdk_52_method_21_27) rfl ?_
    show SS pP eE belowS s₁ (mkF mM 28 (Lc_comp0_s2_2 a1 a2 c0) [(.int (0 : Int32)), (.ref a2)]) _
    refine XS.iload X0.here hx rfl (hb hby d_jdk_52_method_21_28) rfl ?_
    show SS pP eE belowS s₁ (mkF mM 30 (Lc_comp0_s2_2 a1 a2 c0) [(.int c0), (.int (0 : Int32)), (.ref a2)]) _
    refine XS.i2b X0.here hx rfl (hb hby d_jdk_52_method_21_30) rfl ?_
    show SS pP eE belowS s₁ (mkF mM 31 (Lc_comp0_s2_2 a1 a2 c0) [(.int (c0.toInt8.toInt32)), (.int (0 : Int32)), (.ref a2)]) _
    refine st103 _ ?_
    show SS pP eE belowS T103 (mkF mM 32 (Lc_comp0_s2_2 a1 a2 c0) []) _
    refine XS.iinc X103.here hx rfl (hb hby d_jdk_52_method_21_32) rfl (l' := (Lc_comp0_s2_3 a1 a2 c0)) rfl ?_
    show SS pP eE belowS T103 (mkF mM 35 (Lc_comp0_s2_3 a1 a2 c0) []) _
    refine XS.iinc X103.here hx rfl (hb hby d_jdk_52_method_21_35) rfl (l' := (Lc_comp0_s2_4 a1 a2 c0)) rfl ?_
    show SS pP eE belowS T103 (mkF mM 38 (Lc_comp0_s2_4 a1 a2 c0) []) _
    refine XS.iinc X103.here hx rfl (hb hby d_jdk_52_method_21_38) rfl (l' := (Lc_comp0_s2_5 a1 a2 c0)) rfl ?_
    show SS pP eE belowS T103 (mkF mM 41 (Lc_comp0_s2_5 a1 a2 c0) []) _
    refine XS.goto X103.here hx rfl (pc0 := 41) (pc' := 3) rfl (hb hby d_jdk_52_method_21_41) (by decide) (by decide) ?_
    show SS pP eE belowS T103 (mkF mM 3 (Lc_comp0_s2_5 a1 a2 c0) []) _
    refine XS.iload X103.here hx rfl (hb hby d_jdk_52_method_21_3) rfl ?_
    show SS pP eE belowS T103 (mkF mM 5 (Lc_comp0_s2_5 a1 a2 c0) [(.int (1 : Int32))]) _
    refine XS.iload X103.here hx rfl (hb hby d_jdk_52_method_21_5) rfl ?_
    show SS pP eE belowS T103 (mkF mM 7 (Lc_comp0_s2_5 a1 a2 c0) [(.int (2 : Int32)), (.int (1 : Int32))]) _
    refine XS.icmpNo X103.here hx rfl (hb hby d_jdk_52_method_21_7) rfl (tlt (by decide : (1 : Int32) < (2 : Int32))).2.1 ?_
    show SS pP eE belowS T103 (mkF mM 10 (Lc_comp0_s2_5 a1 a2 c0) []) _
    refine XS.aloadN X103.here hx rfl (hb hby d_jdk_52_method_21_10) rfl rfl ?_
    show SS pP eE belowS T103 (mkF mM 11 (Lc_comp0_s2_5 a1 a2 c0) [(.ref a1)]) _
    refine XS.iloadN X103.here hx rfl (hb hby d_jdk_52_method_21_11) rfl ?_
    show SS pP eE belowS T103 (mkF mM 12 (Lc_comp0_s2_5 a1 a2 c0) [(.int (1 : Int32)), (.ref a1)]) _
    refine X103.caload hx (j := (1 : Int32)) (v := (.int c1)) (by rw [e103]; exact Ar105.1) (State.isArrayOf_alike hZ.alike Ar105.2.1) Ar105.2.2 hin105 hat105 (g := (mkF mM 12 (Lc_comp0_s2_5 a1 a2 c0) [(.int (1 : Int32)), (.ref a1)])) rfl rfl (hb hby d_jdk_52_method_21_12) _ ?_
    show SS pP eE belowS T103 (mkF mM 13 (Lc_comp0_s2_5 a1 a2 c0) [(.int c1)]) _
    refine XS.istore X103.here hx rfl (hb hby d_jdk_52_method_21_13) rfl (l' := (Lc_comp0_s2_6 a1 a2 c1)) rfl ?_
    show SS pP eE belowS T103 (mkF mM 15 (Lc_comp0_s2_6 a1 a2 c1) []) _
    refine XS.iload X103.here hx rfl (hb hby d_jdk_52_method_21_15) rfl ?_
    show SS pP eE belowS T103 (mkF mM 17 (Lc_comp0_s2_6 a1 a2 c1) [(.int c1)]) _
    refine XS.sipush X103.here hx rfl (hb hby d_jdk_52_method_21_17) ?_
    show SS pP eE belowS T103 (mkF mM 20 (Lc_comp0_s2_6 a1 a2 c1) [(.int (255 : Int32)), (.int c1)]) _
    refine XS.icmpYes X103.here hx rfl (pc0 := 20) (pc' := 26) rfl (hb hby d_jdk_52_method_21_20) rfl (flt q1).2.2.2 (by decide) (by decide) ?_
    show SS pP eE belowS T103 (mkF mM 26 (Lc_comp0_s2_6 a1 a2 c1) []) _
    refine XS.aloadN X103.here hx rfl (hb hby d_jdk_52_method_21_26) rfl rfl ?_
    show SS pP eE belowS T103 (mkF mM 27 (Lc_comp0_s2_6 a1 a2 c1) [(.ref a2)]) _
    refine XS.iloadN X103.here hx rfl (hb hby d_jdk_52_method_21_27) rfl ?_
    show SS pP eE belowS T103 (mkF mM 28 (Lc_comp0_s2_6 a1 a2 c1) [(.int (1 : Int32)), (.ref a2)]) _
    refine XS.iload X103.here hx rfl (hb hby d_jdk_52_method_21_28) rfl ?_
    show SS pP eE belowS T103 (mkF mM 30 (Lc_comp0_s2_6 a1 a2 c1) [(.int c1), (.int (1 : Int32)), (.ref a2)]) _
    refine XS.i2b X103.here hx rfl (hb hby d_jdk_52_method_21_30) rfl ?_
    show SS pP eE belowS T103 (mkF mM 31 (Lc_comp0_s2_6 a1 a2 c1) [(.int (c1.toInt8.toInt32)), (.int (1 : Int32)), (.ref a2)]) _
    refine st107 _ ?_
    show SS pP eE belowS T107 (mkF mM 32 (Lc_comp0_s2_6 a1 a2 c1) []) _
    refine XS.iinc X107.here hx rfl (hb hby d_jdk_52_method_21_32) rfl (l' := (Lc_comp0_s2_7 a1 a2 c1)) rfl ?_
    show SS pP eE belowS T107 (mkF mM 35 (Lc_comp0_s2_7 a1 a2 c1) []) _
    refine XS.iinc X107.here hx rfl (hb hby d_jdk_52_method_21_35) rfl (l' := (Lc_comp0_s2_8 a1 a2 c1)) rfl ?_
    show SS pP eE belowS T107 (mkF mM 38 (Lc_comp0_s2_8 a1 a2 c1) []) _
    refine XS.iinc X107.here hx rfl (hb hby d_jdk_52_method_21_38) rfl (l' := (Lc_comp0_s2_9 a1 a2 c1)) rfl ?_
    show SS pP eE belowS T107 (mkF mM 41 (Lc_comp0_s2_9 a1 a2 c1) []) _
    refine XS.goto X107.here hx rfl (pc0 := 41) (pc' := 3) rfl (hb hby d_jdk_52_method_21_41) (by decide) (by decide) ?_
    show SS pP eE belowS T107 (mkF mM 3 (Lc_comp0_s2_9 a1 a2 c1) []) _
    refine XS.iload X107.here hx rfl (hb hby d_jdk_52_method_21_3) rfl ?_
    show SS pP eE belowS T107 (mkF mM 5 (Lc_comp0_s2_9 a1 a2 c1) [(.int (2 : Int32))]) _
    refine XS.iload X107.here hx rfl (hb hby d_jdk_52_method_21_5) rfl ?_
    show SS pP eE belowS T107 (mkF mM 7 (Lc_comp0_s2_9 a1 a2 c1) [(.int (2 : Int32)), (.int (2 : Int32))]) _
    refine XS.icmpYes X107.here hx rfl (pc0 := 7) (pc' := 44) rfl (hb hby d_jdk_52_method_21_7) rfl (flt (by decide : ¬ ((2 : Int32) < (2 : Int32)))).2.1 (by decide) (by decide) ?_
    show SS pP eE belowS T107 (mkF mM 44 (Lc_comp0_s2_9 a1 a2 c1) []) _
    refine XS.iload X107.here hx rfl (hb hby d_jdk_52_method_21_44) rfl ?_
    show SS pP eE belowS T107 (mkF mM 46 (Lc_comp0_s2_9 a1 a2 c1) [(.int (2 : Int32))]) _
    exact retI X107 hx Bd.returns (hb hby d_jdk_52_method_21_46) hr
  · show Q_comp0_s2 Z a1 a2 k1 k2 c0 c1 h0 n0 _ T107.heap _
    rw [e107]
    exact ⟨rfl, N107, K109, Vt107⟩
theorem d_jdk_52_method_16_0 : decode jdk_52_method_16_code 0 = .ok (.iload_n 2, 1) := by decide +kernel
theorem d_jdk_52_method_16_1 : decode jdk_52_method_16_code 1 = .ok (.newarray .byte, 2) := by decide +kernel
theorem d_jdk_52_method_16_3 : decode jdk_52_method_16_code 3 = .ok (.astore_n 3, 1) := by decide +kernel
theorem d_jdk_52_method_16_4 : decode jdk_52_method_16_code 4 = .ok (.aload_n 0, 1) := by decide +kernel
theorem d_jdk_52_method_16_5 : decode jdk_52_method_16_code 5 = .ok (.iload_n 1, 1) := by decide +kernel
theorem d_jdk_52_method_16_6 : decode jdk_52_method_16_code 6 = .ok (.aload_n 3, 1) := by decide +kernel
theorem d_jdk_52_method_16_7 : decode jdk_52_method_16_code 7 = .ok (.iconst 0, 1) := by decide +kernel
theorem d_jdk_52_method_16_8 : decode jdk_52_method_16_code 8 = .ok (.iload_n 2, 1) := by decide +kernel
theorem d_jdk_52_method_16_9 : decode jdk_52_method_16_code 9 = .ok (.invokestatic 115, 3) := by decide +kernel
theorem pd_4 : parseMethodDescriptor "([CI[BII)I" = some ⟨[(.array .char), .int, (.array .byte), .int, .int], some .int⟩ := by decide +kernel
theorem d_jdk_52_method_16_12 : decode jdk_52_method_16_code 12 = .ok (.istore 4, 2) := by decide +kernel
theorem d_jdk_52_method_16_14 : decode jdk_52_method_16_code 14 = .ok (.iload 4, 2) := by decide +kernel
theorem d_jdk_52_method_16_16 : decode jdk_52_method_16_code 16 = .ok (.iload_n 2, 1) := by decide +kernel
theorem d_jdk_52_method_16_17 : decode jdk_52_method_16_code 17 = .ok (.if_icmp .eq 40, 3) := by decide +kernel
theorem d_jdk_52_method_16_57 : decode jdk_52_method_16_code 57 = .ok (.aload_n 3, 1) := by decide +kernel
theorem d_jdk_52_method_16_58 : decode jdk_52_method_16_code 58 = .ok (.areturn, 1) := by decide +kernel
def Q_comp1_s2 (Z : State) (a1 : Addr) (k1 : ClassId) (c0 : Int32) (c1 : Int32) (h0 : Heap) (n0 : Nat) (xv : Option Value) (xh : Heap) (xL : List Loc) : Prop := ∃ b : Addr, ∃ k2 : ClassId, xv = some (.ref b) ∧ Fr n0 xL ∧ Keep h0 xh [] ∧ Arv Z xh b k2 .byte (2 : Int32) [(.int c0.toInt8.toInt32), (.int c1.toInt8.toInt32)] (.int (0 : Int32)) ∧ @LE.le Nat _ h0.size b
abbrev Lc_comp1_s2_0 (a1 : Addr) : Array Slot := #[.val (.ref a1), .val (.int (0 : Int32)), .val (.int (2 : Int32)), .unset, .unset, .unset]
abbrev Lc_comp1_s2_1 (a1 : Addr) (b101 : Addr) : Array Slot := #[.val (.ref a1), .val (.int (0 : Int32)), .val (.int (2 : Int32)), .val (.ref b101), .unset, .unset]
abbrev Lc_comp1_s2_2 (a1 : Addr) (b101 : Addr) : Array Slot := #[.val (.ref a1), .val (.int (0 : Int32)), .val (.int (2 : Int32)), .val (.ref b101), .val (.int (2 : Int32)), .unset]
theorem ef_comp1_s2 (mM : MethodId) (a1 : Addr) (k1 : ClassId) (c0 : Int32) (c1 : Int32) : entryFrame mM #[(.ref a1), (.int (0 : Int32)), (.int (2 : Int32))] 6 = mkF mM 0 #[.val (.ref a1), .val (.int (0 : Int32)), .val (.int (2 : Int32)), .unset, .unset, .unset] [] := by first | (simp [entryFrame, mkF, argsToLocals, Value.category]; done) | rfl
set_option maxRecDepth 65536 in
set_option maxHeartbeats 40000000 in
theorem rm_comp1_s2 (l : Launch) (Z : State) (a0 : Array Value) (hw : ∀ d ∈ tables_1, d.before a0 Z = true) (ws : List Jvm.Cond) (a1 : Addr) (k1 : ClassId) (c0 : Int32) (c1 : Int32) (h0 : Heap) (n0 : Nat) (Z0 : n0 ≤ h0.size) (V_a1 : Arv Z h0 a1 k1 .char (2 : Int32) [(.int c0), (.int c1)] (.int (0 : Int32))) (q0 : ¬ ((255 : Int32) < c0)) (q1 : ¬ ((255 : Int32) < c1)) :
    MetFree l (⟨"java/lang/StringUTF16", "compress", "([CII)[B"⟩ : MethodName) (head1 (Jvm.Cond.code (⟨"java/lang/StringUTF16", "compress", "([CII)[B"⟩ : MethodName) jdk_52_method_16_code 6 (some (.array .byte)) :: ws) ({ frames := 1, cells := 1, slots := 2, locals := 18 } : Room)) (fun xa xU => xa = #[(.ref a1), (.int (0 : Int32)), (.int (2 : Int32))] ∧ Z.Warmed39 xU.vm ∧ xU.heap = h0) (fun _ _ _ _ _ => True) (fun _ xU xo xU' => ∃ xv xL, xo = .returned xv ∧ Q_comp1_s2 Z a1 k1 c0 c1 h0 n0 xv xU'.heap xL ∧ FrameEnd xU xo xU' xL ({ frames := 1, cells := 1, slots := 2, locals := 18 } : Room).cells ({ frames := 1, cells := 1, slots := 2, locals := 18 } : Room).slots) := by
  refine MetFree.of_bodySF (plainFor_of_name pn_java_lang_StringUTF16) hisR ?_
  intro pP eE sS mM argS belowS methS cC s₁ Bd hml0 hP hK
  obtain ⟨rfl, hZ, hh⟩ := hP
  have hx := Bd.exec
  have hby := Bd.bytes
  have hml : cC.maxLocals = 6 := hml0
  have hown : sS.vm.findClass "java/lang/StringUTF16" = some mM.cls := findClass_of_methodNamed Bd.named
  have hnm := (name_of_methodNamed Bd.named Bd.method).1
  have X0 : Stand pP l eE ({ frames := 1, cells := 1, slots := 2, locals := 18 } : Room) sS mM #[(.ref a1), (.int (0 : Int32)), (.int (2 : Int32))] belowS methS cC s₁ [] 0 0 := Stand.of_body Bd
  have e0 : s₁.heap = h0 := by rw [← hh, Bd.state]; rfl
  have N0 := Fr.nil n0
  have pre0 : ∀ t', Steps pP.tables eE belowS (s₁.setTop (mkF mM 0 #[.val (.ref a1), .val (.int (0 : Int32)), .val (.int (2 : Int32)), .unset, .unset, .unset] [])) t' → Steps pP.tables eE belowS (s₁.setTop (entryFrame mM #[(.ref a1), (.int (0 : Int32)), (.int (2 : Int32))] 6)) t' := fun t' kk' => castTop (ef_comp1_s2 mM a1 k1 c0 c1) kk'
  obtain ⟨T101, h101, k101, X101, e101, E101, A101, st101⟩ := newP X0 hx hZ (wi hw 22 rfl) e0 (g := (mkF mM 1 (Lc_comp1_s2_0 a1) [(.int (2 : Int32))])) rfl (hb hby d_jdk_52_method_16_1) rfl (by decide) (cap := 2) (by decide) (by decide) (by decide) (by decide)
  obtain ⟨b101, g101⟩ : ∃ z : Nat, z = h0.size := ⟨_, rfl⟩
  rw [← g101] at A101 st101
  have Sz1 : h0.size ≤ h101.size := E101.1
  have V_b101 : Arv Z h101 b101 k101 .byte (2 : Int32) [(.int (0 : Int32)), (.int (0 : Int32))] (.int (0 : Int32)) := (Arv.new A101 (by decide)).pad (pad_rep [] (.int (0 : Int32)) 2)
  have c103_V_a1 : Arv Z h101 a1 k1 .char (2 : Int32) [(.int c0), (.int c1)] (.int (0 : Int32)) := V_a1.ext E101
  have lt_a1 : @LT.lt Nat _ a1 h0.size := V_a1.lt
  have lt_b101 : @LT.lt Nat _ b101 h101.size := V_b101.lt
  have ne_a1_b101_104 : a1 ≠ b101 := (by omega : @Ne Nat a1 b101)
  have ge105_b101 : @LE.le Nat _ n0 b101 := by omega
  obtain ⟨_, _, ⟨T102, L102, k102, n102⟩, -, X102, ⟨Lc102, hQ102, l102, y102, z102⟩, st102⟩ := Jvm.LawKit.callS X101 hx (y := (⟨"java/lang/StringUTF16", "compress", "([CI[BII)I"⟩ : MethodName)) hown (mvT hZ (wi hw 23 rfl)) (mvT hZ (wi hw 24 rfl)) (mvT hZ (wi hw 20 rfl)) (mvT hZ (wi hw 25 rfl)) (by decide) (backOf (W := 0) (rm_comp0_s2 l Z a0 hw [] a1 b101 k1 k101 c0 c1 h101 n0 (by omega) c103_V_a1 V_b101 ne_a1_b101_104 ge105_b101 q0 q1) hZ (wi hw 25 rfl) (wi hw 20 rfl) (by decide) (by decide)) (g := (mkF mM 9 (Lc_comp1_s2_1 a1 b101) [(.int (2 : Int32)), (.int (0 : Int32)), (.ref b101), (.int (0 : Int32)), (.ref a1)])) rfl (by rw [hml]; rfl) (argsL := [(.ref a1), (.int (0 : Int32)), (.ref b101), (.int (0 : Int32)), (.int (2 : Int32))]) (rest := []) (lenOf pd_4 rfl) rfl (by show 2 * 0 + _ ≤ _; exact Nat.le_of_eq rfl) (hb hby d_jdk_52_method_16_9) (fun _ _ => ⟨rfl, e101, Nat.le_of_ble_eq_true rfl, Nat.le_of_ble_eq_true rfl⟩)
  dsimp only [Pt.U, Pt.locs, Pt.cells, Pt.slots] at X102 l102 y102 z102 st102 hQ102
  subst l102 y102 z102
  obtain ⟨h102, e102⟩ : ∃ z, T102.heap = z := ⟨_, rfl⟩
  rw [e102] at hQ102
  obtain ⟨rfl, N102q, Kp102, p102_V_a2⟩ := hQ102
  have Sz2 : h101.size ≤ h102.size := Kp102.1
  have N102 := Fr.app N0 N102q
  have K106 : Keep h0 h101 [] := (Keep.refl h0 []).ext E101
  have K107 : Keep h0 h102 [] := K106.trans Kp102 (allS (Or.inr (by omega : @LE.le Nat _ h0.size b101)) all0)
  obtain ⟨fs, hr, hrun, hended, hW, hsame⟩ := X102.leave (v := some (.ref b101)) (fun h => by rw [Bd.returns] at h; cases h)
  refine ⟨_, _, pre0 _ ?_, hrun, hended, _, _, rfl, ?_, ⟨_, rfl⟩, hW, hsame.mono (by decide) (by decide)⟩
  · show SS pP eE belowS s₁ (mkF mM 0 (Lc_comp1_s2_0 a1) []) _
    refine XS.iloadN X0.here hx rfl (hb hby d_jdk_52_method_16_0) rfl ?_
    show SS pP eE belowS s₁ (mkF mM 1 (Lc_comp1_s2_0 a1) [(.int (2 : Int32))]) _
    refine st101 _ ?_
    show SS pP eE belowS T101 (mkF mM 3 (Lc_comp1_s2_0 a1) [(.ref b101)]) _
    refine XS.astoreN X101.here hx rfl (hb hby d_jdk_52_method_16_3) rfl rfl (l' := (Lc_comp1_s2_1 a1 b101)) rfl ?_
    show SS pP eE belowS T101 (mkF mM 4 (Lc_comp1_s2_1 a1 b101) []) _
    refine XS.aloadN X101.here hx rfl (hb hby d_jdk_52_method_16_4) rfl rfl ?_
    show SS pP eE belowS T101 (mkF mM 5 (Lc_comp1_s2_1 a1 b101) [(.ref a1)]) _
    refine XS.iloadN X101.here hx rfl (hb hby d_jdk_52_method_16_5) rfl ?_
    show SS pP eE belowS T101 (mkF mM 6 (Lc_comp1_s2_1 a1 b101) [(.int (0 : Int32)), (.ref a1)]) _
    refine XS.aloadN X101.here hx rfl (hb hby d_jdk_52_method_16_6) rfl rfl ?_
    show SS pP eE belowS T101 (mkF mM 7 (Lc_comp1_s2_1 a1 b101) [(.ref b101), (.int (0 : Int32)), (.ref a1)]) _
    refine XS.iconst X101.here hx rfl (hb hby d_jdk_52_method_16_7) ?_
    show SS pP eE belowS T101 (mkF mM 8 (Lc_comp1_s2_1 a1 b101) [(.int (0 : Int32)), (.ref b101), (.int (0 : Int32)), (.ref a1)]) _
    refine XS.iloadN X101.here hx rfl (hb hby d_jdk_52_method_16_8) rfl ?_
    show SS pP eE belowS T101 (mkF mM 9 (Lc_comp1_s2_1 a1 b101) [(.int (2 : Int32)), (.int (0 : Int32)), (.ref b101), (.int (0 : Int32)), (.ref a1)]) _
    refine st102 _ ?_
    show SS pP eE belowS T102 (mkF mM 12 (Lc_comp1_s2_1 a1 b101) [(.int (2 : Int32))]) _
    refine XS.istore X102.here hx rfl (hb hby d_jdk_52_method_16_12) rfl (l' := (Lc_comp1_s2_2 a1 b101)) rfl ?_
    show SS pP eE belowS T102 (mkF mM 14 (Lc_comp1_s2_2 a1 b101) []) _
    refine XS.iload X102.here hx rfl (hb hby d_jdk_52_method_16_14) rfl ?_
    show SS pP eE belowS T102 (mkF mM 16 (Lc_comp1_s2_2 a1 b101) [(.int (2 : Int32))]) _
    refine XS.iloadN X102.here hx rfl (hb hby d_jdk_52_method_16_16) rfl ?_
    show SS pP eE belowS T102 (mkF mM 17 (Lc_comp1_s2_2 a1 b101) [(.int (2 : Int32)), (.int (2 : Int32))]) _
    refine XS.icmpYes X102.here hx rfl (pc0 := 17) (pc' := 57) rfl (hb hby d_jdk_52_method_16_17) rfl (teq (by decide : (2 : Int32) = (2 : Int32))).1 (by decide) (by decide) ?_
    show SS pP eE belowS T102 (mkF mM 57 (Lc_comp1_s2_2 a1 b101) []) _
    refine XS.aloadN X102.here hx rfl (hb hby d_jdk_52_method_16_57) rfl rfl ?_
    show SS pP eE belowS T102 (mkF mM 58 (Lc_comp1_s2_2 a1 b101) [(.ref b101)]) _
    jvm_step X102.here [X102.here.top, hx, (hb hby d_jdk_52_method_16_58), X102.method', Bd.returns, Value.isRef, FieldType.isReference]
    first | (intro acts; rw [hr _ acts rfl rfl rfl]) | rw [hr _ _ rfl rfl rfl]
    exact Steps.refl _
  · show Q_comp1_s2 Z a1 k1 c0 c1 h0 n0 _ T102.heap _
    rw [e102]
    exact ⟨b101, k101, rfl, N102, K107, p102_V_a2, (by omega)⟩
theorem d_jdk_52_method_15_0 : decode jdk_52_method_15_code 0 = .ok (.iload_n 1, 1) := by decide +kernel
theorem d_jdk_52_method_15_1 : decode jdk_52_method_15_code 1 = .ok (.aload_n 0, 1) := by decide +kernel
theorem d_jdk_52_method_15_2 : decode jdk_52_method_15_code 2 = .ok (.arraylength, 1) := by decide +kernel
theorem d_jdk_52_method_15_3 : decode jdk_52_method_15_code 3 = .ok (.isub, 1) := by decide +kernel
theorem d_jdk_52_method_15_4 : decode jdk_52_method_15_code 4 = .ok (.bipush 31, 2) := by decide +kernel
theorem d_jdk_52_method_15_6 : decode jdk_52_method_15_code 6 = .ok (.iushr, 1) := by decide +kernel
theorem d_jdk_52_method_15_7 : decode jdk_52_method_15_code 7 = .ok (.i2b, 1) := by decide +kernel
theorem d_jdk_52_method_15_8 : decode jdk_52_method_15_code 8 = .ok (.ireturn, 1) := by decide +kernel
def Q_coder_s2 (Z : State) (a1 : Addr) (k1 : ClassId) (vs : List Value) (h0 : Heap) (n0 : Nat) (xv : Option Value) (xh : Heap) (xL : List Loc) : Prop := xv = some (.int (0 : Int32)) ∧ Fr n0 xL ∧ xh = h0
theorem ef_coder_s2 (mM : MethodId) (a1 : Addr) (k1 : ClassId) (vs : List Value) : entryFrame mM #[(.ref a1), (.int (2 : Int32))] 2 = mkF mM 0 #[.val (.ref a1), .val (.int (2 : Int32))] [] := by first | (simp [entryFrame, mkF, argsToLocals, Value.category]; done) | rfl
set_option maxRecDepth 65536 in
set_option maxHeartbeats 40000000 in
theorem rm_coder_s2 (l : Launch) (Z : State) (a0 : Array Value) (hw : ∀ d ∈ tables_1, d.before a0 Z = true) (ws : List Jvm.Cond) (a1 : Addr) (k1 : ClassId) (vs : List Value) (h0 : Heap) (n0 : Nat) (Z0 : n0 ≤ h0.size) (V_a1 : Arv Z h0 a1 k1 .byte (2 : Int32) vs (.int (0 : Int32))) :
    MetFree l (⟨"java/lang/StringUTF16", "coderFromArrayLen", "([BI)B"⟩ : MethodName) (head1 (Jvm.Cond.code (⟨"java/lang/StringUTF16", "coderFromArrayLen", "([BI)B"⟩ : MethodName) jdk_52_method_15_code 2 (some .byte) :: ws) ({ frames := 0, cells := 0, slots := 0, locals := 0 } : Room)) (fun xa xU => xa = #[(.ref a1), (.int (2 : Int32))] ∧ Z.Warmed39 xU.vm ∧ xU.heap = h0) (fun _ _ _ _ _ => True) (fun _ xU xo xU' => ∃ xv xL, xo = .returned xv ∧ Q_coder_s2 Z a1 k1 vs h0 n0 xv xU'.heap xL ∧ FrameEnd xU xo xU' xL ({ frames := 0, cells := 0, slots := 0, locals := 0 } : Room).cells ({ frames := 0, cells := 0, slots := 0, locals := 0 } : Room).slots) := by
  refine MetFree.of_bodySF (plainFor_of_name pn_java_lang_StringUTF16) hisR ?_
  intro pP eE sS mM argS belowS methS cC s₁ Bd hml0 hP hK
  obtain ⟨rfl, hZ, hh⟩ := hP
  have hx := Bd.exec
  have hby := Bd.bytes
  have hml : cC.maxLocals = 2 := hml0
  have hown : sS.vm.findClass "java/lang/StringUTF16" = some mM.cls := findClass_of_methodNamed Bd.named
  have hnm := (name_of_methodNamed Bd.named Bd.method).1
  have X0 : Stand pP l eE ({ frames := 0, cells := 0, slots := 0, locals := 0 } : Room) sS mM #[(.ref a1), (.int (2 : Int32))] belowS methS cC s₁ [] 0 0 := Stand.of_body Bd
  have e0 : s₁.heap = h0 := by rw [← hh, Bd.state]; rfl
  have N0 := Fr.nil n0
  have pre0 : ∀ t', Steps pP.tables eE belowS (s₁.setTop (mkF mM 0 #[.val (.ref a1), .val (.int (2 : Int32))] [])) t' → Steps pP.tables eE belowS (s₁.setTop (entryFrame mM #[(.ref a1), (.int (2 : Int32))] 2)) t' := fun t' kk' => castTop (ef_coder_s2 mM a1 k1 vs) kk'
  obtain ⟨cl101, Ar101, q101, S101, Ng101, Ha101, Ga101⟩ := id V_a1
  obtain ⟨fs, hr, hrun, hended, hW, hsame⟩ := X0.leave (v := some (.int (0 : Int32))) (fun h => by rw [Bd.returns] at h; cases h)
  refine ⟨_, _, pre0 _ ?_, hrun, hended, _, _, rfl, ?_, ⟨_, rfl⟩, hW, hsame.mono (by decide) (by decide)⟩
  · show SS pP eE belowS s₁ (mkF mM 0 #[.val (.ref a1), .val (.int (2 : Int32))] []) _
    refine XS.iloadN X0.here hx rfl (hb hby d_jdk_52_method_15_0) rfl ?_
    show SS pP eE belowS s₁ (mkF mM 1 #[.val (.ref a1), .val (.int (2 : Int32))] [(.int (2 : Int32))]) _
    refine XS.aloadN X0.here hx rfl (hb hby d_jdk_52_method_15_1) rfl rfl ?_
    show SS pP eE belowS s₁ (mkF mM 2 #[.val (.ref a1), .val (.int (2 : Int32))] [(.ref a1), (.int (2 : Int32))]) _
    refine X0.arraylength hx (by rw [e0]; exact Ar101.1) (State.isArrayOf_alike hZ.alike Ar101.2.1) (g := (mkF mM 2 #[.val (.ref a1), .val (.int (2 : Int32))] [(.ref a1), (.int (2 : Int32))])) rfl rfl (hb hby d_jdk_52_method_15_2) _ ?_
    rw [len_of S101 Ng101]
    show SS pP eE belowS s₁ (mkF mM 3 #[.val (.ref a1), .val (.int (2 : Int32))] [(.int (2 : Int32)), (.int (2 : Int32))]) _
    refine XS.isub X0.here hx rfl (hb hby d_jdk_52_method_15_3) rfl ?_
    show SS pP eE belowS s₁ (mkF mM 4 #[.val (.ref a1), .val (.int (2 : Int32))] [(.int (0 : Int32))]) _
    refine XS.bipush X0.here hx rfl (hb hby d_jdk_52_method_15_4) ?_
    show SS pP eE belowS s₁ (mkF mM 6 #[.val (.ref a1), .val (.int (2 : Int32))] [(.int (31 : Int32)), (.int (0 : Int32))]) _
    refine XS.iushr X0.here hx rfl (hb hby d_jdk_52_method_15_6) rfl ?_
    show SS pP eE belowS s₁ (mkF mM 7 #[.val (.ref a1), .val (.int (2 : Int32))] [(.int (0 : Int32))]) _
    refine XS.i2b X0.here hx rfl (hb hby d_jdk_52_method_15_7) rfl ?_
    show SS pP eE belowS s₁ (mkF mM 8 #[.val (.ref a1), .val (.int (2 : Int32))] [(.int (0 : Int32))]) _
    exact retN X0 hx (t := .byte) Bd.returns (by simp) (hb hby d_jdk_52_method_15_8) hr
  · show Q_coder_s2 Z a1 k1 vs h0 n0 _ s₁.heap _
    rw [e0]
    exact ⟨rfl, N0, rfl⟩
theorem d_jdk_42_method_149_0 : decode jdk_42_method_149_code 0 = .ok (.aload_n 0, 1) := by decide +kernel
theorem d_jdk_42_method_149_1 : decode jdk_42_method_149_code 1 = .ok (.invokespecial 1, 3) := by decide +kernel
theorem d_jdk_42_method_149_4 : decode jdk_42_method_149_code 4 = .ok (.iload_n 3, 1) := by decide +kernel
theorem d_jdk_42_method_149_5 : decode jdk_42_method_149_code 5 = .ok (.ifCond .ne 22, 3) := by decide +kernel
theorem d_jdk_42_method_149_27 : decode jdk_42_method_149_code 27 = .ok (.getstatic 38, 3) := by decide +kernel
theorem d_jdk_42_method_149_30 : decode jdk_42_method_149_code 30 = .ok (.ifCond .eq 28, 3) := by decide +kernel
theorem d_jdk_42_method_149_33 : decode jdk_42_method_149_code 33 = .ok (.aload_n 1, 1) := by decide +kernel
theorem d_jdk_42_method_149_34 : decode jdk_42_method_149_code 34 = .ok (.iload_n 2, 1) := by decide +kernel
theorem d_jdk_42_method_149_35 : decode jdk_42_method_149_code 35 = .ok (.iload_n 3, 1) := by decide +kernel
theorem d_jdk_42_method_149_36 : decode jdk_42_method_149_code 36 = .ok (.invokestatic 177, 3) := by decide +kernel
theorem pd_3 : parseMethodDescriptor "([CII)[B" = some ⟨[(.array .char), .int, .int], some (.array .byte)⟩ := by decide +kernel
theorem d_jdk_42_method_149_39 : decode jdk_42_method_149_code 39 = .ok (.astore 5, 2) := by decide +kernel
theorem d_jdk_42_method_149_41 : decode jdk_42_method_149_code 41 = .ok (.aload_n 0, 1) := by decide +kernel
theorem d_jdk_42_method_149_42 : decode jdk_42_method_149_code 42 = .ok (.aload 5, 2) := by decide +kernel
theorem d_jdk_42_method_149_44 : decode jdk_42_method_149_code 44 = .ok (.iload_n 3, 1) := by decide +kernel
theorem d_jdk_42_method_149_45 : decode jdk_42_method_149_code 45 = .ok (.invokestatic 47, 3) := by decide +kernel
theorem pd_5 : parseMethodDescriptor "([BI)B" = some ⟨[(.array .byte), .int], some .byte⟩ := by decide +kernel
theorem d_jdk_42_method_149_48 : decode jdk_42_method_149_code 48 = .ok (.putfield 15, 3) := by decide +kernel
theorem d_jdk_42_method_149_51 : decode jdk_42_method_149_code 51 = .ok (.aload_n 0, 1) := by decide +kernel
theorem d_jdk_42_method_149_52 : decode jdk_42_method_149_code 52 = .ok (.aload 5, 2) := by decide +kernel
theorem d_jdk_42_method_149_54 : decode jdk_42_method_149_code 54 = .ok (.putfield 9, 3) := by decide +kernel
theorem d_jdk_42_method_149_57 : decode jdk_42_method_149_code 57 = .ok (.return_, 1) := by decide +kernel
theorem pn_java_lang_String : plainName "java/lang/String" = true := by first | (simp [plainName, overriddenIn]; done) | decide +kernel
def Q_init4_s2 (Z : State) (o : Addr) (a1 : Addr) (k1 : ClassId) (u1 : Value) (u2 : Value) (cs : Int32) (c0 : Int32) (c1 : Int32) (h0 : Heap) (n0 : Nat) (xv : Option Value) (xh : Heap) (xL : List Loc) : Prop := ∃ b : Addr, ∃ k2 : ClassId, xv = none ∧ Fr n0 xL ∧ Keep h0 xh [o] ∧ Exa Z xh o "java/lang/String" ∧ Fld Z xh o "java/lang/String" "value" "[B" (.ref b) ∧ Fld Z xh o "java/lang/String" "coder" "B" (.int (0 : Int32)) ∧ Arv Z xh b k2 .byte (2 : Int32) [(.int c0.toInt8.toInt32), (.int c1.toInt8.toInt32)] (.int (0 : Int32)) ∧ @LE.le Nat _ h0.size b
abbrev Lc_init4_s2_0 (o : Addr) (a1 : Addr) : Array Slot := #[.val (.ref o), .val (.ref a1), .val (.int (0 : Int32)), .val (.int (2 : Int32)), .val .null, .unset]
abbrev Lc_init4_s2_1 (o : Addr) (a1 : Addr) (b_104 : Addr) : Array Slot := #[.val (.ref o), .val (.ref a1), .val (.int (0 : Int32)), .val (.int (2 : Int32)), .val .null, .val (.ref b_104)]
theorem ef_init4_s2 (mM : MethodId) (o : Addr) (a1 : Addr) (k1 : ClassId) (u1 : Value) (u2 : Value) (cs : Int32) (c0 : Int32) (c1 : Int32) : entryFrame mM #[(.ref o), (.ref a1), (.int (0 : Int32)), (.int (2 : Int32)), .null] 6 = mkF mM 0 #[.val (.ref o), .val (.ref a1), .val (.int (0 : Int32)), .val (.int (2 : Int32)), .val .null, .unset] [] := by first | (simp [entryFrame, mkF, argsToLocals, Value.category]; done) | rfl
set_option maxRecDepth 65536 in
set_option maxHeartbeats 40000000 in
theorem rm_init4_s2 (l : Launch) (Z : State) (a0 : Array Value) (hw : ∀ d ∈ tables_1, d.before a0 Z = true) (ws : List Jvm.Cond) (o : Addr) (a1 : Addr) (k1 : ClassId) (u1 : Value) (u2 : Value) (cs : Int32) (c0 : Int32) (c1 : Int32) (h0 : Heap) (n0 : Nat) (Z0 : n0 ≤ h0.size) (E_o : Exa Z h0 o "java/lang/String") (F_value_o : Fld Z h0 o "java/lang/String" "value" "[B" u1) (F_coder_o : Fld Z h0 o "java/lang/String" "coder" "B" u2) (V_a1 : Arv Z h0 a1 k1 .char (2 : Int32) [(.int c0), (.int c1)] (.int (0 : Int32))) (g_o : @LE.le Nat _ n0 o) (OL : Old Z n0 h0) (S_COMPACT_STRINGS : Sta Z Z.heap "java/lang/String" "COMPACT_STRINGS" "Z" (.int cs)) (hcs : ¬ (cs = (0 : Int32))) (q0 : ¬ ((255 : Int32) < c0)) (q1 : ¬ ((255 : Int32) < c1)) :
    MetFree l (⟨"java/lang/String", "<init>", "([CIILjava/lang/Void;)V"⟩ : MethodName) (head1 (Jvm.Cond.code (⟨"java/lang/String", "<init>", "([CIILjava/lang/Void;)V"⟩ : MethodName) jdk_42_method_149_code 6 none :: ws) ({ frames := 2, cells := 1, slots := 2, locals := 35 } : Room)) (fun xa xU => xa = #[(.ref o), (.ref a1), (.int (0 : Int32)), (.int (2 : Int32)), .null] ∧ Z.Warmed39 xU.vm ∧ xU.heap = h0) (fun _ _ _ _ _ => True) (fun _ xU xo xU' => ∃ xv xL, xo = .returned xv ∧ Q_init4_s2 Z o a1 k1 u1 u2 cs c0 c1 h0 n0 xv xU'.heap xL ∧ FrameEnd xU xo xU' xL ({ frames := 2, cells := 1, slots := 2, locals := 35 } : Room).cells ({ frames := 2, cells := 1, slots := 2, locals := 35 } : Room).slots) := by
  refine MetFree.of_bodySF (plainFor_of_name pn_java_lang_String) hisR ?_
  intro pP eE sS mM argS belowS methS cC s₁ Bd hml0 hP hK
  obtain ⟨rfl, hZ, hh⟩ := hP
  have hx := Bd.exec
  have hby := Bd.bytes
  have hml : cC.maxLocals = 6 := hml0
  have hown : sS.vm.findClass "java/lang/String" = some mM.cls := findClass_of_methodNamed Bd.named
  have hnm := (name_of_methodNamed Bd.named Bd.method).1
  have X0 : Stand pP l eE ({ frames := 2, cells := 1, slots := 2, locals := 35 } : Room) sS mM #[(.ref o), (.ref a1), (.int (0 : Int32)), (.int (2 : Int32)), .null] belowS methS cC s₁ [] 0 0 := Stand.of_body Bd
  have e0 : s₁.heap = h0 := by rw [← hh, Bd.state]; rfl
  have N0 := Fr.nil n0
  have pre0 : ∀ t', Steps pP.tables eE belowS (s₁.setTop (mkF mM 0 #[.val (.ref o), .val (.ref a1), .val (.int (0 : Int32)), .val (.int (2 : Int32)), .val .null, .unset] [])) t' → Steps pP.tables eE belowS (s₁.setTop (entryFrame mM #[(.ref o), (.ref a1), (.int (0 : Int32)), (.int (2 : Int32)), .null] 6)) t' := fun t' kk' => castTop (ef_init4_s2 mM o a1 k1 u1 u2 cs c0 c1) kk'
  obtain ⟨T101, X101, e101, st101⟩ := initO X0 hx hZ hown (wi hw 14 rfl) (wi hw 15 rfl) (wi hw 16 rfl) e0 (g := (mkF mM 1 (Lc_init4_s2_0 o a1) [(.ref o)])) rfl (by rw [hml]; rfl) rfl (hb hby d_jdk_42_method_149_1) (by decide) (W := 0) (by show 2 * 0 + _ ≤ _; exact Nat.le_of_eq rfl) (by decide)
  have c102_S_COMPACT_STRINGS : Sta Z h0 "java/lang/String" "COMPACT_STRINGS" "Z" (.int cs) := Sta.ext OL.2 S_COMPACT_STRINGS
  obtain ⟨T103, X103, e103, st103⟩ := getS2 X101 hx hZ hown (host := "") (Or.inl (wi hw 17 rfl)) Via.refl e101 c102_S_COMPACT_STRINGS (g := (mkF mM 27 (Lc_init4_s2_0 o a1) [])) rfl (hb hby d_jdk_42_method_149_27)
  obtain ⟨_, _, ⟨T104, L104, k104, n104⟩, -, X104, ⟨Lc104, hQ104, l104, y104, z104⟩, st104⟩ := Jvm.LawKit.callS X103 hx (y := (⟨"java/lang/StringUTF16", "compress", "([CII)[B"⟩ : MethodName)) hown (mvT hZ (wi hw 18 rfl)) (mvT hZ (wi hw 19 rfl)) (mvT hZ (wi hw 20 rfl)) (mvT hZ (wi hw 21 rfl)) (by decide) (backOf (W := 0) (rm_comp1_s2 l Z a0 hw [] a1 k1 c0 c1 h0 n0 (by omega) V_a1 q0 q1) hZ (wi hw 21 rfl) (wi hw 20 rfl) (by decide) (by decide)) (g := (mkF mM 36 (Lc_init4_s2_0 o a1) [(.int (2 : Int32)), (.int (0 : Int32)), (.ref a1)])) rfl (by rw [hml]; rfl) (argsL := [(.ref a1), (.int (0 : Int32)), (.int (2 : Int32))]) (rest := []) (lenOf pd_3 rfl) rfl (by show 2 * 0 + _ ≤ _; exact Nat.le_of_eq rfl) (hb hby d_jdk_42_method_149_36) (fun _ _ => ⟨rfl, e103, Nat.le_of_ble_eq_true rfl, Nat.le_of_ble_eq_true rfl⟩)
  dsimp only [Pt.U, Pt.locs, Pt.cells, Pt.slots] at X104 l104 y104 z104 st104 hQ104
  subst l104 y104 z104
  obtain ⟨h104, e104⟩ : ∃ z, T104.heap = z := ⟨_, rfl⟩
  rw [e104] at hQ104
  obtain ⟨b_104, k2_104, rfl, N104q, Kp104, p104_V_b, p104_gh_b⟩ := hQ104
  have Sz1 : h0.size ≤ h104.size := Kp104.1
  have N104 := Fr.app N0 N104q
  obtain ⟨_, _, ⟨T105, L105, k105, n105⟩, -, X105, ⟨Lc105, hQ105, l105, y105, z105⟩, st105⟩ := Jvm.LawKit.callS X104 hx (y := (⟨"java/lang/StringUTF16", "coderFromArrayLen", "([BI)B"⟩ : MethodName)) hown (mvT hZ (wi hw 26 rfl)) (mvT hZ (wi hw 27 rfl)) (mvT hZ (wi hw 20 rfl)) (mvT hZ (wi hw 28 rfl)) (by decide) (backOf (W := 1) (rm_coder_s2 l Z a0 hw [] b_104 k2_104 [(.int c0.toInt8.toInt32), (.int c1.toInt8.toInt32)] h104 n0 (by omega) p104_V_b) hZ (wi hw 28 rfl) (wi hw 20 rfl) (by decide) (by decide)) (g := (mkF mM 45 (Lc_init4_s2_1 o a1 b_104) [(.int (2 : Int32)), (.ref b_104), (.ref o)])) rfl (by rw [hml]; rfl) (argsL := [(.ref b_104), (.int (2 : Int32))]) (rest := [(.ref o)]) (lenOf pd_5 rfl) rfl (by show 2 * 0 + _ ≤ _; exact Nat.le_of_eq rfl) (hb hby d_jdk_42_method_149_45) (fun _ _ => ⟨rfl, e104, Nat.le_of_ble_eq_true rfl, Nat.le_of_ble_eq_true rfl⟩)
  dsimp only [Pt.U, Pt.locs, Pt.cells, Pt.slots] at X105 l105 y105 z105 st105 hQ105
  subst l105 y105 z105
  obtain ⟨h105, e105⟩ : ∃ z, T105.heap = z := ⟨_, rfl⟩
  rw [e105] at hQ105
  obtain ⟨rfl, N105q, eq105⟩ := hQ105
  rw [eq105] at e105
  have N105 := Fr.app N104 N105q
  have c106_F_coder_o : Fld Z h104 o "java/lang/String" "coder" "B" u2 := F_coder_o.keep Kp104 nin0
  have c107_E_o : Exa Z h104 o "java/lang/String" := E_o.keep Kp104
  obtain ⟨T108, h108, X108, e108, W108, st108⟩ := putFN X105 hx hZ hown (wi hw 29 rfl) Via.refl e105 c106_F_coder_o c107_E_o (Or.inr ⟨(wi hw 30 rfl), rfl, hnm⟩) (wi hw 5 rfl) (ty := .byte) (v' := (.int (0 : Int32))) (by decide) rfl (rfl) (g := (mkF mM 48 (Lc_init4_s2_1 o a1 b_104) [(.int (0 : Int32)), (.ref o)])) rfl rfl (hb hby d_jdk_42_method_149_48)
  have Sz2 : h104.size ≤ h108.size := Nat.le_of_eq (Wr.size W108).symm
  have Fw108 : Fld Z h108 o "java/lang/String" "coder" "B" (.int (0 : Int32)) := Fld.same W108 c106_F_coder_o
  have N108 := Fr.snoc X108 N105 g_o
  have c109_F_value_o : Fld Z h104 o "java/lang/String" "value" "[B" u1 := F_value_o.keep Kp104 nin0
  have c110_F_value_o : Fld Z h108 o "java/lang/String" "value" "[B" u1 := Fld.other W108 c109_F_value_o (Or.inr (slot_ne (Or.inr (wi hw 32 rfl)) (Or.inr (wi hw 30 rfl)) (by decide) (t := (.array .byte)) (t' := .byte) (by decide) (by decide)))
  have c111_E_o : Exa Z h108 o "java/lang/String" := Exa.wr W108 c107_E_o
  obtain ⟨T112, h112, X112, e112, W112, st112⟩ := putF X108 hx hZ hown (host := "") (Or.inl (wi hw 31 rfl)) Via.refl e108 c110_F_value_o c111_E_o (Or.inr ⟨(wi hw 32 rfl), rfl, hnm⟩) (wi hw 5 rfl) (ty := (.array .byte)) (by decide) rfl rfl (g := (mkF mM 54 (Lc_init4_s2_1 o a1 b_104) [(.ref b_104), (.ref o)])) rfl rfl (hb hby d_jdk_42_method_149_54)
  have Sz3 : h108.size ≤ h112.size := Nat.le_of_eq (Wr.size W112).symm
  have Fw112 : Fld Z h112 o "java/lang/String" "value" "[B" (.ref b_104) := Fld.same W112 c110_F_value_o
  have N112 := Fr.snoc X112 N108 g_o
  have lt_b_104 : @LT.lt Nat _ b_104 h104.size := p104_V_b.lt
  have lt_o : @LT.lt Nat _ o h0.size := E_o.lt
  have ne_b_104_o_113 : b_104 ≠ o := (by omega : @Ne Nat b_104 o)
  have c114_V_b_104 : Arv Z h108 b_104 k2_104 .byte (2 : Int32) [(.int c0.toInt8.toInt32), (.int c1.toInt8.toInt32)] (.int (0 : Int32)) := p104_V_b.other W108 ne_b_104_o_113
  have c115_V_b_104 : Arv Z h112 b_104 k2_104 .byte (2 : Int32) [(.int c0.toInt8.toInt32), (.int c1.toInt8.toInt32)] (.int (0 : Int32)) := c114_V_b_104.other W112 ne_b_104_o_113
  have c116_E_o : Exa Z h112 o "java/lang/String" := Exa.wr W112 c111_E_o
  have c117_F_coder_o : Fld Z h112 o "java/lang/String" "coder" "B" (.int (0 : Int32)) := Fld.other W112 Fw108 (Or.inr (slot_ne (Or.inr (wi hw 30 rfl)) (Or.inr (wi hw 32 rfl)) (by decide) (t := .byte) (t' := (.array .byte)) (by decide) (by decide)))
  have K118 : Keep h0 h104 [o] := (Keep.refl h0 [o]).trans Kp104 all0
  have K119 : Keep h0 h108 [o] := K118.wr W108 (Or.inl (List.mem_of_getElem? (i := 0) rfl))
  have K120 : Keep h0 h112 [o] := K119.wr W112 (Or.inl (List.mem_of_getElem? (i := 0) rfl))
  obtain ⟨fs, hr, hrun, hended, hW, hsame⟩ := X112.leave (v := none) (fun _ => rfl)
  refine ⟨_, _, pre0 _ ?_, hrun, hended, _, _, rfl, ?_, ⟨_, rfl⟩, hW, hsame.mono (by decide) (by decide)⟩
  · show SS pP eE belowS s₁ (mkF mM 0 (Lc_init4_s2_0 o a1) []) _
    refine XS.aloadN X0.here hx rfl (hb hby d_jdk_42_method_149_0) rfl rfl ?_
    show SS pP eE belowS s₁ (mkF mM 1 (Lc_init4_s2_0 o a1) [(.ref o)]) _
    refine st101 _ ?_
    show SS pP eE belowS T101 (mkF mM 4 (Lc_init4_s2_0 o a1) []) _
    refine XS.iloadN X101.here hx rfl (hb hby d_jdk_42_method_149_4) rfl ?_
    show SS pP eE belowS T101 (mkF mM 5 (Lc_init4_s2_0 o a1) [(.int (2 : Int32))]) _
    refine XS.ifYes X101.here hx rfl (pc0 := 5) (pc' := 27) rfl (hb hby d_jdk_42_method_149_5) rfl ((if0 _ _).trans (feq (by decide : ¬ ((2 : Int32) = (0 : Int32)))).2) (by decide) (by decide) ?_
    show SS pP eE belowS T101 (mkF mM 27 (Lc_init4_s2_0 o a1) []) _
    refine st103 _ ?_
    show SS pP eE belowS T103 (mkF mM 30 (Lc_init4_s2_0 o a1) [(.int cs)]) _
    refine XS.ifNo X103.here hx rfl (hb hby d_jdk_42_method_149_30) rfl ((if0 _ _).trans (feq hcs).1) ?_
    show SS pP eE belowS T103 (mkF mM 33 (Lc_init4_s2_0 o a1) []) _
    refine XS.aloadN X103.here hx rfl (hb hby d_jdk_42_method_149_33) rfl rfl ?_
    show SS pP eE belowS T103 (mkF mM 34 (Lc_init4_s2_0 o a1) [(.ref a1)]) _
    refine XS.iloadN X103.here hx rfl (hb hby d_jdk_42_method_149_34) rfl ?_
    show SS pP eE belowS T103 (mkF mM 35 (Lc_init4_s2_0 o a1) [(.int (0 : Int32)), (.ref a1)]) _
    refine XS.iloadN X103.here hx rfl (hb hby d_jdk_42_method_149_35) rfl ?_
    show SS pP eE belowS T103 (mkF mM 36 (Lc_init4_s2_0 o a1) [(.int (2 : Int32)), (.int (0 : Int32)), (.ref a1)]) _
    refine st104 _ ?_
    show SS pP eE belowS T104 (mkF mM 39 (Lc_init4_s2_0 o a1) [(.ref b_104)]) _
    refine XS.astore X104.here hx rfl (hb hby d_jdk_42_method_149_39) rfl rfl (l' := (Lc_init4_s2_1 o a1 b_104)) rfl ?_
    show SS pP eE belowS T104 (mkF mM 41 (Lc_init4_s2_1 o a1 b_104) []) _
    refine XS.aloadN X104.here hx rfl (hb hby d_jdk_42_method_149_41) rfl rfl ?_
    show SS pP eE belowS T104 (mkF mM 42 (Lc_init4_s2_1 o a1 b_104) [(.ref o)]) _
    refine XS.aload X104.here hx rfl (hb hby d_jdk_42_method_149_42) rfl rfl ?_
    show SS pP eE belowS T104 (mkF mM 44 (Lc_init4_s2_1 o a1 b_104) [(.ref b_104), (.ref o)]) _
    refine XS.iloadN X104.here hx rfl (hb hby d_jdk_42_method_149_44) rfl ?_
    show SS pP eE belowS T104 (mkF mM 45 (Lc_init4_s2_1 o a1 b_104) [(.int (2 : Int32)), (.ref b_104), (.ref o)]) _
    refine st105 _ ?_
    show SS pP eE belowS T105 (mkF mM 48 (Lc_init4_s2_1 o a1 b_104) [(.int (0 : Int32)), (.ref o)]) _
    refine st108 _ ?_
    show SS pP eE belowS T108 (mkF mM 51 (Lc_init4_s2_1 o a1 b_104) []) _
    refine XS.aloadN X108.here hx rfl (hb hby d_jdk_42_method_149_51) rfl rfl ?_
    show SS pP eE belowS T108 (mkF mM 52 (Lc_init4_s2_1 o a1 b_104) [(.ref o)]) _
    refine XS.aload X108.here hx rfl (hb hby d_jdk_42_method_149_52) rfl rfl ?_
    show SS pP eE belowS T108 (mkF mM 54 (Lc_init4_s2_1 o a1 b_104) [(.ref b_104), (.ref o)]) _
    refine st112 _ ?_
    show SS pP eE belowS T112 (mkF mM 57 (Lc_init4_s2_1 o a1 b_104) []) _
    exact X112.returnOut hx Bd.returns (hb hby d_jdk_42_method_149_57) hr
  · show Q_init4_s2 Z o a1 k1 u1 u2 cs c0 c1 h0 n0 _ T112.heap _
    rw [e112]
    exact ⟨b_104, k2_104, rfl, N112, K120, c116_E_o, Fw112, c117_F_coder_o, c115_V_b_104, (by omega)⟩
theorem d_jdk_42_method_3_0 : decode jdk_42_method_3_code 0 = .ok (.aload_n 0, 1) := by decide +kernel
theorem d_jdk_42_method_3_1 : decode jdk_42_method_3_code 1 = .ok (.aload_n 1, 1) := by decide +kernel
theorem d_jdk_42_method_3_2 : decode jdk_42_method_3_code 2 = .ok (.iconst 0, 1) := by decide +kernel
theorem d_jdk_42_method_3_3 : decode jdk_42_method_3_code 3 = .ok (.aload_n 1, 1) := by decide +kernel
theorem d_jdk_42_method_3_4 : decode jdk_42_method_3_code 4 = .ok (.arraylength, 1) := by decide +kernel
theorem d_jdk_42_method_3_5 : decode jdk_42_method_3_code 5 = .ok (.aconst_null, 1) := by decide +kernel
theorem d_jdk_42_method_3_6 : decode jdk_42_method_3_code 6 = .ok (.invokespecial 27, 3) := by decide +kernel
theorem pd_1 : parseMethodDescriptor "([CIILjava/lang/Void;)V" = some ⟨[(.array .char), .int, .int, (.object "java/lang/Void")], none⟩ := by decide +kernel
theorem d_jdk_42_method_3_9 : decode jdk_42_method_3_code 9 = .ok (.return_, 1) := by decide +kernel
def Q_init1_s2 (Z : State) (o : Addr) (a1 : Addr) (k1 : ClassId) (u1 : Value) (u2 : Value) (cs : Int32) (c0 : Int32) (c1 : Int32) (h0 : Heap) (n0 : Nat) (xv : Option Value) (xh : Heap) (xL : List Loc) : Prop := ∃ b : Addr, ∃ k2 : ClassId, xv = none ∧ Fr n0 xL ∧ Keep h0 xh [o] ∧ Exa Z xh o "java/lang/String" ∧ Fld Z xh o "java/lang/String" "value" "[B" (.ref b) ∧ Fld Z xh o "java/lang/String" "coder" "B" (.int (0 : Int32)) ∧ Arv Z xh b k2 .byte (2 : Int32) [(.int c0.toInt8.toInt32), (.int c1.toInt8.toInt32)] (.int (0 : Int32)) ∧ @LE.le Nat _ h0.size b
theorem ef_init1_s2 (mM : MethodId) (o : Addr) (a1 : Addr) (k1 : ClassId) (u1 : Value) (u2 : Value) (cs : Int32) (c0 : Int32) (c1 : Int32) : entryFrame mM #[(.ref o), (.ref a1)] 2 = mkF mM 0 #[.val (.ref o), .val (.ref a1)] [] := by first | (simp [entryFrame, mkF, argsToLocals, Value.category]; done) | rfl
set_option maxRecDepth 65536 in
set_option maxHeartbeats 40000000 in
theorem rm_init1_s2 (l : Launch) (Z : State) (a0 : Array Value) (hw : ∀ d ∈ tables_1, d.before a0 Z = true) (ws : List Jvm.Cond) (o : Addr) (a1 : Addr) (k1 : ClassId) (u1 : Value) (u2 : Value) (cs : Int32) (c0 : Int32) (c1 : Int32) (h0 : Heap) (n0 : Nat) (Z0 : n0 ≤ h0.size) (E_o : Exa Z h0 o "java/lang/String") (F_value_o : Fld Z h0 o "java/lang/String" "value" "[B" u1) (F_coder_o : Fld Z h0 o "java/lang/String" "coder" "B" u2) (V_a1 : Arv Z h0 a1 k1 .char (2 : Int32) [(.int c0), (.int c1)] (.int (0 : Int32))) (g_o : @LE.le Nat _ n0 o) (OL : Old Z n0 h0) (S_COMPACT_STRINGS : Sta Z Z.heap "java/lang/String" "COMPACT_STRINGS" "Z" (.int cs)) (hcs : ¬ (cs = (0 : Int32))) (q0 : ¬ ((255 : Int32) < c0)) (q1 : ¬ ((255 : Int32) < c1)) :
    MetFree l (⟨"java/lang/String", "<init>", "([C)V"⟩ : MethodName) (head1 (Jvm.Cond.code (⟨"java/lang/String", "<init>", "([C)V"⟩ : MethodName) jdk_42_method_3_code 2 none :: ws) ({ frames := 3, cells := 1, slots := 2, locals := 52 } : Room)) (fun xa xU => xa = #[(.ref o), (.ref a1)] ∧ Z.Warmed39 xU.vm ∧ xU.heap = h0) (fun _ _ _ _ _ => True) (fun _ xU xo xU' => ∃ xv xL, xo = .returned xv ∧ Q_init1_s2 Z o a1 k1 u1 u2 cs c0 c1 h0 n0 xv xU'.heap xL ∧ FrameEnd xU xo xU' xL ({ frames := 3, cells := 1, slots := 2, locals := 52 } : Room).cells ({ frames := 3, cells := 1, slots := 2, locals := 52 } : Room).slots) := by
  refine MetFree.of_bodySF (plainFor_of_name pn_java_lang_String) hisR ?_
  intro pP eE sS mM argS belowS methS cC s₁ Bd hml0 hP hK
  obtain ⟨rfl, hZ, hh⟩ := hP
  have hx := Bd.exec
  have hby := Bd.bytes
  have hml : cC.maxLocals = 2 := hml0
  have hown : sS.vm.findClass "java/lang/String" = some mM.cls := findClass_of_methodNamed Bd.named
  have hnm := (name_of_methodNamed Bd.named Bd.method).1
  have X0 : Stand pP l eE ({ frames := 3, cells := 1, slots := 2, locals := 52 } : Room) sS mM #[(.ref o), (.ref a1)] belowS methS cC s₁ [] 0 0 := Stand.of_body Bd
  have e0 : s₁.heap = h0 := by rw [← hh, Bd.state]; rfl
  have N0 := Fr.nil n0
  have pre0 : ∀ t', Steps pP.tables eE belowS (s₁.setTop (mkF mM 0 #[.val (.ref o), .val (.ref a1)] [])) t' → Steps pP.tables eE belowS (s₁.setTop (entryFrame mM #[(.ref o), (.ref a1)] 2)) t' := fun t' kk' => castTop (ef_init1_s2 mM o a1 k1 u1 u2 cs c0 c1) kk'
  obtain ⟨cl101, Ar101, q101, S101, Ng101, Ha101, Ga101⟩ := id V_a1
  obtain ⟨_, _, ⟨T102, L102, k102, n102⟩, -, X102, ⟨Lc102, hQ102, l102, y102, z102⟩, st102⟩ := X0.specialBack hx (y := (⟨"java/lang/String", "<init>", "([CIILjava/lang/Void;)V"⟩ : MethodName)) rfl hown (mvT hZ (wi hw 10 rfl)) (mvT hZ (wi hw 11 rfl)) (mvT hZ (wi hw 13 rfl)) (by decide) (backOf (W := 0) (rm_init4_s2 l Z a0 hw [] o a1 k1 u1 u2 cs c0 c1 h0 n0 (by omega) E_o F_value_o F_coder_o V_a1 g_o OL S_COMPACT_STRINGS hcs q0 q1) hZ (wi hw 13 rfl) (wi hw 6 rfl) (by decide) (by decide)) (g := (mkF mM 6 #[.val (.ref o), .val (.ref a1)] [.null, (.int (2 : Int32)), (.int (0 : Int32)), (.ref a1), (.ref o)])) rfl (by rw [hml]; rfl) (Steps.refl _) (a := o) (argsL := [(.ref a1), (.int (0 : Int32)), (.int (2 : Int32)), .null]) (rest := []) (lenOf pd_1 rfl) rfl (by show 2 * 0 + _ ≤ _; exact Nat.le_of_eq rfl) (hb hby d_jdk_42_method_3_6) (fun _ _ => ⟨rfl, e0, Nat.le_of_ble_eq_true rfl, Nat.le_of_ble_eq_true rfl⟩)
  dsimp only [Pt.U, Pt.locs, Pt.cells, Pt.slots] at X102 l102 y102 z102 st102 hQ102
  subst l102 y102 z102
  obtain ⟨h102, e102⟩ : ∃ z, T102.heap = z := ⟨_, rfl⟩
  rw [e102] at hQ102
  obtain ⟨b_102, k2_102, rfl, N102q, Kp102, p102_E_o, p102_F_value_o, p102_F_coder_o, p102_V_b, p102_gh_b⟩ := hQ102
  have Sz1 : h0.size ≤ h102.size := Kp102.1
  have N102 := Fr.app N0 N102q
  have K103 : Keep h0 h102 [o] := (Keep.refl h0 [o]).trans Kp102 (allS (Or.inl (List.mem_of_getElem? (i := 0) rfl)) all0)
  obtain ⟨fs, hr, hrun, hended, hW, hsame⟩ := X102.leave (v := none) (fun _ => rfl)
  refine ⟨_, _, pre0 _ ?_, hrun, hended, _, _, rfl, ?_, ⟨_, rfl⟩, hW, hsame.mono (by decide) (by decide)⟩
  · show SS pP eE belowS s₁ (mkF mM 0 #[.val (.ref o), .val (.ref a1)] []) _
    refine XS.aloadN X0.here hx rfl (hb hby d_jdk_42_method_3_0) rfl rfl ?_
    show SS pP eE belowS s₁ (mkF mM 1 #[.val (.ref o), .val (.ref a1)] [(.ref o)]) _
    refine XS.aloadN X0.here hx rfl (hb hby d_jdk_42_method_3_1) rfl rfl ?_
    show SS pP eE belowS s₁ (mkF mM 2 #[.val (.ref o), .val (.ref a1)] [(.ref a1), (.ref o)]) _
    refine XS.iconst X0.here hx rfl (hb hby d_jdk_42_method_3_2) ?_
    show SS pP eE belowS s₁ (mkF mM 3 #[.val (.ref o), .val (.ref a1)] [(.int (0 : Int32)), (.ref a1), (.ref o)]) _
    refine XS.aloadN X0.here hx rfl (hb hby d_jdk_42_method_3_3) rfl rfl ?_
    show SS pP eE belowS s₁ (mkF mM 4 #[.val (.ref o), .val (.ref a1)] [(.ref a1), (.int (0 : Int32)), (.ref a1), (.ref o)]) _
    refine X0.arraylength hx (by rw [e0]; exact Ar101.1) (State.isArrayOf_alike hZ.alike Ar101.2.1) (g := (mkF mM 4 #[.val (.ref o), .val (.ref a1)] [(.ref a1), (.int (0 : Int32)), (.ref a1), (.ref o)])) rfl rfl (hb hby d_jdk_42_method_3_4) _ ?_
    rw [len_of S101 Ng101]
    show SS pP eE belowS s₁ (mkF mM 5 #[.val (.ref o), .val (.ref a1)] [(.int (2 : Int32)), (.int (0 : Int32)), (.ref a1), (.ref o)]) _
    refine XS.aconstNull X0.here hx rfl (hb hby d_jdk_42_method_3_5) ?_
    show SS pP eE belowS s₁ (mkF mM 6 #[.val (.ref o), .val (.ref a1)] [.null, (.int (2 : Int32)), (.int (0 : Int32)), (.ref a1), (.ref o)]) _
    refine st102.trans ?_
    show SS pP eE belowS T102 (mkF mM 9 #[.val (.ref o), .val (.ref a1)] []) _
    exact X102.returnOut hx Bd.returns (hb hby d_jdk_42_method_3_9) hr
  · show Q_init1_s2 Z o a1 k1 u1 u2 cs c0 c1 h0 n0 _ T102.heap _
    rw [e102]
    exact ⟨b_102, k2_102, rfl, N102, K103, p102_E_o, p102_F_value_o, p102_F_coder_o, p102_V_b, (by omega)⟩

def Q_comp0_s1 (Z : State) (a1 : Addr) (a2 : Addr) (k1 : ClassId) (k2 : ClassId) (c0 : Int32) (h0 : Heap) (n0 : Nat) (xv : Option Value) (xh : Heap) (xL : List Loc) : Prop := xv = some (.int (1 : Int32)) ∧ Fr n0 xL ∧ Keep h0 xh [a2] ∧ Arv Z xh a2 k2 .byte (1 : Int32) [(.int c0.toInt8.toInt32)] (.int (0 : Int32))
abbrev Lc_comp0_s1_0 (a1 : Addr) (a2 : Addr) : Array Slot := #[.val (.ref a1), .val (.int (0 : Int32)), .val (.ref a2), .val (.int (0 : Int32)), .val (.int (1 : Int32)), .unset, .unset]
abbrev Lc_comp0_s1_1 (a1 : Addr) (a2 : Addr) : Array Slot := #[.val (.ref a1), .val (.int (0 : Int32)), .val (.ref a2), .val (.int (0 : Int32)), .val (.int (1 : Int32)), .val (.int (0 : Int32)), .unset]
abbrev Lc_comp0_s1_2 (a1 : Addr) (a2 : Addr) (c0 : Int32) : Array Slot := #[.val (.ref a1), .val (.int (0 : Int32)), .val (.ref a2), .val (.int (0 : Int32)), .val (.int (1 : Int32)), .val (.int (0 : Int32)), .val (.int c0)]
abbrev Lc_comp0_s1_3 (a1 : Addr) (a2 : Addr) (c0 : Int32) : Array Slot := #[.val (.ref a1), .val (.int (1 : Int32)), .val (.ref a2), .val (.int (0 : Int32)), .val (.int (1 : Int32)), .val (.int (0 : Int32)), .val (.int c0)]
abbrev Lc_comp0_s1_4 (a1 : Addr) (a2 : Addr) (c0 : Int32) : Array Slot := #[.val (.ref a1), .val (.int (1 : Int32)), .val (.ref a2), .val (.int (1 : Int32)), .val (.int (1 : Int32)), .val (.int (0 : Int32)), .val (.int c0)]
abbrev Lc_comp0_s1_5 (a1 : Addr) (a2 : Addr) (c0 : Int32) : Array Slot := #[.val (.ref a1), .val (.int (1 : Int32)), .val (.ref a2), .val (.int (1 : Int32)), .val (.int (1 : Int32)), .val (.int (1 : Int32)), .val (.int c0)]
theorem ef_comp0_s1 (mM : MethodId) (a1 : Addr) (a2 : Addr) (k1 : ClassId) (k2 : ClassId) (c0 : Int32) : entryFrame mM #[(.ref a1), (.int (0 : Int32)), (.ref a2), (.int (0 : Int32)), (.int (1 : Int32))] 7 = mkF mM 0 #[.val (.ref a1), .val (.int (0 : Int32)), .val (.ref a2), .val (.int (0 : Int32)), .val (.int (1 : Int32)), .unset, .unset] [] := by first | (simp [entryFrame, mkF, argsToLocals, Value.category]; done) | rfl
set_option maxRecDepth 65536 in
set_option maxHeartbeats 40000000 in
theorem rm_comp0_s1 (l : Launch) (Z : State) (a0 : Array Value) (hw : ∀ d ∈ tables_1, d.before a0 Z = true) (ws : List Jvm.Cond) (a1 : Addr) (a2 : Addr) (k1 : ClassId) (k2 : ClassId) (c0 : Int32) (h0 : Heap) (n0 : Nat) (Z0 : n0 ≤ h0.size) (V_a1 : Arv Z h0 a1 k1 .char (1 : Int32) [(.int c0)] (.int (0 : Int32))) (V_a2 : Arv Z h0 a2 k2 .byte (1 : Int32) [(.int (0 : Int32))] (.int (0 : Int32))) (ne_a1_a2 : a1 ≠ a2) (g_a2 : @LE.le Nat _ n0 a2) (q0 : ¬ ((255 : Int32) < c0)) :
    MetFree l (⟨"java/lang/StringUTF16", "compress", "([CI[BII)I"⟩ : MethodName) (head1 (Jvm.Cond.code (⟨"java/lang/StringUTF16", "compress", "([CI[BII)I"⟩ : MethodName) jdk_52_method_21_code 7 (some .int) :: ws) ({ frames := 0, cells := 0, slots := 0, locals := 0 } : Room)) (fun xa xU => xa = #[(.ref a1), (.int (0 : Int32)), (.ref a2), (.int (0 : Int32)), (.int (1 : Int32))] ∧ Z.Warmed39 xU.vm ∧ xU.heap = h0) (fun _ _ _ _ _ => True) (fun _ xU xo xU' => ∃ xv xL, xo = .returned xv ∧ Q_comp0_s1 Z a1 a2 k1 k2 c0 h0 n0 xv xU'.heap xL ∧ FrameEnd xU xo xU' xL ({ frames := 0, cells := 0, slots := 0, locals := 0 } : Room).cells ({ frames := 0, cells := 0, slots := 0, locals := 0 } : Room).slots) := by
  refine MetFree.of_bodySF (plainFor_of_name pn_java_lang_StringUTF16) hisR ?_
  intro pP eE sS mM argS belowS methS cC s₁ Bd hml0 hP hK
  obtain ⟨rfl, hZ, hh⟩ := hP
  have hx := Bd.exec
  have hby := Bd.bytes
  have hml : cC.maxLocals = 7 := hml0
  have hown : sS.vm.findClass "java/lang/StringUTF16" = some mM.cls := findClass_of_methodNamed Bd.named
  have hnm := (name_of_methodNamed Bd.named Bd.method).1
  have X0 : Stand pP l eE ({ frames := 0, cells := 0, slots := 0, locals := 0 } : Room) sS mM #[(.ref a1), (.int (0 : Int32)), (.ref a2), (.int (0 : Int32)), (.int (1 : Int32))] belowS methS cC s₁ [] 0 0 := Stand.of_body Bd
  have e0 : s₁.heap = h0 := by rw [← hh, Bd.state]; rfl
  have N0 := Fr.nil n0
  have pre0 : ∀ t', Steps pP.tables eE belowS (s₁.setTop (mkF mM 0 #[.val (.ref a1), .val (.int (0 : Int32)), .val (.ref a2), .val (.int (0 : Int32)), .val (.int (1 : Int32)), .unset, .unset] [])) t' → Steps pP.tables eE belowS (s₁.setTop (entryFrame mM #[(.ref a1), (.int (0 : Int32)), (.ref a2), (.int (0 : Int32)), (.int (1 : Int32))] 7)) t' := fun t' kk' => castTop (ef_comp0_s1 mM a1 a2 k1 k2 c0) kk'
  obtain ⟨cl101, Ar101, q101, S101, Ng101, Ha101, Ga101⟩ := id V_a1
  have hin101 : ¬ ((0 : Int32) < 0 ∨ cl101.slots.size ≤ ((0 : Int32)).toNatClampNeg) := inb_of S101 ⟨by decide, by decide⟩
  have hat101 : cl101.slots[((0 : Int32)).toNatClampNeg]? = some (.int c0) := Ha101.at hin101 (rfl)
  obtain ⟨cl102, Ar102, q102, S102, Ng102, Ha102, Ga102⟩ := id V_a2
  have hin102 : ¬ ((0 : Int32) < 0 ∨ cl102.slots.size ≤ ((0 : Int32)).toNatClampNeg) := inb_of S102 ⟨by decide, by decide⟩
  obtain ⟨T103, h103, X103, e103, W103, st103⟩ := stB X0 hx hZ e0 Ar102 (j := (0 : Int32)) hin102 (g := (mkF mM 31 (Lc_comp0_s1_2 a1 a2 c0) [(.int (c0.toInt8.toInt32)), (.int (0 : Int32)), (.ref a2)])) rfl rfl (hb hby d_jdk_52_method_21_31)
  have Sz1 : h0.size ≤ h103.size := Nat.le_of_eq (Wr.size W103).symm
  have Vs103 := Arv.set Ar102 q102 S102 Ng102 Ha102 Ga102 (fits_nar_byte _) W103 0 rfl (Nat.le_of_ble_eq_true rfl)
  have Vt103 : Arv Z h103 a2 k2 .byte (1 : Int32) [(.int c0.toInt8.toInt32)] (.int (0 : Int32)) := by
    have q : Arv Z h103 a2 k2 .byte (1 : Int32) [(.int (c0.toInt8.toInt32).toInt8.toInt32)] (.int (0 : Int32)) := Vs103
    rw [show ((.int (c0.toInt8.toInt32).toInt8.toInt32) : Value) = (.int c0.toInt8.toInt32) from congrArg Value.int (own_b8 c0)] at q
    exact q
  have N103 := Fr.snoc X103 N0 g_a2
  have K104 : Keep h0 h103 [a2] := (Keep.refl h0 [a2]).wr W103 (Or.inl (List.mem_of_getElem? (i := 0) rfl))
  obtain ⟨fs, hr, hrun, hended, hW, hsame⟩ := X103.leave (v := some (.int (1 : Int32))) (fun h => by rw [Bd.returns] at h; cases h)
  refine ⟨_, _, pre0 _ ?_, hrun, hended, _, _, rfl, ?_, ⟨_, rfl⟩, hW, hsame.mono (by decide) (by decide)⟩
  · show SS pP eE belowS s₁ (mkF mM 0 (Lc_comp0_s1_0 a1 a2) []) _
    refine XS.iconst X0.here hx rfl (hb hby d_jdk_52_method_21_0) ?_
    show SS pP eE belowS s₁ (mkF mM 1 (Lc_comp0_s1_0 a1 a2) [(.int (0 : Int32))]) _
    refine XS.istore X0.here hx rfl (hb hby d_jdk_52_method_21_1) rfl (l' := (Lc_comp0_s1_1 a1 a2)) rfl ?_
    show SS pP eE belowS s₁ (mkF mM 3 (Lc_comp0_s1_1 a1 a2) []) _
    refine XS.iload X0.here hx rfl (hb hby d_jdk_52_method_21_3) rfl ?_
    show SS pP eE belowS s₁ (mkF mM 5 (Lc_comp0_s1_1 a1 a2) [(.int (0 : Int32))]) _
    refine XS.iload X0.here hx rfl (hb hby d_jdk_52_method_21_5) rfl ?_
    show SS pP eE belowS s₁ (mkF mM 7 (Lc_comp0_s1_1 a1 a2) [(.int (1 : Int32)), (.int (0 : Int32))]) _
    refine XS.icmpNo X0.here hx rfl (hb hby d_jdk_52_method_21_7) rfl (tlt (by decide : (0 : Int32) < (1 : Int32))).2.1 ?_
    show SS pP eE belowS s₁ (mkF mM 10 (Lc_comp0_s1_1 a1 a2) []) _
    refine XS.aloadN X0.here hx rfl (hb hby d_jdk_52_method_21_10) rfl rfl ?_
    show SS pP eE belowS s₁ (mkF mM 11 (Lc_comp0_s1_1 a1 a2) [(.ref a1)]) _
    refine XS.iloadN X0.here hx rfl (hb hby d_jdk_52_method_21_11) rfl ?_
    show SS pP eE belowS s₁ (mkF mM 12 (Lc_comp0_s1_1 a1 a2) [(.int (0 : Int32)), (.ref a1)]) _
    refine X0.caload hx (j := (0 : Int32)) (v := (.int c0)) (by rw [e0]; exact Ar101.1) (State.isArrayOf_alike hZ.alike Ar101.2.1) Ar101.2.2 hin101 hat101 (g := (mkF mM 12 (Lc_comp0_s1_1 a1 a2) [(.int (0 : Int32)), (.ref a1)])) rfl rfl (hb hby d_jdk_52_method_21_12) _ ?_
    show SS pP eE belowS s₁ (mkF mM 13 (Lc_comp0_s1_1 a1 a2) [(.int c0)]) _
    refine XS.istore X0.here hx rfl (hb hby d_jdk_52_method_21_13) rfl (l' := (Lc_comp0_s1_2 a1 a2 c0)) rfl ?_
    show SS pP eE belowS s₁ (mkF mM 15 (Lc_comp0_s1_2 a1 a2 c0) []) _
    refine XS.iload X0.here hx rfl (hb hby d_jdk_52_method_21_15) rfl ?_
    show SS pP eE belowS s₁ (mkF mM 17 (Lc_comp0_s1_2 a1 a2 c0) [(.int c0)]) _
    refine XS.sipush X0.here hx rfl (hb hby d_jdk_52_method_21_17) ?_
    show SS pP eE belowS s₁ (mkF mM 20 (Lc_comp0_s1_2 a1 a2 c0) [(.int (255 : Int32)), (.int c0)]) _
    refine XS.icmpYes X0.here hx rfl (pc0 := 20) (pc' := 26) rfl (hb hby d_jdk_52_method_21_20) rfl (flt q0).2.2.2 (by decide) (by decide) ?_
    show SS pP eE belowS s₁ (mkF mM 26 (Lc_comp0_s1_2 a1 a2 c0) []) _
    refine XS.aloadN X0.here hx rfl (hb hby d_jdk_52_method_21_26) rfl rfl ?_
    show SS pP eE belowS s₁ (mkF mM 27 (Lc_comp0_s1_2 a1 a2 c0) [(.ref a2)]) _
    refine XS.iloadN X0.here hx rfl (hb hby d_jdk_52_method_21_27) rfl ?_
    show SS pP eE belowS s₁ (mkF mM 28 (Lc_comp0_s1_2 a1 a2 c0) [(.int (0 : Int32)), (.ref a2)]) _
    refine XS.iload X0.here hx rfl (hb hby d_jdk_52_method_21_28) rfl ?_
    show SS pP eE belowS s₁ (mkF mM 30 (Lc_comp0_s1_2 a1 a2 c0) [(.int c0), (.int (0 : Int32)), (.ref a2)]) _
    refine XS.i2b X0.here hx rfl (hb hby d_jdk_52_method_21_30) rfl ?_
    show SS pP eE belowS s₁ (mkF mM 31 (Lc_comp0_s1_2 a1 a2 c0) [(.int (c0.toInt8.toInt32)), (.int (0 : Int32)), (.ref a2)]) _
    refine st103 _ ?_
    show SS pP eE belowS T103 (mkF mM 32 (Lc_comp0_s1_2 a1 a2 c0) []) _
    refine XS.iinc X103.here hx rfl (hb hby d_jdk_52_method_21_32) rfl (l' := (Lc_comp0_s1_3 a1 a2 c0)) rfl ?_
    show SS pP eE belowS T103 (mkF mM 35 (Lc_comp0_s1_3 a1 a2 c0) []) _
    refine XS.iinc X103.here hx rfl (hb hby d_jdk_52_method_21_35) rfl (l' := (Lc_comp0_s1_4 a1 a2 c0)) rfl ?_
    show SS pP eE belowS T103 (mkF mM 38 (Lc_comp0_s1_4 a1 a2 c0) []) _
    refine XS.iinc X103.here hx rfl (hb hby d_jdk_52_method_21_38) rfl (l' := (Lc_comp0_s1_5 a1 a2 c0)) rfl ?_
    show SS pP eE belowS T103 (mkF mM 41 (Lc_comp0_s1_5 a1 a2 c0) []) _
    refine XS.goto X103.here hx rfl (pc0 := 41) (pc' := 3) rfl (hb hby d_jdk_52_method_21_41) (by decide) (by decide) ?_
    show SS pP eE belowS T103 (mkF mM 3 (Lc_comp0_s1_5 a1 a2 c0) []) _
    refine XS.iload X103.here hx rfl (hb hby d_jdk_52_method_21_3) rfl ?_
    show SS pP eE belowS T103 (mkF mM 5 (Lc_comp0_s1_5 a1 a2 c0) [(.int (1 : Int32))]) _
    refine XS.iload X103.here hx rfl (hb hby d_jdk_52_method_21_5) rfl ?_
    show SS pP eE belowS T103 (mkF mM 7 (Lc_comp0_s1_5 a1 a2 c0) [(.int (1 : Int32)), (.int (1 : Int32))]) _
    refine XS.icmpYes X103.here hx rfl (pc0 := 7) (pc' := 44) rfl (hb hby d_jdk_52_method_21_7) rfl (flt (by decide : ¬ ((1 : Int32) < (1 : Int32)))).2.1 (by decide) (by decide) ?_
    show SS pP eE belowS T103 (mkF mM 44 (Lc_comp0_s1_5 a1 a2 c0) []) _
    refine XS.iload X103.here hx rfl (hb hby d_jdk_52_method_21_44) rfl ?_
    show SS pP eE belowS T103 (mkF mM 46 (Lc_comp0_s1_5 a1 a2 c0) [(.int (1 : Int32))]) _
    exact retI X103 hx Bd.returns (hb hby d_jdk_52_method_21_46) hr
  · show Q_comp0_s1 Z a1 a2 k1 k2 c0 h0 n0 _ T103.heap _
    rw [e103]
    exact ⟨rfl, N103, K104, Vt103⟩

def Q_comp1_s1 (Z : State) (a1 : Addr) (k1 : ClassId) (c0 : Int32) (h0 : Heap) (n0 : Nat) (xv : Option Value) (xh : Heap) (xL : List Loc) : Prop := ∃ b : Addr, ∃ k2 : ClassId, xv = some (.ref b) ∧ Fr n0 xL ∧ Keep h0 xh [] ∧ Arv Z xh b k2 .byte (1 : Int32) [(.int c0.toInt8.toInt32)] (.int (0 : Int32)) ∧ @LE.le Nat _ h0.size b
abbrev Lc_comp1_s1_0 (a1 : Addr) : Array Slot := #[.val (.ref a1), .val (.int (0 : Int32)), .val (.int (1 : Int32)), .unset, .unset, .unset]
abbrev Lc_comp1_s1_1 (a1 : Addr) (b101 : Addr) : Array Slot := #[.val (.ref a1), .val (.int (0 : Int32)), .val (.int (1 : Int32)), .val (.ref b101), .unset, .unset]
abbrev Lc_comp1_s1_2 (a1 : Addr) (b101 : Addr) : Array Slot := #[.val (.ref a1), .val (.int (0 : Int32)), .val (.int (1 : Int32)), .val (.ref b101), .val (.int (1 : Int32)), .unset]
theorem ef_comp1_s1 (mM : MethodId) (a1 : Addr) (k1 : ClassId) (c0 : Int32) : entryFrame mM #[(.ref a1), (.int (0 : Int32)), (.int (1 : Int32))] 6 = mkF mM 0 #[.val (.ref a1), .val (.int (0 : Int32)), .val (.int (1 : Int32)), .unset, .unset, .unset] [] := by first | (simp [entryFrame, mkF, argsToLocals, Value.category]; done) | rfl
set_option maxRecDepth 65536 in
set_option maxHeartbeats 40000000 in
theorem rm_comp1_s1 (l : Launch) (Z : State) (a0 : Array Value) (hw : ∀ d ∈ tables_1, d.before a0 Z = true) (ws : List Jvm.Cond) (a1 : Addr) (k1 : ClassId) (c0 : Int32) (h0 : Heap) (n0 : Nat) (Z0 : n0 ≤ h0.size) (V_a1 : Arv Z h0 a1 k1 .char (1 : Int32) [(.int c0)] (.int (0 : Int32))) (q0 : ¬ ((255 : Int32) < c0)) :
    MetFree l (⟨"java/lang/StringUTF16", "compress", "([CII)[B"⟩ : MethodName) (head1 (Jvm.Cond.code (⟨"java/lang/StringUTF16", "compress", "([CII)[B"⟩ : MethodName) jdk_52_method_16_code 6 (some (.array .byte)) :: ws) ({ frames := 1, cells := 1, slots := 1, locals := 18 } : Room)) (fun xa xU => xa = #[(.ref a1), (.int (0 : Int32)), (.int (1 : Int32))] ∧ Z.Warmed39 xU.vm ∧ xU.heap = h0) (fun _ _ _ _ _ => True) (fun _ xU xo xU' => ∃ xv xL, xo = .returned xv ∧ Q_comp1_s1 Z a1 k1 c0 h0 n0 xv xU'.heap xL ∧ FrameEnd xU xo xU' xL ({ frames := 1, cells := 1, slots := 1, locals := 18 } : Room).cells ({ frames := 1, cells := 1, slots := 1, locals := 18 } : Room).slots) := by
  refine MetFree.of_bodySF (plainFor_of_name pn_java_lang_StringUTF16) hisR ?_
  intro pP eE sS mM argS belowS methS cC s₁ Bd hml0 hP hK
  obtain ⟨rfl, hZ, hh⟩ := hP
  have hx := Bd.exec
  have hby := Bd.bytes
  have hml : cC.maxLocals = 6 := hml0
  have hown : sS.vm.findClass "java/lang/StringUTF16" = some mM.cls := findClass_of_methodNamed Bd.named
  have hnm := (name_of_methodNamed Bd.named Bd.method).1
  have X0 : Stand pP l eE ({ frames := 1, cells := 1, slots := 1, locals := 18 } : Room) sS mM #[(.ref a1), (.int (0 : Int32)), (.int (1 : Int32))] belowS methS cC s₁ [] 0 0 := Stand.of_body Bd
  have e0 : s₁.heap = h0 := by rw [← hh, Bd.state]; rfl
  have N0 := Fr.nil n0
  have pre0 : ∀ t', Steps pP.tables eE belowS (s₁.setTop (mkF mM 0 #[.val (.ref a1), .val (.int (0 : Int32)), .val (.int (1 : Int32)), .unset, .unset, .unset] [])) t' → Steps pP.tables eE belowS (s₁.setTop (entryFrame mM #[(.ref a1), (.int (0 : Int32)), (.int (1 : Int32))] 6)) t' := fun t' kk' => castTop (ef_comp1_s1 mM a1 k1 c0) kk'
  obtain ⟨T101, h101, k101, X101, e101, E101, A101, st101⟩ := newP X0 hx hZ (wi hw 22 rfl) e0 (g := (mkF mM 1 (Lc_comp1_s1_0 a1) [(.int (1 : Int32))])) rfl (hb hby d_jdk_52_method_16_1) rfl (by decide) (cap := 1) (by decide) (by decide) (by decide) (by decide)
  obtain ⟨b101, g101⟩ : ∃ z : Nat, z = h0.size := ⟨_, rfl⟩
  rw [← g101] at A101 st101
  have Sz1 : h0.size ≤ h101.size := E101.1
  have V_b101 : Arv Z h101 b101 k101 .byte (1 : Int32) [(.int (0 : Int32))] (.int (0 : Int32)) := (Arv.new A101 (by decide)).pad (pad_rep [] (.int (0 : Int32)) 1)
  have c103_V_a1 : Arv Z h101 a1 k1 .char (1 : Int32) [(.int c0)] (.int (0 : Int32)) := V_a1.ext E101
  have lt_a1 : @LT.lt Nat _ a1 h0.size := V_a1.lt
  have lt_b101 : @LT.lt Nat _ b101 h101.size := V_b101.lt
  have ne_a1_b101_104 : a1 ≠ b101 := (by omega : @Ne Nat a1 b101)
  have ge105_b101 : @LE.le Nat _ n0 b101 := by omega
  obtain ⟨_, _, ⟨T102, L102, k102, n102⟩, -, X102, ⟨Lc102, hQ102, l102, y102, z102⟩, st102⟩ := Jvm.LawKit.callS X101 hx (y := (⟨"java/lang/StringUTF16", "compress", "([CI[BII)I"⟩ : MethodName)) hown (mvT hZ (wi hw 23 rfl)) (mvT hZ (wi hw 24 rfl)) (mvT hZ (wi hw 20 rfl)) (mvT hZ (wi hw 25 rfl)) (by decide) (backOf (W := 0) (rm_comp0_s1 l Z a0 hw [] a1 b101 k1 k101 c0 h101 n0 (by omega) c103_V_a1 V_b101 ne_a1_b101_104 ge105_b101 q0) hZ (wi hw 25 rfl) (wi hw 20 rfl) (by decide) (by decide)) (g := (mkF mM 9 (Lc_comp1_s1_1 a1 b101) [(.int (1 : Int32)), (.int (0 : Int32)), (.ref b101), (.int (0 : Int32)), (.ref a1)])) rfl (by rw [hml]; rfl) (argsL := [(.ref a1), (.int (0 : Int32)), (.ref b101), (.int (0 : Int32)), (.int (1 : Int32))]) (rest := []) (lenOf pd_4 rfl) rfl (by show 2 * 0 + _ ≤ _; exact Nat.le_of_eq rfl) (hb hby d_jdk_52_method_16_9) (fun _ _ => ⟨rfl, e101, Nat.le_of_ble_eq_true rfl, Nat.le_of_ble_eq_true rfl⟩)
  dsimp only [Pt.U, Pt.locs, Pt.cells, Pt.slots] at X102 l102 y102 z102 st102 hQ102
  subst l102 y102 z102
  obtain ⟨h102, e102⟩ : ∃ z, T102.heap = z := ⟨_, rfl⟩
  rw [e102] at hQ102
  obtain ⟨rfl, N102q, Kp102, p102_V_a2⟩ := hQ102
  have Sz2 : h101.size ≤ h102.size := Kp102.1
  have N102 := Fr.app N0 N102q
  have K106 : Keep h0 h101 [] := (Keep.refl h0 []).ext E101
  have K107 : Keep h0 h102 [] := K106.trans Kp102 (allS (Or.inr (by omega : @LE.le Nat _ h0.size b101)) all0)
  obtain ⟨fs, hr, hrun, hended, hW, hsame⟩ := X102.leave (v := some (.ref b101)) (fun h => by rw [Bd.returns] at h; cases h)
  refine ⟨_, _, pre0 _ ?_, hrun, hended, _, _, rfl, ?_, ⟨_, rfl⟩, hW, hsame.mono (by decide) (by decide)⟩
  · show SS pP eE belowS s₁ (mkF mM 0 (Lc_comp1_s1_0 a1) []) _
    refine XS.iloadN X0.here hx rfl (hb hby d_jdk_52_method_16_0) rfl ?_
    show SS pP eE belowS s₁ (mkF mM 1 (Lc_comp1_s1_0 a1) [(.int (1 : Int32))]) _
    refine st101 _ ?_
    show SS pP eE belowS T101 (mkF mM 3 (Lc_comp1_s1_0 a1) [(.ref b101)]) _
    refine XS.astoreN X101.here hx rfl (hb hby d_jdk_52_method_16_3) rfl rfl (l' := (Lc_comp1_s1_1 a1 b101)) rfl ?_
    show SS pP eE belowS T101 (mkF mM 4 (Lc_comp1_s1_1 a1 b101) []) _
    refine XS.aloadN X101.here hx rfl (hb hby d_jdk_52_method_16_4) rfl rfl ?_
    show SS pP eE belowS T101 (mkF mM 5 (Lc_comp1_s1_1 a1 b101) [(.ref a1)]) _
    refine XS.iloadN X101.here hx rfl (hb hby d_jdk_52_method_16_5) rfl ?_
    show SS pP eE belowS T101 (mkF mM 6 (Lc_comp1_s1_1 a1 b101) [(.int (0 : Int32)), (.ref a1)]) _
    refine XS.aloadN X101.here hx rfl (hb hby d_jdk_52_method_16_6) rfl rfl ?_
    show SS pP eE belowS T101 (mkF mM 7 (Lc_comp1_s1_1 a1 b101) [(.ref b101), (.int (0 : Int32)), (.ref a1)]) _
    refine XS.iconst X101.here hx rfl (hb hby d_jdk_52_method_16_7) ?_
    show SS pP eE belowS T101 (mkF mM 8 (Lc_comp1_s1_1 a1 b101) [(.int (0 : Int32)), (.ref b101), (.int (0 : Int32)), (.ref a1)]) _
    refine XS.iloadN X101.here hx rfl (hb hby d_jdk_52_method_16_8) rfl ?_
    show SS pP eE belowS T101 (mkF mM 9 (Lc_comp1_s1_1 a1 b101) [(.int (1 : Int32)), (.int (0 : Int32)), (.ref b101), (.int (0 : Int32)), (.ref a1)]) _
    refine st102 _ ?_
    show SS pP eE belowS T102 (mkF mM 12 (Lc_comp1_s1_1 a1 b101) [(.int (1 : Int32))]) _
    refine XS.istore X102.here hx rfl (hb hby d_jdk_52_method_16_12) rfl (l' := (Lc_comp1_s1_2 a1 b101)) rfl ?_
    show SS pP eE belowS T102 (mkF mM 14 (Lc_comp1_s1_2 a1 b101) []) _
    refine XS.iload X102.here hx rfl (hb hby d_jdk_52_method_16_14) rfl ?_
    show SS pP eE belowS T102 (mkF mM 16 (Lc_comp1_s1_2 a1 b101) [(.int (1 : Int32))]) _
    refine XS.iloadN X102.here hx rfl (hb hby d_jdk_52_method_16_16) rfl ?_
    show SS pP eE belowS T102 (mkF mM 17 (Lc_comp1_s1_2 a1 b101) [(.int (1 : Int32)), (.int (1 : Int32))]) _
    refine XS.icmpYes X102.here hx rfl (pc0 := 17) (pc' := 57) rfl (hb hby d_jdk_52_method_16_17) rfl (teq (by decide : (1 : Int32) = (1 : Int32))).1 (by decide) (by decide) ?_
    show SS pP eE belowS T102 (mkF mM 57 (Lc_comp1_s1_2 a1 b101) []) _
    refine XS.aloadN X102.here hx rfl (hb hby d_jdk_52_method_16_57) rfl rfl ?_
    show SS pP eE belowS T102 (mkF mM 58 (Lc_comp1_s1_2 a1 b101) [(.ref b101)]) _
    jvm_step X102.here [X102.here.top, hx, (hb hby d_jdk_52_method_16_58), X102.method', Bd.returns, Value.isRef, FieldType.isReference]
    first | (intro acts; rw [hr _ acts rfl rfl rfl]) | rw [hr _ _ rfl rfl rfl]
    exact Steps.refl _
  · show Q_comp1_s1 Z a1 k1 c0 h0 n0 _ T102.heap _
    rw [e102]
    exact ⟨b101, k101, rfl, N102, K107, p102_V_a2, (by omega)⟩

def Q_coder_s1 (Z : State) (a1 : Addr) (k1 : ClassId) (vs : List Value) (h0 : Heap) (n0 : Nat) (xv : Option Value) (xh : Heap) (xL : List Loc) : Prop := xv = some (.int (0 : Int32)) ∧ Fr n0 xL ∧ xh = h0
theorem ef_coder_s1 (mM : MethodId) (a1 : Addr) (k1 : ClassId) (vs : List Value) : entryFrame mM #[(.ref a1), (.int (1 : Int32))] 2 = mkF mM 0 #[.val (.ref a1), .val (.int (1 : Int32))] [] := by first | (simp [entryFrame, mkF, argsToLocals, Value.category]; done) | rfl
set_option maxRecDepth 65536 in
set_option maxHeartbeats 40000000 in
theorem rm_coder_s1 (l : Launch) (Z : State) (a0 : Array Value) (hw : ∀ d ∈ tables_1, d.before a0 Z = true) (ws : List Jvm.Cond) (a1 : Addr) (k1 : ClassId) (vs : List Value) (h0 : Heap) (n0 : Nat) (Z0 : n0 ≤ h0.size) (V_a1 : Arv Z h0 a1 k1 .byte (1 : Int32) vs (.int (0 : Int32))) :
    MetFree l (⟨"java/lang/StringUTF16", "coderFromArrayLen", "([BI)B"⟩ : MethodName) (head1 (Jvm.Cond.code (⟨"java/lang/StringUTF16", "coderFromArrayLen", "([BI)B"⟩ : MethodName) jdk_52_method_15_code 2 (some .byte) :: ws) ({ frames := 0, cells := 0, slots := 0, locals := 0 } : Room)) (fun xa xU => xa = #[(.ref a1), (.int (1 : Int32))] ∧ Z.Warmed39 xU.vm ∧ xU.heap = h0) (fun _ _ _ _ _ => True) (fun _ xU xo xU' => ∃ xv xL, xo = .returned xv ∧ Q_coder_s1 Z a1 k1 vs h0 n0 xv xU'.heap xL ∧ FrameEnd xU xo xU' xL ({ frames := 0, cells := 0, slots := 0, locals := 0 } : Room).cells ({ frames := 0, cells := 0, slots := 0, locals := 0 } : Room).slots) := by
  refine MetFree.of_bodySF (plainFor_of_name pn_java_lang_StringUTF16) hisR ?_
  intro pP eE sS mM argS belowS methS cC s₁ Bd hml0 hP hK
  obtain ⟨rfl, hZ, hh⟩ := hP
  have hx := Bd.exec
  have hby := Bd.bytes
  have hml : cC.maxLocals = 2 := hml0
  have hown : sS.vm.findClass "java/lang/StringUTF16" = some mM.cls := findClass_of_methodNamed Bd.named
  have hnm := (name_of_methodNamed Bd.named Bd.method).1
  have X0 : Stand pP l eE ({ frames := 0, cells := 0, slots := 0, locals := 0 } : Room) sS mM #[(.ref a1), (.int (1 : Int32))] belowS methS cC s₁ [] 0 0 := Stand.of_body Bd
  have e0 : s₁.heap = h0 := by rw [← hh, Bd.state]; rfl
  have N0 := Fr.nil n0
  have pre0 : ∀ t', Steps pP.tables eE belowS (s₁.setTop (mkF mM 0 #[.val (.ref a1), .val (.int (1 : Int32))] [])) t' → Steps pP.tables eE belowS (s₁.setTop (entryFrame mM #[(.ref a1), (.int (1 : Int32))] 2)) t' := fun t' kk' => castTop (ef_coder_s1 mM a1 k1 vs) kk'
  obtain ⟨cl101, Ar101, q101, S101, Ng101, Ha101, Ga101⟩ := id V_a1
  obtain ⟨fs, hr, hrun, hended, hW, hsame⟩ := X0.leave (v := some (.int (0 : Int32))) (fun h => by rw [Bd.returns] at h; cases h)
  refine ⟨_, _, pre0 _ ?_, hrun, hended, _, _, rfl, ?_, ⟨_, rfl⟩, hW, hsame.mono (by decide) (by decide)⟩
  · show SS pP eE belowS s₁ (mkF mM 0 #[.val (.ref a1), .val (.int (1 : Int32))] []) _
    refine XS.iloadN X0.here hx rfl (hb hby d_jdk_52_method_15_0) rfl ?_
    show SS pP eE belowS s₁ (mkF mM 1 #[.val (.ref a1), .val (.int (1 : Int32))] [(.int (1 : Int32))]) _
    refine XS.aloadN X0.here hx rfl (hb hby d_jdk_52_method_15_1) rfl rfl ?_
    show SS pP eE belowS s₁ (mkF mM 2 #[.val (.ref a1), .val (.int (1 : Int32))] [(.ref a1), (.int (1 : Int32))]) _
    refine X0.arraylength hx (by rw [e0]; exact Ar101.1) (State.isArrayOf_alike hZ.alike Ar101.2.1) (g := (mkF mM 2 #[.val (.ref a1), .val (.int (1 : Int32))] [(.ref a1), (.int (1 : Int32))])) rfl rfl (hb hby d_jdk_52_method_15_2) _ ?_
    rw [len_of S101 Ng101]
    show SS pP eE belowS s₁ (mkF mM 3 #[.val (.ref a1), .val (.int (1 : Int32))] [(.int (1 : Int32)), (.int (1 : Int32))]) _
    refine XS.isub X0.here hx rfl (hb hby d_jdk_52_method_15_3) rfl ?_
    show SS pP eE belowS s₁ (mkF mM 4 #[.val (.ref a1), .val (.int (1 : Int32))] [(.int (0 : Int32))]) _
    refine XS.bipush X0.here hx rfl (hb hby d_jdk_52_method_15_4) ?_
    show SS pP eE belowS s₁ (mkF mM 6 #[.val (.ref a1), .val (.int (1 : Int32))] [(.int (31 : Int32)), (.int (0 : Int32))]) _
    refine XS.iushr X0.here hx rfl (hb hby d_jdk_52_method_15_6) rfl ?_
    show SS pP eE belowS s₁ (mkF mM 7 #[.val (.ref a1), .val (.int (1 : Int32))] [(.int (0 : Int32))]) _
    refine XS.i2b X0.here hx rfl (hb hby d_jdk_52_method_15_7) rfl ?_
    show SS pP eE belowS s₁ (mkF mM 8 #[.val (.ref a1), .val (.int (1 : Int32))] [(.int (0 : Int32))]) _
    exact retN X0 hx (t := .byte) Bd.returns (by simp) (hb hby d_jdk_52_method_15_8) hr
  · show Q_coder_s1 Z a1 k1 vs h0 n0 _ s₁.heap _
    rw [e0]
    exact ⟨rfl, N0, rfl⟩

def Q_init4_s1 (Z : State) (o : Addr) (a1 : Addr) (k1 : ClassId) (u1 : Value) (u2 : Value) (cs : Int32) (c0 : Int32) (h0 : Heap) (n0 : Nat) (xv : Option Value) (xh : Heap) (xL : List Loc) : Prop := ∃ b : Addr, ∃ k2 : ClassId, xv = none ∧ Fr n0 xL ∧ Keep h0 xh [o] ∧ Exa Z xh o "java/lang/String" ∧ Fld Z xh o "java/lang/String" "value" "[B" (.ref b) ∧ Fld Z xh o "java/lang/String" "coder" "B" (.int (0 : Int32)) ∧ Arv Z xh b k2 .byte (1 : Int32) [(.int c0.toInt8.toInt32)] (.int (0 : Int32)) ∧ @LE.le Nat _ h0.size b
abbrev Lc_init4_s1_0 (o : Addr) (a1 : Addr) : Array Slot := #[.val (.ref o), .val (.ref a1), .val (.int (0 : Int32)), .val (.int (1 : Int32)), .val .null, .unset]
abbrev Lc_init4_s1_1 (o : Addr) (a1 : Addr) (b_104 : Addr) : Array Slot := #[.val (.ref o), .val (.ref a1), .val (.int (0 : Int32)), .val (.int (1 : Int32)), .val .null, .val (.ref b_104)]
theorem ef_init4_s1 (mM : MethodId) (o : Addr) (a1 : Addr) (k1 : ClassId) (u1 : Value) (u2 : Value) (cs : Int32) (c0 : Int32) : entryFrame mM #[(.ref o), (.ref a1), (.int (0 : Int32)), (.int (1 : Int32)), .null] 6 = mkF mM 0 #[.val (.ref o), .val (.ref a1), .val (.int (0 : Int32)), .val (.int (1 : Int32)), .val .null, .unset] [] := by first | (simp [entryFrame, mkF, argsToLocals, Value.category]; done) | rfl
set_option maxRecDepth 65536 in
set_option maxHeartbeats 40000000 in
theorem rm_init4_s1 (l : Launch) (Z : State) (a0 : Array Value) (hw : ∀ d ∈ tables_1, d.before a0 Z = true) (ws : List Jvm.Cond) (o : Addr) (a1 : Addr) (k1 : ClassId) (u1 : Value) (u2 : Value) (cs : Int32) (c0 : Int32) (h0 : Heap) (n0 : Nat) (Z0 : n0 ≤ h0.size) (E_o : Exa Z h0 o "java/lang/String") (F_value_o : Fld Z h0 o "java/lang/String" "value" "[B" u1) (F_coder_o : Fld Z h0 o "java/lang/String" "coder" "B" u2) (V_a1 : Arv Z h0 a1 k1 .char (1 : Int32) [(.int c0)] (.int (0 : Int32))) (g_o : @LE.le Nat _ n0 o) (OL : Old Z n0 h0) (S_COMPACT_STRINGS : Sta Z Z.heap "java/lang/String" "COMPACT_STRINGS" "Z" (.int cs)) (hcs : ¬ (cs = (0 : Int32))) (q0 : ¬ ((255 : Int32) < c0)) :
    MetFree l (⟨"java/lang/String", "<init>", "([CIILjava/lang/Void;)V"⟩ : MethodName) (head1 (Jvm.Cond.code (⟨"java/lang/String", "<init>", "([CIILjava/lang/Void;)V"⟩ : MethodName) jdk_42_method_149_code 6 none :: ws) ({ frames := 2, cells := 1, slots := 1, locals := 35 } : Room)) (fun xa xU => xa = #[(.ref o), (.ref a1), (.int (0 : Int32)), (.int (1 : Int32)), .null] ∧ Z.Warmed39 xU.vm ∧ xU.heap = h0) (fun _ _ _ _ _ => True) (fun _ xU xo xU' => ∃ xv xL, xo = .returned xv ∧ Q_init4_s1 Z o a1 k1 u1 u2 cs c0 h0 n0 xv xU'.heap xL ∧ FrameEnd xU xo xU' xL ({ frames := 2, cells := 1, slots := 1, locals := 35 } : Room).cells ({ frames := 2, cells := 1, slots := 1, locals := 35 } : Room).slots) := by
  refine MetFree.of_bodySF (plainFor_of_name pn_java_lang_String) hisR ?_
  intro pP eE sS mM argS belowS methS cC s₁ Bd hml0 hP hK
  obtain ⟨rfl, hZ, hh⟩ := hP
  have hx := Bd.exec
  have hby := Bd.bytes
  have hml : cC.maxLocals = 6 := hml0
  have hown : sS.vm.findClass "java/lang/String" = some mM.cls := findClass_of_methodNamed Bd.named
  have hnm := (name_of_methodNamed Bd.named Bd.method).1
  have X0 : Stand pP l eE ({ frames := 2, cells := 1, slots := 1, locals := 35 } : Room) sS mM #[(.ref o), (.ref a1), (.int (0 : Int32)), (.int (1 : Int32)), .null] belowS methS cC s₁ [] 0 0 := Stand.of_body Bd
  have e0 : s₁.heap = h0 := by rw [← hh, Bd.state]; rfl
  have N0 := Fr.nil n0
  have pre0 : ∀ t', Steps pP.tables eE belowS (s₁.setTop (mkF mM 0 #[.val (.ref o), .val (.ref a1), .val (.int (0 : Int32)), .val (.int (1 : Int32)), .val .null, .unset] [])) t' → Steps pP.tables eE belowS (s₁.setTop (entryFrame mM #[(.ref o), (.ref a1), (.int (0 : Int32)), (.int (1 : Int32)), .null] 6)) t' := fun t' kk' => castTop (ef_init4_s1 mM o a1 k1 u1 u2 cs c0) kk'
  obtain ⟨T101, X101, e101, st101⟩ := initO X0 hx hZ hown (wi hw 14 rfl) (wi hw 15 rfl) (wi hw 16 rfl) e0 (g := (mkF mM 1 (Lc_init4_s1_0 o a1) [(.ref o)])) rfl (by rw [hml]; rfl) rfl (hb hby d_jdk_42_method_149_1) (by decide) (W := 0) (by show 2 * 0 + _ ≤ _; exact Nat.le_of_eq rfl) (by decide)
  have c102_S_COMPACT_STRINGS : Sta Z h0 "java/lang/String" "COMPACT_STRINGS" "Z" (.int cs) := Sta.ext OL.2 S_COMPACT_STRINGS
  obtain ⟨T103, X103, e103, st103⟩ := getS2 X101 hx hZ hown (host := "") (Or.inl (wi hw 17 rfl)) Via.refl e101 c102_S_COMPACT_STRINGS (g := (mkF mM 27 (Lc_init4_s1_0 o a1) [])) rfl (hb hby d_jdk_42_method_149_27)
  obtain ⟨_, _, ⟨T104, L104, k104, n104⟩, -, X104, ⟨Lc104, hQ104, l104, y104, z104⟩, st104⟩ := Jvm.LawKit.callS X103 hx (y := (⟨"java/lang/StringUTF16", "compress", "([CII)[B"⟩ : MethodName)) hown (mvT hZ (wi hw 18 rfl)) (mvT hZ (wi hw 19 rfl)) (mvT hZ (wi hw 20 rfl)) (mvT hZ (wi hw 21 rfl)) (by decide) (backOf (W := 0) (rm_comp1_s1 l Z a0 hw [] a1 k1 c0 h0 n0 (by omega) V_a1 q0) hZ (wi hw 21 rfl) (wi hw 20 rfl) (by decide) (by decide)) (g := (mkF mM 36 (Lc_init4_s1_0 o a1) [(.int (1 : Int32)), (.int (0 : Int32)), (.ref a1)])) rfl (by rw [hml]; rfl) (argsL := [(.ref a1), (.int (0 : Int32)), (.int (1 : Int32))]) (rest := []) (lenOf pd_3 rfl) rfl (by show 2 * 0 + _ ≤ _; exact Nat.le_of_eq rfl) (hb hby d_jdk_42_method_149_36) (fun _ _ => ⟨rfl, e103, Nat.le_of_ble_eq_true rfl, Nat.le_of_ble_eq_true rfl⟩)
  dsimp only [Pt.U, Pt.locs, Pt.cells, Pt.slots] at X104 l104 y104 z104 st104 hQ104
  subst l104 y104 z104
  obtain ⟨h104, e104⟩ : ∃ z, T104.heap = z := ⟨_, rfl⟩
  rw [e104] at hQ104
  obtain ⟨b_104, k2_104, rfl, N104q, Kp104, p104_V_b, p104_gh_b⟩ := hQ104
  have Sz1 : h0.size ≤ h104.size := Kp104.1
  have N104 := Fr.app N0 N104q
  obtain ⟨_, _, ⟨T105, L105, k105, n105⟩, -, X105, ⟨Lc105, hQ105, l105, y105, z105⟩, st105⟩ := Jvm.LawKit.callS X104 hx (y := (⟨"java/lang/StringUTF16", "coderFromArrayLen", "([BI)B"⟩ : MethodName)) hown (mvT hZ (wi hw 26 rfl)) (mvT hZ (wi hw 27 rfl)) (mvT hZ (wi hw 20 rfl)) (mvT hZ (wi hw 28 rfl)) (by decide) (backOf (W := 1) (rm_coder_s1 l Z a0 hw [] b_104 k2_104 [(.int c0.toInt8.toInt32)] h104 n0 (by omega) p104_V_b) hZ (wi hw 28 rfl) (wi hw 20 rfl) (by decide) (by decide)) (g := (mkF mM 45 (Lc_init4_s1_1 o a1 b_104) [(.int (1 : Int32)), (.ref b_104), (.ref o)])) rfl (by rw [hml]; rfl) (argsL := [(.ref b_104), (.int (1 : Int32))]) (rest := [(.ref o)]) (lenOf pd_5 rfl) rfl (by show 2 * 0 + _ ≤ _; exact Nat.le_of_eq rfl) (hb hby d_jdk_42_method_149_45) (fun _ _ => ⟨rfl, e104, Nat.le_of_ble_eq_true rfl, Nat.le_of_ble_eq_true rfl⟩)
  dsimp only [Pt.U, Pt.locs, Pt.cells, Pt.slots] at X105 l105 y105 z105 st105 hQ105
  subst l105 y105 z105
  obtain ⟨h105, e105⟩ : ∃ z, T105.heap = z := ⟨_, rfl⟩
  rw [e105] at hQ105
  obtain ⟨rfl, N105q, eq105⟩ := hQ105
  rw [eq105] at e105
  have N105 := Fr.app N104 N105q
  have c106_F_coder_o : Fld Z h104 o "java/lang/String" "coder" "B" u2 := F_coder_o.keep Kp104 nin0
  have c107_E_o : Exa Z h104 o "java/lang/String" := E_o.keep Kp104
  obtain ⟨T108, h108, X108, e108, W108, st108⟩ := putFN X105 hx hZ hown (wi hw 29 rfl) Via.refl e105 c106_F_coder_o c107_E_o (Or.inr ⟨(wi hw 30 rfl), rfl, hnm⟩) (wi hw 5 rfl) (ty := .byte) (v' := (.int (0 : Int32))) (by decide) rfl (rfl) (g := (mkF mM 48 (Lc_init4_s1_1 o a1 b_104) [(.int (0 : Int32)), (.ref o)])) rfl rfl (hb hby d_jdk_42_method_149_48)
  have Sz2 : h104.size ≤ h108.size := Nat.le_of_eq (Wr.size W108).symm
  have Fw108 : Fld Z h108 o "java/lang/String" "coder" "B" (.int (0 : Int32)) := Fld.same W108 c106_F_coder_o
  have N108 := Fr.snoc X108 N105 g_o
  have c109_F_value_o : Fld Z h104 o "java/lang/String" "value" "[B" u1 := F_value_o.keep Kp104 nin0
  have c110_F_value_o : Fld Z h108 o "java/lang/String" "value" "[B" u1 := Fld.other W108 c109_F_value_o (Or.inr (slot_ne (Or.inr (wi hw 32 rfl)) (Or.inr (wi hw 30 rfl)) (by decide) (t := (.array .byte)) (t' := .byte) (by decide) (by decide)))
  have c111_E_o : Exa Z h108 o "java/lang/String" := Exa.wr W108 c107_E_o
  obtain ⟨T112, h112, X112, e112, W112, st112⟩ := putF X108 hx hZ hown (host := "") (Or.inl (wi hw 31 rfl)) Via.refl e108 c110_F_value_o c111_E_o (Or.inr ⟨(wi hw 32 rfl), rfl, hnm⟩) (wi hw 5 rfl) (ty := (.array .byte)) (by decide) rfl rfl (g := (mkF mM 54 (Lc_init4_s1_1 o a1 b_104) [(.ref b_104), (.ref o)])) rfl rfl (hb hby d_jdk_42_method_149_54)
  have Sz3 : h108.size ≤ h112.size := Nat.le_of_eq (Wr.size W112).symm
  have Fw112 : Fld Z h112 o "java/lang/String" "value" "[B" (.ref b_104) := Fld.same W112 c110_F_value_o
  have N112 := Fr.snoc X112 N108 g_o
  have lt_b_104 : @LT.lt Nat _ b_104 h104.size := p104_V_b.lt
  have lt_o : @LT.lt Nat _ o h0.size := E_o.lt
  have ne_b_104_o_113 : b_104 ≠ o := (by omega : @Ne Nat b_104 o)
  have c114_V_b_104 : Arv Z h108 b_104 k2_104 .byte (1 : Int32) [(.int c0.toInt8.toInt32)] (.int (0 : Int32)) := p104_V_b.other W108 ne_b_104_o_113
  have c115_V_b_104 : Arv Z h112 b_104 k2_104 .byte (1 : Int32) [(.int c0.toInt8.toInt32)] (.int (0 : Int32)) := c114_V_b_104.other W112 ne_b_104_o_113
  have c116_E_o : Exa Z h112 o "java/lang/String" := Exa.wr W112 c111_E_o
  have c117_F_coder_o : Fld Z h112 o "java/lang/String" "coder" "B" (.int (0 : Int32)) := Fld.other W112 Fw108 (Or.inr (slot_ne (Or.inr (wi hw 30 rfl)) (Or.inr (wi hw 32 rfl)) (by decide) (t := .byte) (t' := (.array .byte)) (by decide) (by decide)))
  have K118 : Keep h0 h104 [o] := (Keep.refl h0 [o]).trans Kp104 all0
  have K119 : Keep h0 h108 [o] := K118.wr W108 (Or.inl (List.mem_of_getElem? (i := 0) rfl))
  have K120 : Keep h0 h112 [o] := K119.wr W112 (Or.inl (List.mem_of_getElem? (i := 0) rfl))
  obtain ⟨fs, hr, hrun, hended, hW, hsame⟩ := X112.leave (v := none) (fun _ => rfl)
  refine ⟨_, _, pre0 _ ?_, hrun, hended, _, _, rfl, ?_, ⟨_, rfl⟩, hW, hsame.mono (by decide) (by decide)⟩
  · show SS pP eE belowS s₁ (mkF mM 0 (Lc_init4_s1_0 o a1) []) _
    refine XS.aloadN X0.here hx rfl (hb hby d_jdk_42_method_149_0) rfl rfl ?_
    show SS pP eE belowS s₁ (mkF mM 1 (Lc_init4_s1_0 o a1) [(.ref o)]) _
    refine st101 _ ?_
    show SS pP eE belowS T101 (mkF mM 4 (Lc_init4_s1_0 o a1) []) _
    refine XS.iloadN X101.here hx rfl (hb hby d_jdk_42_method_149_4) rfl ?_
    show SS pP eE belowS T101 (mkF mM 5 (Lc_init4_s1_0 o a1) [(.int (1 : Int32))]) _
    refine XS.ifYes X101.here hx rfl (pc0 := 5) (pc' := 27) rfl (hb hby d_jdk_42_method_149_5) rfl ((if0 _ _).trans (feq (by decide : ¬ ((1 : Int32) = (0 : Int32)))).2) (by decide) (by decide) ?_
    show SS pP eE belowS T101 (mkF mM 27 (Lc_init4_s1_0 o a1) []) _
    refine st103 _ ?_
    show SS pP eE belowS T103 (mkF mM 30 (Lc_init4_s1_0 o a1) [(.int cs)]) _
    refine XS.ifNo X103.here hx rfl (hb hby d_jdk_42_method_149_30) rfl ((if0 _ _).trans (feq hcs).1) ?_
    show SS pP eE belowS T103 (mkF mM 33 (Lc_init4_s1_0 o a1) []) _
    refine XS.aloadN X103.here hx rfl (hb hby d_jdk_42_method_149_33) rfl rfl ?_
    show SS pP eE belowS T103 (mkF mM 34 (Lc_init4_s1_0 o a1) [(.ref a1)]) _
    refine XS.iloadN X103.here hx rfl (hb hby d_jdk_42_method_149_34) rfl ?_
    show SS pP eE belowS T103 (mkF mM 35 (Lc_init4_s1_0 o a1) [(.int (0 : Int32)), (.ref a1)]) _
    refine XS.iloadN X103.here hx rfl (hb hby d_jdk_42_method_149_35) rfl ?_
    show SS pP eE belowS T103 (mkF mM 36 (Lc_init4_s1_0 o a1) [(.int (1 : Int32)), (.int (0 : Int32)), (.ref a1)]) _
    refine st104 _ ?_
    show SS pP eE belowS T104 (mkF mM 39 (Lc_init4_s1_0 o a1) [(.ref b_104)]) _
    refine XS.astore X104.here hx rfl (hb hby d_jdk_42_method_149_39) rfl rfl (l' := (Lc_init4_s1_1 o a1 b_104)) rfl ?_
    show SS pP eE belowS T104 (mkF mM 41 (Lc_init4_s1_1 o a1 b_104) []) _
    refine XS.aloadN X104.here hx rfl (hb hby d_jdk_42_method_149_41) rfl rfl ?_
    show SS pP eE belowS T104 (mkF mM 42 (Lc_init4_s1_1 o a1 b_104) [(.ref o)]) _
    refine XS.aload X104.here hx rfl (hb hby d_jdk_42_method_149_42) rfl rfl ?_
    show SS pP eE belowS T104 (mkF mM 44 (Lc_init4_s1_1 o a1 b_104) [(.ref b_104), (.ref o)]) _
    refine XS.iloadN X104.here hx rfl (hb hby d_jdk_42_method_149_44) rfl ?_
    show SS pP eE belowS T104 (mkF mM 45 (Lc_init4_s1_1 o a1 b_104) [(.int (1 : Int32)), (.ref b_104), (.ref o)]) _
    refine st105 _ ?_
    show SS pP eE belowS T105 (mkF mM 48 (Lc_init4_s1_1 o a1 b_104) [(.int (0 : Int32)), (.ref o)]) _
    refine st108 _ ?_
    show SS pP eE belowS T108 (mkF mM 51 (Lc_init4_s1_1 o a1 b_104) []) _
    refine XS.aloadN X108.here hx rfl (hb hby d_jdk_42_method_149_51) rfl rfl ?_
    show SS pP eE belowS T108 (mkF mM 52 (Lc_init4_s1_1 o a1 b_104) [(.ref o)]) _
    refine XS.aload X108.here hx rfl (hb hby d_jdk_42_method_149_52) rfl rfl ?_
    show SS pP eE belowS T108 (mkF mM 54 (Lc_init4_s1_1 o a1 b_104) [(.ref b_104), (.ref o)]) _
    refine st112 _ ?_
    show SS pP eE belowS T112 (mkF mM 57 (Lc_init4_s1_1 o a1 b_104) []) _
    exact X112.returnOut hx Bd.returns (hb hby d_jdk_42_method_149_57) hr
  · show Q_init4_s1 Z o a1 k1 u1 u2 cs c0 h0 n0 _ T112.heap _
    rw [e112]
    exact ⟨b_104, k2_104, rfl, N112, K120, c116_E_o, Fw112, c117_F_coder_o, c115_V_b_104, (by omega)⟩

def Q_init1_s1 (Z : State) (o : Addr) (a1 : Addr) (k1 : ClassId) (u1 : Value) (u2 : Value) (cs : Int32) (c0 : Int32) (h0 : Heap) (n0 : Nat) (xv : Option Value) (xh : Heap) (xL : List Loc) : Prop := ∃ b : Addr, ∃ k2 : ClassId, xv = none ∧ Fr n0 xL ∧ Keep h0 xh [o] ∧ Exa Z xh o "java/lang/String" ∧ Fld Z xh o "java/lang/String" "value" "[B" (.ref b) ∧ Fld Z xh o "java/lang/String" "coder" "B" (.int (0 : Int32)) ∧ Arv Z xh b k2 .byte (1 : Int32) [(.int c0.toInt8.toInt32)] (.int (0 : Int32)) ∧ @LE.le Nat _ h0.size b
theorem ef_init1_s1 (mM : MethodId) (o : Addr) (a1 : Addr) (k1 : ClassId) (u1 : Value) (u2 : Value) (cs : Int32) (c0 : Int32) : entryFrame mM #[(.ref o), (.ref a1)] 2 = mkF mM 0 #[.val (.ref o), .val (.ref a1)] [] := by first | (simp [entryFrame, mkF, argsToLocals, Value.category]; done) | rfl
set_option maxRecDepth 65536 in
set_option maxHeartbeats 40000000 in
theorem rm_init1_s1 (l : Launch) (Z : State) (a0 : Array Value) (hw : ∀ d ∈ tables_1, d.before a0 Z = true) (ws : List Jvm.Cond) (o : Addr) (a1 : Addr) (k1 : ClassId) (u1 : Value) (u2 : Value) (cs : Int32) (c0 : Int32) (h0 : Heap) (n0 : Nat) (Z0 : n0 ≤ h0.size) (E_o : Exa Z h0 o "java/lang/String") (F_value_o : Fld Z h0 o "java/lang/String" "value" "[B" u1) (F_coder_o : Fld Z h0 o "java/lang/String" "coder" "B" u2) (V_a1 : Arv Z h0 a1 k1 .char (1 : Int32) [(.int c0)] (.int (0 : Int32))) (g_o : @LE.le Nat _ n0 o) (OL : Old Z n0 h0) (S_COMPACT_STRINGS : Sta Z Z.heap "java/lang/String" "COMPACT_STRINGS" "Z" (.int cs)) (hcs : ¬ (cs = (0 : Int32))) (q0 : ¬ ((255 : Int32) < c0)) :
    MetFree l (⟨"java/lang/String", "<init>", "([C)V"⟩ : MethodName) (head1 (Jvm.Cond.code (⟨"java/lang/String", "<init>", "([C)V"⟩ : MethodName) jdk_42_method_3_code 2 none :: ws) ({ frames := 3, cells := 1, slots := 1, locals := 52 } : Room)) (fun xa xU => xa = #[(.ref o), (.ref a1)] ∧ Z.Warmed39 xU.vm ∧ xU.heap = h0) (fun _ _ _ _ _ => True) (fun _ xU xo xU' => ∃ xv xL, xo = .returned xv ∧ Q_init1_s1 Z o a1 k1 u1 u2 cs c0 h0 n0 xv xU'.heap xL ∧ FrameEnd xU xo xU' xL ({ frames := 3, cells := 1, slots := 1, locals := 52 } : Room).cells ({ frames := 3, cells := 1, slots := 1, locals := 52 } : Room).slots) := by
  refine MetFree.of_bodySF (plainFor_of_name pn_java_lang_String) hisR ?_
  intro pP eE sS mM argS belowS methS cC s₁ Bd hml0 hP hK
  obtain ⟨rfl, hZ, hh⟩ := hP
  have hx := Bd.exec
  have hby := Bd.bytes
  have hml : cC.maxLocals = 2 := hml0
  have hown : sS.vm.findClass "java/lang/String" = some mM.cls := findClass_of_methodNamed Bd.named
  have hnm := (name_of_methodNamed Bd.named Bd.method).1
  have X0 : Stand pP l eE ({ frames := 3, cells := 1, slots := 1, locals := 52 } : Room) sS mM #[(.ref o), (.ref a1)] belowS methS cC s₁ [] 0 0 := Stand.of_body Bd
  have e0 : s₁.heap = h0 := by rw [← hh, Bd.state]; rfl
  have N0 := Fr.nil n0
  have pre0 : ∀ t', Steps pP.tables eE belowS (s₁.setTop (mkF mM 0 #[.val (.ref o), .val (.ref a1)] [])) t' → Steps pP.tables eE belowS (s₁.setTop (entryFrame mM #[(.ref o), (.ref a1)] 2)) t' := fun t' kk' => castTop (ef_init1_s1 mM o a1 k1 u1 u2 cs c0) kk'
  obtain ⟨cl101, Ar101, q101, S101, Ng101, Ha101, Ga101⟩ := id V_a1
  obtain ⟨_, _, ⟨T102, L102, k102, n102⟩, -, X102, ⟨Lc102, hQ102, l102, y102, z102⟩, st102⟩ := X0.specialBack hx (y := (⟨"java/lang/String", "<init>", "([CIILjava/lang/Void;)V"⟩ : MethodName)) rfl hown (mvT hZ (wi hw 10 rfl)) (mvT hZ (wi hw 11 rfl)) (mvT hZ (wi hw 13 rfl)) (by decide) (backOf (W := 0) (rm_init4_s1 l Z a0 hw [] o a1 k1 u1 u2 cs c0 h0 n0 (by omega) E_o F_value_o F_coder_o V_a1 g_o OL S_COMPACT_STRINGS hcs q0) hZ (wi hw 13 rfl) (wi hw 6 rfl) (by decide) (by decide)) (g := (mkF mM 6 #[.val (.ref o), .val (.ref a1)] [.null, (.int (1 : Int32)), (.int (0 : Int32)), (.ref a1), (.ref o)])) rfl (by rw [hml]; rfl) (Steps.refl _) (a := o) (argsL := [(.ref a1), (.int (0 : Int32)), (.int (1 : Int32)), .null]) (rest := []) (lenOf pd_1 rfl) rfl (by show 2 * 0 + _ ≤ _; exact Nat.le_of_eq rfl) (hb hby d_jdk_42_method_3_6) (fun _ _ => ⟨rfl, e0, Nat.le_of_ble_eq_true rfl, Nat.le_of_ble_eq_true rfl⟩)
  dsimp only [Pt.U, Pt.locs, Pt.cells, Pt.slots] at X102 l102 y102 z102 st102 hQ102
  subst l102 y102 z102
  obtain ⟨h102, e102⟩ : ∃ z, T102.heap = z := ⟨_, rfl⟩
  rw [e102] at hQ102
  obtain ⟨b_102, k2_102, rfl, N102q, Kp102, p102_E_o, p102_F_value_o, p102_F_coder_o, p102_V_b, p102_gh_b⟩ := hQ102
  have Sz1 : h0.size ≤ h102.size := Kp102.1
  have N102 := Fr.app N0 N102q
  have K103 : Keep h0 h102 [o] := (Keep.refl h0 [o]).trans Kp102 (allS (Or.inl (List.mem_of_getElem? (i := 0) rfl)) all0)
  obtain ⟨fs, hr, hrun, hended, hW, hsame⟩ := X102.leave (v := none) (fun _ => rfl)
  refine ⟨_, _, pre0 _ ?_, hrun, hended, _, _, rfl, ?_, ⟨_, rfl⟩, hW, hsame.mono (by decide) (by decide)⟩
  · show SS pP eE belowS s₁ (mkF mM 0 #[.val (.ref o), .val (.ref a1)] []) _
    refine XS.aloadN X0.here hx rfl (hb hby d_jdk_42_method_3_0) rfl rfl ?_
    show SS pP eE belowS s₁ (mkF mM 1 #[.val (.ref o), .val (.ref a1)] [(.ref o)]) _
    refine XS.aloadN X0.here hx rfl (hb hby d_jdk_42_method_3_1) rfl rfl ?_
    show SS pP eE belowS s₁ (mkF mM 2 #[.val (.ref o), .val (.ref a1)] [(.ref a1), (.ref o)]) _
    refine XS.iconst X0.here hx rfl (hb hby d_jdk_42_method_3_2) ?_
    show SS pP eE belowS s₁ (mkF mM 3 #[.val (.ref o), .val (.ref a1)] [(.int (0 : Int32)), (.ref a1), (.ref o)]) _
    refine XS.aloadN X0.here hx rfl (hb hby d_jdk_42_method_3_3) rfl rfl ?_
    show SS pP eE belowS s₁ (mkF mM 4 #[.val (.ref o), .val (.ref a1)] [(.ref a1), (.int (0 : Int32)), (.ref a1), (.ref o)]) _
    refine X0.arraylength hx (by rw [e0]; exact Ar101.1) (State.isArrayOf_alike hZ.alike Ar101.2.1) (g := (mkF mM 4 #[.val (.ref o), .val (.ref a1)] [(.ref a1), (.int (0 : Int32)), (.ref a1), (.ref o)])) rfl rfl (hb hby d_jdk_42_method_3_4) _ ?_
    rw [len_of S101 Ng101]
    show SS pP eE belowS s₁ (mkF mM 5 #[.val (.ref o), .val (.ref a1)] [(.int (1 : Int32)), (.int (0 : Int32)), (.ref a1), (.ref o)]) _
    refine XS.aconstNull X0.here hx rfl (hb hby d_jdk_42_method_3_5) ?_
    show SS pP eE belowS s₁ (mkF mM 6 #[.val (.ref o), .val (.ref a1)] [.null, (.int (1 : Int32)), (.int (0 : Int32)), (.ref a1), (.ref o)]) _
    refine st102.trans ?_
    show SS pP eE belowS T102 (mkF mM 9 #[.val (.ref o), .val (.ref a1)] []) _
    exact X102.returnOut hx Bd.returns (hb hby d_jdk_42_method_3_9) hr
  · show Q_init1_s1 Z o a1 k1 u1 u2 cs c0 h0 n0 _ T102.heap _
    rw [e102]
    exact ⟨b_102, k2_102, rfl, N102, K103, p102_E_o, p102_F_value_o, p102_F_coder_o, p102_V_b, (by omega)⟩
theorem d_jdk_30_method_1_0 : decode jdk_30_method_1_code 0 = .ok (.aload_n 0, 1) := by decide +kernel
theorem d_jdk_30_method_1_1 : decode jdk_30_method_1_code 1 = .ok (.invokespecial 1, 3) := by decide +kernel
theorem d_jdk_30_method_1_4 : decode jdk_30_method_1_code 4 = .ok (.return_, 1) := by decide +kernel
theorem pn_java_lang_Record : plainName "java/lang/Record" = true := by first | (simp [plainName, overriddenIn]; done) | decide +kernel
def Q_rec (Z : State) (o : Addr) (h0 : Heap) (n0 : Nat) (xv : Option Value) (xh : Heap) (xL : List Loc) : Prop := xv = none ∧ Fr n0 xL ∧ xh = h0
theorem ef_rec (mM : MethodId) (o : Addr) : entryFrame mM #[(.ref o)] 1 = mkF mM 0 #[.val (.ref o)] [] := by first | (simp [entryFrame, mkF, argsToLocals, Value.category]; done) | rfl
set_option maxRecDepth 65536 in
set_option maxHeartbeats 40000000 in
theorem rm_rec (l : Launch) (Z : State) (a0 : Array Value) (hw : ∀ d ∈ tables_1, d.before a0 Z = true) (ws : List Jvm.Cond) (o : Addr) (h0 : Heap) (n0 : Nat) (Z0 : n0 ≤ h0.size) :
    MetFree l (⟨"java/lang/Record", "<init>", "()V"⟩ : MethodName) (head1 (Jvm.Cond.code (⟨"java/lang/Record", "<init>", "()V"⟩ : MethodName) jdk_30_method_1_code 1 none :: ws) ({ frames := 1, cells := 0, slots := 0, locals := 12 } : Room)) (fun xa xU => xa = #[(.ref o)] ∧ Z.Warmed39 xU.vm ∧ xU.heap = h0) (fun _ _ _ _ _ => True) (fun _ xU xo xU' => ∃ xv xL, xo = .returned xv ∧ Q_rec Z o h0 n0 xv xU'.heap xL ∧ FrameEnd xU xo xU' xL ({ frames := 1, cells := 0, slots := 0, locals := 12 } : Room).cells ({ frames := 1, cells := 0, slots := 0, locals := 12 } : Room).slots) := by
  refine MetFree.of_bodySF (plainFor_of_name pn_java_lang_Record) hisR ?_
  intro pP eE sS mM argS belowS methS cC s₁ Bd hml0 hP hK
  obtain ⟨rfl, hZ, hh⟩ := hP
  have hx := Bd.exec
  have hby := Bd.bytes
  have hml : cC.maxLocals = 1 := hml0
  have hown : sS.vm.findClass "java/lang/Record" = some mM.cls := findClass_of_methodNamed Bd.named
  have hnm := (name_of_methodNamed Bd.named Bd.method).1
  have X0 : Stand pP l eE ({ frames := 1, cells := 0, slots := 0, locals := 12 } : Room) sS mM #[(.ref o)] belowS methS cC s₁ [] 0 0 := Stand.of_body Bd
  have e0 : s₁.heap = h0 := by rw [← hh, Bd.state]; rfl
  have N0 := Fr.nil n0
  have pre0 : ∀ t', Steps pP.tables eE belowS (s₁.setTop (mkF mM 0 #[.val (.ref o)] [])) t' → Steps pP.tables eE belowS (s₁.setTop (entryFrame mM #[(.ref o)] 1)) t' := fun t' kk' => castTop (ef_rec mM o) kk'
  obtain ⟨T101, X101, e101, st101⟩ := initO X0 hx hZ hown (wi hw 41 rfl) (wi hw 15 rfl) (wi hw 16 rfl) e0 (g := (mkF mM 1 #[.val (.ref o)] [(.ref o)])) rfl (by rw [hml]; rfl) rfl (hb hby d_jdk_30_method_1_1) (by decide) (W := 0) (by show 2 * 0 + _ ≤ _; exact Nat.le_of_eq rfl) (by decide)
  obtain ⟨fs, hr, hrun, hended, hW, hsame⟩ := X101.leave (v := none) (fun _ => rfl)
  refine ⟨_, _, pre0 _ ?_, hrun, hended, _, _, rfl, ?_, ⟨_, rfl⟩, hW, hsame.mono (by decide) (by decide)⟩
  · show SS pP eE belowS s₁ (mkF mM 0 #[.val (.ref o)] []) _
    refine XS.aloadN X0.here hx rfl (hb hby d_jdk_30_method_1_0) rfl rfl ?_
    show SS pP eE belowS s₁ (mkF mM 1 #[.val (.ref o)] [(.ref o)]) _
    refine st101 _ ?_
    show SS pP eE belowS T101 (mkF mM 4 #[.val (.ref o)] []) _
    exact X101.returnOut hx Bd.returns (hb hby d_jdk_30_method_1_4) hr
  · show Q_rec Z o h0 n0 _ T101.heap _
    rw [e101]
    exact ⟨rfl, N0, rfl⟩
theorem d_jdk_31_method_11_0 : decode jdk_31_method_11_code 0 = .ok (.aload_n 0, 1) := by decide +kernel
theorem d_jdk_31_method_11_1 : decode jdk_31_method_11_code 1 = .ok (.ifnonnull 12, 3) := by decide +kernel
theorem d_jdk_31_method_11_13 : decode jdk_31_method_11_code 13 = .ok (.aload_n 0, 1) := by decide +kernel
theorem d_jdk_31_method_11_14 : decode jdk_31_method_11_code 14 = .ok (.areturn, 1) := by decide +kernel
theorem pn_java_util_Objects : plainName "java/util/Objects" = true := by first | (simp [plainName, overriddenIn]; done) | decide +kernel
def Q_rnn (Z : State) (a : Addr) (b : Addr) (h0 : Heap) (n0 : Nat) (xv : Option Value) (xh : Heap) (xL : List Loc) : Prop := xv = some (.ref a) ∧ Fr n0 xL ∧ xh = h0
theorem ef_rnn (mM : MethodId) (a : Addr) (b : Addr) : entryFrame mM #[(.ref a), (.ref b)] 2 = mkF mM 0 #[.val (.ref a), .val (.ref b)] [] := by first | (simp [entryFrame, mkF, argsToLocals, Value.category]; done) | rfl
set_option maxRecDepth 65536 in
set_option maxHeartbeats 40000000 in
theorem rm_rnn (l : Launch) (Z : State) (a0 : Array Value) (hw : ∀ d ∈ tables_1, d.before a0 Z = true) (ws : List Jvm.Cond) (a : Addr) (b : Addr) (h0 : Heap) (n0 : Nat) (Z0 : n0 ≤ h0.size) :
    MetFree l (⟨"java/util/Objects", "requireNonNull", "(Ljava/lang/Object;Ljava/lang/String;)Ljava/lang/Object;"⟩ : MethodName) (head1 (Jvm.Cond.code (⟨"java/util/Objects", "requireNonNull", "(Ljava/lang/Object;Ljava/lang/String;)Ljava/lang/Object;"⟩ : MethodName) jdk_31_method_11_code 2 (some (.object "java/lang/Object")) :: ws) ({ frames := 0, cells := 0, slots := 0, locals := 0 } : Room)) (fun xa xU => xa = #[(.ref a), (.ref b)] ∧ Z.Warmed39 xU.vm ∧ xU.heap = h0) (fun _ _ _ _ _ => True) (fun _ xU xo xU' => ∃ xv xL, xo = .returned xv ∧ Q_rnn Z a b h0 n0 xv xU'.heap xL ∧ FrameEnd xU xo xU' xL ({ frames := 0, cells := 0, slots := 0, locals := 0 } : Room).cells ({ frames := 0, cells := 0, slots := 0, locals := 0 } : Room).slots) := by
  refine MetFree.of_bodySF (plainFor_of_name pn_java_util_Objects) hisR ?_
  intro pP eE sS mM argS belowS methS cC s₁ Bd hml0 hP hK
  obtain ⟨rfl, hZ, hh⟩ := hP
  have hx := Bd.exec
  have hby := Bd.bytes
  have hml : cC.maxLocals = 2 := hml0
  have hown : sS.vm.findClass "java/util/Objects" = some mM.cls := findClass_of_methodNamed Bd.named
  have hnm := (name_of_methodNamed Bd.named Bd.method).1
  have X0 : Stand pP l eE ({ frames := 0, cells := 0, slots := 0, locals := 0 } : Room) sS mM #[(.ref a), (.ref b)] belowS methS cC s₁ [] 0 0 := Stand.of_body Bd
  have e0 : s₁.heap = h0 := by rw [← hh, Bd.state]; rfl
  have N0 := Fr.nil n0
  have pre0 : ∀ t', Steps pP.tables eE belowS (s₁.setTop (mkF mM 0 #[.val (.ref a), .val (.ref b)] [])) t' → Steps pP.tables eE belowS (s₁.setTop (entryFrame mM #[(.ref a), (.ref b)] 2)) t' := fun t' kk' => castTop (ef_rnn mM a b) kk'
  obtain ⟨fs, hr, hrun, hended, hW, hsame⟩ := X0.leave (v := some (.ref a)) (fun h => by rw [Bd.returns] at h; cases h)
  refine ⟨_, _, pre0 _ ?_, hrun, hended, _, _, rfl, ?_, ⟨_, rfl⟩, hW, hsame.mono (by decide) (by decide)⟩
  · show SS pP eE belowS s₁ (mkF mM 0 #[.val (.ref a), .val (.ref b)] []) _
    refine XS.aloadN X0.here hx rfl (hb hby d_jdk_31_method_11_0) rfl rfl ?_
    show SS pP eE belowS s₁ (mkF mM 1 #[.val (.ref a), .val (.ref b)] [(.ref a)]) _
    refine XS.ifnonnullYes X0.here hx rfl (pc0 := 1) (pc' := 13) rfl (hb hby d_jdk_31_method_11_1) rfl (by decide) (by decide) ?_
    show SS pP eE belowS s₁ (mkF mM 13 #[.val (.ref a), .val (.ref b)] []) _
    refine XS.aloadN X0.here hx rfl (hb hby d_jdk_31_method_11_13) rfl rfl ?_
    show SS pP eE belowS s₁ (mkF mM 14 #[.val (.ref a), .val (.ref b)] [(.ref a)]) _
    jvm_step X0.here [X0.here.top, hx, (hb hby d_jdk_31_method_11_14), X0.method', Bd.returns, Value.isRef, FieldType.isReference]
    first | (intro acts; rw [hr _ acts rfl rfl rfl]) | rw [hr _ _ rfl rfl rfl]
    exact Steps.refl _
  · show Q_rnn Z a b h0 n0 _ s₁.heap _
    rw [e0]
    exact ⟨rfl, N0, rfl⟩
theorem d_prog_20_method_1_0 : decode prog_20_method_1_code 0 = .ok (.aload_n 0, 1) := by decide +kernel
theorem d_prog_20_method_1_1 : decode prog_20_method_1_code 1 = .ok (.invokespecial 1, 3) := by decide +kernel
theorem pd_2 : parseMethodDescriptor "()V" = some ⟨[], none⟩ := by decide +kernel
theorem d_prog_20_method_1_4 : decode prog_20_method_1_code 4 = .ok (.aload_n 1, 1) := by decide +kernel
theorem d_prog_20_method_1_5 : decode prog_20_method_1_code 5 = .ok (.ldc 7, 2) := by decide +kernel
theorem own_wS {Z : State} {a0 : Array Value} (hw : ∀ d ∈ tables_1, d.before a0 Z = true) : ∀ d ∈ Bundle.stringAtoms, d.before a0 Z = true := by
  intro d hd
  simp only [Bundle.stringAtoms, Bundle.sN, List.mem_cons, List.mem_append, List.not_mem_nil, or_false, false_or, or_assoc] at hd
  rcases hd with rfl | rfl | rfl | rfl | rfl | rfl | rfl
  · exact wi hw 6 rfl
  · exact wi hw 5 rfl
  · exact wi hw 22 rfl
  · exact wi hw 32 rfl
  · exact wi hw 30 rfl
  · exact wi hw 43 rfl
  · exact wi hw 44 rfl
theorem d_prog_20_method_1_7 : decode prog_20_method_1_code 7 = .ok (.invokestatic 9, 3) := by decide +kernel
theorem pd_7 : parseMethodDescriptor "(Ljava/lang/Object;Ljava/lang/String;)Ljava/lang/Object;" = some ⟨[(.object "java/lang/Object"), (.object "java/lang/String")], some (.object "java/lang/Object")⟩ := by decide +kernel
theorem d_prog_20_method_1_10 : decode prog_20_method_1_code 10 = .ok (.pop, 1) := by decide +kernel
theorem d_prog_20_method_1_11 : decode prog_20_method_1_code 11 = .ok (.aload_n 0, 1) := by decide +kernel
theorem d_prog_20_method_1_12 : decode prog_20_method_1_code 12 = .ok (.aload_n 1, 1) := by decide +kernel
theorem d_prog_20_method_1_13 : decode prog_20_method_1_code 13 = .ok (.putfield 15, 3) := by decide +kernel
theorem d_prog_20_method_1_16 : decode prog_20_method_1_code 16 = .ok (.aload_n 0, 1) := by decide +kernel
theorem d_prog_20_method_1_17 : decode prog_20_method_1_code 17 = .ok (.iload_n 2, 1) := by decide +kernel
theorem d_prog_20_method_1_18 : decode prog_20_method_1_code 18 = .ok (.putfield 20, 3) := by decide +kernel
theorem d_prog_20_method_1_21 : decode prog_20_method_1_code 21 = .ok (.return_, 1) := by decide +kernel
theorem pn_com_example_compartment_compartment_policy_Level : plainName "com/example/compartment/compartment/policy/Level" = true := by first | (simp [plainName, overriddenIn]; done) | decide +kernel
def Q_lev (Z : State) (o : Addr) (b : Addr) (p : Int32) (u1 : Value) (u2 : Value) (h0 : Heap) (n0 : Nat) (xv : Option Value) (xh : Heap) (xL : List Loc) : Prop := xv = none ∧ Fr n0 xL ∧ Keep h0 xh [o] ∧ Exa Z xh o "com/example/compartment/compartment/policy/Level" ∧ Fld Z xh o "com/example/compartment/compartment/policy/Level" "rank" "I" (.int p)
theorem ef_lev (mM : MethodId) (o : Addr) (b : Addr) (p : Int32) (u1 : Value) (u2 : Value) : entryFrame mM #[(.ref o), (.ref b), (.int p)] 3 = mkF mM 0 #[.val (.ref o), .val (.ref b), .val (.int p)] [] := by first | (simp [entryFrame, mkF, argsToLocals, Value.category]; done) | rfl
set_option maxRecDepth 65536 in
set_option maxHeartbeats 40000000 in
theorem rm_lev (l : Launch) (Z : State) (a0 : Array Value) (hw : ∀ d ∈ tables_1, d.before a0 Z = true) (ws : List Jvm.Cond) (o : Addr) (b : Addr) (p : Int32) (u1 : Value) (u2 : Value) (h0 : Heap) (n0 : Nat) (Z0 : n0 ≤ h0.size) (E_o : Exa Z h0 o "com/example/compartment/compartment/policy/Level") (F_name_o : Fld Z h0 o "com/example/compartment/compartment/policy/Level" "name" "Ljava/lang/String;" u1) (F_rank_o : Fld Z h0 o "com/example/compartment/compartment/policy/Level" "rank" "I" u2) (g_o : @LE.le Nat _ n0 o) :
    MetFree l (⟨"com/example/compartment/compartment/policy/Level", "<init>", "(Ljava/lang/String;I)V"⟩ : MethodName) (head1 (Jvm.Cond.code (⟨"com/example/compartment/compartment/policy/Level", "<init>", "(Ljava/lang/String;I)V"⟩ : MethodName) prog_20_method_1_code 3 none :: ws) ({ frames := 2, cells := 2, slots := 20, locals := 24 } : Room)) (fun xa xU => xa = #[(.ref o), (.ref b), (.int p)] ∧ Z.Warmed39 xU.vm ∧ xU.heap = h0) (fun _ _ _ _ _ => True) (fun _ xU xo xU' => ∃ xv xL, xo = .returned xv ∧ Q_lev Z o b p u1 u2 h0 n0 xv xU'.heap xL ∧ ReturnedEndW xU xo xU' xL ({ frames := 2, cells := 2, slots := 20, locals := 24 } : Room).cells ({ frames := 2, cells := 2, slots := 20, locals := 24 } : Room).slots) := by
  refine MetFree.of_bodySF (plainFor_of_name pn_com_example_compartment_compartment_policy_Level) hisR ?_
  intro pP eE sS mM argS belowS methS cC s₁ Bd hml0 hP hK
  obtain ⟨rfl, hZ, hh⟩ := hP
  have hx := Bd.exec
  have hby := Bd.bytes
  have hml : cC.maxLocals = 3 := hml0
  have hown : sS.vm.findClass "com/example/compartment/compartment/policy/Level" = some mM.cls := findClass_of_methodNamed Bd.named
  have hnm := (name_of_methodNamed Bd.named Bd.method).1
  have X0 : Stand pP l eE ({ frames := 2, cells := 2, slots := 20, locals := 24 } : Room) (sS.setVm sS.vm) mM #[(.ref o), (.ref b), (.int p)] belowS methS cC s₁ [] 0 0 := Stand.of_body Bd
  have e0 : s₁.heap = h0 := by rw [← hh, Bd.state]; rfl
  have N0 := Fr.nil n0
  have pre0 : ∀ t', Steps pP.tables eE belowS (s₁.setTop (mkF mM 0 #[.val (.ref o), .val (.ref b), .val (.int p)] [])) t' → Steps pP.tables eE belowS (s₁.setTop (entryFrame mM #[(.ref o), (.ref b), (.int p)] 3)) t' := fun t' kk' => castTop (ef_lev mM o b p u1 u2) kk'
  have hZ0 : Z.Warmed39 (sS.setVm sS.vm).vm := hZ
  have hown0 : (sS.setVm sS.vm).vm.findClass "com/example/compartment/compartment/policy/Level" = some mM.cls := hown
  have hS0 : sS.Since sS.vm 0 := (State.WarmedH.refl sS).since 0
  obtain ⟨_, _, ⟨T101, L101, k101, n101⟩, -, X101, ⟨Lc101, hQ101, l101, y101, z101⟩, st101⟩ := X0.specialBack hx (y := (⟨"java/lang/Record", "<init>", "()V"⟩ : MethodName)) rfl hown0 (mvT hZ0 (wi hw 36 rfl)) (mvT hZ0 (wi hw 37 rfl)) (mvT hZ0 (wi hw 40 rfl)) (by decide) (backOf (W := 0) (rm_rec l Z a0 hw [] o h0 n0 (by omega) ) hZ0 (wi hw 40 rfl) (wi hw 39 rfl) (by decide) (by decide)) (g := (mkF mM 1 #[.val (.ref o), .val (.ref b), .val (.int p)] [(.ref o)])) rfl (by rw [hml]; rfl) (Steps.refl _) (a := o) (argsL := []) (rest := []) (lenOf pd_2 rfl) rfl (by show 2 * 0 + _ ≤ _; exact Nat.le_of_eq rfl) (hb hby d_prog_20_method_1_1) (fun _ _ => ⟨rfl, e0, Nat.le_of_ble_eq_true rfl, Nat.le_of_ble_eq_true rfl⟩)
  dsimp only [Pt.U, Pt.locs, Pt.cells, Pt.slots] at X101 l101 y101 z101 st101 hQ101
  subst l101 y101 z101
  obtain ⟨h101, e101⟩ : ∃ z, T101.heap = z := ⟨_, rfl⟩
  rw [e101] at hQ101
  obtain ⟨rfl, N101q, eq101⟩ := hQ101
  rw [eq101] at e101
  have N101 := Fr.app N0 N101q
  obtain ⟨b102, T102, h102, kk102, X102, e102, E102, hS102, hk102, hZ102, hown102, st102⟩ := ldcS X101 hx hZ0 hown0 (wi hw 42 rfl) (own_wS hw) e101 hS0 (by omega) (g := (mkF mM 5 #[.val (.ref o), .val (.ref b), .val (.int p)] [(.ref b)])) rfl (hb hby d_prog_20_method_1_5) (n := 16) (by decide) (by decide) (by decide) (by decide)
  have Sz1 : h0.size ≤ h102.size := E102.1
  obtain ⟨_, _, ⟨T103, L103, k103, n103⟩, -, X103, ⟨Lc103, hQ103, l103, y103, z103⟩, st103⟩ := Jvm.LawKit.callS X102 hx (y := (⟨"java/util/Objects", "requireNonNull", "(Ljava/lang/Object;Ljava/lang/String;)Ljava/lang/Object;"⟩ : MethodName)) hown102 (mvT hZ102 (wi hw 45 rfl)) (mvT hZ102 (wi hw 46 rfl)) (mvT hZ102 (wi hw 47 rfl)) (mvT hZ102 (wi hw 48 rfl)) (by decide) (backOf (W := 0) (rm_rnn l Z a0 hw [] b b102 h102 n0 (by omega) ) hZ102 (wi hw 48 rfl) (wi hw 47 rfl) (by decide) (by decide)) (g := (mkF mM 7 #[.val (.ref o), .val (.ref b), .val (.int p)] [(.ref b102), (.ref b)])) rfl (by rw [hml]; rfl) (argsL := [(.ref b), (.ref b102)]) (rest := []) (lenOf pd_7 rfl) rfl (by show 2 * 0 + _ ≤ _; exact Nat.le_of_eq rfl) (hb hby d_prog_20_method_1_7) (fun _ _ => ⟨rfl, e102, Nat.le_of_ble_eq_true rfl, Nat.le_of_ble_eq_true rfl⟩)
  dsimp only [Pt.U, Pt.locs, Pt.cells, Pt.slots] at X103 l103 y103 z103 st103 hQ103
  subst l103 y103 z103
  obtain ⟨h103, e103⟩ : ∃ z, T103.heap = z := ⟨_, rfl⟩
  rw [e103] at hQ103
  obtain ⟨rfl, N103q, eq103⟩ := hQ103
  rw [eq103] at e103
  have N103 := Fr.app N101 N103q
  have c104_F_name_o : Fld Z h102 o "com/example/compartment/compartment/policy/Level" "name" "Ljava/lang/String;" u1 := Fld.ext E102 F_name_o
  have c105_E_o : Exa Z h102 o "com/example/compartment/compartment/policy/Level" := Exa.ext E102 E_o
  obtain ⟨T106, h106, X106, e106, W106, st106⟩ := putF X103 hx hZ102 hown102 (host := "") (Or.inl (wi hw 49 rfl)) Via.refl e103 c104_F_name_o c105_E_o (Or.inr ⟨(wi hw 50 rfl), rfl, hnm⟩) (wi hw 2 rfl) (ty := (.object "java/lang/String")) (by decide) rfl rfl (g := (mkF mM 13 #[.val (.ref o), .val (.ref b), .val (.int p)] [(.ref b), (.ref o)])) rfl rfl (hb hby d_prog_20_method_1_13)
  have Sz2 : h102.size ≤ h106.size := Nat.le_of_eq (Wr.size W106).symm
  have Fw106 : Fld Z h106 o "com/example/compartment/compartment/policy/Level" "name" "Ljava/lang/String;" (.ref b) := Fld.same W106 c104_F_name_o
  have N106 := Fr.snoc X106 N103 g_o
  have c107_F_rank_o : Fld Z h102 o "com/example/compartment/compartment/policy/Level" "rank" "I" u2 := Fld.ext E102 F_rank_o
  have c108_F_rank_o : Fld Z h106 o "com/example/compartment/compartment/policy/Level" "rank" "I" u2 := Fld.other W106 c107_F_rank_o (Or.inr (slot_ne (Or.inr (wi hw 52 rfl)) (Or.inr (wi hw 50 rfl)) (by decide) (t := .int) (t' := (.object "java/lang/String")) (by decide) (by decide)))
  have c109_E_o : Exa Z h106 o "com/example/compartment/compartment/policy/Level" := Exa.wr W106 c105_E_o
  obtain ⟨T110, h110, X110, e110, W110, st110⟩ := putF X106 hx hZ102 hown102 (host := "") (Or.inl (wi hw 51 rfl)) Via.refl e106 c108_F_rank_o c109_E_o (Or.inr ⟨(wi hw 52 rfl), rfl, hnm⟩) (wi hw 2 rfl) (ty := .int) (by decide) rfl rfl (g := (mkF mM 18 #[.val (.ref o), .val (.ref b), .val (.int p)] [(.int p), (.ref o)])) rfl rfl (hb hby d_prog_20_method_1_18)
  have Sz3 : h106.size ≤ h110.size := Nat.le_of_eq (Wr.size W110).symm
  have Fw110 : Fld Z h110 o "com/example/compartment/compartment/policy/Level" "rank" "I" (.int p) := Fld.same W110 c108_F_rank_o
  have N110 := Fr.snoc X110 N106 g_o
  have c111_E_o : Exa Z h110 o "com/example/compartment/compartment/policy/Level" := Exa.wr W110 c109_E_o
  have K112 : Keep h0 h102 [o] := (Keep.refl h0 [o]).ext E102
  have K113 : Keep h0 h106 [o] := K112.wr W106 (Or.inl (List.mem_of_getElem? (i := 0) rfl))
  have K114 : Keep h0 h110 [o] := K113.wr W110 (Or.inl (List.mem_of_getElem? (i := 0) rfl))
  obtain ⟨fs, hr, hrun, hended, hE⟩ := Stand.leaveW (s := sS) X110 hS102 (by rw [e110]; omega) (v := none) (fun _ => rfl)
  refine ⟨_, _, pre0 _ ?_, hrun, hended, _, _, rfl, ?_, hE.1, hE.2.1, hE.2.2.1, hE.2.2.2.mono (by decide) (by decide)⟩
  · show SS pP eE belowS s₁ (mkF mM 0 #[.val (.ref o), .val (.ref b), .val (.int p)] []) _
    refine XS.aloadN X0.here hx rfl (hb hby d_prog_20_method_1_0) rfl rfl ?_
    show SS pP eE belowS s₁ (mkF mM 1 #[.val (.ref o), .val (.ref b), .val (.int p)] [(.ref o)]) _
    refine st101.trans ?_
    show SS pP eE belowS T101 (mkF mM 4 #[.val (.ref o), .val (.ref b), .val (.int p)] []) _
    refine XS.aloadN X101.here hx rfl (hb hby d_prog_20_method_1_4) rfl rfl ?_
    show SS pP eE belowS T101 (mkF mM 5 #[.val (.ref o), .val (.ref b), .val (.int p)] [(.ref b)]) _
    refine st102 _ ?_
    show SS pP eE belowS T102 (mkF mM 7 #[.val (.ref o), .val (.ref b), .val (.int p)] [(.ref b102), (.ref b)]) _
    refine st103 _ ?_
    show SS pP eE belowS T103 (mkF mM 10 #[.val (.ref o), .val (.ref b), .val (.int p)] [(.ref b)]) _
    refine XS.pop X103.here hx rfl (hb hby d_prog_20_method_1_10) rfl rfl ?_
    show SS pP eE belowS T103 (mkF mM 11 #[.val (.ref o), .val (.ref b), .val (.int p)] []) _
    refine XS.aloadN X103.here hx rfl (hb hby d_prog_20_method_1_11) rfl rfl ?_
    show SS pP eE belowS T103 (mkF mM 12 #[.val (.ref o), .val (.ref b), .val (.int p)] [(.ref o)]) _
    refine XS.aloadN X103.here hx rfl (hb hby d_prog_20_method_1_12) rfl rfl ?_
    show SS pP eE belowS T103 (mkF mM 13 #[.val (.ref o), .val (.ref b), .val (.int p)] [(.ref b), (.ref o)]) _
    refine st106 _ ?_
    show SS pP eE belowS T106 (mkF mM 16 #[.val (.ref o), .val (.ref b), .val (.int p)] []) _
    refine XS.aloadN X106.here hx rfl (hb hby d_prog_20_method_1_16) rfl rfl ?_
    show SS pP eE belowS T106 (mkF mM 17 #[.val (.ref o), .val (.ref b), .val (.int p)] [(.ref o)]) _
    refine XS.iloadN X106.here hx rfl (hb hby d_prog_20_method_1_17) rfl ?_
    show SS pP eE belowS T106 (mkF mM 18 #[.val (.ref o), .val (.ref b), .val (.int p)] [(.int p), (.ref o)]) _
    refine st110 _ ?_
    show SS pP eE belowS T110 (mkF mM 21 #[.val (.ref o), .val (.ref b), .val (.int p)] []) _
    exact X110.returnOut hx Bd.returns (hb hby d_prog_20_method_1_21) hr
  · show Q_lev Z o b p u1 u2 h0 n0 _ T110.heap _
    rw [e110]
    exact ⟨rfl, N110, K114, c111_E_o, Fw110⟩
theorem d_prog_20_method_2_0 : decode prog_20_method_2_code 0 = .ok (.aload_n 0, 1) := by decide +kernel
theorem d_prog_20_method_2_1 : decode prog_20_method_2_code 1 = .ok (.getfield 20, 3) := by decide +kernel
theorem d_prog_20_method_2_4 : decode prog_20_method_2_code 4 = .ok (.aload_n 1, 1) := by decide +kernel
theorem d_prog_20_method_2_5 : decode prog_20_method_2_code 5 = .ok (.getfield 20, 3) := by decide +kernel
theorem d_prog_20_method_2_8 : decode prog_20_method_2_code 8 = .ok (.if_icmp .lt 7, 3) := by decide +kernel
theorem d_prog_20_method_2_15 : decode prog_20_method_2_code 15 = .ok (.iconst 0, 1) := by decide +kernel
theorem d_prog_20_method_2_16 : decode prog_20_method_2_code 16 = .ok (.ireturn, 1) := by decide +kernel
def Q_at_lt (Z : State) (o : Addr) (q : Addr) (x : Int32) (y : Int32) (h0 : Heap) (n0 : Nat) (xv : Option Value) (xh : Heap) (xL : List Loc) : Prop := xv = some (.int (0 : Int32)) ∧ Fr n0 xL ∧ xh = h0
theorem ef_at_lt (mM : MethodId) (o : Addr) (q : Addr) (x : Int32) (y : Int32) : entryFrame mM #[(.ref o), (.ref q)] 2 = mkF mM 0 #[.val (.ref o), .val (.ref q)] [] := by first | (simp [entryFrame, mkF, argsToLocals, Value.category]; done) | rfl
set_option maxRecDepth 65536 in
set_option maxHeartbeats 40000000 in
theorem rm_at_lt (l : Launch) (Z : State) (a0 : Array Value) (hw : ∀ d ∈ tables_1, d.before a0 Z = true) (ws : List Jvm.Cond) (o : Addr) (q : Addr) (x : Int32) (y : Int32) (h0 : Heap) (n0 : Nat) (Z0 : n0 ≤ h0.size) (F_rank_o : Fld Z h0 o "com/example/compartment/compartment/policy/Level" "rank" "I" (.int x)) (F_rank_q : Fld Z h0 q "com/example/compartment/compartment/policy/Level" "rank" "I" (.int y)) (hc8 : x < y) :
    MetFree l (⟨"com/example/compartment/compartment/policy/Level", "atLeast", "(Lcom/example/compartment/compartment/policy/Level;)Z"⟩ : MethodName) (head1 (Jvm.Cond.code (⟨"com/example/compartment/compartment/policy/Level", "atLeast", "(Lcom/example/compartment/compartment/policy/Level;)Z"⟩ : MethodName) prog_20_method_2_code 2 (some .boolean) :: ws) ({ frames := 0, cells := 0, slots := 0, locals := 0 } : Room)) (fun xa xU => xa = #[(.ref o), (.ref q)] ∧ Z.Warmed39 xU.vm ∧ xU.heap = h0) (fun _ _ _ _ _ => True) (fun _ xU xo xU' => ∃ xv xL, xo = .returned xv ∧ Q_at_lt Z o q x y h0 n0 xv xU'.heap xL ∧ FrameEnd xU xo xU' xL ({ frames := 0, cells := 0, slots := 0, locals := 0 } : Room).cells ({ frames := 0, cells := 0, slots := 0, locals := 0 } : Room).slots) := by
  refine MetFree.of_bodySF (plainFor_of_name pn_com_example_compartment_compartment_policy_Level) hisR ?_
  intro pP eE sS mM argS belowS methS cC s₁ Bd hml0 hP hK
  obtain ⟨rfl, hZ, hh⟩ := hP
  have hx := Bd.exec
  have hby := Bd.bytes
  have hml : cC.maxLocals = 2 := hml0
  have hown : sS.vm.findClass "com/example/compartment/compartment/policy/Level" = some mM.cls := findClass_of_methodNamed Bd.named
  have hnm := (name_of_methodNamed Bd.named Bd.method).1
  have X0 : Stand pP l eE ({ frames := 0, cells := 0, slots := 0, locals := 0 } : Room) sS mM #[(.ref o), (.ref q)] belowS methS cC s₁ [] 0 0 := Stand.of_body Bd
  have e0 : s₁.heap = h0 := by rw [← hh, Bd.state]; rfl
  have N0 := Fr.nil n0
  have pre0 : ∀ t', Steps pP.tables eE belowS (s₁.setTop (mkF mM 0 #[.val (.ref o), .val (.ref q)] [])) t' → Steps pP.tables eE belowS (s₁.setTop (entryFrame mM #[(.ref o), (.ref q)] 2)) t' := fun t' kk' => castTop (ef_at_lt mM o q x y) kk'
  obtain ⟨T101, X101, e101, st101⟩ := getF X0 hx hZ hown (host := "") (Or.inl (wi hw 51 rfl)) Via.refl e0 F_rank_o (g := (mkF mM 1 #[.val (.ref o), .val (.ref q)] [(.ref o)])) rfl rfl (hb hby d_prog_20_method_2_1)
  obtain ⟨T102, X102, e102, st102⟩ := getF X101 hx hZ hown (host := "") (Or.inl (wi hw 51 rfl)) Via.refl e101 F_rank_q (g := (mkF mM 5 #[.val (.ref o), .val (.ref q)] [(.ref q), (.int x)])) rfl rfl (hb hby d_prog_20_method_2_5)
  obtain ⟨fs, hr, hrun, hended, hW, hsame⟩ := X102.leave (v := some (.int (0 : Int32))) (fun h => by rw [Bd.returns] at h; cases h)
  refine ⟨_, _, pre0 _ ?_, hrun, hended, _, _, rfl, ?_, ⟨_, rfl⟩, hW, hsame.mono (by decide) (by decide)⟩
  · show SS pP eE belowS s₁ (mkF mM 0 #[.val (.ref o), .val (.ref q)] []) _
    refine XS.aloadN X0.here hx rfl (hb hby d_prog_20_method_2_0) rfl rfl ?_
    show SS pP eE belowS s₁ (mkF mM 1 #[.val (.ref o), .val (.ref q)] [(.ref o)]) _
    refine st101 _ ?_
    show SS pP eE belowS T101 (mkF mM 4 #[.val (.ref o), .val (.ref q)] [(.int x)]) _
    refine XS.aloadN X101.here hx rfl (hb hby d_prog_20_method_2_4) rfl rfl ?_
    show SS pP eE belowS T101 (mkF mM 5 #[.val (.ref o), .val (.ref q)] [(.ref q), (.int x)]) _
    refine st102 _ ?_
    show SS pP eE belowS T102 (mkF mM 8 #[.val (.ref o), .val (.ref q)] [(.int y), (.int x)]) _
    refine XS.icmpYes X102.here hx rfl (pc0 := 8) (pc' := 15) rfl (hb hby d_prog_20_method_2_8) rfl (tlt hc8).1 (by decide) (by decide) ?_
    show SS pP eE belowS T102 (mkF mM 15 #[.val (.ref o), .val (.ref q)] []) _
    refine XS.iconst X102.here hx rfl (hb hby d_prog_20_method_2_15) ?_
    show SS pP eE belowS T102 (mkF mM 16 #[.val (.ref o), .val (.ref q)] [(.int (0 : Int32))]) _
    exact retN X102 hx (t := .boolean) Bd.returns (by simp) (hb hby d_prog_20_method_2_16) hr
  · show Q_at_lt Z o q x y h0 n0 _ T102.heap _
    rw [e102]
    exact ⟨rfl, N0, rfl⟩
theorem d_prog_20_method_2_11 : decode prog_20_method_2_code 11 = .ok (.iconst 1, 1) := by decide +kernel
theorem d_prog_20_method_2_12 : decode prog_20_method_2_code 12 = .ok (.goto 4, 3) := by decide +kernel
def Q_at_ge (Z : State) (o : Addr) (q : Addr) (x : Int32) (y : Int32) (h0 : Heap) (n0 : Nat) (xv : Option Value) (xh : Heap) (xL : List Loc) : Prop := xv = some (.int (1 : Int32)) ∧ Fr n0 xL ∧ xh = h0
theorem ef_at_ge (mM : MethodId) (o : Addr) (q : Addr) (x : Int32) (y : Int32) : entryFrame mM #[(.ref o), (.ref q)] 2 = mkF mM 0 #[.val (.ref o), .val (.ref q)] [] := by first | (simp [entryFrame, mkF, argsToLocals, Value.category]; done) | rfl
set_option maxRecDepth 65536 in
set_option maxHeartbeats 40000000 in
theorem rm_at_ge (l : Launch) (Z : State) (a0 : Array Value) (hw : ∀ d ∈ tables_1, d.before a0 Z = true) (ws : List Jvm.Cond) (o : Addr) (q : Addr) (x : Int32) (y : Int32) (h0 : Heap) (n0 : Nat) (Z0 : n0 ≤ h0.size) (F_rank_o : Fld Z h0 o "com/example/compartment/compartment/policy/Level" "rank" "I" (.int x)) (F_rank_q : Fld Z h0 q "com/example/compartment/compartment/policy/Level" "rank" "I" (.int y)) (hc8 : ¬ (x < y)) :
    MetFree l (⟨"com/example/compartment/compartment/policy/Level", "atLeast", "(Lcom/example/compartment/compartment/policy/Level;)Z"⟩ : MethodName) (head1 (Jvm.Cond.code (⟨"com/example/compartment/compartment/policy/Level", "atLeast", "(Lcom/example/compartment/compartment/policy/Level;)Z"⟩ : MethodName) prog_20_method_2_code 2 (some .boolean) :: ws) ({ frames := 0, cells := 0, slots := 0, locals := 0 } : Room)) (fun xa xU => xa = #[(.ref o), (.ref q)] ∧ Z.Warmed39 xU.vm ∧ xU.heap = h0) (fun _ _ _ _ _ => True) (fun _ xU xo xU' => ∃ xv xL, xo = .returned xv ∧ Q_at_ge Z o q x y h0 n0 xv xU'.heap xL ∧ FrameEnd xU xo xU' xL ({ frames := 0, cells := 0, slots := 0, locals := 0 } : Room).cells ({ frames := 0, cells := 0, slots := 0, locals := 0 } : Room).slots) := by
  refine MetFree.of_bodySF (plainFor_of_name pn_com_example_compartment_compartment_policy_Level) hisR ?_
  intro pP eE sS mM argS belowS methS cC s₁ Bd hml0 hP hK
  obtain ⟨rfl, hZ, hh⟩ := hP
  have hx := Bd.exec
  have hby := Bd.bytes
  have hml : cC.maxLocals = 2 := hml0
  have hown : sS.vm.findClass "com/example/compartment/compartment/policy/Level" = some mM.cls := findClass_of_methodNamed Bd.named
  have hnm := (name_of_methodNamed Bd.named Bd.method).1
  have X0 : Stand pP l eE ({ frames := 0, cells := 0, slots := 0, locals := 0 } : Room) sS mM #[(.ref o), (.ref q)] belowS methS cC s₁ [] 0 0 := Stand.of_body Bd
  have e0 : s₁.heap = h0 := by rw [← hh, Bd.state]; rfl
  have N0 := Fr.nil n0
  have pre0 : ∀ t', Steps pP.tables eE belowS (s₁.setTop (mkF mM 0 #[.val (.ref o), .val (.ref q)] [])) t' → Steps pP.tables eE belowS (s₁.setTop (entryFrame mM #[(.ref o), (.ref q)] 2)) t' := fun t' kk' => castTop (ef_at_ge mM o q x y) kk'
  obtain ⟨T101, X101, e101, st101⟩ := getF X0 hx hZ hown (host := "") (Or.inl (wi hw 51 rfl)) Via.refl e0 F_rank_o (g := (mkF mM 1 #[.val (.ref o), .val (.ref q)] [(.ref o)])) rfl rfl (hb hby d_prog_20_method_2_1)
  obtain ⟨T102, X102, e102, st102⟩ := getF X101 hx hZ hown (host := "") (Or.inl (wi hw 51 rfl)) Via.refl e101 F_rank_q (g := (mkF mM 5 #[.val (.ref o), .val (.ref q)] [(.ref q), (.int x)])) rfl rfl (hb hby d_prog_20_method_2_5)
  obtain ⟨fs, hr, hrun, hended, hW, hsame⟩ := X102.leave (v := some (.int (1 : Int32))) (fun h => by rw [Bd.returns] at h; cases h)
  refine ⟨_, _, pre0 _ ?_, hrun, hended, _, _, rfl, ?_, ⟨_, rfl⟩, hW, hsame.mono (by decide) (by decide)⟩
  · show SS pP eE belowS s₁ (mkF mM 0 #[.val (.ref o), .val (.ref q)] []) _
    refine XS.aloadN X0.here hx rfl (hb hby d_prog_20_method_2_0) rfl rfl ?_
    show SS pP eE belowS s₁ (mkF mM 1 #[.val (.ref o), .val (.ref q)] [(.ref o)]) _
    refine st101 _ ?_
    show SS pP eE belowS T101 (mkF mM 4 #[.val (.ref o), .val (.ref q)] [(.int x)]) _
    refine XS.aloadN X101.here hx rfl (hb hby d_prog_20_method_2_4) rfl rfl ?_
    show SS pP eE belowS T101 (mkF mM 5 #[.val (.ref o), .val (.ref q)] [(.ref q), (.int x)]) _
    refine st102 _ ?_
    show SS pP eE belowS T102 (mkF mM 8 #[.val (.ref o), .val (.ref q)] [(.int y), (.int x)]) _
    refine XS.icmpNo X102.here hx rfl (hb hby d_prog_20_method_2_8) rfl (flt hc8).1 ?_
    show SS pP eE belowS T102 (mkF mM 11 #[.val (.ref o), .val (.ref q)] []) _
    refine XS.iconst X102.here hx rfl (hb hby d_prog_20_method_2_11) ?_
    show SS pP eE belowS T102 (mkF mM 12 #[.val (.ref o), .val (.ref q)] [(.int (1 : Int32))]) _
    refine XS.goto X102.here hx rfl (pc0 := 12) (pc' := 16) rfl (hb hby d_prog_20_method_2_12) (by decide) (by decide) ?_
    show SS pP eE belowS T102 (mkF mM 16 #[.val (.ref o), .val (.ref q)] [(.int (1 : Int32))]) _
    exact retN X102 hx (t := .boolean) Bd.returns (by simp) (hb hby d_prog_20_method_2_16) hr
  · show Q_at_ge Z o q x y h0 n0 _ T102.heap _
    rw [e102]
    exact ⟨rfl, N0, rfl⟩
theorem d_method_2_0 : decode method_2_code 0 = .ok (.iload_n 0, 1) := by decide +kernel
theorem d_method_2_1 : decode method_2_code 1 = .ok (.i2l, 1) := by decide +kernel
theorem d_method_2_2 : decode method_2_code 2 = .ok (.iload_n 1, 1) := by decide +kernel
theorem d_method_2_3 : decode method_2_code 3 = .ok (.i2l, 1) := by decide +kernel
theorem d_method_2_4 : decode method_2_code 4 = .ok (.lsub, 1) := by decide +kernel
theorem d_method_2_5 : decode method_2_code 5 = .ok (.lstore_n 2, 1) := by decide +kernel
theorem d_method_2_6 : decode method_2_code 6 = .ok (.lload_n 2, 1) := by decide +kernel
theorem d_method_2_7 : decode method_2_code 7 = .ok (.lconst 0, 1) := by decide +kernel
theorem d_method_2_8 : decode method_2_code 8 = .ok (.lcmp, 1) := by decide +kernel
theorem d_method_2_9 : decode method_2_code 9 = .ok (.ifCond .lt 7, 3) := by decide +kernel
theorem d_method_2_16 : decode method_2_code 16 = .ok (.iconst 0, 1) := by decide +kernel
theorem d_method_2_17 : decode method_2_code 17 = .ok (.ireturn, 1) := by decide +kernel
theorem pn_com_example_compartment_compartment_policy_LevelAtLeastPinLaw : plainName "com/example/compartment/compartment/policy/LevelAtLeastPinLaw" = true := by first | (simp [plainName, overriddenIn]; done) | decide +kernel
def Q_dom_lt (Z : State) (x : Int32) (y : Int32) (h0 : Heap) (n0 : Nat) (xv : Option Value) (xh : Heap) (xL : List Loc) : Prop := xv = some (.int (0 : Int32)) ∧ Fr n0 xL ∧ xh = h0
abbrev Lc_dom_lt_0 (x : Int32) (y : Int32) : Array Slot := #[.val (.int x), .val (.int y), .val (.long ((x.toInt64) - (y.toInt64))), .second]
theorem ef_dom_lt (mM : MethodId) (x : Int32) (y : Int32) : entryFrame mM #[(.int x), (.int y)] 4 = mkF mM 0 #[.val (.int x), .val (.int y), .unset, .unset] [] := by first | (simp [entryFrame, mkF, argsToLocals, Value.category]; done) | rfl
set_option maxRecDepth 65536 in
set_option maxHeartbeats 40000000 in
theorem rm_dom_lt (l : Launch) (Z : State) (a0 : Array Value) (hw : ∀ d ∈ tables_1, d.before a0 Z = true) (ws : List Jvm.Cond) (x : Int32) (y : Int32) (h0 : Heap) (n0 : Nat) (Z0 : n0 ≤ h0.size) (hc9 : (lcmpW ((x.toInt64) - (y.toInt64)) (0 : Int64)) < (0 : Int32)) :
    MetFree l (⟨"com/example/compartment/compartment/policy/LevelAtLeastPinLaw", "dominatesRef", "(II)Z"⟩ : MethodName) (head1 (Jvm.Cond.code (⟨"com/example/compartment/compartment/policy/LevelAtLeastPinLaw", "dominatesRef", "(II)Z"⟩ : MethodName) method_2_code 4 (some .boolean) :: ws) ({ frames := 0, cells := 0, slots := 0, locals := 0 } : Room)) (fun xa xU => xa = #[(.int x), (.int y)] ∧ Z.Warmed39 xU.vm ∧ xU.heap = h0) (fun _ _ _ _ _ => True) (fun _ xU xo xU' => ∃ xv xL, xo = .returned xv ∧ Q_dom_lt Z x y h0 n0 xv xU'.heap xL ∧ FrameEnd xU xo xU' xL ({ frames := 0, cells := 0, slots := 0, locals := 0 } : Room).cells ({ frames := 0, cells := 0, slots := 0, locals := 0 } : Room).slots) := by
  refine MetFree.of_bodySF (plainFor_of_name pn_com_example_compartment_compartment_policy_LevelAtLeastPinLaw) hisR ?_
  intro pP eE sS mM argS belowS methS cC s₁ Bd hml0 hP hK
  obtain ⟨rfl, hZ, hh⟩ := hP
  have hx := Bd.exec
  have hby := Bd.bytes
  have hml : cC.maxLocals = 4 := hml0
  have hown : sS.vm.findClass "com/example/compartment/compartment/policy/LevelAtLeastPinLaw" = some mM.cls := findClass_of_methodNamed Bd.named
  have hnm := (name_of_methodNamed Bd.named Bd.method).1
  have X0 : Stand pP l eE ({ frames := 0, cells := 0, slots := 0, locals := 0 } : Room) sS mM #[(.int x), (.int y)] belowS methS cC s₁ [] 0 0 := Stand.of_body Bd
  have e0 : s₁.heap = h0 := by rw [← hh, Bd.state]; rfl
  have N0 := Fr.nil n0
  have pre0 : ∀ t', Steps pP.tables eE belowS (s₁.setTop (mkF mM 0 #[.val (.int x), .val (.int y), .unset, .unset] [])) t' → Steps pP.tables eE belowS (s₁.setTop (entryFrame mM #[(.int x), (.int y)] 4)) t' := fun t' kk' => castTop (ef_dom_lt mM x y) kk'
  obtain ⟨fs, hr, hrun, hended, hW, hsame⟩ := X0.leave (v := some (.int (0 : Int32))) (fun h => by rw [Bd.returns] at h; cases h)
  refine ⟨_, _, pre0 _ ?_, hrun, hended, _, _, rfl, ?_, ⟨_, rfl⟩, hW, hsame.mono (by decide) (by decide)⟩
  · show SS pP eE belowS s₁ (mkF mM 0 #[.val (.int x), .val (.int y), .unset, .unset] []) _
    refine XS.iloadN X0.here hx rfl (hb hby d_method_2_0) rfl ?_
    show SS pP eE belowS s₁ (mkF mM 1 #[.val (.int x), .val (.int y), .unset, .unset] [(.int x)]) _
    refine XS.i2l X0.here hx rfl (hb hby d_method_2_1) rfl ?_
    show SS pP eE belowS s₁ (mkF mM 2 #[.val (.int x), .val (.int y), .unset, .unset] [(.long (x.toInt64))]) _
    refine XS.iloadN X0.here hx rfl (hb hby d_method_2_2) rfl ?_
    show SS pP eE belowS s₁ (mkF mM 3 #[.val (.int x), .val (.int y), .unset, .unset] [(.int y), (.long (x.toInt64))]) _
    refine XS.i2l X0.here hx rfl (hb hby d_method_2_3) rfl ?_
    show SS pP eE belowS s₁ (mkF mM 4 #[.val (.int x), .val (.int y), .unset, .unset] [(.long (y.toInt64)), (.long (x.toInt64))]) _
    refine XS.lsub X0.here hx rfl (hb hby d_method_2_4) rfl ?_
    show SS pP eE belowS s₁ (mkF mM 5 #[.val (.int x), .val (.int y), .unset, .unset] [(.long ((x.toInt64) - (y.toInt64)))]) _
    refine XS.lstoreN X0.here hx rfl (hb hby d_method_2_5) rfl (l' := (Lc_dom_lt_0 x y)) rfl ?_
    show SS pP eE belowS s₁ (mkF mM 6 (Lc_dom_lt_0 x y) []) _
    refine XS.lloadN X0.here hx rfl (hb hby d_method_2_6) rfl ?_
    show SS pP eE belowS s₁ (mkF mM 7 (Lc_dom_lt_0 x y) [(.long ((x.toInt64) - (y.toInt64)))]) _
    refine XS.lconst X0.here hx rfl (hb hby d_method_2_7) ?_
    show SS pP eE belowS s₁ (mkF mM 8 (Lc_dom_lt_0 x y) [(.long (0 : Int64)), (.long ((x.toInt64) - (y.toInt64)))]) _
    refine XS.lcmp X0.here hx rfl (hb hby d_method_2_8) rfl ?_
    show SS pP eE belowS s₁ (mkF mM 9 (Lc_dom_lt_0 x y) [(.int (lcmpW ((x.toInt64) - (y.toInt64)) (0 : Int64)))]) _
    refine XS.ifYes X0.here hx rfl (pc0 := 9) (pc' := 16) rfl (hb hby d_method_2_9) rfl ((if0 _ _).trans (tlt hc9).1) (by decide) (by decide) ?_
    show SS pP eE belowS s₁ (mkF mM 16 (Lc_dom_lt_0 x y) []) _
    refine XS.iconst X0.here hx rfl (hb hby d_method_2_16) ?_
    show SS pP eE belowS s₁ (mkF mM 17 (Lc_dom_lt_0 x y) [(.int (0 : Int32))]) _
    exact retN X0 hx (t := .boolean) Bd.returns (by simp) (hb hby d_method_2_17) hr
  · show Q_dom_lt Z x y h0 n0 _ s₁.heap _
    rw [e0]
    exact ⟨rfl, N0, rfl⟩
theorem d_method_2_12 : decode method_2_code 12 = .ok (.iconst 1, 1) := by decide +kernel
theorem d_method_2_13 : decode method_2_code 13 = .ok (.goto 4, 3) := by decide +kernel
def Q_dom_ge (Z : State) (x : Int32) (y : Int32) (h0 : Heap) (n0 : Nat) (xv : Option Value) (xh : Heap) (xL : List Loc) : Prop := xv = some (.int (1 : Int32)) ∧ Fr n0 xL ∧ xh = h0
abbrev Lc_dom_ge_0 (x : Int32) (y : Int32) : Array Slot := #[.val (.int x), .val (.int y), .val (.long ((x.toInt64) - (y.toInt64))), .second]
theorem ef_dom_ge (mM : MethodId) (x : Int32) (y : Int32) : entryFrame mM #[(.int x), (.int y)] 4 = mkF mM 0 #[.val (.int x), .val (.int y), .unset, .unset] [] := by first | (simp [entryFrame, mkF, argsToLocals, Value.category]; done) | rfl
set_option maxRecDepth 65536 in
set_option maxHeartbeats 40000000 in
theorem rm_dom_ge (l : Launch) (Z : State) (a0 : Array Value) (hw : ∀ d ∈ tables_1, d.before a0 Z = true) (ws : List Jvm.Cond) (x : Int32) (y : Int32) (h0 : Heap) (n0 : Nat) (Z0 : n0 ≤ h0.size) (hc9 : ¬ ((lcmpW ((x.toInt64) - (y.toInt64)) (0 : Int64)) < (0 : Int32))) :
    MetFree l (⟨"com/example/compartment/compartment/policy/LevelAtLeastPinLaw", "dominatesRef", "(II)Z"⟩ : MethodName) (head1 (Jvm.Cond.code (⟨"com/example/compartment/compartment/policy/LevelAtLeastPinLaw", "dominatesRef", "(II)Z"⟩ : MethodName) method_2_code 4 (some .boolean) :: ws) ({ frames := 0, cells := 0, slots := 0, locals := 0 } : Room)) (fun xa xU => xa = #[(.int x), (.int y)] ∧ Z.Warmed39 xU.vm ∧ xU.heap = h0) (fun _ _ _ _ _ => True) (fun _ xU xo xU' => ∃ xv xL, xo = .returned xv ∧ Q_dom_ge Z x y h0 n0 xv xU'.heap xL ∧ FrameEnd xU xo xU' xL ({ frames := 0, cells := 0, slots := 0, locals := 0 } : Room).cells ({ frames := 0, cells := 0, slots := 0, locals := 0 } : Room).slots) := by
  refine MetFree.of_bodySF (plainFor_of_name pn_com_example_compartment_compartment_policy_LevelAtLeastPinLaw) hisR ?_
  intro pP eE sS mM argS belowS methS cC s₁ Bd hml0 hP hK
  obtain ⟨rfl, hZ, hh⟩ := hP
  have hx := Bd.exec
  have hby := Bd.bytes
  have hml : cC.maxLocals = 4 := hml0
  have hown : sS.vm.findClass "com/example/compartment/compartment/policy/LevelAtLeastPinLaw" = some mM.cls := findClass_of_methodNamed Bd.named
  have hnm := (name_of_methodNamed Bd.named Bd.method).1
  have X0 : Stand pP l eE ({ frames := 0, cells := 0, slots := 0, locals := 0 } : Room) sS mM #[(.int x), (.int y)] belowS methS cC s₁ [] 0 0 := Stand.of_body Bd
  have e0 : s₁.heap = h0 := by rw [← hh, Bd.state]; rfl
  have N0 := Fr.nil n0
  have pre0 : ∀ t', Steps pP.tables eE belowS (s₁.setTop (mkF mM 0 #[.val (.int x), .val (.int y), .unset, .unset] [])) t' → Steps pP.tables eE belowS (s₁.setTop (entryFrame mM #[(.int x), (.int y)] 4)) t' := fun t' kk' => castTop (ef_dom_ge mM x y) kk'
  obtain ⟨fs, hr, hrun, hended, hW, hsame⟩ := X0.leave (v := some (.int (1 : Int32))) (fun h => by rw [Bd.returns] at h; cases h)
  refine ⟨_, _, pre0 _ ?_, hrun, hended, _, _, rfl, ?_, ⟨_, rfl⟩, hW, hsame.mono (by decide) (by decide)⟩
  · show SS pP eE belowS s₁ (mkF mM 0 #[.val (.int x), .val (.int y), .unset, .unset] []) _
    refine XS.iloadN X0.here hx rfl (hb hby d_method_2_0) rfl ?_
    show SS pP eE belowS s₁ (mkF mM 1 #[.val (.int x), .val (.int y), .unset, .unset] [(.int x)]) _
    refine XS.i2l X0.here hx rfl (hb hby d_method_2_1) rfl ?_
    show SS pP eE belowS s₁ (mkF mM 2 #[.val (.int x), .val (.int y), .unset, .unset] [(.long (x.toInt64))]) _
    refine XS.iloadN X0.here hx rfl (hb hby d_method_2_2) rfl ?_
    show SS pP eE belowS s₁ (mkF mM 3 #[.val (.int x), .val (.int y), .unset, .unset] [(.int y), (.long (x.toInt64))]) _
    refine XS.i2l X0.here hx rfl (hb hby d_method_2_3) rfl ?_
    show SS pP eE belowS s₁ (mkF mM 4 #[.val (.int x), .val (.int y), .unset, .unset] [(.long (y.toInt64)), (.long (x.toInt64))]) _
    refine XS.lsub X0.here hx rfl (hb hby d_method_2_4) rfl ?_
    show SS pP eE belowS s₁ (mkF mM 5 #[.val (.int x), .val (.int y), .unset, .unset] [(.long ((x.toInt64) - (y.toInt64)))]) _
    refine XS.lstoreN X0.here hx rfl (hb hby d_method_2_5) rfl (l' := (Lc_dom_ge_0 x y)) rfl ?_
    show SS pP eE belowS s₁ (mkF mM 6 (Lc_dom_ge_0 x y) []) _
    refine XS.lloadN X0.here hx rfl (hb hby d_method_2_6) rfl ?_
    show SS pP eE belowS s₁ (mkF mM 7 (Lc_dom_ge_0 x y) [(.long ((x.toInt64) - (y.toInt64)))]) _
    refine XS.lconst X0.here hx rfl (hb hby d_method_2_7) ?_
    show SS pP eE belowS s₁ (mkF mM 8 (Lc_dom_ge_0 x y) [(.long (0 : Int64)), (.long ((x.toInt64) - (y.toInt64)))]) _
    refine XS.lcmp X0.here hx rfl (hb hby d_method_2_8) rfl ?_
    show SS pP eE belowS s₁ (mkF mM 9 (Lc_dom_ge_0 x y) [(.int (lcmpW ((x.toInt64) - (y.toInt64)) (0 : Int64)))]) _
    refine XS.ifNo X0.here hx rfl (hb hby d_method_2_9) rfl ((if0 _ _).trans (flt hc9).1) ?_
    show SS pP eE belowS s₁ (mkF mM 12 (Lc_dom_ge_0 x y) []) _
    refine XS.iconst X0.here hx rfl (hb hby d_method_2_12) ?_
    show SS pP eE belowS s₁ (mkF mM 13 (Lc_dom_ge_0 x y) [(.int (1 : Int32))]) _
    refine XS.goto X0.here hx rfl (pc0 := 13) (pc' := 17) rfl (hb hby d_method_2_13) (by decide) (by decide) ?_
    show SS pP eE belowS s₁ (mkF mM 17 (Lc_dom_ge_0 x y) [(.int (1 : Int32))]) _
    exact retN X0 hx (t := .boolean) Bd.returns (by simp) (hb hby d_method_2_17) hr
  · show Q_dom_ge Z x y h0 n0 _ s₁.heap _
    rw [e0]
    exact ⟨rfl, N0, rfl⟩
theorem own_lim (x : Int32) : ¬ ((255 : Int32) < x &&& (255 : Int32)) := by
  have q := c_and x 255 (by decide)
  rw [Int32.lt_iff_toInt_lt]
  have e : (255 : Int32).toInt = 255 := by decide
  omega
theorem own_dom (x y : Int32) : (lcmpW (x.toInt64 - y.toInt64) (0 : Int64)) < (0 : Int32) ↔ x < y := by
  rw [lw_lt, Int64.lt_iff_toInt_lt, Int32.lt_iff_toInt_lt]
  have h1 := c_lsub x.toInt64 y.toInt64
  rw [c_i2l, c_i2l] at h1
  have a := rng32 x
  have b := rng32 y
  have d := rng64 (x.toInt64 - y.toInt64)
  have e : (0 : Int64).toInt = 0 := by decide
  omega
def Q_law (n0 : Nat) (v : Option Value) (L : List Loc) : Prop := v = some (.int 1) ∧ Fr n0 L
theorem pd_0 : parseMethodDescriptor "([C)V" = some ⟨[(.array .char)], none⟩ := by decide +kernel
theorem pd_6 : parseMethodDescriptor "(Ljava/lang/String;I)V" = some ⟨[(.object "java/lang/String"), .int], none⟩ := by decide +kernel
theorem pd_8 : parseMethodDescriptor "(Lcom/example/compartment/compartment/policy/Level;)Z" = some ⟨[(.object "com/example/compartment/compartment/policy/Level")], some .boolean⟩ := by decide +kernel
theorem pd_9 : parseMethodDescriptor "(II)Z" = some ⟨[.int, .int], some .boolean⟩ := by decide +kernel
abbrev Lc_law_eq_0 (p0 : Int32) (p2 : Int32) (p3 : Int32) (p4 : Int32) : Array Slot := #[.val (.int p0), .val (.int p0), .val (.int p2), .val (.int p3), .val (.int p4), .unset, .unset, .unset, .unset, .unset, .unset, .unset, .unset]
abbrev Lc_law_eq_1 (p0 : Int32) (p2 : Int32) (p3 : Int32) (p4 : Int32) (b101 : Addr) : Array Slot := #[.val (.int p0), .val (.int p0), .val (.int p2), .val (.int p3), .val (.int p4), .val (.ref b101), .unset, .unset, .unset, .unset, .unset, .unset, .unset]
abbrev Lc_law_eq_2 (p0 : Int32) (p2 : Int32) (p3 : Int32) (p4 : Int32) (b101 : Addr) (b107 : Addr) : Array Slot := #[.val (.int p0), .val (.int p0), .val (.int p2), .val (.int p3), .val (.int p4), .val (.ref b101), .val (.ref b107), .unset, .unset, .unset, .unset, .unset, .unset]
abbrev Lc_law_eq_3 (p0 : Int32) (p2 : Int32) (p3 : Int32) (p4 : Int32) (b101 : Addr) (b107 : Addr) (b111 : Addr) : Array Slot := #[.val (.int p0), .val (.int p0), .val (.int p2), .val (.int p3), .val (.int p4), .val (.ref b101), .val (.ref b107), .val (.ref b111), .unset, .unset, .unset, .unset, .unset]
abbrev Lc_law_eq_4 (p0 : Int32) (p2 : Int32) (p3 : Int32) (p4 : Int32) (b101 : Addr) (b107 : Addr) (b111 : Addr) (b136 : Addr) : Array Slot := #[.val (.int p0), .val (.int p0), .val (.int p2), .val (.int p3), .val (.int p4), .val (.ref b101), .val (.ref b107), .val (.ref b111), .val (.ref b136), .unset, .unset, .unset, .unset]
abbrev Lc_law_eq_5 (p0 : Int32) (p2 : Int32) (p3 : Int32) (p4 : Int32) (b101 : Addr) (b107 : Addr) (b111 : Addr) (b136 : Addr) : Array Slot := #[.val (.int p0), .val (.int p0), .val (.int p2), .val (.int p3), .val (.int p4), .val (.ref b101), .val (.ref b107), .val (.ref b111), .val (.ref b136), .val (.int (1 : Int32)), .unset, .unset, .unset]
abbrev Lc_law_eq_6 (p0 : Int32) (p2 : Int32) (p3 : Int32) (p4 : Int32) (b101 : Addr) (b107 : Addr) (b111 : Addr) (b136 : Addr) : Array Slot := #[.val (.int p0), .val (.int p0), .val (.int p2), .val (.int p3), .val (.int p4), .val (.ref b101), .val (.ref b107), .val (.ref b111), .val (.ref b136), .val (.int (1 : Int32)), .val (.int (1 : Int32)), .unset, .unset]
abbrev Lc_law_eq_7 (p0 : Int32) (p2 : Int32) (p3 : Int32) (p4 : Int32) (b101 : Addr) (b107 : Addr) (b111 : Addr) (b136 : Addr) : Array Slot := #[.val (.int p0), .val (.int p0), .val (.int p2), .val (.int p3), .val (.int p4), .val (.ref b101), .val (.ref b107), .val (.ref b111), .val (.ref b136), .val (.int (1 : Int32)), .val (.int (1 : Int32)), .val (.int (1 : Int32)), .unset]
abbrev Lc_law_eq_8 (p0 : Int32) (p2 : Int32) (p3 : Int32) (p4 : Int32) (b101 : Addr) (b107 : Addr) (b111 : Addr) (b136 : Addr) : Array Slot := #[.val (.int p0), .val (.int p0), .val (.int p2), .val (.int p3), .val (.int p4), .val (.ref b101), .val (.ref b107), .val (.ref b111), .val (.ref b136), .val (.int (1 : Int32)), .val (.int (1 : Int32)), .val (.int (1 : Int32)), .val (.int (1 : Int32))]
theorem ef_law_eq (mM : MethodId) (p0 : Int32) (p2 : Int32) (p3 : Int32) (p4 : Int32) (cs : Int32) : entryFrame mM #[(.int p0), (.int p0), (.int p2), (.int p3), (.int p4)] maxLocals = mkF mM 0 #[.val (.int p0), .val (.int p0), .val (.int p2), .val (.int p3), .val (.int p4), .unset, .unset, .unset, .unset, .unset, .unset, .unset, .unset] [] := by first | (simp [entryFrame, mkF, argsToLocals, Value.category, maxLocals]; done) | rfl
set_option maxRecDepth 65536 in
set_option maxHeartbeats 40000000 in
theorem rm_law_eq (l : Launch) (Z : State) (a0 : Array Value) (hw : ∀ d ∈ tables_1, d.before a0 Z = true) (ws : List Jvm.Cond) (p0 : Int32) (p2 : Int32) (p3 : Int32) (p4 : Int32) (cs : Int32) (h0 : Heap) (n0 : Nat) (Z0 : n0 ≤ h0.size) (OL : Old Z n0 h0) (S_COMPACT_STRINGS : Sta Z Z.heap "java/lang/String" "COMPACT_STRINGS" "Z" (.int cs)) (hcs : ¬ (cs = (0 : Int32))) :
    MetFree l x (head1 (Jvm.Cond.code x code maxLocals ret :: ws) room_1) (fun xa xU => xa = #[(.int p0), (.int p0), (.int p2), (.int p3), (.int p4)] ∧ Z.Warmed39 xU.vm ∧ xU.heap = h0) (fun _ _ _ _ _ => True) (fun _ xU xo xU' => ∃ xv xL, xo = .returned xv ∧ Q_law n0 xv xL ∧ ReturnedEndW xU xo xU' xL room_1.cells room_1.slots) := by
  refine MetFree.of_bodySF (plainFor_of_name pn_com_example_compartment_compartment_policy_LevelAtLeastPinLaw) hisR ?_
  intro pP eE sS mM argS belowS methS cC s₁ Bd hml0 hP hK
  obtain ⟨rfl, hZ, hh⟩ := hP
  have hx := Bd.exec
  have hby := Bd.bytes
  have hml : cC.maxLocals = 13 := hml0
  have hown : sS.vm.findClass "com/example/compartment/compartment/policy/LevelAtLeastPinLaw" = some mM.cls := findClass_of_methodNamed Bd.named
  have hnm := (name_of_methodNamed Bd.named Bd.method).1
  have X0 : Stand pP l eE room_1 (sS.setVm sS.vm) mM #[(.int p0), (.int p0), (.int p2), (.int p3), (.int p4)] belowS methS cC s₁ [] 0 0 := Stand.of_body Bd
  have e0 : s₁.heap = h0 := by rw [← hh, Bd.state]; rfl
  have N0 := Fr.nil n0
  have pre0 : ∀ t', Steps pP.tables eE belowS (s₁.setTop (mkF mM 0 #[.val (.int p0), .val (.int p0), .val (.int p2), .val (.int p3), .val (.int p4), .unset, .unset, .unset, .unset, .unset, .unset, .unset, .unset] [])) t' → Steps pP.tables eE belowS (s₁.setTop (entryFrame mM #[(.int p0), (.int p0), (.int p2), (.int p3), (.int p4)] maxLocals)) t' := fun t' kk' => castTop (ef_law_eq mM p0 p2 p3 p4 cs) kk'
  have hZ0 : Z.Warmed39 (sS.setVm sS.vm).vm := hZ
  have hown0 : (sS.setVm sS.vm).vm.findClass "com/example/compartment/compartment/policy/LevelAtLeastPinLaw" = some mM.cls := hown
  have hS0 : sS.Since sS.vm 0 := (State.WarmedH.refl sS).since 0
  obtain ⟨T101, h101, k101, X101, e101, E101, A101, st101⟩ := newP X0 hx hZ0 (wi hw 0 rfl) e0 (g := (mkF mM 1 (Lc_law_eq_0 p0 p2 p3 p4) [(.int (2 : Int32))])) rfl (hb hby at_1) rfl (by decide) (cap := 2) (by decide) (by decide) (by decide) (by decide)
  obtain ⟨b101, g101⟩ : ∃ z : Nat, z = h0.size := ⟨_, rfl⟩
  rw [← g101] at A101 st101
  have Sz1 : h0.size ≤ h101.size := E101.1
  have V_b101 : Arv Z h101 b101 k101 .char (2 : Int32) [(.int (0 : Int32)), (.int (0 : Int32))] (.int (0 : Int32)) := (Arv.new A101 (by decide)).pad (pad_rep [] (.int (0 : Int32)) 2)
  obtain ⟨cl102, Ar102, q102, S102, Ng102, Ha102, Ga102⟩ := id V_b101
  have hin102 : ¬ ((0 : Int32) < 0 ∨ cl102.slots.size ≤ ((0 : Int32)).toNatClampNeg) := inb_of S102 ⟨by decide, by decide⟩
  obtain ⟨T103, h103, X103, e103, W103, st103⟩ := stC X101 hx hZ0 e101 Ar102 (j := (0 : Int32)) hin102 (g := (mkF mM 11 (Lc_law_eq_0 p0 p2 p3 p4) [(.int (p2 &&& (255 : Int32))), (.int (0 : Int32)), (.ref b101), (.ref b101)])) rfl rfl (hb hby at_11)
  have ge104_b101 : @LE.le Nat _ n0 b101 := by omega
  have Sz2 : h101.size ≤ h103.size := Nat.le_of_eq (Wr.size W103).symm
  have Vs103 := Arv.set Ar102 q102 S102 Ng102 Ha102 Ga102 (fits_nar_char _) W103 0 rfl (Nat.le_of_ble_eq_true rfl)
  have Vt103 : Arv Z h103 b101 k101 .char (2 : Int32) [(.int (p2 &&& (255 : Int32))), (.int (0 : Int32))] (.int (0 : Int32)) := by
    have q : Arv Z h103 b101 k101 .char (2 : Int32) [(.int (p2 &&& (255 : Int32)).toUInt32.toUInt16.toUInt32.toInt32), (.int (0 : Int32))] (.int (0 : Int32)) := Vs103
    rw [show ((.int (p2 &&& (255 : Int32)).toUInt32.toUInt16.toUInt32.toInt32) : Value) = (.int (p2 &&& (255 : Int32))) from congrArg Value.int (i2c_mask p2)] at q
    exact q
  have N103 := Fr.snoc X103 N0 ge104_b101
  obtain ⟨cl105, Ar105, q105, S105, Ng105, Ha105, Ga105⟩ := id Vt103
  have hin105 : ¬ ((1 : Int32) < 0 ∨ cl105.slots.size ≤ ((1 : Int32)).toNatClampNeg) := inb_of S105 ⟨by decide, by decide⟩
  obtain ⟨T106, h106, X106, e106, W106, st106⟩ := stC X103 hx hZ0 e103 Ar105 (j := (1 : Int32)) hin105 (g := (mkF mM 21 (Lc_law_eq_0 p0 p2 p3 p4) [(.int (p4 &&& (255 : Int32))), (.int (1 : Int32)), (.ref b101), (.ref b101)])) rfl rfl (hb hby at_21)
  have Sz3 : h103.size ≤ h106.size := Nat.le_of_eq (Wr.size W106).symm
  have Vs106 := Arv.set Ar105 q105 S105 Ng105 Ha105 Ga105 (fits_nar_char _) W106 1 rfl (Nat.le_of_ble_eq_true rfl)
  have Vt106 : Arv Z h106 b101 k101 .char (2 : Int32) [(.int (p2 &&& (255 : Int32))), (.int (p4 &&& (255 : Int32)))] (.int (0 : Int32)) := by
    have q : Arv Z h106 b101 k101 .char (2 : Int32) [(.int (p2 &&& (255 : Int32))), (.int (p4 &&& (255 : Int32)).toUInt32.toUInt16.toUInt32.toInt32)] (.int (0 : Int32)) := Vs106
    rw [show ((.int (p4 &&& (255 : Int32)).toUInt32.toUInt16.toUInt32.toInt32) : Value) = (.int (p4 &&& (255 : Int32))) from congrArg Value.int (i2c_mask p4)] at q
    exact q
  have N106 := Fr.snoc X106 N103 ge104_b101
  obtain ⟨T107, h107, k107, X107, e107, E107, A107, st107⟩ := newP X106 hx hZ0 (wi hw 0 rfl) e106 (g := (mkF mM 25 (Lc_law_eq_1 p0 p2 p3 p4 b101) [(.int (1 : Int32))])) rfl (hb hby at_25) rfl (by decide) (cap := 1) (by decide) (by decide) (by decide) (by decide)
  obtain ⟨b107, g107⟩ : ∃ z : Nat, z = h106.size := ⟨_, rfl⟩
  rw [← g107] at A107 st107
  have Sz4 : h106.size ≤ h107.size := E107.1
  have V_b107 : Arv Z h107 b107 k107 .char (1 : Int32) [(.int (0 : Int32))] (.int (0 : Int32)) := (Arv.new A107 (by decide)).pad (pad_rep [] (.int (0 : Int32)) 1)
  obtain ⟨cl108, Ar108, q108, S108, Ng108, Ha108, Ga108⟩ := id V_b107
  have hin108 : ¬ ((0 : Int32) < 0 ∨ cl108.slots.size ≤ ((0 : Int32)).toNatClampNeg) := inb_of S108 ⟨by decide, by decide⟩
  obtain ⟨T109, h109, X109, e109, W109, st109⟩ := stC X107 hx hZ0 e107 Ar108 (j := (0 : Int32)) hin108 (g := (mkF mM 35 (Lc_law_eq_1 p0 p2 p3 p4 b101) [(.int (p3 &&& (255 : Int32))), (.int (0 : Int32)), (.ref b107), (.ref b107)])) rfl rfl (hb hby at_35)
  have ge110_b107 : @LE.le Nat _ n0 b107 := by omega
  have Sz5 : h107.size ≤ h109.size := Nat.le_of_eq (Wr.size W109).symm
  have Vs109 := Arv.set Ar108 q108 S108 Ng108 Ha108 Ga108 (fits_nar_char _) W109 0 rfl (Nat.le_of_ble_eq_true rfl)
  have Vt109 : Arv Z h109 b107 k107 .char (1 : Int32) [(.int (p3 &&& (255 : Int32)))] (.int (0 : Int32)) := by
    have q : Arv Z h109 b107 k107 .char (1 : Int32) [(.int (p3 &&& (255 : Int32)).toUInt32.toUInt16.toUInt32.toInt32)] (.int (0 : Int32)) := Vs109
    rw [show ((.int (p3 &&& (255 : Int32)).toUInt32.toUInt16.toUInt32.toInt32) : Value) = (.int (p3 &&& (255 : Int32))) from congrArg Value.int (i2c_mask p3)] at q
    exact q
  have N109 := Fr.snoc X109 N106 ge110_b107
  obtain ⟨T111, h111, X111, e111, E111, A111, D111, B111, st111⟩ := newO X109 hx hZ0 hown0 (wi hw 1 rfl) (wi hw 2 rfl) (wi hw 3 rfl) e109 (g := (mkF mM 38 (Lc_law_eq_2 p0 p2 p3 p4 b101 b107) [])) rfl (hb hby at_38) (by decide) (by decide)
  obtain ⟨b111, g111⟩ : ∃ z : Nat, z = h109.size := ⟨_, rfl⟩
  rw [← g111] at A111 D111 B111 st111
  have Sz6 : h109.size ≤ h111.size := E111.1
  have F111_name : Fld Z h111 b111 "com/example/compartment/compartment/policy/Level" "name" "Ljava/lang/String;" .null := D111 (Or.inr (wi hw 50 rfl)) (ty := (.object "java/lang/String")) (by decide)
  have F111_rank : Fld Z h111 b111 "com/example/compartment/compartment/policy/Level" "rank" "I" (.int (0 : Int32)) := D111 (Or.inr (wi hw 52 rfl)) (ty := .int) (by decide)
  obtain ⟨T112, h112, X112, e112, E112, A112, D112, B112, st112⟩ := newO X111 hx hZ0 hown0 (wi hw 4 rfl) (wi hw 5 rfl) (wi hw 6 rfl) e111 (g := (mkF mM 42 (Lc_law_eq_2 p0 p2 p3 p4 b101 b107) [(.ref b111), (.ref b111)])) rfl (hb hby at_42) (by decide) (by decide)
  obtain ⟨b112, g112⟩ : ∃ z : Nat, z = h111.size := ⟨_, rfl⟩
  rw [← g112] at A112 D112 B112 st112
  have Sz7 : h111.size ≤ h112.size := E112.1
  have F112_coder : Fld Z h112 b112 "java/lang/String" "coder" "B" (.int (0 : Int32)) := D112 (Or.inr (wi hw 30 rfl)) (ty := .byte) (by decide)
  have F112_value : Fld Z h112 b112 "java/lang/String" "value" "[B" .null := D112 (Or.inr (wi hw 32 rfl)) (ty := (.array .byte)) (by decide)
  have c114_V_b101 : Arv Z h107 b101 k101 .char (2 : Int32) [(.int (p2 &&& (255 : Int32))), (.int (p4 &&& (255 : Int32)))] (.int (0 : Int32)) := Vt106.ext E107
  have lt_b101 : @LT.lt Nat _ b101 h106.size := Vt106.lt
  have lt_b107 : @LT.lt Nat _ b107 h109.size := Vt109.lt
  have ne_b101_b107_115 : b101 ≠ b107 := (by omega : @Ne Nat b101 b107)
  have c116_V_b101 : Arv Z h109 b101 k101 .char (2 : Int32) [(.int (p2 &&& (255 : Int32))), (.int (p4 &&& (255 : Int32)))] (.int (0 : Int32)) := c114_V_b101.other W109 ne_b101_b107_115
  have c117_V_b101 : Arv Z h111 b101 k101 .char (2 : Int32) [(.int (p2 &&& (255 : Int32))), (.int (p4 &&& (255 : Int32)))] (.int (0 : Int32)) := c116_V_b101.ext E111
  have c118_V_b101 : Arv Z h112 b101 k101 .char (2 : Int32) [(.int (p2 &&& (255 : Int32))), (.int (p4 &&& (255 : Int32)))] (.int (0 : Int32)) := c117_V_b101.ext E112
  have c119_OL : Old Z n0 h101 := OL.ext E101
  have c120_OL : Old Z n0 h103 := c119_OL.wr W103 ge104_b101
  have c121_OL : Old Z n0 h106 := c120_OL.wr W106 ge104_b101
  have c122_OL : Old Z n0 h107 := c121_OL.ext E107
  have c123_OL : Old Z n0 h109 := c122_OL.wr W109 ge110_b107
  have c124_OL : Old Z n0 h111 := c123_OL.ext E111
  have c125_OL : Old Z n0 h112 := c124_OL.ext E112
  have ge126_b112 : @LE.le Nat _ n0 b112 := by omega
  obtain ⟨_, _, ⟨T113, L113, k113, n113⟩, -, X113, ⟨Lc113, hQ113, l113, y113, z113⟩, st113⟩ := X112.specialBack hx (y := (⟨"java/lang/String", "<init>", "([C)V"⟩ : MethodName)) rfl hown0 (mvT hZ0 (wi hw 7 rfl)) (mvT hZ0 (wi hw 8 rfl)) (mvT hZ0 (wi hw 9 rfl)) (by decide) (backOf (W := 3) (rm_init1_s2 l Z a0 hw [] b112 b101 k101 .null (.int (0 : Int32)) cs (p2 &&& (255 : Int32)) (p4 &&& (255 : Int32)) h112 n0 (by omega) A112 F112_value F112_coder c118_V_b101 ge126_b112 c125_OL S_COMPACT_STRINGS hcs (own_lim _) (own_lim _)) hZ0 (wi hw 9 rfl) (wi hw 6 rfl) (by decide) (by decide)) (g := (mkF mM 48 (Lc_law_eq_2 p0 p2 p3 p4 b101 b107) [(.ref b101), (.ref b112), (.ref b112), (.ref b111), (.ref b111)])) rfl (by rw [hml]; rfl) (Steps.refl _) (a := b112) (argsL := [(.ref b101)]) (rest := [(.ref b112), (.ref b111), (.ref b111)]) (lenOf pd_0 rfl) rfl (by show 2 * 0 + _ ≤ _; exact Nat.le_of_eq rfl) (hb hby at_48) (fun _ _ => ⟨rfl, e112, Nat.le_of_ble_eq_true rfl, Nat.le_of_ble_eq_true rfl⟩)
  dsimp only [Pt.U, Pt.locs, Pt.cells, Pt.slots] at X113 l113 y113 z113 st113 hQ113
  subst l113 y113 z113
  obtain ⟨h113, e113⟩ : ∃ z, T113.heap = z := ⟨_, rfl⟩
  rw [e113] at hQ113
  obtain ⟨b_113, k2_113, rfl, N113q, Kp113, p113_E_o, p113_F_value_o, p113_F_coder_o, p113_V_b, p113_gh_b⟩ := hQ113
  have Sz8 : h112.size ≤ h113.size := Kp113.1
  have N113 := Fr.app N109 N113q
  have c128_E_b111 : Exa Z h112 b111 "com/example/compartment/compartment/policy/Level" := Exa.ext E112 A111
  have c129_E_b111 : Exa Z h113 b111 "com/example/compartment/compartment/policy/Level" := c128_E_b111.keep Kp113
  have c130_F_name_b111 : Fld Z h112 b111 "com/example/compartment/compartment/policy/Level" "name" "Ljava/lang/String;" .null := Fld.ext E112 F111_name
  have lt_b111 : @LT.lt Nat _ b111 h111.size := A111.lt
  have lt_b112 : @LT.lt Nat _ b112 h113.size := p113_E_o.lt
  have ne_b111_b112_131 : b111 ≠ b112 := (by omega : @Ne Nat b111 b112)
  have c132_F_name_b111 : Fld Z h113 b111 "com/example/compartment/compartment/policy/Level" "name" "Ljava/lang/String;" .null := c130_F_name_b111.keep Kp113 (ninS ne_b111_b112_131 nin0)
  have c133_F_rank_b111 : Fld Z h112 b111 "com/example/compartment/compartment/policy/Level" "rank" "I" (.int (0 : Int32)) := Fld.ext E112 F111_rank
  have c134_F_rank_b111 : Fld Z h113 b111 "com/example/compartment/compartment/policy/Level" "rank" "I" (.int (0 : Int32)) := c133_F_rank_b111.keep Kp113 (ninS ne_b111_b112_131 nin0)
  have ge135_b111 : @LE.le Nat _ n0 b111 := by omega
  obtain ⟨_, _, ⟨T127, L127, k127, n127⟩, -, X127, hs127, hg127, ⟨Lc127, hQ127, l127, y127, z127⟩, st127⟩ := X113.specialBackS hx (y := (⟨"com/example/compartment/compartment/policy/Level", "<init>", "(Ljava/lang/String;I)V"⟩ : MethodName)) rfl hown0 (mvT hZ0 (wi hw 33 rfl)) (mvT hZ0 (wi hw 34 rfl)) (mvT hZ0 (wi hw 35 rfl)) (by decide) (backOfS (W := 1) (rm_lev l Z a0 hw [] b111 b112 p0 .null (.int (0 : Int32)) h113 n0 (by omega) c129_E_b111 c132_F_name_b111 c134_F_rank_b111 ge135_b111) hZ0 (wi hw 35 rfl) (wi hw 3 rfl) (by decide) (by decide)) (g := (mkF mM 52 (Lc_law_eq_2 p0 p2 p3 p4 b101 b107) [(.int p0), (.ref b112), (.ref b111), (.ref b111)])) rfl (by rw [hml]; rfl) (Steps.refl _) (a := b111) (argsL := [(.ref b112), (.int p0)]) (rest := [(.ref b111)]) (lenOf pd_6 rfl) rfl (by show 2 * 0 + _ ≤ _; exact Nat.le_of_eq rfl) (hb hby at_52) (fun _ _ => ⟨rfl, e113, Nat.le_of_ble_eq_true rfl, Nat.le_of_ble_eq_true rfl⟩)
  dsimp only [Pt.U, Pt.locs, Pt.cells, Pt.slots] at X127 l127 y127 z127 st127 hQ127 hs127 hg127
  subst l127 y127 z127
  obtain ⟨X127', hS127, hZ127, hown127⟩ := rebS hS0 (by rw [e113]; omega) X127 hs127 hg127 hZ0 hown0
  obtain ⟨h127, e127⟩ : ∃ z, T127.heap = z := ⟨_, rfl⟩
  rw [e127] at hQ127 hS127
  obtain ⟨rfl, N127q, Kp127, p127_E_o, p127_F_rank_o⟩ := hQ127
  have Sz9 : h113.size ≤ h127.size := Kp127.1
  have N127 := Fr.app N113 N127q
  obtain ⟨T136, h136, X136, e136, E136, A136, D136, B136, st136⟩ := newO X127' hx hZ127 hown127 (wi hw 1 rfl) (wi hw 2 rfl) (wi hw 3 rfl) e127 (g := (mkF mM 57 (Lc_law_eq_3 p0 p2 p3 p4 b101 b107 b111) [])) rfl (hb hby at_57) (by decide) (by decide)
  obtain ⟨b136, g136⟩ : ∃ z : Nat, z = h127.size := ⟨_, rfl⟩
  rw [← g136] at A136 D136 B136 st136
  have Sz10 : h127.size ≤ h136.size := E136.1
  have F136_name : Fld Z h136 b136 "com/example/compartment/compartment/policy/Level" "name" "Ljava/lang/String;" .null := D136 (Or.inr (wi hw 50 rfl)) (ty := (.object "java/lang/String")) (by decide)
  have F136_rank : Fld Z h136 b136 "com/example/compartment/compartment/policy/Level" "rank" "I" (.int (0 : Int32)) := D136 (Or.inr (wi hw 52 rfl)) (ty := .int) (by decide)
  obtain ⟨T137, h137, X137, e137, E137, A137, D137, B137, st137⟩ := newO X136 hx hZ127 hown127 (wi hw 4 rfl) (wi hw 5 rfl) (wi hw 6 rfl) e136 (g := (mkF mM 61 (Lc_law_eq_3 p0 p2 p3 p4 b101 b107 b111) [(.ref b136), (.ref b136)])) rfl (hb hby at_61) (by decide) (by decide)
  obtain ⟨b137, g137⟩ : ∃ z : Nat, z = h136.size := ⟨_, rfl⟩
  rw [← g137] at A137 D137 B137 st137
  have Sz11 : h136.size ≤ h137.size := E137.1
  have F137_coder : Fld Z h137 b137 "java/lang/String" "coder" "B" (.int (0 : Int32)) := D137 (Or.inr (wi hw 30 rfl)) (ty := .byte) (by decide)
  have F137_value : Fld Z h137 b137 "java/lang/String" "value" "[B" .null := D137 (Or.inr (wi hw 32 rfl)) (ty := (.array .byte)) (by decide)
  have c139_V_b107 : Arv Z h111 b107 k107 .char (1 : Int32) [(.int (p3 &&& (255 : Int32)))] (.int (0 : Int32)) := Vt109.ext E111
  have c140_V_b107 : Arv Z h112 b107 k107 .char (1 : Int32) [(.int (p3 &&& (255 : Int32)))] (.int (0 : Int32)) := c139_V_b107.ext E112
  have ne_b107_b112_141 : b107 ≠ b112 := (by omega : @Ne Nat b107 b112)
  have c142_V_b107 : Arv Z h113 b107 k107 .char (1 : Int32) [(.int (p3 &&& (255 : Int32)))] (.int (0 : Int32)) := c140_V_b107.keep Kp113 (ninS ne_b107_b112_141 nin0)
  have ne_b107_b111_143 : b107 ≠ b111 := (by omega : @Ne Nat b107 b111)
  have c144_V_b107 : Arv Z h127 b107 k107 .char (1 : Int32) [(.int (p3 &&& (255 : Int32)))] (.int (0 : Int32)) := c142_V_b107.keep Kp127 (ninS ne_b107_b111_143 nin0)
  have c145_V_b107 : Arv Z h136 b107 k107 .char (1 : Int32) [(.int (p3 &&& (255 : Int32)))] (.int (0 : Int32)) := c144_V_b107.ext E136
  have c146_V_b107 : Arv Z h137 b107 k107 .char (1 : Int32) [(.int (p3 &&& (255 : Int32)))] (.int (0 : Int32)) := c145_V_b107.ext E137
  have c147_OL : Old Z n0 h113 := c125_OL.keep Kp113 (allS ge126_b112 all0)
  have c148_OL : Old Z n0 h127 := c147_OL.keep Kp127 (allS ge135_b111 all0)
  have c149_OL : Old Z n0 h136 := c148_OL.ext E136
  have c150_OL : Old Z n0 h137 := c149_OL.ext E137
  have ge151_b137 : @LE.le Nat _ n0 b137 := by omega
  obtain ⟨_, _, ⟨T138, L138, k138, n138⟩, -, X138, ⟨Lc138, hQ138, l138, y138, z138⟩, st138⟩ := X137.specialBack hx (y := (⟨"java/lang/String", "<init>", "([C)V"⟩ : MethodName)) rfl hown127 (mvT hZ127 (wi hw 7 rfl)) (mvT hZ127 (wi hw 8 rfl)) (mvT hZ127 (wi hw 9 rfl)) (by decide) (backOf (W := 3) (rm_init1_s1 l Z a0 hw [] b137 b107 k107 .null (.int (0 : Int32)) cs (p3 &&& (255 : Int32)) h137 n0 (by omega) A137 F137_value F137_coder c146_V_b107 ge151_b137 c150_OL S_COMPACT_STRINGS hcs (own_lim _)) hZ127 (wi hw 9 rfl) (wi hw 6 rfl) (by decide) (by decide)) (g := (mkF mM 67 (Lc_law_eq_3 p0 p2 p3 p4 b101 b107 b111) [(.ref b107), (.ref b137), (.ref b137), (.ref b136), (.ref b136)])) rfl (by rw [hml]; rfl) (Steps.refl _) (a := b137) (argsL := [(.ref b107)]) (rest := [(.ref b137), (.ref b136), (.ref b136)]) (lenOf pd_0 rfl) rfl (by show 2 * 0 + _ ≤ _; exact Nat.le_of_eq rfl) (hb hby at_67) (fun _ _ => ⟨rfl, e137, Nat.le_of_ble_eq_true rfl, Nat.le_of_ble_eq_true rfl⟩)
  dsimp only [Pt.U, Pt.locs, Pt.cells, Pt.slots] at X138 l138 y138 z138 st138 hQ138
  subst l138 y138 z138
  obtain ⟨h138, e138⟩ : ∃ z, T138.heap = z := ⟨_, rfl⟩
  rw [e138] at hQ138
  obtain ⟨b_138, k2_138, rfl, N138q, Kp138, p138_E_o, p138_F_value_o, p138_F_coder_o, p138_V_b, p138_gh_b⟩ := hQ138
  have Sz12 : h137.size ≤ h138.size := Kp138.1
  have N138 := Fr.app N127 N138q
  have c153_E_b136 : Exa Z h137 b136 "com/example/compartment/compartment/policy/Level" := Exa.ext E137 A136
  have c154_E_b136 : Exa Z h138 b136 "com/example/compartment/compartment/policy/Level" := c153_E_b136.keep Kp138
  have c155_F_name_b136 : Fld Z h137 b136 "com/example/compartment/compartment/policy/Level" "name" "Ljava/lang/String;" .null := Fld.ext E137 F136_name
  have lt_b136 : @LT.lt Nat _ b136 h136.size := A136.lt
  have lt_b137 : @LT.lt Nat _ b137 h138.size := p138_E_o.lt
  have ne_b136_b137_156 : b136 ≠ b137 := (by omega : @Ne Nat b136 b137)
  have c157_F_name_b136 : Fld Z h138 b136 "com/example/compartment/compartment/policy/Level" "name" "Ljava/lang/String;" .null := c155_F_name_b136.keep Kp138 (ninS ne_b136_b137_156 nin0)
  have c158_F_rank_b136 : Fld Z h137 b136 "com/example/compartment/compartment/policy/Level" "rank" "I" (.int (0 : Int32)) := Fld.ext E137 F136_rank
  have c159_F_rank_b136 : Fld Z h138 b136 "com/example/compartment/compartment/policy/Level" "rank" "I" (.int (0 : Int32)) := c158_F_rank_b136.keep Kp138 (ninS ne_b136_b137_156 nin0)
  have ge160_b136 : @LE.le Nat _ n0 b136 := by omega
  obtain ⟨_, _, ⟨T152, L152, k152, n152⟩, -, X152, hs152, hg152, ⟨Lc152, hQ152, l152, y152, z152⟩, st152⟩ := X138.specialBackS hx (y := (⟨"com/example/compartment/compartment/policy/Level", "<init>", "(Ljava/lang/String;I)V"⟩ : MethodName)) rfl hown127 (mvT hZ127 (wi hw 33 rfl)) (mvT hZ127 (wi hw 34 rfl)) (mvT hZ127 (wi hw 35 rfl)) (by decide) (backOfS (W := 1) (rm_lev l Z a0 hw [] b136 b137 p0 .null (.int (0 : Int32)) h138 n0 (by omega) c154_E_b136 c157_F_name_b136 c159_F_rank_b136 ge160_b136) hZ127 (wi hw 35 rfl) (wi hw 3 rfl) (by decide) (by decide)) (g := (mkF mM 71 (Lc_law_eq_3 p0 p2 p3 p4 b101 b107 b111) [(.int p0), (.ref b137), (.ref b136), (.ref b136)])) rfl (by rw [hml]; rfl) (Steps.refl _) (a := b136) (argsL := [(.ref b137), (.int p0)]) (rest := [(.ref b136)]) (lenOf pd_6 rfl) rfl (by show 2 * 0 + _ ≤ _; exact Nat.le_of_eq rfl) (hb hby at_71) (fun _ _ => ⟨rfl, e138, Nat.le_of_ble_eq_true rfl, Nat.le_of_ble_eq_true rfl⟩)
  dsimp only [Pt.U, Pt.locs, Pt.cells, Pt.slots] at X152 l152 y152 z152 st152 hQ152 hs152 hg152
  subst l152 y152 z152
  obtain ⟨X152', hS152, hZ152, hown152⟩ := rebS hS127 (by rw [e138]; omega) X152 hs152 hg152 hZ127 hown127
  obtain ⟨h152, e152⟩ : ∃ z, T152.heap = z := ⟨_, rfl⟩
  rw [e152] at hQ152 hS152
  obtain ⟨rfl, N152q, Kp152, p152_E_o, p152_F_rank_o⟩ := hQ152
  have Sz13 : h138.size ≤ h152.size := Kp152.1
  have N152 := Fr.app N138 N152q
  have c162_F_rank_b111 : Fld Z h136 b111 "com/example/compartment/compartment/policy/Level" "rank" "I" (.int p0) := Fld.ext E136 p127_F_rank_o
  have c163_F_rank_b111 : Fld Z h137 b111 "com/example/compartment/compartment/policy/Level" "rank" "I" (.int p0) := Fld.ext E137 c162_F_rank_b111
  have ne_b111_b137_164 : b111 ≠ b137 := (by omega : @Ne Nat b111 b137)
  have c165_F_rank_b111 : Fld Z h138 b111 "com/example/compartment/compartment/policy/Level" "rank" "I" (.int p0) := c163_F_rank_b111.keep Kp138 (ninS ne_b111_b137_164 nin0)
  have ne_b111_b136_166 : b111 ≠ b136 := (by omega : @Ne Nat b111 b136)
  have c167_F_rank_b111 : Fld Z h152 b111 "com/example/compartment/compartment/policy/Level" "rank" "I" (.int p0) := c165_F_rank_b111.keep Kp152 (ninS ne_b111_b136_166 nin0)
  have c168_E_b111 : Exa Z h136 b111 "com/example/compartment/compartment/policy/Level" := Exa.ext E136 p127_E_o
  have c169_E_b111 : Exa Z h137 b111 "com/example/compartment/compartment/policy/Level" := Exa.ext E137 c168_E_b111
  have c170_E_b111 : Exa Z h138 b111 "com/example/compartment/compartment/policy/Level" := c169_E_b111.keep Kp138
  have c171_E_b111 : Exa Z h152 b111 "com/example/compartment/compartment/policy/Level" := c170_E_b111.keep Kp152
  obtain ⟨cq161, kq161, q161a, q161b, q161c⟩ := isOf hZ152 e152 c171_E_b111
  obtain ⟨_, _, ⟨T161, L161, k161, n161⟩, -, X161, ⟨Lc161, hQ161, l161, y161, z161⟩, st161⟩ := X152'.virtualBack hx (y := (⟨"com/example/compartment/compartment/policy/Level", "atLeast", "(Lcom/example/compartment/compartment/policy/Level;)Z"⟩ : MethodName)) (z := (⟨"com/example/compartment/compartment/policy/Level", "atLeast", "(Lcom/example/compartment/compartment/policy/Level;)Z"⟩ : MethodName)) hown152 (mvT hZ152 (wi hw 53 rfl)) (mvT hZ152 (wi hw 54 rfl)) (notFace_of_selects (args := #[]) (mvT hZ152 (wi hw 56 rfl))) (mvT hZ152 (wi hw 56 rfl)) (mvT hZ152 (wi hw 55 rfl)) (by decide) (backOf (W := 0) (rm_at_ge l Z a0 hw [] b111 b136 p0 p0 h152 n0 (by omega) c167_F_rank_b111 p152_F_rank_o (Int32.lt_irrefl)) hZ152 (wi hw 57 rfl) (wi hw 3 rfl) (by decide) (by decide)) q161a q161c (g := (mkF mM 80 (Lc_law_eq_4 p0 p2 p3 p4 b101 b107 b111 b136) [(.ref b136), (.ref b111)])) rfl (by rw [hml]; rfl) (Steps.refl _) (argsL := [(.ref b136)]) (rest := []) (lenOf pd_8 rfl) rfl (by show 2 * 0 + _ ≤ _; exact Nat.le_of_eq rfl) (hb hby at_80) (fun _ _ => ⟨rfl, e152, Nat.le_of_ble_eq_true rfl, Nat.le_of_ble_eq_true rfl⟩)
  dsimp only [Pt.U, Pt.locs, Pt.cells, Pt.slots] at X161 l161 y161 z161 st161 hQ161
  subst l161 y161 z161
  obtain ⟨h161, e161⟩ : ∃ z, T161.heap = z := ⟨_, rfl⟩
  rw [e161] at hQ161
  obtain ⟨rfl, N161q, eq161⟩ := hQ161
  rw [eq161] at e161
  have N161 := Fr.app N152 N161q
  obtain ⟨cq172, kq172, q172a, q172b, q172c⟩ := isOf hZ152 e161 p152_E_o
  obtain ⟨_, _, ⟨T172, L172, k172, n172⟩, -, X172, ⟨Lc172, hQ172, l172, y172, z172⟩, st172⟩ := X161.virtualBack hx (y := (⟨"com/example/compartment/compartment/policy/Level", "atLeast", "(Lcom/example/compartment/compartment/policy/Level;)Z"⟩ : MethodName)) (z := (⟨"com/example/compartment/compartment/policy/Level", "atLeast", "(Lcom/example/compartment/compartment/policy/Level;)Z"⟩ : MethodName)) hown152 (mvT hZ152 (wi hw 53 rfl)) (mvT hZ152 (wi hw 54 rfl)) (notFace_of_selects (args := #[]) (mvT hZ152 (wi hw 56 rfl))) (mvT hZ152 (wi hw 56 rfl)) (mvT hZ152 (wi hw 55 rfl)) (by decide) (backOf (W := 0) (rm_at_ge l Z a0 hw [] b136 b111 p0 p0 h152 n0 (by omega) p152_F_rank_o c167_F_rank_b111 (Int32.lt_irrefl)) hZ152 (wi hw 57 rfl) (wi hw 3 rfl) (by decide) (by decide)) q172a q172c (g := (mkF mM 89 (Lc_law_eq_5 p0 p2 p3 p4 b101 b107 b111 b136) [(.ref b111), (.ref b136)])) rfl (by rw [hml]; rfl) (Steps.refl _) (argsL := [(.ref b111)]) (rest := []) (lenOf pd_8 rfl) rfl (by show 2 * 0 + _ ≤ _; exact Nat.le_of_eq rfl) (hb hby at_89) (fun _ _ => ⟨rfl, e161, Nat.le_of_ble_eq_true rfl, Nat.le_of_ble_eq_true rfl⟩)
  dsimp only [Pt.U, Pt.locs, Pt.cells, Pt.slots] at X172 l172 y172 z172 st172 hQ172
  subst l172 y172 z172
  obtain ⟨h172, e172⟩ : ∃ z, T172.heap = z := ⟨_, rfl⟩
  rw [e172] at hQ172
  obtain ⟨rfl, N172q, eq172⟩ := hQ172
  rw [eq172] at e172
  have N172 := Fr.app N161 N172q
  obtain ⟨cq173, kq173, q173a, q173b, q173c⟩ := isOf hZ152 e172 c171_E_b111
  obtain ⟨_, _, ⟨T173, L173, k173, n173⟩, -, X173, ⟨Lc173, hQ173, l173, y173, z173⟩, st173⟩ := X172.virtualBack hx (y := (⟨"com/example/compartment/compartment/policy/Level", "atLeast", "(Lcom/example/compartment/compartment/policy/Level;)Z"⟩ : MethodName)) (z := (⟨"com/example/compartment/compartment/policy/Level", "atLeast", "(Lcom/example/compartment/compartment/policy/Level;)Z"⟩ : MethodName)) hown152 (mvT hZ152 (wi hw 53 rfl)) (mvT hZ152 (wi hw 54 rfl)) (notFace_of_selects (args := #[]) (mvT hZ152 (wi hw 56 rfl))) (mvT hZ152 (wi hw 56 rfl)) (mvT hZ152 (wi hw 55 rfl)) (by decide) (backOf (W := 0) (rm_at_ge l Z a0 hw [] b111 b111 p0 p0 h152 n0 (by omega) c167_F_rank_b111 c167_F_rank_b111 (Int32.lt_irrefl)) hZ152 (wi hw 57 rfl) (wi hw 3 rfl) (by decide) (by decide)) q173a q173c (g := (mkF mM 98 (Lc_law_eq_6 p0 p2 p3 p4 b101 b107 b111 b136) [(.ref b111), (.ref b111)])) rfl (by rw [hml]; rfl) (Steps.refl _) (argsL := [(.ref b111)]) (rest := []) (lenOf pd_8 rfl) rfl (by show 2 * 0 + _ ≤ _; exact Nat.le_of_eq rfl) (hb hby at_98) (fun _ _ => ⟨rfl, e172, Nat.le_of_ble_eq_true rfl, Nat.le_of_ble_eq_true rfl⟩)
  dsimp only [Pt.U, Pt.locs, Pt.cells, Pt.slots] at X173 l173 y173 z173 st173 hQ173
  subst l173 y173 z173
  obtain ⟨h173, e173⟩ : ∃ z, T173.heap = z := ⟨_, rfl⟩
  rw [e173] at hQ173
  obtain ⟨rfl, N173q, eq173⟩ := hQ173
  rw [eq173] at e173
  have N173 := Fr.app N172 N173q
  obtain ⟨_, _, ⟨T174, L174, k174, n174⟩, -, X174, ⟨Lc174, hQ174, l174, y174, z174⟩, st174⟩ := Jvm.LawKit.callS X173 hx (y := (⟨"com/example/compartment/compartment/policy/LevelAtLeastPinLaw", "dominatesRef", "(II)Z"⟩ : MethodName)) hown152 (mvT hZ152 (wi hw 58 rfl)) (mvT hZ152 (wi hw 59 rfl)) (mvT hZ152 (wi hw 60 rfl)) (mvT hZ152 (wi hw 61 rfl)) (by decide) (backOf (W := 1) (rm_dom_ge l Z a0 hw [] p0 p0 h152 n0 (by omega) (fun q => Int32.lt_irrefl ((own_dom _ _).mp q))) hZ152 (wi hw 61 rfl) (wi hw 60 rfl) (by decide) (by decide)) (g := (mkF mM 115 (Lc_law_eq_8 p0 p2 p3 p4 b101 b107 b111 b136) [(.int p0), (.int p0), (.int (1 : Int32))])) rfl (by rw [hml]; rfl) (argsL := [(.int p0), (.int p0)]) (rest := [(.int (1 : Int32))]) (lenOf pd_9 rfl) rfl (by show 2 * 0 + _ ≤ _; exact Nat.le_of_eq rfl) (hb hby at_115) (fun _ _ => ⟨rfl, e173, Nat.le_of_ble_eq_true rfl, Nat.le_of_ble_eq_true rfl⟩)
  dsimp only [Pt.U, Pt.locs, Pt.cells, Pt.slots] at X174 l174 y174 z174 st174 hQ174
  subst l174 y174 z174
  obtain ⟨h174, e174⟩ : ∃ z, T174.heap = z := ⟨_, rfl⟩
  rw [e174] at hQ174
  obtain ⟨rfl, N174q, eq174⟩ := hQ174
  rw [eq174] at e174
  have N174 := Fr.app N173 N174q
  obtain ⟨_, _, ⟨T175, L175, k175, n175⟩, -, X175, ⟨Lc175, hQ175, l175, y175, z175⟩, st175⟩ := Jvm.LawKit.callS X174 hx (y := (⟨"com/example/compartment/compartment/policy/LevelAtLeastPinLaw", "dominatesRef", "(II)Z"⟩ : MethodName)) hown152 (mvT hZ152 (wi hw 58 rfl)) (mvT hZ152 (wi hw 59 rfl)) (mvT hZ152 (wi hw 60 rfl)) (mvT hZ152 (wi hw 61 rfl)) (by decide) (backOf (W := 1) (rm_dom_ge l Z a0 hw [] p0 p0 h152 n0 (by omega) (fun q => Int32.lt_irrefl ((own_dom _ _).mp q))) hZ152 (wi hw 61 rfl) (wi hw 60 rfl) (by decide) (by decide)) (g := (mkF mM 137 (Lc_law_eq_8 p0 p2 p3 p4 b101 b107 b111 b136) [(.int p0), (.int p0), (.int (1 : Int32))])) rfl (by rw [hml]; rfl) (argsL := [(.int p0), (.int p0)]) (rest := [(.int (1 : Int32))]) (lenOf pd_9 rfl) rfl (by show 2 * 0 + _ ≤ _; exact Nat.le_of_eq rfl) (hb hby at_137) (fun _ _ => ⟨rfl, e174, Nat.le_of_ble_eq_true rfl, Nat.le_of_ble_eq_true rfl⟩)
  dsimp only [Pt.U, Pt.locs, Pt.cells, Pt.slots] at X175 l175 y175 z175 st175 hQ175
  subst l175 y175 z175
  obtain ⟨h175, e175⟩ : ∃ z, T175.heap = z := ⟨_, rfl⟩
  rw [e175] at hQ175
  obtain ⟨rfl, N175q, eq175⟩ := hQ175
  rw [eq175] at e175
  have N175 := Fr.app N174 N175q
  obtain ⟨fs, hr, hrun, hended, hE⟩ := Stand.leaveW (s := sS) X175 hS152 (by rw [e175]; omega) (v := some (.int (1 : Int32))) (fun h => by rw [Bd.returns] at h; cases h)
  refine ⟨_, _, pre0 _ ?_, hrun, hended, _, _, rfl, ?_, hE.1, hE.2.1, hE.2.2.1, hE.2.2.2.mono (by decide) (by decide)⟩
  · show SS pP eE belowS s₁ (mkF mM 0 (Lc_law_eq_0 p0 p2 p3 p4) []) _
    refine XS.iconst X0.here hx rfl (hb hby at_0) ?_
    show SS pP eE belowS s₁ (mkF mM 1 (Lc_law_eq_0 p0 p2 p3 p4) [(.int (2 : Int32))]) _
    refine st101 _ ?_
    show SS pP eE belowS T101 (mkF mM 3 (Lc_law_eq_0 p0 p2 p3 p4) [(.ref b101)]) _
    refine XS.dup X101.here hx rfl (hb hby at_3) rfl rfl ?_
    show SS pP eE belowS T101 (mkF mM 4 (Lc_law_eq_0 p0 p2 p3 p4) [(.ref b101), (.ref b101)]) _
    refine XS.iconst X101.here hx rfl (hb hby at_4) ?_
    show SS pP eE belowS T101 (mkF mM 5 (Lc_law_eq_0 p0 p2 p3 p4) [(.int (0 : Int32)), (.ref b101), (.ref b101)]) _
    refine XS.iloadN X101.here hx rfl (hb hby at_5) rfl ?_
    show SS pP eE belowS T101 (mkF mM 6 (Lc_law_eq_0 p0 p2 p3 p4) [(.int p2), (.int (0 : Int32)), (.ref b101), (.ref b101)]) _
    refine XS.sipush X101.here hx rfl (hb hby at_6) ?_
    show SS pP eE belowS T101 (mkF mM 9 (Lc_law_eq_0 p0 p2 p3 p4) [(.int (255 : Int32)), (.int p2), (.int (0 : Int32)), (.ref b101), (.ref b101)]) _
    refine XS.iand X101.here hx rfl (hb hby at_9) rfl ?_
    show SS pP eE belowS T101 (mkF mM 10 (Lc_law_eq_0 p0 p2 p3 p4) [(.int (p2 &&& (255 : Int32))), (.int (0 : Int32)), (.ref b101), (.ref b101)]) _
    refine XS.i2c X101.here hx rfl (hb hby at_10) rfl ?_
    show SS pP eE belowS T101 (mkF mM 11 (Lc_law_eq_0 p0 p2 p3 p4) [(.int ((p2 &&& (255 : Int32)).toUInt32.toUInt16.toUInt32.toInt32)), (.int (0 : Int32)), (.ref b101), (.ref b101)]) _
    rw [show ((p2 &&& (255 : Int32)).toUInt32.toUInt16.toUInt32.toInt32) = (p2 &&& (255 : Int32)) from i2c_mask p2]
    show SS pP eE belowS T101 (mkF mM 11 (Lc_law_eq_0 p0 p2 p3 p4) [(.int (p2 &&& (255 : Int32))), (.int (0 : Int32)), (.ref b101), (.ref b101)]) _
    refine st103 _ ?_
    show SS pP eE belowS T103 (mkF mM 12 (Lc_law_eq_0 p0 p2 p3 p4) [(.ref b101)]) _
    refine XS.dup X103.here hx rfl (hb hby at_12) rfl rfl ?_
    show SS pP eE belowS T103 (mkF mM 13 (Lc_law_eq_0 p0 p2 p3 p4) [(.ref b101), (.ref b101)]) _
    refine XS.iconst X103.here hx rfl (hb hby at_13) ?_
    show SS pP eE belowS T103 (mkF mM 14 (Lc_law_eq_0 p0 p2 p3 p4) [(.int (1 : Int32)), (.ref b101), (.ref b101)]) _
    refine XS.iload X103.here hx rfl (hb hby at_14) rfl ?_
    show SS pP eE belowS T103 (mkF mM 16 (Lc_law_eq_0 p0 p2 p3 p4) [(.int p4), (.int (1 : Int32)), (.ref b101), (.ref b101)]) _
    refine XS.sipush X103.here hx rfl (hb hby at_16) ?_
    show SS pP eE belowS T103 (mkF mM 19 (Lc_law_eq_0 p0 p2 p3 p4) [(.int (255 : Int32)), (.int p4), (.int (1 : Int32)), (.ref b101), (.ref b101)]) _
    refine XS.iand X103.here hx rfl (hb hby at_19) rfl ?_
    show SS pP eE belowS T103 (mkF mM 20 (Lc_law_eq_0 p0 p2 p3 p4) [(.int (p4 &&& (255 : Int32))), (.int (1 : Int32)), (.ref b101), (.ref b101)]) _
    refine XS.i2c X103.here hx rfl (hb hby at_20) rfl ?_
    show SS pP eE belowS T103 (mkF mM 21 (Lc_law_eq_0 p0 p2 p3 p4) [(.int ((p4 &&& (255 : Int32)).toUInt32.toUInt16.toUInt32.toInt32)), (.int (1 : Int32)), (.ref b101), (.ref b101)]) _
    rw [show ((p4 &&& (255 : Int32)).toUInt32.toUInt16.toUInt32.toInt32) = (p4 &&& (255 : Int32)) from i2c_mask p4]
    show SS pP eE belowS T103 (mkF mM 21 (Lc_law_eq_0 p0 p2 p3 p4) [(.int (p4 &&& (255 : Int32))), (.int (1 : Int32)), (.ref b101), (.ref b101)]) _
    refine st106 _ ?_
    show SS pP eE belowS T106 (mkF mM 22 (Lc_law_eq_0 p0 p2 p3 p4) [(.ref b101)]) _
    refine XS.astore X106.here hx rfl (hb hby at_22) rfl rfl (l' := (Lc_law_eq_1 p0 p2 p3 p4 b101)) rfl ?_
    show SS pP eE belowS T106 (mkF mM 24 (Lc_law_eq_1 p0 p2 p3 p4 b101) []) _
    refine XS.iconst X106.here hx rfl (hb hby at_24) ?_
    show SS pP eE belowS T106 (mkF mM 25 (Lc_law_eq_1 p0 p2 p3 p4 b101) [(.int (1 : Int32))]) _
    refine st107 _ ?_
    show SS pP eE belowS T107 (mkF mM 27 (Lc_law_eq_1 p0 p2 p3 p4 b101) [(.ref b107)]) _
    refine XS.dup X107.here hx rfl (hb hby at_27) rfl rfl ?_
    show SS pP eE belowS T107 (mkF mM 28 (Lc_law_eq_1 p0 p2 p3 p4 b101) [(.ref b107), (.ref b107)]) _
    refine XS.iconst X107.here hx rfl (hb hby at_28) ?_
    show SS pP eE belowS T107 (mkF mM 29 (Lc_law_eq_1 p0 p2 p3 p4 b101) [(.int (0 : Int32)), (.ref b107), (.ref b107)]) _
    refine XS.iloadN X107.here hx rfl (hb hby at_29) rfl ?_
    show SS pP eE belowS T107 (mkF mM 30 (Lc_law_eq_1 p0 p2 p3 p4 b101) [(.int p3), (.int (0 : Int32)), (.ref b107), (.ref b107)]) _
    refine XS.sipush X107.here hx rfl (hb hby at_30) ?_
    show SS pP eE belowS T107 (mkF mM 33 (Lc_law_eq_1 p0 p2 p3 p4 b101) [(.int (255 : Int32)), (.int p3), (.int (0 : Int32)), (.ref b107), (.ref b107)]) _
    refine XS.iand X107.here hx rfl (hb hby at_33) rfl ?_
    show SS pP eE belowS T107 (mkF mM 34 (Lc_law_eq_1 p0 p2 p3 p4 b101) [(.int (p3 &&& (255 : Int32))), (.int (0 : Int32)), (.ref b107), (.ref b107)]) _
    refine XS.i2c X107.here hx rfl (hb hby at_34) rfl ?_
    show SS pP eE belowS T107 (mkF mM 35 (Lc_law_eq_1 p0 p2 p3 p4 b101) [(.int ((p3 &&& (255 : Int32)).toUInt32.toUInt16.toUInt32.toInt32)), (.int (0 : Int32)), (.ref b107), (.ref b107)]) _
    rw [show ((p3 &&& (255 : Int32)).toUInt32.toUInt16.toUInt32.toInt32) = (p3 &&& (255 : Int32)) from i2c_mask p3]
    show SS pP eE belowS T107 (mkF mM 35 (Lc_law_eq_1 p0 p2 p3 p4 b101) [(.int (p3 &&& (255 : Int32))), (.int (0 : Int32)), (.ref b107), (.ref b107)]) _
    refine st109 _ ?_
    show SS pP eE belowS T109 (mkF mM 36 (Lc_law_eq_1 p0 p2 p3 p4 b101) [(.ref b107)]) _
    refine XS.astore X109.here hx rfl (hb hby at_36) rfl rfl (l' := (Lc_law_eq_2 p0 p2 p3 p4 b101 b107)) rfl ?_
    show SS pP eE belowS T109 (mkF mM 38 (Lc_law_eq_2 p0 p2 p3 p4 b101 b107) []) _
    refine st111 _ ?_
    show SS pP eE belowS T111 (mkF mM 41 (Lc_law_eq_2 p0 p2 p3 p4 b101 b107) [(.ref b111)]) _
    refine XS.dup X111.here hx rfl (hb hby at_41) rfl rfl ?_
    show SS pP eE belowS T111 (mkF mM 42 (Lc_law_eq_2 p0 p2 p3 p4 b101 b107) [(.ref b111), (.ref b111)]) _
    refine st112 _ ?_
    show SS pP eE belowS T112 (mkF mM 45 (Lc_law_eq_2 p0 p2 p3 p4 b101 b107) [(.ref b112), (.ref b111), (.ref b111)]) _
    refine XS.dup X112.here hx rfl (hb hby at_45) rfl rfl ?_
    show SS pP eE belowS T112 (mkF mM 46 (Lc_law_eq_2 p0 p2 p3 p4 b101 b107) [(.ref b112), (.ref b112), (.ref b111), (.ref b111)]) _
    refine XS.aload X112.here hx rfl (hb hby at_46) rfl rfl ?_
    show SS pP eE belowS T112 (mkF mM 48 (Lc_law_eq_2 p0 p2 p3 p4 b101 b107) [(.ref b101), (.ref b112), (.ref b112), (.ref b111), (.ref b111)]) _
    refine st113.trans ?_
    show SS pP eE belowS T113 (mkF mM 51 (Lc_law_eq_2 p0 p2 p3 p4 b101 b107) [(.ref b112), (.ref b111), (.ref b111)]) _
    refine XS.iloadN X113.here hx rfl (hb hby at_51) rfl ?_
    show SS pP eE belowS T113 (mkF mM 52 (Lc_law_eq_2 p0 p2 p3 p4 b101 b107) [(.int p0), (.ref b112), (.ref b111), (.ref b111)]) _
    refine st127.trans ?_
    show SS pP eE belowS T127 (mkF mM 55 (Lc_law_eq_2 p0 p2 p3 p4 b101 b107) [(.ref b111)]) _
    refine XS.astore X127'.here hx rfl (hb hby at_55) rfl rfl (l' := (Lc_law_eq_3 p0 p2 p3 p4 b101 b107 b111)) rfl ?_
    show SS pP eE belowS T127 (mkF mM 57 (Lc_law_eq_3 p0 p2 p3 p4 b101 b107 b111) []) _
    refine st136 _ ?_
    show SS pP eE belowS T136 (mkF mM 60 (Lc_law_eq_3 p0 p2 p3 p4 b101 b107 b111) [(.ref b136)]) _
    refine XS.dup X136.here hx rfl (hb hby at_60) rfl rfl ?_
    show SS pP eE belowS T136 (mkF mM 61 (Lc_law_eq_3 p0 p2 p3 p4 b101 b107 b111) [(.ref b136), (.ref b136)]) _
    refine st137 _ ?_
    show SS pP eE belowS T137 (mkF mM 64 (Lc_law_eq_3 p0 p2 p3 p4 b101 b107 b111) [(.ref b137), (.ref b136), (.ref b136)]) _
    refine XS.dup X137.here hx rfl (hb hby at_64) rfl rfl ?_
    show SS pP eE belowS T137 (mkF mM 65 (Lc_law_eq_3 p0 p2 p3 p4 b101 b107 b111) [(.ref b137), (.ref b137), (.ref b136), (.ref b136)]) _
    refine XS.aload X137.here hx rfl (hb hby at_65) rfl rfl ?_
    show SS pP eE belowS T137 (mkF mM 67 (Lc_law_eq_3 p0 p2 p3 p4 b101 b107 b111) [(.ref b107), (.ref b137), (.ref b137), (.ref b136), (.ref b136)]) _
    refine st138.trans ?_
    show SS pP eE belowS T138 (mkF mM 70 (Lc_law_eq_3 p0 p2 p3 p4 b101 b107 b111) [(.ref b137), (.ref b136), (.ref b136)]) _
    refine XS.iloadN X138.here hx rfl (hb hby at_70) rfl ?_
    show SS pP eE belowS T138 (mkF mM 71 (Lc_law_eq_3 p0 p2 p3 p4 b101 b107 b111) [(.int p0), (.ref b137), (.ref b136), (.ref b136)]) _
    refine st152.trans ?_
    show SS pP eE belowS T152 (mkF mM 74 (Lc_law_eq_3 p0 p2 p3 p4 b101 b107 b111) [(.ref b136)]) _
    refine XS.astore X152'.here hx rfl (hb hby at_74) rfl rfl (l' := (Lc_law_eq_4 p0 p2 p3 p4 b101 b107 b111 b136)) rfl ?_
    show SS pP eE belowS T152 (mkF mM 76 (Lc_law_eq_4 p0 p2 p3 p4 b101 b107 b111 b136) []) _
    refine XS.aload X152'.here hx rfl (hb hby at_76) rfl rfl ?_
    show SS pP eE belowS T152 (mkF mM 78 (Lc_law_eq_4 p0 p2 p3 p4 b101 b107 b111 b136) [(.ref b111)]) _
    refine XS.aload X152'.here hx rfl (hb hby at_78) rfl rfl ?_
    show SS pP eE belowS T152 (mkF mM 80 (Lc_law_eq_4 p0 p2 p3 p4 b101 b107 b111 b136) [(.ref b136), (.ref b111)]) _
    refine st161.trans ?_
    show SS pP eE belowS T161 (mkF mM 83 (Lc_law_eq_4 p0 p2 p3 p4 b101 b107 b111 b136) [(.int (1 : Int32))]) _
    refine XS.istore X161.here hx rfl (hb hby at_83) rfl (l' := (Lc_law_eq_5 p0 p2 p3 p4 b101 b107 b111 b136)) rfl ?_
    show SS pP eE belowS T161 (mkF mM 85 (Lc_law_eq_5 p0 p2 p3 p4 b101 b107 b111 b136) []) _
    refine XS.aload X161.here hx rfl (hb hby at_85) rfl rfl ?_
    show SS pP eE belowS T161 (mkF mM 87 (Lc_law_eq_5 p0 p2 p3 p4 b101 b107 b111 b136) [(.ref b136)]) _
    refine XS.aload X161.here hx rfl (hb hby at_87) rfl rfl ?_
    show SS pP eE belowS T161 (mkF mM 89 (Lc_law_eq_5 p0 p2 p3 p4 b101 b107 b111 b136) [(.ref b111), (.ref b136)]) _
    refine st172.trans ?_
    show SS pP eE belowS T172 (mkF mM 92 (Lc_law_eq_5 p0 p2 p3 p4 b101 b107 b111 b136) [(.int (1 : Int32))]) _
    refine XS.istore X172.here hx rfl (hb hby at_92) rfl (l' := (Lc_law_eq_6 p0 p2 p3 p4 b101 b107 b111 b136)) rfl ?_
    show SS pP eE belowS T172 (mkF mM 94 (Lc_law_eq_6 p0 p2 p3 p4 b101 b107 b111 b136) []) _
    refine XS.aload X172.here hx rfl (hb hby at_94) rfl rfl ?_
    show SS pP eE belowS T172 (mkF mM 96 (Lc_law_eq_6 p0 p2 p3 p4 b101 b107 b111 b136) [(.ref b111)]) _
    refine XS.aload X172.here hx rfl (hb hby at_96) rfl rfl ?_
    show SS pP eE belowS T172 (mkF mM 98 (Lc_law_eq_6 p0 p2 p3 p4 b101 b107 b111 b136) [(.ref b111), (.ref b111)]) _
    refine st173.trans ?_
    show SS pP eE belowS T173 (mkF mM 101 (Lc_law_eq_6 p0 p2 p3 p4 b101 b107 b111 b136) [(.int (1 : Int32))]) _
    refine XS.istore X173.here hx rfl (hb hby at_101) rfl (l' := (Lc_law_eq_7 p0 p2 p3 p4 b101 b107 b111 b136)) rfl ?_
    show SS pP eE belowS T173 (mkF mM 103 (Lc_law_eq_7 p0 p2 p3 p4 b101 b107 b111 b136) []) _
    refine XS.iconst X173.here hx rfl (hb hby at_103) ?_
    show SS pP eE belowS T173 (mkF mM 104 (Lc_law_eq_7 p0 p2 p3 p4 b101 b107 b111 b136) [(.int (1 : Int32))]) _
    refine XS.istore X173.here hx rfl (hb hby at_104) rfl (l' := (Lc_law_eq_8 p0 p2 p3 p4 b101 b107 b111 b136)) rfl ?_
    show SS pP eE belowS T173 (mkF mM 106 (Lc_law_eq_8 p0 p2 p3 p4 b101 b107 b111 b136) []) _
    refine XS.iload X173.here hx rfl (hb hby at_106) rfl ?_
    show SS pP eE belowS T173 (mkF mM 108 (Lc_law_eq_8 p0 p2 p3 p4 b101 b107 b111 b136) [(.int (1 : Int32))]) _
    refine XS.ifNo X173.here hx rfl (hb hby at_108) rfl ((if0 _ _).trans (feq (by decide : ¬ ((1 : Int32) = (0 : Int32)))).1) ?_
    show SS pP eE belowS T173 (mkF mM 111 (Lc_law_eq_8 p0 p2 p3 p4 b101 b107 b111 b136) []) _
    refine XS.iload X173.here hx rfl (hb hby at_111) rfl ?_
    show SS pP eE belowS T173 (mkF mM 113 (Lc_law_eq_8 p0 p2 p3 p4 b101 b107 b111 b136) [(.int (1 : Int32))]) _
    refine XS.iloadN X173.here hx rfl (hb hby at_113) rfl ?_
    show SS pP eE belowS T173 (mkF mM 114 (Lc_law_eq_8 p0 p2 p3 p4 b101 b107 b111 b136) [(.int p0), (.int (1 : Int32))]) _
    refine XS.iloadN X173.here hx rfl (hb hby at_114) rfl ?_
    show SS pP eE belowS T173 (mkF mM 115 (Lc_law_eq_8 p0 p2 p3 p4 b101 b107 b111 b136) [(.int p0), (.int p0), (.int (1 : Int32))]) _
    refine st174 _ ?_
    show SS pP eE belowS T174 (mkF mM 118 (Lc_law_eq_8 p0 p2 p3 p4 b101 b107 b111 b136) [(.int (1 : Int32)), (.int (1 : Int32))]) _
    refine XS.icmpNo X174.here hx rfl (hb hby at_118) rfl (teq (by decide : (1 : Int32) = (1 : Int32))).2 ?_
    show SS pP eE belowS T174 (mkF mM 121 (Lc_law_eq_8 p0 p2 p3 p4 b101 b107 b111 b136) []) _
    refine XS.iconst X174.here hx rfl (hb hby at_121) ?_
    show SS pP eE belowS T174 (mkF mM 122 (Lc_law_eq_8 p0 p2 p3 p4 b101 b107 b111 b136) [(.int (1 : Int32))]) _
    refine XS.goto X174.here hx rfl (pc0 := 122) (pc' := 126) rfl (hb hby at_122) (by decide) (by decide) ?_
    show SS pP eE belowS T174 (mkF mM 126 (Lc_law_eq_8 p0 p2 p3 p4 b101 b107 b111 b136) [(.int (1 : Int32))]) _
    refine XS.istore X174.here hx rfl (hb hby at_126) rfl (l' := (Lc_law_eq_8 p0 p2 p3 p4 b101 b107 b111 b136)) rfl ?_
    show SS pP eE belowS T174 (mkF mM 128 (Lc_law_eq_8 p0 p2 p3 p4 b101 b107 b111 b136) []) _
    refine XS.iload X174.here hx rfl (hb hby at_128) rfl ?_
    show SS pP eE belowS T174 (mkF mM 130 (Lc_law_eq_8 p0 p2 p3 p4 b101 b107 b111 b136) [(.int (1 : Int32))]) _
    refine XS.ifNo X174.here hx rfl (hb hby at_130) rfl ((if0 _ _).trans (feq (by decide : ¬ ((1 : Int32) = (0 : Int32)))).1) ?_
    show SS pP eE belowS T174 (mkF mM 133 (Lc_law_eq_8 p0 p2 p3 p4 b101 b107 b111 b136) []) _
    refine XS.iload X174.here hx rfl (hb hby at_133) rfl ?_
    show SS pP eE belowS T174 (mkF mM 135 (Lc_law_eq_8 p0 p2 p3 p4 b101 b107 b111 b136) [(.int (1 : Int32))]) _
    refine XS.iloadN X174.here hx rfl (hb hby at_135) rfl ?_
    show SS pP eE belowS T174 (mkF mM 136 (Lc_law_eq_8 p0 p2 p3 p4 b101 b107 b111 b136) [(.int p0), (.int (1 : Int32))]) _
    refine XS.iloadN X174.here hx rfl (hb hby at_136) rfl ?_
    show SS pP eE belowS T174 (mkF mM 137 (Lc_law_eq_8 p0 p2 p3 p4 b101 b107 b111 b136) [(.int p0), (.int p0), (.int (1 : Int32))]) _
    refine st175 _ ?_
    show SS pP eE belowS T175 (mkF mM 140 (Lc_law_eq_8 p0 p2 p3 p4 b101 b107 b111 b136) [(.int (1 : Int32)), (.int (1 : Int32))]) _
    refine XS.icmpNo X175.here hx rfl (hb hby at_140) rfl (teq (by decide : (1 : Int32) = (1 : Int32))).2 ?_
    show SS pP eE belowS T175 (mkF mM 143 (Lc_law_eq_8 p0 p2 p3 p4 b101 b107 b111 b136) []) _
    refine XS.iconst X175.here hx rfl (hb hby at_143) ?_
    show SS pP eE belowS T175 (mkF mM 144 (Lc_law_eq_8 p0 p2 p3 p4 b101 b107 b111 b136) [(.int (1 : Int32))]) _
    refine XS.goto X175.here hx rfl (pc0 := 144) (pc' := 148) rfl (hb hby at_144) (by decide) (by decide) ?_
    show SS pP eE belowS T175 (mkF mM 148 (Lc_law_eq_8 p0 p2 p3 p4 b101 b107 b111 b136) [(.int (1 : Int32))]) _
    refine XS.istore X175.here hx rfl (hb hby at_148) rfl (l' := (Lc_law_eq_8 p0 p2 p3 p4 b101 b107 b111 b136)) rfl ?_
    show SS pP eE belowS T175 (mkF mM 150 (Lc_law_eq_8 p0 p2 p3 p4 b101 b107 b111 b136) []) _
    refine XS.iload X175.here hx rfl (hb hby at_150) rfl ?_
    show SS pP eE belowS T175 (mkF mM 152 (Lc_law_eq_8 p0 p2 p3 p4 b101 b107 b111 b136) [(.int (1 : Int32))]) _
    refine XS.ifNo X175.here hx rfl (hb hby at_152) rfl ((if0 _ _).trans (feq (by decide : ¬ ((1 : Int32) = (0 : Int32)))).1) ?_
    show SS pP eE belowS T175 (mkF mM 155 (Lc_law_eq_8 p0 p2 p3 p4 b101 b107 b111 b136) []) _
    refine XS.iload X175.here hx rfl (hb hby at_155) rfl ?_
    show SS pP eE belowS T175 (mkF mM 157 (Lc_law_eq_8 p0 p2 p3 p4 b101 b107 b111 b136) [(.int (1 : Int32))]) _
    refine XS.ifNo X175.here hx rfl (hb hby at_157) rfl ((if0 _ _).trans (feq (by decide : ¬ ((1 : Int32) = (0 : Int32)))).1) ?_
    show SS pP eE belowS T175 (mkF mM 160 (Lc_law_eq_8 p0 p2 p3 p4 b101 b107 b111 b136) []) _
    refine XS.iconst X175.here hx rfl (hb hby at_160) ?_
    show SS pP eE belowS T175 (mkF mM 161 (Lc_law_eq_8 p0 p2 p3 p4 b101 b107 b111 b136) [(.int (1 : Int32))]) _
    refine XS.goto X175.here hx rfl (pc0 := 161) (pc' := 165) rfl (hb hby at_161) (by decide) (by decide) ?_
    show SS pP eE belowS T175 (mkF mM 165 (Lc_law_eq_8 p0 p2 p3 p4 b101 b107 b111 b136) [(.int (1 : Int32))]) _
    refine XS.istore X175.here hx rfl (hb hby at_165) rfl (l' := (Lc_law_eq_8 p0 p2 p3 p4 b101 b107 b111 b136)) rfl ?_
    show SS pP eE belowS T175 (mkF mM 167 (Lc_law_eq_8 p0 p2 p3 p4 b101 b107 b111 b136) []) _
    refine XS.iload X175.here hx rfl (hb hby at_167) rfl ?_
    show SS pP eE belowS T175 (mkF mM 169 (Lc_law_eq_8 p0 p2 p3 p4 b101 b107 b111 b136) [(.int (1 : Int32))]) _
    refine XS.ifNo X175.here hx rfl (hb hby at_169) rfl ((if0 _ _).trans (feq (by decide : ¬ ((1 : Int32) = (0 : Int32)))).1) ?_
    show SS pP eE belowS T175 (mkF mM 172 (Lc_law_eq_8 p0 p2 p3 p4 b101 b107 b111 b136) []) _
    refine XS.iload X175.here hx rfl (hb hby at_172) rfl ?_
    show SS pP eE belowS T175 (mkF mM 174 (Lc_law_eq_8 p0 p2 p3 p4 b101 b107 b111 b136) [(.int (1 : Int32))]) _
    refine XS.ifYes X175.here hx rfl (pc0 := 174) (pc' := 182) rfl (hb hby at_174) rfl ((if0 _ _).trans (feq (by decide : ¬ ((1 : Int32) = (0 : Int32)))).2) (by decide) (by decide) ?_
    show SS pP eE belowS T175 (mkF mM 182 (Lc_law_eq_8 p0 p2 p3 p4 b101 b107 b111 b136) []) _
    refine XS.iconst X175.here hx rfl (hb hby at_182) ?_
    show SS pP eE belowS T175 (mkF mM 183 (Lc_law_eq_8 p0 p2 p3 p4 b101 b107 b111 b136) [(.int (1 : Int32))]) _
    refine XS.goto X175.here hx rfl (pc0 := 183) (pc' := 187) rfl (hb hby at_183) (by decide) (by decide) ?_
    show SS pP eE belowS T175 (mkF mM 187 (Lc_law_eq_8 p0 p2 p3 p4 b101 b107 b111 b136) [(.int (1 : Int32))]) _
    refine XS.istore X175.here hx rfl (hb hby at_187) rfl (l' := (Lc_law_eq_8 p0 p2 p3 p4 b101 b107 b111 b136)) rfl ?_
    show SS pP eE belowS T175 (mkF mM 189 (Lc_law_eq_8 p0 p2 p3 p4 b101 b107 b111 b136) []) _
    refine XS.iload X175.here hx rfl (hb hby at_189) rfl ?_
    show SS pP eE belowS T175 (mkF mM 191 (Lc_law_eq_8 p0 p2 p3 p4 b101 b107 b111 b136) [(.int (1 : Int32))]) _
    refine XS.ifNo X175.here hx rfl (hb hby at_191) rfl ((if0 _ _).trans (feq (by decide : ¬ ((1 : Int32) = (0 : Int32)))).1) ?_
    show SS pP eE belowS T175 (mkF mM 194 (Lc_law_eq_8 p0 p2 p3 p4 b101 b107 b111 b136) []) _
    refine XS.iload X175.here hx rfl (hb hby at_194) rfl ?_
    show SS pP eE belowS T175 (mkF mM 196 (Lc_law_eq_8 p0 p2 p3 p4 b101 b107 b111 b136) [(.int (1 : Int32))]) _
    refine XS.ifNo X175.here hx rfl (hb hby at_196) rfl ((if0 _ _).trans (feq (by decide : ¬ ((1 : Int32) = (0 : Int32)))).1) ?_
    show SS pP eE belowS T175 (mkF mM 199 (Lc_law_eq_8 p0 p2 p3 p4 b101 b107 b111 b136) []) _
    refine XS.iload X175.here hx rfl (hb hby at_199) rfl ?_
    show SS pP eE belowS T175 (mkF mM 201 (Lc_law_eq_8 p0 p2 p3 p4 b101 b107 b111 b136) [(.int (1 : Int32))]) _
    refine XS.ifNo X175.here hx rfl (hb hby at_201) rfl ((if0 _ _).trans (feq (by decide : ¬ ((1 : Int32) = (0 : Int32)))).1) ?_
    show SS pP eE belowS T175 (mkF mM 204 (Lc_law_eq_8 p0 p2 p3 p4 b101 b107 b111 b136) []) _
    refine XS.iconst X175.here hx rfl (hb hby at_204) ?_
    show SS pP eE belowS T175 (mkF mM 205 (Lc_law_eq_8 p0 p2 p3 p4 b101 b107 b111 b136) [(.int (1 : Int32))]) _
    refine XS.goto X175.here hx rfl (pc0 := 205) (pc' := 209) rfl (hb hby at_205) (by decide) (by decide) ?_
    show SS pP eE belowS T175 (mkF mM 209 (Lc_law_eq_8 p0 p2 p3 p4 b101 b107 b111 b136) [(.int (1 : Int32))]) _
    refine XS.iloadN X175.here hx rfl (hb hby at_209) rfl ?_
    show SS pP eE belowS T175 (mkF mM 210 (Lc_law_eq_8 p0 p2 p3 p4 b101 b107 b111 b136) [(.int p0), (.int (1 : Int32))]) _
    refine XS.iloadN X175.here hx rfl (hb hby at_210) rfl ?_
    show SS pP eE belowS T175 (mkF mM 211 (Lc_law_eq_8 p0 p2 p3 p4 b101 b107 b111 b136) [(.int p0), (.int p0), (.int (1 : Int32))]) _
    refine XS.icmpNo X175.here hx rfl (hb hby at_211) rfl (teq (rfl : p0 = p0)).2 ?_
    show SS pP eE belowS T175 (mkF mM 214 (Lc_law_eq_8 p0 p2 p3 p4 b101 b107 b111 b136) [(.int (1 : Int32))]) _
    refine XS.iconst X175.here hx rfl (hb hby at_214) ?_
    show SS pP eE belowS T175 (mkF mM 215 (Lc_law_eq_8 p0 p2 p3 p4 b101 b107 b111 b136) [(.int (1 : Int32)), (.int (1 : Int32))]) _
    refine XS.goto X175.here hx rfl (pc0 := 215) (pc' := 219) rfl (hb hby at_215) (by decide) (by decide) ?_
    show SS pP eE belowS T175 (mkF mM 219 (Lc_law_eq_8 p0 p2 p3 p4 b101 b107 b111 b136) [(.int (1 : Int32)), (.int (1 : Int32))]) _
    refine XS.icmpNo X175.here hx rfl (hb hby at_219) rfl (teq (by decide : (1 : Int32) = (1 : Int32))).2 ?_
    show SS pP eE belowS T175 (mkF mM 222 (Lc_law_eq_8 p0 p2 p3 p4 b101 b107 b111 b136) []) _
    refine XS.iconst X175.here hx rfl (hb hby at_222) ?_
    show SS pP eE belowS T175 (mkF mM 223 (Lc_law_eq_8 p0 p2 p3 p4 b101 b107 b111 b136) [(.int (1 : Int32))]) _
    refine XS.goto X175.here hx rfl (pc0 := 223) (pc' := 227) rfl (hb hby at_223) (by decide) (by decide) ?_
    show SS pP eE belowS T175 (mkF mM 227 (Lc_law_eq_8 p0 p2 p3 p4 b101 b107 b111 b136) [(.int (1 : Int32))]) _
    refine XS.istore X175.here hx rfl (hb hby at_227) rfl (l' := (Lc_law_eq_8 p0 p2 p3 p4 b101 b107 b111 b136)) rfl ?_
    show SS pP eE belowS T175 (mkF mM 229 (Lc_law_eq_8 p0 p2 p3 p4 b101 b107 b111 b136) []) _
    refine XS.iload X175.here hx rfl (hb hby at_229) rfl ?_
    show SS pP eE belowS T175 (mkF mM 231 (Lc_law_eq_8 p0 p2 p3 p4 b101 b107 b111 b136) [(.int (1 : Int32))]) _
    exact retN X175 hx (t := .boolean) Bd.returns (by simp) (hb hby at_231) hr
  · exact ⟨rfl, N175⟩

abbrev Lc_law_lt_0 (p0 : Int32) (p1 : Int32) (p2 : Int32) (p3 : Int32) (p4 : Int32) : Array Slot := #[.val (.int p0), .val (.int p1), .val (.int p2), .val (.int p3), .val (.int p4), .unset, .unset, .unset, .unset, .unset, .unset, .unset, .unset]
abbrev Lc_law_lt_1 (p0 : Int32) (p1 : Int32) (p2 : Int32) (p3 : Int32) (p4 : Int32) (b101 : Addr) : Array Slot := #[.val (.int p0), .val (.int p1), .val (.int p2), .val (.int p3), .val (.int p4), .val (.ref b101), .unset, .unset, .unset, .unset, .unset, .unset, .unset]
abbrev Lc_law_lt_2 (p0 : Int32) (p1 : Int32) (p2 : Int32) (p3 : Int32) (p4 : Int32) (b101 : Addr) (b107 : Addr) : Array Slot := #[.val (.int p0), .val (.int p1), .val (.int p2), .val (.int p3), .val (.int p4), .val (.ref b101), .val (.ref b107), .unset, .unset, .unset, .unset, .unset, .unset]
abbrev Lc_law_lt_3 (p0 : Int32) (p1 : Int32) (p2 : Int32) (p3 : Int32) (p4 : Int32) (b101 : Addr) (b107 : Addr) (b111 : Addr) : Array Slot := #[.val (.int p0), .val (.int p1), .val (.int p2), .val (.int p3), .val (.int p4), .val (.ref b101), .val (.ref b107), .val (.ref b111), .unset, .unset, .unset, .unset, .unset]
abbrev Lc_law_lt_4 (p0 : Int32) (p1 : Int32) (p2 : Int32) (p3 : Int32) (p4 : Int32) (b101 : Addr) (b107 : Addr) (b111 : Addr) (b136 : Addr) : Array Slot := #[.val (.int p0), .val (.int p1), .val (.int p2), .val (.int p3), .val (.int p4), .val (.ref b101), .val (.ref b107), .val (.ref b111), .val (.ref b136), .unset, .unset, .unset, .unset]
abbrev Lc_law_lt_5 (p0 : Int32) (p1 : Int32) (p2 : Int32) (p3 : Int32) (p4 : Int32) (b101 : Addr) (b107 : Addr) (b111 : Addr) (b136 : Addr) : Array Slot := #[.val (.int p0), .val (.int p1), .val (.int p2), .val (.int p3), .val (.int p4), .val (.ref b101), .val (.ref b107), .val (.ref b111), .val (.ref b136), .val (.int (0 : Int32)), .unset, .unset, .unset]
abbrev Lc_law_lt_6 (p0 : Int32) (p1 : Int32) (p2 : Int32) (p3 : Int32) (p4 : Int32) (b101 : Addr) (b107 : Addr) (b111 : Addr) (b136 : Addr) : Array Slot := #[.val (.int p0), .val (.int p1), .val (.int p2), .val (.int p3), .val (.int p4), .val (.ref b101), .val (.ref b107), .val (.ref b111), .val (.ref b136), .val (.int (0 : Int32)), .val (.int (1 : Int32)), .unset, .unset]
abbrev Lc_law_lt_7 (p0 : Int32) (p1 : Int32) (p2 : Int32) (p3 : Int32) (p4 : Int32) (b101 : Addr) (b107 : Addr) (b111 : Addr) (b136 : Addr) : Array Slot := #[.val (.int p0), .val (.int p1), .val (.int p2), .val (.int p3), .val (.int p4), .val (.ref b101), .val (.ref b107), .val (.ref b111), .val (.ref b136), .val (.int (0 : Int32)), .val (.int (1 : Int32)), .val (.int (1 : Int32)), .unset]
abbrev Lc_law_lt_8 (p0 : Int32) (p1 : Int32) (p2 : Int32) (p3 : Int32) (p4 : Int32) (b101 : Addr) (b107 : Addr) (b111 : Addr) (b136 : Addr) : Array Slot := #[.val (.int p0), .val (.int p1), .val (.int p2), .val (.int p3), .val (.int p4), .val (.ref b101), .val (.ref b107), .val (.ref b111), .val (.ref b136), .val (.int (0 : Int32)), .val (.int (1 : Int32)), .val (.int (1 : Int32)), .val (.int (1 : Int32))]
theorem ef_law_lt (mM : MethodId) (p0 : Int32) (p1 : Int32) (p2 : Int32) (p3 : Int32) (p4 : Int32) (cs : Int32) : entryFrame mM #[(.int p0), (.int p1), (.int p2), (.int p3), (.int p4)] maxLocals = mkF mM 0 #[.val (.int p0), .val (.int p1), .val (.int p2), .val (.int p3), .val (.int p4), .unset, .unset, .unset, .unset, .unset, .unset, .unset, .unset] [] := by first | (simp [entryFrame, mkF, argsToLocals, Value.category, maxLocals]; done) | rfl
set_option maxRecDepth 65536 in
set_option maxHeartbeats 40000000 in
theorem rm_law_lt (l : Launch) (Z : State) (a0 : Array Value) (hw : ∀ d ∈ tables_1, d.before a0 Z = true) (ws : List Jvm.Cond) (p0 : Int32) (p1 : Int32) (p2 : Int32) (p3 : Int32) (p4 : Int32) (cs : Int32) (h0 : Heap) (n0 : Nat) (Z0 : n0 ≤ h0.size) (OL : Old Z n0 h0) (S_COMPACT_STRINGS : Sta Z Z.heap "java/lang/String" "COMPACT_STRINGS" "Z" (.int cs)) (hcs : ¬ (cs = (0 : Int32))) (hlt : p0 < p1) (hnb : ¬ (p1 < p0)) (hc211 : ¬ (p0 = p1)) :
    MetFree l x (head1 (Jvm.Cond.code x code maxLocals ret :: ws) room_1) (fun xa xU => xa = #[(.int p0), (.int p1), (.int p2), (.int p3), (.int p4)] ∧ Z.Warmed39 xU.vm ∧ xU.heap = h0) (fun _ _ _ _ _ => True) (fun _ xU xo xU' => ∃ xv xL, xo = .returned xv ∧ Q_law n0 xv xL ∧ ReturnedEndW xU xo xU' xL room_1.cells room_1.slots) := by
  refine MetFree.of_bodySF (plainFor_of_name pn_com_example_compartment_compartment_policy_LevelAtLeastPinLaw) hisR ?_
  intro pP eE sS mM argS belowS methS cC s₁ Bd hml0 hP hK
  obtain ⟨rfl, hZ, hh⟩ := hP
  have hx := Bd.exec
  have hby := Bd.bytes
  have hml : cC.maxLocals = 13 := hml0
  have hown : sS.vm.findClass "com/example/compartment/compartment/policy/LevelAtLeastPinLaw" = some mM.cls := findClass_of_methodNamed Bd.named
  have hnm := (name_of_methodNamed Bd.named Bd.method).1
  have X0 : Stand pP l eE room_1 (sS.setVm sS.vm) mM #[(.int p0), (.int p1), (.int p2), (.int p3), (.int p4)] belowS methS cC s₁ [] 0 0 := Stand.of_body Bd
  have e0 : s₁.heap = h0 := by rw [← hh, Bd.state]; rfl
  have N0 := Fr.nil n0
  have pre0 : ∀ t', Steps pP.tables eE belowS (s₁.setTop (mkF mM 0 #[.val (.int p0), .val (.int p1), .val (.int p2), .val (.int p3), .val (.int p4), .unset, .unset, .unset, .unset, .unset, .unset, .unset, .unset] [])) t' → Steps pP.tables eE belowS (s₁.setTop (entryFrame mM #[(.int p0), (.int p1), (.int p2), (.int p3), (.int p4)] maxLocals)) t' := fun t' kk' => castTop (ef_law_lt mM p0 p1 p2 p3 p4 cs) kk'
  have hZ0 : Z.Warmed39 (sS.setVm sS.vm).vm := hZ
  have hown0 : (sS.setVm sS.vm).vm.findClass "com/example/compartment/compartment/policy/LevelAtLeastPinLaw" = some mM.cls := hown
  have hS0 : sS.Since sS.vm 0 := (State.WarmedH.refl sS).since 0
  obtain ⟨T101, h101, k101, X101, e101, E101, A101, st101⟩ := newP X0 hx hZ0 (wi hw 0 rfl) e0 (g := (mkF mM 1 (Lc_law_lt_0 p0 p1 p2 p3 p4) [(.int (2 : Int32))])) rfl (hb hby at_1) rfl (by decide) (cap := 2) (by decide) (by decide) (by decide) (by decide)
  obtain ⟨b101, g101⟩ : ∃ z : Nat, z = h0.size := ⟨_, rfl⟩
  rw [← g101] at A101 st101
  have Sz1 : h0.size ≤ h101.size := E101.1
  have V_b101 : Arv Z h101 b101 k101 .char (2 : Int32) [(.int (0 : Int32)), (.int (0 : Int32))] (.int (0 : Int32)) := (Arv.new A101 (by decide)).pad (pad_rep [] (.int (0 : Int32)) 2)
  obtain ⟨cl102, Ar102, q102, S102, Ng102, Ha102, Ga102⟩ := id V_b101
  have hin102 : ¬ ((0 : Int32) < 0 ∨ cl102.slots.size ≤ ((0 : Int32)).toNatClampNeg) := inb_of S102 ⟨by decide, by decide⟩
  obtain ⟨T103, h103, X103, e103, W103, st103⟩ := stC X101 hx hZ0 e101 Ar102 (j := (0 : Int32)) hin102 (g := (mkF mM 11 (Lc_law_lt_0 p0 p1 p2 p3 p4) [(.int (p2 &&& (255 : Int32))), (.int (0 : Int32)), (.ref b101), (.ref b101)])) rfl rfl (hb hby at_11)
  have ge104_b101 : @LE.le Nat _ n0 b101 := by omega
  have Sz2 : h101.size ≤ h103.size := Nat.le_of_eq (Wr.size W103).symm
  have Vs103 := Arv.set Ar102 q102 S102 Ng102 Ha102 Ga102 (fits_nar_char _) W103 0 rfl (Nat.le_of_ble_eq_true rfl)
  have Vt103 : Arv Z h103 b101 k101 .char (2 : Int32) [(.int (p2 &&& (255 : Int32))), (.int (0 : Int32))] (.int (0 : Int32)) := by
    have q : Arv Z h103 b101 k101 .char (2 : Int32) [(.int (p2 &&& (255 : Int32)).toUInt32.toUInt16.toUInt32.toInt32), (.int (0 : Int32))] (.int (0 : Int32)) := Vs103
    rw [show ((.int (p2 &&& (255 : Int32)).toUInt32.toUInt16.toUInt32.toInt32) : Value) = (.int (p2 &&& (255 : Int32))) from congrArg Value.int (i2c_mask p2)] at q
    exact q
  have N103 := Fr.snoc X103 N0 ge104_b101
  obtain ⟨cl105, Ar105, q105, S105, Ng105, Ha105, Ga105⟩ := id Vt103
  have hin105 : ¬ ((1 : Int32) < 0 ∨ cl105.slots.size ≤ ((1 : Int32)).toNatClampNeg) := inb_of S105 ⟨by decide, by decide⟩
  obtain ⟨T106, h106, X106, e106, W106, st106⟩ := stC X103 hx hZ0 e103 Ar105 (j := (1 : Int32)) hin105 (g := (mkF mM 21 (Lc_law_lt_0 p0 p1 p2 p3 p4) [(.int (p4 &&& (255 : Int32))), (.int (1 : Int32)), (.ref b101), (.ref b101)])) rfl rfl (hb hby at_21)
  have Sz3 : h103.size ≤ h106.size := Nat.le_of_eq (Wr.size W106).symm
  have Vs106 := Arv.set Ar105 q105 S105 Ng105 Ha105 Ga105 (fits_nar_char _) W106 1 rfl (Nat.le_of_ble_eq_true rfl)
  have Vt106 : Arv Z h106 b101 k101 .char (2 : Int32) [(.int (p2 &&& (255 : Int32))), (.int (p4 &&& (255 : Int32)))] (.int (0 : Int32)) := by
    have q : Arv Z h106 b101 k101 .char (2 : Int32) [(.int (p2 &&& (255 : Int32))), (.int (p4 &&& (255 : Int32)).toUInt32.toUInt16.toUInt32.toInt32)] (.int (0 : Int32)) := Vs106
    rw [show ((.int (p4 &&& (255 : Int32)).toUInt32.toUInt16.toUInt32.toInt32) : Value) = (.int (p4 &&& (255 : Int32))) from congrArg Value.int (i2c_mask p4)] at q
    exact q
  have N106 := Fr.snoc X106 N103 ge104_b101
  obtain ⟨T107, h107, k107, X107, e107, E107, A107, st107⟩ := newP X106 hx hZ0 (wi hw 0 rfl) e106 (g := (mkF mM 25 (Lc_law_lt_1 p0 p1 p2 p3 p4 b101) [(.int (1 : Int32))])) rfl (hb hby at_25) rfl (by decide) (cap := 1) (by decide) (by decide) (by decide) (by decide)
  obtain ⟨b107, g107⟩ : ∃ z : Nat, z = h106.size := ⟨_, rfl⟩
  rw [← g107] at A107 st107
  have Sz4 : h106.size ≤ h107.size := E107.1
  have V_b107 : Arv Z h107 b107 k107 .char (1 : Int32) [(.int (0 : Int32))] (.int (0 : Int32)) := (Arv.new A107 (by decide)).pad (pad_rep [] (.int (0 : Int32)) 1)
  obtain ⟨cl108, Ar108, q108, S108, Ng108, Ha108, Ga108⟩ := id V_b107
  have hin108 : ¬ ((0 : Int32) < 0 ∨ cl108.slots.size ≤ ((0 : Int32)).toNatClampNeg) := inb_of S108 ⟨by decide, by decide⟩
  obtain ⟨T109, h109, X109, e109, W109, st109⟩ := stC X107 hx hZ0 e107 Ar108 (j := (0 : Int32)) hin108 (g := (mkF mM 35 (Lc_law_lt_1 p0 p1 p2 p3 p4 b101) [(.int (p3 &&& (255 : Int32))), (.int (0 : Int32)), (.ref b107), (.ref b107)])) rfl rfl (hb hby at_35)
  have ge110_b107 : @LE.le Nat _ n0 b107 := by omega
  have Sz5 : h107.size ≤ h109.size := Nat.le_of_eq (Wr.size W109).symm
  have Vs109 := Arv.set Ar108 q108 S108 Ng108 Ha108 Ga108 (fits_nar_char _) W109 0 rfl (Nat.le_of_ble_eq_true rfl)
  have Vt109 : Arv Z h109 b107 k107 .char (1 : Int32) [(.int (p3 &&& (255 : Int32)))] (.int (0 : Int32)) := by
    have q : Arv Z h109 b107 k107 .char (1 : Int32) [(.int (p3 &&& (255 : Int32)).toUInt32.toUInt16.toUInt32.toInt32)] (.int (0 : Int32)) := Vs109
    rw [show ((.int (p3 &&& (255 : Int32)).toUInt32.toUInt16.toUInt32.toInt32) : Value) = (.int (p3 &&& (255 : Int32))) from congrArg Value.int (i2c_mask p3)] at q
    exact q
  have N109 := Fr.snoc X109 N106 ge110_b107
  obtain ⟨T111, h111, X111, e111, E111, A111, D111, B111, st111⟩ := newO X109 hx hZ0 hown0 (wi hw 1 rfl) (wi hw 2 rfl) (wi hw 3 rfl) e109 (g := (mkF mM 38 (Lc_law_lt_2 p0 p1 p2 p3 p4 b101 b107) [])) rfl (hb hby at_38) (by decide) (by decide)
  obtain ⟨b111, g111⟩ : ∃ z : Nat, z = h109.size := ⟨_, rfl⟩
  rw [← g111] at A111 D111 B111 st111
  have Sz6 : h109.size ≤ h111.size := E111.1
  have F111_name : Fld Z h111 b111 "com/example/compartment/compartment/policy/Level" "name" "Ljava/lang/String;" .null := D111 (Or.inr (wi hw 50 rfl)) (ty := (.object "java/lang/String")) (by decide)
  have F111_rank : Fld Z h111 b111 "com/example/compartment/compartment/policy/Level" "rank" "I" (.int (0 : Int32)) := D111 (Or.inr (wi hw 52 rfl)) (ty := .int) (by decide)
  obtain ⟨T112, h112, X112, e112, E112, A112, D112, B112, st112⟩ := newO X111 hx hZ0 hown0 (wi hw 4 rfl) (wi hw 5 rfl) (wi hw 6 rfl) e111 (g := (mkF mM 42 (Lc_law_lt_2 p0 p1 p2 p3 p4 b101 b107) [(.ref b111), (.ref b111)])) rfl (hb hby at_42) (by decide) (by decide)
  obtain ⟨b112, g112⟩ : ∃ z : Nat, z = h111.size := ⟨_, rfl⟩
  rw [← g112] at A112 D112 B112 st112
  have Sz7 : h111.size ≤ h112.size := E112.1
  have F112_coder : Fld Z h112 b112 "java/lang/String" "coder" "B" (.int (0 : Int32)) := D112 (Or.inr (wi hw 30 rfl)) (ty := .byte) (by decide)
  have F112_value : Fld Z h112 b112 "java/lang/String" "value" "[B" .null := D112 (Or.inr (wi hw 32 rfl)) (ty := (.array .byte)) (by decide)
  have c114_V_b101 : Arv Z h107 b101 k101 .char (2 : Int32) [(.int (p2 &&& (255 : Int32))), (.int (p4 &&& (255 : Int32)))] (.int (0 : Int32)) := Vt106.ext E107
  have lt_b101 : @LT.lt Nat _ b101 h106.size := Vt106.lt
  have lt_b107 : @LT.lt Nat _ b107 h109.size := Vt109.lt
  have ne_b101_b107_115 : b101 ≠ b107 := (by omega : @Ne Nat b101 b107)
  have c116_V_b101 : Arv Z h109 b101 k101 .char (2 : Int32) [(.int (p2 &&& (255 : Int32))), (.int (p4 &&& (255 : Int32)))] (.int (0 : Int32)) := c114_V_b101.other W109 ne_b101_b107_115
  have c117_V_b101 : Arv Z h111 b101 k101 .char (2 : Int32) [(.int (p2 &&& (255 : Int32))), (.int (p4 &&& (255 : Int32)))] (.int (0 : Int32)) := c116_V_b101.ext E111
  have c118_V_b101 : Arv Z h112 b101 k101 .char (2 : Int32) [(.int (p2 &&& (255 : Int32))), (.int (p4 &&& (255 : Int32)))] (.int (0 : Int32)) := c117_V_b101.ext E112
  have c119_OL : Old Z n0 h101 := OL.ext E101
  have c120_OL : Old Z n0 h103 := c119_OL.wr W103 ge104_b101
  have c121_OL : Old Z n0 h106 := c120_OL.wr W106 ge104_b101
  have c122_OL : Old Z n0 h107 := c121_OL.ext E107
  have c123_OL : Old Z n0 h109 := c122_OL.wr W109 ge110_b107
  have c124_OL : Old Z n0 h111 := c123_OL.ext E111
  have c125_OL : Old Z n0 h112 := c124_OL.ext E112
  have ge126_b112 : @LE.le Nat _ n0 b112 := by omega
  obtain ⟨_, _, ⟨T113, L113, k113, n113⟩, -, X113, ⟨Lc113, hQ113, l113, y113, z113⟩, st113⟩ := X112.specialBack hx (y := (⟨"java/lang/String", "<init>", "([C)V"⟩ : MethodName)) rfl hown0 (mvT hZ0 (wi hw 7 rfl)) (mvT hZ0 (wi hw 8 rfl)) (mvT hZ0 (wi hw 9 rfl)) (by decide) (backOf (W := 3) (rm_init1_s2 l Z a0 hw [] b112 b101 k101 .null (.int (0 : Int32)) cs (p2 &&& (255 : Int32)) (p4 &&& (255 : Int32)) h112 n0 (by omega) A112 F112_value F112_coder c118_V_b101 ge126_b112 c125_OL S_COMPACT_STRINGS hcs (own_lim _) (own_lim _)) hZ0 (wi hw 9 rfl) (wi hw 6 rfl) (by decide) (by decide)) (g := (mkF mM 48 (Lc_law_lt_2 p0 p1 p2 p3 p4 b101 b107) [(.ref b101), (.ref b112), (.ref b112), (.ref b111), (.ref b111)])) rfl (by rw [hml]; rfl) (Steps.refl _) (a := b112) (argsL := [(.ref b101)]) (rest := [(.ref b112), (.ref b111), (.ref b111)]) (lenOf pd_0 rfl) rfl (by show 2 * 0 + _ ≤ _; exact Nat.le_of_eq rfl) (hb hby at_48) (fun _ _ => ⟨rfl, e112, Nat.le_of_ble_eq_true rfl, Nat.le_of_ble_eq_true rfl⟩)
  dsimp only [Pt.U, Pt.locs, Pt.cells, Pt.slots] at X113 l113 y113 z113 st113 hQ113
  subst l113 y113 z113
  obtain ⟨h113, e113⟩ : ∃ z, T113.heap = z := ⟨_, rfl⟩
  rw [e113] at hQ113
  obtain ⟨b_113, k2_113, rfl, N113q, Kp113, p113_E_o, p113_F_value_o, p113_F_coder_o, p113_V_b, p113_gh_b⟩ := hQ113
  have Sz8 : h112.size ≤ h113.size := Kp113.1
  have N113 := Fr.app N109 N113q
  have c128_E_b111 : Exa Z h112 b111 "com/example/compartment/compartment/policy/Level" := Exa.ext E112 A111
  have c129_E_b111 : Exa Z h113 b111 "com/example/compartment/compartment/policy/Level" := c128_E_b111.keep Kp113
  have c130_F_name_b111 : Fld Z h112 b111 "com/example/compartment/compartment/policy/Level" "name" "Ljava/lang/String;" .null := Fld.ext E112 F111_name
  have lt_b111 : @LT.lt Nat _ b111 h111.size := A111.lt
  have lt_b112 : @LT.lt Nat _ b112 h113.size := p113_E_o.lt
  have ne_b111_b112_131 : b111 ≠ b112 := (by omega : @Ne Nat b111 b112)
  have c132_F_name_b111 : Fld Z h113 b111 "com/example/compartment/compartment/policy/Level" "name" "Ljava/lang/String;" .null := c130_F_name_b111.keep Kp113 (ninS ne_b111_b112_131 nin0)
  have c133_F_rank_b111 : Fld Z h112 b111 "com/example/compartment/compartment/policy/Level" "rank" "I" (.int (0 : Int32)) := Fld.ext E112 F111_rank
  have c134_F_rank_b111 : Fld Z h113 b111 "com/example/compartment/compartment/policy/Level" "rank" "I" (.int (0 : Int32)) := c133_F_rank_b111.keep Kp113 (ninS ne_b111_b112_131 nin0)
  have ge135_b111 : @LE.le Nat _ n0 b111 := by omega
  obtain ⟨_, _, ⟨T127, L127, k127, n127⟩, -, X127, hs127, hg127, ⟨Lc127, hQ127, l127, y127, z127⟩, st127⟩ := X113.specialBackS hx (y := (⟨"com/example/compartment/compartment/policy/Level", "<init>", "(Ljava/lang/String;I)V"⟩ : MethodName)) rfl hown0 (mvT hZ0 (wi hw 33 rfl)) (mvT hZ0 (wi hw 34 rfl)) (mvT hZ0 (wi hw 35 rfl)) (by decide) (backOfS (W := 1) (rm_lev l Z a0 hw [] b111 b112 p0 .null (.int (0 : Int32)) h113 n0 (by omega) c129_E_b111 c132_F_name_b111 c134_F_rank_b111 ge135_b111) hZ0 (wi hw 35 rfl) (wi hw 3 rfl) (by decide) (by decide)) (g := (mkF mM 52 (Lc_law_lt_2 p0 p1 p2 p3 p4 b101 b107) [(.int p0), (.ref b112), (.ref b111), (.ref b111)])) rfl (by rw [hml]; rfl) (Steps.refl _) (a := b111) (argsL := [(.ref b112), (.int p0)]) (rest := [(.ref b111)]) (lenOf pd_6 rfl) rfl (by show 2 * 0 + _ ≤ _; exact Nat.le_of_eq rfl) (hb hby at_52) (fun _ _ => ⟨rfl, e113, Nat.le_of_ble_eq_true rfl, Nat.le_of_ble_eq_true rfl⟩)
  dsimp only [Pt.U, Pt.locs, Pt.cells, Pt.slots] at X127 l127 y127 z127 st127 hQ127 hs127 hg127
  subst l127 y127 z127
  obtain ⟨X127', hS127, hZ127, hown127⟩ := rebS hS0 (by rw [e113]; omega) X127 hs127 hg127 hZ0 hown0
  obtain ⟨h127, e127⟩ : ∃ z, T127.heap = z := ⟨_, rfl⟩
  rw [e127] at hQ127 hS127
  obtain ⟨rfl, N127q, Kp127, p127_E_o, p127_F_rank_o⟩ := hQ127
  have Sz9 : h113.size ≤ h127.size := Kp127.1
  have N127 := Fr.app N113 N127q
  obtain ⟨T136, h136, X136, e136, E136, A136, D136, B136, st136⟩ := newO X127' hx hZ127 hown127 (wi hw 1 rfl) (wi hw 2 rfl) (wi hw 3 rfl) e127 (g := (mkF mM 57 (Lc_law_lt_3 p0 p1 p2 p3 p4 b101 b107 b111) [])) rfl (hb hby at_57) (by decide) (by decide)
  obtain ⟨b136, g136⟩ : ∃ z : Nat, z = h127.size := ⟨_, rfl⟩
  rw [← g136] at A136 D136 B136 st136
  have Sz10 : h127.size ≤ h136.size := E136.1
  have F136_name : Fld Z h136 b136 "com/example/compartment/compartment/policy/Level" "name" "Ljava/lang/String;" .null := D136 (Or.inr (wi hw 50 rfl)) (ty := (.object "java/lang/String")) (by decide)
  have F136_rank : Fld Z h136 b136 "com/example/compartment/compartment/policy/Level" "rank" "I" (.int (0 : Int32)) := D136 (Or.inr (wi hw 52 rfl)) (ty := .int) (by decide)
  obtain ⟨T137, h137, X137, e137, E137, A137, D137, B137, st137⟩ := newO X136 hx hZ127 hown127 (wi hw 4 rfl) (wi hw 5 rfl) (wi hw 6 rfl) e136 (g := (mkF mM 61 (Lc_law_lt_3 p0 p1 p2 p3 p4 b101 b107 b111) [(.ref b136), (.ref b136)])) rfl (hb hby at_61) (by decide) (by decide)
  obtain ⟨b137, g137⟩ : ∃ z : Nat, z = h136.size := ⟨_, rfl⟩
  rw [← g137] at A137 D137 B137 st137
  have Sz11 : h136.size ≤ h137.size := E137.1
  have F137_coder : Fld Z h137 b137 "java/lang/String" "coder" "B" (.int (0 : Int32)) := D137 (Or.inr (wi hw 30 rfl)) (ty := .byte) (by decide)
  have F137_value : Fld Z h137 b137 "java/lang/String" "value" "[B" .null := D137 (Or.inr (wi hw 32 rfl)) (ty := (.array .byte)) (by decide)
  have c139_V_b107 : Arv Z h111 b107 k107 .char (1 : Int32) [(.int (p3 &&& (255 : Int32)))] (.int (0 : Int32)) := Vt109.ext E111
  have c140_V_b107 : Arv Z h112 b107 k107 .char (1 : Int32) [(.int (p3 &&& (255 : Int32)))] (.int (0 : Int32)) := c139_V_b107.ext E112
  have ne_b107_b112_141 : b107 ≠ b112 := (by omega : @Ne Nat b107 b112)
  have c142_V_b107 : Arv Z h113 b107 k107 .char (1 : Int32) [(.int (p3 &&& (255 : Int32)))] (.int (0 : Int32)) := c140_V_b107.keep Kp113 (ninS ne_b107_b112_141 nin0)
  have ne_b107_b111_143 : b107 ≠ b111 := (by omega : @Ne Nat b107 b111)
  have c144_V_b107 : Arv Z h127 b107 k107 .char (1 : Int32) [(.int (p3 &&& (255 : Int32)))] (.int (0 : Int32)) := c142_V_b107.keep Kp127 (ninS ne_b107_b111_143 nin0)
  have c145_V_b107 : Arv Z h136 b107 k107 .char (1 : Int32) [(.int (p3 &&& (255 : Int32)))] (.int (0 : Int32)) := c144_V_b107.ext E136
  have c146_V_b107 : Arv Z h137 b107 k107 .char (1 : Int32) [(.int (p3 &&& (255 : Int32)))] (.int (0 : Int32)) := c145_V_b107.ext E137
  have c147_OL : Old Z n0 h113 := c125_OL.keep Kp113 (allS ge126_b112 all0)
  have c148_OL : Old Z n0 h127 := c147_OL.keep Kp127 (allS ge135_b111 all0)
  have c149_OL : Old Z n0 h136 := c148_OL.ext E136
  have c150_OL : Old Z n0 h137 := c149_OL.ext E137
  have ge151_b137 : @LE.le Nat _ n0 b137 := by omega
  obtain ⟨_, _, ⟨T138, L138, k138, n138⟩, -, X138, ⟨Lc138, hQ138, l138, y138, z138⟩, st138⟩ := X137.specialBack hx (y := (⟨"java/lang/String", "<init>", "([C)V"⟩ : MethodName)) rfl hown127 (mvT hZ127 (wi hw 7 rfl)) (mvT hZ127 (wi hw 8 rfl)) (mvT hZ127 (wi hw 9 rfl)) (by decide) (backOf (W := 3) (rm_init1_s1 l Z a0 hw [] b137 b107 k107 .null (.int (0 : Int32)) cs (p3 &&& (255 : Int32)) h137 n0 (by omega) A137 F137_value F137_coder c146_V_b107 ge151_b137 c150_OL S_COMPACT_STRINGS hcs (own_lim _)) hZ127 (wi hw 9 rfl) (wi hw 6 rfl) (by decide) (by decide)) (g := (mkF mM 67 (Lc_law_lt_3 p0 p1 p2 p3 p4 b101 b107 b111) [(.ref b107), (.ref b137), (.ref b137), (.ref b136), (.ref b136)])) rfl (by rw [hml]; rfl) (Steps.refl _) (a := b137) (argsL := [(.ref b107)]) (rest := [(.ref b137), (.ref b136), (.ref b136)]) (lenOf pd_0 rfl) rfl (by show 2 * 0 + _ ≤ _; exact Nat.le_of_eq rfl) (hb hby at_67) (fun _ _ => ⟨rfl, e137, Nat.le_of_ble_eq_true rfl, Nat.le_of_ble_eq_true rfl⟩)
  dsimp only [Pt.U, Pt.locs, Pt.cells, Pt.slots] at X138 l138 y138 z138 st138 hQ138
  subst l138 y138 z138
  obtain ⟨h138, e138⟩ : ∃ z, T138.heap = z := ⟨_, rfl⟩
  rw [e138] at hQ138
  obtain ⟨b_138, k2_138, rfl, N138q, Kp138, p138_E_o, p138_F_value_o, p138_F_coder_o, p138_V_b, p138_gh_b⟩ := hQ138
  have Sz12 : h137.size ≤ h138.size := Kp138.1
  have N138 := Fr.app N127 N138q
  have c153_E_b136 : Exa Z h137 b136 "com/example/compartment/compartment/policy/Level" := Exa.ext E137 A136
  have c154_E_b136 : Exa Z h138 b136 "com/example/compartment/compartment/policy/Level" := c153_E_b136.keep Kp138
  have c155_F_name_b136 : Fld Z h137 b136 "com/example/compartment/compartment/policy/Level" "name" "Ljava/lang/String;" .null := Fld.ext E137 F136_name
  have lt_b136 : @LT.lt Nat _ b136 h136.size := A136.lt
  have lt_b137 : @LT.lt Nat _ b137 h138.size := p138_E_o.lt
  have ne_b136_b137_156 : b136 ≠ b137 := (by omega : @Ne Nat b136 b137)
  have c157_F_name_b136 : Fld Z h138 b136 "com/example/compartment/compartment/policy/Level" "name" "Ljava/lang/String;" .null := c155_F_name_b136.keep Kp138 (ninS ne_b136_b137_156 nin0)
  have c158_F_rank_b136 : Fld Z h137 b136 "com/example/compartment/compartment/policy/Level" "rank" "I" (.int (0 : Int32)) := Fld.ext E137 F136_rank
  have c159_F_rank_b136 : Fld Z h138 b136 "com/example/compartment/compartment/policy/Level" "rank" "I" (.int (0 : Int32)) := c158_F_rank_b136.keep Kp138 (ninS ne_b136_b137_156 nin0)
  have ge160_b136 : @LE.le Nat _ n0 b136 := by omega
  obtain ⟨_, _, ⟨T152, L152, k152, n152⟩, -, X152, hs152, hg152, ⟨Lc152, hQ152, l152, y152, z152⟩, st152⟩ := X138.specialBackS hx (y := (⟨"com/example/compartment/compartment/policy/Level", "<init>", "(Ljava/lang/String;I)V"⟩ : MethodName)) rfl hown127 (mvT hZ127 (wi hw 33 rfl)) (mvT hZ127 (wi hw 34 rfl)) (mvT hZ127 (wi hw 35 rfl)) (by decide) (backOfS (W := 1) (rm_lev l Z a0 hw [] b136 b137 p1 .null (.int (0 : Int32)) h138 n0 (by omega) c154_E_b136 c157_F_name_b136 c159_F_rank_b136 ge160_b136) hZ127 (wi hw 35 rfl) (wi hw 3 rfl) (by decide) (by decide)) (g := (mkF mM 71 (Lc_law_lt_3 p0 p1 p2 p3 p4 b101 b107 b111) [(.int p1), (.ref b137), (.ref b136), (.ref b136)])) rfl (by rw [hml]; rfl) (Steps.refl _) (a := b136) (argsL := [(.ref b137), (.int p1)]) (rest := [(.ref b136)]) (lenOf pd_6 rfl) rfl (by show 2 * 0 + _ ≤ _; exact Nat.le_of_eq rfl) (hb hby at_71) (fun _ _ => ⟨rfl, e138, Nat.le_of_ble_eq_true rfl, Nat.le_of_ble_eq_true rfl⟩)
  dsimp only [Pt.U, Pt.locs, Pt.cells, Pt.slots] at X152 l152 y152 z152 st152 hQ152 hs152 hg152
  subst l152 y152 z152
  obtain ⟨X152', hS152, hZ152, hown152⟩ := rebS hS127 (by rw [e138]; omega) X152 hs152 hg152 hZ127 hown127
  obtain ⟨h152, e152⟩ : ∃ z, T152.heap = z := ⟨_, rfl⟩
  rw [e152] at hQ152 hS152
  obtain ⟨rfl, N152q, Kp152, p152_E_o, p152_F_rank_o⟩ := hQ152
  have Sz13 : h138.size ≤ h152.size := Kp152.1
  have N152 := Fr.app N138 N152q
  have c162_F_rank_b111 : Fld Z h136 b111 "com/example/compartment/compartment/policy/Level" "rank" "I" (.int p0) := Fld.ext E136 p127_F_rank_o
  have c163_F_rank_b111 : Fld Z h137 b111 "com/example/compartment/compartment/policy/Level" "rank" "I" (.int p0) := Fld.ext E137 c162_F_rank_b111
  have ne_b111_b137_164 : b111 ≠ b137 := (by omega : @Ne Nat b111 b137)
  have c165_F_rank_b111 : Fld Z h138 b111 "com/example/compartment/compartment/policy/Level" "rank" "I" (.int p0) := c163_F_rank_b111.keep Kp138 (ninS ne_b111_b137_164 nin0)
  have ne_b111_b136_166 : b111 ≠ b136 := (by omega : @Ne Nat b111 b136)
  have c167_F_rank_b111 : Fld Z h152 b111 "com/example/compartment/compartment/policy/Level" "rank" "I" (.int p0) := c165_F_rank_b111.keep Kp152 (ninS ne_b111_b136_166 nin0)
  have c168_E_b111 : Exa Z h136 b111 "com/example/compartment/compartment/policy/Level" := Exa.ext E136 p127_E_o
  have c169_E_b111 : Exa Z h137 b111 "com/example/compartment/compartment/policy/Level" := Exa.ext E137 c168_E_b111
  have c170_E_b111 : Exa Z h138 b111 "com/example/compartment/compartment/policy/Level" := c169_E_b111.keep Kp138
  have c171_E_b111 : Exa Z h152 b111 "com/example/compartment/compartment/policy/Level" := c170_E_b111.keep Kp152
  obtain ⟨cq161, kq161, q161a, q161b, q161c⟩ := isOf hZ152 e152 c171_E_b111
  obtain ⟨_, _, ⟨T161, L161, k161, n161⟩, -, X161, ⟨Lc161, hQ161, l161, y161, z161⟩, st161⟩ := X152'.virtualBack hx (y := (⟨"com/example/compartment/compartment/policy/Level", "atLeast", "(Lcom/example/compartment/compartment/policy/Level;)Z"⟩ : MethodName)) (z := (⟨"com/example/compartment/compartment/policy/Level", "atLeast", "(Lcom/example/compartment/compartment/policy/Level;)Z"⟩ : MethodName)) hown152 (mvT hZ152 (wi hw 53 rfl)) (mvT hZ152 (wi hw 54 rfl)) (notFace_of_selects (args := #[]) (mvT hZ152 (wi hw 56 rfl))) (mvT hZ152 (wi hw 56 rfl)) (mvT hZ152 (wi hw 55 rfl)) (by decide) (backOf (W := 0) (rm_at_lt l Z a0 hw [] b111 b136 p0 p1 h152 n0 (by omega) c167_F_rank_b111 p152_F_rank_o (hlt)) hZ152 (wi hw 57 rfl) (wi hw 3 rfl) (by decide) (by decide)) q161a q161c (g := (mkF mM 80 (Lc_law_lt_4 p0 p1 p2 p3 p4 b101 b107 b111 b136) [(.ref b136), (.ref b111)])) rfl (by rw [hml]; rfl) (Steps.refl _) (argsL := [(.ref b136)]) (rest := []) (lenOf pd_8 rfl) rfl (by show 2 * 0 + _ ≤ _; exact Nat.le_of_eq rfl) (hb hby at_80) (fun _ _ => ⟨rfl, e152, Nat.le_of_ble_eq_true rfl, Nat.le_of_ble_eq_true rfl⟩)
  dsimp only [Pt.U, Pt.locs, Pt.cells, Pt.slots] at X161 l161 y161 z161 st161 hQ161
  subst l161 y161 z161
  obtain ⟨h161, e161⟩ : ∃ z, T161.heap = z := ⟨_, rfl⟩
  rw [e161] at hQ161
  obtain ⟨rfl, N161q, eq161⟩ := hQ161
  rw [eq161] at e161
  have N161 := Fr.app N152 N161q
  obtain ⟨cq172, kq172, q172a, q172b, q172c⟩ := isOf hZ152 e161 p152_E_o
  obtain ⟨_, _, ⟨T172, L172, k172, n172⟩, -, X172, ⟨Lc172, hQ172, l172, y172, z172⟩, st172⟩ := X161.virtualBack hx (y := (⟨"com/example/compartment/compartment/policy/Level", "atLeast", "(Lcom/example/compartment/compartment/policy/Level;)Z"⟩ : MethodName)) (z := (⟨"com/example/compartment/compartment/policy/Level", "atLeast", "(Lcom/example/compartment/compartment/policy/Level;)Z"⟩ : MethodName)) hown152 (mvT hZ152 (wi hw 53 rfl)) (mvT hZ152 (wi hw 54 rfl)) (notFace_of_selects (args := #[]) (mvT hZ152 (wi hw 56 rfl))) (mvT hZ152 (wi hw 56 rfl)) (mvT hZ152 (wi hw 55 rfl)) (by decide) (backOf (W := 0) (rm_at_ge l Z a0 hw [] b136 b111 p1 p0 h152 n0 (by omega) p152_F_rank_o c167_F_rank_b111 (hnb)) hZ152 (wi hw 57 rfl) (wi hw 3 rfl) (by decide) (by decide)) q172a q172c (g := (mkF mM 89 (Lc_law_lt_5 p0 p1 p2 p3 p4 b101 b107 b111 b136) [(.ref b111), (.ref b136)])) rfl (by rw [hml]; rfl) (Steps.refl _) (argsL := [(.ref b111)]) (rest := []) (lenOf pd_8 rfl) rfl (by show 2 * 0 + _ ≤ _; exact Nat.le_of_eq rfl) (hb hby at_89) (fun _ _ => ⟨rfl, e161, Nat.le_of_ble_eq_true rfl, Nat.le_of_ble_eq_true rfl⟩)
  dsimp only [Pt.U, Pt.locs, Pt.cells, Pt.slots] at X172 l172 y172 z172 st172 hQ172
  subst l172 y172 z172
  obtain ⟨h172, e172⟩ : ∃ z, T172.heap = z := ⟨_, rfl⟩
  rw [e172] at hQ172
  obtain ⟨rfl, N172q, eq172⟩ := hQ172
  rw [eq172] at e172
  have N172 := Fr.app N161 N172q
  obtain ⟨cq173, kq173, q173a, q173b, q173c⟩ := isOf hZ152 e172 c171_E_b111
  obtain ⟨_, _, ⟨T173, L173, k173, n173⟩, -, X173, ⟨Lc173, hQ173, l173, y173, z173⟩, st173⟩ := X172.virtualBack hx (y := (⟨"com/example/compartment/compartment/policy/Level", "atLeast", "(Lcom/example/compartment/compartment/policy/Level;)Z"⟩ : MethodName)) (z := (⟨"com/example/compartment/compartment/policy/Level", "atLeast", "(Lcom/example/compartment/compartment/policy/Level;)Z"⟩ : MethodName)) hown152 (mvT hZ152 (wi hw 53 rfl)) (mvT hZ152 (wi hw 54 rfl)) (notFace_of_selects (args := #[]) (mvT hZ152 (wi hw 56 rfl))) (mvT hZ152 (wi hw 56 rfl)) (mvT hZ152 (wi hw 55 rfl)) (by decide) (backOf (W := 0) (rm_at_ge l Z a0 hw [] b111 b111 p0 p0 h152 n0 (by omega) c167_F_rank_b111 c167_F_rank_b111 (Int32.lt_irrefl)) hZ152 (wi hw 57 rfl) (wi hw 3 rfl) (by decide) (by decide)) q173a q173c (g := (mkF mM 98 (Lc_law_lt_6 p0 p1 p2 p3 p4 b101 b107 b111 b136) [(.ref b111), (.ref b111)])) rfl (by rw [hml]; rfl) (Steps.refl _) (argsL := [(.ref b111)]) (rest := []) (lenOf pd_8 rfl) rfl (by show 2 * 0 + _ ≤ _; exact Nat.le_of_eq rfl) (hb hby at_98) (fun _ _ => ⟨rfl, e172, Nat.le_of_ble_eq_true rfl, Nat.le_of_ble_eq_true rfl⟩)
  dsimp only [Pt.U, Pt.locs, Pt.cells, Pt.slots] at X173 l173 y173 z173 st173 hQ173
  subst l173 y173 z173
  obtain ⟨h173, e173⟩ : ∃ z, T173.heap = z := ⟨_, rfl⟩
  rw [e173] at hQ173
  obtain ⟨rfl, N173q, eq173⟩ := hQ173
  rw [eq173] at e173
  have N173 := Fr.app N172 N173q
  obtain ⟨_, _, ⟨T174, L174, k174, n174⟩, -, X174, ⟨Lc174, hQ174, l174, y174, z174⟩, st174⟩ := Jvm.LawKit.callS X173 hx (y := (⟨"com/example/compartment/compartment/policy/LevelAtLeastPinLaw", "dominatesRef", "(II)Z"⟩ : MethodName)) hown152 (mvT hZ152 (wi hw 58 rfl)) (mvT hZ152 (wi hw 59 rfl)) (mvT hZ152 (wi hw 60 rfl)) (mvT hZ152 (wi hw 61 rfl)) (by decide) (backOf (W := 1) (rm_dom_lt l Z a0 hw [] p0 p1 h152 n0 (by omega) ((own_dom _ _).mpr hlt)) hZ152 (wi hw 61 rfl) (wi hw 60 rfl) (by decide) (by decide)) (g := (mkF mM 115 (Lc_law_lt_8 p0 p1 p2 p3 p4 b101 b107 b111 b136) [(.int p1), (.int p0), (.int (0 : Int32))])) rfl (by rw [hml]; rfl) (argsL := [(.int p0), (.int p1)]) (rest := [(.int (0 : Int32))]) (lenOf pd_9 rfl) rfl (by show 2 * 0 + _ ≤ _; exact Nat.le_of_eq rfl) (hb hby at_115) (fun _ _ => ⟨rfl, e173, Nat.le_of_ble_eq_true rfl, Nat.le_of_ble_eq_true rfl⟩)
  dsimp only [Pt.U, Pt.locs, Pt.cells, Pt.slots] at X174 l174 y174 z174 st174 hQ174
  subst l174 y174 z174
  obtain ⟨h174, e174⟩ : ∃ z, T174.heap = z := ⟨_, rfl⟩
  rw [e174] at hQ174
  obtain ⟨rfl, N174q, eq174⟩ := hQ174
  rw [eq174] at e174
  have N174 := Fr.app N173 N174q
  obtain ⟨_, _, ⟨T175, L175, k175, n175⟩, -, X175, ⟨Lc175, hQ175, l175, y175, z175⟩, st175⟩ := Jvm.LawKit.callS X174 hx (y := (⟨"com/example/compartment/compartment/policy/LevelAtLeastPinLaw", "dominatesRef", "(II)Z"⟩ : MethodName)) hown152 (mvT hZ152 (wi hw 58 rfl)) (mvT hZ152 (wi hw 59 rfl)) (mvT hZ152 (wi hw 60 rfl)) (mvT hZ152 (wi hw 61 rfl)) (by decide) (backOf (W := 1) (rm_dom_ge l Z a0 hw [] p1 p0 h152 n0 (by omega) (fun q => hnb ((own_dom _ _).mp q))) hZ152 (wi hw 61 rfl) (wi hw 60 rfl) (by decide) (by decide)) (g := (mkF mM 137 (Lc_law_lt_8 p0 p1 p2 p3 p4 b101 b107 b111 b136) [(.int p0), (.int p1), (.int (1 : Int32))])) rfl (by rw [hml]; rfl) (argsL := [(.int p1), (.int p0)]) (rest := [(.int (1 : Int32))]) (lenOf pd_9 rfl) rfl (by show 2 * 0 + _ ≤ _; exact Nat.le_of_eq rfl) (hb hby at_137) (fun _ _ => ⟨rfl, e174, Nat.le_of_ble_eq_true rfl, Nat.le_of_ble_eq_true rfl⟩)
  dsimp only [Pt.U, Pt.locs, Pt.cells, Pt.slots] at X175 l175 y175 z175 st175 hQ175
  subst l175 y175 z175
  obtain ⟨h175, e175⟩ : ∃ z, T175.heap = z := ⟨_, rfl⟩
  rw [e175] at hQ175
  obtain ⟨rfl, N175q, eq175⟩ := hQ175
  rw [eq175] at e175
  have N175 := Fr.app N174 N175q
  obtain ⟨fs, hr, hrun, hended, hE⟩ := Stand.leaveW (s := sS) X175 hS152 (by rw [e175]; omega) (v := some (.int (1 : Int32))) (fun h => by rw [Bd.returns] at h; cases h)
  refine ⟨_, _, pre0 _ ?_, hrun, hended, _, _, rfl, ?_, hE.1, hE.2.1, hE.2.2.1, hE.2.2.2.mono (by decide) (by decide)⟩
  · show SS pP eE belowS s₁ (mkF mM 0 (Lc_law_lt_0 p0 p1 p2 p3 p4) []) _
    refine XS.iconst X0.here hx rfl (hb hby at_0) ?_
    show SS pP eE belowS s₁ (mkF mM 1 (Lc_law_lt_0 p0 p1 p2 p3 p4) [(.int (2 : Int32))]) _
    refine st101 _ ?_
    show SS pP eE belowS T101 (mkF mM 3 (Lc_law_lt_0 p0 p1 p2 p3 p4) [(.ref b101)]) _
    refine XS.dup X101.here hx rfl (hb hby at_3) rfl rfl ?_
    show SS pP eE belowS T101 (mkF mM 4 (Lc_law_lt_0 p0 p1 p2 p3 p4) [(.ref b101), (.ref b101)]) _
    refine XS.iconst X101.here hx rfl (hb hby at_4) ?_
    show SS pP eE belowS T101 (mkF mM 5 (Lc_law_lt_0 p0 p1 p2 p3 p4) [(.int (0 : Int32)), (.ref b101), (.ref b101)]) _
    refine XS.iloadN X101.here hx rfl (hb hby at_5) rfl ?_
    show SS pP eE belowS T101 (mkF mM 6 (Lc_law_lt_0 p0 p1 p2 p3 p4) [(.int p2), (.int (0 : Int32)), (.ref b101), (.ref b101)]) _
    refine XS.sipush X101.here hx rfl (hb hby at_6) ?_
    show SS pP eE belowS T101 (mkF mM 9 (Lc_law_lt_0 p0 p1 p2 p3 p4) [(.int (255 : Int32)), (.int p2), (.int (0 : Int32)), (.ref b101), (.ref b101)]) _
    refine XS.iand X101.here hx rfl (hb hby at_9) rfl ?_
    show SS pP eE belowS T101 (mkF mM 10 (Lc_law_lt_0 p0 p1 p2 p3 p4) [(.int (p2 &&& (255 : Int32))), (.int (0 : Int32)), (.ref b101), (.ref b101)]) _
    refine XS.i2c X101.here hx rfl (hb hby at_10) rfl ?_
    show SS pP eE belowS T101 (mkF mM 11 (Lc_law_lt_0 p0 p1 p2 p3 p4) [(.int ((p2 &&& (255 : Int32)).toUInt32.toUInt16.toUInt32.toInt32)), (.int (0 : Int32)), (.ref b101), (.ref b101)]) _
    rw [show ((p2 &&& (255 : Int32)).toUInt32.toUInt16.toUInt32.toInt32) = (p2 &&& (255 : Int32)) from i2c_mask p2]
    show SS pP eE belowS T101 (mkF mM 11 (Lc_law_lt_0 p0 p1 p2 p3 p4) [(.int (p2 &&& (255 : Int32))), (.int (0 : Int32)), (.ref b101), (.ref b101)]) _
    refine st103 _ ?_
    show SS pP eE belowS T103 (mkF mM 12 (Lc_law_lt_0 p0 p1 p2 p3 p4) [(.ref b101)]) _
    refine XS.dup X103.here hx rfl (hb hby at_12) rfl rfl ?_
    show SS pP eE belowS T103 (mkF mM 13 (Lc_law_lt_0 p0 p1 p2 p3 p4) [(.ref b101), (.ref b101)]) _
    refine XS.iconst X103.here hx rfl (hb hby at_13) ?_
    show SS pP eE belowS T103 (mkF mM 14 (Lc_law_lt_0 p0 p1 p2 p3 p4) [(.int (1 : Int32)), (.ref b101), (.ref b101)]) _
    refine XS.iload X103.here hx rfl (hb hby at_14) rfl ?_
    show SS pP eE belowS T103 (mkF mM 16 (Lc_law_lt_0 p0 p1 p2 p3 p4) [(.int p4), (.int (1 : Int32)), (.ref b101), (.ref b101)]) _
    refine XS.sipush X103.here hx rfl (hb hby at_16) ?_
    show SS pP eE belowS T103 (mkF mM 19 (Lc_law_lt_0 p0 p1 p2 p3 p4) [(.int (255 : Int32)), (.int p4), (.int (1 : Int32)), (.ref b101), (.ref b101)]) _
    refine XS.iand X103.here hx rfl (hb hby at_19) rfl ?_
    show SS pP eE belowS T103 (mkF mM 20 (Lc_law_lt_0 p0 p1 p2 p3 p4) [(.int (p4 &&& (255 : Int32))), (.int (1 : Int32)), (.ref b101), (.ref b101)]) _
    refine XS.i2c X103.here hx rfl (hb hby at_20) rfl ?_
    show SS pP eE belowS T103 (mkF mM 21 (Lc_law_lt_0 p0 p1 p2 p3 p4) [(.int ((p4 &&& (255 : Int32)).toUInt32.toUInt16.toUInt32.toInt32)), (.int (1 : Int32)), (.ref b101), (.ref b101)]) _
    rw [show ((p4 &&& (255 : Int32)).toUInt32.toUInt16.toUInt32.toInt32) = (p4 &&& (255 : Int32)) from i2c_mask p4]
    show SS pP eE belowS T103 (mkF mM 21 (Lc_law_lt_0 p0 p1 p2 p3 p4) [(.int (p4 &&& (255 : Int32))), (.int (1 : Int32)), (.ref b101), (.ref b101)]) _
    refine st106 _ ?_
    show SS pP eE belowS T106 (mkF mM 22 (Lc_law_lt_0 p0 p1 p2 p3 p4) [(.ref b101)]) _
    refine XS.astore X106.here hx rfl (hb hby at_22) rfl rfl (l' := (Lc_law_lt_1 p0 p1 p2 p3 p4 b101)) rfl ?_
    show SS pP eE belowS T106 (mkF mM 24 (Lc_law_lt_1 p0 p1 p2 p3 p4 b101) []) _
    refine XS.iconst X106.here hx rfl (hb hby at_24) ?_
    show SS pP eE belowS T106 (mkF mM 25 (Lc_law_lt_1 p0 p1 p2 p3 p4 b101) [(.int (1 : Int32))]) _
    refine st107 _ ?_
    show SS pP eE belowS T107 (mkF mM 27 (Lc_law_lt_1 p0 p1 p2 p3 p4 b101) [(.ref b107)]) _
    refine XS.dup X107.here hx rfl (hb hby at_27) rfl rfl ?_
    show SS pP eE belowS T107 (mkF mM 28 (Lc_law_lt_1 p0 p1 p2 p3 p4 b101) [(.ref b107), (.ref b107)]) _
    refine XS.iconst X107.here hx rfl (hb hby at_28) ?_
    show SS pP eE belowS T107 (mkF mM 29 (Lc_law_lt_1 p0 p1 p2 p3 p4 b101) [(.int (0 : Int32)), (.ref b107), (.ref b107)]) _
    refine XS.iloadN X107.here hx rfl (hb hby at_29) rfl ?_
    show SS pP eE belowS T107 (mkF mM 30 (Lc_law_lt_1 p0 p1 p2 p3 p4 b101) [(.int p3), (.int (0 : Int32)), (.ref b107), (.ref b107)]) _
    refine XS.sipush X107.here hx rfl (hb hby at_30) ?_
    show SS pP eE belowS T107 (mkF mM 33 (Lc_law_lt_1 p0 p1 p2 p3 p4 b101) [(.int (255 : Int32)), (.int p3), (.int (0 : Int32)), (.ref b107), (.ref b107)]) _
    refine XS.iand X107.here hx rfl (hb hby at_33) rfl ?_
    show SS pP eE belowS T107 (mkF mM 34 (Lc_law_lt_1 p0 p1 p2 p3 p4 b101) [(.int (p3 &&& (255 : Int32))), (.int (0 : Int32)), (.ref b107), (.ref b107)]) _
    refine XS.i2c X107.here hx rfl (hb hby at_34) rfl ?_
    show SS pP eE belowS T107 (mkF mM 35 (Lc_law_lt_1 p0 p1 p2 p3 p4 b101) [(.int ((p3 &&& (255 : Int32)).toUInt32.toUInt16.toUInt32.toInt32)), (.int (0 : Int32)), (.ref b107), (.ref b107)]) _
    rw [show ((p3 &&& (255 : Int32)).toUInt32.toUInt16.toUInt32.toInt32) = (p3 &&& (255 : Int32)) from i2c_mask p3]
    show SS pP eE belowS T107 (mkF mM 35 (Lc_law_lt_1 p0 p1 p2 p3 p4 b101) [(.int (p3 &&& (255 : Int32))), (.int (0 : Int32)), (.ref b107), (.ref b107)]) _
    refine st109 _ ?_
    show SS pP eE belowS T109 (mkF mM 36 (Lc_law_lt_1 p0 p1 p2 p3 p4 b101) [(.ref b107)]) _
    refine XS.astore X109.here hx rfl (hb hby at_36) rfl rfl (l' := (Lc_law_lt_2 p0 p1 p2 p3 p4 b101 b107)) rfl ?_
    show SS pP eE belowS T109 (mkF mM 38 (Lc_law_lt_2 p0 p1 p2 p3 p4 b101 b107) []) _
    refine st111 _ ?_
    show SS pP eE belowS T111 (mkF mM 41 (Lc_law_lt_2 p0 p1 p2 p3 p4 b101 b107) [(.ref b111)]) _
    refine XS.dup X111.here hx rfl (hb hby at_41) rfl rfl ?_
    show SS pP eE belowS T111 (mkF mM 42 (Lc_law_lt_2 p0 p1 p2 p3 p4 b101 b107) [(.ref b111), (.ref b111)]) _
    refine st112 _ ?_
    show SS pP eE belowS T112 (mkF mM 45 (Lc_law_lt_2 p0 p1 p2 p3 p4 b101 b107) [(.ref b112), (.ref b111), (.ref b111)]) _
    refine XS.dup X112.here hx rfl (hb hby at_45) rfl rfl ?_
    show SS pP eE belowS T112 (mkF mM 46 (Lc_law_lt_2 p0 p1 p2 p3 p4 b101 b107) [(.ref b112), (.ref b112), (.ref b111), (.ref b111)]) _
    refine XS.aload X112.here hx rfl (hb hby at_46) rfl rfl ?_
    show SS pP eE belowS T112 (mkF mM 48 (Lc_law_lt_2 p0 p1 p2 p3 p4 b101 b107) [(.ref b101), (.ref b112), (.ref b112), (.ref b111), (.ref b111)]) _
    refine st113.trans ?_
    show SS pP eE belowS T113 (mkF mM 51 (Lc_law_lt_2 p0 p1 p2 p3 p4 b101 b107) [(.ref b112), (.ref b111), (.ref b111)]) _
    refine XS.iloadN X113.here hx rfl (hb hby at_51) rfl ?_
    show SS pP eE belowS T113 (mkF mM 52 (Lc_law_lt_2 p0 p1 p2 p3 p4 b101 b107) [(.int p0), (.ref b112), (.ref b111), (.ref b111)]) _
    refine st127.trans ?_
    show SS pP eE belowS T127 (mkF mM 55 (Lc_law_lt_2 p0 p1 p2 p3 p4 b101 b107) [(.ref b111)]) _
    refine XS.astore X127'.here hx rfl (hb hby at_55) rfl rfl (l' := (Lc_law_lt_3 p0 p1 p2 p3 p4 b101 b107 b111)) rfl ?_
    show SS pP eE belowS T127 (mkF mM 57 (Lc_law_lt_3 p0 p1 p2 p3 p4 b101 b107 b111) []) _
    refine st136 _ ?_
    show SS pP eE belowS T136 (mkF mM 60 (Lc_law_lt_3 p0 p1 p2 p3 p4 b101 b107 b111) [(.ref b136)]) _
    refine XS.dup X136.here hx rfl (hb hby at_60) rfl rfl ?_
    show SS pP eE belowS T136 (mkF mM 61 (Lc_law_lt_3 p0 p1 p2 p3 p4 b101 b107 b111) [(.ref b136), (.ref b136)]) _
    refine st137 _ ?_
    show SS pP eE belowS T137 (mkF mM 64 (Lc_law_lt_3 p0 p1 p2 p3 p4 b101 b107 b111) [(.ref b137), (.ref b136), (.ref b136)]) _
    refine XS.dup X137.here hx rfl (hb hby at_64) rfl rfl ?_
    show SS pP eE belowS T137 (mkF mM 65 (Lc_law_lt_3 p0 p1 p2 p3 p4 b101 b107 b111) [(.ref b137), (.ref b137), (.ref b136), (.ref b136)]) _
    refine XS.aload X137.here hx rfl (hb hby at_65) rfl rfl ?_
    show SS pP eE belowS T137 (mkF mM 67 (Lc_law_lt_3 p0 p1 p2 p3 p4 b101 b107 b111) [(.ref b107), (.ref b137), (.ref b137), (.ref b136), (.ref b136)]) _
    refine st138.trans ?_
    show SS pP eE belowS T138 (mkF mM 70 (Lc_law_lt_3 p0 p1 p2 p3 p4 b101 b107 b111) [(.ref b137), (.ref b136), (.ref b136)]) _
    refine XS.iloadN X138.here hx rfl (hb hby at_70) rfl ?_
    show SS pP eE belowS T138 (mkF mM 71 (Lc_law_lt_3 p0 p1 p2 p3 p4 b101 b107 b111) [(.int p1), (.ref b137), (.ref b136), (.ref b136)]) _
    refine st152.trans ?_
    show SS pP eE belowS T152 (mkF mM 74 (Lc_law_lt_3 p0 p1 p2 p3 p4 b101 b107 b111) [(.ref b136)]) _
    refine XS.astore X152'.here hx rfl (hb hby at_74) rfl rfl (l' := (Lc_law_lt_4 p0 p1 p2 p3 p4 b101 b107 b111 b136)) rfl ?_
    show SS pP eE belowS T152 (mkF mM 76 (Lc_law_lt_4 p0 p1 p2 p3 p4 b101 b107 b111 b136) []) _
    refine XS.aload X152'.here hx rfl (hb hby at_76) rfl rfl ?_
    show SS pP eE belowS T152 (mkF mM 78 (Lc_law_lt_4 p0 p1 p2 p3 p4 b101 b107 b111 b136) [(.ref b111)]) _
    refine XS.aload X152'.here hx rfl (hb hby at_78) rfl rfl ?_
    show SS pP eE belowS T152 (mkF mM 80 (Lc_law_lt_4 p0 p1 p2 p3 p4 b101 b107 b111 b136) [(.ref b136), (.ref b111)]) _
    refine st161.trans ?_
    show SS pP eE belowS T161 (mkF mM 83 (Lc_law_lt_4 p0 p1 p2 p3 p4 b101 b107 b111 b136) [(.int (0 : Int32))]) _
    refine XS.istore X161.here hx rfl (hb hby at_83) rfl (l' := (Lc_law_lt_5 p0 p1 p2 p3 p4 b101 b107 b111 b136)) rfl ?_
    show SS pP eE belowS T161 (mkF mM 85 (Lc_law_lt_5 p0 p1 p2 p3 p4 b101 b107 b111 b136) []) _
    refine XS.aload X161.here hx rfl (hb hby at_85) rfl rfl ?_
    show SS pP eE belowS T161 (mkF mM 87 (Lc_law_lt_5 p0 p1 p2 p3 p4 b101 b107 b111 b136) [(.ref b136)]) _
    refine XS.aload X161.here hx rfl (hb hby at_87) rfl rfl ?_
    show SS pP eE belowS T161 (mkF mM 89 (Lc_law_lt_5 p0 p1 p2 p3 p4 b101 b107 b111 b136) [(.ref b111), (.ref b136)]) _
    refine st172.trans ?_
    show SS pP eE belowS T172 (mkF mM 92 (Lc_law_lt_5 p0 p1 p2 p3 p4 b101 b107 b111 b136) [(.int (1 : Int32))]) _
    refine XS.istore X172.here hx rfl (hb hby at_92) rfl (l' := (Lc_law_lt_6 p0 p1 p2 p3 p4 b101 b107 b111 b136)) rfl ?_
    show SS pP eE belowS T172 (mkF mM 94 (Lc_law_lt_6 p0 p1 p2 p3 p4 b101 b107 b111 b136) []) _
    refine XS.aload X172.here hx rfl (hb hby at_94) rfl rfl ?_
    show SS pP eE belowS T172 (mkF mM 96 (Lc_law_lt_6 p0 p1 p2 p3 p4 b101 b107 b111 b136) [(.ref b111)]) _
    refine XS.aload X172.here hx rfl (hb hby at_96) rfl rfl ?_
    show SS pP eE belowS T172 (mkF mM 98 (Lc_law_lt_6 p0 p1 p2 p3 p4 b101 b107 b111 b136) [(.ref b111), (.ref b111)]) _
    refine st173.trans ?_
    show SS pP eE belowS T173 (mkF mM 101 (Lc_law_lt_6 p0 p1 p2 p3 p4 b101 b107 b111 b136) [(.int (1 : Int32))]) _
    refine XS.istore X173.here hx rfl (hb hby at_101) rfl (l' := (Lc_law_lt_7 p0 p1 p2 p3 p4 b101 b107 b111 b136)) rfl ?_
    show SS pP eE belowS T173 (mkF mM 103 (Lc_law_lt_7 p0 p1 p2 p3 p4 b101 b107 b111 b136) []) _
    refine XS.iconst X173.here hx rfl (hb hby at_103) ?_
    show SS pP eE belowS T173 (mkF mM 104 (Lc_law_lt_7 p0 p1 p2 p3 p4 b101 b107 b111 b136) [(.int (1 : Int32))]) _
    refine XS.istore X173.here hx rfl (hb hby at_104) rfl (l' := (Lc_law_lt_8 p0 p1 p2 p3 p4 b101 b107 b111 b136)) rfl ?_
    show SS pP eE belowS T173 (mkF mM 106 (Lc_law_lt_8 p0 p1 p2 p3 p4 b101 b107 b111 b136) []) _
    refine XS.iload X173.here hx rfl (hb hby at_106) rfl ?_
    show SS pP eE belowS T173 (mkF mM 108 (Lc_law_lt_8 p0 p1 p2 p3 p4 b101 b107 b111 b136) [(.int (1 : Int32))]) _
    refine XS.ifNo X173.here hx rfl (hb hby at_108) rfl ((if0 _ _).trans (feq (by decide : ¬ ((1 : Int32) = (0 : Int32)))).1) ?_
    show SS pP eE belowS T173 (mkF mM 111 (Lc_law_lt_8 p0 p1 p2 p3 p4 b101 b107 b111 b136) []) _
    refine XS.iload X173.here hx rfl (hb hby at_111) rfl ?_
    show SS pP eE belowS T173 (mkF mM 113 (Lc_law_lt_8 p0 p1 p2 p3 p4 b101 b107 b111 b136) [(.int (0 : Int32))]) _
    refine XS.iloadN X173.here hx rfl (hb hby at_113) rfl ?_
    show SS pP eE belowS T173 (mkF mM 114 (Lc_law_lt_8 p0 p1 p2 p3 p4 b101 b107 b111 b136) [(.int p0), (.int (0 : Int32))]) _
    refine XS.iloadN X173.here hx rfl (hb hby at_114) rfl ?_
    show SS pP eE belowS T173 (mkF mM 115 (Lc_law_lt_8 p0 p1 p2 p3 p4 b101 b107 b111 b136) [(.int p1), (.int p0), (.int (0 : Int32))]) _
    refine st174 _ ?_
    show SS pP eE belowS T174 (mkF mM 118 (Lc_law_lt_8 p0 p1 p2 p3 p4 b101 b107 b111 b136) [(.int (0 : Int32)), (.int (0 : Int32))]) _
    refine XS.icmpNo X174.here hx rfl (hb hby at_118) rfl (teq (by decide : (0 : Int32) = (0 : Int32))).2 ?_
    show SS pP eE belowS T174 (mkF mM 121 (Lc_law_lt_8 p0 p1 p2 p3 p4 b101 b107 b111 b136) []) _
    refine XS.iconst X174.here hx rfl (hb hby at_121) ?_
    show SS pP eE belowS T174 (mkF mM 122 (Lc_law_lt_8 p0 p1 p2 p3 p4 b101 b107 b111 b136) [(.int (1 : Int32))]) _
    refine XS.goto X174.here hx rfl (pc0 := 122) (pc' := 126) rfl (hb hby at_122) (by decide) (by decide) ?_
    show SS pP eE belowS T174 (mkF mM 126 (Lc_law_lt_8 p0 p1 p2 p3 p4 b101 b107 b111 b136) [(.int (1 : Int32))]) _
    refine XS.istore X174.here hx rfl (hb hby at_126) rfl (l' := (Lc_law_lt_8 p0 p1 p2 p3 p4 b101 b107 b111 b136)) rfl ?_
    show SS pP eE belowS T174 (mkF mM 128 (Lc_law_lt_8 p0 p1 p2 p3 p4 b101 b107 b111 b136) []) _
    refine XS.iload X174.here hx rfl (hb hby at_128) rfl ?_
    show SS pP eE belowS T174 (mkF mM 130 (Lc_law_lt_8 p0 p1 p2 p3 p4 b101 b107 b111 b136) [(.int (1 : Int32))]) _
    refine XS.ifNo X174.here hx rfl (hb hby at_130) rfl ((if0 _ _).trans (feq (by decide : ¬ ((1 : Int32) = (0 : Int32)))).1) ?_
    show SS pP eE belowS T174 (mkF mM 133 (Lc_law_lt_8 p0 p1 p2 p3 p4 b101 b107 b111 b136) []) _
    refine XS.iload X174.here hx rfl (hb hby at_133) rfl ?_
    show SS pP eE belowS T174 (mkF mM 135 (Lc_law_lt_8 p0 p1 p2 p3 p4 b101 b107 b111 b136) [(.int (1 : Int32))]) _
    refine XS.iloadN X174.here hx rfl (hb hby at_135) rfl ?_
    show SS pP eE belowS T174 (mkF mM 136 (Lc_law_lt_8 p0 p1 p2 p3 p4 b101 b107 b111 b136) [(.int p1), (.int (1 : Int32))]) _
    refine XS.iloadN X174.here hx rfl (hb hby at_136) rfl ?_
    show SS pP eE belowS T174 (mkF mM 137 (Lc_law_lt_8 p0 p1 p2 p3 p4 b101 b107 b111 b136) [(.int p0), (.int p1), (.int (1 : Int32))]) _
    refine st175 _ ?_
    show SS pP eE belowS T175 (mkF mM 140 (Lc_law_lt_8 p0 p1 p2 p3 p4 b101 b107 b111 b136) [(.int (1 : Int32)), (.int (1 : Int32))]) _
    refine XS.icmpNo X175.here hx rfl (hb hby at_140) rfl (teq (by decide : (1 : Int32) = (1 : Int32))).2 ?_
    show SS pP eE belowS T175 (mkF mM 143 (Lc_law_lt_8 p0 p1 p2 p3 p4 b101 b107 b111 b136) []) _
    refine XS.iconst X175.here hx rfl (hb hby at_143) ?_
    show SS pP eE belowS T175 (mkF mM 144 (Lc_law_lt_8 p0 p1 p2 p3 p4 b101 b107 b111 b136) [(.int (1 : Int32))]) _
    refine XS.goto X175.here hx rfl (pc0 := 144) (pc' := 148) rfl (hb hby at_144) (by decide) (by decide) ?_
    show SS pP eE belowS T175 (mkF mM 148 (Lc_law_lt_8 p0 p1 p2 p3 p4 b101 b107 b111 b136) [(.int (1 : Int32))]) _
    refine XS.istore X175.here hx rfl (hb hby at_148) rfl (l' := (Lc_law_lt_8 p0 p1 p2 p3 p4 b101 b107 b111 b136)) rfl ?_
    show SS pP eE belowS T175 (mkF mM 150 (Lc_law_lt_8 p0 p1 p2 p3 p4 b101 b107 b111 b136) []) _
    refine XS.iload X175.here hx rfl (hb hby at_150) rfl ?_
    show SS pP eE belowS T175 (mkF mM 152 (Lc_law_lt_8 p0 p1 p2 p3 p4 b101 b107 b111 b136) [(.int (1 : Int32))]) _
    refine XS.ifNo X175.here hx rfl (hb hby at_152) rfl ((if0 _ _).trans (feq (by decide : ¬ ((1 : Int32) = (0 : Int32)))).1) ?_
    show SS pP eE belowS T175 (mkF mM 155 (Lc_law_lt_8 p0 p1 p2 p3 p4 b101 b107 b111 b136) []) _
    refine XS.iload X175.here hx rfl (hb hby at_155) rfl ?_
    show SS pP eE belowS T175 (mkF mM 157 (Lc_law_lt_8 p0 p1 p2 p3 p4 b101 b107 b111 b136) [(.int (1 : Int32))]) _
    refine XS.ifNo X175.here hx rfl (hb hby at_157) rfl ((if0 _ _).trans (feq (by decide : ¬ ((1 : Int32) = (0 : Int32)))).1) ?_
    show SS pP eE belowS T175 (mkF mM 160 (Lc_law_lt_8 p0 p1 p2 p3 p4 b101 b107 b111 b136) []) _
    refine XS.iconst X175.here hx rfl (hb hby at_160) ?_
    show SS pP eE belowS T175 (mkF mM 161 (Lc_law_lt_8 p0 p1 p2 p3 p4 b101 b107 b111 b136) [(.int (1 : Int32))]) _
    refine XS.goto X175.here hx rfl (pc0 := 161) (pc' := 165) rfl (hb hby at_161) (by decide) (by decide) ?_
    show SS pP eE belowS T175 (mkF mM 165 (Lc_law_lt_8 p0 p1 p2 p3 p4 b101 b107 b111 b136) [(.int (1 : Int32))]) _
    refine XS.istore X175.here hx rfl (hb hby at_165) rfl (l' := (Lc_law_lt_8 p0 p1 p2 p3 p4 b101 b107 b111 b136)) rfl ?_
    show SS pP eE belowS T175 (mkF mM 167 (Lc_law_lt_8 p0 p1 p2 p3 p4 b101 b107 b111 b136) []) _
    refine XS.iload X175.here hx rfl (hb hby at_167) rfl ?_
    show SS pP eE belowS T175 (mkF mM 169 (Lc_law_lt_8 p0 p1 p2 p3 p4 b101 b107 b111 b136) [(.int (1 : Int32))]) _
    refine XS.ifNo X175.here hx rfl (hb hby at_169) rfl ((if0 _ _).trans (feq (by decide : ¬ ((1 : Int32) = (0 : Int32)))).1) ?_
    show SS pP eE belowS T175 (mkF mM 172 (Lc_law_lt_8 p0 p1 p2 p3 p4 b101 b107 b111 b136) []) _
    refine XS.iload X175.here hx rfl (hb hby at_172) rfl ?_
    show SS pP eE belowS T175 (mkF mM 174 (Lc_law_lt_8 p0 p1 p2 p3 p4 b101 b107 b111 b136) [(.int (0 : Int32))]) _
    refine XS.ifNo X175.here hx rfl (hb hby at_174) rfl ((if0 _ _).trans (teq (by decide : (0 : Int32) = (0 : Int32))).2) ?_
    show SS pP eE belowS T175 (mkF mM 177 (Lc_law_lt_8 p0 p1 p2 p3 p4 b101 b107 b111 b136) []) _
    refine XS.iload X175.here hx rfl (hb hby at_177) rfl ?_
    show SS pP eE belowS T175 (mkF mM 179 (Lc_law_lt_8 p0 p1 p2 p3 p4 b101 b107 b111 b136) [(.int (1 : Int32))]) _
    refine XS.ifNo X175.here hx rfl (hb hby at_179) rfl ((if0 _ _).trans (feq (by decide : ¬ ((1 : Int32) = (0 : Int32)))).1) ?_
    show SS pP eE belowS T175 (mkF mM 182 (Lc_law_lt_8 p0 p1 p2 p3 p4 b101 b107 b111 b136) []) _
    refine XS.iconst X175.here hx rfl (hb hby at_182) ?_
    show SS pP eE belowS T175 (mkF mM 183 (Lc_law_lt_8 p0 p1 p2 p3 p4 b101 b107 b111 b136) [(.int (1 : Int32))]) _
    refine XS.goto X175.here hx rfl (pc0 := 183) (pc' := 187) rfl (hb hby at_183) (by decide) (by decide) ?_
    show SS pP eE belowS T175 (mkF mM 187 (Lc_law_lt_8 p0 p1 p2 p3 p4 b101 b107 b111 b136) [(.int (1 : Int32))]) _
    refine XS.istore X175.here hx rfl (hb hby at_187) rfl (l' := (Lc_law_lt_8 p0 p1 p2 p3 p4 b101 b107 b111 b136)) rfl ?_
    show SS pP eE belowS T175 (mkF mM 189 (Lc_law_lt_8 p0 p1 p2 p3 p4 b101 b107 b111 b136) []) _
    refine XS.iload X175.here hx rfl (hb hby at_189) rfl ?_
    show SS pP eE belowS T175 (mkF mM 191 (Lc_law_lt_8 p0 p1 p2 p3 p4 b101 b107 b111 b136) [(.int (1 : Int32))]) _
    refine XS.ifNo X175.here hx rfl (hb hby at_191) rfl ((if0 _ _).trans (feq (by decide : ¬ ((1 : Int32) = (0 : Int32)))).1) ?_
    show SS pP eE belowS T175 (mkF mM 194 (Lc_law_lt_8 p0 p1 p2 p3 p4 b101 b107 b111 b136) []) _
    refine XS.iload X175.here hx rfl (hb hby at_194) rfl ?_
    show SS pP eE belowS T175 (mkF mM 196 (Lc_law_lt_8 p0 p1 p2 p3 p4 b101 b107 b111 b136) [(.int (0 : Int32))]) _
    refine XS.ifYes X175.here hx rfl (pc0 := 196) (pc' := 208) rfl (hb hby at_196) rfl ((if0 _ _).trans (teq (by decide : (0 : Int32) = (0 : Int32))).1) (by decide) (by decide) ?_
    show SS pP eE belowS T175 (mkF mM 208 (Lc_law_lt_8 p0 p1 p2 p3 p4 b101 b107 b111 b136) []) _
    refine XS.iconst X175.here hx rfl (hb hby at_208) ?_
    show SS pP eE belowS T175 (mkF mM 209 (Lc_law_lt_8 p0 p1 p2 p3 p4 b101 b107 b111 b136) [(.int (0 : Int32))]) _
    refine XS.iloadN X175.here hx rfl (hb hby at_209) rfl ?_
    show SS pP eE belowS T175 (mkF mM 210 (Lc_law_lt_8 p0 p1 p2 p3 p4 b101 b107 b111 b136) [(.int p0), (.int (0 : Int32))]) _
    refine XS.iloadN X175.here hx rfl (hb hby at_210) rfl ?_
    show SS pP eE belowS T175 (mkF mM 211 (Lc_law_lt_8 p0 p1 p2 p3 p4 b101 b107 b111 b136) [(.int p1), (.int p0), (.int (0 : Int32))]) _
    refine XS.icmpYes X175.here hx rfl (pc0 := 211) (pc' := 218) rfl (hb hby at_211) rfl (feq hc211).2 (by decide) (by decide) ?_
    show SS pP eE belowS T175 (mkF mM 218 (Lc_law_lt_8 p0 p1 p2 p3 p4 b101 b107 b111 b136) [(.int (0 : Int32))]) _
    refine XS.iconst X175.here hx rfl (hb hby at_218) ?_
    show SS pP eE belowS T175 (mkF mM 219 (Lc_law_lt_8 p0 p1 p2 p3 p4 b101 b107 b111 b136) [(.int (0 : Int32)), (.int (0 : Int32))]) _
    refine XS.icmpNo X175.here hx rfl (hb hby at_219) rfl (teq (by decide : (0 : Int32) = (0 : Int32))).2 ?_
    show SS pP eE belowS T175 (mkF mM 222 (Lc_law_lt_8 p0 p1 p2 p3 p4 b101 b107 b111 b136) []) _
    refine XS.iconst X175.here hx rfl (hb hby at_222) ?_
    show SS pP eE belowS T175 (mkF mM 223 (Lc_law_lt_8 p0 p1 p2 p3 p4 b101 b107 b111 b136) [(.int (1 : Int32))]) _
    refine XS.goto X175.here hx rfl (pc0 := 223) (pc' := 227) rfl (hb hby at_223) (by decide) (by decide) ?_
    show SS pP eE belowS T175 (mkF mM 227 (Lc_law_lt_8 p0 p1 p2 p3 p4 b101 b107 b111 b136) [(.int (1 : Int32))]) _
    refine XS.istore X175.here hx rfl (hb hby at_227) rfl (l' := (Lc_law_lt_8 p0 p1 p2 p3 p4 b101 b107 b111 b136)) rfl ?_
    show SS pP eE belowS T175 (mkF mM 229 (Lc_law_lt_8 p0 p1 p2 p3 p4 b101 b107 b111 b136) []) _
    refine XS.iload X175.here hx rfl (hb hby at_229) rfl ?_
    show SS pP eE belowS T175 (mkF mM 231 (Lc_law_lt_8 p0 p1 p2 p3 p4 b101 b107 b111 b136) [(.int (1 : Int32))]) _
    exact retN X175 hx (t := .boolean) Bd.returns (by simp) (hb hby at_231) hr
  · exact ⟨rfl, N175⟩

abbrev Lc_law_gt_0 (p0 : Int32) (p1 : Int32) (p2 : Int32) (p3 : Int32) (p4 : Int32) : Array Slot := #[.val (.int p0), .val (.int p1), .val (.int p2), .val (.int p3), .val (.int p4), .unset, .unset, .unset, .unset, .unset, .unset, .unset, .unset]
abbrev Lc_law_gt_1 (p0 : Int32) (p1 : Int32) (p2 : Int32) (p3 : Int32) (p4 : Int32) (b101 : Addr) : Array Slot := #[.val (.int p0), .val (.int p1), .val (.int p2), .val (.int p3), .val (.int p4), .val (.ref b101), .unset, .unset, .unset, .unset, .unset, .unset, .unset]
abbrev Lc_law_gt_2 (p0 : Int32) (p1 : Int32) (p2 : Int32) (p3 : Int32) (p4 : Int32) (b101 : Addr) (b107 : Addr) : Array Slot := #[.val (.int p0), .val (.int p1), .val (.int p2), .val (.int p3), .val (.int p4), .val (.ref b101), .val (.ref b107), .unset, .unset, .unset, .unset, .unset, .unset]
abbrev Lc_law_gt_3 (p0 : Int32) (p1 : Int32) (p2 : Int32) (p3 : Int32) (p4 : Int32) (b101 : Addr) (b107 : Addr) (b111 : Addr) : Array Slot := #[.val (.int p0), .val (.int p1), .val (.int p2), .val (.int p3), .val (.int p4), .val (.ref b101), .val (.ref b107), .val (.ref b111), .unset, .unset, .unset, .unset, .unset]
abbrev Lc_law_gt_4 (p0 : Int32) (p1 : Int32) (p2 : Int32) (p3 : Int32) (p4 : Int32) (b101 : Addr) (b107 : Addr) (b111 : Addr) (b136 : Addr) : Array Slot := #[.val (.int p0), .val (.int p1), .val (.int p2), .val (.int p3), .val (.int p4), .val (.ref b101), .val (.ref b107), .val (.ref b111), .val (.ref b136), .unset, .unset, .unset, .unset]
abbrev Lc_law_gt_5 (p0 : Int32) (p1 : Int32) (p2 : Int32) (p3 : Int32) (p4 : Int32) (b101 : Addr) (b107 : Addr) (b111 : Addr) (b136 : Addr) : Array Slot := #[.val (.int p0), .val (.int p1), .val (.int p2), .val (.int p3), .val (.int p4), .val (.ref b101), .val (.ref b107), .val (.ref b111), .val (.ref b136), .val (.int (1 : Int32)), .unset, .unset, .unset]
abbrev Lc_law_gt_6 (p0 : Int32) (p1 : Int32) (p2 : Int32) (p3 : Int32) (p4 : Int32) (b101 : Addr) (b107 : Addr) (b111 : Addr) (b136 : Addr) : Array Slot := #[.val (.int p0), .val (.int p1), .val (.int p2), .val (.int p3), .val (.int p4), .val (.ref b101), .val (.ref b107), .val (.ref b111), .val (.ref b136), .val (.int (1 : Int32)), .val (.int (0 : Int32)), .unset, .unset]
abbrev Lc_law_gt_7 (p0 : Int32) (p1 : Int32) (p2 : Int32) (p3 : Int32) (p4 : Int32) (b101 : Addr) (b107 : Addr) (b111 : Addr) (b136 : Addr) : Array Slot := #[.val (.int p0), .val (.int p1), .val (.int p2), .val (.int p3), .val (.int p4), .val (.ref b101), .val (.ref b107), .val (.ref b111), .val (.ref b136), .val (.int (1 : Int32)), .val (.int (0 : Int32)), .val (.int (1 : Int32)), .unset]
abbrev Lc_law_gt_8 (p0 : Int32) (p1 : Int32) (p2 : Int32) (p3 : Int32) (p4 : Int32) (b101 : Addr) (b107 : Addr) (b111 : Addr) (b136 : Addr) : Array Slot := #[.val (.int p0), .val (.int p1), .val (.int p2), .val (.int p3), .val (.int p4), .val (.ref b101), .val (.ref b107), .val (.ref b111), .val (.ref b136), .val (.int (1 : Int32)), .val (.int (0 : Int32)), .val (.int (1 : Int32)), .val (.int (1 : Int32))]
theorem ef_law_gt (mM : MethodId) (p0 : Int32) (p1 : Int32) (p2 : Int32) (p3 : Int32) (p4 : Int32) (cs : Int32) : entryFrame mM #[(.int p0), (.int p1), (.int p2), (.int p3), (.int p4)] maxLocals = mkF mM 0 #[.val (.int p0), .val (.int p1), .val (.int p2), .val (.int p3), .val (.int p4), .unset, .unset, .unset, .unset, .unset, .unset, .unset, .unset] [] := by first | (simp [entryFrame, mkF, argsToLocals, Value.category, maxLocals]; done) | rfl
set_option maxRecDepth 65536 in
set_option maxHeartbeats 40000000 in
theorem rm_law_gt (l : Launch) (Z : State) (a0 : Array Value) (hw : ∀ d ∈ tables_1, d.before a0 Z = true) (ws : List Jvm.Cond) (p0 : Int32) (p1 : Int32) (p2 : Int32) (p3 : Int32) (p4 : Int32) (cs : Int32) (h0 : Heap) (n0 : Nat) (Z0 : n0 ≤ h0.size) (OL : Old Z n0 h0) (S_COMPACT_STRINGS : Sta Z Z.heap "java/lang/String" "COMPACT_STRINGS" "Z" (.int cs)) (hcs : ¬ (cs = (0 : Int32))) (hlt : p1 < p0) (hnb : ¬ (p0 < p1)) (hc211 : ¬ (p0 = p1)) :
    MetFree l x (head1 (Jvm.Cond.code x code maxLocals ret :: ws) room_1) (fun xa xU => xa = #[(.int p0), (.int p1), (.int p2), (.int p3), (.int p4)] ∧ Z.Warmed39 xU.vm ∧ xU.heap = h0) (fun _ _ _ _ _ => True) (fun _ xU xo xU' => ∃ xv xL, xo = .returned xv ∧ Q_law n0 xv xL ∧ ReturnedEndW xU xo xU' xL room_1.cells room_1.slots) := by
  refine MetFree.of_bodySF (plainFor_of_name pn_com_example_compartment_compartment_policy_LevelAtLeastPinLaw) hisR ?_
  intro pP eE sS mM argS belowS methS cC s₁ Bd hml0 hP hK
  obtain ⟨rfl, hZ, hh⟩ := hP
  have hx := Bd.exec
  have hby := Bd.bytes
  have hml : cC.maxLocals = 13 := hml0
  have hown : sS.vm.findClass "com/example/compartment/compartment/policy/LevelAtLeastPinLaw" = some mM.cls := findClass_of_methodNamed Bd.named
  have hnm := (name_of_methodNamed Bd.named Bd.method).1
  have X0 : Stand pP l eE room_1 (sS.setVm sS.vm) mM #[(.int p0), (.int p1), (.int p2), (.int p3), (.int p4)] belowS methS cC s₁ [] 0 0 := Stand.of_body Bd
  have e0 : s₁.heap = h0 := by rw [← hh, Bd.state]; rfl
  have N0 := Fr.nil n0
  have pre0 : ∀ t', Steps pP.tables eE belowS (s₁.setTop (mkF mM 0 #[.val (.int p0), .val (.int p1), .val (.int p2), .val (.int p3), .val (.int p4), .unset, .unset, .unset, .unset, .unset, .unset, .unset, .unset] [])) t' → Steps pP.tables eE belowS (s₁.setTop (entryFrame mM #[(.int p0), (.int p1), (.int p2), (.int p3), (.int p4)] maxLocals)) t' := fun t' kk' => castTop (ef_law_gt mM p0 p1 p2 p3 p4 cs) kk'
  have hZ0 : Z.Warmed39 (sS.setVm sS.vm).vm := hZ
  have hown0 : (sS.setVm sS.vm).vm.findClass "com/example/compartment/compartment/policy/LevelAtLeastPinLaw" = some mM.cls := hown
  have hS0 : sS.Since sS.vm 0 := (State.WarmedH.refl sS).since 0
  obtain ⟨T101, h101, k101, X101, e101, E101, A101, st101⟩ := newP X0 hx hZ0 (wi hw 0 rfl) e0 (g := (mkF mM 1 (Lc_law_gt_0 p0 p1 p2 p3 p4) [(.int (2 : Int32))])) rfl (hb hby at_1) rfl (by decide) (cap := 2) (by decide) (by decide) (by decide) (by decide)
  obtain ⟨b101, g101⟩ : ∃ z : Nat, z = h0.size := ⟨_, rfl⟩
  rw [← g101] at A101 st101
  have Sz1 : h0.size ≤ h101.size := E101.1
  have V_b101 : Arv Z h101 b101 k101 .char (2 : Int32) [(.int (0 : Int32)), (.int (0 : Int32))] (.int (0 : Int32)) := (Arv.new A101 (by decide)).pad (pad_rep [] (.int (0 : Int32)) 2)
  obtain ⟨cl102, Ar102, q102, S102, Ng102, Ha102, Ga102⟩ := id V_b101
  have hin102 : ¬ ((0 : Int32) < 0 ∨ cl102.slots.size ≤ ((0 : Int32)).toNatClampNeg) := inb_of S102 ⟨by decide, by decide⟩
  obtain ⟨T103, h103, X103, e103, W103, st103⟩ := stC X101 hx hZ0 e101 Ar102 (j := (0 : Int32)) hin102 (g := (mkF mM 11 (Lc_law_gt_0 p0 p1 p2 p3 p4) [(.int (p2 &&& (255 : Int32))), (.int (0 : Int32)), (.ref b101), (.ref b101)])) rfl rfl (hb hby at_11)
  have ge104_b101 : @LE.le Nat _ n0 b101 := by omega
  have Sz2 : h101.size ≤ h103.size := Nat.le_of_eq (Wr.size W103).symm
  have Vs103 := Arv.set Ar102 q102 S102 Ng102 Ha102 Ga102 (fits_nar_char _) W103 0 rfl (Nat.le_of_ble_eq_true rfl)
  have Vt103 : Arv Z h103 b101 k101 .char (2 : Int32) [(.int (p2 &&& (255 : Int32))), (.int (0 : Int32))] (.int (0 : Int32)) := by
    have q : Arv Z h103 b101 k101 .char (2 : Int32) [(.int (p2 &&& (255 : Int32)).toUInt32.toUInt16.toUInt32.toInt32), (.int (0 : Int32))] (.int (0 : Int32)) := Vs103
    rw [show ((.int (p2 &&& (255 : Int32)).toUInt32.toUInt16.toUInt32.toInt32) : Value) = (.int (p2 &&& (255 : Int32))) from congrArg Value.int (i2c_mask p2)] at q
    exact q
  have N103 := Fr.snoc X103 N0 ge104_b101
  obtain ⟨cl105, Ar105, q105, S105, Ng105, Ha105, Ga105⟩ := id Vt103
  have hin105 : ¬ ((1 : Int32) < 0 ∨ cl105.slots.size ≤ ((1 : Int32)).toNatClampNeg) := inb_of S105 ⟨by decide, by decide⟩
  obtain ⟨T106, h106, X106, e106, W106, st106⟩ := stC X103 hx hZ0 e103 Ar105 (j := (1 : Int32)) hin105 (g := (mkF mM 21 (Lc_law_gt_0 p0 p1 p2 p3 p4) [(.int (p4 &&& (255 : Int32))), (.int (1 : Int32)), (.ref b101), (.ref b101)])) rfl rfl (hb hby at_21)
  have Sz3 : h103.size ≤ h106.size := Nat.le_of_eq (Wr.size W106).symm
  have Vs106 := Arv.set Ar105 q105 S105 Ng105 Ha105 Ga105 (fits_nar_char _) W106 1 rfl (Nat.le_of_ble_eq_true rfl)
  have Vt106 : Arv Z h106 b101 k101 .char (2 : Int32) [(.int (p2 &&& (255 : Int32))), (.int (p4 &&& (255 : Int32)))] (.int (0 : Int32)) := by
    have q : Arv Z h106 b101 k101 .char (2 : Int32) [(.int (p2 &&& (255 : Int32))), (.int (p4 &&& (255 : Int32)).toUInt32.toUInt16.toUInt32.toInt32)] (.int (0 : Int32)) := Vs106
    rw [show ((.int (p4 &&& (255 : Int32)).toUInt32.toUInt16.toUInt32.toInt32) : Value) = (.int (p4 &&& (255 : Int32))) from congrArg Value.int (i2c_mask p4)] at q
    exact q
  have N106 := Fr.snoc X106 N103 ge104_b101
  obtain ⟨T107, h107, k107, X107, e107, E107, A107, st107⟩ := newP X106 hx hZ0 (wi hw 0 rfl) e106 (g := (mkF mM 25 (Lc_law_gt_1 p0 p1 p2 p3 p4 b101) [(.int (1 : Int32))])) rfl (hb hby at_25) rfl (by decide) (cap := 1) (by decide) (by decide) (by decide) (by decide)
  obtain ⟨b107, g107⟩ : ∃ z : Nat, z = h106.size := ⟨_, rfl⟩
  rw [← g107] at A107 st107
  have Sz4 : h106.size ≤ h107.size := E107.1
  have V_b107 : Arv Z h107 b107 k107 .char (1 : Int32) [(.int (0 : Int32))] (.int (0 : Int32)) := (Arv.new A107 (by decide)).pad (pad_rep [] (.int (0 : Int32)) 1)
  obtain ⟨cl108, Ar108, q108, S108, Ng108, Ha108, Ga108⟩ := id V_b107
  have hin108 : ¬ ((0 : Int32) < 0 ∨ cl108.slots.size ≤ ((0 : Int32)).toNatClampNeg) := inb_of S108 ⟨by decide, by decide⟩
  obtain ⟨T109, h109, X109, e109, W109, st109⟩ := stC X107 hx hZ0 e107 Ar108 (j := (0 : Int32)) hin108 (g := (mkF mM 35 (Lc_law_gt_1 p0 p1 p2 p3 p4 b101) [(.int (p3 &&& (255 : Int32))), (.int (0 : Int32)), (.ref b107), (.ref b107)])) rfl rfl (hb hby at_35)
  have ge110_b107 : @LE.le Nat _ n0 b107 := by omega
  have Sz5 : h107.size ≤ h109.size := Nat.le_of_eq (Wr.size W109).symm
  have Vs109 := Arv.set Ar108 q108 S108 Ng108 Ha108 Ga108 (fits_nar_char _) W109 0 rfl (Nat.le_of_ble_eq_true rfl)
  have Vt109 : Arv Z h109 b107 k107 .char (1 : Int32) [(.int (p3 &&& (255 : Int32)))] (.int (0 : Int32)) := by
    have q : Arv Z h109 b107 k107 .char (1 : Int32) [(.int (p3 &&& (255 : Int32)).toUInt32.toUInt16.toUInt32.toInt32)] (.int (0 : Int32)) := Vs109
    rw [show ((.int (p3 &&& (255 : Int32)).toUInt32.toUInt16.toUInt32.toInt32) : Value) = (.int (p3 &&& (255 : Int32))) from congrArg Value.int (i2c_mask p3)] at q
    exact q
  have N109 := Fr.snoc X109 N106 ge110_b107
  obtain ⟨T111, h111, X111, e111, E111, A111, D111, B111, st111⟩ := newO X109 hx hZ0 hown0 (wi hw 1 rfl) (wi hw 2 rfl) (wi hw 3 rfl) e109 (g := (mkF mM 38 (Lc_law_gt_2 p0 p1 p2 p3 p4 b101 b107) [])) rfl (hb hby at_38) (by decide) (by decide)
  obtain ⟨b111, g111⟩ : ∃ z : Nat, z = h109.size := ⟨_, rfl⟩
  rw [← g111] at A111 D111 B111 st111
  have Sz6 : h109.size ≤ h111.size := E111.1
  have F111_name : Fld Z h111 b111 "com/example/compartment/compartment/policy/Level" "name" "Ljava/lang/String;" .null := D111 (Or.inr (wi hw 50 rfl)) (ty := (.object "java/lang/String")) (by decide)
  have F111_rank : Fld Z h111 b111 "com/example/compartment/compartment/policy/Level" "rank" "I" (.int (0 : Int32)) := D111 (Or.inr (wi hw 52 rfl)) (ty := .int) (by decide)
  obtain ⟨T112, h112, X112, e112, E112, A112, D112, B112, st112⟩ := newO X111 hx hZ0 hown0 (wi hw 4 rfl) (wi hw 5 rfl) (wi hw 6 rfl) e111 (g := (mkF mM 42 (Lc_law_gt_2 p0 p1 p2 p3 p4 b101 b107) [(.ref b111), (.ref b111)])) rfl (hb hby at_42) (by decide) (by decide)
  obtain ⟨b112, g112⟩ : ∃ z : Nat, z = h111.size := ⟨_, rfl⟩
  rw [← g112] at A112 D112 B112 st112
  have Sz7 : h111.size ≤ h112.size := E112.1
  have F112_coder : Fld Z h112 b112 "java/lang/String" "coder" "B" (.int (0 : Int32)) := D112 (Or.inr (wi hw 30 rfl)) (ty := .byte) (by decide)
  have F112_value : Fld Z h112 b112 "java/lang/String" "value" "[B" .null := D112 (Or.inr (wi hw 32 rfl)) (ty := (.array .byte)) (by decide)
  have c114_V_b101 : Arv Z h107 b101 k101 .char (2 : Int32) [(.int (p2 &&& (255 : Int32))), (.int (p4 &&& (255 : Int32)))] (.int (0 : Int32)) := Vt106.ext E107
  have lt_b101 : @LT.lt Nat _ b101 h106.size := Vt106.lt
  have lt_b107 : @LT.lt Nat _ b107 h109.size := Vt109.lt
  have ne_b101_b107_115 : b101 ≠ b107 := (by omega : @Ne Nat b101 b107)
  have c116_V_b101 : Arv Z h109 b101 k101 .char (2 : Int32) [(.int (p2 &&& (255 : Int32))), (.int (p4 &&& (255 : Int32)))] (.int (0 : Int32)) := c114_V_b101.other W109 ne_b101_b107_115
  have c117_V_b101 : Arv Z h111 b101 k101 .char (2 : Int32) [(.int (p2 &&& (255 : Int32))), (.int (p4 &&& (255 : Int32)))] (.int (0 : Int32)) := c116_V_b101.ext E111
  have c118_V_b101 : Arv Z h112 b101 k101 .char (2 : Int32) [(.int (p2 &&& (255 : Int32))), (.int (p4 &&& (255 : Int32)))] (.int (0 : Int32)) := c117_V_b101.ext E112
  have c119_OL : Old Z n0 h101 := OL.ext E101
  have c120_OL : Old Z n0 h103 := c119_OL.wr W103 ge104_b101
  have c121_OL : Old Z n0 h106 := c120_OL.wr W106 ge104_b101
  have c122_OL : Old Z n0 h107 := c121_OL.ext E107
  have c123_OL : Old Z n0 h109 := c122_OL.wr W109 ge110_b107
  have c124_OL : Old Z n0 h111 := c123_OL.ext E111
  have c125_OL : Old Z n0 h112 := c124_OL.ext E112
  have ge126_b112 : @LE.le Nat _ n0 b112 := by omega
  obtain ⟨_, _, ⟨T113, L113, k113, n113⟩, -, X113, ⟨Lc113, hQ113, l113, y113, z113⟩, st113⟩ := X112.specialBack hx (y := (⟨"java/lang/String", "<init>", "([C)V"⟩ : MethodName)) rfl hown0 (mvT hZ0 (wi hw 7 rfl)) (mvT hZ0 (wi hw 8 rfl)) (mvT hZ0 (wi hw 9 rfl)) (by decide) (backOf (W := 3) (rm_init1_s2 l Z a0 hw [] b112 b101 k101 .null (.int (0 : Int32)) cs (p2 &&& (255 : Int32)) (p4 &&& (255 : Int32)) h112 n0 (by omega) A112 F112_value F112_coder c118_V_b101 ge126_b112 c125_OL S_COMPACT_STRINGS hcs (own_lim _) (own_lim _)) hZ0 (wi hw 9 rfl) (wi hw 6 rfl) (by decide) (by decide)) (g := (mkF mM 48 (Lc_law_gt_2 p0 p1 p2 p3 p4 b101 b107) [(.ref b101), (.ref b112), (.ref b112), (.ref b111), (.ref b111)])) rfl (by rw [hml]; rfl) (Steps.refl _) (a := b112) (argsL := [(.ref b101)]) (rest := [(.ref b112), (.ref b111), (.ref b111)]) (lenOf pd_0 rfl) rfl (by show 2 * 0 + _ ≤ _; exact Nat.le_of_eq rfl) (hb hby at_48) (fun _ _ => ⟨rfl, e112, Nat.le_of_ble_eq_true rfl, Nat.le_of_ble_eq_true rfl⟩)
  dsimp only [Pt.U, Pt.locs, Pt.cells, Pt.slots] at X113 l113 y113 z113 st113 hQ113
  subst l113 y113 z113
  obtain ⟨h113, e113⟩ : ∃ z, T113.heap = z := ⟨_, rfl⟩
  rw [e113] at hQ113
  obtain ⟨b_113, k2_113, rfl, N113q, Kp113, p113_E_o, p113_F_value_o, p113_F_coder_o, p113_V_b, p113_gh_b⟩ := hQ113
  have Sz8 : h112.size ≤ h113.size := Kp113.1
  have N113 := Fr.app N109 N113q
  have c128_E_b111 : Exa Z h112 b111 "com/example/compartment/compartment/policy/Level" := Exa.ext E112 A111
  have c129_E_b111 : Exa Z h113 b111 "com/example/compartment/compartment/policy/Level" := c128_E_b111.keep Kp113
  have c130_F_name_b111 : Fld Z h112 b111 "com/example/compartment/compartment/policy/Level" "name" "Ljava/lang/String;" .null := Fld.ext E112 F111_name
  have lt_b111 : @LT.lt Nat _ b111 h111.size := A111.lt
  have lt_b112 : @LT.lt Nat _ b112 h113.size := p113_E_o.lt
  have ne_b111_b112_131 : b111 ≠ b112 := (by omega : @Ne Nat b111 b112)
  have c132_F_name_b111 : Fld Z h113 b111 "com/example/compartment/compartment/policy/Level" "name" "Ljava/lang/String;" .null := c130_F_name_b111.keep Kp113 (ninS ne_b111_b112_131 nin0)
  have c133_F_rank_b111 : Fld Z h112 b111 "com/example/compartment/compartment/policy/Level" "rank" "I" (.int (0 : Int32)) := Fld.ext E112 F111_rank
  have c134_F_rank_b111 : Fld Z h113 b111 "com/example/compartment/compartment/policy/Level" "rank" "I" (.int (0 : Int32)) := c133_F_rank_b111.keep Kp113 (ninS ne_b111_b112_131 nin0)
  have ge135_b111 : @LE.le Nat _ n0 b111 := by omega
  obtain ⟨_, _, ⟨T127, L127, k127, n127⟩, -, X127, hs127, hg127, ⟨Lc127, hQ127, l127, y127, z127⟩, st127⟩ := X113.specialBackS hx (y := (⟨"com/example/compartment/compartment/policy/Level", "<init>", "(Ljava/lang/String;I)V"⟩ : MethodName)) rfl hown0 (mvT hZ0 (wi hw 33 rfl)) (mvT hZ0 (wi hw 34 rfl)) (mvT hZ0 (wi hw 35 rfl)) (by decide) (backOfS (W := 1) (rm_lev l Z a0 hw [] b111 b112 p0 .null (.int (0 : Int32)) h113 n0 (by omega) c129_E_b111 c132_F_name_b111 c134_F_rank_b111 ge135_b111) hZ0 (wi hw 35 rfl) (wi hw 3 rfl) (by decide) (by decide)) (g := (mkF mM 52 (Lc_law_gt_2 p0 p1 p2 p3 p4 b101 b107) [(.int p0), (.ref b112), (.ref b111), (.ref b111)])) rfl (by rw [hml]; rfl) (Steps.refl _) (a := b111) (argsL := [(.ref b112), (.int p0)]) (rest := [(.ref b111)]) (lenOf pd_6 rfl) rfl (by show 2 * 0 + _ ≤ _; exact Nat.le_of_eq rfl) (hb hby at_52) (fun _ _ => ⟨rfl, e113, Nat.le_of_ble_eq_true rfl, Nat.le_of_ble_eq_true rfl⟩)
  dsimp only [Pt.U, Pt.locs, Pt.cells, Pt.slots] at X127 l127 y127 z127 st127 hQ127 hs127 hg127
  subst l127 y127 z127
  obtain ⟨X127', hS127, hZ127, hown127⟩ := rebS hS0 (by rw [e113]; omega) X127 hs127 hg127 hZ0 hown0
  obtain ⟨h127, e127⟩ : ∃ z, T127.heap = z := ⟨_, rfl⟩
  rw [e127] at hQ127 hS127
  obtain ⟨rfl, N127q, Kp127, p127_E_o, p127_F_rank_o⟩ := hQ127
  have Sz9 : h113.size ≤ h127.size := Kp127.1
  have N127 := Fr.app N113 N127q
  obtain ⟨T136, h136, X136, e136, E136, A136, D136, B136, st136⟩ := newO X127' hx hZ127 hown127 (wi hw 1 rfl) (wi hw 2 rfl) (wi hw 3 rfl) e127 (g := (mkF mM 57 (Lc_law_gt_3 p0 p1 p2 p3 p4 b101 b107 b111) [])) rfl (hb hby at_57) (by decide) (by decide)
  obtain ⟨b136, g136⟩ : ∃ z : Nat, z = h127.size := ⟨_, rfl⟩
  rw [← g136] at A136 D136 B136 st136
  have Sz10 : h127.size ≤ h136.size := E136.1
  have F136_name : Fld Z h136 b136 "com/example/compartment/compartment/policy/Level" "name" "Ljava/lang/String;" .null := D136 (Or.inr (wi hw 50 rfl)) (ty := (.object "java/lang/String")) (by decide)
  have F136_rank : Fld Z h136 b136 "com/example/compartment/compartment/policy/Level" "rank" "I" (.int (0 : Int32)) := D136 (Or.inr (wi hw 52 rfl)) (ty := .int) (by decide)
  obtain ⟨T137, h137, X137, e137, E137, A137, D137, B137, st137⟩ := newO X136 hx hZ127 hown127 (wi hw 4 rfl) (wi hw 5 rfl) (wi hw 6 rfl) e136 (g := (mkF mM 61 (Lc_law_gt_3 p0 p1 p2 p3 p4 b101 b107 b111) [(.ref b136), (.ref b136)])) rfl (hb hby at_61) (by decide) (by decide)
  obtain ⟨b137, g137⟩ : ∃ z : Nat, z = h136.size := ⟨_, rfl⟩
  rw [← g137] at A137 D137 B137 st137
  have Sz11 : h136.size ≤ h137.size := E137.1
  have F137_coder : Fld Z h137 b137 "java/lang/String" "coder" "B" (.int (0 : Int32)) := D137 (Or.inr (wi hw 30 rfl)) (ty := .byte) (by decide)
  have F137_value : Fld Z h137 b137 "java/lang/String" "value" "[B" .null := D137 (Or.inr (wi hw 32 rfl)) (ty := (.array .byte)) (by decide)
  have c139_V_b107 : Arv Z h111 b107 k107 .char (1 : Int32) [(.int (p3 &&& (255 : Int32)))] (.int (0 : Int32)) := Vt109.ext E111
  have c140_V_b107 : Arv Z h112 b107 k107 .char (1 : Int32) [(.int (p3 &&& (255 : Int32)))] (.int (0 : Int32)) := c139_V_b107.ext E112
  have ne_b107_b112_141 : b107 ≠ b112 := (by omega : @Ne Nat b107 b112)
  have c142_V_b107 : Arv Z h113 b107 k107 .char (1 : Int32) [(.int (p3 &&& (255 : Int32)))] (.int (0 : Int32)) := c140_V_b107.keep Kp113 (ninS ne_b107_b112_141 nin0)
  have ne_b107_b111_143 : b107 ≠ b111 := (by omega : @Ne Nat b107 b111)
  have c144_V_b107 : Arv Z h127 b107 k107 .char (1 : Int32) [(.int (p3 &&& (255 : Int32)))] (.int (0 : Int32)) := c142_V_b107.keep Kp127 (ninS ne_b107_b111_143 nin0)
  have c145_V_b107 : Arv Z h136 b107 k107 .char (1 : Int32) [(.int (p3 &&& (255 : Int32)))] (.int (0 : Int32)) := c144_V_b107.ext E136
  have c146_V_b107 : Arv Z h137 b107 k107 .char (1 : Int32) [(.int (p3 &&& (255 : Int32)))] (.int (0 : Int32)) := c145_V_b107.ext E137
  have c147_OL : Old Z n0 h113 := c125_OL.keep Kp113 (allS ge126_b112 all0)
  have c148_OL : Old Z n0 h127 := c147_OL.keep Kp127 (allS ge135_b111 all0)
  have c149_OL : Old Z n0 h136 := c148_OL.ext E136
  have c150_OL : Old Z n0 h137 := c149_OL.ext E137
  have ge151_b137 : @LE.le Nat _ n0 b137 := by omega
  obtain ⟨_, _, ⟨T138, L138, k138, n138⟩, -, X138, ⟨Lc138, hQ138, l138, y138, z138⟩, st138⟩ := X137.specialBack hx (y := (⟨"java/lang/String", "<init>", "([C)V"⟩ : MethodName)) rfl hown127 (mvT hZ127 (wi hw 7 rfl)) (mvT hZ127 (wi hw 8 rfl)) (mvT hZ127 (wi hw 9 rfl)) (by decide) (backOf (W := 3) (rm_init1_s1 l Z a0 hw [] b137 b107 k107 .null (.int (0 : Int32)) cs (p3 &&& (255 : Int32)) h137 n0 (by omega) A137 F137_value F137_coder c146_V_b107 ge151_b137 c150_OL S_COMPACT_STRINGS hcs (own_lim _)) hZ127 (wi hw 9 rfl) (wi hw 6 rfl) (by decide) (by decide)) (g := (mkF mM 67 (Lc_law_gt_3 p0 p1 p2 p3 p4 b101 b107 b111) [(.ref b107), (.ref b137), (.ref b137), (.ref b136), (.ref b136)])) rfl (by rw [hml]; rfl) (Steps.refl _) (a := b137) (argsL := [(.ref b107)]) (rest := [(.ref b137), (.ref b136), (.ref b136)]) (lenOf pd_0 rfl) rfl (by show 2 * 0 + _ ≤ _; exact Nat.le_of_eq rfl) (hb hby at_67) (fun _ _ => ⟨rfl, e137, Nat.le_of_ble_eq_true rfl, Nat.le_of_ble_eq_true rfl⟩)
  dsimp only [Pt.U, Pt.locs, Pt.cells, Pt.slots] at X138 l138 y138 z138 st138 hQ138
  subst l138 y138 z138
  obtain ⟨h138, e138⟩ : ∃ z, T138.heap = z := ⟨_, rfl⟩
  rw [e138] at hQ138
  obtain ⟨b_138, k2_138, rfl, N138q, Kp138, p138_E_o, p138_F_value_o, p138_F_coder_o, p138_V_b, p138_gh_b⟩ := hQ138
  have Sz12 : h137.size ≤ h138.size := Kp138.1
  have N138 := Fr.app N127 N138q
  have c153_E_b136 : Exa Z h137 b136 "com/example/compartment/compartment/policy/Level" := Exa.ext E137 A136
  have c154_E_b136 : Exa Z h138 b136 "com/example/compartment/compartment/policy/Level" := c153_E_b136.keep Kp138
  have c155_F_name_b136 : Fld Z h137 b136 "com/example/compartment/compartment/policy/Level" "name" "Ljava/lang/String;" .null := Fld.ext E137 F136_name
  have lt_b136 : @LT.lt Nat _ b136 h136.size := A136.lt
  have lt_b137 : @LT.lt Nat _ b137 h138.size := p138_E_o.lt
  have ne_b136_b137_156 : b136 ≠ b137 := (by omega : @Ne Nat b136 b137)
  have c157_F_name_b136 : Fld Z h138 b136 "com/example/compartment/compartment/policy/Level" "name" "Ljava/lang/String;" .null := c155_F_name_b136.keep Kp138 (ninS ne_b136_b137_156 nin0)
  have c158_F_rank_b136 : Fld Z h137 b136 "com/example/compartment/compartment/policy/Level" "rank" "I" (.int (0 : Int32)) := Fld.ext E137 F136_rank
  have c159_F_rank_b136 : Fld Z h138 b136 "com/example/compartment/compartment/policy/Level" "rank" "I" (.int (0 : Int32)) := c158_F_rank_b136.keep Kp138 (ninS ne_b136_b137_156 nin0)
  have ge160_b136 : @LE.le Nat _ n0 b136 := by omega
  obtain ⟨_, _, ⟨T152, L152, k152, n152⟩, -, X152, hs152, hg152, ⟨Lc152, hQ152, l152, y152, z152⟩, st152⟩ := X138.specialBackS hx (y := (⟨"com/example/compartment/compartment/policy/Level", "<init>", "(Ljava/lang/String;I)V"⟩ : MethodName)) rfl hown127 (mvT hZ127 (wi hw 33 rfl)) (mvT hZ127 (wi hw 34 rfl)) (mvT hZ127 (wi hw 35 rfl)) (by decide) (backOfS (W := 1) (rm_lev l Z a0 hw [] b136 b137 p1 .null (.int (0 : Int32)) h138 n0 (by omega) c154_E_b136 c157_F_name_b136 c159_F_rank_b136 ge160_b136) hZ127 (wi hw 35 rfl) (wi hw 3 rfl) (by decide) (by decide)) (g := (mkF mM 71 (Lc_law_gt_3 p0 p1 p2 p3 p4 b101 b107 b111) [(.int p1), (.ref b137), (.ref b136), (.ref b136)])) rfl (by rw [hml]; rfl) (Steps.refl _) (a := b136) (argsL := [(.ref b137), (.int p1)]) (rest := [(.ref b136)]) (lenOf pd_6 rfl) rfl (by show 2 * 0 + _ ≤ _; exact Nat.le_of_eq rfl) (hb hby at_71) (fun _ _ => ⟨rfl, e138, Nat.le_of_ble_eq_true rfl, Nat.le_of_ble_eq_true rfl⟩)
  dsimp only [Pt.U, Pt.locs, Pt.cells, Pt.slots] at X152 l152 y152 z152 st152 hQ152 hs152 hg152
  subst l152 y152 z152
  obtain ⟨X152', hS152, hZ152, hown152⟩ := rebS hS127 (by rw [e138]; omega) X152 hs152 hg152 hZ127 hown127
  obtain ⟨h152, e152⟩ : ∃ z, T152.heap = z := ⟨_, rfl⟩
  rw [e152] at hQ152 hS152
  obtain ⟨rfl, N152q, Kp152, p152_E_o, p152_F_rank_o⟩ := hQ152
  have Sz13 : h138.size ≤ h152.size := Kp152.1
  have N152 := Fr.app N138 N152q
  have c162_F_rank_b111 : Fld Z h136 b111 "com/example/compartment/compartment/policy/Level" "rank" "I" (.int p0) := Fld.ext E136 p127_F_rank_o
  have c163_F_rank_b111 : Fld Z h137 b111 "com/example/compartment/compartment/policy/Level" "rank" "I" (.int p0) := Fld.ext E137 c162_F_rank_b111
  have ne_b111_b137_164 : b111 ≠ b137 := (by omega : @Ne Nat b111 b137)
  have c165_F_rank_b111 : Fld Z h138 b111 "com/example/compartment/compartment/policy/Level" "rank" "I" (.int p0) := c163_F_rank_b111.keep Kp138 (ninS ne_b111_b137_164 nin0)
  have ne_b111_b136_166 : b111 ≠ b136 := (by omega : @Ne Nat b111 b136)
  have c167_F_rank_b111 : Fld Z h152 b111 "com/example/compartment/compartment/policy/Level" "rank" "I" (.int p0) := c165_F_rank_b111.keep Kp152 (ninS ne_b111_b136_166 nin0)
  have c168_E_b111 : Exa Z h136 b111 "com/example/compartment/compartment/policy/Level" := Exa.ext E136 p127_E_o
  have c169_E_b111 : Exa Z h137 b111 "com/example/compartment/compartment/policy/Level" := Exa.ext E137 c168_E_b111
  have c170_E_b111 : Exa Z h138 b111 "com/example/compartment/compartment/policy/Level" := c169_E_b111.keep Kp138
  have c171_E_b111 : Exa Z h152 b111 "com/example/compartment/compartment/policy/Level" := c170_E_b111.keep Kp152
  obtain ⟨cq161, kq161, q161a, q161b, q161c⟩ := isOf hZ152 e152 c171_E_b111
  obtain ⟨_, _, ⟨T161, L161, k161, n161⟩, -, X161, ⟨Lc161, hQ161, l161, y161, z161⟩, st161⟩ := X152'.virtualBack hx (y := (⟨"com/example/compartment/compartment/policy/Level", "atLeast", "(Lcom/example/compartment/compartment/policy/Level;)Z"⟩ : MethodName)) (z := (⟨"com/example/compartment/compartment/policy/Level", "atLeast", "(Lcom/example/compartment/compartment/policy/Level;)Z"⟩ : MethodName)) hown152 (mvT hZ152 (wi hw 53 rfl)) (mvT hZ152 (wi hw 54 rfl)) (notFace_of_selects (args := #[]) (mvT hZ152 (wi hw 56 rfl))) (mvT hZ152 (wi hw 56 rfl)) (mvT hZ152 (wi hw 55 rfl)) (by decide) (backOf (W := 0) (rm_at_ge l Z a0 hw [] b111 b136 p0 p1 h152 n0 (by omega) c167_F_rank_b111 p152_F_rank_o (hnb)) hZ152 (wi hw 57 rfl) (wi hw 3 rfl) (by decide) (by decide)) q161a q161c (g := (mkF mM 80 (Lc_law_gt_4 p0 p1 p2 p3 p4 b101 b107 b111 b136) [(.ref b136), (.ref b111)])) rfl (by rw [hml]; rfl) (Steps.refl _) (argsL := [(.ref b136)]) (rest := []) (lenOf pd_8 rfl) rfl (by show 2 * 0 + _ ≤ _; exact Nat.le_of_eq rfl) (hb hby at_80) (fun _ _ => ⟨rfl, e152, Nat.le_of_ble_eq_true rfl, Nat.le_of_ble_eq_true rfl⟩)
  dsimp only [Pt.U, Pt.locs, Pt.cells, Pt.slots] at X161 l161 y161 z161 st161 hQ161
  subst l161 y161 z161
  obtain ⟨h161, e161⟩ : ∃ z, T161.heap = z := ⟨_, rfl⟩
  rw [e161] at hQ161
  obtain ⟨rfl, N161q, eq161⟩ := hQ161
  rw [eq161] at e161
  have N161 := Fr.app N152 N161q
  obtain ⟨cq172, kq172, q172a, q172b, q172c⟩ := isOf hZ152 e161 p152_E_o
  obtain ⟨_, _, ⟨T172, L172, k172, n172⟩, -, X172, ⟨Lc172, hQ172, l172, y172, z172⟩, st172⟩ := X161.virtualBack hx (y := (⟨"com/example/compartment/compartment/policy/Level", "atLeast", "(Lcom/example/compartment/compartment/policy/Level;)Z"⟩ : MethodName)) (z := (⟨"com/example/compartment/compartment/policy/Level", "atLeast", "(Lcom/example/compartment/compartment/policy/Level;)Z"⟩ : MethodName)) hown152 (mvT hZ152 (wi hw 53 rfl)) (mvT hZ152 (wi hw 54 rfl)) (notFace_of_selects (args := #[]) (mvT hZ152 (wi hw 56 rfl))) (mvT hZ152 (wi hw 56 rfl)) (mvT hZ152 (wi hw 55 rfl)) (by decide) (backOf (W := 0) (rm_at_lt l Z a0 hw [] b136 b111 p1 p0 h152 n0 (by omega) p152_F_rank_o c167_F_rank_b111 (hlt)) hZ152 (wi hw 57 rfl) (wi hw 3 rfl) (by decide) (by decide)) q172a q172c (g := (mkF mM 89 (Lc_law_gt_5 p0 p1 p2 p3 p4 b101 b107 b111 b136) [(.ref b111), (.ref b136)])) rfl (by rw [hml]; rfl) (Steps.refl _) (argsL := [(.ref b111)]) (rest := []) (lenOf pd_8 rfl) rfl (by show 2 * 0 + _ ≤ _; exact Nat.le_of_eq rfl) (hb hby at_89) (fun _ _ => ⟨rfl, e161, Nat.le_of_ble_eq_true rfl, Nat.le_of_ble_eq_true rfl⟩)
  dsimp only [Pt.U, Pt.locs, Pt.cells, Pt.slots] at X172 l172 y172 z172 st172 hQ172
  subst l172 y172 z172
  obtain ⟨h172, e172⟩ : ∃ z, T172.heap = z := ⟨_, rfl⟩
  rw [e172] at hQ172
  obtain ⟨rfl, N172q, eq172⟩ := hQ172
  rw [eq172] at e172
  have N172 := Fr.app N161 N172q
  obtain ⟨cq173, kq173, q173a, q173b, q173c⟩ := isOf hZ152 e172 c171_E_b111
  obtain ⟨_, _, ⟨T173, L173, k173, n173⟩, -, X173, ⟨Lc173, hQ173, l173, y173, z173⟩, st173⟩ := X172.virtualBack hx (y := (⟨"com/example/compartment/compartment/policy/Level", "atLeast", "(Lcom/example/compartment/compartment/policy/Level;)Z"⟩ : MethodName)) (z := (⟨"com/example/compartment/compartment/policy/Level", "atLeast", "(Lcom/example/compartment/compartment/policy/Level;)Z"⟩ : MethodName)) hown152 (mvT hZ152 (wi hw 53 rfl)) (mvT hZ152 (wi hw 54 rfl)) (notFace_of_selects (args := #[]) (mvT hZ152 (wi hw 56 rfl))) (mvT hZ152 (wi hw 56 rfl)) (mvT hZ152 (wi hw 55 rfl)) (by decide) (backOf (W := 0) (rm_at_ge l Z a0 hw [] b111 b111 p0 p0 h152 n0 (by omega) c167_F_rank_b111 c167_F_rank_b111 (Int32.lt_irrefl)) hZ152 (wi hw 57 rfl) (wi hw 3 rfl) (by decide) (by decide)) q173a q173c (g := (mkF mM 98 (Lc_law_gt_6 p0 p1 p2 p3 p4 b101 b107 b111 b136) [(.ref b111), (.ref b111)])) rfl (by rw [hml]; rfl) (Steps.refl _) (argsL := [(.ref b111)]) (rest := []) (lenOf pd_8 rfl) rfl (by show 2 * 0 + _ ≤ _; exact Nat.le_of_eq rfl) (hb hby at_98) (fun _ _ => ⟨rfl, e172, Nat.le_of_ble_eq_true rfl, Nat.le_of_ble_eq_true rfl⟩)
  dsimp only [Pt.U, Pt.locs, Pt.cells, Pt.slots] at X173 l173 y173 z173 st173 hQ173
  subst l173 y173 z173
  obtain ⟨h173, e173⟩ : ∃ z, T173.heap = z := ⟨_, rfl⟩
  rw [e173] at hQ173
  obtain ⟨rfl, N173q, eq173⟩ := hQ173
  rw [eq173] at e173
  have N173 := Fr.app N172 N173q
  obtain ⟨_, _, ⟨T174, L174, k174, n174⟩, -, X174, ⟨Lc174, hQ174, l174, y174, z174⟩, st174⟩ := Jvm.LawKit.callS X173 hx (y := (⟨"com/example/compartment/compartment/policy/LevelAtLeastPinLaw", "dominatesRef", "(II)Z"⟩ : MethodName)) hown152 (mvT hZ152 (wi hw 58 rfl)) (mvT hZ152 (wi hw 59 rfl)) (mvT hZ152 (wi hw 60 rfl)) (mvT hZ152 (wi hw 61 rfl)) (by decide) (backOf (W := 1) (rm_dom_ge l Z a0 hw [] p0 p1 h152 n0 (by omega) (fun q => hnb ((own_dom _ _).mp q))) hZ152 (wi hw 61 rfl) (wi hw 60 rfl) (by decide) (by decide)) (g := (mkF mM 115 (Lc_law_gt_8 p0 p1 p2 p3 p4 b101 b107 b111 b136) [(.int p1), (.int p0), (.int (1 : Int32))])) rfl (by rw [hml]; rfl) (argsL := [(.int p0), (.int p1)]) (rest := [(.int (1 : Int32))]) (lenOf pd_9 rfl) rfl (by show 2 * 0 + _ ≤ _; exact Nat.le_of_eq rfl) (hb hby at_115) (fun _ _ => ⟨rfl, e173, Nat.le_of_ble_eq_true rfl, Nat.le_of_ble_eq_true rfl⟩)
  dsimp only [Pt.U, Pt.locs, Pt.cells, Pt.slots] at X174 l174 y174 z174 st174 hQ174
  subst l174 y174 z174
  obtain ⟨h174, e174⟩ : ∃ z, T174.heap = z := ⟨_, rfl⟩
  rw [e174] at hQ174
  obtain ⟨rfl, N174q, eq174⟩ := hQ174
  rw [eq174] at e174
  have N174 := Fr.app N173 N174q
  obtain ⟨_, _, ⟨T175, L175, k175, n175⟩, -, X175, ⟨Lc175, hQ175, l175, y175, z175⟩, st175⟩ := Jvm.LawKit.callS X174 hx (y := (⟨"com/example/compartment/compartment/policy/LevelAtLeastPinLaw", "dominatesRef", "(II)Z"⟩ : MethodName)) hown152 (mvT hZ152 (wi hw 58 rfl)) (mvT hZ152 (wi hw 59 rfl)) (mvT hZ152 (wi hw 60 rfl)) (mvT hZ152 (wi hw 61 rfl)) (by decide) (backOf (W := 1) (rm_dom_lt l Z a0 hw [] p1 p0 h152 n0 (by omega) ((own_dom _ _).mpr hlt)) hZ152 (wi hw 61 rfl) (wi hw 60 rfl) (by decide) (by decide)) (g := (mkF mM 137 (Lc_law_gt_8 p0 p1 p2 p3 p4 b101 b107 b111 b136) [(.int p0), (.int p1), (.int (0 : Int32))])) rfl (by rw [hml]; rfl) (argsL := [(.int p1), (.int p0)]) (rest := [(.int (0 : Int32))]) (lenOf pd_9 rfl) rfl (by show 2 * 0 + _ ≤ _; exact Nat.le_of_eq rfl) (hb hby at_137) (fun _ _ => ⟨rfl, e174, Nat.le_of_ble_eq_true rfl, Nat.le_of_ble_eq_true rfl⟩)
  dsimp only [Pt.U, Pt.locs, Pt.cells, Pt.slots] at X175 l175 y175 z175 st175 hQ175
  subst l175 y175 z175
  obtain ⟨h175, e175⟩ : ∃ z, T175.heap = z := ⟨_, rfl⟩
  rw [e175] at hQ175
  obtain ⟨rfl, N175q, eq175⟩ := hQ175
  rw [eq175] at e175
  have N175 := Fr.app N174 N175q
  obtain ⟨fs, hr, hrun, hended, hE⟩ := Stand.leaveW (s := sS) X175 hS152 (by rw [e175]; omega) (v := some (.int (1 : Int32))) (fun h => by rw [Bd.returns] at h; cases h)
  refine ⟨_, _, pre0 _ ?_, hrun, hended, _, _, rfl, ?_, hE.1, hE.2.1, hE.2.2.1, hE.2.2.2.mono (by decide) (by decide)⟩
  · show SS pP eE belowS s₁ (mkF mM 0 (Lc_law_gt_0 p0 p1 p2 p3 p4) []) _
    refine XS.iconst X0.here hx rfl (hb hby at_0) ?_
    show SS pP eE belowS s₁ (mkF mM 1 (Lc_law_gt_0 p0 p1 p2 p3 p4) [(.int (2 : Int32))]) _
    refine st101 _ ?_
    show SS pP eE belowS T101 (mkF mM 3 (Lc_law_gt_0 p0 p1 p2 p3 p4) [(.ref b101)]) _
    refine XS.dup X101.here hx rfl (hb hby at_3) rfl rfl ?_
    show SS pP eE belowS T101 (mkF mM 4 (Lc_law_gt_0 p0 p1 p2 p3 p4) [(.ref b101), (.ref b101)]) _
    refine XS.iconst X101.here hx rfl (hb hby at_4) ?_
    show SS pP eE belowS T101 (mkF mM 5 (Lc_law_gt_0 p0 p1 p2 p3 p4) [(.int (0 : Int32)), (.ref b101), (.ref b101)]) _
    refine XS.iloadN X101.here hx rfl (hb hby at_5) rfl ?_
    show SS pP eE belowS T101 (mkF mM 6 (Lc_law_gt_0 p0 p1 p2 p3 p4) [(.int p2), (.int (0 : Int32)), (.ref b101), (.ref b101)]) _
    refine XS.sipush X101.here hx rfl (hb hby at_6) ?_
    show SS pP eE belowS T101 (mkF mM 9 (Lc_law_gt_0 p0 p1 p2 p3 p4) [(.int (255 : Int32)), (.int p2), (.int (0 : Int32)), (.ref b101), (.ref b101)]) _
    refine XS.iand X101.here hx rfl (hb hby at_9) rfl ?_
    show SS pP eE belowS T101 (mkF mM 10 (Lc_law_gt_0 p0 p1 p2 p3 p4) [(.int (p2 &&& (255 : Int32))), (.int (0 : Int32)), (.ref b101), (.ref b101)]) _
    refine XS.i2c X101.here hx rfl (hb hby at_10) rfl ?_
    show SS pP eE belowS T101 (mkF mM 11 (Lc_law_gt_0 p0 p1 p2 p3 p4) [(.int ((p2 &&& (255 : Int32)).toUInt32.toUInt16.toUInt32.toInt32)), (.int (0 : Int32)), (.ref b101), (.ref b101)]) _
    rw [show ((p2 &&& (255 : Int32)).toUInt32.toUInt16.toUInt32.toInt32) = (p2 &&& (255 : Int32)) from i2c_mask p2]
    show SS pP eE belowS T101 (mkF mM 11 (Lc_law_gt_0 p0 p1 p2 p3 p4) [(.int (p2 &&& (255 : Int32))), (.int (0 : Int32)), (.ref b101), (.ref b101)]) _
    refine st103 _ ?_
    show SS pP eE belowS T103 (mkF mM 12 (Lc_law_gt_0 p0 p1 p2 p3 p4) [(.ref b101)]) _
    refine XS.dup X103.here hx rfl (hb hby at_12) rfl rfl ?_
    show SS pP eE belowS T103 (mkF mM 13 (Lc_law_gt_0 p0 p1 p2 p3 p4) [(.ref b101), (.ref b101)]) _
    refine XS.iconst X103.here hx rfl (hb hby at_13) ?_
    show SS pP eE belowS T103 (mkF mM 14 (Lc_law_gt_0 p0 p1 p2 p3 p4) [(.int (1 : Int32)), (.ref b101), (.ref b101)]) _
    refine XS.iload X103.here hx rfl (hb hby at_14) rfl ?_
    show SS pP eE belowS T103 (mkF mM 16 (Lc_law_gt_0 p0 p1 p2 p3 p4) [(.int p4), (.int (1 : Int32)), (.ref b101), (.ref b101)]) _
    refine XS.sipush X103.here hx rfl (hb hby at_16) ?_
    show SS pP eE belowS T103 (mkF mM 19 (Lc_law_gt_0 p0 p1 p2 p3 p4) [(.int (255 : Int32)), (.int p4), (.int (1 : Int32)), (.ref b101), (.ref b101)]) _
    refine XS.iand X103.here hx rfl (hb hby at_19) rfl ?_
    show SS pP eE belowS T103 (mkF mM 20 (Lc_law_gt_0 p0 p1 p2 p3 p4) [(.int (p4 &&& (255 : Int32))), (.int (1 : Int32)), (.ref b101), (.ref b101)]) _
    refine XS.i2c X103.here hx rfl (hb hby at_20) rfl ?_
    show SS pP eE belowS T103 (mkF mM 21 (Lc_law_gt_0 p0 p1 p2 p3 p4) [(.int ((p4 &&& (255 : Int32)).toUInt32.toUInt16.toUInt32.toInt32)), (.int (1 : Int32)), (.ref b101), (.ref b101)]) _
    rw [show ((p4 &&& (255 : Int32)).toUInt32.toUInt16.toUInt32.toInt32) = (p4 &&& (255 : Int32)) from i2c_mask p4]
    show SS pP eE belowS T103 (mkF mM 21 (Lc_law_gt_0 p0 p1 p2 p3 p4) [(.int (p4 &&& (255 : Int32))), (.int (1 : Int32)), (.ref b101), (.ref b101)]) _
    refine st106 _ ?_
    show SS pP eE belowS T106 (mkF mM 22 (Lc_law_gt_0 p0 p1 p2 p3 p4) [(.ref b101)]) _
    refine XS.astore X106.here hx rfl (hb hby at_22) rfl rfl (l' := (Lc_law_gt_1 p0 p1 p2 p3 p4 b101)) rfl ?_
    show SS pP eE belowS T106 (mkF mM 24 (Lc_law_gt_1 p0 p1 p2 p3 p4 b101) []) _
    refine XS.iconst X106.here hx rfl (hb hby at_24) ?_
    show SS pP eE belowS T106 (mkF mM 25 (Lc_law_gt_1 p0 p1 p2 p3 p4 b101) [(.int (1 : Int32))]) _
    refine st107 _ ?_
    show SS pP eE belowS T107 (mkF mM 27 (Lc_law_gt_1 p0 p1 p2 p3 p4 b101) [(.ref b107)]) _
    refine XS.dup X107.here hx rfl (hb hby at_27) rfl rfl ?_
    show SS pP eE belowS T107 (mkF mM 28 (Lc_law_gt_1 p0 p1 p2 p3 p4 b101) [(.ref b107), (.ref b107)]) _
    refine XS.iconst X107.here hx rfl (hb hby at_28) ?_
    show SS pP eE belowS T107 (mkF mM 29 (Lc_law_gt_1 p0 p1 p2 p3 p4 b101) [(.int (0 : Int32)), (.ref b107), (.ref b107)]) _
    refine XS.iloadN X107.here hx rfl (hb hby at_29) rfl ?_
    show SS pP eE belowS T107 (mkF mM 30 (Lc_law_gt_1 p0 p1 p2 p3 p4 b101) [(.int p3), (.int (0 : Int32)), (.ref b107), (.ref b107)]) _
    refine XS.sipush X107.here hx rfl (hb hby at_30) ?_
    show SS pP eE belowS T107 (mkF mM 33 (Lc_law_gt_1 p0 p1 p2 p3 p4 b101) [(.int (255 : Int32)), (.int p3), (.int (0 : Int32)), (.ref b107), (.ref b107)]) _
    refine XS.iand X107.here hx rfl (hb hby at_33) rfl ?_
    show SS pP eE belowS T107 (mkF mM 34 (Lc_law_gt_1 p0 p1 p2 p3 p4 b101) [(.int (p3 &&& (255 : Int32))), (.int (0 : Int32)), (.ref b107), (.ref b107)]) _
    refine XS.i2c X107.here hx rfl (hb hby at_34) rfl ?_
    show SS pP eE belowS T107 (mkF mM 35 (Lc_law_gt_1 p0 p1 p2 p3 p4 b101) [(.int ((p3 &&& (255 : Int32)).toUInt32.toUInt16.toUInt32.toInt32)), (.int (0 : Int32)), (.ref b107), (.ref b107)]) _
    rw [show ((p3 &&& (255 : Int32)).toUInt32.toUInt16.toUInt32.toInt32) = (p3 &&& (255 : Int32)) from i2c_mask p3]
    show SS pP eE belowS T107 (mkF mM 35 (Lc_law_gt_1 p0 p1 p2 p3 p4 b101) [(.int (p3 &&& (255 : Int32))), (.int (0 : Int32)), (.ref b107), (.ref b107)]) _
    refine st109 _ ?_
    show SS pP eE belowS T109 (mkF mM 36 (Lc_law_gt_1 p0 p1 p2 p3 p4 b101) [(.ref b107)]) _
    refine XS.astore X109.here hx rfl (hb hby at_36) rfl rfl (l' := (Lc_law_gt_2 p0 p1 p2 p3 p4 b101 b107)) rfl ?_
    show SS pP eE belowS T109 (mkF mM 38 (Lc_law_gt_2 p0 p1 p2 p3 p4 b101 b107) []) _
    refine st111 _ ?_
    show SS pP eE belowS T111 (mkF mM 41 (Lc_law_gt_2 p0 p1 p2 p3 p4 b101 b107) [(.ref b111)]) _
    refine XS.dup X111.here hx rfl (hb hby at_41) rfl rfl ?_
    show SS pP eE belowS T111 (mkF mM 42 (Lc_law_gt_2 p0 p1 p2 p3 p4 b101 b107) [(.ref b111), (.ref b111)]) _
    refine st112 _ ?_
    show SS pP eE belowS T112 (mkF mM 45 (Lc_law_gt_2 p0 p1 p2 p3 p4 b101 b107) [(.ref b112), (.ref b111), (.ref b111)]) _
    refine XS.dup X112.here hx rfl (hb hby at_45) rfl rfl ?_
    show SS pP eE belowS T112 (mkF mM 46 (Lc_law_gt_2 p0 p1 p2 p3 p4 b101 b107) [(.ref b112), (.ref b112), (.ref b111), (.ref b111)]) _
    refine XS.aload X112.here hx rfl (hb hby at_46) rfl rfl ?_
    show SS pP eE belowS T112 (mkF mM 48 (Lc_law_gt_2 p0 p1 p2 p3 p4 b101 b107) [(.ref b101), (.ref b112), (.ref b112), (.ref b111), (.ref b111)]) _
    refine st113.trans ?_
    show SS pP eE belowS T113 (mkF mM 51 (Lc_law_gt_2 p0 p1 p2 p3 p4 b101 b107) [(.ref b112), (.ref b111), (.ref b111)]) _
    refine XS.iloadN X113.here hx rfl (hb hby at_51) rfl ?_
    show SS pP eE belowS T113 (mkF mM 52 (Lc_law_gt_2 p0 p1 p2 p3 p4 b101 b107) [(.int p0), (.ref b112), (.ref b111), (.ref b111)]) _
    refine st127.trans ?_
    show SS pP eE belowS T127 (mkF mM 55 (Lc_law_gt_2 p0 p1 p2 p3 p4 b101 b107) [(.ref b111)]) _
    refine XS.astore X127'.here hx rfl (hb hby at_55) rfl rfl (l' := (Lc_law_gt_3 p0 p1 p2 p3 p4 b101 b107 b111)) rfl ?_
    show SS pP eE belowS T127 (mkF mM 57 (Lc_law_gt_3 p0 p1 p2 p3 p4 b101 b107 b111) []) _
    refine st136 _ ?_
    show SS pP eE belowS T136 (mkF mM 60 (Lc_law_gt_3 p0 p1 p2 p3 p4 b101 b107 b111) [(.ref b136)]) _
    refine XS.dup X136.here hx rfl (hb hby at_60) rfl rfl ?_
    show SS pP eE belowS T136 (mkF mM 61 (Lc_law_gt_3 p0 p1 p2 p3 p4 b101 b107 b111) [(.ref b136), (.ref b136)]) _
    refine st137 _ ?_
    show SS pP eE belowS T137 (mkF mM 64 (Lc_law_gt_3 p0 p1 p2 p3 p4 b101 b107 b111) [(.ref b137), (.ref b136), (.ref b136)]) _
    refine XS.dup X137.here hx rfl (hb hby at_64) rfl rfl ?_
    show SS pP eE belowS T137 (mkF mM 65 (Lc_law_gt_3 p0 p1 p2 p3 p4 b101 b107 b111) [(.ref b137), (.ref b137), (.ref b136), (.ref b136)]) _
    refine XS.aload X137.here hx rfl (hb hby at_65) rfl rfl ?_
    show SS pP eE belowS T137 (mkF mM 67 (Lc_law_gt_3 p0 p1 p2 p3 p4 b101 b107 b111) [(.ref b107), (.ref b137), (.ref b137), (.ref b136), (.ref b136)]) _
    refine st138.trans ?_
    show SS pP eE belowS T138 (mkF mM 70 (Lc_law_gt_3 p0 p1 p2 p3 p4 b101 b107 b111) [(.ref b137), (.ref b136), (.ref b136)]) _
    refine XS.iloadN X138.here hx rfl (hb hby at_70) rfl ?_
    show SS pP eE belowS T138 (mkF mM 71 (Lc_law_gt_3 p0 p1 p2 p3 p4 b101 b107 b111) [(.int p1), (.ref b137), (.ref b136), (.ref b136)]) _
    refine st152.trans ?_
    show SS pP eE belowS T152 (mkF mM 74 (Lc_law_gt_3 p0 p1 p2 p3 p4 b101 b107 b111) [(.ref b136)]) _
    refine XS.astore X152'.here hx rfl (hb hby at_74) rfl rfl (l' := (Lc_law_gt_4 p0 p1 p2 p3 p4 b101 b107 b111 b136)) rfl ?_
    show SS pP eE belowS T152 (mkF mM 76 (Lc_law_gt_4 p0 p1 p2 p3 p4 b101 b107 b111 b136) []) _
    refine XS.aload X152'.here hx rfl (hb hby at_76) rfl rfl ?_
    show SS pP eE belowS T152 (mkF mM 78 (Lc_law_gt_4 p0 p1 p2 p3 p4 b101 b107 b111 b136) [(.ref b111)]) _
    refine XS.aload X152'.here hx rfl (hb hby at_78) rfl rfl ?_
    show SS pP eE belowS T152 (mkF mM 80 (Lc_law_gt_4 p0 p1 p2 p3 p4 b101 b107 b111 b136) [(.ref b136), (.ref b111)]) _
    refine st161.trans ?_
    show SS pP eE belowS T161 (mkF mM 83 (Lc_law_gt_4 p0 p1 p2 p3 p4 b101 b107 b111 b136) [(.int (1 : Int32))]) _
    refine XS.istore X161.here hx rfl (hb hby at_83) rfl (l' := (Lc_law_gt_5 p0 p1 p2 p3 p4 b101 b107 b111 b136)) rfl ?_
    show SS pP eE belowS T161 (mkF mM 85 (Lc_law_gt_5 p0 p1 p2 p3 p4 b101 b107 b111 b136) []) _
    refine XS.aload X161.here hx rfl (hb hby at_85) rfl rfl ?_
    show SS pP eE belowS T161 (mkF mM 87 (Lc_law_gt_5 p0 p1 p2 p3 p4 b101 b107 b111 b136) [(.ref b136)]) _
    refine XS.aload X161.here hx rfl (hb hby at_87) rfl rfl ?_
    show SS pP eE belowS T161 (mkF mM 89 (Lc_law_gt_5 p0 p1 p2 p3 p4 b101 b107 b111 b136) [(.ref b111), (.ref b136)]) _
    refine st172.trans ?_
    show SS pP eE belowS T172 (mkF mM 92 (Lc_law_gt_5 p0 p1 p2 p3 p4 b101 b107 b111 b136) [(.int (0 : Int32))]) _
    refine XS.istore X172.here hx rfl (hb hby at_92) rfl (l' := (Lc_law_gt_6 p0 p1 p2 p3 p4 b101 b107 b111 b136)) rfl ?_
    show SS pP eE belowS T172 (mkF mM 94 (Lc_law_gt_6 p0 p1 p2 p3 p4 b101 b107 b111 b136) []) _
    refine XS.aload X172.here hx rfl (hb hby at_94) rfl rfl ?_
    show SS pP eE belowS T172 (mkF mM 96 (Lc_law_gt_6 p0 p1 p2 p3 p4 b101 b107 b111 b136) [(.ref b111)]) _
    refine XS.aload X172.here hx rfl (hb hby at_96) rfl rfl ?_
    show SS pP eE belowS T172 (mkF mM 98 (Lc_law_gt_6 p0 p1 p2 p3 p4 b101 b107 b111 b136) [(.ref b111), (.ref b111)]) _
    refine st173.trans ?_
    show SS pP eE belowS T173 (mkF mM 101 (Lc_law_gt_6 p0 p1 p2 p3 p4 b101 b107 b111 b136) [(.int (1 : Int32))]) _
    refine XS.istore X173.here hx rfl (hb hby at_101) rfl (l' := (Lc_law_gt_7 p0 p1 p2 p3 p4 b101 b107 b111 b136)) rfl ?_
    show SS pP eE belowS T173 (mkF mM 103 (Lc_law_gt_7 p0 p1 p2 p3 p4 b101 b107 b111 b136) []) _
    refine XS.iconst X173.here hx rfl (hb hby at_103) ?_
    show SS pP eE belowS T173 (mkF mM 104 (Lc_law_gt_7 p0 p1 p2 p3 p4 b101 b107 b111 b136) [(.int (1 : Int32))]) _
    refine XS.istore X173.here hx rfl (hb hby at_104) rfl (l' := (Lc_law_gt_8 p0 p1 p2 p3 p4 b101 b107 b111 b136)) rfl ?_
    show SS pP eE belowS T173 (mkF mM 106 (Lc_law_gt_8 p0 p1 p2 p3 p4 b101 b107 b111 b136) []) _
    refine XS.iload X173.here hx rfl (hb hby at_106) rfl ?_
    show SS pP eE belowS T173 (mkF mM 108 (Lc_law_gt_8 p0 p1 p2 p3 p4 b101 b107 b111 b136) [(.int (1 : Int32))]) _
    refine XS.ifNo X173.here hx rfl (hb hby at_108) rfl ((if0 _ _).trans (feq (by decide : ¬ ((1 : Int32) = (0 : Int32)))).1) ?_
    show SS pP eE belowS T173 (mkF mM 111 (Lc_law_gt_8 p0 p1 p2 p3 p4 b101 b107 b111 b136) []) _
    refine XS.iload X173.here hx rfl (hb hby at_111) rfl ?_
    show SS pP eE belowS T173 (mkF mM 113 (Lc_law_gt_8 p0 p1 p2 p3 p4 b101 b107 b111 b136) [(.int (1 : Int32))]) _
    refine XS.iloadN X173.here hx rfl (hb hby at_113) rfl ?_
    show SS pP eE belowS T173 (mkF mM 114 (Lc_law_gt_8 p0 p1 p2 p3 p4 b101 b107 b111 b136) [(.int p0), (.int (1 : Int32))]) _
    refine XS.iloadN X173.here hx rfl (hb hby at_114) rfl ?_
    show SS pP eE belowS T173 (mkF mM 115 (Lc_law_gt_8 p0 p1 p2 p3 p4 b101 b107 b111 b136) [(.int p1), (.int p0), (.int (1 : Int32))]) _
    refine st174 _ ?_
    show SS pP eE belowS T174 (mkF mM 118 (Lc_law_gt_8 p0 p1 p2 p3 p4 b101 b107 b111 b136) [(.int (1 : Int32)), (.int (1 : Int32))]) _
    refine XS.icmpNo X174.here hx rfl (hb hby at_118) rfl (teq (by decide : (1 : Int32) = (1 : Int32))).2 ?_
    show SS pP eE belowS T174 (mkF mM 121 (Lc_law_gt_8 p0 p1 p2 p3 p4 b101 b107 b111 b136) []) _
    refine XS.iconst X174.here hx rfl (hb hby at_121) ?_
    show SS pP eE belowS T174 (mkF mM 122 (Lc_law_gt_8 p0 p1 p2 p3 p4 b101 b107 b111 b136) [(.int (1 : Int32))]) _
    refine XS.goto X174.here hx rfl (pc0 := 122) (pc' := 126) rfl (hb hby at_122) (by decide) (by decide) ?_
    show SS pP eE belowS T174 (mkF mM 126 (Lc_law_gt_8 p0 p1 p2 p3 p4 b101 b107 b111 b136) [(.int (1 : Int32))]) _
    refine XS.istore X174.here hx rfl (hb hby at_126) rfl (l' := (Lc_law_gt_8 p0 p1 p2 p3 p4 b101 b107 b111 b136)) rfl ?_
    show SS pP eE belowS T174 (mkF mM 128 (Lc_law_gt_8 p0 p1 p2 p3 p4 b101 b107 b111 b136) []) _
    refine XS.iload X174.here hx rfl (hb hby at_128) rfl ?_
    show SS pP eE belowS T174 (mkF mM 130 (Lc_law_gt_8 p0 p1 p2 p3 p4 b101 b107 b111 b136) [(.int (1 : Int32))]) _
    refine XS.ifNo X174.here hx rfl (hb hby at_130) rfl ((if0 _ _).trans (feq (by decide : ¬ ((1 : Int32) = (0 : Int32)))).1) ?_
    show SS pP eE belowS T174 (mkF mM 133 (Lc_law_gt_8 p0 p1 p2 p3 p4 b101 b107 b111 b136) []) _
    refine XS.iload X174.here hx rfl (hb hby at_133) rfl ?_
    show SS pP eE belowS T174 (mkF mM 135 (Lc_law_gt_8 p0 p1 p2 p3 p4 b101 b107 b111 b136) [(.int (0 : Int32))]) _
    refine XS.iloadN X174.here hx rfl (hb hby at_135) rfl ?_
    show SS pP eE belowS T174 (mkF mM 136 (Lc_law_gt_8 p0 p1 p2 p3 p4 b101 b107 b111 b136) [(.int p1), (.int (0 : Int32))]) _
    refine XS.iloadN X174.here hx rfl (hb hby at_136) rfl ?_
    show SS pP eE belowS T174 (mkF mM 137 (Lc_law_gt_8 p0 p1 p2 p3 p4 b101 b107 b111 b136) [(.int p0), (.int p1), (.int (0 : Int32))]) _
    refine st175 _ ?_
    show SS pP eE belowS T175 (mkF mM 140 (Lc_law_gt_8 p0 p1 p2 p3 p4 b101 b107 b111 b136) [(.int (0 : Int32)), (.int (0 : Int32))]) _
    refine XS.icmpNo X175.here hx rfl (hb hby at_140) rfl (teq (by decide : (0 : Int32) = (0 : Int32))).2 ?_
    show SS pP eE belowS T175 (mkF mM 143 (Lc_law_gt_8 p0 p1 p2 p3 p4 b101 b107 b111 b136) []) _
    refine XS.iconst X175.here hx rfl (hb hby at_143) ?_
    show SS pP eE belowS T175 (mkF mM 144 (Lc_law_gt_8 p0 p1 p2 p3 p4 b101 b107 b111 b136) [(.int (1 : Int32))]) _
    refine XS.goto X175.here hx rfl (pc0 := 144) (pc' := 148) rfl (hb hby at_144) (by decide) (by decide) ?_
    show SS pP eE belowS T175 (mkF mM 148 (Lc_law_gt_8 p0 p1 p2 p3 p4 b101 b107 b111 b136) [(.int (1 : Int32))]) _
    refine XS.istore X175.here hx rfl (hb hby at_148) rfl (l' := (Lc_law_gt_8 p0 p1 p2 p3 p4 b101 b107 b111 b136)) rfl ?_
    show SS pP eE belowS T175 (mkF mM 150 (Lc_law_gt_8 p0 p1 p2 p3 p4 b101 b107 b111 b136) []) _
    refine XS.iload X175.here hx rfl (hb hby at_150) rfl ?_
    show SS pP eE belowS T175 (mkF mM 152 (Lc_law_gt_8 p0 p1 p2 p3 p4 b101 b107 b111 b136) [(.int (1 : Int32))]) _
    refine XS.ifNo X175.here hx rfl (hb hby at_152) rfl ((if0 _ _).trans (feq (by decide : ¬ ((1 : Int32) = (0 : Int32)))).1) ?_
    show SS pP eE belowS T175 (mkF mM 155 (Lc_law_gt_8 p0 p1 p2 p3 p4 b101 b107 b111 b136) []) _
    refine XS.iload X175.here hx rfl (hb hby at_155) rfl ?_
    show SS pP eE belowS T175 (mkF mM 157 (Lc_law_gt_8 p0 p1 p2 p3 p4 b101 b107 b111 b136) [(.int (1 : Int32))]) _
    refine XS.ifNo X175.here hx rfl (hb hby at_157) rfl ((if0 _ _).trans (feq (by decide : ¬ ((1 : Int32) = (0 : Int32)))).1) ?_
    show SS pP eE belowS T175 (mkF mM 160 (Lc_law_gt_8 p0 p1 p2 p3 p4 b101 b107 b111 b136) []) _
    refine XS.iconst X175.here hx rfl (hb hby at_160) ?_
    show SS pP eE belowS T175 (mkF mM 161 (Lc_law_gt_8 p0 p1 p2 p3 p4 b101 b107 b111 b136) [(.int (1 : Int32))]) _
    refine XS.goto X175.here hx rfl (pc0 := 161) (pc' := 165) rfl (hb hby at_161) (by decide) (by decide) ?_
    show SS pP eE belowS T175 (mkF mM 165 (Lc_law_gt_8 p0 p1 p2 p3 p4 b101 b107 b111 b136) [(.int (1 : Int32))]) _
    refine XS.istore X175.here hx rfl (hb hby at_165) rfl (l' := (Lc_law_gt_8 p0 p1 p2 p3 p4 b101 b107 b111 b136)) rfl ?_
    show SS pP eE belowS T175 (mkF mM 167 (Lc_law_gt_8 p0 p1 p2 p3 p4 b101 b107 b111 b136) []) _
    refine XS.iload X175.here hx rfl (hb hby at_167) rfl ?_
    show SS pP eE belowS T175 (mkF mM 169 (Lc_law_gt_8 p0 p1 p2 p3 p4 b101 b107 b111 b136) [(.int (1 : Int32))]) _
    refine XS.ifNo X175.here hx rfl (hb hby at_169) rfl ((if0 _ _).trans (feq (by decide : ¬ ((1 : Int32) = (0 : Int32)))).1) ?_
    show SS pP eE belowS T175 (mkF mM 172 (Lc_law_gt_8 p0 p1 p2 p3 p4 b101 b107 b111 b136) []) _
    refine XS.iload X175.here hx rfl (hb hby at_172) rfl ?_
    show SS pP eE belowS T175 (mkF mM 174 (Lc_law_gt_8 p0 p1 p2 p3 p4 b101 b107 b111 b136) [(.int (1 : Int32))]) _
    refine XS.ifYes X175.here hx rfl (pc0 := 174) (pc' := 182) rfl (hb hby at_174) rfl ((if0 _ _).trans (feq (by decide : ¬ ((1 : Int32) = (0 : Int32)))).2) (by decide) (by decide) ?_
    show SS pP eE belowS T175 (mkF mM 182 (Lc_law_gt_8 p0 p1 p2 p3 p4 b101 b107 b111 b136) []) _
    refine XS.iconst X175.here hx rfl (hb hby at_182) ?_
    show SS pP eE belowS T175 (mkF mM 183 (Lc_law_gt_8 p0 p1 p2 p3 p4 b101 b107 b111 b136) [(.int (1 : Int32))]) _
    refine XS.goto X175.here hx rfl (pc0 := 183) (pc' := 187) rfl (hb hby at_183) (by decide) (by decide) ?_
    show SS pP eE belowS T175 (mkF mM 187 (Lc_law_gt_8 p0 p1 p2 p3 p4 b101 b107 b111 b136) [(.int (1 : Int32))]) _
    refine XS.istore X175.here hx rfl (hb hby at_187) rfl (l' := (Lc_law_gt_8 p0 p1 p2 p3 p4 b101 b107 b111 b136)) rfl ?_
    show SS pP eE belowS T175 (mkF mM 189 (Lc_law_gt_8 p0 p1 p2 p3 p4 b101 b107 b111 b136) []) _
    refine XS.iload X175.here hx rfl (hb hby at_189) rfl ?_
    show SS pP eE belowS T175 (mkF mM 191 (Lc_law_gt_8 p0 p1 p2 p3 p4 b101 b107 b111 b136) [(.int (1 : Int32))]) _
    refine XS.ifNo X175.here hx rfl (hb hby at_191) rfl ((if0 _ _).trans (feq (by decide : ¬ ((1 : Int32) = (0 : Int32)))).1) ?_
    show SS pP eE belowS T175 (mkF mM 194 (Lc_law_gt_8 p0 p1 p2 p3 p4 b101 b107 b111 b136) []) _
    refine XS.iload X175.here hx rfl (hb hby at_194) rfl ?_
    show SS pP eE belowS T175 (mkF mM 196 (Lc_law_gt_8 p0 p1 p2 p3 p4 b101 b107 b111 b136) [(.int (1 : Int32))]) _
    refine XS.ifNo X175.here hx rfl (hb hby at_196) rfl ((if0 _ _).trans (feq (by decide : ¬ ((1 : Int32) = (0 : Int32)))).1) ?_
    show SS pP eE belowS T175 (mkF mM 199 (Lc_law_gt_8 p0 p1 p2 p3 p4 b101 b107 b111 b136) []) _
    refine XS.iload X175.here hx rfl (hb hby at_199) rfl ?_
    show SS pP eE belowS T175 (mkF mM 201 (Lc_law_gt_8 p0 p1 p2 p3 p4 b101 b107 b111 b136) [(.int (0 : Int32))]) _
    refine XS.ifYes X175.here hx rfl (pc0 := 201) (pc' := 208) rfl (hb hby at_201) rfl ((if0 _ _).trans (teq (by decide : (0 : Int32) = (0 : Int32))).1) (by decide) (by decide) ?_
    show SS pP eE belowS T175 (mkF mM 208 (Lc_law_gt_8 p0 p1 p2 p3 p4 b101 b107 b111 b136) []) _
    refine XS.iconst X175.here hx rfl (hb hby at_208) ?_
    show SS pP eE belowS T175 (mkF mM 209 (Lc_law_gt_8 p0 p1 p2 p3 p4 b101 b107 b111 b136) [(.int (0 : Int32))]) _
    refine XS.iloadN X175.here hx rfl (hb hby at_209) rfl ?_
    show SS pP eE belowS T175 (mkF mM 210 (Lc_law_gt_8 p0 p1 p2 p3 p4 b101 b107 b111 b136) [(.int p0), (.int (0 : Int32))]) _
    refine XS.iloadN X175.here hx rfl (hb hby at_210) rfl ?_
    show SS pP eE belowS T175 (mkF mM 211 (Lc_law_gt_8 p0 p1 p2 p3 p4 b101 b107 b111 b136) [(.int p1), (.int p0), (.int (0 : Int32))]) _
    refine XS.icmpYes X175.here hx rfl (pc0 := 211) (pc' := 218) rfl (hb hby at_211) rfl (feq hc211).2 (by decide) (by decide) ?_
    show SS pP eE belowS T175 (mkF mM 218 (Lc_law_gt_8 p0 p1 p2 p3 p4 b101 b107 b111 b136) [(.int (0 : Int32))]) _
    refine XS.iconst X175.here hx rfl (hb hby at_218) ?_
    show SS pP eE belowS T175 (mkF mM 219 (Lc_law_gt_8 p0 p1 p2 p3 p4 b101 b107 b111 b136) [(.int (0 : Int32)), (.int (0 : Int32))]) _
    refine XS.icmpNo X175.here hx rfl (hb hby at_219) rfl (teq (by decide : (0 : Int32) = (0 : Int32))).2 ?_
    show SS pP eE belowS T175 (mkF mM 222 (Lc_law_gt_8 p0 p1 p2 p3 p4 b101 b107 b111 b136) []) _
    refine XS.iconst X175.here hx rfl (hb hby at_222) ?_
    show SS pP eE belowS T175 (mkF mM 223 (Lc_law_gt_8 p0 p1 p2 p3 p4 b101 b107 b111 b136) [(.int (1 : Int32))]) _
    refine XS.goto X175.here hx rfl (pc0 := 223) (pc' := 227) rfl (hb hby at_223) (by decide) (by decide) ?_
    show SS pP eE belowS T175 (mkF mM 227 (Lc_law_gt_8 p0 p1 p2 p3 p4 b101 b107 b111 b136) [(.int (1 : Int32))]) _
    refine XS.istore X175.here hx rfl (hb hby at_227) rfl (l' := (Lc_law_gt_8 p0 p1 p2 p3 p4 b101 b107 b111 b136)) rfl ?_
    show SS pP eE belowS T175 (mkF mM 229 (Lc_law_gt_8 p0 p1 p2 p3 p4 b101 b107 b111 b136) []) _
    refine XS.iload X175.here hx rfl (hb hby at_229) rfl ?_
    show SS pP eE belowS T175 (mkF mM 231 (Lc_law_gt_8 p0 p1 p2 p3 p4 b101 b107 b111 b136) [(.int (1 : Int32))]) _
    exact retN X175 hx (t := .boolean) Bd.returns (by simp) (hb hby at_231) hr
  · exact ⟨rfl, N175⟩
set_option maxRecDepth 65536 in
set_option maxHeartbeats 40000000 in
theorem comes_1 {Post : Tables → Env → Array Value → State → Outcome → State → Prop} (hpost : ∀ tb e args s v u, (limb_1_1.after args s (.returned v) u = true ∧ limb_1_2.after args s (.returned v) u = true ∧ True) → ReturnedEndW s (.returned v) u (Jvm.fieldLocs frame_1_writes args s ++ Jvm.arrayLocs frame_1_arrays args s ++ Jvm.staticLocs frame_1_statics s) 32 1152 → Post tb e args s (.returned v) u) :
    ArmFor flags0 classFile x code maxLocals ret World_1 tables_1 room_1 Calls_1 rest_1 Pre_1 Post := by
  intro l hfl _ _ p e ha hc hk s m args below hf hA hF happ hP
  obtain ⟨hcalls, hrest, hpre⟩ := hP
  obtain ⟨-, -, -, hnamed, -, -, -, hat⟩ := (Spec.applies_iff hf).mp happ
  obtain ⟨hg, hn⟩ := and_e (Cond.before_iff.mp (show (Jvm.Cond.and given_1 narrow_1).before args s = true from hpre))
  obtain ⟨g1, g2⟩ := and_e hg
  obtain ⟨g3, g4⟩ := and_e g2
  obtain ⟨g5, g6⟩ := and_e g4
  obtain ⟨g7, g8⟩ := and_e g6
  obtain ⟨g9, g10⟩ := and_e g8
  obtain ⟨w0, w1, w2, w3, w4, rfl⟩ : ∃ w0 w1 w2 w3 w4 : Value, args = #[w0, w1, w2, w3, w4] := by
    have hs : args.size = 5 := by simpa [Cond.value, given_1] using g1
    obtain ⟨L⟩ := args
    match L, hs with
    | [w0, w1, w2, w3, w4], _ => exact ⟨w0, w1, w2, w3, w4, rfl⟩
  have hw := fun d (hd : d ∈ tables_1) => atoms_spec (ws := Jvm.Cond.code x code maxLocals ret :: tables_1) hat d (List.mem_cons_of_mem _ hd)
  have hfit : Fit s := fun {y c} hc i hi => by
    obtain ⟨ha, rfl⟩ := Array.getElem?_eq_some_iff.mp hc
    have q := List.all_eq_true.mp ((Array.all_eq_true_iff_forall_mem.mp hF) _ (Array.getElem_mem ha)) i (List.mem_range.mpr hi)
    simpa [Array.getElem?_eq_getElem hi] using q
  obtain ⟨hsets, hown0⟩ := atoms_of _ (rest_1_c_eq ▸ (show rest_1_c.before _ s = true from hrest))
  obtain ⟨i0, ei0⟩ := is_v g3
  obtain rfl : w0 = (.int i0) := Option.some.inj ei0
  obtain ⟨i1, ei1⟩ := is_v g5
  obtain rfl : w1 = (.int i1) := Option.some.inj ei1
  obtain ⟨i2, ei2⟩ := is_v g7
  obtain rfl : w2 = (.int i2) := Option.some.inj ei2
  obtain ⟨i3, ei3⟩ := is_v g9
  obtain rfl : w3 = (.int i3) := Option.some.inj ei3
  obtain ⟨i4, ei4⟩ := is_v g10
  obtain rfl : w4 = (.int i4) := Option.some.inj ei4
  have hM : MetFree l x (head1 (Jvm.Cond.code x code maxLocals ret :: tables_1) room_1) (fun a U => a = #[(.int i0), (.int i1), (.int i2), (.int i3), (.int i4)] ∧ s.Warmed39 U.vm ∧ U.heap = s.heap) (fun _ _ _ _ _ => True) (fun _ U o U' => ∃ v L, o = .returned v ∧ Q_law s.heap.size v L ∧ ReturnedEndW U o U' L room_1.cells room_1.slots) := by
    obtain ⟨cs, ecs⟩ := is_v (Cond.before_iff.mp (hsets _ (List.mem_of_getElem? (i := 1) rfl)))
    have hS := Sta.start ecs (Or.inl (hsets _ (List.mem_of_getElem? (i := 0) rfl)))
    have hcs : ¬ (cs = (0 : Int32)) := fun q => by
      have w := not_v (Cond.before_iff.mp (hsets _ (List.mem_of_getElem? (i := 2) rfl)))
      rw [eq_i ecs (Term.int_eval 0) (by rw [q])] at w; cases w
    by_cases q : i0 = i1
    · subst q; exact rm_law_eq l s _ hw tables_1 i0 i2 i3 i4 cs s.heap s.heap.size (Nat.le_refl _) (Old.start s) hS hcs
    by_cases q2 : i0 < i1
    · exact rm_law_lt l s _ hw tables_1 i0 i1 i2 i3 i4 cs s.heap s.heap.size (Nat.le_refl _) (Old.start s) hS hcs q2 (fun z => Int32.lt_irrefl (Int32.lt_trans q2 z)) q
    · exact rm_law_gt l s _ hw tables_1 i0 i1 i2 i3 i4 cs s.heap s.heap.size (Nat.le_refl _) (Old.start s) hS hcs (Int32.lt_of_le_of_ne (Int32.not_lt.mp q2) (Ne.symm q)) q2 q
  obtain ⟨n, o, h1, h2, h3, _, L, rfl, ⟨rfl, N⟩, hq⟩ := hM p e ha hc hk s m _ below hf ((Spec.applies_iff_loose hf).mp happ).1 ⟨rfl, State.Warmed39.refl s, rfl⟩ trivial
  refine ⟨n, _, h1, h2, h3, hpost _ _ _ _ _ _ ⟨Cond.after_iff.mpr rfl, Cond.after_iff.mpr (eq_i res_at (Term.int_eval (1)) rfl), trivial⟩ ⟨hq.1, hq.2.1, hq.2.2.1, (hq.2.2.2.sift fun y hy => Or.inr (N y hy)).mono (by decide) (by decide)⟩⟩
theorem main_1_1 : Claimed_1_1 := comes_1 fun _ _ _ _ _ _ h hF => ⟨h.1, hF⟩
theorem main_1_2 : Claimed_1_2 := comes_1 fun _ _ _ _ _ _ h hF => ⟨h.2.1, hF⟩
end Jvm.Pilot.@@N@@
namespace Jvm.Pilot.@@N@@
open Jvm Jvm.ClassFile Sem Op Lib Jvm.Free Jvm.Stand Jvm.Pilot.@@N@@.Jvm.D
/-! MADE BY PROGRAM (witnessworld.py) out of the Statement's table words and the real class files: 23 classes; the members and pool entries that the words name. The judged class is class 1, her method 2. -/
namespace start1
open Jvm.ClassFile
def u (s : String) : CpInfo := .utf8 (stringToUtf16 s)
/-- a pool by its gaps: so many unusable entries, then the entry; so many at the end -/
def gap : Nat → List CpInfo → List CpInfo
  | 0, r => r
  | n + 1, r => .unusable :: gap n r
def poolList (es : List (Nat × CpInfo)) (last : Nat) : List CpInfo := es.foldr (fun e r => gap e.1 (e.2 :: r)) (gap last [])
def pool (es : List (Nat × CpInfo)) (last : Nat) : Array CpInfo := ⟨poolList es last⟩
def fileOf (pool : Array CpInfo) (this : Nat) (attrs : Array Attribute := #[]) (ms : Array MethodInfo := #[]) (fl : Nat := 33) (sup : Nat := 0) (ifs : Array Nat := #[]) (fds : Array FieldInfo := #[]) : ClassFile where
  minorVersion := 0
  majorVersion := 65
  constantPool := pool
  accessFlags := fl
  thisClass := this
  superClass := sup
  interfaces := ifs
  fields := fds
  methods := ms
  attributes := attrs
def plain (name : String) (sup : Option ClassId) : Class where
  name := name
  kind := .ordinary
  loader := none
  accessFlags := 33
  super := sup
  interfaces := #[]
  cf := none
  fields := #[]
  methods := #[]
  instanceTypes := #[]
  staticTypes := #[]
  resolved := #[]
  callSites := []
  init := .initialized
  statics := none
  mirror := none

def pool0 : Array CpInfo := pool [(5, u "<init>"), (0, u "()V"), (1, .class_ 10), (1, u "java/lang/Object")] 113

def k0c0 : Code := { maxStack := 0, maxLocals := 1, code := object_method_1_code, exceptionTable := #[], attributes := #[] }
def k0m0 : Method := { name := "<init>", desc := "()V", sig := { parameters := [], returnType := none }, accessFlags := 1, code := some k0c0 }
/-- java/lang/Object -/
def k0 : Class := { plain "java/lang/Object" none with
  accessFlags := 33
  interfaces := #[]
  cf := some (fileOf pool0 8 #[] #[{ accessFlags := 1, nameIndex := 5, descriptorIndex := 6, attributes := #[] }] 33 0 #[] #[])
  fields := #[]
  methods := #[k0m0]
  instanceTypes := #[]
  staticTypes := #[]
  resolved := Array.replicate 124 none
  statics := none }

def pool1 : Array CpInfo := pool [(2, .class_ 4), (1, u "java/lang/Object"), (0, u "<init>"), (0, u "()V"), (0, .class_ 8), (0, u "com/example/compartment/compartment/policy/Level"), (0, .class_ 10), (0, u "java/lang/String"), (0, .methodref 9 12), (0, .nameAndType 5 13), (0, u "([C)V"), (0, .methodref 7 15), (0, .nameAndType 5 16), (0, u "(Ljava/lang/String;I)V"), (0, .methodref 7 18), (0, .nameAndType 19 20), (0, u "atLeast"), (0, u "(Lcom/example/compartment/compartment/policy/Level;)Z"), (0, .methodref 22 23), (0, .class_ 24), (0, .nameAndType 25 26), (0, u "com/example/compartment/compartment/policy/LevelAtLeastPinLaw"), (0, u "dominatesRef"), (0, u "(II)Z"), (3, u "law"), (0, u "(IIIII)Z")] 4

def k1m0 : Method := { name := "<init>", desc := "()V", sig := { parameters := [], returnType := none }, accessFlags := 2, code := none }
def k1c1 : Code := { maxStack := 4, maxLocals := 4, code := method_2_code, exceptionTable := #[], attributes := #[] }
def k1m1 : Method := { name := "dominatesRef", desc := "(II)Z", sig := { parameters := [.int, .int], returnType := some .boolean }, accessFlags := 10, code := some k1c1 }
def k1c2 : Code := { maxStack := 5, maxLocals := 13, code := code, exceptionTable := #[], attributes := #[] }
def k1m2 : Method := { name := "law", desc := "(IIIII)Z", sig := { parameters := [.int, .int, .int, .int, .int], returnType := some .boolean }, accessFlags := 9, code := some k1c2 }
/-- com/example/compartment/compartment/policy/LevelAtLeastPinLaw -/
def k1 : Class := { plain "com/example/compartment/compartment/policy/LevelAtLeastPinLaw" (some 0) with
  accessFlags := 49
  interfaces := #[]
  cf := some (fileOf pool1 22 #[] #[{ accessFlags := 2, nameIndex := 5, descriptorIndex := 6, attributes := #[] }, { accessFlags := 10, nameIndex := 25, descriptorIndex := 26, attributes := #[] }, { accessFlags := 9, nameIndex := 30, descriptorIndex := 31, attributes := #[] }] 49 2 #[] #[])
  fields := #[]
  methods := #[k1m0, k1m1, k1m2]
  instanceTypes := #[]
  staticTypes := #[]
  resolved := Array.replicate 36 none
  statics := none }

def pool2 : Array CpInfo := pool [(1, .methodref 2 3), (0, .class_ 4), (0, .nameAndType 5 6), (0, u "java/lang/Object"), (0, u "<init>"), (0, u "()V"), (0, .class_ 8), (0, u "java/lang/Record")] 13

def k2c0 : Code := { maxStack := 1, maxLocals := 1, code := jdk_30_method_1_code, exceptionTable := #[], attributes := #[] }
def k2m0 : Method := { name := "<init>", desc := "()V", sig := { parameters := [], returnType := none }, accessFlags := 4, code := some k2c0 }
/-- java/lang/Record -/
def k2 : Class := { plain "java/lang/Record" (some 0) with
  accessFlags := 1057
  interfaces := #[]
  cf := some (fileOf pool2 7 #[] #[{ accessFlags := 4, nameIndex := 5, descriptorIndex := 6, attributes := #[] }] 1057 2 #[] #[])
  fields := #[]
  methods := #[k2m0]
  instanceTypes := #[]
  staticTypes := #[]
  resolved := Array.replicate 22 none
  statics := none }

def pool3 : Array CpInfo := pool [(1, .class_ 2), (0, u "com/example/compartment/compartment/policy/LevelTerm"), (0, .class_ 4), (0, u "java/lang/Object")] 7

/-- com/example/compartment/compartment/policy/LevelTerm -/
def k3 : Class := { plain "com/example/compartment/compartment/policy/LevelTerm" (some 0) with
  accessFlags := 1537
  interfaces := #[]
  cf := some (fileOf pool3 1 #[] #[] 1537 3 #[] #[])
  fields := #[]
  methods := #[]
  instanceTypes := #[]
  staticTypes := #[]
  resolved := Array.replicate 12 none
  statics := none }

def pool4 : Array CpInfo := pool [(1, .class_ 2), (0, u "java/lang/Comparable"), (0, .class_ 4), (0, u "java/lang/Object")] 7

/-- java/lang/Comparable -/
def k4 : Class := { plain "java/lang/Comparable" (some 0) with
  accessFlags := 1537
  interfaces := #[]
  cf := some (fileOf pool4 1 #[] #[] 1537 3 #[] #[])
  fields := #[]
  methods := #[]
  instanceTypes := #[]
  staticTypes := #[]
  resolved := Array.replicate 12 none
  statics := none }

def pool5 : Array CpInfo := pool [(1, .methodref 2 3), (0, .class_ 4), (0, .nameAndType 5 6), (0, u "java/lang/Record"), (0, u "<init>"), (0, u "()V"), (0, .string 8), (0, u "name"), (0, .methodref 10 11), (0, .class_ 12), (0, .nameAndType 13 14), (0, u "java/util/Objects"), (0, u "requireNonNull"), (0, u "(Ljava/lang/Object;Ljava/lang/String;)Ljava/lang/Object;"), (0, .fieldref 16 17), (0, .class_ 18), (0, .nameAndType 8 19), (0, u "com/example/compartment/compartment/policy/Level"), (0, u "Ljava/lang/String;"), (0, .fieldref 16 21), (0, .nameAndType 22 23), (0, u "rank"), (0, u "I"), (17, .class_ 42), (0, u "com/example/compartment/compartment/policy/LevelTerm"), (0, .class_ 44), (0, u "java/lang/Comparable"), (0, u "(Ljava/lang/String;I)V"), (3, u "atLeast"), (0, u "(Lcom/example/compartment/compartment/policy/Level;)Z")] 29

def k5c0 : Code := { maxStack := 2, maxLocals := 3, code := prog_20_method_1_code, exceptionTable := #[], attributes := #[] }
def k5m0 : Method := { name := "<init>", desc := "(Ljava/lang/String;I)V", sig := { parameters := [(.object "java/lang/String"), .int], returnType := none }, accessFlags := 1, code := some k5c0 }
def k5c1 : Code := { maxStack := 2, maxLocals := 2, code := prog_20_method_2_code, exceptionTable := #[], attributes := #[] }
def k5m1 : Method := { name := "atLeast", desc := "(Lcom/example/compartment/compartment/policy/Level;)Z", sig := { parameters := [(.object "com/example/compartment/compartment/policy/Level")], returnType := some .boolean }, accessFlags := 1, code := some k5c1 }
/-- com/example/compartment/compartment/policy/Level -/
def k5 : Class := { plain "com/example/compartment/compartment/policy/Level" (some 2) with
  accessFlags := 49
  interfaces := #[3, 4]
  cf := some (fileOf pool5 16 #[] #[{ accessFlags := 1, nameIndex := 5, descriptorIndex := 45, attributes := #[] }, { accessFlags := 1, nameIndex := 49, descriptorIndex := 50, attributes := #[] }] 49 2 #[41, 43] #[{ accessFlags := 18, nameIndex := 8, descriptorIndex := 19, attributes := #[] }, { accessFlags := 18, nameIndex := 22, descriptorIndex := 23, attributes := #[] }])
  fields := #[{ name := "name", type := (.object "java/lang/String"), accessFlags := 18, slot := 0, constantValue := 0 }, { name := "rank", type := .int, accessFlags := 18, slot := 1, constantValue := 0 }]
  methods := #[k5m0, k5m1]
  instanceTypes := #[(.object "java/lang/String"), .int]
  staticTypes := #[]
  resolved := Array.replicate 80 none
  statics := none }

def pool6 : Array CpInfo := pool [(1, .class_ 2), (0, u "java/io/Serializable"), (0, .class_ 4), (0, u "java/lang/Object")] 2

/-- java/io/Serializable -/
def k6 : Class := { plain "java/io/Serializable" (some 0) with
  accessFlags := 1537
  interfaces := #[]
  cf := some (fileOf pool6 1 #[] #[] 1537 3 #[] #[])
  fields := #[]
  methods := #[]
  instanceTypes := #[]
  staticTypes := #[]
  resolved := Array.replicate 7 none
  statics := none }

def pool7 : Array CpInfo := pool [(2, .class_ 4), (1, u "java/lang/CharSequence"), (42, .class_ 48), (0, u "java/lang/CharSequence$1CodePointIterator"), (10, .class_ 60), (0, u "java/lang/CharSequence$1CharIterator"), (5, .class_ 67), (0, u "java/lang/Object")] 63

/-- java/lang/CharSequence -/
def k7 : Class := { plain "java/lang/CharSequence" (some 0) with
  accessFlags := 1537
  interfaces := #[]
  cf := some (fileOf pool7 2 #[.nestMembers #[47, 59]] #[] 1537 66 #[] #[])
  fields := #[]
  methods := #[]
  instanceTypes := #[]
  staticTypes := #[]
  resolved := Array.replicate 131 none
  statics := none }

def pool8 : Array CpInfo := pool [(1, .class_ 2), (0, u "java/lang/constant/Constable"), (0, .class_ 4), (0, u "java/lang/Object")] 6

/-- java/lang/constant/Constable -/
def k8 : Class := { plain "java/lang/constant/Constable" (some 0) with
  accessFlags := 1537
  interfaces := #[]
  cf := some (fileOf pool8 1 #[] #[] 1537 3 #[] #[])
  fields := #[]
  methods := #[]
  instanceTypes := #[]
  staticTypes := #[]
  resolved := Array.replicate 11 none
  statics := none }

def pool9 : Array CpInfo := pool [(1, .class_ 2), (0, u "java/lang/constant/ConstantDesc"), (0, .class_ 4), (0, u "java/lang/Object")] 32

/-- java/lang/constant/ConstantDesc -/
def k9 : Class := { plain "java/lang/constant/ConstantDesc" (some 0) with
  accessFlags := 1537
  interfaces := #[]
  cf := some (fileOf pool9 1 #[] #[] 1537 3 #[] #[])
  fields := #[]
  methods := #[]
  instanceTypes := #[]
  staticTypes := #[]
  resolved := Array.replicate 37 none
  statics := none }

def pool10 : Array CpInfo := pool [(1, .methodref 2 3), (0, .class_ 4), (0, .nameAndType 5 6), (0, u "java/lang/Object"), (0, u "<init>"), (0, u "()V"), (2, .fieldref 10 11), (0, .class_ 12), (0, .nameAndType 13 14), (0, u "java/lang/String"), (0, u "value"), (0, u "[B"), (0, .fieldref 10 16), (0, .nameAndType 17 18), (0, u "coder"), (0, u "B"), (2, u "hash"), (0, u "I"), (2, u "hashIsZero"), (0, u "Z"), (0, .methodref 10 28), (0, .nameAndType 5 29), (0, u "([CIILjava/lang/Void;)V"), (8, .fieldref 10 39), (0, .nameAndType 40 26), (0, u "COMPACT_STRINGS"), (1, .class_ 44), (1, u "java/lang/StringUTF16"), (0, u "compress"), (1, .methodref 42 48), (0, .nameAndType 49 50), (0, u "coderFromArrayLen"), (0, u "([BI)B"), (126, .methodref 42 178), (0, .nameAndType 45 179), (0, u "([CII)[B"), (395, .class_ 576), (0, u "java/lang/CharSequence"), (22, u "CASE_INSENSITIVE_ORDER"), (0, u "Ljava/util/Comparator;"), (409, u "([C)V"), (90, u "serialPersistentFields"), (0, u "[Ljava/io/ObjectStreamField;"), (0, .class_ 1104), (0, u "java/lang/String$CaseInsensitiveComparator"), (1, .class_ 1107), (0, u "java/io/Serializable"), (0, .class_ 1109), (0, u "java/lang/Comparable"), (0, .class_ 1111), (0, u "java/lang/constant/Constable"), (0, .class_ 1113), (0, u "java/lang/constant/ConstantDesc"), (2, u "serialVersionUID"), (0, u "J"), (3, u "REPL"), (0, u "C"), (2, u "LATIN1"), (1, u "UTF16")] 323

def k10m0 : Method := { name := "<init>", desc := "()V", sig := { parameters := [], returnType := none }, accessFlags := 1, code := none }
def k10c1 : Code := { maxStack := 5, maxLocals := 2, code := jdk_42_method_3_code, exceptionTable := #[], attributes := #[] }
def k10m1 : Method := { name := "<init>", desc := "([C)V", sig := { parameters := [(.array .char)], returnType := none }, accessFlags := 1, code := some k10c1 }
def k10c2 : Code := { maxStack := 4, maxLocals := 6, code := jdk_42_method_149_code, exceptionTable := #[], attributes := #[] }
def k10m2 : Method := { name := "<init>", desc := "([CIILjava/lang/Void;)V", sig := { parameters := [(.array .char), .int, .int, (.object "java/lang/Void")], returnType := none }, accessFlags := 2, code := some k10c2 }
/-- java/lang/String -/
def k10 : Class := { plain "java/lang/String" (some 0) with
  accessFlags := 49
  interfaces := #[6, 4, 7, 8, 9]
  cf := some (fileOf pool10 10 #[.nestMembers #[1103]] #[{ accessFlags := 1, nameIndex := 5, descriptorIndex := 6, attributes := #[] }, { accessFlags := 1, nameIndex := 5, descriptorIndex := 1010, attributes := #[] }, { accessFlags := 2, nameIndex := 5, descriptorIndex := 29, attributes := #[] }] 49 2 #[1106, 1108, 575, 1110, 1112] #[{ accessFlags := 18, nameIndex := 13, descriptorIndex := 14, attributes := #[] }, { accessFlags := 18, nameIndex := 17, descriptorIndex := 18, attributes := #[] }, { accessFlags := 2, nameIndex := 21, descriptorIndex := 22, attributes := #[] }, { accessFlags := 2, nameIndex := 25, descriptorIndex := 26, attributes := #[] }, { accessFlags := 26, nameIndex := 1116, descriptorIndex := 1117, attributes := #[] }, { accessFlags := 24, nameIndex := 40, descriptorIndex := 26, attributes := #[] }, { accessFlags := 26, nameIndex := 1101, descriptorIndex := 1102, attributes := #[] }, { accessFlags := 26, nameIndex := 1121, descriptorIndex := 1122, attributes := #[] }, { accessFlags := 25, nameIndex := 599, descriptorIndex := 600, attributes := #[] }, { accessFlags := 24, nameIndex := 1125, descriptorIndex := 18, attributes := #[] }, { accessFlags := 24, nameIndex := 1127, descriptorIndex := 18, attributes := #[] }])
  fields := #[{ name := "value", type := (.array .byte), accessFlags := 18, slot := 0, constantValue := 0 }, { name := "coder", type := .byte, accessFlags := 18, slot := 1, constantValue := 0 }, { name := "hash", type := .int, accessFlags := 2, slot := 2, constantValue := 0 }, { name := "hashIsZero", type := .boolean, accessFlags := 2, slot := 3, constantValue := 0 }, { name := "serialVersionUID", type := .long, accessFlags := 26, slot := 0, constantValue := 0 }, { name := "COMPACT_STRINGS", type := .boolean, accessFlags := 24, slot := 1, constantValue := 0 }, { name := "serialPersistentFields", type := (.array (.object "java/io/ObjectStreamField")), accessFlags := 26, slot := 2, constantValue := 0 }, { name := "REPL", type := .char, accessFlags := 26, slot := 3, constantValue := 0 }, { name := "CASE_INSENSITIVE_ORDER", type := (.object "java/util/Comparator"), accessFlags := 25, slot := 4, constantValue := 0 }, { name := "LATIN1", type := .byte, accessFlags := 24, slot := 5, constantValue := 0 }, { name := "UTF16", type := .byte, accessFlags := 24, slot := 6, constantValue := 0 }]
  methods := #[k10m0, k10m1, k10m2]
  instanceTypes := #[(.array .byte), .byte, .int, .boolean]
  staticTypes := #[.long, .boolean, (.array (.object "java/io/ObjectStreamField")), .char, (.object "java/util/Comparator"), .byte, .byte]
  resolved := Array.replicate 1451 none
  statics := some 0 }

def pool11 : Array CpInfo := pool [(6, .class_ 8), (1, u "java/lang/Object"), (0, u "<init>"), (0, u "()V"), (1, .class_ 14), (1, u "java/lang/StringUTF16"), (31, u "$assertionsDisabled"), (0, u "Z"), (13, u "HI_BYTE_SHIFT"), (0, u "I"), (2, u "LO_BYTE_SHIFT"), (49, .methodref 12 116), (0, .nameAndType 117 118), (0, u "compress"), (0, u "([CI[BII)I"), (3, u "([CII)[B"), (138, u "coderFromArrayLen"), (0, u "([BI)B"), (106, .class_ 371), (1, u "java/lang/StringUTF16$LinesSpliterator"), (58, u "MAX_LENGTH"), (196, .class_ 628), (0, u "java/lang/StringUTF16$CodePointsSpliterator"), (0, .class_ 630), (0, u "java/lang/StringUTF16$CharsSpliterator")] 4

def k11m0 : Method := { name := "<init>", desc := "()V", sig := { parameters := [], returnType := none }, accessFlags := 0, code := none }
def k11c1 : Code := { maxStack := 2, maxLocals := 2, code := jdk_52_method_15_code, exceptionTable := #[], attributes := #[] }
def k11m1 : Method := { name := "coderFromArrayLen", desc := "([BI)B", sig := { parameters := [(.array .byte), .int], returnType := some .byte }, accessFlags := 8, code := some k11c1 }
def k11c2 : Code := { maxStack := 5, maxLocals := 6, code := jdk_52_method_16_code, exceptionTable := #[], attributes := #[] }
def k11m2 : Method := { name := "compress", desc := "([CII)[B", sig := { parameters := [(.array .char), .int, .int], returnType := some (.array .byte) }, accessFlags := 9, code := some k11c2 }
def k11c3 : Code := { maxStack := 3, maxLocals := 7, code := jdk_52_method_21_code, exceptionTable := #[], attributes := #[] }
def k11m3 : Method := { name := "compress", desc := "([CI[BII)I", sig := { parameters := [(.array .char), .int, (.array .byte), .int, .int], returnType := some .int }, accessFlags := 9, code := some k11c3 }
/-- java/lang/StringUTF16 -/
def k11 : Class := { plain "java/lang/StringUTF16" (some 0) with
  accessFlags := 48
  interfaces := #[]
  cf := some (fileOf pool11 12 #[.nestMembers #[627, 629, 369]] #[{ accessFlags := 0, nameIndex := 9, descriptorIndex := 10, attributes := #[] }, { accessFlags := 8, nameIndex := 261, descriptorIndex := 262, attributes := #[] }, { accessFlags := 9, nameIndex := 117, descriptorIndex := 122, attributes := #[] }, { accessFlags := 9, nameIndex := 117, descriptorIndex := 118, attributes := #[] }] 48 6 #[] #[{ accessFlags := 26, nameIndex := 61, descriptorIndex := 62, attributes := #[] }, { accessFlags := 26, nameIndex := 65, descriptorIndex := 62, attributes := #[] }, { accessFlags := 24, nameIndex := 430, descriptorIndex := 62, attributes := #[] }, { accessFlags := 4120, nameIndex := 46, descriptorIndex := 47, attributes := #[] }])
  fields := #[{ name := "HI_BYTE_SHIFT", type := .int, accessFlags := 26, slot := 0, constantValue := 0 }, { name := "LO_BYTE_SHIFT", type := .int, accessFlags := 26, slot := 1, constantValue := 0 }, { name := "MAX_LENGTH", type := .int, accessFlags := 24, slot := 2, constantValue := 0 }, { name := "$assertionsDisabled", type := .boolean, accessFlags := 4120, slot := 3, constantValue := 0 }]
  methods := #[k11m0, k11m1, k11m2, k11m3]
  instanceTypes := #[]
  staticTypes := #[.int, .int, .int, .boolean]
  resolved := Array.replicate 635 none
  statics := none }

def pool12 : Array CpInfo := pool [(2, .class_ 4), (1, u "java/lang/Object"), (0, u "<init>"), (0, u "()V"), (35, .class_ 44), (1, u "java/util/Objects"), (0, u "requireNonNull"), (48, u "(Ljava/lang/Object;Ljava/lang/String;)Ljava/lang/Object;")] 89

def k12m0 : Method := { name := "<init>", desc := "()V", sig := { parameters := [], returnType := none }, accessFlags := 2, code := none }
def k12c1 : Code := { maxStack := 3, maxLocals := 2, code := jdk_31_method_11_code, exceptionTable := #[], attributes := #[] }
def k12m1 : Method := { name := "requireNonNull", desc := "(Ljava/lang/Object;Ljava/lang/String;)Ljava/lang/Object;", sig := { parameters := [(.object "java/lang/Object"), (.object "java/lang/String")], returnType := some (.object "java/lang/Object") }, accessFlags := 9, code := some k12c1 }
/-- java/util/Objects -/
def k12 : Class := { plain "java/util/Objects" (some 0) with
  accessFlags := 49
  interfaces := #[]
  cf := some (fileOf pool12 42 #[] #[{ accessFlags := 2, nameIndex := 5, descriptorIndex := 6, attributes := #[] }, { accessFlags := 9, nameIndex := 45, descriptorIndex := 94, attributes := #[] }] 49 2 #[] #[])
  fields := #[]
  methods := #[k12m0, k12m1]
  instanceTypes := #[]
  staticTypes := #[]
  resolved := Array.replicate 184 none
  statics := none }

def pool13 : Array CpInfo := pool [(4, .class_ 6), (1, u "java/lang/Object"), (0, u "<init>"), (0, u "()V"), (5, .class_ 16), (1, u "java/lang/StringLatin1"), (104, u "$assertionsDisabled"), (0, u "Z"), (98, .class_ 223), (1, u "java/lang/StringLatin1$LinesSpliterator"), (166, .class_ 391), (0, u "java/lang/StringLatin1$CharsSpliterator")] 3

def k13m0 : Method := { name := "<init>", desc := "()V", sig := { parameters := [], returnType := none }, accessFlags := 0, code := none }
/-- java/lang/StringLatin1 -/
def k13 : Class := { plain "java/lang/StringLatin1" (some 0) with
  accessFlags := 48
  interfaces := #[]
  cf := some (fileOf pool13 14 #[.nestMembers #[390, 221]] #[{ accessFlags := 0, nameIndex := 7, descriptorIndex := 8, attributes := #[] }] 48 4 #[] #[{ accessFlags := 4120, nameIndex := 121, descriptorIndex := 122, attributes := #[] }])
  fields := #[{ name := "$assertionsDisabled", type := .boolean, accessFlags := 4120, slot := 0, constantValue := 0 }]
  methods := #[k13m0]
  instanceTypes := #[]
  staticTypes := #[.boolean]
  resolved := Array.replicate 395 none
  statics := none }

def pool14 : Array CpInfo := pool [(2, .class_ 4), (1, u "java/lang/Object"), (0, u "<init>"), (0, u "()V"), (17, .class_ 26), (1, u "jdk/internal/util/Preconditions"), (28, .class_ 56), (0, u "jdk/internal/util/Preconditions$4"), (57, .class_ 115), (0, u "jdk/internal/util/Preconditions$1"), (7, u "SIOOBE_FORMATTER"), (0, u "Ljava/util/function/BiFunction;"), (0, .class_ 126), (0, u "jdk/internal/util/Preconditions$2"), (3, u "AIOOBE_FORMATTER"), (0, .class_ 132), (0, u "jdk/internal/util/Preconditions$3"), (3, u "IOOBE_FORMATTER")] 57

def k14m0 : Method := { name := "<init>", desc := "()V", sig := { parameters := [], returnType := none }, accessFlags := 1, code := none }
/-- jdk/internal/util/Preconditions -/
def k14 : Class := { plain "jdk/internal/util/Preconditions" (some 0) with
  accessFlags := 33
  interfaces := #[]
  cf := some (fileOf pool14 24 #[.nestMembers #[55, 131, 125, 114]] #[{ accessFlags := 1, nameIndex := 5, descriptorIndex := 6, attributes := #[] }] 33 2 #[] #[{ accessFlags := 25, nameIndex := 123, descriptorIndex := 124, attributes := #[] }, { accessFlags := 25, nameIndex := 130, descriptorIndex := 124, attributes := #[] }, { accessFlags := 25, nameIndex := 136, descriptorIndex := 124, attributes := #[] }])
  fields := #[{ name := "SIOOBE_FORMATTER", type := (.object "java/util/function/BiFunction"), accessFlags := 25, slot := 0, constantValue := 0 }, { name := "AIOOBE_FORMATTER", type := (.object "java/util/function/BiFunction"), accessFlags := 25, slot := 1, constantValue := 0 }, { name := "IOOBE_FORMATTER", type := (.object "java/util/function/BiFunction"), accessFlags := 25, slot := 2, constantValue := 0 }]
  methods := #[k14m0]
  instanceTypes := #[]
  staticTypes := #[(.object "java/util/function/BiFunction"), (.object "java/util/function/BiFunction"), (.object "java/util/function/BiFunction")]
  resolved := Array.replicate 194 none
  statics := some 1 }

def pool15 : Array CpInfo := pool [(9, u "<init>"), (6, .class_ 18), (1, u "java/lang/Object"), (0, u "()V"), (1, .class_ 23), (1, u "jdk/internal/util/ArraysSupport"), (0, u "LOG2_ARRAY_LONG_INDEX_SCALE"), (0, u "I"), (2, u "U"), (0, u "Ljdk/internal/misc/Unsafe;"), (8, u "BIG_ENDIAN"), (0, u "Z"), (8, u "LOG2_BYTE_BIT_SIZE"), (4, u "LOG2_ARRAY_INT_INDEX_SCALE"), (54, u "JLA"), (0, u "Ljdk/internal/access/JavaLangAccess;"), (11, u "LOG2_ARRAY_BOOLEAN_INDEX_SCALE"), (9, u "LOG2_ARRAY_BYTE_INDEX_SCALE"), (5, u "LOG2_ARRAY_CHAR_INDEX_SCALE"), (5, u "LOG2_ARRAY_SHORT_INDEX_SCALE"), (18, u "LOG2_ARRAY_FLOAT_INDEX_SCALE"), (24, u "LOG2_ARRAY_DOUBLE_INDEX_SCALE"), (89, u "T_BOOLEAN"), (2, u "T_CHAR"), (1, u "T_FLOAT"), (1, u "T_DOUBLE"), (1, u "T_BYTE"), (1, u "T_SHORT"), (1, u "T_INT"), (1, u "T_LONG"), (1, u "SOFT_MAX_ARRAY_LENGTH")] 83

def k15m0 : Method := { name := "<init>", desc := "()V", sig := { parameters := [], returnType := none }, accessFlags := 2, code := none }
/-- jdk/internal/util/ArraysSupport -/
def k15 : Class := { plain "jdk/internal/util/ArraysSupport" (some 0) with
  accessFlags := 33
  interfaces := #[]
  cf := some (fileOf pool15 21 #[] #[{ accessFlags := 2, nameIndex := 9, descriptorIndex := 19, attributes := #[] }] 33 16 #[] #[{ accessFlags := 24, nameIndex := 28, descriptorIndex := 29, attributes := #[] }, { accessFlags := 26, nameIndex := 38, descriptorIndex := 39, attributes := #[] }, { accessFlags := 25, nameIndex := 121, descriptorIndex := 25, attributes := #[] }, { accessFlags := 25, nameIndex := 131, descriptorIndex := 25, attributes := #[] }, { accessFlags := 25, nameIndex := 137, descriptorIndex := 25, attributes := #[] }, { accessFlags := 25, nameIndex := 143, descriptorIndex := 25, attributes := #[] }, { accessFlags := 25, nameIndex := 53, descriptorIndex := 25, attributes := #[] }, { accessFlags := 25, nameIndex := 24, descriptorIndex := 25, attributes := #[] }, { accessFlags := 25, nameIndex := 162, descriptorIndex := 25, attributes := #[] }, { accessFlags := 25, nameIndex := 187, descriptorIndex := 25, attributes := #[] }, { accessFlags := 26, nameIndex := 48, descriptorIndex := 25, attributes := #[] }, { accessFlags := 25, nameIndex := 277, descriptorIndex := 25, attributes := #[] }, { accessFlags := 25, nameIndex := 280, descriptorIndex := 25, attributes := #[] }, { accessFlags := 25, nameIndex := 282, descriptorIndex := 25, attributes := #[] }, { accessFlags := 25, nameIndex := 284, descriptorIndex := 25, attributes := #[] }, { accessFlags := 25, nameIndex := 286, descriptorIndex := 25, attributes := #[] }, { accessFlags := 25, nameIndex := 288, descriptorIndex := 25, attributes := #[] }, { accessFlags := 25, nameIndex := 290, descriptorIndex := 25, attributes := #[] }, { accessFlags := 25, nameIndex := 292, descriptorIndex := 25, attributes := #[] }, { accessFlags := 26, nameIndex := 108, descriptorIndex := 109, attributes := #[] }, { accessFlags := 25, nameIndex := 294, descriptorIndex := 25, attributes := #[] }])
  fields := #[{ name := "U", type := (.object "jdk/internal/misc/Unsafe"), accessFlags := 24, slot := 0, constantValue := 0 }, { name := "BIG_ENDIAN", type := .boolean, accessFlags := 26, slot := 1, constantValue := 0 }, { name := "LOG2_ARRAY_BOOLEAN_INDEX_SCALE", type := .int, accessFlags := 25, slot := 2, constantValue := 0 }, { name := "LOG2_ARRAY_BYTE_INDEX_SCALE", type := .int, accessFlags := 25, slot := 3, constantValue := 0 }, { name := "LOG2_ARRAY_CHAR_INDEX_SCALE", type := .int, accessFlags := 25, slot := 4, constantValue := 0 }, { name := "LOG2_ARRAY_SHORT_INDEX_SCALE", type := .int, accessFlags := 25, slot := 5, constantValue := 0 }, { name := "LOG2_ARRAY_INT_INDEX_SCALE", type := .int, accessFlags := 25, slot := 6, constantValue := 0 }, { name := "LOG2_ARRAY_LONG_INDEX_SCALE", type := .int, accessFlags := 25, slot := 7, constantValue := 0 }, { name := "LOG2_ARRAY_FLOAT_INDEX_SCALE", type := .int, accessFlags := 25, slot := 8, constantValue := 0 }, { name := "LOG2_ARRAY_DOUBLE_INDEX_SCALE", type := .int, accessFlags := 25, slot := 9, constantValue := 0 }, { name := "LOG2_BYTE_BIT_SIZE", type := .int, accessFlags := 26, slot := 10, constantValue := 0 }, { name := "T_BOOLEAN", type := .int, accessFlags := 25, slot := 11, constantValue := 0 }, { name := "T_CHAR", type := .int, accessFlags := 25, slot := 12, constantValue := 0 }, { name := "T_FLOAT", type := .int, accessFlags := 25, slot := 13, constantValue := 0 }, { name := "T_DOUBLE", type := .int, accessFlags := 25, slot := 14, constantValue := 0 }, { name := "T_BYTE", type := .int, accessFlags := 25, slot := 15, constantValue := 0 }, { name := "T_SHORT", type := .int, accessFlags := 25, slot := 16, constantValue := 0 }, { name := "T_INT", type := .int, accessFlags := 25, slot := 17, constantValue := 0 }, { name := "T_LONG", type := .int, accessFlags := 25, slot := 18, constantValue := 0 }, { name := "JLA", type := (.object "jdk/internal/access/JavaLangAccess"), accessFlags := 26, slot := 19, constantValue := 0 }, { name := "SOFT_MAX_ARRAY_LENGTH", type := .int, accessFlags := 25, slot := 20, constantValue := 0 }]
  methods := #[k15m0]
  instanceTypes := #[]
  staticTypes := #[(.object "jdk/internal/misc/Unsafe"), .boolean, .int, .int, .int, .int, .int, .int, .int, .int, .int, .int, .int, .int, .int, .int, .int, .int, .int, (.object "jdk/internal/access/JavaLangAccess"), .int]
  resolved := Array.replicate 378 none
  statics := none }

def pool16 : Array CpInfo := pool [(1, u "java/lang/Cloneable"), (0, .class_ 1), (0, u "java/lang/Object"), (0, .class_ 3)] 3

/-- java/lang/Cloneable -/
def k16 : Class := { plain "java/lang/Cloneable" (some 0) with
  accessFlags := 1537
  interfaces := #[]
  cf := some (fileOf pool16 2 #[] #[] 1537 4 #[] #[])
  fields := #[]
  methods := #[]
  instanceTypes := #[]
  staticTypes := #[]
  resolved := Array.replicate 8 none
  statics := none }

/-- the primitive byte -/
def k17 : Class := { plain "byte" none with kind := .primitive 'B', accessFlags := 0x411 }
/-- [B -/
def k18 : Class := { plain "[B" (some 0) with kind := .array 17 .byte, interfaces := #[16, 6], accessFlags := 1041 }

/-- the primitive char -/
def k19 : Class := { plain "char" none with kind := .primitive 'C', accessFlags := 0x411 }
/-- [C -/
def k20 : Class := { plain "[C" (some 0) with kind := .array 19 .char, interfaces := #[16, 6], accessFlags := 1041 }

/-- the primitive int -/
def k21 : Class := { plain "int" none with kind := .primitive 'I', accessFlags := 0x411 }
/-- [I -/
def k22 : Class := { plain "[I" (some 0) with kind := .array 21 .int, interfaces := #[16, 6], accessFlags := 1041 }

def heap : Heap := #[{ cls := 10, slots := #[.long 0, .int 1, .null, .int 0, .null, .int 0, .int 0], vm := .statics 10 },
  { cls := 14, slots := #[.null, .null, .null], vm := .statics 14 }]
def classes : Array Class := #[k0, k1, k2, k3, k4, k5, k6, k7, k8, k9, k10, k11, k12, k13, k14, k15, k16, k17, k18, k19, k20, k21, k22]
def interned : List (Array UInt16 × Addr) := []
def slotsUsed : Nat := 10
def theMethod : MethodId := ⟨1, 2⟩
def args0 : Array Value := #[.int 5, .int 7, .int 65, .int 66, .int 67]
def aboutOver (below : List Frame) : State where
  vm := { classes := classes, interned := interned.toArray }
  heap := heap
  slotsUsed := slotsUsed
  threads := #[{ frames := .invoking theMethod args0 :: below }]
def below0 : List Frame := [.native { method := ⟨0, 0⟩, args := #[] }]
def about1 : State := aboutOver below0
def p0 : Program := .bare "" "" ""
def e0 : Env := launch0.env 0 0 0
theorem w_frames : about1.frames = Frame.invoking theMethod args0 :: below0 := rfl
set_option maxRecDepth 65536 in
theorem w_args : argsFit about1.vm theMethod args0 = true := by decide +kernel
set_option maxRecDepth 65536 in
theorem w_heap : heapFits about1 = true := by decide +kernel
set_option maxRecDepth 65536 in
theorem w_runnable : about1.curStatus? = some .runnable := by decide +kernel
set_option maxRecDepth 65536 in
theorem w_alone : about1.alone = true := by decide +kernel
set_option maxRecDepth 65536 in
theorem w_named : about1.methodNamed? x = some theMethod := by decide +kernel
set_option maxRecDepth 65536 in
theorem w_hears : about1.hears theMethod below0 = true := by decide +kernel
set_option maxRecDepth 65536 in
theorem w_ripe : about1.ripe theMethod args0 below0 = true := by decide +kernel
theorem w_running : about1.status = .running := rfl
set_option maxRecDepth 65536 in
theorem w_room : about1.hasRoom e0.platform room_1 = true :=
  launch0.hasRoom_least _ room_1 (by decide +kernel) (by decide +kernel) (by decide +kernel) (by decide +kernel) (by decide +kernel) (by decide +kernel)
theorem allAtoms_all (ts : List Jvm.Cond) (a : Array Jvm.Value) (st : Jvm.State) : (allAtoms ts).before a st = ts.all (fun c => c.before a st) := by
  induction ts with
  | nil => rfl
  | cons c t ih =>
    show (Jvm.Cond.and c (allAtoms t)).before a st = _
    rw [Jvm.Cond.before_and, ih, List.all_cons]
def words1 : List Jvm.Cond := Jvm.Cond.code x code maxLocals ret :: tables_1
/-- a 'code' word, met by the world's own term for the bytes: nothing is compared byte by byte -/
theorem code_word {y : MethodName} {bytes : ByteArray} {mx : Nat} {rt : Option FieldType} {a : Array Value} {s : State} {m : MethodId} {meth : Method} {c : Code} (h1 : s.methodNamed? y = some m) (h2 : s.vm.method? m = some meth) (h3 : meth.code = some c) (h4 : c.code = bytes)
    (h5 : (c.maxLocals == mx && c.exceptionTable.isEmpty && decide (c.maxStack ≤ mostOperands) && decide (meth.sig.returnType = rt) && !meth.locks && decide (parseMethodDescriptor y.desc = some meth.sig)) = true) : (Jvm.Cond.code y bytes mx rt).before a s = true := by
  simp only [Bool.and_eq_true, beq_iff_eq, Bool.not_eq_true', decide_eq_true_eq] at h5
  obtain ⟨⟨⟨⟨⟨g1, g2⟩, g3⟩, g4⟩, g5⟩, g6⟩ := h5
  simp [Cond.before, Cond.holds, Cond.value, h1, h2, h3, h4, g1, g2, g3, g4, g5, g6]
def isCode : Jvm.Cond → Bool
  | .code _ _ _ _ => true
  | _ => false
theorem all_split {L : List Jvm.Cond} {P : Jvm.Cond → Bool} (h1 : L.all (fun c => isCode c || P c) = true) (h2 : ∀ c ∈ L.filter isCode, P c = true) : L.all P = true := by
  refine List.all_eq_true.mpr fun c hc => ?_
  have h := List.all_eq_true.mp h1 c hc
  rcases Bool.eq_false_or_eq_true (isCode c) with hi | hi
  · exact h2 c (List.mem_filter.mpr ⟨hc, hi⟩)
  · simpa [hi] using h
set_option maxRecDepth 65536 in
theorem w_c0 : (Jvm.Cond.code x code maxLocals ret).before args0 about1 = true := code_word (m := ⟨1, 2⟩) (meth := k1m2) (c := k1c2) (by decide +kernel) rfl rfl rfl (by decide +kernel)
set_option maxRecDepth 65536 in
theorem w_c1 : (Jvm.Cond.code ({ cls := "java/lang/String", name := "<init>", desc := "([C)V" } : Jvm.MethodName) jdk_42_method_3_code (2 : Nat) (Option.none : Option Jvm.ClassFile.FieldType)).before args0 about1 = true := code_word (m := ⟨10, 1⟩) (meth := k10m1) (c := k10c1) (by decide +kernel) rfl rfl rfl (by decide +kernel)
set_option maxRecDepth 65536 in
theorem w_c2 : (Jvm.Cond.code ({ cls := "java/lang/String", name := "<init>", desc := "([CIILjava/lang/Void;)V" } : Jvm.MethodName) jdk_42_method_149_code (6 : Nat) (Option.none : Option Jvm.ClassFile.FieldType)).before args0 about1 = true := code_word (m := ⟨10, 2⟩) (meth := k10m2) (c := k10c2) (by decide +kernel) rfl rfl rfl (by decide +kernel)
set_option maxRecDepth 65536 in
theorem w_c3 : (Jvm.Cond.code ({ cls := "java/lang/Object", name := "<init>", desc := "()V" } : Jvm.MethodName) object_method_1_code (1 : Nat) (Option.none : Option Jvm.ClassFile.FieldType)).before args0 about1 = true := code_word (m := ⟨0, 0⟩) (meth := k0m0) (c := k0c0) (by decide +kernel) rfl rfl rfl (by decide +kernel)
set_option maxRecDepth 65536 in
theorem w_c4 : (Jvm.Cond.code ({ cls := "java/lang/StringUTF16", name := "compress", desc := "([CII)[B" } : Jvm.MethodName) jdk_52_method_16_code (6 : Nat) (Option.some (Jvm.ClassFile.FieldType.array Jvm.ClassFile.FieldType.byte))).before args0 about1 = true := code_word (m := ⟨11, 2⟩) (meth := k11m2) (c := k11c2) (by decide +kernel) rfl rfl rfl (by decide +kernel)
set_option maxRecDepth 65536 in
theorem w_c5 : (Jvm.Cond.code ({ cls := "java/lang/StringUTF16", name := "compress", desc := "([CI[BII)I" } : Jvm.MethodName) jdk_52_method_21_code (7 : Nat) (Option.some Jvm.ClassFile.FieldType.int)).before args0 about1 = true := code_word (m := ⟨11, 3⟩) (meth := k11m3) (c := k11c3) (by decide +kernel) rfl rfl rfl (by decide +kernel)
set_option maxRecDepth 65536 in
theorem w_c6 : (Jvm.Cond.code ({ cls := "java/lang/StringUTF16", name := "coderFromArrayLen", desc := "([BI)B" } : Jvm.MethodName) jdk_52_method_15_code (2 : Nat) (Option.some Jvm.ClassFile.FieldType.byte)).before args0 about1 = true := code_word (m := ⟨11, 1⟩) (meth := k11m1) (c := k11c1) (by decide +kernel) rfl rfl rfl (by decide +kernel)
set_option maxRecDepth 65536 in
theorem w_c7 : (Jvm.Cond.code ({ cls := "com/example/compartment/compartment/policy/Level", name := "<init>", desc := "(Ljava/lang/String;I)V" } : Jvm.MethodName) prog_20_method_1_code (3 : Nat) (Option.none : Option Jvm.ClassFile.FieldType)).before args0 about1 = true := code_word (m := ⟨5, 0⟩) (meth := k5m0) (c := k5c0) (by decide +kernel) rfl rfl rfl (by decide +kernel)
set_option maxRecDepth 65536 in
theorem w_c8 : (Jvm.Cond.code ({ cls := "java/lang/Record", name := "<init>", desc := "()V" } : Jvm.MethodName) jdk_30_method_1_code (1 : Nat) (Option.none : Option Jvm.ClassFile.FieldType)).before args0 about1 = true := code_word (m := ⟨2, 0⟩) (meth := k2m0) (c := k2c0) (by decide +kernel) rfl rfl rfl (by decide +kernel)
set_option maxRecDepth 65536 in
theorem w_c9 : (Jvm.Cond.code ({ cls := "java/util/Objects", name := "requireNonNull", desc := "(Ljava/lang/Object;Ljava/lang/String;)Ljava/lang/Object;" } : Jvm.MethodName) jdk_31_method_11_code (2 : Nat) (Option.some (Jvm.ClassFile.FieldType.object "java/lang/Object"))).before args0 about1 = true := code_word (m := ⟨12, 1⟩) (meth := k12m1) (c := k12c1) (by decide +kernel) rfl rfl rfl (by decide +kernel)
set_option maxRecDepth 65536 in
theorem w_c10 : (Jvm.Cond.code ({ cls := "com/example/compartment/compartment/policy/Level", name := "atLeast", desc := "(Lcom/example/compartment/compartment/policy/Level;)Z" } : Jvm.MethodName) prog_20_method_2_code (2 : Nat) (Option.some Jvm.ClassFile.FieldType.boolean)).before args0 about1 = true := code_word (m := ⟨5, 1⟩) (meth := k5m1) (c := k5c1) (by decide +kernel) rfl rfl rfl (by decide +kernel)
set_option maxRecDepth 65536 in
theorem w_c11 : (Jvm.Cond.code ({ cls := "com/example/compartment/compartment/policy/LevelAtLeastPinLaw", name := "dominatesRef", desc := "(II)Z" } : Jvm.MethodName) method_2_code (4 : Nat) (Option.some Jvm.ClassFile.FieldType.boolean)).before args0 about1 = true := code_word (m := ⟨1, 1⟩) (meth := k1m1) (c := k1c1) (by decide +kernel) rfl rfl rfl (by decide +kernel)
def codes1 : List Jvm.Cond := [Jvm.Cond.code x code maxLocals ret, Jvm.Cond.code ({ cls := "java/lang/String", name := "<init>", desc := "([C)V" } : Jvm.MethodName) jdk_42_method_3_code (2 : Nat) (Option.none : Option Jvm.ClassFile.FieldType), Jvm.Cond.code ({ cls := "java/lang/String", name := "<init>", desc := "([CIILjava/lang/Void;)V" } : Jvm.MethodName) jdk_42_method_149_code (6 : Nat) (Option.none : Option Jvm.ClassFile.FieldType), Jvm.Cond.code ({ cls := "java/lang/Object", name := "<init>", desc := "()V" } : Jvm.MethodName) object_method_1_code (1 : Nat) (Option.none : Option Jvm.ClassFile.FieldType), Jvm.Cond.code ({ cls := "java/lang/StringUTF16", name := "compress", desc := "([CII)[B" } : Jvm.MethodName) jdk_52_method_16_code (6 : Nat) (Option.some (Jvm.ClassFile.FieldType.array Jvm.ClassFile.FieldType.byte)), Jvm.Cond.code ({ cls := "java/lang/StringUTF16", name := "compress", desc := "([CI[BII)I" } : Jvm.MethodName) jdk_52_method_21_code (7 : Nat) (Option.some Jvm.ClassFile.FieldType.int), Jvm.Cond.code ({ cls := "java/lang/StringUTF16", name := "coderFromArrayLen", desc := "([BI)B" } : Jvm.MethodName) jdk_52_method_15_code (2 : Nat) (Option.some Jvm.ClassFile.FieldType.byte), Jvm.Cond.code ({ cls := "com/example/compartment/compartment/policy/Level", name := "<init>", desc := "(Ljava/lang/String;I)V" } : Jvm.MethodName) prog_20_method_1_code (3 : Nat) (Option.none : Option Jvm.ClassFile.FieldType), Jvm.Cond.code ({ cls := "java/lang/Record", name := "<init>", desc := "()V" } : Jvm.MethodName) jdk_30_method_1_code (1 : Nat) (Option.none : Option Jvm.ClassFile.FieldType), Jvm.Cond.code ({ cls := "java/util/Objects", name := "requireNonNull", desc := "(Ljava/lang/Object;Ljava/lang/String;)Ljava/lang/Object;" } : Jvm.MethodName) jdk_31_method_11_code (2 : Nat) (Option.some (Jvm.ClassFile.FieldType.object "java/lang/Object")), Jvm.Cond.code ({ cls := "com/example/compartment/compartment/policy/Level", name := "atLeast", desc := "(Lcom/example/compartment/compartment/policy/Level;)Z" } : Jvm.MethodName) prog_20_method_2_code (2 : Nat) (Option.some Jvm.ClassFile.FieldType.boolean), Jvm.Cond.code ({ cls := "com/example/compartment/compartment/policy/LevelAtLeastPinLaw", name := "dominatesRef", desc := "(II)Z" } : Jvm.MethodName) method_2_code (4 : Nat) (Option.some Jvm.ClassFile.FieldType.boolean)]
set_option maxRecDepth 65536 in
theorem codes_eq : words1.filter isCode = codes1 := rfl
theorem w_codes : ∀ c ∈ words1.filter isCode, c.before args0 about1 = true := by
  rw [codes_eq]
  intro c hc
  simp only [codes1, List.mem_cons, List.not_mem_nil, or_false] at hc
  rcases hc with rfl | rfl | rfl | rfl | rfl | rfl | rfl | rfl | rfl | rfl | rfl | rfl
  · exact w_c0
  · exact w_c1
  · exact w_c2
  · exact w_c3
  · exact w_c4
  · exact w_c5
  · exact w_c6
  · exact w_c7
  · exact w_c8
  · exact w_c9
  · exact w_c10
  · exact w_c11
set_option maxRecDepth 65536 in
theorem w_t1 : (words1.take 24).all (fun c => isCode c || c.before args0 about1) = true := by decide +kernel
set_option maxRecDepth 65536 in
theorem w_t2 : ((words1.drop 24).take 24).all (fun c => isCode c || c.before args0 about1) = true := by decide +kernel
set_option maxRecDepth 65536 in
theorem w_t3 : ((words1.drop 24).drop 24).all (fun c => isCode c || c.before args0 about1) = true := by decide +kernel
theorem w_tables : (allAtoms (Jvm.Cond.code x code maxLocals ret :: tables_1)).before args0 about1 = true := by
  rw [allAtoms_all]
  show words1.all (fun c => c.before args0 about1) = true
  refine all_split ?_ w_codes
  rw [← List.take_append_drop 24 words1, List.all_append, w_t1, ← List.take_append_drop 24 (words1.drop 24), List.all_append, w_t2, w_t3]
  rfl
set_option maxRecDepth 65536 in
theorem w_rest : rest_1_c.before args0 about1 = true := by decide +kernel
set_option maxRecDepth 65536 in
theorem w_case : (Jvm.Cond.and given_1 narrow_1).before args0 about1 = true := by decide +kernel
theorem w_applies : (headSpec (Jvm.Cond.code x code maxLocals ret :: tables_1) room_1).applies x e0.platform about1 = true :=
  (Spec.applies_iff w_frames).mpr ⟨w_running, w_runnable, w_alone, w_named, w_hears, w_ripe, w_room, w_tables⟩
theorem atStart : AtStart classFile x code maxLocals ret World_1 tables_1 room_1 Calls_1 rest_1 Pre_1 launch0 p0 e0 about1 theMethod args0 below0 :=
  ⟨lists_1, trivial, launch0.admits_env _ _ _, launch0.least_env, fairChoices_fair.cas, fairChoices_fair.clock, w_frames, w_args, w_heap, w_applies, trivial, w_rest, w_case⟩
end start1
theorem witness_1 : WitnessClaimed_1 := ⟨start1.p0, start1.e0, start1.about1, start1.theMethod, start1.args0, start1.below0, start1.atStart⟩
end Jvm.Pilot.@@N@@

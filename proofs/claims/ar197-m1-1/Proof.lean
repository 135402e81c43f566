import JvmDerived
import JvmDerived.Pilot.@@N@@Statement
import JvmDerived.Pilot.@@N@@Code
set_option linter.unusedVariables false
set_option linter.unusedSimpArgs false
namespace Jvm.RoadKit
open Sem ClassFile Op Lib Jvm.Stand Jvm.Free Jvm.LawKit
section New
variable {p : Program} {l : Launch} {e : Env} {R : Room} {s : State} {m : MethodId} {args : Array Value} {below : List Frame} {meth : Method} {c : Code} {T : State} {locs : List Loc} {cells slots : Nat}
theorem retI (X : Stand p l e R s m args below meth c T locs cells slots) (hx : p.tables.exec = Jvm.exec) {pc : Nat} {Ls : Array Slot} {z : Int32} {rest : List Value} (hret : meth.sig.returnType = some .int) (hd : decode c.code pc = .ok (.ireturn, 1)) {fs : List Frame}
    (hl : ∀ (f : JFrame) (acts : List Action), f.method = m → f.locked = none → f.entered = [] → (doReturn e (T.setTop f) acts (some (.int z))).1 = T.setFrames fs) : Steps p.tables e below (T.setTop (mkF m pc Ls (.int z :: rest))) (T.setFrames fs) := by
  have hm' : T.vm.method? m = some meth := X.method'
  have hn : narrow .int (.int z) = .int z := rfl
  show Steps p.tables e below (T.setTop { method := m, pc := pc, locals := Ls, stack := _ :: rest, locked := none }) _
  jvm_step X.here [X.here.top, hx, hd, hm', hret, hn]
  first | (intro acts; rw [hl _ acts rfl rfl rfl]) | rw [hl _ _ rfl rfl rfl]
  exact Steps.refl _
end New
end Jvm.RoadKit
namespace Jvm.Pilot.@@N@@
open Jvm Jvm.ClassFile Sem Op Lib Jvm.Free Jvm.Stand Jvm.LawKit Jvm.RoadKit Bundle Jvm.Pilot.@@N@@.Jvm.D
theorem d1_0 : decode prog_52_method_2_code 0 = .ok (.aload_n 0, 1) := by decide +kernel
theorem d1_1 : decode prog_52_method_2_code 1 = .ok (.iload_n 1, 1) := by decide +kernel
theorem d1_2 : decode prog_52_method_2_code 2 = .ok (.baload, 1) := by decide +kernel
theorem d1_3 : decode prog_52_method_2_code 3 = .ok (.sipush 255, 3) := by decide +kernel
theorem d1_6 : decode prog_52_method_2_code 6 = .ok (.iand, 1) := by decide +kernel
theorem d1_7 : decode prog_52_method_2_code 7 = .ok (.aload_n 0, 1) := by decide +kernel
theorem d1_8 : decode prog_52_method_2_code 8 = .ok (.iload_n 1, 1) := by decide +kernel
theorem d1_9 : decode prog_52_method_2_code 9 = .ok (.iconst 1, 1) := by decide +kernel
theorem d1_10 : decode prog_52_method_2_code 10 = .ok (.iadd, 1) := by decide +kernel
theorem d1_11 : decode prog_52_method_2_code 11 = .ok (.baload, 1) := by decide +kernel
theorem d1_12 : decode prog_52_method_2_code 12 = .ok (.sipush 255, 3) := by decide +kernel
theorem d1_15 : decode prog_52_method_2_code 15 = .ok (.iand, 1) := by decide +kernel
theorem d1_16 : decode prog_52_method_2_code 16 = .ok (.bipush 8, 2) := by decide +kernel
theorem d1_18 : decode prog_52_method_2_code 18 = .ok (.ishl, 1) := by decide +kernel
theorem d1_19 : decode prog_52_method_2_code 19 = .ok (.ior, 1) := by decide +kernel
theorem d1_20 : decode prog_52_method_2_code 20 = .ok (.aload_n 0, 1) := by decide +kernel
theorem d1_21 : decode prog_52_method_2_code 21 = .ok (.iload_n 1, 1) := by decide +kernel
theorem d1_22 : decode prog_52_method_2_code 22 = .ok (.iconst 2, 1) := by decide +kernel
theorem d1_23 : decode prog_52_method_2_code 23 = .ok (.iadd, 1) := by decide +kernel
theorem d1_24 : decode prog_52_method_2_code 24 = .ok (.baload, 1) := by decide +kernel
theorem d1_25 : decode prog_52_method_2_code 25 = .ok (.sipush 255, 3) := by decide +kernel
theorem d1_28 : decode prog_52_method_2_code 28 = .ok (.iand, 1) := by decide +kernel
theorem d1_29 : decode prog_52_method_2_code 29 = .ok (.bipush 16, 2) := by decide +kernel
theorem d1_31 : decode prog_52_method_2_code 31 = .ok (.ishl, 1) := by decide +kernel
theorem d1_32 : decode prog_52_method_2_code 32 = .ok (.ior, 1) := by decide +kernel
theorem d1_33 : decode prog_52_method_2_code 33 = .ok (.aload_n 0, 1) := by decide +kernel
theorem d1_34 : decode prog_52_method_2_code 34 = .ok (.iload_n 1, 1) := by decide +kernel
theorem d1_35 : decode prog_52_method_2_code 35 = .ok (.iconst 3, 1) := by decide +kernel
theorem d1_36 : decode prog_52_method_2_code 36 = .ok (.iadd, 1) := by decide +kernel
theorem d1_37 : decode prog_52_method_2_code 37 = .ok (.baload, 1) := by decide +kernel
theorem d1_38 : decode prog_52_method_2_code 38 = .ok (.bipush 24, 2) := by decide +kernel
theorem d1_40 : decode prog_52_method_2_code 40 = .ok (.ishl, 1) := by decide +kernel
theorem d1_41 : decode prog_52_method_2_code 41 = .ok (.ior, 1) := by decide +kernel
theorem d1_42 : decode prog_52_method_2_code 42 = .ok (.ireturn, 1) := by decide +kernel
theorem pn_1 : plainName "com/example/lean_courier/leancourier/compression/LittleEndian" = true := by first | (simp [plainName, overriddenIn]; done) | decide +kernel
theorem ef_1 (m : MethodId) (x0 : Addr) (x1 : Int32) : entryFrame m #[(.ref x0), (.int x1)] 2 = mkF m 0 #[.val (.ref x0), .val (.int x1)] [] := by first | (simp [entryFrame, mkF, argsToLocals, Value.category]; done) | rfl
def Q1 (Z : State) (a1 : Addr) (p2 : Int32) (w3 : Int32) (cl_a1 : Cell) (w4 : Int32) (w5 : Int32) (w6 : Int32) (h0 : Heap) (n0 : Nat) (v : Option Value) (h : Heap) (L : List Loc) : Prop := v = some (.int ((((w3 &&& (255 : Int32)) ||| ((w4 &&& (255 : Int32)) <<< ((8 : Int32) &&& 31))) ||| ((w5 &&& (255 : Int32)) <<< ((16 : Int32) &&& 31))) ||| (w6 <<< ((24 : Int32) &&& 31)))) ∧ Fr n0 L ∧ h = h0
set_option maxRecDepth 65536 in
set_option maxHeartbeats 40000000 in
theorem rm1 (l : Launch) (Z : State) (a0 : Array Value) (hw : ∀ d ∈ tables_1, d.before a0 Z = true) (ws : List Jvm.Cond) (a1 : Addr) (p2 : Int32) (w3 : Int32) (cl_a1 : Cell) (w4 : Int32) (w5 : Int32) (w6 : Int32) (h0 : Heap) (n0 : Nat) (Z0 : n0 ≤ h0.size) (Ar_a1 : Arr Z h0 a1 cl_a1 .byte) (hin2 : ¬ (p2 < 0 ∨ cl_a1.slots.size ≤ (p2).toNatClampNeg)) (hat2 : cl_a1.slots[(p2).toNatClampNeg]? = some (.int w3)) (hin11 : ¬ ((p2 + (1 : Int32)) < 0 ∨ cl_a1.slots.size ≤ ((p2 + (1 : Int32))).toNatClampNeg)) (hat11 : cl_a1.slots[((p2 + (1 : Int32))).toNatClampNeg]? = some (.int w4)) (hin24 : ¬ ((p2 + (2 : Int32)) < 0 ∨ cl_a1.slots.size ≤ ((p2 + (2 : Int32))).toNatClampNeg)) (hat24 : cl_a1.slots[((p2 + (2 : Int32))).toNatClampNeg]? = some (.int w5)) (hin37 : ¬ ((p2 + (3 : Int32)) < 0 ∨ cl_a1.slots.size ≤ ((p2 + (3 : Int32))).toNatClampNeg)) (hat37 : cl_a1.slots[((p2 + (3 : Int32))).toNatClampNeg]? = some (.int w6)) :
    MetFree l (⟨"com/example/lean_courier/leancourier/compression/LittleEndian", "intAt", "([BI)I"⟩ : MethodName) (head1 (Jvm.Cond.code (⟨"com/example/lean_courier/leancourier/compression/LittleEndian", "intAt", "([BI)I"⟩ : MethodName) prog_52_method_2_code 2 (some .int) :: ws) ({ frames := 0, cells := 0, slots := 0, locals := 0 } : Room)) (fun a U => a = #[(.ref a1), (.int p2)] ∧ Z.Warmed39 U.vm ∧ U.heap = h0) (fun _ _ _ _ _ => True) (fun _ U o U' => ∃ v L, o = .returned v ∧ Q1 Z a1 p2 w3 cl_a1 w4 w5 w6 h0 n0 v U'.heap L ∧ FrameEnd U o U' L ({ frames := 0, cells := 0, slots := 0, locals := 0 } : Room).cells ({ frames := 0, cells := 0, slots := 0, locals := 0 } : Room).slots) := by
  refine MetFree.of_bodySF (plainFor_of_name pn_1) hisR ?_
  intro p e s m args below meth c s₁ Bd hml0 hP hK
  obtain ⟨rfl, hZ, hh⟩ := hP
  have hx := Bd.exec
  have hby := Bd.bytes
  have hml : c.maxLocals = 2 := hml0
  have hown : s.vm.findClass "com/example/lean_courier/leancourier/compression/LittleEndian" = some m.cls := findClass_of_methodNamed Bd.named
  have hnm := (name_of_methodNamed Bd.named Bd.method).1
  have X0 : Stand p l e ({ frames := 0, cells := 0, slots := 0, locals := 0 } : Room) s m #[(.ref a1), (.int p2)] below meth c s₁ [] 0 0 := Stand.of_body Bd
  have e0 : s₁.heap = h0 := by rw [← hh, Bd.state]; rfl
  have N0 := Fr.nil n0
  have pre0 : ∀ t, Steps p.tables e below (s₁.setTop (mkF m 0 #[.val (.ref a1), .val (.int p2)] [])) t → Steps p.tables e below (s₁.setTop (entryFrame m #[(.ref a1), (.int p2)] 2)) t := fun t k => castTop (ef_1 m a1 p2) k
  -- 3. LAWS

  obtain ⟨fs, hr, hrun, hended, hW, hsame⟩ := X0.leave (v := some (.int ((((w3 &&& (255 : Int32)) ||| ((w4 &&& (255 : Int32)) <<< ((8 : Int32) &&& 31))) ||| ((w5 &&& (255 : Int32)) <<< ((16 : Int32) &&& 31))) ||| (w6 <<< ((24 : Int32) &&& 31))))) (fun h => by rw [Bd.returns] at h; cases h)
  refine ⟨_, _, pre0 _ ?_, hrun, hended, _, _, rfl, ?_, ⟨_, rfl⟩, hW, hsame.mono (by decide) (by decide)⟩
  -- 4. STEPS
  · show Steps p.tables e below (s₁.setTop (mkF m 0 #[.val (.ref a1), .val (.int p2)] [])) _
    refine XS.aloadN X0.here hx rfl (hb hby d1_0) rfl rfl ?_
    show Steps p.tables e below (s₁.setTop (mkF m 1 #[.val (.ref a1), .val (.int p2)] [(.ref a1)])) _
    refine XS.iloadN X0.here hx rfl (hb hby d1_1) rfl ?_
    show Steps p.tables e below (s₁.setTop (mkF m 2 #[.val (.ref a1), .val (.int p2)] [(.int p2), (.ref a1)])) _
    refine X0.baloadBytes hx (j := p2) (v := (.int w3)) (by rw [e0]; exact Ar_a1.1) (State.isArrayOf_alike hZ.alike Ar_a1.2.1) Ar_a1.2.2 hin2 hat2 (g := (mkF m 2 #[.val (.ref a1), .val (.int p2)] [(.int p2), (.ref a1)])) rfl rfl (hb hby d1_2) _ ?_
    show Steps p.tables e below (s₁.setTop (mkF m 3 #[.val (.ref a1), .val (.int p2)] [(.int w3)])) _
    refine XS.sipush X0.here hx rfl (hb hby d1_3) ?_
    show Steps p.tables e below (s₁.setTop (mkF m 6 #[.val (.ref a1), .val (.int p2)] [(.int (255 : Int32)), (.int w3)])) _
    refine XS.iand X0.here hx rfl (hb hby d1_6) rfl ?_
    show Steps p.tables e below (s₁.setTop (mkF m 7 #[.val (.ref a1), .val (.int p2)] [(.int (w3 &&& (255 : Int32)))])) _
    refine XS.aloadN X0.here hx rfl (hb hby d1_7) rfl rfl ?_
    show Steps p.tables e below (s₁.setTop (mkF m 8 #[.val (.ref a1), .val (.int p2)] [(.ref a1), (.int (w3 &&& (255 : Int32)))])) _
    refine XS.iloadN X0.here hx rfl (hb hby d1_8) rfl ?_
    show Steps p.tables e below (s₁.setTop (mkF m 9 #[.val (.ref a1), .val (.int p2)] [(.int p2), (.ref a1), (.int (w3 &&& (255 : Int32)))])) _
    refine XS.iconst X0.here hx rfl (hb hby d1_9) ?_
    show Steps p.tables e below (s₁.setTop (mkF m 10 #[.val (.ref a1), .val (.int p2)] [(.int (1 : Int32)), (.int p2), (.ref a1), (.int (w3 &&& (255 : Int32)))])) _
    refine XS.iadd X0.here hx rfl (hb hby d1_10) rfl ?_
    show Steps p.tables e below (s₁.setTop (mkF m 11 #[.val (.ref a1), .val (.int p2)] [(.int (p2 + (1 : Int32))), (.ref a1), (.int (w3 &&& (255 : Int32)))])) _
    refine X0.baloadBytes hx (j := (p2 + (1 : Int32))) (v := (.int w4)) (by rw [e0]; exact Ar_a1.1) (State.isArrayOf_alike hZ.alike Ar_a1.2.1) Ar_a1.2.2 hin11 hat11 (g := (mkF m 11 #[.val (.ref a1), .val (.int p2)] [(.int (p2 + (1 : Int32))), (.ref a1), (.int (w3 &&& (255 : Int32)))])) rfl rfl (hb hby d1_11) _ ?_
    show Steps p.tables e below (s₁.setTop (mkF m 12 #[.val (.ref a1), .val (.int p2)] [(.int w4), (.int (w3 &&& (255 : Int32)))])) _
    refine XS.sipush X0.here hx rfl (hb hby d1_12) ?_
    show Steps p.tables e below (s₁.setTop (mkF m 15 #[.val (.ref a1), .val (.int p2)] [(.int (255 : Int32)), (.int w4), (.int (w3 &&& (255 : Int32)))])) _
    refine XS.iand X0.here hx rfl (hb hby d1_15) rfl ?_
    show Steps p.tables e below (s₁.setTop (mkF m 16 #[.val (.ref a1), .val (.int p2)] [(.int (w4 &&& (255 : Int32))), (.int (w3 &&& (255 : Int32)))])) _
    refine XS.bipush X0.here hx rfl (hb hby d1_16) ?_
    show Steps p.tables e below (s₁.setTop (mkF m 18 #[.val (.ref a1), .val (.int p2)] [(.int (8 : Int32)), (.int (w4 &&& (255 : Int32))), (.int (w3 &&& (255 : Int32)))])) _
    refine XS.ishl X0.here hx rfl (hb hby d1_18) rfl ?_
    show Steps p.tables e below (s₁.setTop (mkF m 19 #[.val (.ref a1), .val (.int p2)] [(.int ((w4 &&& (255 : Int32)) <<< ((8 : Int32) &&& 31))), (.int (w3 &&& (255 : Int32)))])) _
    refine XS.ior X0.here hx rfl (hb hby d1_19) rfl ?_
    show Steps p.tables e below (s₁.setTop (mkF m 20 #[.val (.ref a1), .val (.int p2)] [(.int ((w3 &&& (255 : Int32)) ||| ((w4 &&& (255 : Int32)) <<< ((8 : Int32) &&& 31))))])) _
    refine XS.aloadN X0.here hx rfl (hb hby d1_20) rfl rfl ?_
    show Steps p.tables e below (s₁.setTop (mkF m 21 #[.val (.ref a1), .val (.int p2)] [(.ref a1), (.int ((w3 &&& (255 : Int32)) ||| ((w4 &&& (255 : Int32)) <<< ((8 : Int32) &&& 31))))])) _
    refine XS.iloadN X0.here hx rfl (hb hby d1_21) rfl ?_
    show Steps p.tables e below (s₁.setTop (mkF m 22 #[.val (.ref a1), .val (.int p2)] [(.int p2), (.ref a1), (.int ((w3 &&& (255 : Int32)) ||| ((w4 &&& (255 : Int32)) <<< ((8 : Int32) &&& 31))))])) _
    refine XS.iconst X0.here hx rfl (hb hby d1_22) ?_
    show Steps p.tables e below (s₁.setTop (mkF m 23 #[.val (.ref a1), .val (.int p2)] [(.int (2 : Int32)), (.int p2), (.ref a1), (.int ((w3 &&& (255 : Int32)) ||| ((w4 &&& (255 : Int32)) <<< ((8 : Int32) &&& 31))))])) _
    refine XS.iadd X0.here hx rfl (hb hby d1_23) rfl ?_
    show Steps p.tables e below (s₁.setTop (mkF m 24 #[.val (.ref a1), .val (.int p2)] [(.int (p2 + (2 : Int32))), (.ref a1), (.int ((w3 &&& (255 : Int32)) ||| ((w4 &&& (255 : Int32)) <<< ((8 : Int32) &&& 31))))])) _
    refine X0.baloadBytes hx (j := (p2 + (2 : Int32))) (v := (.int w5)) (by rw [e0]; exact Ar_a1.1) (State.isArrayOf_alike hZ.alike Ar_a1.2.1) Ar_a1.2.2 hin24 hat24 (g := (mkF m 24 #[.val (.ref a1), .val (.int p2)] [(.int (p2 + (2 : Int32))), (.ref a1), (.int ((w3 &&& (255 : Int32)) ||| ((w4 &&& (255 : Int32)) <<< ((8 : Int32) &&& 31))))])) rfl rfl (hb hby d1_24) _ ?_
    show Steps p.tables e below (s₁.setTop (mkF m 25 #[.val (.ref a1), .val (.int p2)] [(.int w5), (.int ((w3 &&& (255 : Int32)) ||| ((w4 &&& (255 : Int32)) <<< ((8 : Int32) &&& 31))))])) _
    refine XS.sipush X0.here hx rfl (hb hby d1_25) ?_
    show Steps p.tables e below (s₁.setTop (mkF m 28 #[.val (.ref a1), .val (.int p2)] [(.int (255 : Int32)), (.int w5), (.int ((w3 &&& (255 : Int32)) ||| ((w4 &&& (255 : Int32)) <<< ((8 : Int32) &&& 31))))])) _
    refine XS.iand X0.here hx rfl (hb hby d1_28) rfl ?_
    show Steps p.tables e below (s₁.setTop (mkF m 29 #[.val (.ref a1), .val (.int p2)] [(.int (w5 &&& (255 : Int32))), (.int ((w3 &&& (255 : Int32)) ||| ((w4 &&& (255 : Int32)) <<< ((8 : Int32) &&& 31))))])) _
    refine XS.bipush X0.here hx rfl (hb hby d1_29) ?_
    show Steps p.tables e below (s₁.setTop (mkF m 31 #[.val (.ref a1), .val (.int p2)] [(.int (16 : Int32)), (.int (w5 &&& (255 : Int32))), (.int ((w3 &&& (255 : Int32)) ||| ((w4 &&& (255 : Int32)) <<< ((8 : Int32) &&& 31))))])) _
    refine XS.ishl X0.here hx rfl (hb hby d1_31) rfl ?_
    show Steps p.tables e below (s₁.setTop (mkF m 32 #[.val (.ref a1), .val (.int p2)] [(.int ((w5 &&& (255 : Int32)) <<< ((16 : Int32) &&& 31))), (.int ((w3 &&& (255 : Int32)) ||| ((w4 &&& (255 : Int32)) <<< ((8 : Int32) &&& 31))))])) _
    refine XS.ior X0.here hx rfl (hb hby d1_32) rfl ?_
    show Steps p.tables e below (s₁.setTop (mkF m 33 #[.val (.ref a1), .val (.int p2)] [(.int (((w3 &&& (255 : Int32)) ||| ((w4 &&& (255 : Int32)) <<< ((8 : Int32) &&& 31))) ||| ((w5 &&& (255 : Int32)) <<< ((16 : Int32) &&& 31))))])) _
    refine XS.aloadN X0.here hx rfl (hb hby d1_33) rfl rfl ?_
    show Steps p.tables e below (s₁.setTop (mkF m 34 #[.val (.ref a1), .val (.int p2)] [(.ref a1), (.int (((w3 &&& (255 : Int32)) ||| ((w4 &&& (255 : Int32)) <<< ((8 : Int32) &&& 31))) ||| ((w5 &&& (255 : Int32)) <<< ((16 : Int32) &&& 31))))])) _
    refine XS.iloadN X0.here hx rfl (hb hby d1_34) rfl ?_
    show Steps p.tables e below (s₁.setTop (mkF m 35 #[.val (.ref a1), .val (.int p2)] [(.int p2), (.ref a1), (.int (((w3 &&& (255 : Int32)) ||| ((w4 &&& (255 : Int32)) <<< ((8 : Int32) &&& 31))) ||| ((w5 &&& (255 : Int32)) <<< ((16 : Int32) &&& 31))))])) _
    refine XS.iconst X0.here hx rfl (hb hby d1_35) ?_
    show Steps p.tables e below (s₁.setTop (mkF m 36 #[.val (.ref a1), .val (.int p2)] [(.int (3 : Int32)), (.int p2), (.ref a1), (.int (((w3 &&& (255 : Int32)) ||| ((w4 &&& (255 : Int32)) <<< ((8 : Int32) &&& 31))) ||| ((w5 &&& (255 : Int32)) <<< ((16 : Int32) &&& 31))))])) _
    refine XS.iadd X0.here hx rfl (hb hby d1_36) rfl ?_
    show Steps p.tables e below (s₁.setTop (mkF m 37 #[.val (.ref a1), .val (.int p2)] [(.int (p2 + (3 : Int32))), (.ref a1), (.int (((w3 &&& (255 : Int32)) ||| ((w4 &&& (255 : Int32)) <<< ((8 : Int32) &&& 31))) ||| ((w5 &&& (255 : Int32)) <<< ((16 : Int32) &&& 31))))])) _
    refine X0.baloadBytes hx (j := (p2 + (3 : Int32))) (v := (.int w6)) (by rw [e0]; exact Ar_a1.1) (State.isArrayOf_alike hZ.alike Ar_a1.2.1) Ar_a1.2.2 hin37 hat37 (g := (mkF m 37 #[.val (.ref a1), .val (.int p2)] [(.int (p2 + (3 : Int32))), (.ref a1), (.int (((w3 &&& (255 : Int32)) ||| ((w4 &&& (255 : Int32)) <<< ((8 : Int32) &&& 31))) ||| ((w5 &&& (255 : Int32)) <<< ((16 : Int32) &&& 31))))])) rfl rfl (hb hby d1_37) _ ?_
    show Steps p.tables e below (s₁.setTop (mkF m 38 #[.val (.ref a1), .val (.int p2)] [(.int w6), (.int (((w3 &&& (255 : Int32)) ||| ((w4 &&& (255 : Int32)) <<< ((8 : Int32) &&& 31))) ||| ((w5 &&& (255 : Int32)) <<< ((16 : Int32) &&& 31))))])) _
    refine XS.bipush X0.here hx rfl (hb hby d1_38) ?_
    show Steps p.tables e below (s₁.setTop (mkF m 40 #[.val (.ref a1), .val (.int p2)] [(.int (24 : Int32)), (.int w6), (.int (((w3 &&& (255 : Int32)) ||| ((w4 &&& (255 : Int32)) <<< ((8 : Int32) &&& 31))) ||| ((w5 &&& (255 : Int32)) <<< ((16 : Int32) &&& 31))))])) _
    refine XS.ishl X0.here hx rfl (hb hby d1_40) rfl ?_
    show Steps p.tables e below (s₁.setTop (mkF m 41 #[.val (.ref a1), .val (.int p2)] [(.int (w6 <<< ((24 : Int32) &&& 31))), (.int (((w3 &&& (255 : Int32)) ||| ((w4 &&& (255 : Int32)) <<< ((8 : Int32) &&& 31))) ||| ((w5 &&& (255 : Int32)) <<< ((16 : Int32) &&& 31))))])) _
    refine XS.ior X0.here hx rfl (hb hby d1_41) rfl ?_
    show Steps p.tables e below (s₁.setTop (mkF m 42 #[.val (.ref a1), .val (.int p2)] [(.int ((((w3 &&& (255 : Int32)) ||| ((w4 &&& (255 : Int32)) <<< ((8 : Int32) &&& 31))) ||| ((w5 &&& (255 : Int32)) <<< ((16 : Int32) &&& 31))) ||| (w6 <<< ((24 : Int32) &&& 31))))])) _
    exact retI X0 hx Bd.returns (hb hby d1_42) hr      -- retI stands in the head ('lawwalk <made dir>' prints it)
  · show Q1 Z a1 p2 w3 cl_a1 w4 w5 w6 h0 n0 _ s₁.heap _
    rw [e0]
    exact ⟨rfl, N0, rfl⟩
theorem own_at (p : Int32) : ∃ k : Nat, k < 4 ∧ (p &&& (3 : Int32)).toNatClampNeg = k ∧ ((p &&& (3 : Int32)) + (1 : Int32)).toNatClampNeg = k + 1 ∧ ((p &&& (3 : Int32)) + (2 : Int32)).toNatClampNeg = k + 2 ∧ ((p &&& (3 : Int32)) + (3 : Int32)).toNatClampNeg = k + 3 ∧
    (¬ (p &&& (3 : Int32)) < 0 ∧ (p &&& (3 : Int32)) < 7) ∧ (¬ ((p &&& (3 : Int32)) + (1 : Int32)) < 0 ∧ ((p &&& (3 : Int32)) + (1 : Int32)) < 7) ∧ (¬ ((p &&& (3 : Int32)) + (2 : Int32)) < 0 ∧ ((p &&& (3 : Int32)) + (2 : Int32)) < 7) ∧ (¬ ((p &&& (3 : Int32)) + (3 : Int32)) < 0 ∧ ((p &&& (3 : Int32)) + (3 : Int32)) < 7) := by
  have hm : (p &&& (3 : Int32)).toInt = p.toInt % 4 := c_mask p 3 2 (by decide) (by decide)
  generalize (p &&& (3 : Int32)) = q at *
  have h1 := c_iadd q 1
  have h2 := c_iadd q 2
  have h3 := c_iadd q 3
  have g1 := rng32 (q + 1)
  have g2 := rng32 (q + 2)
  have g3 := rng32 (q + 3)
  have e0 : (0 : Int32).toInt = 0 := rfl
  have e1 : (1 : Int32).toInt = 1 := rfl
  have e2 : (2 : Int32).toInt = 2 := rfl
  have e3 : (3 : Int32).toInt = 3 := rfl
  have e7 : (7 : Int32).toInt = 7 := rfl
  rw [e1] at h1
  rw [e2] at h2
  rw [e3] at h3
  simp only [Int32.lt_iff_toInt_lt, Int32.toNatClampNeg, e0, e7]
  refine ⟨q.toInt.toNat, ?_⟩
  omega
theorem own_get (vs : List Value) (k : Nat) (hk : k < 4) (a b c d z : Value) {cl : Cell} (H : Has cl ((((vs.set k a).set (k + 1) b).set (k + 2) c).set (k + 3) d) z) (hl : vs.length = 7) (hs : cl.slots.size = 7) :
    cl.slots[k]? = some a ∧ cl.slots[k + 1]? = some b ∧ cl.slots[k + 2]? = some c ∧ cl.slots[k + 3]? = some d := by
  rw [H k (by omega), H (k + 1) (by omega), H (k + 2) (by omega), H (k + 3) (by omega)]
  simp only [List.getD_eq_getElem?_getD, List.getElem?_set, List.length_set, hl]
  have n1 : k < 7 := by omega
  have n2 : k + 1 < 7 := by omega
  have n3 : k + 2 < 7 := by omega
  have n4 : k + 3 < 7 := by omega
  simp [n1, n2, n3, n4]
set_option maxHeartbeats 8000000 in
theorem own_le0 (x b0 b1 b2 b3 : Int32) (h0 : b0 = x.toInt8.toInt32.toInt8.toInt32) (h1 : b1 = ((x.toUInt32 >>> ((8 : Int32) &&& 31).toUInt32).toInt32).toInt8.toInt32.toInt8.toInt32) (h2 : b2 = ((x.toUInt32 >>> ((16 : Int32) &&& 31).toUInt32).toInt32).toInt8.toInt32.toInt8.toInt32) (h3 : b3 = ((x.toUInt32 >>> ((24 : Int32) &&& 31).toUInt32).toInt32).toInt8.toInt32.toInt8.toInt32) :
    ((((b0 &&& (255 : Int32)) ||| ((b1 &&& (255 : Int32)) <<< ((8 : Int32) &&& 31))) ||| ((b2 &&& (255 : Int32)) <<< ((16 : Int32) &&& 31))) ||| (b3 <<< ((24 : Int32) &&& 31))) = x := by
  have rx := rng32 x
  have s1 : ((x.toUInt32 >>> ((8 : Int32) &&& 31).toUInt32).toInt32).toInt = (x.toInt % 4294967296) / 256 := c_iushr x 8 8 (by decide) (by decide)
  have s2 : ((x.toUInt32 >>> ((16 : Int32) &&& 31).toUInt32).toInt32).toInt = (x.toInt % 4294967296) / 65536 := c_iushr x 16 16 (by decide) (by decide)
  have s3 : ((x.toUInt32 >>> ((24 : Int32) &&& 31).toUInt32).toInt32).toInt = (x.toInt % 4294967296) / 16777216 := c_iushr x 24 24 (by decide) (by decide)
  generalize ((x.toUInt32 >>> ((8 : Int32) &&& 31).toUInt32).toInt32) = x1 at *
  generalize ((x.toUInt32 >>> ((16 : Int32) &&& 31).toUInt32).toInt32) = x2 at *
  generalize ((x.toUInt32 >>> ((24 : Int32) &&& 31).toUInt32).toInt32) = x3 at *
  have t0 := c_i2b x
  have u0 := c_i2b x.toInt8.toInt32
  have t1 := c_i2b x1
  have u1 := c_i2b x1.toInt8.toInt32
  have t2 := c_i2b x2
  have u2 := c_i2b x2.toInt8.toInt32
  have t3 := c_i2b x3
  have u3 := c_i2b x3.toInt8.toInt32
  rw [← h0] at u0
  rw [← h1] at u1
  rw [← h2] at u2
  rw [← h3] at u3
  have m0 : (b0 &&& (255 : Int32)).toInt = b0.toInt % 256 := c_mask b0 255 8 (by decide) (by decide)
  have m1 : (b1 &&& (255 : Int32)).toInt = b1.toInt % 256 := c_mask b1 255 8 (by decide) (by decide)
  have m2 : (b2 &&& (255 : Int32)).toInt = b2.toInt % 256 := c_mask b2 255 8 (by decide) (by decide)
  generalize (b0 &&& (255 : Int32)) = c0 at *
  generalize (b1 &&& (255 : Int32)) = c1 at *
  generalize (b2 &&& (255 : Int32)) = c2 at *
  have k1 : ((c1 <<< ((8 : Int32) &&& 31)).toInt - c1.toInt * 256) % 4294967296 = 0 := c_ishl c1 8 8 (by decide)
  have k2 : ((c2 <<< ((16 : Int32) &&& 31)).toInt - c2.toInt * 65536) % 4294967296 = 0 := c_ishl c2 16 16 (by decide)
  have k3 : ((b3 <<< ((24 : Int32) &&& 31)).toInt - b3.toInt * 16777216) % 4294967296 = 0 := c_ishl b3 24 24 (by decide)
  generalize c1 <<< ((8 : Int32) &&& 31) = d1 at *
  generalize c2 <<< ((16 : Int32) &&& 31) = d2 at *
  generalize b3 <<< ((24 : Int32) &&& 31) = d3 at *
  have rd1 := rng32 d1
  have rd2 := rng32 d2
  have rd3 := rng32 d3
  have y0 : c0.toInt = x.toInt % 256 := by omega
  have y1 : d1.toInt = ((x.toInt % 4294967296) / 256 % 256) * 256 := by omega
  have y2 : d2.toInt = ((x.toInt % 4294967296) / 65536 % 256) * 65536 := by omega
  have y3 : (d3.toInt - ((x.toInt % 4294967296) / 16777216) * 16777216) % 4294967296 = 0 := by omega
  have o1 := c_or' c0 d1 8 (by decide) 256 (by decide) (by omega) (by omega) (by omega)
  generalize c0 ||| d1 = f1 at *
  have ro1 := rng32 f1
  have z1 : f1.toInt = (x.toInt % 4294967296) % 65536 := by omega
  have o2 := c_or' f1 d2 16 (by decide) 65536 (by decide) (by omega) (by omega) (by omega)
  generalize f1 ||| d2 = f2 at *
  have ro2 := rng32 f2
  have z2 : f2.toInt = (x.toInt % 4294967296) % 16777216 := by omega
  have o3 := c_or' f2 d3 24 (by decide) 16777216 (by decide) (by omega) (by omega) (by omega)
  generalize f2 ||| d3 = f3 at *
  have ro3 := rng32 f3
  exact Int32.toInt_inj.mp (by omega)
theorem own_le (p1 : Int32) : (((((p1.toInt8.toInt32.toInt8.toInt32) &&& (255 : Int32)) ||| (((((p1.toUInt32 >>> ((8 : Int32) &&& 31).toUInt32).toInt32).toInt8.toInt32.toInt8.toInt32) &&& (255 : Int32)) <<< ((8 : Int32) &&& 31))) ||| (((((p1.toUInt32 >>> ((16 : Int32) &&& 31).toUInt32).toInt32).toInt8.toInt32.toInt8.toInt32) &&& (255 : Int32)) <<< ((16 : Int32) &&& 31))) ||| ((((p1.toUInt32 >>> ((24 : Int32) &&& 31).toUInt32).toInt32).toInt8.toInt32.toInt8.toInt32) <<< ((24 : Int32) &&& 31))) = p1 := own_le0 p1 _ _ _ _ rfl rfl rfl rfl
theorem pn_0 : plainName "com/example/lean_courier/leancourier/compression/LittleEndianIntAtPinLaw" = true := by first | (simp [plainName, overriddenIn]; done) | decide +kernel
theorem pd_0_0 : parseMethodDescriptor "([BI)I" = some ⟨[(.array .byte), .int], some .int⟩ := by decide +kernel
theorem ef_0 (m : MethodId) (x0 : Int32) (x1 : Int32) (x2 : Int32) (x3 : Int32) : entryFrame m #[(.int x0), (.int x1), (.int x2), (.int x3)] maxLocals = mkF m 0 #[.val (.int x0), .val (.int x1), .val (.int x2), .val (.int x3), .unset, .unset, .unset] [] := by first | (simp [entryFrame, mkF, argsToLocals, Value.category, maxLocals]; done) | rfl
def Q0 (Z : State) (p1 : Int32) (p2 : Int32) (p3 : Int32) (p4 : Int32) (h0 : Heap) (n0 : Nat) (v : Option Value) (h : Heap) (L : List Loc) : Prop := v = some (.int (1 : Int32)) ∧ Fr n0 L
set_option maxRecDepth 65536 in
set_option maxHeartbeats 40000000 in
theorem rm0 (l : Launch) (Z : State) (a0 : Array Value) (hw : ∀ d ∈ tables_1, d.before a0 Z = true) (ws : List Jvm.Cond) (p1 : Int32) (p2 : Int32) (p3 : Int32) (p4 : Int32) (h0 : Heap) (n0 : Nat) (Z0 : n0 ≤ h0.size) :
    MetFree l x (head1 (Jvm.Cond.code x code maxLocals ret :: ws) room_1) (fun a U => a = #[(.int p1), (.int p2), (.int p3), (.int p4)] ∧ Z.Warmed39 U.vm ∧ U.heap = h0) (fun _ _ _ _ _ => True) (fun _ U o U' => ∃ v L, o = .returned v ∧ Q0 Z p1 p2 p3 p4 h0 n0 v U'.heap L ∧ FrameEnd U o U' L room_1.cells room_1.slots) := by
  refine MetFree.of_bodySF (plainFor_of_name pn_0) hisR ?_
  intro p e s m args below meth c s₁ Bd hml0 hP hK
  obtain ⟨rfl, hZ, hh⟩ := hP
  have hx := Bd.exec
  have hby := Bd.bytes
  have hml : c.maxLocals = 7 := hml0
  have hown : s.vm.findClass "com/example/lean_courier/leancourier/compression/LittleEndianIntAtPinLaw" = some m.cls := findClass_of_methodNamed Bd.named
  have hnm := (name_of_methodNamed Bd.named Bd.method).1
  have X0 : Stand p l e room_1 s m #[(.int p1), (.int p2), (.int p3), (.int p4)] below meth c s₁ [] 0 0 := Stand.of_body Bd
  have e0 : s₁.heap = h0 := by rw [← hh, Bd.state]; rfl
  have N0 := Fr.nil n0
  have pre0 : ∀ t, Steps p.tables e below (s₁.setTop (mkF m 0 #[.val (.int p1), .val (.int p2), .val (.int p3), .val (.int p4), .unset, .unset, .unset] [])) t → Steps p.tables e below (s₁.setTop (entryFrame m #[(.int p1), (.int p2), (.int p3), (.int p4)] maxLocals)) t := fun t k => castTop (ef_0 m p1 p2 p3 p4) k
  -- 3. LAWS
  obtain ⟨k, hk, j0, j1, j2, j3, r0, r1, r2, r3⟩ := own_at p2
  obtain ⟨T5, h5, k5, X5, e5, E5, A5, st5⟩ := newP X0 hx hZ (hw _ (List.mem_of_getElem? (i := 0) rfl)) e0 (g := (mkF m 2 #[.val (.int p1), .val (.int p2), .val (.int p3), .val (.int p4), .unset, .unset, .unset] [(.int (7 : Int32))])) rfl (hb hby at_2) rfl (by decide) (cap := 7) (by decide) (by decide) (by decide) (by decide)
  obtain ⟨b5, g5⟩ : ∃ z, z = h0.size := ⟨_, rfl⟩      -- the fresh array's address
  rw [← g5] at A5 st5
  have V_b5 : Arv Z h5 b5 k5 .byte (7 : Int32) [(.int (0 : Int32)), (.int (0 : Int32)), (.int (0 : Int32)), (.int (0 : Int32)), (.int (0 : Int32)), (.int (0 : Int32)), (.int (0 : Int32))] (.int (0 : Int32)) := (Arv.new A5 (by decide)).pad (pad_rep [] (.int (0 : Int32)) 7)
  have g_b5 : n0 ≤ b5 := Nat.le_trans Z0 (Nat.le_of_eq g5.symm)
  have sz_b5 : h0.size ≤ b5 := (Nat.le_trans (Keep.refl h0 []).1 (Nat.le_of_eq g5.symm))
  have K5 : Keep h0 h5 [] := (Keep.refl h0 []).ext E5
  obtain ⟨cl_b5_11, Ar_b5, q_b5, S_b5, N_b5, H_b5, G_b5⟩ := V_b5      -- open the array's fact as it stands now (its cell, kind, length, elements)
  have hin11 : ¬ ((0 : Int32) < 0 ∨ cl_b5_11.slots.size ≤ ((0 : Int32)).toNatClampNeg) := inb_of S_b5 ⟨by decide, by decide⟩
  obtain ⟨T6, h6, X6, e6, W6, st6⟩ := stB X5 hx hZ e5 Ar_b5 (j := (0 : Int32)) hin11 (g := (mkF m 11 #[.val (.int p1), .val (.int p2), .val (.int p3), .val (.int p4), .val (.ref b5), .unset, .unset] [(.int (p3.toInt8.toInt32)), (.int (0 : Int32)), (.ref b5)])) rfl rfl (hb hby at_11)
  have V_b5_6 := Arv.set Ar_b5 q_b5 S_b5 N_b5 H_b5 G_b5 (fits_nar_byte _) W6 0 rfl (Nat.le_of_ble_eq_true rfl)      -- the array as it stands now (the place must lie among its first values: Arv.pad with pad_rep lengthens them)
  have K6 : Keep h0 h6 [] := K5.wr W6 (Or.inr sz_b5)
  have N6 := Fr.snoc X6 N0 g_b5
  -- (bastore into a boolean[]: stZ in stB's place)
  obtain ⟨cl_b5_20, Ar_b5, q_b5, S_b5, N_b5, H_b5, G_b5⟩ := V_b5_6      -- open the array's fact as it stands now (its cell, kind, length, elements)
  have hin20 : ¬ ((1 : Int32) < 0 ∨ cl_b5_20.slots.size ≤ ((1 : Int32)).toNatClampNeg) := inb_of S_b5 ⟨by decide, by decide⟩
  obtain ⟨T7, h7, X7, e7, W7, st7⟩ := stB X6 hx hZ e6 Ar_b5 (j := (1 : Int32)) hin20 (g := (mkF m 20 #[.val (.int p1), .val (.int p2), .val (.int p3), .val (.int p4), .val (.ref b5), .unset, .unset] [(.int (((p3.toUInt32 >>> ((8 : Int32) &&& 31).toUInt32).toInt32).toInt8.toInt32)), (.int (1 : Int32)), (.ref b5)])) rfl rfl (hb hby at_20)
  have V_b5_7 := Arv.set Ar_b5 q_b5 S_b5 N_b5 H_b5 G_b5 (fits_nar_byte _) W7 1 rfl (Nat.le_of_ble_eq_true rfl)      -- the array as it stands now (the place must lie among its first values: Arv.pad with pad_rep lengthens them)
  have K7 : Keep h0 h7 [] := K6.wr W7 (Or.inr sz_b5)
  have N7 := Fr.snoc X7 N6 g_b5
  -- (bastore into a boolean[]: stZ in stB's place)
  obtain ⟨cl_b5_29, Ar_b5, q_b5, S_b5, N_b5, H_b5, G_b5⟩ := V_b5_7      -- open the array's fact as it stands now (its cell, kind, length, elements)
  have hin29 : ¬ ((2 : Int32) < 0 ∨ cl_b5_29.slots.size ≤ ((2 : Int32)).toNatClampNeg) := inb_of S_b5 ⟨by decide, by decide⟩
  obtain ⟨T8, h8, X8, e8, W8, st8⟩ := stB X7 hx hZ e7 Ar_b5 (j := (2 : Int32)) hin29 (g := (mkF m 29 #[.val (.int p1), .val (.int p2), .val (.int p3), .val (.int p4), .val (.ref b5), .unset, .unset] [(.int (((p3.toUInt32 >>> ((16 : Int32) &&& 31).toUInt32).toInt32).toInt8.toInt32)), (.int (2 : Int32)), (.ref b5)])) rfl rfl (hb hby at_29)
  have V_b5_8 := Arv.set Ar_b5 q_b5 S_b5 N_b5 H_b5 G_b5 (fits_nar_byte _) W8 2 rfl (Nat.le_of_ble_eq_true rfl)      -- the array as it stands now (the place must lie among its first values: Arv.pad with pad_rep lengthens them)
  have K8 : Keep h0 h8 [] := K7.wr W8 (Or.inr sz_b5)
  have N8 := Fr.snoc X8 N7 g_b5
  -- (bastore into a boolean[]: stZ in stB's place)
  obtain ⟨cl_b5_38, Ar_b5, q_b5, S_b5, N_b5, H_b5, G_b5⟩ := V_b5_8      -- open the array's fact as it stands now (its cell, kind, length, elements)
  have hin38 : ¬ ((3 : Int32) < 0 ∨ cl_b5_38.slots.size ≤ ((3 : Int32)).toNatClampNeg) := inb_of S_b5 ⟨by decide, by decide⟩
  obtain ⟨T9, h9, X9, e9, W9, st9⟩ := stB X8 hx hZ e8 Ar_b5 (j := (3 : Int32)) hin38 (g := (mkF m 38 #[.val (.int p1), .val (.int p2), .val (.int p3), .val (.int p4), .val (.ref b5), .unset, .unset] [(.int (((p3.toUInt32 >>> ((24 : Int32) &&& 31).toUInt32).toInt32).toInt8.toInt32)), (.int (3 : Int32)), (.ref b5)])) rfl rfl (hb hby at_38)
  have V_b5_9 := Arv.set Ar_b5 q_b5 S_b5 N_b5 H_b5 G_b5 (fits_nar_byte _) W9 3 rfl (Nat.le_of_ble_eq_true rfl)      -- the array as it stands now (the place must lie among its first values: Arv.pad with pad_rep lengthens them)
  have K9 : Keep h0 h9 [] := K8.wr W9 (Or.inr sz_b5)
  have N9 := Fr.snoc X9 N8 g_b5
  -- (bastore into a boolean[]: stZ in stB's place)
  obtain ⟨cl_b5_44, Ar_b5, q_b5, S_b5, N_b5, H_b5, G_b5⟩ := V_b5_9      -- open the array's fact as it stands now (its cell, kind, length, elements)
  have hin44 : ¬ ((4 : Int32) < 0 ∨ cl_b5_44.slots.size ≤ ((4 : Int32)).toNatClampNeg) := inb_of S_b5 ⟨by decide, by decide⟩
  obtain ⟨T10, h10, X10, e10, W10, st10⟩ := stB X9 hx hZ e9 Ar_b5 (j := (4 : Int32)) hin44 (g := (mkF m 44 #[.val (.int p1), .val (.int p2), .val (.int p3), .val (.int p4), .val (.ref b5), .unset, .unset] [(.int (p4.toInt8.toInt32)), (.int (4 : Int32)), (.ref b5)])) rfl rfl (hb hby at_44)
  have V_b5_10 := Arv.set Ar_b5 q_b5 S_b5 N_b5 H_b5 G_b5 (fits_nar_byte _) W10 4 rfl (Nat.le_of_ble_eq_true rfl)      -- the array as it stands now (the place must lie among its first values: Arv.pad with pad_rep lengthens them)
  have K10 : Keep h0 h10 [] := K9.wr W10 (Or.inr sz_b5)
  have N10 := Fr.snoc X10 N9 g_b5
  -- (bastore into a boolean[]: stZ in stB's place)
  obtain ⟨cl_b5_53, Ar_b5, q_b5, S_b5, N_b5, H_b5, G_b5⟩ := V_b5_10      -- open the array's fact as it stands now (its cell, kind, length, elements)
  have hin53 : ¬ ((5 : Int32) < 0 ∨ cl_b5_53.slots.size ≤ ((5 : Int32)).toNatClampNeg) := inb_of S_b5 ⟨by decide, by decide⟩
  obtain ⟨T11, h11, X11, e11, W11, st11⟩ := stB X10 hx hZ e10 Ar_b5 (j := (5 : Int32)) hin53 (g := (mkF m 53 #[.val (.int p1), .val (.int p2), .val (.int p3), .val (.int p4), .val (.ref b5), .unset, .unset] [(.int (((p4.toUInt32 >>> ((8 : Int32) &&& 31).toUInt32).toInt32).toInt8.toInt32)), (.int (5 : Int32)), (.ref b5)])) rfl rfl (hb hby at_53)
  have V_b5_11 := Arv.set Ar_b5 q_b5 S_b5 N_b5 H_b5 G_b5 (fits_nar_byte _) W11 5 rfl (Nat.le_of_ble_eq_true rfl)      -- the array as it stands now (the place must lie among its first values: Arv.pad with pad_rep lengthens them)
  have K11 : Keep h0 h11 [] := K10.wr W11 (Or.inr sz_b5)
  have N11 := Fr.snoc X11 N10 g_b5
  -- (bastore into a boolean[]: stZ in stB's place)
  obtain ⟨cl_b5_63, Ar_b5, q_b5, S_b5, N_b5, H_b5, G_b5⟩ := V_b5_11      -- open the array's fact as it stands now (its cell, kind, length, elements)
  have hin63 : ¬ ((6 : Int32) < 0 ∨ cl_b5_63.slots.size ≤ ((6 : Int32)).toNatClampNeg) := inb_of S_b5 ⟨by decide, by decide⟩
  obtain ⟨T12, h12, X12, e12, W12, st12⟩ := stB X11 hx hZ e11 Ar_b5 (j := (6 : Int32)) hin63 (g := (mkF m 63 #[.val (.int p1), .val (.int p2), .val (.int p3), .val (.int p4), .val (.ref b5), .unset, .unset] [(.int (((p4.toUInt32 >>> ((16 : Int32) &&& 31).toUInt32).toInt32).toInt8.toInt32)), (.int (6 : Int32)), (.ref b5)])) rfl rfl (hb hby at_63)
  have V_b5_12 := Arv.set Ar_b5 q_b5 S_b5 N_b5 H_b5 G_b5 (fits_nar_byte _) W12 6 rfl (Nat.le_of_ble_eq_true rfl)      -- the array as it stands now (the place must lie among its first values: Arv.pad with pad_rep lengthens them)
  have K12 : Keep h0 h12 [] := K11.wr W12 (Or.inr sz_b5)
  have N12 := Fr.snoc X12 N11 g_b5
  -- (bastore into a boolean[]: stZ in stB's place)
  obtain ⟨cl_b5_75, Ar_b5, q_b5, S_b5, N_b5, H_b5, G_b5⟩ := V_b5_12      -- open the array's fact as it stands now (its cell, kind, length, elements)
  have hin75 : ¬ ((p2 &&& (3 : Int32)) < 0 ∨ cl_b5_75.slots.size ≤ ((p2 &&& (3 : Int32))).toNatClampNeg) := inb_of S_b5 r0
  obtain ⟨T13, h13, X13, e13, W13, st13⟩ := stB X12 hx hZ e12 Ar_b5 (j := (p2 &&& (3 : Int32))) hin75 (g := (mkF m 75 #[.val (.int p1), .val (.int p2), .val (.int p3), .val (.int p4), .val (.ref b5), .val (.int (p2 &&& (3 : Int32))), .unset] [(.int (p1.toInt8.toInt32)), (.int (p2 &&& (3 : Int32))), (.ref b5)])) rfl rfl (hb hby at_75)
  have V_b5_13 := Arv.set Ar_b5 q_b5 S_b5 N_b5 H_b5 G_b5 (fits_nar_byte _) W13 k j0 (by simp only [List.length_set, List.length_cons, List.length_nil]; omega)      -- the array as it stands now (the place must lie among its first values: Arv.pad with pad_rep lengthens them)
  have K13 : Keep h0 h13 [] := K12.wr W13 (Or.inr sz_b5)
  have N13 := Fr.snoc X13 N12 g_b5
  -- (bastore into a boolean[]: stZ in stB's place)
  obtain ⟨cl_b5_87, Ar_b5, q_b5, S_b5, N_b5, H_b5, G_b5⟩ := V_b5_13      -- open the array's fact as it stands now (its cell, kind, length, elements)
  have hin87 : ¬ (((p2 &&& (3 : Int32)) + (1 : Int32)) < 0 ∨ cl_b5_87.slots.size ≤ (((p2 &&& (3 : Int32)) + (1 : Int32))).toNatClampNeg) := inb_of S_b5 r1
  obtain ⟨T14, h14, X14, e14, W14, st14⟩ := stB X13 hx hZ e13 Ar_b5 (j := ((p2 &&& (3 : Int32)) + (1 : Int32))) hin87 (g := (mkF m 87 #[.val (.int p1), .val (.int p2), .val (.int p3), .val (.int p4), .val (.ref b5), .val (.int (p2 &&& (3 : Int32))), .unset] [(.int (((p1.toUInt32 >>> ((8 : Int32) &&& 31).toUInt32).toInt32).toInt8.toInt32)), (.int ((p2 &&& (3 : Int32)) + (1 : Int32))), (.ref b5)])) rfl rfl (hb hby at_87)
  have V_b5_14 := Arv.set Ar_b5 q_b5 S_b5 N_b5 H_b5 G_b5 (fits_nar_byte _) W14 (k + 1) j1 (by simp only [List.length_set, List.length_cons, List.length_nil]; omega)      -- the array as it stands now (the place must lie among its first values: Arv.pad with pad_rep lengthens them)
  have K14 : Keep h0 h14 [] := K13.wr W14 (Or.inr sz_b5)
  have N14 := Fr.snoc X14 N13 g_b5
  -- (bastore into a boolean[]: stZ in stB's place)
  obtain ⟨cl_b5_99, Ar_b5, q_b5, S_b5, N_b5, H_b5, G_b5⟩ := V_b5_14      -- open the array's fact as it stands now (its cell, kind, length, elements)
  have hin99 : ¬ (((p2 &&& (3 : Int32)) + (2 : Int32)) < 0 ∨ cl_b5_99.slots.size ≤ (((p2 &&& (3 : Int32)) + (2 : Int32))).toNatClampNeg) := inb_of S_b5 r2
  obtain ⟨T15, h15, X15, e15, W15, st15⟩ := stB X14 hx hZ e14 Ar_b5 (j := ((p2 &&& (3 : Int32)) + (2 : Int32))) hin99 (g := (mkF m 99 #[.val (.int p1), .val (.int p2), .val (.int p3), .val (.int p4), .val (.ref b5), .val (.int (p2 &&& (3 : Int32))), .unset] [(.int (((p1.toUInt32 >>> ((16 : Int32) &&& 31).toUInt32).toInt32).toInt8.toInt32)), (.int ((p2 &&& (3 : Int32)) + (2 : Int32))), (.ref b5)])) rfl rfl (hb hby at_99)
  have V_b5_15 := Arv.set Ar_b5 q_b5 S_b5 N_b5 H_b5 G_b5 (fits_nar_byte _) W15 (k + 2) j2 (by simp only [List.length_set, List.length_cons, List.length_nil]; omega)      -- the array as it stands now (the place must lie among its first values: Arv.pad with pad_rep lengthens them)
  have K15 : Keep h0 h15 [] := K14.wr W15 (Or.inr sz_b5)
  have N15 := Fr.snoc X15 N14 g_b5
  -- (bastore into a boolean[]: stZ in stB's place)
  obtain ⟨cl_b5_111, Ar_b5, q_b5, S_b5, N_b5, H_b5, G_b5⟩ := V_b5_15      -- open the array's fact as it stands now (its cell, kind, length, elements)
  have hin111 : ¬ (((p2 &&& (3 : Int32)) + (3 : Int32)) < 0 ∨ cl_b5_111.slots.size ≤ (((p2 &&& (3 : Int32)) + (3 : Int32))).toNatClampNeg) := inb_of S_b5 r3
  obtain ⟨T16, h16, X16, e16, W16, st16⟩ := stB X15 hx hZ e15 Ar_b5 (j := ((p2 &&& (3 : Int32)) + (3 : Int32))) hin111 (g := (mkF m 111 #[.val (.int p1), .val (.int p2), .val (.int p3), .val (.int p4), .val (.ref b5), .val (.int (p2 &&& (3 : Int32))), .unset] [(.int (((p1.toUInt32 >>> ((24 : Int32) &&& 31).toUInt32).toInt32).toInt8.toInt32)), (.int ((p2 &&& (3 : Int32)) + (3 : Int32))), (.ref b5)])) rfl rfl (hb hby at_111)
  have V_b5_16 := Arv.set Ar_b5 q_b5 S_b5 N_b5 H_b5 G_b5 (fits_nar_byte _) W16 (k + 3) j3 (by simp only [List.length_set, List.length_cons, List.length_nil]; omega)      -- the array as it stands now (the place must lie among its first values: Arv.pad with pad_rep lengthens them)
  have K16 : Keep h0 h16 [] := K15.wr W16 (Or.inr sz_b5)
  have N16 := Fr.snoc X16 N15 g_b5
  -- (bastore into a boolean[]: stZ in stB's place)
  obtain ⟨cl_f, Ar_f, q_f, S_f, N_f, H_f, G_f⟩ := V_b5_16
  have s7 : cl_f.slots.size = 7 := S_f
  have gt := own_get _ k hk _ _ _ _ _ H_f rfl s7
  have hat0 : cl_f.slots[(p2 &&& (3 : Int32)).toNatClampNeg]? = some (.int (p1.toInt8.toInt32.toInt8.toInt32)) := by rw [j0]; exact gt.1
  have hat1 : cl_f.slots[((p2 &&& (3 : Int32)) + (1 : Int32)).toNatClampNeg]? = some (.int (((p1.toUInt32 >>> ((8 : Int32) &&& 31).toUInt32).toInt32).toInt8.toInt32.toInt8.toInt32)) := by rw [j1]; exact gt.2.1
  have hat2 : cl_f.slots[((p2 &&& (3 : Int32)) + (2 : Int32)).toNatClampNeg]? = some (.int (((p1.toUInt32 >>> ((16 : Int32) &&& 31).toUInt32).toInt32).toInt8.toInt32.toInt8.toInt32)) := by rw [j2]; exact gt.2.2.1
  have hat3 : cl_f.slots[((p2 &&& (3 : Int32)) + (3 : Int32)).toNatClampNeg]? = some (.int (((p1.toUInt32 >>> ((24 : Int32) &&& 31).toUInt32).toInt32).toInt8.toInt32.toInt8.toInt32)) := by rw [j3]; exact gt.2.2.2
  -- pc 116: com/example/lean_courier/leancourier/compression/LittleEndian.intAt by its contract rm1
  obtain ⟨_, _, ⟨T17, L17, k17, n17⟩, -, X17, ⟨Lc17, hQ17, l17, y17, z17⟩, st17⟩ := Jvm.LawKit.callS X16 hx (y := (⟨"com/example/lean_courier/leancourier/compression/LittleEndian", "intAt", "([BI)I"⟩ : MethodName)) hown (mvT hZ (hw _ (List.mem_of_getElem? (i := 1) rfl))) (mvT hZ (hw _ (List.mem_of_getElem? (i := 2) rfl))) (mvT hZ (hw _ (List.mem_of_getElem? (i := 3) rfl))) (mvT hZ (hw _ (List.mem_of_getElem? (i := 4) rfl))) (by decide) (backOf (W := 0) (rm1 l Z a0 hw [] b5 (p2 &&& (3 : Int32)) (p1.toInt8.toInt32.toInt8.toInt32) cl_f (((p1.toUInt32 >>> ((8 : Int32) &&& 31).toUInt32).toInt32).toInt8.toInt32.toInt8.toInt32) (((p1.toUInt32 >>> ((16 : Int32) &&& 31).toUInt32).toInt32).toInt8.toInt32.toInt8.toInt32) (((p1.toUInt32 >>> ((24 : Int32) &&& 31).toUInt32).toInt32).toInt8.toInt32.toInt8.toInt32) h16 n0 (Nat.le_trans Z0 K16.1) Ar_f (inb_of S_f r0) hat0 (inb_of S_f r1) hat1 (inb_of S_f r2) hat2 (inb_of S_f r3) hat3) hZ (hw _ (List.mem_of_getElem? (i := 4) rfl)) (hw _ (List.mem_of_getElem? (i := 3) rfl)) (by decide) (by decide)) (g := (mkF m 116 #[.val (.int p1), .val (.int p2), .val (.int p3), .val (.int p4), .val (.ref b5), .val (.int (p2 &&& (3 : Int32))), .unset] [(.int (p2 &&& (3 : Int32))), (.ref b5)])) rfl (by rw [hml]; rfl) (argsL := [(.ref b5), (.int (p2 &&& (3 : Int32)))]) (rest := []) (lenOf pd_0_0 rfl) rfl (by show 2 * 0 + _ ≤ _; exact Nat.le_of_eq rfl) (hb hby at_116) (fun _ _ => ⟨rfl, e16, (by decide : 1 + 0 ≤ _), (by decide : 7 + 0 ≤ _)⟩)
  dsimp only [Pt.U, Pt.locs, Pt.cells, Pt.slots] at X17 l17 y17 z17 st17 hQ17
  subst l17 y17 z17
  obtain ⟨rfl, N17q, q17⟩ := hQ17      -- what it returned, that it wrote nothing old, and the rest of your Q1
  have N17 := Fr.app N16 N17q
  obtain ⟨fs, hr, hrun, hended, hW, hsame⟩ := X17.leave (v := some (.int (1 : Int32))) (fun h => by rw [Bd.returns] at h; cases h)
  refine ⟨_, _, pre0 _ ?_, hrun, hended, _, _, rfl, ?_, ⟨_, rfl⟩, hW, hsame.mono (by decide) (by decide)⟩
  -- 4. STEPS
  · show Steps p.tables e below (s₁.setTop (mkF m 0 #[.val (.int p1), .val (.int p2), .val (.int p3), .val (.int p4), .unset, .unset, .unset] [])) _
    refine XS.bipush X0.here hx rfl (hb hby at_0) ?_
    show Steps p.tables e below (s₁.setTop (mkF m 2 #[.val (.int p1), .val (.int p2), .val (.int p3), .val (.int p4), .unset, .unset, .unset] [(.int (7 : Int32))])) _
    refine st5 _ ?_
    show Steps p.tables e below (T5.setTop (mkF m 4 #[.val (.int p1), .val (.int p2), .val (.int p3), .val (.int p4), .unset, .unset, .unset] [(.ref b5)])) _
    refine XS.astore X5.here hx rfl (hb hby at_4) rfl rfl (l' := #[.val (.int p1), .val (.int p2), .val (.int p3), .val (.int p4), .val (.ref b5), .unset, .unset]) rfl ?_
    show Steps p.tables e below (T5.setTop (mkF m 6 #[.val (.int p1), .val (.int p2), .val (.int p3), .val (.int p4), .val (.ref b5), .unset, .unset] [])) _
    refine XS.aload X5.here hx rfl (hb hby at_6) rfl rfl ?_
    show Steps p.tables e below (T5.setTop (mkF m 8 #[.val (.int p1), .val (.int p2), .val (.int p3), .val (.int p4), .val (.ref b5), .unset, .unset] [(.ref b5)])) _
    refine XS.iconst X5.here hx rfl (hb hby at_8) ?_
    show Steps p.tables e below (T5.setTop (mkF m 9 #[.val (.int p1), .val (.int p2), .val (.int p3), .val (.int p4), .val (.ref b5), .unset, .unset] [(.int (0 : Int32)), (.ref b5)])) _
    refine XS.iloadN X5.here hx rfl (hb hby at_9) rfl ?_
    show Steps p.tables e below (T5.setTop (mkF m 10 #[.val (.int p1), .val (.int p2), .val (.int p3), .val (.int p4), .val (.ref b5), .unset, .unset] [(.int p3), (.int (0 : Int32)), (.ref b5)])) _
    refine XS.i2b X5.here hx rfl (hb hby at_10) rfl ?_
    show Steps p.tables e below (T5.setTop (mkF m 11 #[.val (.int p1), .val (.int p2), .val (.int p3), .val (.int p4), .val (.ref b5), .unset, .unset] [(.int (p3.toInt8.toInt32)), (.int (0 : Int32)), (.ref b5)])) _
    refine st6 _ ?_
    show Steps p.tables e below (T6.setTop (mkF m 12 #[.val (.int p1), .val (.int p2), .val (.int p3), .val (.int p4), .val (.ref b5), .unset, .unset] [])) _
    refine XS.aload X6.here hx rfl (hb hby at_12) rfl rfl ?_
    show Steps p.tables e below (T6.setTop (mkF m 14 #[.val (.int p1), .val (.int p2), .val (.int p3), .val (.int p4), .val (.ref b5), .unset, .unset] [(.ref b5)])) _
    refine XS.iconst X6.here hx rfl (hb hby at_14) ?_
    show Steps p.tables e below (T6.setTop (mkF m 15 #[.val (.int p1), .val (.int p2), .val (.int p3), .val (.int p4), .val (.ref b5), .unset, .unset] [(.int (1 : Int32)), (.ref b5)])) _
    refine XS.iloadN X6.here hx rfl (hb hby at_15) rfl ?_
    show Steps p.tables e below (T6.setTop (mkF m 16 #[.val (.int p1), .val (.int p2), .val (.int p3), .val (.int p4), .val (.ref b5), .unset, .unset] [(.int p3), (.int (1 : Int32)), (.ref b5)])) _
    refine XS.bipush X6.here hx rfl (hb hby at_16) ?_
    show Steps p.tables e below (T6.setTop (mkF m 18 #[.val (.int p1), .val (.int p2), .val (.int p3), .val (.int p4), .val (.ref b5), .unset, .unset] [(.int (8 : Int32)), (.int p3), (.int (1 : Int32)), (.ref b5)])) _
    refine XS.iushr X6.here hx rfl (hb hby at_18) rfl ?_
    show Steps p.tables e below (T6.setTop (mkF m 19 #[.val (.int p1), .val (.int p2), .val (.int p3), .val (.int p4), .val (.ref b5), .unset, .unset] [(.int ((p3.toUInt32 >>> ((8 : Int32) &&& 31).toUInt32).toInt32)), (.int (1 : Int32)), (.ref b5)])) _
    refine XS.i2b X6.here hx rfl (hb hby at_19) rfl ?_
    show Steps p.tables e below (T6.setTop (mkF m 20 #[.val (.int p1), .val (.int p2), .val (.int p3), .val (.int p4), .val (.ref b5), .unset, .unset] [(.int (((p3.toUInt32 >>> ((8 : Int32) &&& 31).toUInt32).toInt32).toInt8.toInt32)), (.int (1 : Int32)), (.ref b5)])) _
    refine st7 _ ?_
    show Steps p.tables e below (T7.setTop (mkF m 21 #[.val (.int p1), .val (.int p2), .val (.int p3), .val (.int p4), .val (.ref b5), .unset, .unset] [])) _
    refine XS.aload X7.here hx rfl (hb hby at_21) rfl rfl ?_
    show Steps p.tables e below (T7.setTop (mkF m 23 #[.val (.int p1), .val (.int p2), .val (.int p3), .val (.int p4), .val (.ref b5), .unset, .unset] [(.ref b5)])) _
    refine XS.iconst X7.here hx rfl (hb hby at_23) ?_
    show Steps p.tables e below (T7.setTop (mkF m 24 #[.val (.int p1), .val (.int p2), .val (.int p3), .val (.int p4), .val (.ref b5), .unset, .unset] [(.int (2 : Int32)), (.ref b5)])) _
    refine XS.iloadN X7.here hx rfl (hb hby at_24) rfl ?_
    show Steps p.tables e below (T7.setTop (mkF m 25 #[.val (.int p1), .val (.int p2), .val (.int p3), .val (.int p4), .val (.ref b5), .unset, .unset] [(.int p3), (.int (2 : Int32)), (.ref b5)])) _
    refine XS.bipush X7.here hx rfl (hb hby at_25) ?_
    show Steps p.tables e below (T7.setTop (mkF m 27 #[.val (.int p1), .val (.int p2), .val (.int p3), .val (.int p4), .val (.ref b5), .unset, .unset] [(.int (16 : Int32)), (.int p3), (.int (2 : Int32)), (.ref b5)])) _
    refine XS.iushr X7.here hx rfl (hb hby at_27) rfl ?_
    show Steps p.tables e below (T7.setTop (mkF m 28 #[.val (.int p1), .val (.int p2), .val (.int p3), .val (.int p4), .val (.ref b5), .unset, .unset] [(.int ((p3.toUInt32 >>> ((16 : Int32) &&& 31).toUInt32).toInt32)), (.int (2 : Int32)), (.ref b5)])) _
    refine XS.i2b X7.here hx rfl (hb hby at_28) rfl ?_
    show Steps p.tables e below (T7.setTop (mkF m 29 #[.val (.int p1), .val (.int p2), .val (.int p3), .val (.int p4), .val (.ref b5), .unset, .unset] [(.int (((p3.toUInt32 >>> ((16 : Int32) &&& 31).toUInt32).toInt32).toInt8.toInt32)), (.int (2 : Int32)), (.ref b5)])) _
    refine st8 _ ?_
    show Steps p.tables e below (T8.setTop (mkF m 30 #[.val (.int p1), .val (.int p2), .val (.int p3), .val (.int p4), .val (.ref b5), .unset, .unset] [])) _
    refine XS.aload X8.here hx rfl (hb hby at_30) rfl rfl ?_
    show Steps p.tables e below (T8.setTop (mkF m 32 #[.val (.int p1), .val (.int p2), .val (.int p3), .val (.int p4), .val (.ref b5), .unset, .unset] [(.ref b5)])) _
    refine XS.iconst X8.here hx rfl (hb hby at_32) ?_
    show Steps p.tables e below (T8.setTop (mkF m 33 #[.val (.int p1), .val (.int p2), .val (.int p3), .val (.int p4), .val (.ref b5), .unset, .unset] [(.int (3 : Int32)), (.ref b5)])) _
    refine XS.iloadN X8.here hx rfl (hb hby at_33) rfl ?_
    show Steps p.tables e below (T8.setTop (mkF m 34 #[.val (.int p1), .val (.int p2), .val (.int p3), .val (.int p4), .val (.ref b5), .unset, .unset] [(.int p3), (.int (3 : Int32)), (.ref b5)])) _
    refine XS.bipush X8.here hx rfl (hb hby at_34) ?_
    show Steps p.tables e below (T8.setTop (mkF m 36 #[.val (.int p1), .val (.int p2), .val (.int p3), .val (.int p4), .val (.ref b5), .unset, .unset] [(.int (24 : Int32)), (.int p3), (.int (3 : Int32)), (.ref b5)])) _
    refine XS.iushr X8.here hx rfl (hb hby at_36) rfl ?_
    show Steps p.tables e below (T8.setTop (mkF m 37 #[.val (.int p1), .val (.int p2), .val (.int p3), .val (.int p4), .val (.ref b5), .unset, .unset] [(.int ((p3.toUInt32 >>> ((24 : Int32) &&& 31).toUInt32).toInt32)), (.int (3 : Int32)), (.ref b5)])) _
    refine XS.i2b X8.here hx rfl (hb hby at_37) rfl ?_
    show Steps p.tables e below (T8.setTop (mkF m 38 #[.val (.int p1), .val (.int p2), .val (.int p3), .val (.int p4), .val (.ref b5), .unset, .unset] [(.int (((p3.toUInt32 >>> ((24 : Int32) &&& 31).toUInt32).toInt32).toInt8.toInt32)), (.int (3 : Int32)), (.ref b5)])) _
    refine st9 _ ?_
    show Steps p.tables e below (T9.setTop (mkF m 39 #[.val (.int p1), .val (.int p2), .val (.int p3), .val (.int p4), .val (.ref b5), .unset, .unset] [])) _
    refine XS.aload X9.here hx rfl (hb hby at_39) rfl rfl ?_
    show Steps p.tables e below (T9.setTop (mkF m 41 #[.val (.int p1), .val (.int p2), .val (.int p3), .val (.int p4), .val (.ref b5), .unset, .unset] [(.ref b5)])) _
    refine XS.iconst X9.here hx rfl (hb hby at_41) ?_
    show Steps p.tables e below (T9.setTop (mkF m 42 #[.val (.int p1), .val (.int p2), .val (.int p3), .val (.int p4), .val (.ref b5), .unset, .unset] [(.int (4 : Int32)), (.ref b5)])) _
    refine XS.iloadN X9.here hx rfl (hb hby at_42) rfl ?_
    show Steps p.tables e below (T9.setTop (mkF m 43 #[.val (.int p1), .val (.int p2), .val (.int p3), .val (.int p4), .val (.ref b5), .unset, .unset] [(.int p4), (.int (4 : Int32)), (.ref b5)])) _
    refine XS.i2b X9.here hx rfl (hb hby at_43) rfl ?_
    show Steps p.tables e below (T9.setTop (mkF m 44 #[.val (.int p1), .val (.int p2), .val (.int p3), .val (.int p4), .val (.ref b5), .unset, .unset] [(.int (p4.toInt8.toInt32)), (.int (4 : Int32)), (.ref b5)])) _
    refine st10 _ ?_
    show Steps p.tables e below (T10.setTop (mkF m 45 #[.val (.int p1), .val (.int p2), .val (.int p3), .val (.int p4), .val (.ref b5), .unset, .unset] [])) _
    refine XS.aload X10.here hx rfl (hb hby at_45) rfl rfl ?_
    show Steps p.tables e below (T10.setTop (mkF m 47 #[.val (.int p1), .val (.int p2), .val (.int p3), .val (.int p4), .val (.ref b5), .unset, .unset] [(.ref b5)])) _
    refine XS.iconst X10.here hx rfl (hb hby at_47) ?_
    show Steps p.tables e below (T10.setTop (mkF m 48 #[.val (.int p1), .val (.int p2), .val (.int p3), .val (.int p4), .val (.ref b5), .unset, .unset] [(.int (5 : Int32)), (.ref b5)])) _
    refine XS.iloadN X10.here hx rfl (hb hby at_48) rfl ?_
    show Steps p.tables e below (T10.setTop (mkF m 49 #[.val (.int p1), .val (.int p2), .val (.int p3), .val (.int p4), .val (.ref b5), .unset, .unset] [(.int p4), (.int (5 : Int32)), (.ref b5)])) _
    refine XS.bipush X10.here hx rfl (hb hby at_49) ?_
    show Steps p.tables e below (T10.setTop (mkF m 51 #[.val (.int p1), .val (.int p2), .val (.int p3), .val (.int p4), .val (.ref b5), .unset, .unset] [(.int (8 : Int32)), (.int p4), (.int (5 : Int32)), (.ref b5)])) _
    refine XS.iushr X10.here hx rfl (hb hby at_51) rfl ?_
    show Steps p.tables e below (T10.setTop (mkF m 52 #[.val (.int p1), .val (.int p2), .val (.int p3), .val (.int p4), .val (.ref b5), .unset, .unset] [(.int ((p4.toUInt32 >>> ((8 : Int32) &&& 31).toUInt32).toInt32)), (.int (5 : Int32)), (.ref b5)])) _
    refine XS.i2b X10.here hx rfl (hb hby at_52) rfl ?_
    show Steps p.tables e below (T10.setTop (mkF m 53 #[.val (.int p1), .val (.int p2), .val (.int p3), .val (.int p4), .val (.ref b5), .unset, .unset] [(.int (((p4.toUInt32 >>> ((8 : Int32) &&& 31).toUInt32).toInt32).toInt8.toInt32)), (.int (5 : Int32)), (.ref b5)])) _
    refine st11 _ ?_
    show Steps p.tables e below (T11.setTop (mkF m 54 #[.val (.int p1), .val (.int p2), .val (.int p3), .val (.int p4), .val (.ref b5), .unset, .unset] [])) _
    refine XS.aload X11.here hx rfl (hb hby at_54) rfl rfl ?_
    show Steps p.tables e below (T11.setTop (mkF m 56 #[.val (.int p1), .val (.int p2), .val (.int p3), .val (.int p4), .val (.ref b5), .unset, .unset] [(.ref b5)])) _
    refine XS.bipush X11.here hx rfl (hb hby at_56) ?_
    show Steps p.tables e below (T11.setTop (mkF m 58 #[.val (.int p1), .val (.int p2), .val (.int p3), .val (.int p4), .val (.ref b5), .unset, .unset] [(.int (6 : Int32)), (.ref b5)])) _
    refine XS.iloadN X11.here hx rfl (hb hby at_58) rfl ?_
    show Steps p.tables e below (T11.setTop (mkF m 59 #[.val (.int p1), .val (.int p2), .val (.int p3), .val (.int p4), .val (.ref b5), .unset, .unset] [(.int p4), (.int (6 : Int32)), (.ref b5)])) _
    refine XS.bipush X11.here hx rfl (hb hby at_59) ?_
    show Steps p.tables e below (T11.setTop (mkF m 61 #[.val (.int p1), .val (.int p2), .val (.int p3), .val (.int p4), .val (.ref b5), .unset, .unset] [(.int (16 : Int32)), (.int p4), (.int (6 : Int32)), (.ref b5)])) _
    refine XS.iushr X11.here hx rfl (hb hby at_61) rfl ?_
    show Steps p.tables e below (T11.setTop (mkF m 62 #[.val (.int p1), .val (.int p2), .val (.int p3), .val (.int p4), .val (.ref b5), .unset, .unset] [(.int ((p4.toUInt32 >>> ((16 : Int32) &&& 31).toUInt32).toInt32)), (.int (6 : Int32)), (.ref b5)])) _
    refine XS.i2b X11.here hx rfl (hb hby at_62) rfl ?_
    show Steps p.tables e below (T11.setTop (mkF m 63 #[.val (.int p1), .val (.int p2), .val (.int p3), .val (.int p4), .val (.ref b5), .unset, .unset] [(.int (((p4.toUInt32 >>> ((16 : Int32) &&& 31).toUInt32).toInt32).toInt8.toInt32)), (.int (6 : Int32)), (.ref b5)])) _
    refine st12 _ ?_
    show Steps p.tables e below (T12.setTop (mkF m 64 #[.val (.int p1), .val (.int p2), .val (.int p3), .val (.int p4), .val (.ref b5), .unset, .unset] [])) _
    refine XS.iloadN X12.here hx rfl (hb hby at_64) rfl ?_
    show Steps p.tables e below (T12.setTop (mkF m 65 #[.val (.int p1), .val (.int p2), .val (.int p3), .val (.int p4), .val (.ref b5), .unset, .unset] [(.int p2)])) _
    refine XS.iconst X12.here hx rfl (hb hby at_65) ?_
    show Steps p.tables e below (T12.setTop (mkF m 66 #[.val (.int p1), .val (.int p2), .val (.int p3), .val (.int p4), .val (.ref b5), .unset, .unset] [(.int (3 : Int32)), (.int p2)])) _
    refine XS.iand X12.here hx rfl (hb hby at_66) rfl ?_
    show Steps p.tables e below (T12.setTop (mkF m 67 #[.val (.int p1), .val (.int p2), .val (.int p3), .val (.int p4), .val (.ref b5), .unset, .unset] [(.int (p2 &&& (3 : Int32)))])) _
    refine XS.istore X12.here hx rfl (hb hby at_67) rfl (l' := #[.val (.int p1), .val (.int p2), .val (.int p3), .val (.int p4), .val (.ref b5), .val (.int (p2 &&& (3 : Int32))), .unset]) rfl ?_
    show Steps p.tables e below (T12.setTop (mkF m 69 #[.val (.int p1), .val (.int p2), .val (.int p3), .val (.int p4), .val (.ref b5), .val (.int (p2 &&& (3 : Int32))), .unset] [])) _
    refine XS.aload X12.here hx rfl (hb hby at_69) rfl rfl ?_
    show Steps p.tables e below (T12.setTop (mkF m 71 #[.val (.int p1), .val (.int p2), .val (.int p3), .val (.int p4), .val (.ref b5), .val (.int (p2 &&& (3 : Int32))), .unset] [(.ref b5)])) _
    refine XS.iload X12.here hx rfl (hb hby at_71) rfl ?_
    show Steps p.tables e below (T12.setTop (mkF m 73 #[.val (.int p1), .val (.int p2), .val (.int p3), .val (.int p4), .val (.ref b5), .val (.int (p2 &&& (3 : Int32))), .unset] [(.int (p2 &&& (3 : Int32))), (.ref b5)])) _
    refine XS.iloadN X12.here hx rfl (hb hby at_73) rfl ?_
    show Steps p.tables e below (T12.setTop (mkF m 74 #[.val (.int p1), .val (.int p2), .val (.int p3), .val (.int p4), .val (.ref b5), .val (.int (p2 &&& (3 : Int32))), .unset] [(.int p1), (.int (p2 &&& (3 : Int32))), (.ref b5)])) _
    refine XS.i2b X12.here hx rfl (hb hby at_74) rfl ?_
    show Steps p.tables e below (T12.setTop (mkF m 75 #[.val (.int p1), .val (.int p2), .val (.int p3), .val (.int p4), .val (.ref b5), .val (.int (p2 &&& (3 : Int32))), .unset] [(.int (p1.toInt8.toInt32)), (.int (p2 &&& (3 : Int32))), (.ref b5)])) _
    refine st13 _ ?_
    show Steps p.tables e below (T13.setTop (mkF m 76 #[.val (.int p1), .val (.int p2), .val (.int p3), .val (.int p4), .val (.ref b5), .val (.int (p2 &&& (3 : Int32))), .unset] [])) _
    refine XS.aload X13.here hx rfl (hb hby at_76) rfl rfl ?_
    show Steps p.tables e below (T13.setTop (mkF m 78 #[.val (.int p1), .val (.int p2), .val (.int p3), .val (.int p4), .val (.ref b5), .val (.int (p2 &&& (3 : Int32))), .unset] [(.ref b5)])) _
    refine XS.iload X13.here hx rfl (hb hby at_78) rfl ?_
    show Steps p.tables e below (T13.setTop (mkF m 80 #[.val (.int p1), .val (.int p2), .val (.int p3), .val (.int p4), .val (.ref b5), .val (.int (p2 &&& (3 : Int32))), .unset] [(.int (p2 &&& (3 : Int32))), (.ref b5)])) _
    refine XS.iconst X13.here hx rfl (hb hby at_80) ?_
    show Steps p.tables e below (T13.setTop (mkF m 81 #[.val (.int p1), .val (.int p2), .val (.int p3), .val (.int p4), .val (.ref b5), .val (.int (p2 &&& (3 : Int32))), .unset] [(.int (1 : Int32)), (.int (p2 &&& (3 : Int32))), (.ref b5)])) _
    refine XS.iadd X13.here hx rfl (hb hby at_81) rfl ?_
    show Steps p.tables e below (T13.setTop (mkF m 82 #[.val (.int p1), .val (.int p2), .val (.int p3), .val (.int p4), .val (.ref b5), .val (.int (p2 &&& (3 : Int32))), .unset] [(.int ((p2 &&& (3 : Int32)) + (1 : Int32))), (.ref b5)])) _
    refine XS.iloadN X13.here hx rfl (hb hby at_82) rfl ?_
    show Steps p.tables e below (T13.setTop (mkF m 83 #[.val (.int p1), .val (.int p2), .val (.int p3), .val (.int p4), .val (.ref b5), .val (.int (p2 &&& (3 : Int32))), .unset] [(.int p1), (.int ((p2 &&& (3 : Int32)) + (1 : Int32))), (.ref b5)])) _
    refine XS.bipush X13.here hx rfl (hb hby at_83) ?_
    show Steps p.tables e below (T13.setTop (mkF m 85 #[.val (.int p1), .val (.int p2), .val (.int p3), .val (.int p4), .val (.ref b5), .val (.int (p2 &&& (3 : Int32))), .unset] [(.int (8 : Int32)), (.int p1), (.int ((p2 &&& (3 : Int32)) + (1 : Int32))), (.ref b5)])) _
    refine XS.iushr X13.here hx rfl (hb hby at_85) rfl ?_
    show Steps p.tables e below (T13.setTop (mkF m 86 #[.val (.int p1), .val (.int p2), .val (.int p3), .val (.int p4), .val (.ref b5), .val (.int (p2 &&& (3 : Int32))), .unset] [(.int ((p1.toUInt32 >>> ((8 : Int32) &&& 31).toUInt32).toInt32)), (.int ((p2 &&& (3 : Int32)) + (1 : Int32))), (.ref b5)])) _
    refine XS.i2b X13.here hx rfl (hb hby at_86) rfl ?_
    show Steps p.tables e below (T13.setTop (mkF m 87 #[.val (.int p1), .val (.int p2), .val (.int p3), .val (.int p4), .val (.ref b5), .val (.int (p2 &&& (3 : Int32))), .unset] [(.int (((p1.toUInt32 >>> ((8 : Int32) &&& 31).toUInt32).toInt32).toInt8.toInt32)), (.int ((p2 &&& (3 : Int32)) + (1 : Int32))), (.ref b5)])) _
    refine st14 _ ?_
    show Steps p.tables e below (T14.setTop (mkF m 88 #[.val (.int p1), .val (.int p2), .val (.int p3), .val (.int p4), .val (.ref b5), .val (.int (p2 &&& (3 : Int32))), .unset] [])) _
    refine XS.aload X14.here hx rfl (hb hby at_88) rfl rfl ?_
    show Steps p.tables e below (T14.setTop (mkF m 90 #[.val (.int p1), .val (.int p2), .val (.int p3), .val (.int p4), .val (.ref b5), .val (.int (p2 &&& (3 : Int32))), .unset] [(.ref b5)])) _
    refine XS.iload X14.here hx rfl (hb hby at_90) rfl ?_
    show Steps p.tables e below (T14.setTop (mkF m 92 #[.val (.int p1), .val (.int p2), .val (.int p3), .val (.int p4), .val (.ref b5), .val (.int (p2 &&& (3 : Int32))), .unset] [(.int (p2 &&& (3 : Int32))), (.ref b5)])) _
    refine XS.iconst X14.here hx rfl (hb hby at_92) ?_
    show Steps p.tables e below (T14.setTop (mkF m 93 #[.val (.int p1), .val (.int p2), .val (.int p3), .val (.int p4), .val (.ref b5), .val (.int (p2 &&& (3 : Int32))), .unset] [(.int (2 : Int32)), (.int (p2 &&& (3 : Int32))), (.ref b5)])) _
    refine XS.iadd X14.here hx rfl (hb hby at_93) rfl ?_
    show Steps p.tables e below (T14.setTop (mkF m 94 #[.val (.int p1), .val (.int p2), .val (.int p3), .val (.int p4), .val (.ref b5), .val (.int (p2 &&& (3 : Int32))), .unset] [(.int ((p2 &&& (3 : Int32)) + (2 : Int32))), (.ref b5)])) _
    refine XS.iloadN X14.here hx rfl (hb hby at_94) rfl ?_
    show Steps p.tables e below (T14.setTop (mkF m 95 #[.val (.int p1), .val (.int p2), .val (.int p3), .val (.int p4), .val (.ref b5), .val (.int (p2 &&& (3 : Int32))), .unset] [(.int p1), (.int ((p2 &&& (3 : Int32)) + (2 : Int32))), (.ref b5)])) _
    refine XS.bipush X14.here hx rfl (hb hby at_95) ?_
    show Steps p.tables e below (T14.setTop (mkF m 97 #[.val (.int p1), .val (.int p2), .val (.int p3), .val (.int p4), .val (.ref b5), .val (.int (p2 &&& (3 : Int32))), .unset] [(.int (16 : Int32)), (.int p1), (.int ((p2 &&& (3 : Int32)) + (2 : Int32))), (.ref b5)])) _
    refine XS.iushr X14.here hx rfl (hb hby at_97) rfl ?_
    show Steps p.tables e below (T14.setTop (mkF m 98 #[.val (.int p1), .val (.int p2), .val (.int p3), .val (.int p4), .val (.ref b5), .val (.int (p2 &&& (3 : Int32))), .unset] [(.int ((p1.toUInt32 >>> ((16 : Int32) &&& 31).toUInt32).toInt32)), (.int ((p2 &&& (3 : Int32)) + (2 : Int32))), (.ref b5)])) _
    refine XS.i2b X14.here hx rfl (hb hby at_98) rfl ?_
    show Steps p.tables e below (T14.setTop (mkF m 99 #[.val (.int p1), .val (.int p2), .val (.int p3), .val (.int p4), .val (.ref b5), .val (.int (p2 &&& (3 : Int32))), .unset] [(.int (((p1.toUInt32 >>> ((16 : Int32) &&& 31).toUInt32).toInt32).toInt8.toInt32)), (.int ((p2 &&& (3 : Int32)) + (2 : Int32))), (.ref b5)])) _
    refine st15 _ ?_
    show Steps p.tables e below (T15.setTop (mkF m 100 #[.val (.int p1), .val (.int p2), .val (.int p3), .val (.int p4), .val (.ref b5), .val (.int (p2 &&& (3 : Int32))), .unset] [])) _
    refine XS.aload X15.here hx rfl (hb hby at_100) rfl rfl ?_
    show Steps p.tables e below (T15.setTop (mkF m 102 #[.val (.int p1), .val (.int p2), .val (.int p3), .val (.int p4), .val (.ref b5), .val (.int (p2 &&& (3 : Int32))), .unset] [(.ref b5)])) _
    refine XS.iload X15.here hx rfl (hb hby at_102) rfl ?_
    show Steps p.tables e below (T15.setTop (mkF m 104 #[.val (.int p1), .val (.int p2), .val (.int p3), .val (.int p4), .val (.ref b5), .val (.int (p2 &&& (3 : Int32))), .unset] [(.int (p2 &&& (3 : Int32))), (.ref b5)])) _
    refine XS.iconst X15.here hx rfl (hb hby at_104) ?_
    show Steps p.tables e below (T15.setTop (mkF m 105 #[.val (.int p1), .val (.int p2), .val (.int p3), .val (.int p4), .val (.ref b5), .val (.int (p2 &&& (3 : Int32))), .unset] [(.int (3 : Int32)), (.int (p2 &&& (3 : Int32))), (.ref b5)])) _
    refine XS.iadd X15.here hx rfl (hb hby at_105) rfl ?_
    show Steps p.tables e below (T15.setTop (mkF m 106 #[.val (.int p1), .val (.int p2), .val (.int p3), .val (.int p4), .val (.ref b5), .val (.int (p2 &&& (3 : Int32))), .unset] [(.int ((p2 &&& (3 : Int32)) + (3 : Int32))), (.ref b5)])) _
    refine XS.iloadN X15.here hx rfl (hb hby at_106) rfl ?_
    show Steps p.tables e below (T15.setTop (mkF m 107 #[.val (.int p1), .val (.int p2), .val (.int p3), .val (.int p4), .val (.ref b5), .val (.int (p2 &&& (3 : Int32))), .unset] [(.int p1), (.int ((p2 &&& (3 : Int32)) + (3 : Int32))), (.ref b5)])) _
    refine XS.bipush X15.here hx rfl (hb hby at_107) ?_
    show Steps p.tables e below (T15.setTop (mkF m 109 #[.val (.int p1), .val (.int p2), .val (.int p3), .val (.int p4), .val (.ref b5), .val (.int (p2 &&& (3 : Int32))), .unset] [(.int (24 : Int32)), (.int p1), (.int ((p2 &&& (3 : Int32)) + (3 : Int32))), (.ref b5)])) _
    refine XS.iushr X15.here hx rfl (hb hby at_109) rfl ?_
    show Steps p.tables e below (T15.setTop (mkF m 110 #[.val (.int p1), .val (.int p2), .val (.int p3), .val (.int p4), .val (.ref b5), .val (.int (p2 &&& (3 : Int32))), .unset] [(.int ((p1.toUInt32 >>> ((24 : Int32) &&& 31).toUInt32).toInt32)), (.int ((p2 &&& (3 : Int32)) + (3 : Int32))), (.ref b5)])) _
    refine XS.i2b X15.here hx rfl (hb hby at_110) rfl ?_
    show Steps p.tables e below (T15.setTop (mkF m 111 #[.val (.int p1), .val (.int p2), .val (.int p3), .val (.int p4), .val (.ref b5), .val (.int (p2 &&& (3 : Int32))), .unset] [(.int (((p1.toUInt32 >>> ((24 : Int32) &&& 31).toUInt32).toInt32).toInt8.toInt32)), (.int ((p2 &&& (3 : Int32)) + (3 : Int32))), (.ref b5)])) _
    refine st16 _ ?_
    show Steps p.tables e below (T16.setTop (mkF m 112 #[.val (.int p1), .val (.int p2), .val (.int p3), .val (.int p4), .val (.ref b5), .val (.int (p2 &&& (3 : Int32))), .unset] [])) _
    refine XS.aload X16.here hx rfl (hb hby at_112) rfl rfl ?_
    show Steps p.tables e below (T16.setTop (mkF m 114 #[.val (.int p1), .val (.int p2), .val (.int p3), .val (.int p4), .val (.ref b5), .val (.int (p2 &&& (3 : Int32))), .unset] [(.ref b5)])) _
    refine XS.iload X16.here hx rfl (hb hby at_114) rfl ?_
    show Steps p.tables e below (T16.setTop (mkF m 116 #[.val (.int p1), .val (.int p2), .val (.int p3), .val (.int p4), .val (.ref b5), .val (.int (p2 &&& (3 : Int32))), .unset] [(.int (p2 &&& (3 : Int32))), (.ref b5)])) _
    refine st17 _ ?_
    show Steps p.tables e below (T17.setTop (mkF m 119 #[.val (.int p1), .val (.int p2), .val (.int p3), .val (.int p4), .val (.ref b5), .val (.int (p2 &&& (3 : Int32))), .unset] [(.int (((((p1.toInt8.toInt32.toInt8.toInt32) &&& (255 : Int32)) ||| (((((p1.toUInt32 >>> ((8 : Int32) &&& 31).toUInt32).toInt32).toInt8.toInt32.toInt8.toInt32) &&& (255 : Int32)) <<< ((8 : Int32) &&& 31))) ||| (((((p1.toUInt32 >>> ((16 : Int32) &&& 31).toUInt32).toInt32).toInt8.toInt32.toInt8.toInt32) &&& (255 : Int32)) <<< ((16 : Int32) &&& 31))) ||| ((((p1.toUInt32 >>> ((24 : Int32) &&& 31).toUInt32).toInt32).toInt8.toInt32.toInt8.toInt32) <<< ((24 : Int32) &&& 31))))])) _
    refine XS.istore X17.here hx rfl (hb hby at_119) rfl (l' := #[.val (.int p1), .val (.int p2), .val (.int p3), .val (.int p4), .val (.ref b5), .val (.int (p2 &&& (3 : Int32))), .val (.int (((((p1.toInt8.toInt32.toInt8.toInt32) &&& (255 : Int32)) ||| (((((p1.toUInt32 >>> ((8 : Int32) &&& 31).toUInt32).toInt32).toInt8.toInt32.toInt8.toInt32) &&& (255 : Int32)) <<< ((8 : Int32) &&& 31))) ||| (((((p1.toUInt32 >>> ((16 : Int32) &&& 31).toUInt32).toInt32).toInt8.toInt32.toInt8.toInt32) &&& (255 : Int32)) <<< ((16 : Int32) &&& 31))) ||| ((((p1.toUInt32 >>> ((24 : Int32) &&& 31).toUInt32).toInt32).toInt8.toInt32.toInt8.toInt32) <<< ((24 : Int32) &&& 31))))]) rfl ?_
    show Steps p.tables e below (T17.setTop (mkF m 121 #[.val (.int p1), .val (.int p2), .val (.int p3), .val (.int p4), .val (.ref b5), .val (.int (p2 &&& (3 : Int32))), .val (.int (((((p1.toInt8.toInt32.toInt8.toInt32) &&& (255 : Int32)) ||| (((((p1.toUInt32 >>> ((8 : Int32) &&& 31).toUInt32).toInt32).toInt8.toInt32.toInt8.toInt32) &&& (255 : Int32)) <<< ((8 : Int32) &&& 31))) ||| (((((p1.toUInt32 >>> ((16 : Int32) &&& 31).toUInt32).toInt32).toInt8.toInt32.toInt8.toInt32) &&& (255 : Int32)) <<< ((16 : Int32) &&& 31))) ||| ((((p1.toUInt32 >>> ((24 : Int32) &&& 31).toUInt32).toInt32).toInt8.toInt32.toInt8.toInt32) <<< ((24 : Int32) &&& 31))))] [])) _
    refine XS.iload X17.here hx rfl (hb hby at_121) rfl ?_
    show Steps p.tables e below (T17.setTop (mkF m 123 #[.val (.int p1), .val (.int p2), .val (.int p3), .val (.int p4), .val (.ref b5), .val (.int (p2 &&& (3 : Int32))), .val (.int (((((p1.toInt8.toInt32.toInt8.toInt32) &&& (255 : Int32)) ||| (((((p1.toUInt32 >>> ((8 : Int32) &&& 31).toUInt32).toInt32).toInt8.toInt32.toInt8.toInt32) &&& (255 : Int32)) <<< ((8 : Int32) &&& 31))) ||| (((((p1.toUInt32 >>> ((16 : Int32) &&& 31).toUInt32).toInt32).toInt8.toInt32.toInt8.toInt32) &&& (255 : Int32)) <<< ((16 : Int32) &&& 31))) ||| ((((p1.toUInt32 >>> ((24 : Int32) &&& 31).toUInt32).toInt32).toInt8.toInt32.toInt8.toInt32) <<< ((24 : Int32) &&& 31))))] [(.int (((((p1.toInt8.toInt32.toInt8.toInt32) &&& (255 : Int32)) ||| (((((p1.toUInt32 >>> ((8 : Int32) &&& 31).toUInt32).toInt32).toInt8.toInt32.toInt8.toInt32) &&& (255 : Int32)) <<< ((8 : Int32) &&& 31))) ||| (((((p1.toUInt32 >>> ((16 : Int32) &&& 31).toUInt32).toInt32).toInt8.toInt32.toInt8.toInt32) &&& (255 : Int32)) <<< ((16 : Int32) &&& 31))) ||| ((((p1.toUInt32 >>> ((24 : Int32) &&& 31).toUInt32).toInt32).toInt8.toInt32.toInt8.toInt32) <<< ((24 : Int32) &&& 31))))])) _
    refine XS.iloadN X17.here hx rfl (hb hby at_123) rfl ?_
    show Steps p.tables e below (T17.setTop (mkF m 124 #[.val (.int p1), .val (.int p2), .val (.int p3), .val (.int p4), .val (.ref b5), .val (.int (p2 &&& (3 : Int32))), .val (.int (((((p1.toInt8.toInt32.toInt8.toInt32) &&& (255 : Int32)) ||| (((((p1.toUInt32 >>> ((8 : Int32) &&& 31).toUInt32).toInt32).toInt8.toInt32.toInt8.toInt32) &&& (255 : Int32)) <<< ((8 : Int32) &&& 31))) ||| (((((p1.toUInt32 >>> ((16 : Int32) &&& 31).toUInt32).toInt32).toInt8.toInt32.toInt8.toInt32) &&& (255 : Int32)) <<< ((16 : Int32) &&& 31))) ||| ((((p1.toUInt32 >>> ((24 : Int32) &&& 31).toUInt32).toInt32).toInt8.toInt32.toInt8.toInt32) <<< ((24 : Int32) &&& 31))))] [(.int p1), (.int (((((p1.toInt8.toInt32.toInt8.toInt32) &&& (255 : Int32)) ||| (((((p1.toUInt32 >>> ((8 : Int32) &&& 31).toUInt32).toInt32).toInt8.toInt32.toInt8.toInt32) &&& (255 : Int32)) <<< ((8 : Int32) &&& 31))) ||| (((((p1.toUInt32 >>> ((16 : Int32) &&& 31).toUInt32).toInt32).toInt8.toInt32.toInt8.toInt32) &&& (255 : Int32)) <<< ((16 : Int32) &&& 31))) ||| ((((p1.toUInt32 >>> ((24 : Int32) &&& 31).toUInt32).toInt32).toInt8.toInt32.toInt8.toInt32) <<< ((24 : Int32) &&& 31))))])) _
    refine XS.icmpNo X17.here hx rfl (hb hby at_124) rfl (teq (own_le p1 : (((((p1.toInt8.toInt32.toInt8.toInt32) &&& (255 : Int32)) ||| (((((p1.toUInt32 >>> ((8 : Int32) &&& 31).toUInt32).toInt32).toInt8.toInt32.toInt8.toInt32) &&& (255 : Int32)) <<< ((8 : Int32) &&& 31))) ||| (((((p1.toUInt32 >>> ((16 : Int32) &&& 31).toUInt32).toInt32).toInt8.toInt32.toInt8.toInt32) &&& (255 : Int32)) <<< ((16 : Int32) &&& 31))) ||| ((((p1.toUInt32 >>> ((24 : Int32) &&& 31).toUInt32).toInt32).toInt8.toInt32.toInt8.toInt32) <<< ((24 : Int32) &&& 31))) = p1)).2 ?_
    show Steps p.tables e below (T17.setTop (mkF m 127 #[.val (.int p1), .val (.int p2), .val (.int p3), .val (.int p4), .val (.ref b5), .val (.int (p2 &&& (3 : Int32))), .val (.int (((((p1.toInt8.toInt32.toInt8.toInt32) &&& (255 : Int32)) ||| (((((p1.toUInt32 >>> ((8 : Int32) &&& 31).toUInt32).toInt32).toInt8.toInt32.toInt8.toInt32) &&& (255 : Int32)) <<< ((8 : Int32) &&& 31))) ||| (((((p1.toUInt32 >>> ((16 : Int32) &&& 31).toUInt32).toInt32).toInt8.toInt32.toInt8.toInt32) &&& (255 : Int32)) <<< ((16 : Int32) &&& 31))) ||| ((((p1.toUInt32 >>> ((24 : Int32) &&& 31).toUInt32).toInt32).toInt8.toInt32.toInt8.toInt32) <<< ((24 : Int32) &&& 31))))] [])) _
    refine XS.iconst X17.here hx rfl (hb hby at_127) ?_
    show Steps p.tables e below (T17.setTop (mkF m 128 #[.val (.int p1), .val (.int p2), .val (.int p3), .val (.int p4), .val (.ref b5), .val (.int (p2 &&& (3 : Int32))), .val (.int (((((p1.toInt8.toInt32.toInt8.toInt32) &&& (255 : Int32)) ||| (((((p1.toUInt32 >>> ((8 : Int32) &&& 31).toUInt32).toInt32).toInt8.toInt32.toInt8.toInt32) &&& (255 : Int32)) <<< ((8 : Int32) &&& 31))) ||| (((((p1.toUInt32 >>> ((16 : Int32) &&& 31).toUInt32).toInt32).toInt8.toInt32.toInt8.toInt32) &&& (255 : Int32)) <<< ((16 : Int32) &&& 31))) ||| ((((p1.toUInt32 >>> ((24 : Int32) &&& 31).toUInt32).toInt32).toInt8.toInt32.toInt8.toInt32) <<< ((24 : Int32) &&& 31))))] [(.int (1 : Int32))])) _
    refine XS.goto X17.here hx rfl (pc0 := 128) (pc' := 132) rfl (hb hby at_128) (by decide) (by decide) ?_
    show Steps p.tables e below (T17.setTop (mkF m 132 #[.val (.int p1), .val (.int p2), .val (.int p3), .val (.int p4), .val (.ref b5), .val (.int (p2 &&& (3 : Int32))), .val (.int (((((p1.toInt8.toInt32.toInt8.toInt32) &&& (255 : Int32)) ||| (((((p1.toUInt32 >>> ((8 : Int32) &&& 31).toUInt32).toInt32).toInt8.toInt32.toInt8.toInt32) &&& (255 : Int32)) <<< ((8 : Int32) &&& 31))) ||| (((((p1.toUInt32 >>> ((16 : Int32) &&& 31).toUInt32).toInt32).toInt8.toInt32.toInt8.toInt32) &&& (255 : Int32)) <<< ((16 : Int32) &&& 31))) ||| ((((p1.toUInt32 >>> ((24 : Int32) &&& 31).toUInt32).toInt32).toInt8.toInt32.toInt8.toInt32) <<< ((24 : Int32) &&& 31))))] [(.int (1 : Int32))])) _
    exact retN X17 hx (t := .boolean) Bd.returns (by simp) (hb hby at_132) hr
  · show Q0 Z p1 p2 p3 p4 h0 n0 _ T17.heap _
    exact ⟨rfl, N17⟩
set_option maxRecDepth 65536 in
set_option maxHeartbeats 40000000 in
theorem comes_1 {Post : Tables → Env → Array Value → State → Outcome → State → Prop} (hpost : ∀ tb e args s v u, (limb_1_1.after args s (.returned v) u = true ∧ limb_1_2.after args s (.returned v) u = true ∧ True) → FrameEnd s (.returned v) u (Jvm.fieldLocs frame_1_writes args s ++ Jvm.arrayLocs frame_1_arrays args s ++ Jvm.staticLocs frame_1_statics s) 16 128 → Post tb e args s (.returned v) u) :
    ArmFor flags0 classFile x code maxLocals ret World_1 tables_1 room_1 Calls_1 rest_1 Pre_1 Post := by
  intro l hfl _ _ p e ha hc hk s m args below hf hA hF happ hP
  obtain ⟨hcalls, hrest, hpre⟩ := hP
  obtain ⟨-, -, -, hnamed, -, -, -, hat⟩ := (Spec.applies_iff hf).mp happ
  obtain ⟨hg, hn⟩ := and_e (Cond.before_iff.mp (show (Jvm.Cond.and given_1 narrow_1).before args s = true from hpre))
  obtain ⟨g18, g19⟩ := and_e hg
  obtain ⟨g20, g21⟩ := and_e g19
  obtain ⟨g22, g23⟩ := and_e g21
  obtain ⟨g24, g25⟩ := and_e g23
  obtain ⟨w0, w1, w2, w3, rfl⟩ : ∃ w0 w1 w2 w3 : Value, args = #[w0, w1, w2, w3] := by
    have hs : args.size = 4 := by simpa [Cond.value, given_1] using g18
    obtain ⟨L⟩ := args
    match L, hs with
    | [w0, w1, w2, w3], _ => exact ⟨w0, w1, w2, w3, rfl⟩
  have hw := fun d (hd : d ∈ tables_1) => atoms_spec (ws := Jvm.Cond.code x code maxLocals ret :: tables_1) hat d (List.mem_cons_of_mem _ hd)
  have hfit : Fit s := fun {y c} hc i hi => by
    obtain ⟨ha, rfl⟩ := Array.getElem?_eq_some_iff.mp hc
    have q := List.all_eq_true.mp ((Array.all_eq_true_iff_forall_mem.mp hF) _ (Array.getElem_mem ha)) i (List.mem_range.mpr hi)
    simpa [Array.getElem?_eq_getElem hi] using q
  obtain ⟨i0, ei0⟩ := is_v g20
  obtain rfl : w0 = (.int i0) := Option.some.inj ei0
  obtain ⟨i1, ei1⟩ := is_v g22
  obtain rfl : w1 = (.int i1) := Option.some.inj ei1
  obtain ⟨i2, ei2⟩ := is_v g24
  obtain rfl : w2 = (.int i2) := Option.some.inj ei2
  obtain ⟨i3, ei3⟩ := is_v g25
  obtain rfl : w3 = (.int i3) := Option.some.inj ei3
  obtain ⟨n, o, h1, h2, h3, _, L, rfl, ⟨rfl, N⟩, hq⟩ := rm0 l s _ hw tables_1 i0 i1 i2 i3 s.heap s.heap.size (Nat.le_refl _) p e ha hc hk s m _ below hf ((Spec.applies_iff_loose hf).mp happ).1 ⟨rfl, State.Warmed39.refl s, rfl⟩ trivial
  refine ⟨n, _, h1, h2, h3, hpost _ _ _ _ _ _ ⟨Cond.after_iff.mpr rfl, Cond.after_iff.mpr (eq_i res_at (Term.int_eval (1)) rfl), trivial⟩ ⟨hq.1, hq.2.1, (hq.2.2.sift fun y hy => Or.inr (N y hy)).mono (by decide) (by decide)⟩⟩
theorem main_1_1 : Claimed_1_1 := comes_1 fun _ _ _ _ _ _ h hF => ⟨h.1, hF⟩
theorem main_1_2 : Claimed_1_2 := comes_1 fun _ _ _ _ _ _ h hF => ⟨h.2.1, hF⟩
end Jvm.Pilot.@@N@@
namespace Jvm.Pilot.@@N@@
open Jvm Jvm.ClassFile Sem Op Lib Jvm.Free Jvm.Stand Jvm.Pilot.@@N@@.Jvm.D
/-! MADE BY PROGRAM (witnessworld.py) out of the Statement's table words and the real class files: 9 classes; the members and pool entries that the words name. The judged class is class 1, her method 1. -/
namespace start1
open Jvm.ClassFile
def u (s : String) : CpInfo := .utf8 (stringToUtf16 s)
/-- a pool by its gaps: so many unusable entries, then the entry; so many at the end -/
def gap : Nat → List CpInfo → List CpInfo
  | 0, r => r
  | n + 1, r => .unusable :: gap n r
def poolList (es : List (Nat × CpInfo)) (last : Nat) : List CpInfo := es.foldr (fun e r => gap e.1 (e.2 :: r)) (gap last [])
def pool (es : List (Nat × CpInfo)) (last : Nat) : Array CpInfo := ⟨poolList es last⟩
def fileOf (pool : Array CpInfo) (this : Nat) (attrs : Array Attribute := #[]) (ms : Array MethodInfo := #[]) (fl : Nat := 33) (sup : Nat := 0) (ifs : Array Nat := #[]) (fds : Array FieldInfo := #[]) : ClassFile where
  minorVersion := 0
  majorVersion := 65
  constantPool := pool
  accessFlags := fl
  thisClass := this
  superClass := sup
  interfaces := ifs
  fields := fds
  methods := ms
  attributes := attrs
def plain (name : String) (sup : Option ClassId) : Class where
  name := name
  kind := .ordinary
  loader := none
  accessFlags := 33
  super := sup
  interfaces := #[]
  cf := none
  fields := #[]
  methods := #[]
  instanceTypes := #[]
  staticTypes := #[]
  resolved := #[]
  callSites := []
  init := .initialized
  statics := none
  mirror := none

def pool0 : Array CpInfo := pool [(5, u "<init>"), (0, u "()V"), (1, .class_ 10), (1, u "java/lang/Object")] 113

def k0m0 : Method := { name := "<init>", desc := "()V", sig := { parameters := [], returnType := none }, accessFlags := 1, code := none }
/-- java/lang/Object -/
def k0 : Class := { plain "java/lang/Object" none with
  accessFlags := 33
  interfaces := #[]
  cf := some (fileOf pool0 8 #[] #[{ accessFlags := 1, nameIndex := 5, descriptorIndex := 6, attributes := #[] }] 33 0 #[] #[])
  fields := #[]
  methods := #[k0m0]
  instanceTypes := #[]
  staticTypes := #[]
  resolved := Array.replicate 124 none
  statics := none }

def pool1 : Array CpInfo := pool [(2, .class_ 4), (1, u "java/lang/Object"), (0, u "<init>"), (0, u "()V"), (0, .methodref 8 9), (0, .class_ 10), (0, .nameAndType 11 12), (0, u "com/example/lean_courier/leancourier/compression/LittleEndian"), (0, u "intAt"), (0, u "([BI)I"), (0, .class_ 14), (0, u "com/example/lean_courier/leancourier/compression/LittleEndianIntAtPinLaw"), (2, u "law"), (0, u "(IIII)Z")] 5

def k1m0 : Method := { name := "<init>", desc := "()V", sig := { parameters := [], returnType := none }, accessFlags := 2, code := none }
def k1c1 : Code := { maxStack := 4, maxLocals := 7, code := code, exceptionTable := #[], attributes := #[] }
def k1m1 : Method := { name := "law", desc := "(IIII)Z", sig := { parameters := [.int, .int, .int, .int], returnType := some .boolean }, accessFlags := 9, code := some k1c1 }
/-- com/example/lean_courier/leancourier/compression/LittleEndianIntAtPinLaw -/
def k1 : Class := { plain "com/example/lean_courier/leancourier/compression/LittleEndianIntAtPinLaw" (some 0) with
  accessFlags := 49
  interfaces := #[]
  cf := some (fileOf pool1 13 #[] #[{ accessFlags := 2, nameIndex := 5, descriptorIndex := 6, attributes := #[] }, { accessFlags := 9, nameIndex := 17, descriptorIndex := 18, attributes := #[] }] 49 2 #[] #[])
  fields := #[]
  methods := #[k1m0, k1m1]
  instanceTypes := #[]
  staticTypes := #[]
  resolved := Array.replicate 24 none
  statics := none }

def pool2 : Array CpInfo := pool [(2, .class_ 4), (1, u "java/lang/Object"), (0, u "<init>"), (0, u "()V"), (0, .class_ 8), (0, u "com/example/lean_courier/leancourier/compression/LittleEndian"), (2, u "intAt"), (0, u "([BI)I")] 5

def k2m0 : Method := { name := "<init>", desc := "()V", sig := { parameters := [], returnType := none }, accessFlags := 2, code := none }
def k2c1 : Code := { maxStack := 4, maxLocals := 2, code := prog_52_method_2_code, exceptionTable := #[], attributes := #[] }
def k2m1 : Method := { name := "intAt", desc := "([BI)I", sig := { parameters := [(.array .byte), .int], returnType := some .int }, accessFlags := 8, code := some k2c1 }
/-- com/example/lean_courier/leancourier/compression/LittleEndian -/
def k2 : Class := { plain "com/example/lean_courier/leancourier/compression/LittleEndian" (some 0) with
  accessFlags := 48
  interfaces := #[]
  cf := some (fileOf pool2 7 #[] #[{ accessFlags := 2, nameIndex := 5, descriptorIndex := 6, attributes := #[] }, { accessFlags := 8, nameIndex := 11, descriptorIndex := 12, attributes := #[] }] 48 2 #[] #[])
  fields := #[]
  methods := #[k2m0, k2m1]
  instanceTypes := #[]
  staticTypes := #[]
  resolved := Array.replicate 18 none
  statics := none }

def pool3 : Array CpInfo := pool [(1, u "java/lang/Cloneable"), (0, .class_ 1), (0, u "java/lang/Object"), (0, .class_ 3)] 3

/-- java/lang/Cloneable -/
def k3 : Class := { plain "java/lang/Cloneable" (some 0) with
  accessFlags := 1537
  interfaces := #[]
  cf := some (fileOf pool3 2 #[] #[] 1537 4 #[] #[])
  fields := #[]
  methods := #[]
  instanceTypes := #[]
  staticTypes := #[]
  resolved := Array.replicate 8 none
  statics := none }

def pool4 : Array CpInfo := pool [(1, u "java/io/Serializable"), (0, .class_ 1), (0, u "java/lang/Object"), (0, .class_ 3)] 3

/-- java/io/Serializable -/
def k4 : Class := { plain "java/io/Serializable" (some 0) with
  accessFlags := 1537
  interfaces := #[]
  cf := some (fileOf pool4 2 #[] #[] 1537 4 #[] #[])
  fields := #[]
  methods := #[]
  instanceTypes := #[]
  staticTypes := #[]
  resolved := Array.replicate 8 none
  statics := none }

/-- the primitive byte -/
def k5 : Class := { plain "byte" none with kind := .primitive 'B', accessFlags := 0x411 }
/-- [B -/
def k6 : Class := { plain "[B" (some 0) with kind := .array 5 .byte, interfaces := #[3, 4], accessFlags := 1041 }

/-- the primitive int -/
def k7 : Class := { plain "int" none with kind := .primitive 'I', accessFlags := 0x411 }
/-- [I -/
def k8 : Class := { plain "[I" (some 0) with kind := .array 7 .int, interfaces := #[3, 4], accessFlags := 1041 }

def heap : Heap := #[]
def classes : Array Class := #[k0, k1, k2, k3, k4, k5, k6, k7, k8]
def interned : List (Array UInt16 × Addr) := []
def slotsUsed : Nat := 0
def theMethod : MethodId := ⟨1, 1⟩
def args0 : Array Value := #[.int 5, .int 2, .int 7, .int 9]
def aboutOver (below : List Frame) : State where
  vm := { classes := classes, interned := interned.toArray }
  heap := heap
  slotsUsed := slotsUsed
  threads := #[{ frames := .invoking theMethod args0 :: below }]
def below0 : List Frame := [.native { method := ⟨0, 0⟩, args := #[] }]
def about1 : State := aboutOver below0
def p0 : Program := .bare "" "" ""
def e0 : Env := launch0.env 0 0 0
theorem w_frames : about1.frames = Frame.invoking theMethod args0 :: below0 := rfl
set_option maxRecDepth 65536 in
theorem w_args : argsFit about1.vm theMethod args0 = true := by decide +kernel
set_option maxRecDepth 65536 in
theorem w_heap : heapFits about1 = true := by decide +kernel
set_option maxRecDepth 65536 in
theorem w_runnable : about1.curStatus? = some .runnable := by decide +kernel
set_option maxRecDepth 65536 in
theorem w_alone : about1.alone = true := by decide +kernel
set_option maxRecDepth 65536 in
theorem w_named : about1.methodNamed? x = some theMethod := by decide +kernel
set_option maxRecDepth 65536 in
theorem w_hears : about1.hears theMethod below0 = true := by decide +kernel
set_option maxRecDepth 65536 in
theorem w_ripe : about1.ripe theMethod args0 below0 = true := by decide +kernel
theorem w_running : about1.status = .running := rfl
set_option maxRecDepth 65536 in
theorem w_room : about1.hasRoom e0.platform room_1 = true :=
  launch0.hasRoom_least _ room_1 (by decide +kernel) (by decide +kernel) (by decide +kernel) (by decide +kernel) (by decide +kernel) (by decide +kernel)
theorem allAtoms_all (ts : List Jvm.Cond) (a : Array Jvm.Value) (st : Jvm.State) : (allAtoms ts).before a st = ts.all (fun c => c.before a st) := by
  induction ts with
  | nil => rfl
  | cons c t ih =>
    show (Jvm.Cond.and c (allAtoms t)).before a st = _
    rw [Jvm.Cond.before_and, ih, List.all_cons]
def words1 : List Jvm.Cond := Jvm.Cond.code x code maxLocals ret :: tables_1
/-- a 'code' word, met by the world's own term for the bytes: nothing is compared byte by byte -/
theorem code_word {y : MethodName} {bytes : ByteArray} {mx : Nat} {rt : Option FieldType} {a : Array Value} {s : State} {m : MethodId} {meth : Method} {c : Code} (h1 : s.methodNamed? y = some m) (h2 : s.vm.method? m = some meth) (h3 : meth.code = some c) (h4 : c.code = bytes)
    (h5 : (c.maxLocals == mx && c.exceptionTable.isEmpty && decide (c.maxStack ≤ mostOperands) && decide (meth.sig.returnType = rt) && !meth.locks && decide (parseMethodDescriptor y.desc = some meth.sig)) = true) : (Jvm.Cond.code y bytes mx rt).before a s = true := by
  simp only [Bool.and_eq_true, beq_iff_eq, Bool.not_eq_true', decide_eq_true_eq] at h5
  obtain ⟨⟨⟨⟨⟨g1, g2⟩, g3⟩, g4⟩, g5⟩, g6⟩ := h5
  simp [Cond.before, Cond.holds, Cond.value, h1, h2, h3, h4, g1, g2, g3, g4, g5, g6]
def isCode : Jvm.Cond → Bool
  | .code _ _ _ _ => true
  | _ => false
theorem all_split {L : List Jvm.Cond} {P : Jvm.Cond → Bool} (h1 : L.all (fun c => isCode c || P c) = true) (h2 : ∀ c ∈ L.filter isCode, P c = true) : L.all P = true := by
  refine List.all_eq_true.mpr fun c hc => ?_
  have h := List.all_eq_true.mp h1 c hc
  rcases Bool.eq_false_or_eq_true (isCode c) with hi | hi
  · exact h2 c (List.mem_filter.mpr ⟨hc, hi⟩)
  · simpa [hi] using h
set_option maxRecDepth 65536 in
theorem w_c0 : (Jvm.Cond.code x code maxLocals ret).before args0 about1 = true := code_word (m := ⟨1, 1⟩) (meth := k1m1) (c := k1c1) (by decide +kernel) rfl rfl rfl (by decide +kernel)
set_option maxRecDepth 65536 in
theorem w_c1 : (Jvm.Cond.code ({ cls := "com/example/lean_courier/leancourier/compression/LittleEndian", name := "intAt", desc := "([BI)I" } : Jvm.MethodName) prog_52_method_2_code (2 : Nat) (Option.some Jvm.ClassFile.FieldType.int)).before args0 about1 = true := code_word (m := ⟨2, 1⟩) (meth := k2m1) (c := k2c1) (by decide +kernel) rfl rfl rfl (by decide +kernel)
def codes1 : List Jvm.Cond := [Jvm.Cond.code x code maxLocals ret, Jvm.Cond.code ({ cls := "com/example/lean_courier/leancourier/compression/LittleEndian", name := "intAt", desc := "([BI)I" } : Jvm.MethodName) prog_52_method_2_code (2 : Nat) (Option.some Jvm.ClassFile.FieldType.int)]
set_option maxRecDepth 65536 in
theorem codes_eq : words1.filter isCode = codes1 := rfl
theorem w_codes : ∀ c ∈ words1.filter isCode, c.before args0 about1 = true := by
  rw [codes_eq]
  intro c hc
  simp only [codes1, List.mem_cons, List.not_mem_nil, or_false] at hc
  rcases hc with rfl | rfl
  · exact w_c0
  · exact w_c1
set_option maxRecDepth 65536 in
theorem w_t1 : words1.all (fun c => isCode c || c.before args0 about1) = true := by decide +kernel
theorem w_tables : (allAtoms (Jvm.Cond.code x code maxLocals ret :: tables_1)).before args0 about1 = true := by
  rw [allAtoms_all]
  show words1.all (fun c => c.before args0 about1) = true
  refine all_split ?_ w_codes
  rw [w_t1]
set_option maxRecDepth 65536 in
theorem w_case : (Jvm.Cond.and given_1 narrow_1).before args0 about1 = true := by decide +kernel
theorem w_applies : (headSpec (Jvm.Cond.code x code maxLocals ret :: tables_1) room_1).applies x e0.platform about1 = true :=
  (Spec.applies_iff w_frames).mpr ⟨w_running, w_runnable, w_alone, w_named, w_hears, w_ripe, w_room, w_tables⟩
theorem atStart : AtStart classFile x code maxLocals ret World_1 tables_1 room_1 Calls_1 rest_1 Pre_1 launch0 p0 e0 about1 theMethod args0 below0 :=
  ⟨lists_1, trivial, launch0.admits_env _ _ _, launch0.least_env, fairChoices_fair.cas, fairChoices_fair.clock, w_frames, w_args, w_heap, w_applies, trivial, trivial, w_case⟩
end start1
theorem witness_1 : WitnessClaimed_1 := ⟨start1.p0, start1.e0, start1.about1, start1.theMethod, start1.args0, start1.below0, start1.atStart⟩
end Jvm.Pilot.@@N@@
